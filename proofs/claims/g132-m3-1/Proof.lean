import JvmDerived
import JvmDerived.Pilot.@@N@@Statement
import JvmDerived.Pilot.@@N@@Code
set_option linter.unusedVariables false
set_option linter.unusedSimpArgs false
namespace Jvm.RoadKit
open Sem ClassFile Op Lib Jvm.Stand Jvm.Free Jvm.LawKit
section New
variable {p : Program} {l : Launch} {e : Env} {R : Room} {s : State} {m : MethodId} {args : Array Value} {below : List Frame} {meth : Method} {c : Code} {T : State} {locs : List Loc} {cells slots : Nat}
theorem retI (X : Stand p l e R s m args below meth c T locs cells slots) (hx : p.tables.exec = Jvm.exec) {pc : Nat} {Ls : Array Slot} {z : Int32} {rest : List Value} (hret : meth.sig.returnType = some .int) (hd : decode c.code pc = .ok (.ireturn, 1)) {fs : List Frame}
    (hl : ∀ (f : JFrame) (acts : List Action), f.method = m → f.locked = none → f.entered = [] → (doReturn e (T.setTop f) acts (some (.int z))).1 = T.setFrames fs) : Steps p.tables e below (T.setTop (mkF m pc Ls (.int z :: rest))) (T.setFrames fs) :=
  retOut X hx hret rfl (Or.inl ⟨rfl, Or.inl rfl, _, rfl⟩) hd hl
end New
end Jvm.RoadKit
namespace Jvm.Pilot.@@N@@
open Jvm Jvm.ClassFile Sem Op Lib Jvm.Free Jvm.Stand Jvm.LawKit Jvm.RoadKit Bundle Jvm.Pilot.@@N@@.Jvm.D
theorem own_feq {args : Array Value} {s : State} {t : Term} {C n d : String} {k : Int32} {x : Addr} (ev : t.eval args s none [] s = some (.ref x)) (h : (Jvm.Cond.eq (.field t C n d) (.int k)).value args s none s [] = some true) : Fld s s.heap x C n d (.int k) := by
  apply Fld.start
  have e := fld_at (C := C) (n := n) (dd := d) ev
  simp only [Cond.value, e] at h
  cases hq : s.fieldOf? x C n d with
  | none => simp [hq] at h
  | some v => cases v <;> simp [hq, Term.eval] at h ⊢; exact h
theorem own_seq {args : Array Value} {s : State} {t : Term} {k : Int32} (h : (Jvm.Cond.eq t (.int k)).value args s none s [] = some true) : t.eval args s none [] s = some (.int k) := by
  simp only [Cond.value] at h
  cases hq : t.eval args s none [] s with
  | none => simp [hq] at h
  | some v => cases v <;> simp [hq, Term.eval] at h ⊢; exact h
theorem pn_0 : plainName "com/example/consort/consort/protocol/ApiKey" = true := by first | (simp [plainName, overriddenIn]; done) | decide +kernel
theorem d1_0 : decode prog_17_method_8_code 0 = .ok (.iload_n 1, 1) := by decide +kernel
theorem d1_1 : decode prog_17_method_8_code 1 = .ok (.aload_n 0, 1) := by decide +kernel
theorem d1_2 : decode prog_17_method_8_code 2 = .ok (.getfield 105, 3) := by decide +kernel
theorem d1_5 : decode prog_17_method_8_code 5 = .ok (.if_icmp .lt 15, 3) := by decide +kernel
theorem d1_20 : decode prog_17_method_8_code 20 = .ok (.iconst 0, 1) := by decide +kernel
theorem d1_21 : decode prog_17_method_8_code 21 = .ok (.ireturn, 1) := by decide +kernel
theorem d1_8 : decode prog_17_method_8_code 8 = .ok (.iload_n 1, 1) := by decide +kernel
theorem d1_9 : decode prog_17_method_8_code 9 = .ok (.aload_n 0, 1) := by decide +kernel
theorem d1_10 : decode prog_17_method_8_code 10 = .ok (.getfield 108, 3) := by decide +kernel
theorem d1_13 : decode prog_17_method_8_code 13 = .ok (.if_icmp .gt 7, 3) := by decide +kernel
theorem d1_16 : decode prog_17_method_8_code 16 = .ok (.iconst 1, 1) := by decide +kernel
theorem d1_17 : decode prog_17_method_8_code 17 = .ok (.goto 4, 3) := by decide +kernel
theorem ef_su (m : MethodId) (x0 : Addr) (x1 : Int32) : entryFrame m #[(.ref x0), (.int x1)] 2 = mkF m 0 #[.val (.ref x0), .val (.int x1)] [] := by first | (simp [entryFrame, mkF, argsToLocals, Value.category]; done) | rfl
def fsu (p2 : Int32) (lo : Int32) (hi : Int32) : Int32 := if p2 < lo then (0 : Int32) else (if hi < p2 then (0 : Int32) else (1 : Int32))
def Qsu (Z : State) (a1 : Addr) (p2 : Int32) (lo : Int32) (hi : Int32) (h0 : Heap) (n0 : Nat) (v : Option Value) (h : Heap) (L : List Loc) : Prop := v = some (.int (fsu p2 lo hi)) ∧ Fr n0 L ∧ h = h0
set_option maxRecDepth 65536 in
set_option maxHeartbeats 40000000 in
theorem rmsu (l : Launch) (Z : State) (a0 : Array Value) (hw : ∀ d ∈ tables_1, d.before a0 Z = true) (ws : List Jvm.Cond) (a1 : Addr) (p2 : Int32) (lo : Int32) (hi : Int32) (h0 : Heap) (n0 : Nat) (Z0 : n0 ≤ h0.size) (F_lowestVersion_a1 : Fld Z h0 a1 "com/example/consort/consort/protocol/ApiKey" "lowestVersion" "S" (.int lo)) (F_highestVersion_a1 : Fld Z h0 a1 "com/example/consort/consort/protocol/ApiKey" "highestVersion" "S" (.int hi)) :
    MetFree l (⟨"com/example/consort/consort/protocol/ApiKey", "supports", "(S)Z"⟩ : MethodName) (head1 (Jvm.Cond.code (⟨"com/example/consort/consort/protocol/ApiKey", "supports", "(S)Z"⟩ : MethodName) prog_17_method_8_code 2 (some .boolean) :: ws) ({ frames := 0, cells := 0, slots := 0, locals := 0 } : Room)) (fun a U => a = #[(.ref a1), (.int p2)] ∧ Z.Warmed39 U.vm ∧ U.heap = h0) (fun _ _ _ _ _ => True) (fun _ U o U' => ∃ v L, o = .returned v ∧ Qsu Z a1 p2 lo hi h0 n0 v U'.heap L ∧ FrameEnd U o U' L ({ frames := 0, cells := 0, slots := 0, locals := 0 } : Room).cells ({ frames := 0, cells := 0, slots := 0, locals := 0 } : Room).slots) := by
  refine MetFree.of_bodySF (plainFor_of_name pn_0) hisR ?_
  intro p e s m args below meth c s₁ Bd hml0 hP hK
  obtain ⟨rfl, hZ, hh⟩ := hP
  have hx := Bd.exec
  have hby := Bd.bytes
  have hml : c.maxLocals = 2 := hml0
  have hown : s.vm.findClass "com/example/consort/consort/protocol/ApiKey" = some m.cls := findClass_of_methodNamed Bd.named
  have hnm := (name_of_methodNamed Bd.named Bd.method).1
  have X0 : Stand p l e ({ frames := 0, cells := 0, slots := 0, locals := 0 } : Room) s m #[(.ref a1), (.int p2)] below meth c s₁ [] 0 0 := Stand.of_body Bd
  have e0 : s₁.heap = h0 := by rw [← hh, Bd.state]; rfl
  have N0 := Fr.nil n0
  have pre0 : ∀ t, Steps p.tables e below (s₁.setTop (mkF m 0 #[.val (.ref a1), .val (.int p2)] [])) t → Steps p.tables e below (s₁.setTop (entryFrame m #[(.ref a1), (.int p2)] 2)) t := fun t k => castTop (ef_su m a1 p2) k
  obtain ⟨T1, X1, e1, st1⟩ := getF X0 hx hZ hown (host := "") (Or.inl (hw _ (List.mem_of_getElem? (i := 63) rfl))) Via.refl e0 F_lowestVersion_a1 (g := (mkF m 2 #[.val (.ref a1), .val (.int p2)] [(.ref a1), (.int p2)])) rfl rfl (hb hby d1_2)
  have pre2 : ∀ t, Steps p.tables e below (T1.setTop (mkF m 5 #[.val (.ref a1), .val (.int p2)] [(.int lo), (.int p2)])) t → Steps p.tables e below (s₁.setTop (entryFrame m #[(.ref a1), (.int p2)] 2)) t := fun t k => pre0 t (by
    show Steps p.tables e below (s₁.setTop (mkF m 0 #[.val (.ref a1), .val (.int p2)] [])) _
    refine XS.iloadN X0.here hx rfl (hb hby d1_0) rfl ?_
    show Steps p.tables e below (s₁.setTop (mkF m 1 #[.val (.ref a1), .val (.int p2)] [(.int p2)])) _
    refine XS.aloadN X0.here hx rfl (hb hby d1_1) rfl rfl ?_
    show Steps p.tables e below (s₁.setTop (mkF m 2 #[.val (.ref a1), .val (.int p2)] [(.ref a1), (.int p2)])) _
    refine st1 _ ?_
    exact k)
  by_cases hc3 : p2 < lo
  ·  -- pc 5: p2 < lo
    obtain ⟨fs, hr, hrun, hended, hW, hsame⟩ := X1.leave (v := some (.int (0 : Int32))) (fun h => by rw [Bd.returns] at h; cases h) Bd.notSynchronized
    refine ⟨_, _, pre2 _ ?_, hrun, hended, _, _, rfl, ?_, ⟨_, rfl⟩, hW, hsame.mono (by decide) (by decide)⟩
    · show Steps p.tables e below (T1.setTop (mkF m 5 #[.val (.ref a1), .val (.int p2)] [(.int lo), (.int p2)])) _
      refine XS.icmpYes X1.here hx rfl (pc0 := 5) (pc' := 20) rfl (hb hby d1_5) rfl (tlt hc3).1 (by decide) (by decide) ?_
      show Steps p.tables e below (T1.setTop (mkF m 20 #[.val (.ref a1), .val (.int p2)] [])) _
      refine XS.iconst X1.here hx rfl (hb hby d1_20) ?_
      show Steps p.tables e below (T1.setTop (mkF m 21 #[.val (.ref a1), .val (.int p2)] [(.int (0 : Int32))])) _
      exact retN X1 hx (t := .boolean) Bd.returns (by simp) (hb hby d1_21) hr
    · show Qsu Z a1 p2 lo hi h0 n0 _ T1.heap _
      rw [e1]
      exact ⟨(by unfold fsu; rw [if_pos hc3]), N0, rfl⟩
  ·  -- pc 5: not p2 < lo
    obtain ⟨T4, X4, e4, st4⟩ := getF X1 hx hZ hown (host := "") (Or.inl (hw _ (List.mem_of_getElem? (i := 65) rfl))) Via.refl e1 F_highestVersion_a1 (g := (mkF m 10 #[.val (.ref a1), .val (.int p2)] [(.ref a1), (.int p2)])) rfl rfl (hb hby d1_10)
    have pre5 : ∀ t, Steps p.tables e below (T4.setTop (mkF m 13 #[.val (.ref a1), .val (.int p2)] [(.int hi), (.int p2)])) t → Steps p.tables e below (s₁.setTop (entryFrame m #[(.ref a1), (.int p2)] 2)) t := fun t k => pre2 t (by
      show Steps p.tables e below (T1.setTop (mkF m 5 #[.val (.ref a1), .val (.int p2)] [(.int lo), (.int p2)])) _
      refine XS.icmpNo X1.here hx rfl (hb hby d1_5) rfl (flt hc3).1 ?_
      show Steps p.tables e below (T1.setTop (mkF m 8 #[.val (.ref a1), .val (.int p2)] [])) _
      refine XS.iloadN X1.here hx rfl (hb hby d1_8) rfl ?_
      show Steps p.tables e below (T1.setTop (mkF m 9 #[.val (.ref a1), .val (.int p2)] [(.int p2)])) _
      refine XS.aloadN X1.here hx rfl (hb hby d1_9) rfl rfl ?_
      show Steps p.tables e below (T1.setTop (mkF m 10 #[.val (.ref a1), .val (.int p2)] [(.ref a1), (.int p2)])) _
      refine st4 _ ?_
      exact k)
    by_cases hc6 : hi < p2
    ·  -- pc 13: hi < p2
      obtain ⟨fs, hr, hrun, hended, hW, hsame⟩ := X4.leave (v := some (.int (0 : Int32))) (fun h => by rw [Bd.returns] at h; cases h) Bd.notSynchronized
      refine ⟨_, _, pre5 _ ?_, hrun, hended, _, _, rfl, ?_, ⟨_, rfl⟩, hW, hsame.mono (by decide) (by decide)⟩
      · show Steps p.tables e below (T4.setTop (mkF m 13 #[.val (.ref a1), .val (.int p2)] [(.int hi), (.int p2)])) _
        refine XS.icmpYes X4.here hx rfl (pc0 := 13) (pc' := 20) rfl (hb hby d1_13) rfl (tlt hc6).2.2.1 (by decide) (by decide) ?_
        show Steps p.tables e below (T4.setTop (mkF m 20 #[.val (.ref a1), .val (.int p2)] [])) _
        refine XS.iconst X4.here hx rfl (hb hby d1_20) ?_
        show Steps p.tables e below (T4.setTop (mkF m 21 #[.val (.ref a1), .val (.int p2)] [(.int (0 : Int32))])) _
        exact retN X4 hx (t := .boolean) Bd.returns (by simp) (hb hby d1_21) hr
      · show Qsu Z a1 p2 lo hi h0 n0 _ T4.heap _
        rw [e4]
        exact ⟨(by unfold fsu; rw [if_neg hc3, if_pos hc6]), N0, rfl⟩
    ·  -- pc 13: not hi < p2
      obtain ⟨fs, hr, hrun, hended, hW, hsame⟩ := X4.leave (v := some (.int (1 : Int32))) (fun h => by rw [Bd.returns] at h; cases h) Bd.notSynchronized
      refine ⟨_, _, pre5 _ ?_, hrun, hended, _, _, rfl, ?_, ⟨_, rfl⟩, hW, hsame.mono (by decide) (by decide)⟩
      · show Steps p.tables e below (T4.setTop (mkF m 13 #[.val (.ref a1), .val (.int p2)] [(.int hi), (.int p2)])) _
        refine XS.icmpNo X4.here hx rfl (hb hby d1_13) rfl (flt hc6).2.2.1 ?_
        show Steps p.tables e below (T4.setTop (mkF m 16 #[.val (.ref a1), .val (.int p2)] [])) _
        refine XS.iconst X4.here hx rfl (hb hby d1_16) ?_
        show Steps p.tables e below (T4.setTop (mkF m 17 #[.val (.ref a1), .val (.int p2)] [(.int (1 : Int32))])) _
        refine XS.goto X4.here hx rfl (pc0 := 17) (pc' := 21) rfl (hb hby d1_17) (by decide) (by decide) ?_
        show Steps p.tables e below (T4.setTop (mkF m 21 #[.val (.ref a1), .val (.int p2)] [(.int (1 : Int32))])) _
        exact retN X4 hx (t := .boolean) Bd.returns (by simp) (hb hby d1_21) hr
      · show Qsu Z a1 p2 lo hi h0 n0 _ T4.heap _
        rw [e4]
        exact ⟨(by unfold fsu; rw [if_neg hc3, if_neg hc6]), N0, rfl⟩
theorem own_su (lo hi : Int32) (h0 : 0 ≤ lo.toInt) (h1 : lo.toInt ≤ hi.toInt) (h2 : hi.toInt ≤ 100) : fsu (lo.toInt16.toInt32) lo hi = 1 ∧ fsu (hi.toInt16.toInt32) lo hi = 1 ∧ fsu ((lo - (1 : Int32)).toInt16.toInt32) lo hi = 0 ∧ fsu ((hi + (1 : Int32)).toInt16.toInt32) lo hi = 0 := by
  have a1 := c_i2s lo
  have a2 := c_i2s hi
  have a3 := c_i2s (lo - (1 : Int32))
  have a4 := c_i2s (hi + (1 : Int32))
  have b3 := c_isub lo 1
  have b4 := c_iadd hi 1
  have r3 := rng32 (lo - 1)
  have r4 := rng32 (hi + 1)
  have e1 : (1 : Int32).toInt = 1 := by decide
  unfold fsu
  simp only [Int32.lt_iff_toInt_lt]
  refine ⟨?_, ?_, ?_, ?_⟩
  all_goals (repeat' split)
  all_goals first | rfl | (exfalso; omega)
theorem own_n (k : Int32) : ((k &&& (2147483647 : Int32)) % (26 : Int32)).toNatClampNeg < 26 ∧ ¬ ((k &&& (2147483647 : Int32)) % (26 : Int32) < 0) ∧ (k &&& (2147483647 : Int32)) % (26 : Int32) < (26 : Int32) := by
  have e1 := c_mask k (2147483647 : Int32) 31 (by decide) (by decide)
  generalize (k &&& (2147483647 : Int32)) = m at *
  have e2 := (c_irem m (26 : Int32) 26 (by decide)).1 (by omega)
  have e3 : (m % (26 : Int32)).toInt.toNat = (m % (26 : Int32)).toNatClampNeg := rfl
  simp only [Int32.lt_iff_toInt_lt]
  rw [← e3, e2, show (26 : Int32).toInt = 26 from by decide, show (0 : Int32).toInt = 0 from by decide]
  omega
set_option maxRecDepth 65536 in
set_option maxHeartbeats 40000000 in
theorem own_pick (Z : State) (w_PRODUCE w_FETCH w_LIST_OFFSETS w_METADATA w_OFFSET_COMMIT w_OFFSET_FETCH w_FIND_COORDINATOR w_JOIN_GROUP w_HEARTBEAT w_LEAVE_GROUP w_SYNC_GROUP w_DESCRIBE_GROUPS w_LIST_GROUPS w_API_VERSIONS w_CREATE_TOPICS w_DELETE_TOPICS w_INIT_PRODUCER_ID w_ADD_PARTITIONS_TO_TXN w_ADD_OFFSETS_TO_TXN w_END_TXN w_TXN_OFFSET_COMMIT w_DESCRIBE_CONFIGS w_ALTER_CONFIGS w_CREATE_PARTITIONS w_DELETE_GROUPS w_INCREMENTAL_ALTER_CONFIGS : Addr) (e0 : Exa Z Z.heap w_PRODUCE "com/example/consort/consort/protocol/ApiKey") (l0 : Fld Z Z.heap w_PRODUCE "com/example/consort/consort/protocol/ApiKey" "lowestVersion" "S" (.int (0 : Int32))) (h0 : Fld Z Z.heap w_PRODUCE "com/example/consort/consort/protocol/ApiKey" "highestVersion" "S" (.int (7 : Int32))) (e1 : Exa Z Z.heap w_FETCH "com/example/consort/consort/protocol/ApiKey") (l1 : Fld Z Z.heap w_FETCH "com/example/consort/consort/protocol/ApiKey" "lowestVersion" "S" (.int (4 : Int32))) (h1 : Fld Z Z.heap w_FETCH "com/example/consort/consort/protocol/ApiKey" "highestVersion" "S" (.int (11 : Int32))) (e2 : Exa Z Z.heap w_LIST_OFFSETS "com/example/consort/consort/protocol/ApiKey") (l2 : Fld Z Z.heap w_LIST_OFFSETS "com/example/consort/consort/protocol/ApiKey" "lowestVersion" "S" (.int (1 : Int32))) (h2 : Fld Z Z.heap w_LIST_OFFSETS "com/example/consort/consort/protocol/ApiKey" "highestVersion" "S" (.int (2 : Int32))) (e3 : Exa Z Z.heap w_METADATA "com/example/consort/consort/protocol/ApiKey") (l3 : Fld Z Z.heap w_METADATA "com/example/consort/consort/protocol/ApiKey" "lowestVersion" "S" (.int (0 : Int32))) (h3 : Fld Z Z.heap w_METADATA "com/example/consort/consort/protocol/ApiKey" "highestVersion" "S" (.int (4 : Int32))) (e4 : Exa Z Z.heap w_OFFSET_COMMIT "com/example/consort/consort/protocol/ApiKey") (l4 : Fld Z Z.heap w_OFFSET_COMMIT "com/example/consort/consort/protocol/ApiKey" "lowestVersion" "S" (.int (2 : Int32))) (h4 : Fld Z Z.heap w_OFFSET_COMMIT "com/example/consort/consort/protocol/ApiKey" "highestVersion" "S" (.int (7 : Int32))) (e5 : Exa Z Z.heap w_OFFSET_FETCH "com/example/consort/consort/protocol/ApiKey") (l5 : Fld Z Z.heap w_OFFSET_FETCH "com/example/consort/consort/protocol/ApiKey" "lowestVersion" "S" (.int (1 : Int32))) (h5 : Fld Z Z.heap w_OFFSET_FETCH "com/example/consort/consort/protocol/ApiKey" "highestVersion" "S" (.int (7 : Int32))) (e6 : Exa Z Z.heap w_FIND_COORDINATOR "com/example/consort/consort/protocol/ApiKey") (l6 : Fld Z Z.heap w_FIND_COORDINATOR "com/example/consort/consort/protocol/ApiKey" "lowestVersion" "S" (.int (0 : Int32))) (h6 : Fld Z Z.heap w_FIND_COORDINATOR "com/example/consort/consort/protocol/ApiKey" "highestVersion" "S" (.int (2 : Int32))) (e7 : Exa Z Z.heap w_JOIN_GROUP "com/example/consort/consort/protocol/ApiKey") (l7 : Fld Z Z.heap w_JOIN_GROUP "com/example/consort/consort/protocol/ApiKey" "lowestVersion" "S" (.int (0 : Int32))) (h7 : Fld Z Z.heap w_JOIN_GROUP "com/example/consort/consort/protocol/ApiKey" "highestVersion" "S" (.int (5 : Int32))) (e8 : Exa Z Z.heap w_HEARTBEAT "com/example/consort/consort/protocol/ApiKey") (l8 : Fld Z Z.heap w_HEARTBEAT "com/example/consort/consort/protocol/ApiKey" "lowestVersion" "S" (.int (0 : Int32))) (h8 : Fld Z Z.heap w_HEARTBEAT "com/example/consort/consort/protocol/ApiKey" "highestVersion" "S" (.int (3 : Int32))) (e9 : Exa Z Z.heap w_LEAVE_GROUP "com/example/consort/consort/protocol/ApiKey") (l9 : Fld Z Z.heap w_LEAVE_GROUP "com/example/consort/consort/protocol/ApiKey" "lowestVersion" "S" (.int (0 : Int32))) (h9 : Fld Z Z.heap w_LEAVE_GROUP "com/example/consort/consort/protocol/ApiKey" "highestVersion" "S" (.int (3 : Int32))) (e10 : Exa Z Z.heap w_SYNC_GROUP "com/example/consort/consort/protocol/ApiKey") (l10 : Fld Z Z.heap w_SYNC_GROUP "com/example/consort/consort/protocol/ApiKey" "lowestVersion" "S" (.int (0 : Int32))) (h10 : Fld Z Z.heap w_SYNC_GROUP "com/example/consort/consort/protocol/ApiKey" "highestVersion" "S" (.int (3 : Int32))) (e11 : Exa Z Z.heap w_DESCRIBE_GROUPS "com/example/consort/consort/protocol/ApiKey") (l11 : Fld Z Z.heap w_DESCRIBE_GROUPS "com/example/consort/consort/protocol/ApiKey" "lowestVersion" "S" (.int (0 : Int32))) (h11 : Fld Z Z.heap w_DESCRIBE_GROUPS "com/example/consort/consort/protocol/ApiKey" "highestVersion" "S" (.int (3 : Int32))) (e12 : Exa Z Z.heap w_LIST_GROUPS "com/example/consort/consort/protocol/ApiKey") (l12 : Fld Z Z.heap w_LIST_GROUPS "com/example/consort/consort/protocol/ApiKey" "lowestVersion" "S" (.int (0 : Int32))) (h12 : Fld Z Z.heap w_LIST_GROUPS "com/example/consort/consort/protocol/ApiKey" "highestVersion" "S" (.int (2 : Int32))) (e13 : Exa Z Z.heap w_API_VERSIONS "com/example/consort/consort/protocol/ApiKey") (l13 : Fld Z Z.heap w_API_VERSIONS "com/example/consort/consort/protocol/ApiKey" "lowestVersion" "S" (.int (0 : Int32))) (h13 : Fld Z Z.heap w_API_VERSIONS "com/example/consort/consort/protocol/ApiKey" "highestVersion" "S" (.int (3 : Int32))) (e14 : Exa Z Z.heap w_CREATE_TOPICS "com/example/consort/consort/protocol/ApiKey") (l14 : Fld Z Z.heap w_CREATE_TOPICS "com/example/consort/consort/protocol/ApiKey" "lowestVersion" "S" (.int (0 : Int32))) (h14 : Fld Z Z.heap w_CREATE_TOPICS "com/example/consort/consort/protocol/ApiKey" "highestVersion" "S" (.int (5 : Int32))) (e15 : Exa Z Z.heap w_DELETE_TOPICS "com/example/consort/consort/protocol/ApiKey") (l15 : Fld Z Z.heap w_DELETE_TOPICS "com/example/consort/consort/protocol/ApiKey" "lowestVersion" "S" (.int (0 : Int32))) (h15 : Fld Z Z.heap w_DELETE_TOPICS "com/example/consort/consort/protocol/ApiKey" "highestVersion" "S" (.int (3 : Int32))) (e16 : Exa Z Z.heap w_INIT_PRODUCER_ID "com/example/consort/consort/protocol/ApiKey") (l16 : Fld Z Z.heap w_INIT_PRODUCER_ID "com/example/consort/consort/protocol/ApiKey" "lowestVersion" "S" (.int (0 : Int32))) (h16 : Fld Z Z.heap w_INIT_PRODUCER_ID "com/example/consort/consort/protocol/ApiKey" "highestVersion" "S" (.int (4 : Int32))) (e17 : Exa Z Z.heap w_ADD_PARTITIONS_TO_TXN "com/example/consort/consort/protocol/ApiKey") (l17 : Fld Z Z.heap w_ADD_PARTITIONS_TO_TXN "com/example/consort/consort/protocol/ApiKey" "lowestVersion" "S" (.int (0 : Int32))) (h17 : Fld Z Z.heap w_ADD_PARTITIONS_TO_TXN "com/example/consort/consort/protocol/ApiKey" "highestVersion" "S" (.int (1 : Int32))) (e18 : Exa Z Z.heap w_ADD_OFFSETS_TO_TXN "com/example/consort/consort/protocol/ApiKey") (l18 : Fld Z Z.heap w_ADD_OFFSETS_TO_TXN "com/example/consort/consort/protocol/ApiKey" "lowestVersion" "S" (.int (0 : Int32))) (h18 : Fld Z Z.heap w_ADD_OFFSETS_TO_TXN "com/example/consort/consort/protocol/ApiKey" "highestVersion" "S" (.int (1 : Int32))) (e19 : Exa Z Z.heap w_END_TXN "com/example/consort/consort/protocol/ApiKey") (l19 : Fld Z Z.heap w_END_TXN "com/example/consort/consort/protocol/ApiKey" "lowestVersion" "S" (.int (0 : Int32))) (h19 : Fld Z Z.heap w_END_TXN "com/example/consort/consort/protocol/ApiKey" "highestVersion" "S" (.int (1 : Int32))) (e20 : Exa Z Z.heap w_TXN_OFFSET_COMMIT "com/example/consort/consort/protocol/ApiKey") (l20 : Fld Z Z.heap w_TXN_OFFSET_COMMIT "com/example/consort/consort/protocol/ApiKey" "lowestVersion" "S" (.int (0 : Int32))) (h20 : Fld Z Z.heap w_TXN_OFFSET_COMMIT "com/example/consort/consort/protocol/ApiKey" "highestVersion" "S" (.int (3 : Int32))) (e21 : Exa Z Z.heap w_DESCRIBE_CONFIGS "com/example/consort/consort/protocol/ApiKey") (l21 : Fld Z Z.heap w_DESCRIBE_CONFIGS "com/example/consort/consort/protocol/ApiKey" "lowestVersion" "S" (.int (0 : Int32))) (h21 : Fld Z Z.heap w_DESCRIBE_CONFIGS "com/example/consort/consort/protocol/ApiKey" "highestVersion" "S" (.int (4 : Int32))) (e22 : Exa Z Z.heap w_ALTER_CONFIGS "com/example/consort/consort/protocol/ApiKey") (l22 : Fld Z Z.heap w_ALTER_CONFIGS "com/example/consort/consort/protocol/ApiKey" "lowestVersion" "S" (.int (0 : Int32))) (h22 : Fld Z Z.heap w_ALTER_CONFIGS "com/example/consort/consort/protocol/ApiKey" "highestVersion" "S" (.int (2 : Int32))) (e23 : Exa Z Z.heap w_CREATE_PARTITIONS "com/example/consort/consort/protocol/ApiKey") (l23 : Fld Z Z.heap w_CREATE_PARTITIONS "com/example/consort/consort/protocol/ApiKey" "lowestVersion" "S" (.int (0 : Int32))) (h23 : Fld Z Z.heap w_CREATE_PARTITIONS "com/example/consort/consort/protocol/ApiKey" "highestVersion" "S" (.int (1 : Int32))) (e24 : Exa Z Z.heap w_DELETE_GROUPS "com/example/consort/consort/protocol/ApiKey") (l24 : Fld Z Z.heap w_DELETE_GROUPS "com/example/consort/consort/protocol/ApiKey" "lowestVersion" "S" (.int (0 : Int32))) (h24 : Fld Z Z.heap w_DELETE_GROUPS "com/example/consort/consort/protocol/ApiKey" "highestVersion" "S" (.int (1 : Int32))) (e25 : Exa Z Z.heap w_INCREMENTAL_ALTER_CONFIGS "com/example/consort/consort/protocol/ApiKey") (l25 : Fld Z Z.heap w_INCREMENTAL_ALTER_CONFIGS "com/example/consort/consort/protocol/ApiKey" "lowestVersion" "S" (.int (0 : Int32))) (h25 : Fld Z Z.heap w_INCREMENTAL_ALTER_CONFIGS "com/example/consort/consort/protocol/ApiKey" "highestVersion" "S" (.int (1 : Int32))) (n : Nat) (hn : n < 26) : ∃ (kw : Addr) (lo hi : Int32), ([(.ref w_PRODUCE), (.ref w_FETCH), (.ref w_LIST_OFFSETS), (.ref w_METADATA), (.ref w_OFFSET_COMMIT), (.ref w_OFFSET_FETCH), (.ref w_FIND_COORDINATOR), (.ref w_JOIN_GROUP), (.ref w_HEARTBEAT), (.ref w_LEAVE_GROUP), (.ref w_SYNC_GROUP), (.ref w_DESCRIBE_GROUPS), (.ref w_LIST_GROUPS), (.ref w_API_VERSIONS), (.ref w_CREATE_TOPICS), (.ref w_DELETE_TOPICS), (.ref w_INIT_PRODUCER_ID), (.ref w_ADD_PARTITIONS_TO_TXN), (.ref w_ADD_OFFSETS_TO_TXN), (.ref w_END_TXN), (.ref w_TXN_OFFSET_COMMIT), (.ref w_DESCRIBE_CONFIGS), (.ref w_ALTER_CONFIGS), (.ref w_CREATE_PARTITIONS), (.ref w_DELETE_GROUPS), (.ref w_INCREMENTAL_ALTER_CONFIGS)] : List Value).getD n .null = .ref kw ∧ ([(.int (0 : Int32)), (.int (4 : Int32)), (.int (1 : Int32)), (.int (0 : Int32)), (.int (2 : Int32)), (.int (1 : Int32)), (.int (0 : Int32)), (.int (0 : Int32)), (.int (0 : Int32)), (.int (0 : Int32)), (.int (0 : Int32)), (.int (0 : Int32)), (.int (0 : Int32)), (.int (0 : Int32)), (.int (0 : Int32)), (.int (0 : Int32)), (.int (0 : Int32)), (.int (0 : Int32)), (.int (0 : Int32)), (.int (0 : Int32)), (.int (0 : Int32)), (.int (0 : Int32)), (.int (0 : Int32)), (.int (0 : Int32)), (.int (0 : Int32)), (.int (0 : Int32))] : List Value).getD n (.int (0 : Int32)) = .int lo ∧ ([(.int (7 : Int32)), (.int (11 : Int32)), (.int (2 : Int32)), (.int (4 : Int32)), (.int (7 : Int32)), (.int (7 : Int32)), (.int (2 : Int32)), (.int (5 : Int32)), (.int (3 : Int32)), (.int (3 : Int32)), (.int (3 : Int32)), (.int (3 : Int32)), (.int (2 : Int32)), (.int (3 : Int32)), (.int (5 : Int32)), (.int (3 : Int32)), (.int (4 : Int32)), (.int (1 : Int32)), (.int (1 : Int32)), (.int (1 : Int32)), (.int (3 : Int32)), (.int (4 : Int32)), (.int (2 : Int32)), (.int (1 : Int32)), (.int (1 : Int32)), (.int (1 : Int32))] : List Value).getD n (.int (0 : Int32)) = .int hi ∧ Exa Z Z.heap kw "com/example/consort/consort/protocol/ApiKey" ∧ Fld Z Z.heap kw "com/example/consort/consort/protocol/ApiKey" "lowestVersion" "S" (.int lo) ∧ Fld Z Z.heap kw "com/example/consort/consort/protocol/ApiKey" "highestVersion" "S" (.int hi) ∧ 0 ≤ lo.toInt ∧ lo.toInt ≤ hi.toInt ∧ hi.toInt ≤ 100 := by
  have hs : n = 0 ∨ n = 1 ∨ n = 2 ∨ n = 3 ∨ n = 4 ∨ n = 5 ∨ n = 6 ∨ n = 7 ∨ n = 8 ∨ n = 9 ∨ n = 10 ∨ n = 11 ∨ n = 12 ∨ n = 13 ∨ n = 14 ∨ n = 15 ∨ n = 16 ∨ n = 17 ∨ n = 18 ∨ n = 19 ∨ n = 20 ∨ n = 21 ∨ n = 22 ∨ n = 23 ∨ n = 24 ∨ n = 25 := by omega
  rcases hs with rfl | rfl | rfl | rfl | rfl | rfl | rfl | rfl | rfl | rfl | rfl | rfl | rfl | rfl | rfl | rfl | rfl | rfl | rfl | rfl | rfl | rfl | rfl | rfl | rfl | rfl
  · exact ⟨w_PRODUCE, (0 : Int32), (7 : Int32), rfl, rfl, rfl, e0, l0, h0, by decide, by decide, by decide⟩
  · exact ⟨w_FETCH, (4 : Int32), (11 : Int32), rfl, rfl, rfl, e1, l1, h1, by decide, by decide, by decide⟩
  · exact ⟨w_LIST_OFFSETS, (1 : Int32), (2 : Int32), rfl, rfl, rfl, e2, l2, h2, by decide, by decide, by decide⟩
  · exact ⟨w_METADATA, (0 : Int32), (4 : Int32), rfl, rfl, rfl, e3, l3, h3, by decide, by decide, by decide⟩
  · exact ⟨w_OFFSET_COMMIT, (2 : Int32), (7 : Int32), rfl, rfl, rfl, e4, l4, h4, by decide, by decide, by decide⟩
  · exact ⟨w_OFFSET_FETCH, (1 : Int32), (7 : Int32), rfl, rfl, rfl, e5, l5, h5, by decide, by decide, by decide⟩
  · exact ⟨w_FIND_COORDINATOR, (0 : Int32), (2 : Int32), rfl, rfl, rfl, e6, l6, h6, by decide, by decide, by decide⟩
  · exact ⟨w_JOIN_GROUP, (0 : Int32), (5 : Int32), rfl, rfl, rfl, e7, l7, h7, by decide, by decide, by decide⟩
  · exact ⟨w_HEARTBEAT, (0 : Int32), (3 : Int32), rfl, rfl, rfl, e8, l8, h8, by decide, by decide, by decide⟩
  · exact ⟨w_LEAVE_GROUP, (0 : Int32), (3 : Int32), rfl, rfl, rfl, e9, l9, h9, by decide, by decide, by decide⟩
  · exact ⟨w_SYNC_GROUP, (0 : Int32), (3 : Int32), rfl, rfl, rfl, e10, l10, h10, by decide, by decide, by decide⟩
  · exact ⟨w_DESCRIBE_GROUPS, (0 : Int32), (3 : Int32), rfl, rfl, rfl, e11, l11, h11, by decide, by decide, by decide⟩
  · exact ⟨w_LIST_GROUPS, (0 : Int32), (2 : Int32), rfl, rfl, rfl, e12, l12, h12, by decide, by decide, by decide⟩
  · exact ⟨w_API_VERSIONS, (0 : Int32), (3 : Int32), rfl, rfl, rfl, e13, l13, h13, by decide, by decide, by decide⟩
  · exact ⟨w_CREATE_TOPICS, (0 : Int32), (5 : Int32), rfl, rfl, rfl, e14, l14, h14, by decide, by decide, by decide⟩
  · exact ⟨w_DELETE_TOPICS, (0 : Int32), (3 : Int32), rfl, rfl, rfl, e15, l15, h15, by decide, by decide, by decide⟩
  · exact ⟨w_INIT_PRODUCER_ID, (0 : Int32), (4 : Int32), rfl, rfl, rfl, e16, l16, h16, by decide, by decide, by decide⟩
  · exact ⟨w_ADD_PARTITIONS_TO_TXN, (0 : Int32), (1 : Int32), rfl, rfl, rfl, e17, l17, h17, by decide, by decide, by decide⟩
  · exact ⟨w_ADD_OFFSETS_TO_TXN, (0 : Int32), (1 : Int32), rfl, rfl, rfl, e18, l18, h18, by decide, by decide, by decide⟩
  · exact ⟨w_END_TXN, (0 : Int32), (1 : Int32), rfl, rfl, rfl, e19, l19, h19, by decide, by decide, by decide⟩
  · exact ⟨w_TXN_OFFSET_COMMIT, (0 : Int32), (3 : Int32), rfl, rfl, rfl, e20, l20, h20, by decide, by decide, by decide⟩
  · exact ⟨w_DESCRIBE_CONFIGS, (0 : Int32), (4 : Int32), rfl, rfl, rfl, e21, l21, h21, by decide, by decide, by decide⟩
  · exact ⟨w_ALTER_CONFIGS, (0 : Int32), (2 : Int32), rfl, rfl, rfl, e22, l22, h22, by decide, by decide, by decide⟩
  · exact ⟨w_CREATE_PARTITIONS, (0 : Int32), (1 : Int32), rfl, rfl, rfl, e23, l23, h23, by decide, by decide, by decide⟩
  · exact ⟨w_DELETE_GROUPS, (0 : Int32), (1 : Int32), rfl, rfl, rfl, e24, l24, h24, by decide, by decide, by decide⟩
  · exact ⟨w_INCREMENTAL_ALTER_CONFIGS, (0 : Int32), (1 : Int32), rfl, rfl, rfl, e25, l25, h25, by decide, by decide, by decide⟩
theorem pn_13 : plainName "com/example/consort/consort/protocol/ApiKeySupportsPinLaw" = true := by first | (simp [plainName, overriddenIn]; done) | decide +kernel
theorem pd_14 : parseMethodDescriptor "(S)Z" = some ⟨[.short], some .boolean⟩ := by decide +kernel
theorem ef_0 (m : MethodId) (x0 : Int32) (x1 : Int32) : entryFrame m #[(.int x0), (.int x1)] maxLocals = mkF m 0 #[.val (.int x0), .val (.int x1), .unset, .unset, .unset, .unset, .unset, .unset, .unset, .unset, .unset, .unset, .unset, .unset] [] := by first | (simp [entryFrame, mkF, argsToLocals, Value.category, maxLocals]; done) | rfl
def Q0 (Z : State) (p1 : Int32) (p2 : Int32) (w_PRODUCE : Addr) (w_FETCH : Addr) (w_LIST_OFFSETS : Addr) (w_METADATA : Addr) (w_OFFSET_COMMIT : Addr) (w_OFFSET_FETCH : Addr) (w_FIND_COORDINATOR : Addr) (w_JOIN_GROUP : Addr) (w_HEARTBEAT : Addr) (w_LEAVE_GROUP : Addr) (w_SYNC_GROUP : Addr) (w_DESCRIBE_GROUPS : Addr) (w_LIST_GROUPS : Addr) (w_API_VERSIONS : Addr) (w_CREATE_TOPICS : Addr) (w_DELETE_TOPICS : Addr) (w_INIT_PRODUCER_ID : Addr) (w_ADD_PARTITIONS_TO_TXN : Addr) (w_ADD_OFFSETS_TO_TXN : Addr) (w_END_TXN : Addr) (w_TXN_OFFSET_COMMIT : Addr) (w_DESCRIBE_CONFIGS : Addr) (w_ALTER_CONFIGS : Addr) (w_CREATE_PARTITIONS : Addr) (w_DELETE_GROUPS : Addr) (w_INCREMENTAL_ALTER_CONFIGS : Addr) (h0 : Heap) (n0 : Nat) (v : Option Value) (h : Heap) (L : List Loc) : Prop := v = some (.int (1 : Int32)) ∧ Fr n0 L
set_option maxRecDepth 65536 in
set_option maxHeartbeats 40000000 in
theorem rm0 (l : Launch) (Z : State) (a0 : Array Value) (hw : ∀ d ∈ tables_1, d.before a0 Z = true) (ws : List Jvm.Cond) (p1 : Int32) (p2 : Int32) (w_PRODUCE : Addr) (w_FETCH : Addr) (w_LIST_OFFSETS : Addr) (w_METADATA : Addr) (w_OFFSET_COMMIT : Addr) (w_OFFSET_FETCH : Addr) (w_FIND_COORDINATOR : Addr) (w_JOIN_GROUP : Addr) (w_HEARTBEAT : Addr) (w_LEAVE_GROUP : Addr) (w_SYNC_GROUP : Addr) (w_DESCRIBE_GROUPS : Addr) (w_LIST_GROUPS : Addr) (w_API_VERSIONS : Addr) (w_CREATE_TOPICS : Addr) (w_DELETE_TOPICS : Addr) (w_INIT_PRODUCER_ID : Addr) (w_ADD_PARTITIONS_TO_TXN : Addr) (w_ADD_OFFSETS_TO_TXN : Addr) (w_END_TXN : Addr) (w_TXN_OFFSET_COMMIT : Addr) (w_DESCRIBE_CONFIGS : Addr) (w_ALTER_CONFIGS : Addr) (w_CREATE_PARTITIONS : Addr) (w_DELETE_GROUPS : Addr) (w_INCREMENTAL_ALTER_CONFIGS : Addr) (h0 : Heap) (n0 : Nat) (Z0 : n0 ≤ h0.size) (O0 : Old Z n0 h0) (S_PRODUCE : Sta Z Z.heap "com/example/consort/consort/protocol/ApiKey" "PRODUCE" "Lcom/example/consort/consort/protocol/ApiKey;" (.ref w_PRODUCE)) (S_FETCH : Sta Z Z.heap "com/example/consort/consort/protocol/ApiKey" "FETCH" "Lcom/example/consort/consort/protocol/ApiKey;" (.ref w_FETCH)) (S_LIST_OFFSETS : Sta Z Z.heap "com/example/consort/consort/protocol/ApiKey" "LIST_OFFSETS" "Lcom/example/consort/consort/protocol/ApiKey;" (.ref w_LIST_OFFSETS)) (S_METADATA : Sta Z Z.heap "com/example/consort/consort/protocol/ApiKey" "METADATA" "Lcom/example/consort/consort/protocol/ApiKey;" (.ref w_METADATA)) (S_OFFSET_COMMIT : Sta Z Z.heap "com/example/consort/consort/protocol/ApiKey" "OFFSET_COMMIT" "Lcom/example/consort/consort/protocol/ApiKey;" (.ref w_OFFSET_COMMIT)) (S_OFFSET_FETCH : Sta Z Z.heap "com/example/consort/consort/protocol/ApiKey" "OFFSET_FETCH" "Lcom/example/consort/consort/protocol/ApiKey;" (.ref w_OFFSET_FETCH)) (S_FIND_COORDINATOR : Sta Z Z.heap "com/example/consort/consort/protocol/ApiKey" "FIND_COORDINATOR" "Lcom/example/consort/consort/protocol/ApiKey;" (.ref w_FIND_COORDINATOR)) (S_JOIN_GROUP : Sta Z Z.heap "com/example/consort/consort/protocol/ApiKey" "JOIN_GROUP" "Lcom/example/consort/consort/protocol/ApiKey;" (.ref w_JOIN_GROUP)) (S_HEARTBEAT : Sta Z Z.heap "com/example/consort/consort/protocol/ApiKey" "HEARTBEAT" "Lcom/example/consort/consort/protocol/ApiKey;" (.ref w_HEARTBEAT)) (S_LEAVE_GROUP : Sta Z Z.heap "com/example/consort/consort/protocol/ApiKey" "LEAVE_GROUP" "Lcom/example/consort/consort/protocol/ApiKey;" (.ref w_LEAVE_GROUP)) (S_SYNC_GROUP : Sta Z Z.heap "com/example/consort/consort/protocol/ApiKey" "SYNC_GROUP" "Lcom/example/consort/consort/protocol/ApiKey;" (.ref w_SYNC_GROUP)) (S_DESCRIBE_GROUPS : Sta Z Z.heap "com/example/consort/consort/protocol/ApiKey" "DESCRIBE_GROUPS" "Lcom/example/consort/consort/protocol/ApiKey;" (.ref w_DESCRIBE_GROUPS)) (S_LIST_GROUPS : Sta Z Z.heap "com/example/consort/consort/protocol/ApiKey" "LIST_GROUPS" "Lcom/example/consort/consort/protocol/ApiKey;" (.ref w_LIST_GROUPS)) (S_API_VERSIONS : Sta Z Z.heap "com/example/consort/consort/protocol/ApiKey" "API_VERSIONS" "Lcom/example/consort/consort/protocol/ApiKey;" (.ref w_API_VERSIONS)) (S_CREATE_TOPICS : Sta Z Z.heap "com/example/consort/consort/protocol/ApiKey" "CREATE_TOPICS" "Lcom/example/consort/consort/protocol/ApiKey;" (.ref w_CREATE_TOPICS)) (S_DELETE_TOPICS : Sta Z Z.heap "com/example/consort/consort/protocol/ApiKey" "DELETE_TOPICS" "Lcom/example/consort/consort/protocol/ApiKey;" (.ref w_DELETE_TOPICS)) (S_INIT_PRODUCER_ID : Sta Z Z.heap "com/example/consort/consort/protocol/ApiKey" "INIT_PRODUCER_ID" "Lcom/example/consort/consort/protocol/ApiKey;" (.ref w_INIT_PRODUCER_ID)) (S_ADD_PARTITIONS_TO_TXN : Sta Z Z.heap "com/example/consort/consort/protocol/ApiKey" "ADD_PARTITIONS_TO_TXN" "Lcom/example/consort/consort/protocol/ApiKey;" (.ref w_ADD_PARTITIONS_TO_TXN)) (S_ADD_OFFSETS_TO_TXN : Sta Z Z.heap "com/example/consort/consort/protocol/ApiKey" "ADD_OFFSETS_TO_TXN" "Lcom/example/consort/consort/protocol/ApiKey;" (.ref w_ADD_OFFSETS_TO_TXN)) (S_END_TXN : Sta Z Z.heap "com/example/consort/consort/protocol/ApiKey" "END_TXN" "Lcom/example/consort/consort/protocol/ApiKey;" (.ref w_END_TXN)) (S_TXN_OFFSET_COMMIT : Sta Z Z.heap "com/example/consort/consort/protocol/ApiKey" "TXN_OFFSET_COMMIT" "Lcom/example/consort/consort/protocol/ApiKey;" (.ref w_TXN_OFFSET_COMMIT)) (S_DESCRIBE_CONFIGS : Sta Z Z.heap "com/example/consort/consort/protocol/ApiKey" "DESCRIBE_CONFIGS" "Lcom/example/consort/consort/protocol/ApiKey;" (.ref w_DESCRIBE_CONFIGS)) (S_ALTER_CONFIGS : Sta Z Z.heap "com/example/consort/consort/protocol/ApiKey" "ALTER_CONFIGS" "Lcom/example/consort/consort/protocol/ApiKey;" (.ref w_ALTER_CONFIGS)) (S_CREATE_PARTITIONS : Sta Z Z.heap "com/example/consort/consort/protocol/ApiKey" "CREATE_PARTITIONS" "Lcom/example/consort/consort/protocol/ApiKey;" (.ref w_CREATE_PARTITIONS)) (S_DELETE_GROUPS : Sta Z Z.heap "com/example/consort/consort/protocol/ApiKey" "DELETE_GROUPS" "Lcom/example/consort/consort/protocol/ApiKey;" (.ref w_DELETE_GROUPS)) (S_INCREMENTAL_ALTER_CONFIGS : Sta Z Z.heap "com/example/consort/consort/protocol/ApiKey" "INCREMENTAL_ALTER_CONFIGS" "Lcom/example/consort/consort/protocol/ApiKey;" (.ref w_INCREMENTAL_ALTER_CONFIGS)) (E_w_PRODUCE : Exa Z Z.heap w_PRODUCE "com/example/consort/consort/protocol/ApiKey") (E_w_FETCH : Exa Z Z.heap w_FETCH "com/example/consort/consort/protocol/ApiKey") (E_w_LIST_OFFSETS : Exa Z Z.heap w_LIST_OFFSETS "com/example/consort/consort/protocol/ApiKey") (E_w_METADATA : Exa Z Z.heap w_METADATA "com/example/consort/consort/protocol/ApiKey") (E_w_OFFSET_COMMIT : Exa Z Z.heap w_OFFSET_COMMIT "com/example/consort/consort/protocol/ApiKey") (E_w_OFFSET_FETCH : Exa Z Z.heap w_OFFSET_FETCH "com/example/consort/consort/protocol/ApiKey") (E_w_FIND_COORDINATOR : Exa Z Z.heap w_FIND_COORDINATOR "com/example/consort/consort/protocol/ApiKey") (E_w_JOIN_GROUP : Exa Z Z.heap w_JOIN_GROUP "com/example/consort/consort/protocol/ApiKey") (E_w_HEARTBEAT : Exa Z Z.heap w_HEARTBEAT "com/example/consort/consort/protocol/ApiKey") (E_w_LEAVE_GROUP : Exa Z Z.heap w_LEAVE_GROUP "com/example/consort/consort/protocol/ApiKey") (E_w_SYNC_GROUP : Exa Z Z.heap w_SYNC_GROUP "com/example/consort/consort/protocol/ApiKey") (E_w_DESCRIBE_GROUPS : Exa Z Z.heap w_DESCRIBE_GROUPS "com/example/consort/consort/protocol/ApiKey") (E_w_LIST_GROUPS : Exa Z Z.heap w_LIST_GROUPS "com/example/consort/consort/protocol/ApiKey") (E_w_API_VERSIONS : Exa Z Z.heap w_API_VERSIONS "com/example/consort/consort/protocol/ApiKey") (E_w_CREATE_TOPICS : Exa Z Z.heap w_CREATE_TOPICS "com/example/consort/consort/protocol/ApiKey") (E_w_DELETE_TOPICS : Exa Z Z.heap w_DELETE_TOPICS "com/example/consort/consort/protocol/ApiKey") (E_w_INIT_PRODUCER_ID : Exa Z Z.heap w_INIT_PRODUCER_ID "com/example/consort/consort/protocol/ApiKey") (E_w_ADD_PARTITIONS_TO_TXN : Exa Z Z.heap w_ADD_PARTITIONS_TO_TXN "com/example/consort/consort/protocol/ApiKey") (E_w_ADD_OFFSETS_TO_TXN : Exa Z Z.heap w_ADD_OFFSETS_TO_TXN "com/example/consort/consort/protocol/ApiKey") (E_w_END_TXN : Exa Z Z.heap w_END_TXN "com/example/consort/consort/protocol/ApiKey") (E_w_TXN_OFFSET_COMMIT : Exa Z Z.heap w_TXN_OFFSET_COMMIT "com/example/consort/consort/protocol/ApiKey") (E_w_DESCRIBE_CONFIGS : Exa Z Z.heap w_DESCRIBE_CONFIGS "com/example/consort/consort/protocol/ApiKey") (E_w_ALTER_CONFIGS : Exa Z Z.heap w_ALTER_CONFIGS "com/example/consort/consort/protocol/ApiKey") (E_w_CREATE_PARTITIONS : Exa Z Z.heap w_CREATE_PARTITIONS "com/example/consort/consort/protocol/ApiKey") (E_w_DELETE_GROUPS : Exa Z Z.heap w_DELETE_GROUPS "com/example/consort/consort/protocol/ApiKey") (E_w_INCREMENTAL_ALTER_CONFIGS : Exa Z Z.heap w_INCREMENTAL_ALTER_CONFIGS "com/example/consort/consort/protocol/ApiKey") (F_lowestVersion_w_PRODUCE : Fld Z Z.heap w_PRODUCE "com/example/consort/consort/protocol/ApiKey" "lowestVersion" "S" (.int (0 : Int32))) (F_highestVersion_w_PRODUCE : Fld Z Z.heap w_PRODUCE "com/example/consort/consort/protocol/ApiKey" "highestVersion" "S" (.int (7 : Int32))) (F_lowestVersion_w_CREATE_TOPICS : Fld Z Z.heap w_CREATE_TOPICS "com/example/consort/consort/protocol/ApiKey" "lowestVersion" "S" (.int (0 : Int32))) (F_highestVersion_w_CREATE_TOPICS : Fld Z Z.heap w_CREATE_TOPICS "com/example/consort/consort/protocol/ApiKey" "highestVersion" "S" (.int (5 : Int32))) (F_lowestVersion_w_OFFSET_COMMIT : Fld Z Z.heap w_OFFSET_COMMIT "com/example/consort/consort/protocol/ApiKey" "lowestVersion" "S" (.int (2 : Int32))) (F_highestVersion_w_OFFSET_COMMIT : Fld Z Z.heap w_OFFSET_COMMIT "com/example/consort/consort/protocol/ApiKey" "highestVersion" "S" (.int (7 : Int32))) (F_lowestVersion_w_INIT_PRODUCER_ID : Fld Z Z.heap w_INIT_PRODUCER_ID "com/example/consort/consort/protocol/ApiKey" "lowestVersion" "S" (.int (0 : Int32))) (F_highestVersion_w_INIT_PRODUCER_ID : Fld Z Z.heap w_INIT_PRODUCER_ID "com/example/consort/consort/protocol/ApiKey" "highestVersion" "S" (.int (4 : Int32))) (F_lowestVersion_w_ALTER_CONFIGS : Fld Z Z.heap w_ALTER_CONFIGS "com/example/consort/consort/protocol/ApiKey" "lowestVersion" "S" (.int (0 : Int32))) (F_highestVersion_w_ALTER_CONFIGS : Fld Z Z.heap w_ALTER_CONFIGS "com/example/consort/consort/protocol/ApiKey" "highestVersion" "S" (.int (2 : Int32))) (F_lowestVersion_w_OFFSET_FETCH : Fld Z Z.heap w_OFFSET_FETCH "com/example/consort/consort/protocol/ApiKey" "lowestVersion" "S" (.int (1 : Int32))) (F_highestVersion_w_OFFSET_FETCH : Fld Z Z.heap w_OFFSET_FETCH "com/example/consort/consort/protocol/ApiKey" "highestVersion" "S" (.int (7 : Int32))) (F_lowestVersion_w_FIND_COORDINATOR : Fld Z Z.heap w_FIND_COORDINATOR "com/example/consort/consort/protocol/ApiKey" "lowestVersion" "S" (.int (0 : Int32))) (F_highestVersion_w_FIND_COORDINATOR : Fld Z Z.heap w_FIND_COORDINATOR "com/example/consort/consort/protocol/ApiKey" "highestVersion" "S" (.int (2 : Int32))) (F_lowestVersion_w_HEARTBEAT : Fld Z Z.heap w_HEARTBEAT "com/example/consort/consort/protocol/ApiKey" "lowestVersion" "S" (.int (0 : Int32))) (F_highestVersion_w_HEARTBEAT : Fld Z Z.heap w_HEARTBEAT "com/example/consort/consort/protocol/ApiKey" "highestVersion" "S" (.int (3 : Int32))) (F_lowestVersion_w_LIST_GROUPS : Fld Z Z.heap w_LIST_GROUPS "com/example/consort/consort/protocol/ApiKey" "lowestVersion" "S" (.int (0 : Int32))) (F_highestVersion_w_LIST_GROUPS : Fld Z Z.heap w_LIST_GROUPS "com/example/consort/consort/protocol/ApiKey" "highestVersion" "S" (.int (2 : Int32))) (F_lowestVersion_w_DELETE_TOPICS : Fld Z Z.heap w_DELETE_TOPICS "com/example/consort/consort/protocol/ApiKey" "lowestVersion" "S" (.int (0 : Int32))) (F_highestVersion_w_DELETE_TOPICS : Fld Z Z.heap w_DELETE_TOPICS "com/example/consort/consort/protocol/ApiKey" "highestVersion" "S" (.int (3 : Int32))) (F_lowestVersion_w_METADATA : Fld Z Z.heap w_METADATA "com/example/consort/consort/protocol/ApiKey" "lowestVersion" "S" (.int (0 : Int32))) (F_highestVersion_w_METADATA : Fld Z Z.heap w_METADATA "com/example/consort/consort/protocol/ApiKey" "highestVersion" "S" (.int (4 : Int32))) (F_lowestVersion_w_API_VERSIONS : Fld Z Z.heap w_API_VERSIONS "com/example/consort/consort/protocol/ApiKey" "lowestVersion" "S" (.int (0 : Int32))) (F_highestVersion_w_API_VERSIONS : Fld Z Z.heap w_API_VERSIONS "com/example/consort/consort/protocol/ApiKey" "highestVersion" "S" (.int (3 : Int32))) (F_lowestVersion_w_LEAVE_GROUP : Fld Z Z.heap w_LEAVE_GROUP "com/example/consort/consort/protocol/ApiKey" "lowestVersion" "S" (.int (0 : Int32))) (F_highestVersion_w_LEAVE_GROUP : Fld Z Z.heap w_LEAVE_GROUP "com/example/consort/consort/protocol/ApiKey" "highestVersion" "S" (.int (3 : Int32))) (F_lowestVersion_w_CREATE_PARTITIONS : Fld Z Z.heap w_CREATE_PARTITIONS "com/example/consort/consort/protocol/ApiKey" "lowestVersion" "S" (.int (0 : Int32))) (F_highestVersion_w_CREATE_PARTITIONS : Fld Z Z.heap w_CREATE_PARTITIONS "com/example/consort/consort/protocol/ApiKey" "highestVersion" "S" (.int (1 : Int32))) (F_lowestVersion_w_FETCH : Fld Z Z.heap w_FETCH "com/example/consort/consort/protocol/ApiKey" "lowestVersion" "S" (.int (4 : Int32))) (F_highestVersion_w_FETCH : Fld Z Z.heap w_FETCH "com/example/consort/consort/protocol/ApiKey" "highestVersion" "S" (.int (11 : Int32))) (F_lowestVersion_w_DELETE_GROUPS : Fld Z Z.heap w_DELETE_GROUPS "com/example/consort/consort/protocol/ApiKey" "lowestVersion" "S" (.int (0 : Int32))) (F_highestVersion_w_DELETE_GROUPS : Fld Z Z.heap w_DELETE_GROUPS "com/example/consort/consort/protocol/ApiKey" "highestVersion" "S" (.int (1 : Int32))) (F_lowestVersion_w_LIST_OFFSETS : Fld Z Z.heap w_LIST_OFFSETS "com/example/consort/consort/protocol/ApiKey" "lowestVersion" "S" (.int (1 : Int32))) (F_highestVersion_w_LIST_OFFSETS : Fld Z Z.heap w_LIST_OFFSETS "com/example/consort/consort/protocol/ApiKey" "highestVersion" "S" (.int (2 : Int32))) (F_lowestVersion_w_END_TXN : Fld Z Z.heap w_END_TXN "com/example/consort/consort/protocol/ApiKey" "lowestVersion" "S" (.int (0 : Int32))) (F_highestVersion_w_END_TXN : Fld Z Z.heap w_END_TXN "com/example/consort/consort/protocol/ApiKey" "highestVersion" "S" (.int (1 : Int32))) (F_lowestVersion_w_SYNC_GROUP : Fld Z Z.heap w_SYNC_GROUP "com/example/consort/consort/protocol/ApiKey" "lowestVersion" "S" (.int (0 : Int32))) (F_highestVersion_w_SYNC_GROUP : Fld Z Z.heap w_SYNC_GROUP "com/example/consort/consort/protocol/ApiKey" "highestVersion" "S" (.int (3 : Int32))) (F_lowestVersion_w_DESCRIBE_CONFIGS : Fld Z Z.heap w_DESCRIBE_CONFIGS "com/example/consort/consort/protocol/ApiKey" "lowestVersion" "S" (.int (0 : Int32))) (F_highestVersion_w_DESCRIBE_CONFIGS : Fld Z Z.heap w_DESCRIBE_CONFIGS "com/example/consort/consort/protocol/ApiKey" "highestVersion" "S" (.int (4 : Int32))) (F_lowestVersion_w_DESCRIBE_GROUPS : Fld Z Z.heap w_DESCRIBE_GROUPS "com/example/consort/consort/protocol/ApiKey" "lowestVersion" "S" (.int (0 : Int32))) (F_highestVersion_w_DESCRIBE_GROUPS : Fld Z Z.heap w_DESCRIBE_GROUPS "com/example/consort/consort/protocol/ApiKey" "highestVersion" "S" (.int (3 : Int32))) (F_lowestVersion_w_JOIN_GROUP : Fld Z Z.heap w_JOIN_GROUP "com/example/consort/consort/protocol/ApiKey" "lowestVersion" "S" (.int (0 : Int32))) (F_highestVersion_w_JOIN_GROUP : Fld Z Z.heap w_JOIN_GROUP "com/example/consort/consort/protocol/ApiKey" "highestVersion" "S" (.int (5 : Int32))) (F_lowestVersion_w_ADD_OFFSETS_TO_TXN : Fld Z Z.heap w_ADD_OFFSETS_TO_TXN "com/example/consort/consort/protocol/ApiKey" "lowestVersion" "S" (.int (0 : Int32))) (F_highestVersion_w_ADD_OFFSETS_TO_TXN : Fld Z Z.heap w_ADD_OFFSETS_TO_TXN "com/example/consort/consort/protocol/ApiKey" "highestVersion" "S" (.int (1 : Int32))) (F_lowestVersion_w_TXN_OFFSET_COMMIT : Fld Z Z.heap w_TXN_OFFSET_COMMIT "com/example/consort/consort/protocol/ApiKey" "lowestVersion" "S" (.int (0 : Int32))) (F_highestVersion_w_TXN_OFFSET_COMMIT : Fld Z Z.heap w_TXN_OFFSET_COMMIT "com/example/consort/consort/protocol/ApiKey" "highestVersion" "S" (.int (3 : Int32))) (F_lowestVersion_w_INCREMENTAL_ALTER_CONFIGS : Fld Z Z.heap w_INCREMENTAL_ALTER_CONFIGS "com/example/consort/consort/protocol/ApiKey" "lowestVersion" "S" (.int (0 : Int32))) (F_highestVersion_w_INCREMENTAL_ALTER_CONFIGS : Fld Z Z.heap w_INCREMENTAL_ALTER_CONFIGS "com/example/consort/consort/protocol/ApiKey" "highestVersion" "S" (.int (1 : Int32))) (F_lowestVersion_w_ADD_PARTITIONS_TO_TXN : Fld Z Z.heap w_ADD_PARTITIONS_TO_TXN "com/example/consort/consort/protocol/ApiKey" "lowestVersion" "S" (.int (0 : Int32))) (F_highestVersion_w_ADD_PARTITIONS_TO_TXN : Fld Z Z.heap w_ADD_PARTITIONS_TO_TXN "com/example/consort/consort/protocol/ApiKey" "highestVersion" "S" (.int (1 : Int32))) :
    MetFree l x (head1 (Jvm.Cond.code x code maxLocals ret :: ws) room_1) (fun a U => a = #[(.int p1), (.int p2)] ∧ Z.Warmed39 U.vm ∧ U.heap = h0) (fun _ _ _ _ _ => True) (fun _ U o U' => ∃ v L, o = .returned v ∧ Q0 Z p1 p2 w_PRODUCE w_FETCH w_LIST_OFFSETS w_METADATA w_OFFSET_COMMIT w_OFFSET_FETCH w_FIND_COORDINATOR w_JOIN_GROUP w_HEARTBEAT w_LEAVE_GROUP w_SYNC_GROUP w_DESCRIBE_GROUPS w_LIST_GROUPS w_API_VERSIONS w_CREATE_TOPICS w_DELETE_TOPICS w_INIT_PRODUCER_ID w_ADD_PARTITIONS_TO_TXN w_ADD_OFFSETS_TO_TXN w_END_TXN w_TXN_OFFSET_COMMIT w_DESCRIBE_CONFIGS w_ALTER_CONFIGS w_CREATE_PARTITIONS w_DELETE_GROUPS w_INCREMENTAL_ALTER_CONFIGS h0 n0 v U'.heap L ∧ FrameEnd U o U' L room_1.cells room_1.slots) := by
  refine MetFree.of_bodySF (plainFor_of_name pn_13) hisR ?_
  intro p e s m args below meth c s₁ Bd hml0 hP hK
  obtain ⟨rfl, hZ, hh⟩ := hP
  have hx := Bd.exec
  have hby := Bd.bytes
  have hml : c.maxLocals = 14 := hml0
  have hown : s.vm.findClass "com/example/consort/consort/protocol/ApiKeySupportsPinLaw" = some m.cls := findClass_of_methodNamed Bd.named
  have hnm := (name_of_methodNamed Bd.named Bd.method).1
  have X0 : Stand p l e room_1 s m #[(.int p1), (.int p2)] below meth c s₁ [] 0 0 := Stand.of_body Bd
  have e0 : s₁.heap = h0 := by rw [← hh, Bd.state]; rfl
  have N0 := Fr.nil n0
  have pre0 : ∀ t, Steps p.tables e below (s₁.setTop (mkF m 0 #[.val (.int p1), .val (.int p2), .unset, .unset, .unset, .unset, .unset, .unset, .unset, .unset, .unset, .unset, .unset, .unset] [])) t → Steps p.tables e below (s₁.setTop (entryFrame m #[(.int p1), (.int p2)] maxLocals)) t := fun t k => castTop (ef_0 m p1 p2) k
  obtain ⟨T1, h1, k1, X1, e1, E1, A1, O1, st1⟩ := newR X0 hx hZ hown (hw _ (List.mem_of_getElem? (i := 0) rfl)) (hw _ (List.mem_of_getElem? (i := 1) rfl)) e0 (g := (mkF m 2 #[.val (.int p1), .val (.int p2), .unset, .unset, .unset, .unset, .unset, .unset, .unset, .unset, .unset, .unset, .unset, .unset] [(.int (26 : Int32))])) rfl (hb hby at_2) rfl (by decide) (cap := 26) (by decide) (by decide) (by decide) (by decide)
  obtain ⟨b1, g1⟩ : ∃ z, z = h0.size := ⟨_, rfl⟩
  rw [← g1] at A1 st1
  have g_b1 : n0 ≤ b1 := Nat.le_trans Z0 (Nat.le_of_eq g1.symm)
  have ne2 : w_PRODUCE ≠ b1 := Nat.ne_of_lt (Nat.lt_of_lt_of_le (E_w_PRODUCE.ext O0.2).lt (Nat.le_of_eq g1.symm))
  have ne3 : w_FETCH ≠ b1 := Nat.ne_of_lt (Nat.lt_of_lt_of_le (E_w_FETCH.ext O0.2).lt (Nat.le_of_eq g1.symm))
  have ne4 : w_LIST_OFFSETS ≠ b1 := Nat.ne_of_lt (Nat.lt_of_lt_of_le (E_w_LIST_OFFSETS.ext O0.2).lt (Nat.le_of_eq g1.symm))
  have ne5 : w_METADATA ≠ b1 := Nat.ne_of_lt (Nat.lt_of_lt_of_le (E_w_METADATA.ext O0.2).lt (Nat.le_of_eq g1.symm))
  have ne6 : w_OFFSET_COMMIT ≠ b1 := Nat.ne_of_lt (Nat.lt_of_lt_of_le (E_w_OFFSET_COMMIT.ext O0.2).lt (Nat.le_of_eq g1.symm))
  have ne7 : w_OFFSET_FETCH ≠ b1 := Nat.ne_of_lt (Nat.lt_of_lt_of_le (E_w_OFFSET_FETCH.ext O0.2).lt (Nat.le_of_eq g1.symm))
  have ne8 : w_FIND_COORDINATOR ≠ b1 := Nat.ne_of_lt (Nat.lt_of_lt_of_le (E_w_FIND_COORDINATOR.ext O0.2).lt (Nat.le_of_eq g1.symm))
  have ne9 : w_JOIN_GROUP ≠ b1 := Nat.ne_of_lt (Nat.lt_of_lt_of_le (E_w_JOIN_GROUP.ext O0.2).lt (Nat.le_of_eq g1.symm))
  have ne10 : w_HEARTBEAT ≠ b1 := Nat.ne_of_lt (Nat.lt_of_lt_of_le (E_w_HEARTBEAT.ext O0.2).lt (Nat.le_of_eq g1.symm))
  have ne11 : w_LEAVE_GROUP ≠ b1 := Nat.ne_of_lt (Nat.lt_of_lt_of_le (E_w_LEAVE_GROUP.ext O0.2).lt (Nat.le_of_eq g1.symm))
  have ne12 : w_SYNC_GROUP ≠ b1 := Nat.ne_of_lt (Nat.lt_of_lt_of_le (E_w_SYNC_GROUP.ext O0.2).lt (Nat.le_of_eq g1.symm))
  have ne13 : w_DESCRIBE_GROUPS ≠ b1 := Nat.ne_of_lt (Nat.lt_of_lt_of_le (E_w_DESCRIBE_GROUPS.ext O0.2).lt (Nat.le_of_eq g1.symm))
  have ne14 : w_LIST_GROUPS ≠ b1 := Nat.ne_of_lt (Nat.lt_of_lt_of_le (E_w_LIST_GROUPS.ext O0.2).lt (Nat.le_of_eq g1.symm))
  have ne15 : w_API_VERSIONS ≠ b1 := Nat.ne_of_lt (Nat.lt_of_lt_of_le (E_w_API_VERSIONS.ext O0.2).lt (Nat.le_of_eq g1.symm))
  have ne16 : w_CREATE_TOPICS ≠ b1 := Nat.ne_of_lt (Nat.lt_of_lt_of_le (E_w_CREATE_TOPICS.ext O0.2).lt (Nat.le_of_eq g1.symm))
  have ne17 : w_DELETE_TOPICS ≠ b1 := Nat.ne_of_lt (Nat.lt_of_lt_of_le (E_w_DELETE_TOPICS.ext O0.2).lt (Nat.le_of_eq g1.symm))
  have ne18 : w_INIT_PRODUCER_ID ≠ b1 := Nat.ne_of_lt (Nat.lt_of_lt_of_le (E_w_INIT_PRODUCER_ID.ext O0.2).lt (Nat.le_of_eq g1.symm))
  have ne19 : w_ADD_PARTITIONS_TO_TXN ≠ b1 := Nat.ne_of_lt (Nat.lt_of_lt_of_le (E_w_ADD_PARTITIONS_TO_TXN.ext O0.2).lt (Nat.le_of_eq g1.symm))
  have ne20 : w_ADD_OFFSETS_TO_TXN ≠ b1 := Nat.ne_of_lt (Nat.lt_of_lt_of_le (E_w_ADD_OFFSETS_TO_TXN.ext O0.2).lt (Nat.le_of_eq g1.symm))
  have ne21 : w_END_TXN ≠ b1 := Nat.ne_of_lt (Nat.lt_of_lt_of_le (E_w_END_TXN.ext O0.2).lt (Nat.le_of_eq g1.symm))
  have ne22 : w_TXN_OFFSET_COMMIT ≠ b1 := Nat.ne_of_lt (Nat.lt_of_lt_of_le (E_w_TXN_OFFSET_COMMIT.ext O0.2).lt (Nat.le_of_eq g1.symm))
  have ne23 : w_DESCRIBE_CONFIGS ≠ b1 := Nat.ne_of_lt (Nat.lt_of_lt_of_le (E_w_DESCRIBE_CONFIGS.ext O0.2).lt (Nat.le_of_eq g1.symm))
  have ne24 : w_ALTER_CONFIGS ≠ b1 := Nat.ne_of_lt (Nat.lt_of_lt_of_le (E_w_ALTER_CONFIGS.ext O0.2).lt (Nat.le_of_eq g1.symm))
  have ne25 : w_CREATE_PARTITIONS ≠ b1 := Nat.ne_of_lt (Nat.lt_of_lt_of_le (E_w_CREATE_PARTITIONS.ext O0.2).lt (Nat.le_of_eq g1.symm))
  have ne26 : w_DELETE_GROUPS ≠ b1 := Nat.ne_of_lt (Nat.lt_of_lt_of_le (E_w_DELETE_GROUPS.ext O0.2).lt (Nat.le_of_eq g1.symm))
  have ne27 : w_INCREMENTAL_ALTER_CONFIGS ≠ b1 := Nat.ne_of_lt (Nat.lt_of_lt_of_le (E_w_INCREMENTAL_ALTER_CONFIGS.ext O0.2).lt (Nat.le_of_eq g1.symm))
  have f28 := O0.ext E1
  have zs29 : n0 ≤ h1.size := Nat.le_trans Z0 E1.1
  have V_b1 : Arv Z h1 b1 k1 (.object "com/example/consort/consort/protocol/ApiKey") (26 : Int32) [.null, .null, .null, .null, .null, .null, .null, .null, .null, .null, .null, .null, .null, .null, .null, .null, .null, .null, .null, .null, .null, .null, .null, .null, .null, .null] .null := (Arv.new A1 (by decide)).pad (pad_rep [] .null 26)
  obtain ⟨T30, X30, e30, st30⟩ := getS2 X1 hx hZ hown (host := "") (Or.inl (hw _ (List.mem_of_getElem? (i := 2) rfl))) Via.refl e1 (S_PRODUCE.ext f28.2) (g := (mkF m 7 #[.val (.int p1), .val (.int p2), .unset, .unset, .unset, .unset, .unset, .unset, .unset, .unset, .unset, .unset, .unset, .unset] [(.int (0 : Int32)), (.ref b1), (.ref b1)])) rfl (hb hby at_7)
  obtain ⟨car31, Aar31, qar31, Sar31, Nar31, Har31, Gar31⟩ := id V_b1
  have hinar31 : ¬ ((0 : Int32) < 0 ∨ car31.slots.size ≤ ((0 : Int32)).toNatClampNeg) := inb_of Sar31 ⟨by decide, by decide⟩
  obtain ⟨T32, h32, X32, e32, W32, st32⟩ := stR X30 hx hZ e30 Aar31 (j := (0 : Int32)) hinar31 rfl (Sto.ofV Aar31 qar31 O1 (Ins.self (E_w_PRODUCE.ext f28.2))) (g := (mkF m 10 #[.val (.int p1), .val (.int p2), .unset, .unset, .unset, .unset, .unset, .unset, .unset, .unset, .unset, .unset, .unset, .unset] [(.ref w_PRODUCE), (.int (0 : Int32)), (.ref b1), (.ref b1)])) rfl rfl (hb hby at_10)
  have V32 : Arv Z h32 b1 k1 (.object "com/example/consort/consort/protocol/ApiKey") (26 : Int32) [(.ref w_PRODUCE), .null, .null, .null, .null, .null, .null, .null, .null, .null, .null, .null, .null, .null, .null, .null, .null, .null, .null, .null, .null, .null, .null, .null, .null, .null] .null := Arv.set Aar31 qar31 Sar31 Nar31 Har31 Gar31 rfl W32 0 rfl (Nat.le_of_ble_eq_true rfl)
  have f33 := f28.wr W32 g_b1
  have zs35 : n0 ≤ h32.size := Nat.le_trans zs29 (Keep.of_wr W32).1
  have N36 := Fr.snoc X32 N0 g_b1
  obtain ⟨T37, X37, e37, st37⟩ := getS2 X32 hx hZ hown (host := "") (Or.inl (hw _ (List.mem_of_getElem? (i := 6) rfl))) Via.refl e32 (S_FETCH.ext f33.2) (g := (mkF m 13 #[.val (.int p1), .val (.int p2), .unset, .unset, .unset, .unset, .unset, .unset, .unset, .unset, .unset, .unset, .unset, .unset] [(.int (1 : Int32)), (.ref b1), (.ref b1)])) rfl (hb hby at_13)
  obtain ⟨car38, Aar38, qar38, Sar38, Nar38, Har38, Gar38⟩ := id V32
  have hinar38 : ¬ ((1 : Int32) < 0 ∨ car38.slots.size ≤ ((1 : Int32)).toNatClampNeg) := inb_of Sar38 ⟨by decide, by decide⟩
  obtain ⟨T39, h39, X39, e39, W39, st39⟩ := stR X37 hx hZ e37 Aar38 (j := (1 : Int32)) hinar38 rfl (Sto.ofV Aar38 qar38 O1 (Ins.self (E_w_FETCH.ext f33.2))) (g := (mkF m 16 #[.val (.int p1), .val (.int p2), .unset, .unset, .unset, .unset, .unset, .unset, .unset, .unset, .unset, .unset, .unset, .unset] [(.ref w_FETCH), (.int (1 : Int32)), (.ref b1), (.ref b1)])) rfl rfl (hb hby at_16)
  have V39 : Arv Z h39 b1 k1 (.object "com/example/consort/consort/protocol/ApiKey") (26 : Int32) [(.ref w_PRODUCE), (.ref w_FETCH), .null, .null, .null, .null, .null, .null, .null, .null, .null, .null, .null, .null, .null, .null, .null, .null, .null, .null, .null, .null, .null, .null, .null, .null] .null := Arv.set Aar38 qar38 Sar38 Nar38 Har38 Gar38 rfl W39 1 rfl (Nat.le_of_ble_eq_true rfl)
  have f40 := f33.wr W39 g_b1
  have zs42 : n0 ≤ h39.size := Nat.le_trans zs35 (Keep.of_wr W39).1
  have N43 := Fr.snoc X39 N36 g_b1
  obtain ⟨T44, X44, e44, st44⟩ := getS2 X39 hx hZ hown (host := "") (Or.inl (hw _ (List.mem_of_getElem? (i := 8) rfl))) Via.refl e39 (S_LIST_OFFSETS.ext f40.2) (g := (mkF m 19 #[.val (.int p1), .val (.int p2), .unset, .unset, .unset, .unset, .unset, .unset, .unset, .unset, .unset, .unset, .unset, .unset] [(.int (2 : Int32)), (.ref b1), (.ref b1)])) rfl (hb hby at_19)
  obtain ⟨car45, Aar45, qar45, Sar45, Nar45, Har45, Gar45⟩ := id V39
  have hinar45 : ¬ ((2 : Int32) < 0 ∨ car45.slots.size ≤ ((2 : Int32)).toNatClampNeg) := inb_of Sar45 ⟨by decide, by decide⟩
  obtain ⟨T46, h46, X46, e46, W46, st46⟩ := stR X44 hx hZ e44 Aar45 (j := (2 : Int32)) hinar45 rfl (Sto.ofV Aar45 qar45 O1 (Ins.self (E_w_LIST_OFFSETS.ext f40.2))) (g := (mkF m 22 #[.val (.int p1), .val (.int p2), .unset, .unset, .unset, .unset, .unset, .unset, .unset, .unset, .unset, .unset, .unset, .unset] [(.ref w_LIST_OFFSETS), (.int (2 : Int32)), (.ref b1), (.ref b1)])) rfl rfl (hb hby at_22)
  have V46 : Arv Z h46 b1 k1 (.object "com/example/consort/consort/protocol/ApiKey") (26 : Int32) [(.ref w_PRODUCE), (.ref w_FETCH), (.ref w_LIST_OFFSETS), .null, .null, .null, .null, .null, .null, .null, .null, .null, .null, .null, .null, .null, .null, .null, .null, .null, .null, .null, .null, .null, .null, .null] .null := Arv.set Aar45 qar45 Sar45 Nar45 Har45 Gar45 rfl W46 2 rfl (Nat.le_of_ble_eq_true rfl)
  have f47 := f40.wr W46 g_b1
  have zs49 : n0 ≤ h46.size := Nat.le_trans zs42 (Keep.of_wr W46).1
  have N50 := Fr.snoc X46 N43 g_b1
  obtain ⟨T51, X51, e51, st51⟩ := getS2 X46 hx hZ hown (host := "") (Or.inl (hw _ (List.mem_of_getElem? (i := 10) rfl))) Via.refl e46 (S_METADATA.ext f47.2) (g := (mkF m 25 #[.val (.int p1), .val (.int p2), .unset, .unset, .unset, .unset, .unset, .unset, .unset, .unset, .unset, .unset, .unset, .unset] [(.int (3 : Int32)), (.ref b1), (.ref b1)])) rfl (hb hby at_25)
  obtain ⟨car52, Aar52, qar52, Sar52, Nar52, Har52, Gar52⟩ := id V46
  have hinar52 : ¬ ((3 : Int32) < 0 ∨ car52.slots.size ≤ ((3 : Int32)).toNatClampNeg) := inb_of Sar52 ⟨by decide, by decide⟩
  obtain ⟨T53, h53, X53, e53, W53, st53⟩ := stR X51 hx hZ e51 Aar52 (j := (3 : Int32)) hinar52 rfl (Sto.ofV Aar52 qar52 O1 (Ins.self (E_w_METADATA.ext f47.2))) (g := (mkF m 28 #[.val (.int p1), .val (.int p2), .unset, .unset, .unset, .unset, .unset, .unset, .unset, .unset, .unset, .unset, .unset, .unset] [(.ref w_METADATA), (.int (3 : Int32)), (.ref b1), (.ref b1)])) rfl rfl (hb hby at_28)
  have V53 : Arv Z h53 b1 k1 (.object "com/example/consort/consort/protocol/ApiKey") (26 : Int32) [(.ref w_PRODUCE), (.ref w_FETCH), (.ref w_LIST_OFFSETS), (.ref w_METADATA), .null, .null, .null, .null, .null, .null, .null, .null, .null, .null, .null, .null, .null, .null, .null, .null, .null, .null, .null, .null, .null, .null] .null := Arv.set Aar52 qar52 Sar52 Nar52 Har52 Gar52 rfl W53 3 rfl (Nat.le_of_ble_eq_true rfl)
  have f54 := f47.wr W53 g_b1
  have zs56 : n0 ≤ h53.size := Nat.le_trans zs49 (Keep.of_wr W53).1
  have N57 := Fr.snoc X53 N50 g_b1
  obtain ⟨T58, X58, e58, st58⟩ := getS2 X53 hx hZ hown (host := "") (Or.inl (hw _ (List.mem_of_getElem? (i := 12) rfl))) Via.refl e53 (S_OFFSET_COMMIT.ext f54.2) (g := (mkF m 31 #[.val (.int p1), .val (.int p2), .unset, .unset, .unset, .unset, .unset, .unset, .unset, .unset, .unset, .unset, .unset, .unset] [(.int (4 : Int32)), (.ref b1), (.ref b1)])) rfl (hb hby at_31)
  obtain ⟨car59, Aar59, qar59, Sar59, Nar59, Har59, Gar59⟩ := id V53
  have hinar59 : ¬ ((4 : Int32) < 0 ∨ car59.slots.size ≤ ((4 : Int32)).toNatClampNeg) := inb_of Sar59 ⟨by decide, by decide⟩
  obtain ⟨T60, h60, X60, e60, W60, st60⟩ := stR X58 hx hZ e58 Aar59 (j := (4 : Int32)) hinar59 rfl (Sto.ofV Aar59 qar59 O1 (Ins.self (E_w_OFFSET_COMMIT.ext f54.2))) (g := (mkF m 34 #[.val (.int p1), .val (.int p2), .unset, .unset, .unset, .unset, .unset, .unset, .unset, .unset, .unset, .unset, .unset, .unset] [(.ref w_OFFSET_COMMIT), (.int (4 : Int32)), (.ref b1), (.ref b1)])) rfl rfl (hb hby at_34)
  have V60 : Arv Z h60 b1 k1 (.object "com/example/consort/consort/protocol/ApiKey") (26 : Int32) [(.ref w_PRODUCE), (.ref w_FETCH), (.ref w_LIST_OFFSETS), (.ref w_METADATA), (.ref w_OFFSET_COMMIT), .null, .null, .null, .null, .null, .null, .null, .null, .null, .null, .null, .null, .null, .null, .null, .null, .null, .null, .null, .null, .null] .null := Arv.set Aar59 qar59 Sar59 Nar59 Har59 Gar59 rfl W60 4 rfl (Nat.le_of_ble_eq_true rfl)
  have f61 := f54.wr W60 g_b1
  have zs63 : n0 ≤ h60.size := Nat.le_trans zs56 (Keep.of_wr W60).1
  have N64 := Fr.snoc X60 N57 g_b1
  obtain ⟨T65, X65, e65, st65⟩ := getS2 X60 hx hZ hown (host := "") (Or.inl (hw _ (List.mem_of_getElem? (i := 14) rfl))) Via.refl e60 (S_OFFSET_FETCH.ext f61.2) (g := (mkF m 37 #[.val (.int p1), .val (.int p2), .unset, .unset, .unset, .unset, .unset, .unset, .unset, .unset, .unset, .unset, .unset, .unset] [(.int (5 : Int32)), (.ref b1), (.ref b1)])) rfl (hb hby at_37)
  obtain ⟨car66, Aar66, qar66, Sar66, Nar66, Har66, Gar66⟩ := id V60
  have hinar66 : ¬ ((5 : Int32) < 0 ∨ car66.slots.size ≤ ((5 : Int32)).toNatClampNeg) := inb_of Sar66 ⟨by decide, by decide⟩
  obtain ⟨T67, h67, X67, e67, W67, st67⟩ := stR X65 hx hZ e65 Aar66 (j := (5 : Int32)) hinar66 rfl (Sto.ofV Aar66 qar66 O1 (Ins.self (E_w_OFFSET_FETCH.ext f61.2))) (g := (mkF m 40 #[.val (.int p1), .val (.int p2), .unset, .unset, .unset, .unset, .unset, .unset, .unset, .unset, .unset, .unset, .unset, .unset] [(.ref w_OFFSET_FETCH), (.int (5 : Int32)), (.ref b1), (.ref b1)])) rfl rfl (hb hby at_40)
  have V67 : Arv Z h67 b1 k1 (.object "com/example/consort/consort/protocol/ApiKey") (26 : Int32) [(.ref w_PRODUCE), (.ref w_FETCH), (.ref w_LIST_OFFSETS), (.ref w_METADATA), (.ref w_OFFSET_COMMIT), (.ref w_OFFSET_FETCH), .null, .null, .null, .null, .null, .null, .null, .null, .null, .null, .null, .null, .null, .null, .null, .null, .null, .null, .null, .null] .null := Arv.set Aar66 qar66 Sar66 Nar66 Har66 Gar66 rfl W67 5 rfl (Nat.le_of_ble_eq_true rfl)
  have f68 := f61.wr W67 g_b1
  have zs70 : n0 ≤ h67.size := Nat.le_trans zs63 (Keep.of_wr W67).1
  have N71 := Fr.snoc X67 N64 g_b1
  obtain ⟨T72, X72, e72, st72⟩ := getS2 X67 hx hZ hown (host := "") (Or.inl (hw _ (List.mem_of_getElem? (i := 16) rfl))) Via.refl e67 (S_FIND_COORDINATOR.ext f68.2) (g := (mkF m 44 #[.val (.int p1), .val (.int p2), .unset, .unset, .unset, .unset, .unset, .unset, .unset, .unset, .unset, .unset, .unset, .unset] [(.int (6 : Int32)), (.ref b1), (.ref b1)])) rfl (hb hby at_44)
  obtain ⟨car73, Aar73, qar73, Sar73, Nar73, Har73, Gar73⟩ := id V67
  have hinar73 : ¬ ((6 : Int32) < 0 ∨ car73.slots.size ≤ ((6 : Int32)).toNatClampNeg) := inb_of Sar73 ⟨by decide, by decide⟩
  obtain ⟨T74, h74, X74, e74, W74, st74⟩ := stR X72 hx hZ e72 Aar73 (j := (6 : Int32)) hinar73 rfl (Sto.ofV Aar73 qar73 O1 (Ins.self (E_w_FIND_COORDINATOR.ext f68.2))) (g := (mkF m 47 #[.val (.int p1), .val (.int p2), .unset, .unset, .unset, .unset, .unset, .unset, .unset, .unset, .unset, .unset, .unset, .unset] [(.ref w_FIND_COORDINATOR), (.int (6 : Int32)), (.ref b1), (.ref b1)])) rfl rfl (hb hby at_47)
  have V74 : Arv Z h74 b1 k1 (.object "com/example/consort/consort/protocol/ApiKey") (26 : Int32) [(.ref w_PRODUCE), (.ref w_FETCH), (.ref w_LIST_OFFSETS), (.ref w_METADATA), (.ref w_OFFSET_COMMIT), (.ref w_OFFSET_FETCH), (.ref w_FIND_COORDINATOR), .null, .null, .null, .null, .null, .null, .null, .null, .null, .null, .null, .null, .null, .null, .null, .null, .null, .null, .null] .null := Arv.set Aar73 qar73 Sar73 Nar73 Har73 Gar73 rfl W74 6 rfl (Nat.le_of_ble_eq_true rfl)
  have f75 := f68.wr W74 g_b1
  have zs77 : n0 ≤ h74.size := Nat.le_trans zs70 (Keep.of_wr W74).1
  have N78 := Fr.snoc X74 N71 g_b1
  obtain ⟨T79, X79, e79, st79⟩ := getS2 X74 hx hZ hown (host := "") (Or.inl (hw _ (List.mem_of_getElem? (i := 18) rfl))) Via.refl e74 (S_JOIN_GROUP.ext f75.2) (g := (mkF m 51 #[.val (.int p1), .val (.int p2), .unset, .unset, .unset, .unset, .unset, .unset, .unset, .unset, .unset, .unset, .unset, .unset] [(.int (7 : Int32)), (.ref b1), (.ref b1)])) rfl (hb hby at_51)
  obtain ⟨car80, Aar80, qar80, Sar80, Nar80, Har80, Gar80⟩ := id V74
  have hinar80 : ¬ ((7 : Int32) < 0 ∨ car80.slots.size ≤ ((7 : Int32)).toNatClampNeg) := inb_of Sar80 ⟨by decide, by decide⟩
  obtain ⟨T81, h81, X81, e81, W81, st81⟩ := stR X79 hx hZ e79 Aar80 (j := (7 : Int32)) hinar80 rfl (Sto.ofV Aar80 qar80 O1 (Ins.self (E_w_JOIN_GROUP.ext f75.2))) (g := (mkF m 54 #[.val (.int p1), .val (.int p2), .unset, .unset, .unset, .unset, .unset, .unset, .unset, .unset, .unset, .unset, .unset, .unset] [(.ref w_JOIN_GROUP), (.int (7 : Int32)), (.ref b1), (.ref b1)])) rfl rfl (hb hby at_54)
  have V81 : Arv Z h81 b1 k1 (.object "com/example/consort/consort/protocol/ApiKey") (26 : Int32) [(.ref w_PRODUCE), (.ref w_FETCH), (.ref w_LIST_OFFSETS), (.ref w_METADATA), (.ref w_OFFSET_COMMIT), (.ref w_OFFSET_FETCH), (.ref w_FIND_COORDINATOR), (.ref w_JOIN_GROUP), .null, .null, .null, .null, .null, .null, .null, .null, .null, .null, .null, .null, .null, .null, .null, .null, .null, .null] .null := Arv.set Aar80 qar80 Sar80 Nar80 Har80 Gar80 rfl W81 7 rfl (Nat.le_of_ble_eq_true rfl)
  have f82 := f75.wr W81 g_b1
  have zs84 : n0 ≤ h81.size := Nat.le_trans zs77 (Keep.of_wr W81).1
  have N85 := Fr.snoc X81 N78 g_b1
  obtain ⟨T86, X86, e86, st86⟩ := getS2 X81 hx hZ hown (host := "") (Or.inl (hw _ (List.mem_of_getElem? (i := 20) rfl))) Via.refl e81 (S_HEARTBEAT.ext f82.2) (g := (mkF m 58 #[.val (.int p1), .val (.int p2), .unset, .unset, .unset, .unset, .unset, .unset, .unset, .unset, .unset, .unset, .unset, .unset] [(.int (8 : Int32)), (.ref b1), (.ref b1)])) rfl (hb hby at_58)
  obtain ⟨car87, Aar87, qar87, Sar87, Nar87, Har87, Gar87⟩ := id V81
  have hinar87 : ¬ ((8 : Int32) < 0 ∨ car87.slots.size ≤ ((8 : Int32)).toNatClampNeg) := inb_of Sar87 ⟨by decide, by decide⟩
  obtain ⟨T88, h88, X88, e88, W88, st88⟩ := stR X86 hx hZ e86 Aar87 (j := (8 : Int32)) hinar87 rfl (Sto.ofV Aar87 qar87 O1 (Ins.self (E_w_HEARTBEAT.ext f82.2))) (g := (mkF m 61 #[.val (.int p1), .val (.int p2), .unset, .unset, .unset, .unset, .unset, .unset, .unset, .unset, .unset, .unset, .unset, .unset] [(.ref w_HEARTBEAT), (.int (8 : Int32)), (.ref b1), (.ref b1)])) rfl rfl (hb hby at_61)
  have V88 : Arv Z h88 b1 k1 (.object "com/example/consort/consort/protocol/ApiKey") (26 : Int32) [(.ref w_PRODUCE), (.ref w_FETCH), (.ref w_LIST_OFFSETS), (.ref w_METADATA), (.ref w_OFFSET_COMMIT), (.ref w_OFFSET_FETCH), (.ref w_FIND_COORDINATOR), (.ref w_JOIN_GROUP), (.ref w_HEARTBEAT), .null, .null, .null, .null, .null, .null, .null, .null, .null, .null, .null, .null, .null, .null, .null, .null, .null] .null := Arv.set Aar87 qar87 Sar87 Nar87 Har87 Gar87 rfl W88 8 rfl (Nat.le_of_ble_eq_true rfl)
  have f89 := f82.wr W88 g_b1
  have zs91 : n0 ≤ h88.size := Nat.le_trans zs84 (Keep.of_wr W88).1
  have N92 := Fr.snoc X88 N85 g_b1
  obtain ⟨T93, X93, e93, st93⟩ := getS2 X88 hx hZ hown (host := "") (Or.inl (hw _ (List.mem_of_getElem? (i := 22) rfl))) Via.refl e88 (S_LEAVE_GROUP.ext f89.2) (g := (mkF m 65 #[.val (.int p1), .val (.int p2), .unset, .unset, .unset, .unset, .unset, .unset, .unset, .unset, .unset, .unset, .unset, .unset] [(.int (9 : Int32)), (.ref b1), (.ref b1)])) rfl (hb hby at_65)
  obtain ⟨car94, Aar94, qar94, Sar94, Nar94, Har94, Gar94⟩ := id V88
  have hinar94 : ¬ ((9 : Int32) < 0 ∨ car94.slots.size ≤ ((9 : Int32)).toNatClampNeg) := inb_of Sar94 ⟨by decide, by decide⟩
  obtain ⟨T95, h95, X95, e95, W95, st95⟩ := stR X93 hx hZ e93 Aar94 (j := (9 : Int32)) hinar94 rfl (Sto.ofV Aar94 qar94 O1 (Ins.self (E_w_LEAVE_GROUP.ext f89.2))) (g := (mkF m 68 #[.val (.int p1), .val (.int p2), .unset, .unset, .unset, .unset, .unset, .unset, .unset, .unset, .unset, .unset, .unset, .unset] [(.ref w_LEAVE_GROUP), (.int (9 : Int32)), (.ref b1), (.ref b1)])) rfl rfl (hb hby at_68)
  have V95 : Arv Z h95 b1 k1 (.object "com/example/consort/consort/protocol/ApiKey") (26 : Int32) [(.ref w_PRODUCE), (.ref w_FETCH), (.ref w_LIST_OFFSETS), (.ref w_METADATA), (.ref w_OFFSET_COMMIT), (.ref w_OFFSET_FETCH), (.ref w_FIND_COORDINATOR), (.ref w_JOIN_GROUP), (.ref w_HEARTBEAT), (.ref w_LEAVE_GROUP), .null, .null, .null, .null, .null, .null, .null, .null, .null, .null, .null, .null, .null, .null, .null, .null] .null := Arv.set Aar94 qar94 Sar94 Nar94 Har94 Gar94 rfl W95 9 rfl (Nat.le_of_ble_eq_true rfl)
  have f96 := f89.wr W95 g_b1
  have zs98 : n0 ≤ h95.size := Nat.le_trans zs91 (Keep.of_wr W95).1
  have N99 := Fr.snoc X95 N92 g_b1
  obtain ⟨T100, X100, e100, st100⟩ := getS2 X95 hx hZ hown (host := "") (Or.inl (hw _ (List.mem_of_getElem? (i := 24) rfl))) Via.refl e95 (S_SYNC_GROUP.ext f96.2) (g := (mkF m 72 #[.val (.int p1), .val (.int p2), .unset, .unset, .unset, .unset, .unset, .unset, .unset, .unset, .unset, .unset, .unset, .unset] [(.int (10 : Int32)), (.ref b1), (.ref b1)])) rfl (hb hby at_72)
  obtain ⟨car101, Aar101, qar101, Sar101, Nar101, Har101, Gar101⟩ := id V95
  have hinar101 : ¬ ((10 : Int32) < 0 ∨ car101.slots.size ≤ ((10 : Int32)).toNatClampNeg) := inb_of Sar101 ⟨by decide, by decide⟩
  obtain ⟨T102, h102, X102, e102, W102, st102⟩ := stR X100 hx hZ e100 Aar101 (j := (10 : Int32)) hinar101 rfl (Sto.ofV Aar101 qar101 O1 (Ins.self (E_w_SYNC_GROUP.ext f96.2))) (g := (mkF m 75 #[.val (.int p1), .val (.int p2), .unset, .unset, .unset, .unset, .unset, .unset, .unset, .unset, .unset, .unset, .unset, .unset] [(.ref w_SYNC_GROUP), (.int (10 : Int32)), (.ref b1), (.ref b1)])) rfl rfl (hb hby at_75)
  have V102 : Arv Z h102 b1 k1 (.object "com/example/consort/consort/protocol/ApiKey") (26 : Int32) [(.ref w_PRODUCE), (.ref w_FETCH), (.ref w_LIST_OFFSETS), (.ref w_METADATA), (.ref w_OFFSET_COMMIT), (.ref w_OFFSET_FETCH), (.ref w_FIND_COORDINATOR), (.ref w_JOIN_GROUP), (.ref w_HEARTBEAT), (.ref w_LEAVE_GROUP), (.ref w_SYNC_GROUP), .null, .null, .null, .null, .null, .null, .null, .null, .null, .null, .null, .null, .null, .null, .null] .null := Arv.set Aar101 qar101 Sar101 Nar101 Har101 Gar101 rfl W102 10 rfl (Nat.le_of_ble_eq_true rfl)
  have f103 := f96.wr W102 g_b1
  have zs105 : n0 ≤ h102.size := Nat.le_trans zs98 (Keep.of_wr W102).1
  have N106 := Fr.snoc X102 N99 g_b1
  obtain ⟨T107, X107, e107, st107⟩ := getS2 X102 hx hZ hown (host := "") (Or.inl (hw _ (List.mem_of_getElem? (i := 26) rfl))) Via.refl e102 (S_DESCRIBE_GROUPS.ext f103.2) (g := (mkF m 79 #[.val (.int p1), .val (.int p2), .unset, .unset, .unset, .unset, .unset, .unset, .unset, .unset, .unset, .unset, .unset, .unset] [(.int (11 : Int32)), (.ref b1), (.ref b1)])) rfl (hb hby at_79)
  obtain ⟨car108, Aar108, qar108, Sar108, Nar108, Har108, Gar108⟩ := id V102
  have hinar108 : ¬ ((11 : Int32) < 0 ∨ car108.slots.size ≤ ((11 : Int32)).toNatClampNeg) := inb_of Sar108 ⟨by decide, by decide⟩
  obtain ⟨T109, h109, X109, e109, W109, st109⟩ := stR X107 hx hZ e107 Aar108 (j := (11 : Int32)) hinar108 rfl (Sto.ofV Aar108 qar108 O1 (Ins.self (E_w_DESCRIBE_GROUPS.ext f103.2))) (g := (mkF m 82 #[.val (.int p1), .val (.int p2), .unset, .unset, .unset, .unset, .unset, .unset, .unset, .unset, .unset, .unset, .unset, .unset] [(.ref w_DESCRIBE_GROUPS), (.int (11 : Int32)), (.ref b1), (.ref b1)])) rfl rfl (hb hby at_82)
  have V109 : Arv Z h109 b1 k1 (.object "com/example/consort/consort/protocol/ApiKey") (26 : Int32) [(.ref w_PRODUCE), (.ref w_FETCH), (.ref w_LIST_OFFSETS), (.ref w_METADATA), (.ref w_OFFSET_COMMIT), (.ref w_OFFSET_FETCH), (.ref w_FIND_COORDINATOR), (.ref w_JOIN_GROUP), (.ref w_HEARTBEAT), (.ref w_LEAVE_GROUP), (.ref w_SYNC_GROUP), (.ref w_DESCRIBE_GROUPS), .null, .null, .null, .null, .null, .null, .null, .null, .null, .null, .null, .null, .null, .null] .null := Arv.set Aar108 qar108 Sar108 Nar108 Har108 Gar108 rfl W109 11 rfl (Nat.le_of_ble_eq_true rfl)
  have f110 := f103.wr W109 g_b1
  have zs112 : n0 ≤ h109.size := Nat.le_trans zs105 (Keep.of_wr W109).1
  have N113 := Fr.snoc X109 N106 g_b1
  obtain ⟨T114, X114, e114, st114⟩ := getS2 X109 hx hZ hown (host := "") (Or.inl (hw _ (List.mem_of_getElem? (i := 28) rfl))) Via.refl e109 (S_LIST_GROUPS.ext f110.2) (g := (mkF m 86 #[.val (.int p1), .val (.int p2), .unset, .unset, .unset, .unset, .unset, .unset, .unset, .unset, .unset, .unset, .unset, .unset] [(.int (12 : Int32)), (.ref b1), (.ref b1)])) rfl (hb hby at_86)
  obtain ⟨car115, Aar115, qar115, Sar115, Nar115, Har115, Gar115⟩ := id V109
  have hinar115 : ¬ ((12 : Int32) < 0 ∨ car115.slots.size ≤ ((12 : Int32)).toNatClampNeg) := inb_of Sar115 ⟨by decide, by decide⟩
  obtain ⟨T116, h116, X116, e116, W116, st116⟩ := stR X114 hx hZ e114 Aar115 (j := (12 : Int32)) hinar115 rfl (Sto.ofV Aar115 qar115 O1 (Ins.self (E_w_LIST_GROUPS.ext f110.2))) (g := (mkF m 89 #[.val (.int p1), .val (.int p2), .unset, .unset, .unset, .unset, .unset, .unset, .unset, .unset, .unset, .unset, .unset, .unset] [(.ref w_LIST_GROUPS), (.int (12 : Int32)), (.ref b1), (.ref b1)])) rfl rfl (hb hby at_89)
  have V116 : Arv Z h116 b1 k1 (.object "com/example/consort/consort/protocol/ApiKey") (26 : Int32) [(.ref w_PRODUCE), (.ref w_FETCH), (.ref w_LIST_OFFSETS), (.ref w_METADATA), (.ref w_OFFSET_COMMIT), (.ref w_OFFSET_FETCH), (.ref w_FIND_COORDINATOR), (.ref w_JOIN_GROUP), (.ref w_HEARTBEAT), (.ref w_LEAVE_GROUP), (.ref w_SYNC_GROUP), (.ref w_DESCRIBE_GROUPS), (.ref w_LIST_GROUPS), .null, .null, .null, .null, .null, .null, .null, .null, .null, .null, .null, .null, .null] .null := Arv.set Aar115 qar115 Sar115 Nar115 Har115 Gar115 rfl W116 12 rfl (Nat.le_of_ble_eq_true rfl)
  have f117 := f110.wr W116 g_b1
  have zs119 : n0 ≤ h116.size := Nat.le_trans zs112 (Keep.of_wr W116).1
  have N120 := Fr.snoc X116 N113 g_b1
  obtain ⟨T121, X121, e121, st121⟩ := getS2 X116 hx hZ hown (host := "") (Or.inl (hw _ (List.mem_of_getElem? (i := 30) rfl))) Via.refl e116 (S_API_VERSIONS.ext f117.2) (g := (mkF m 93 #[.val (.int p1), .val (.int p2), .unset, .unset, .unset, .unset, .unset, .unset, .unset, .unset, .unset, .unset, .unset, .unset] [(.int (13 : Int32)), (.ref b1), (.ref b1)])) rfl (hb hby at_93)
  obtain ⟨car122, Aar122, qar122, Sar122, Nar122, Har122, Gar122⟩ := id V116
  have hinar122 : ¬ ((13 : Int32) < 0 ∨ car122.slots.size ≤ ((13 : Int32)).toNatClampNeg) := inb_of Sar122 ⟨by decide, by decide⟩
  obtain ⟨T123, h123, X123, e123, W123, st123⟩ := stR X121 hx hZ e121 Aar122 (j := (13 : Int32)) hinar122 rfl (Sto.ofV Aar122 qar122 O1 (Ins.self (E_w_API_VERSIONS.ext f117.2))) (g := (mkF m 96 #[.val (.int p1), .val (.int p2), .unset, .unset, .unset, .unset, .unset, .unset, .unset, .unset, .unset, .unset, .unset, .unset] [(.ref w_API_VERSIONS), (.int (13 : Int32)), (.ref b1), (.ref b1)])) rfl rfl (hb hby at_96)
  have V123 : Arv Z h123 b1 k1 (.object "com/example/consort/consort/protocol/ApiKey") (26 : Int32) [(.ref w_PRODUCE), (.ref w_FETCH), (.ref w_LIST_OFFSETS), (.ref w_METADATA), (.ref w_OFFSET_COMMIT), (.ref w_OFFSET_FETCH), (.ref w_FIND_COORDINATOR), (.ref w_JOIN_GROUP), (.ref w_HEARTBEAT), (.ref w_LEAVE_GROUP), (.ref w_SYNC_GROUP), (.ref w_DESCRIBE_GROUPS), (.ref w_LIST_GROUPS), (.ref w_API_VERSIONS), .null, .null, .null, .null, .null, .null, .null, .null, .null, .null, .null, .null] .null := Arv.set Aar122 qar122 Sar122 Nar122 Har122 Gar122 rfl W123 13 rfl (Nat.le_of_ble_eq_true rfl)
  have f124 := f117.wr W123 g_b1
  have zs126 : n0 ≤ h123.size := Nat.le_trans zs119 (Keep.of_wr W123).1
  have N127 := Fr.snoc X123 N120 g_b1
  obtain ⟨T128, X128, e128, st128⟩ := getS2 X123 hx hZ hown (host := "") (Or.inl (hw _ (List.mem_of_getElem? (i := 32) rfl))) Via.refl e123 (S_CREATE_TOPICS.ext f124.2) (g := (mkF m 100 #[.val (.int p1), .val (.int p2), .unset, .unset, .unset, .unset, .unset, .unset, .unset, .unset, .unset, .unset, .unset, .unset] [(.int (14 : Int32)), (.ref b1), (.ref b1)])) rfl (hb hby at_100)
  obtain ⟨car129, Aar129, qar129, Sar129, Nar129, Har129, Gar129⟩ := id V123
  have hinar129 : ¬ ((14 : Int32) < 0 ∨ car129.slots.size ≤ ((14 : Int32)).toNatClampNeg) := inb_of Sar129 ⟨by decide, by decide⟩
  obtain ⟨T130, h130, X130, e130, W130, st130⟩ := stR X128 hx hZ e128 Aar129 (j := (14 : Int32)) hinar129 rfl (Sto.ofV Aar129 qar129 O1 (Ins.self (E_w_CREATE_TOPICS.ext f124.2))) (g := (mkF m 103 #[.val (.int p1), .val (.int p2), .unset, .unset, .unset, .unset, .unset, .unset, .unset, .unset, .unset, .unset, .unset, .unset] [(.ref w_CREATE_TOPICS), (.int (14 : Int32)), (.ref b1), (.ref b1)])) rfl rfl (hb hby at_103)
  have V130 : Arv Z h130 b1 k1 (.object "com/example/consort/consort/protocol/ApiKey") (26 : Int32) [(.ref w_PRODUCE), (.ref w_FETCH), (.ref w_LIST_OFFSETS), (.ref w_METADATA), (.ref w_OFFSET_COMMIT), (.ref w_OFFSET_FETCH), (.ref w_FIND_COORDINATOR), (.ref w_JOIN_GROUP), (.ref w_HEARTBEAT), (.ref w_LEAVE_GROUP), (.ref w_SYNC_GROUP), (.ref w_DESCRIBE_GROUPS), (.ref w_LIST_GROUPS), (.ref w_API_VERSIONS), (.ref w_CREATE_TOPICS), .null, .null, .null, .null, .null, .null, .null, .null, .null, .null, .null] .null := Arv.set Aar129 qar129 Sar129 Nar129 Har129 Gar129 rfl W130 14 rfl (Nat.le_of_ble_eq_true rfl)
  have f131 := f124.wr W130 g_b1
  have zs133 : n0 ≤ h130.size := Nat.le_trans zs126 (Keep.of_wr W130).1
  have N134 := Fr.snoc X130 N127 g_b1
  obtain ⟨T135, X135, e135, st135⟩ := getS2 X130 hx hZ hown (host := "") (Or.inl (hw _ (List.mem_of_getElem? (i := 34) rfl))) Via.refl e130 (S_DELETE_TOPICS.ext f131.2) (g := (mkF m 107 #[.val (.int p1), .val (.int p2), .unset, .unset, .unset, .unset, .unset, .unset, .unset, .unset, .unset, .unset, .unset, .unset] [(.int (15 : Int32)), (.ref b1), (.ref b1)])) rfl (hb hby at_107)
  obtain ⟨car136, Aar136, qar136, Sar136, Nar136, Har136, Gar136⟩ := id V130
  have hinar136 : ¬ ((15 : Int32) < 0 ∨ car136.slots.size ≤ ((15 : Int32)).toNatClampNeg) := inb_of Sar136 ⟨by decide, by decide⟩
  obtain ⟨T137, h137, X137, e137, W137, st137⟩ := stR X135 hx hZ e135 Aar136 (j := (15 : Int32)) hinar136 rfl (Sto.ofV Aar136 qar136 O1 (Ins.self (E_w_DELETE_TOPICS.ext f131.2))) (g := (mkF m 110 #[.val (.int p1), .val (.int p2), .unset, .unset, .unset, .unset, .unset, .unset, .unset, .unset, .unset, .unset, .unset, .unset] [(.ref w_DELETE_TOPICS), (.int (15 : Int32)), (.ref b1), (.ref b1)])) rfl rfl (hb hby at_110)
  have V137 : Arv Z h137 b1 k1 (.object "com/example/consort/consort/protocol/ApiKey") (26 : Int32) [(.ref w_PRODUCE), (.ref w_FETCH), (.ref w_LIST_OFFSETS), (.ref w_METADATA), (.ref w_OFFSET_COMMIT), (.ref w_OFFSET_FETCH), (.ref w_FIND_COORDINATOR), (.ref w_JOIN_GROUP), (.ref w_HEARTBEAT), (.ref w_LEAVE_GROUP), (.ref w_SYNC_GROUP), (.ref w_DESCRIBE_GROUPS), (.ref w_LIST_GROUPS), (.ref w_API_VERSIONS), (.ref w_CREATE_TOPICS), (.ref w_DELETE_TOPICS), .null, .null, .null, .null, .null, .null, .null, .null, .null, .null] .null := Arv.set Aar136 qar136 Sar136 Nar136 Har136 Gar136 rfl W137 15 rfl (Nat.le_of_ble_eq_true rfl)
  have f138 := f131.wr W137 g_b1
  have zs140 : n0 ≤ h137.size := Nat.le_trans zs133 (Keep.of_wr W137).1
  have N141 := Fr.snoc X137 N134 g_b1
  obtain ⟨T142, X142, e142, st142⟩ := getS2 X137 hx hZ hown (host := "") (Or.inl (hw _ (List.mem_of_getElem? (i := 36) rfl))) Via.refl e137 (S_INIT_PRODUCER_ID.ext f138.2) (g := (mkF m 114 #[.val (.int p1), .val (.int p2), .unset, .unset, .unset, .unset, .unset, .unset, .unset, .unset, .unset, .unset, .unset, .unset] [(.int (16 : Int32)), (.ref b1), (.ref b1)])) rfl (hb hby at_114)
  obtain ⟨car143, Aar143, qar143, Sar143, Nar143, Har143, Gar143⟩ := id V137
  have hinar143 : ¬ ((16 : Int32) < 0 ∨ car143.slots.size ≤ ((16 : Int32)).toNatClampNeg) := inb_of Sar143 ⟨by decide, by decide⟩
  obtain ⟨T144, h144, X144, e144, W144, st144⟩ := stR X142 hx hZ e142 Aar143 (j := (16 : Int32)) hinar143 rfl (Sto.ofV Aar143 qar143 O1 (Ins.self (E_w_INIT_PRODUCER_ID.ext f138.2))) (g := (mkF m 117 #[.val (.int p1), .val (.int p2), .unset, .unset, .unset, .unset, .unset, .unset, .unset, .unset, .unset, .unset, .unset, .unset] [(.ref w_INIT_PRODUCER_ID), (.int (16 : Int32)), (.ref b1), (.ref b1)])) rfl rfl (hb hby at_117)
  have V144 : Arv Z h144 b1 k1 (.object "com/example/consort/consort/protocol/ApiKey") (26 : Int32) [(.ref w_PRODUCE), (.ref w_FETCH), (.ref w_LIST_OFFSETS), (.ref w_METADATA), (.ref w_OFFSET_COMMIT), (.ref w_OFFSET_FETCH), (.ref w_FIND_COORDINATOR), (.ref w_JOIN_GROUP), (.ref w_HEARTBEAT), (.ref w_LEAVE_GROUP), (.ref w_SYNC_GROUP), (.ref w_DESCRIBE_GROUPS), (.ref w_LIST_GROUPS), (.ref w_API_VERSIONS), (.ref w_CREATE_TOPICS), (.ref w_DELETE_TOPICS), (.ref w_INIT_PRODUCER_ID), .null, .null, .null, .null, .null, .null, .null, .null, .null] .null := Arv.set Aar143 qar143 Sar143 Nar143 Har143 Gar143 rfl W144 16 rfl (Nat.le_of_ble_eq_true rfl)
  have f145 := f138.wr W144 g_b1
  have zs147 : n0 ≤ h144.size := Nat.le_trans zs140 (Keep.of_wr W144).1
  have N148 := Fr.snoc X144 N141 g_b1
  obtain ⟨T149, X149, e149, st149⟩ := getS2 X144 hx hZ hown (host := "") (Or.inl (hw _ (List.mem_of_getElem? (i := 38) rfl))) Via.refl e144 (S_ADD_PARTITIONS_TO_TXN.ext f145.2) (g := (mkF m 121 #[.val (.int p1), .val (.int p2), .unset, .unset, .unset, .unset, .unset, .unset, .unset, .unset, .unset, .unset, .unset, .unset] [(.int (17 : Int32)), (.ref b1), (.ref b1)])) rfl (hb hby at_121)
  obtain ⟨car150, Aar150, qar150, Sar150, Nar150, Har150, Gar150⟩ := id V144
  have hinar150 : ¬ ((17 : Int32) < 0 ∨ car150.slots.size ≤ ((17 : Int32)).toNatClampNeg) := inb_of Sar150 ⟨by decide, by decide⟩
  obtain ⟨T151, h151, X151, e151, W151, st151⟩ := stR X149 hx hZ e149 Aar150 (j := (17 : Int32)) hinar150 rfl (Sto.ofV Aar150 qar150 O1 (Ins.self (E_w_ADD_PARTITIONS_TO_TXN.ext f145.2))) (g := (mkF m 124 #[.val (.int p1), .val (.int p2), .unset, .unset, .unset, .unset, .unset, .unset, .unset, .unset, .unset, .unset, .unset, .unset] [(.ref w_ADD_PARTITIONS_TO_TXN), (.int (17 : Int32)), (.ref b1), (.ref b1)])) rfl rfl (hb hby at_124)
  have V151 : Arv Z h151 b1 k1 (.object "com/example/consort/consort/protocol/ApiKey") (26 : Int32) [(.ref w_PRODUCE), (.ref w_FETCH), (.ref w_LIST_OFFSETS), (.ref w_METADATA), (.ref w_OFFSET_COMMIT), (.ref w_OFFSET_FETCH), (.ref w_FIND_COORDINATOR), (.ref w_JOIN_GROUP), (.ref w_HEARTBEAT), (.ref w_LEAVE_GROUP), (.ref w_SYNC_GROUP), (.ref w_DESCRIBE_GROUPS), (.ref w_LIST_GROUPS), (.ref w_API_VERSIONS), (.ref w_CREATE_TOPICS), (.ref w_DELETE_TOPICS), (.ref w_INIT_PRODUCER_ID), (.ref w_ADD_PARTITIONS_TO_TXN), .null, .null, .null, .null, .null, .null, .null, .null] .null := Arv.set Aar150 qar150 Sar150 Nar150 Har150 Gar150 rfl W151 17 rfl (Nat.le_of_ble_eq_true rfl)
  have f152 := f145.wr W151 g_b1
  have zs154 : n0 ≤ h151.size := Nat.le_trans zs147 (Keep.of_wr W151).1
  have N155 := Fr.snoc X151 N148 g_b1
  obtain ⟨T156, X156, e156, st156⟩ := getS2 X151 hx hZ hown (host := "") (Or.inl (hw _ (List.mem_of_getElem? (i := 40) rfl))) Via.refl e151 (S_ADD_OFFSETS_TO_TXN.ext f152.2) (g := (mkF m 128 #[.val (.int p1), .val (.int p2), .unset, .unset, .unset, .unset, .unset, .unset, .unset, .unset, .unset, .unset, .unset, .unset] [(.int (18 : Int32)), (.ref b1), (.ref b1)])) rfl (hb hby at_128)
  obtain ⟨car157, Aar157, qar157, Sar157, Nar157, Har157, Gar157⟩ := id V151
  have hinar157 : ¬ ((18 : Int32) < 0 ∨ car157.slots.size ≤ ((18 : Int32)).toNatClampNeg) := inb_of Sar157 ⟨by decide, by decide⟩
  obtain ⟨T158, h158, X158, e158, W158, st158⟩ := stR X156 hx hZ e156 Aar157 (j := (18 : Int32)) hinar157 rfl (Sto.ofV Aar157 qar157 O1 (Ins.self (E_w_ADD_OFFSETS_TO_TXN.ext f152.2))) (g := (mkF m 131 #[.val (.int p1), .val (.int p2), .unset, .unset, .unset, .unset, .unset, .unset, .unset, .unset, .unset, .unset, .unset, .unset] [(.ref w_ADD_OFFSETS_TO_TXN), (.int (18 : Int32)), (.ref b1), (.ref b1)])) rfl rfl (hb hby at_131)
  have V158 : Arv Z h158 b1 k1 (.object "com/example/consort/consort/protocol/ApiKey") (26 : Int32) [(.ref w_PRODUCE), (.ref w_FETCH), (.ref w_LIST_OFFSETS), (.ref w_METADATA), (.ref w_OFFSET_COMMIT), (.ref w_OFFSET_FETCH), (.ref w_FIND_COORDINATOR), (.ref w_JOIN_GROUP), (.ref w_HEARTBEAT), (.ref w_LEAVE_GROUP), (.ref w_SYNC_GROUP), (.ref w_DESCRIBE_GROUPS), (.ref w_LIST_GROUPS), (.ref w_API_VERSIONS), (.ref w_CREATE_TOPICS), (.ref w_DELETE_TOPICS), (.ref w_INIT_PRODUCER_ID), (.ref w_ADD_PARTITIONS_TO_TXN), (.ref w_ADD_OFFSETS_TO_TXN), .null, .null, .null, .null, .null, .null, .null] .null := Arv.set Aar157 qar157 Sar157 Nar157 Har157 Gar157 rfl W158 18 rfl (Nat.le_of_ble_eq_true rfl)
  have f159 := f152.wr W158 g_b1
  have zs161 : n0 ≤ h158.size := Nat.le_trans zs154 (Keep.of_wr W158).1
  have N162 := Fr.snoc X158 N155 g_b1
  obtain ⟨T163, X163, e163, st163⟩ := getS2 X158 hx hZ hown (host := "") (Or.inl (hw _ (List.mem_of_getElem? (i := 42) rfl))) Via.refl e158 (S_END_TXN.ext f159.2) (g := (mkF m 135 #[.val (.int p1), .val (.int p2), .unset, .unset, .unset, .unset, .unset, .unset, .unset, .unset, .unset, .unset, .unset, .unset] [(.int (19 : Int32)), (.ref b1), (.ref b1)])) rfl (hb hby at_135)
  obtain ⟨car164, Aar164, qar164, Sar164, Nar164, Har164, Gar164⟩ := id V158
  have hinar164 : ¬ ((19 : Int32) < 0 ∨ car164.slots.size ≤ ((19 : Int32)).toNatClampNeg) := inb_of Sar164 ⟨by decide, by decide⟩
  obtain ⟨T165, h165, X165, e165, W165, st165⟩ := stR X163 hx hZ e163 Aar164 (j := (19 : Int32)) hinar164 rfl (Sto.ofV Aar164 qar164 O1 (Ins.self (E_w_END_TXN.ext f159.2))) (g := (mkF m 138 #[.val (.int p1), .val (.int p2), .unset, .unset, .unset, .unset, .unset, .unset, .unset, .unset, .unset, .unset, .unset, .unset] [(.ref w_END_TXN), (.int (19 : Int32)), (.ref b1), (.ref b1)])) rfl rfl (hb hby at_138)
  have V165 : Arv Z h165 b1 k1 (.object "com/example/consort/consort/protocol/ApiKey") (26 : Int32) [(.ref w_PRODUCE), (.ref w_FETCH), (.ref w_LIST_OFFSETS), (.ref w_METADATA), (.ref w_OFFSET_COMMIT), (.ref w_OFFSET_FETCH), (.ref w_FIND_COORDINATOR), (.ref w_JOIN_GROUP), (.ref w_HEARTBEAT), (.ref w_LEAVE_GROUP), (.ref w_SYNC_GROUP), (.ref w_DESCRIBE_GROUPS), (.ref w_LIST_GROUPS), (.ref w_API_VERSIONS), (.ref w_CREATE_TOPICS), (.ref w_DELETE_TOPICS), (.ref w_INIT_PRODUCER_ID), (.ref w_ADD_PARTITIONS_TO_TXN), (.ref w_ADD_OFFSETS_TO_TXN), (.ref w_END_TXN), .null, .null, .null, .null, .null, .null] .null := Arv.set Aar164 qar164 Sar164 Nar164 Har164 Gar164 rfl W165 19 rfl (Nat.le_of_ble_eq_true rfl)
  have f166 := f159.wr W165 g_b1
  have zs168 : n0 ≤ h165.size := Nat.le_trans zs161 (Keep.of_wr W165).1
  have N169 := Fr.snoc X165 N162 g_b1
  obtain ⟨T170, X170, e170, st170⟩ := getS2 X165 hx hZ hown (host := "") (Or.inl (hw _ (List.mem_of_getElem? (i := 44) rfl))) Via.refl e165 (S_TXN_OFFSET_COMMIT.ext f166.2) (g := (mkF m 142 #[.val (.int p1), .val (.int p2), .unset, .unset, .unset, .unset, .unset, .unset, .unset, .unset, .unset, .unset, .unset, .unset] [(.int (20 : Int32)), (.ref b1), (.ref b1)])) rfl (hb hby at_142)
  obtain ⟨car171, Aar171, qar171, Sar171, Nar171, Har171, Gar171⟩ := id V165
  have hinar171 : ¬ ((20 : Int32) < 0 ∨ car171.slots.size ≤ ((20 : Int32)).toNatClampNeg) := inb_of Sar171 ⟨by decide, by decide⟩
  obtain ⟨T172, h172, X172, e172, W172, st172⟩ := stR X170 hx hZ e170 Aar171 (j := (20 : Int32)) hinar171 rfl (Sto.ofV Aar171 qar171 O1 (Ins.self (E_w_TXN_OFFSET_COMMIT.ext f166.2))) (g := (mkF m 145 #[.val (.int p1), .val (.int p2), .unset, .unset, .unset, .unset, .unset, .unset, .unset, .unset, .unset, .unset, .unset, .unset] [(.ref w_TXN_OFFSET_COMMIT), (.int (20 : Int32)), (.ref b1), (.ref b1)])) rfl rfl (hb hby at_145)
  have V172 : Arv Z h172 b1 k1 (.object "com/example/consort/consort/protocol/ApiKey") (26 : Int32) [(.ref w_PRODUCE), (.ref w_FETCH), (.ref w_LIST_OFFSETS), (.ref w_METADATA), (.ref w_OFFSET_COMMIT), (.ref w_OFFSET_FETCH), (.ref w_FIND_COORDINATOR), (.ref w_JOIN_GROUP), (.ref w_HEARTBEAT), (.ref w_LEAVE_GROUP), (.ref w_SYNC_GROUP), (.ref w_DESCRIBE_GROUPS), (.ref w_LIST_GROUPS), (.ref w_API_VERSIONS), (.ref w_CREATE_TOPICS), (.ref w_DELETE_TOPICS), (.ref w_INIT_PRODUCER_ID), (.ref w_ADD_PARTITIONS_TO_TXN), (.ref w_ADD_OFFSETS_TO_TXN), (.ref w_END_TXN), (.ref w_TXN_OFFSET_COMMIT), .null, .null, .null, .null, .null] .null := Arv.set Aar171 qar171 Sar171 Nar171 Har171 Gar171 rfl W172 20 rfl (Nat.le_of_ble_eq_true rfl)
  have f173 := f166.wr W172 g_b1
  have zs175 : n0 ≤ h172.size := Nat.le_trans zs168 (Keep.of_wr W172).1
  have N176 := Fr.snoc X172 N169 g_b1
  obtain ⟨T177, X177, e177, st177⟩ := getS2 X172 hx hZ hown (host := "") (Or.inl (hw _ (List.mem_of_getElem? (i := 46) rfl))) Via.refl e172 (S_DESCRIBE_CONFIGS.ext f173.2) (g := (mkF m 149 #[.val (.int p1), .val (.int p2), .unset, .unset, .unset, .unset, .unset, .unset, .unset, .unset, .unset, .unset, .unset, .unset] [(.int (21 : Int32)), (.ref b1), (.ref b1)])) rfl (hb hby at_149)
  obtain ⟨car178, Aar178, qar178, Sar178, Nar178, Har178, Gar178⟩ := id V172
  have hinar178 : ¬ ((21 : Int32) < 0 ∨ car178.slots.size ≤ ((21 : Int32)).toNatClampNeg) := inb_of Sar178 ⟨by decide, by decide⟩
  obtain ⟨T179, h179, X179, e179, W179, st179⟩ := stR X177 hx hZ e177 Aar178 (j := (21 : Int32)) hinar178 rfl (Sto.ofV Aar178 qar178 O1 (Ins.self (E_w_DESCRIBE_CONFIGS.ext f173.2))) (g := (mkF m 152 #[.val (.int p1), .val (.int p2), .unset, .unset, .unset, .unset, .unset, .unset, .unset, .unset, .unset, .unset, .unset, .unset] [(.ref w_DESCRIBE_CONFIGS), (.int (21 : Int32)), (.ref b1), (.ref b1)])) rfl rfl (hb hby at_152)
  have V179 : Arv Z h179 b1 k1 (.object "com/example/consort/consort/protocol/ApiKey") (26 : Int32) [(.ref w_PRODUCE), (.ref w_FETCH), (.ref w_LIST_OFFSETS), (.ref w_METADATA), (.ref w_OFFSET_COMMIT), (.ref w_OFFSET_FETCH), (.ref w_FIND_COORDINATOR), (.ref w_JOIN_GROUP), (.ref w_HEARTBEAT), (.ref w_LEAVE_GROUP), (.ref w_SYNC_GROUP), (.ref w_DESCRIBE_GROUPS), (.ref w_LIST_GROUPS), (.ref w_API_VERSIONS), (.ref w_CREATE_TOPICS), (.ref w_DELETE_TOPICS), (.ref w_INIT_PRODUCER_ID), (.ref w_ADD_PARTITIONS_TO_TXN), (.ref w_ADD_OFFSETS_TO_TXN), (.ref w_END_TXN), (.ref w_TXN_OFFSET_COMMIT), (.ref w_DESCRIBE_CONFIGS), .null, .null, .null, .null] .null := Arv.set Aar178 qar178 Sar178 Nar178 Har178 Gar178 rfl W179 21 rfl (Nat.le_of_ble_eq_true rfl)
  have f180 := f173.wr W179 g_b1
  have zs182 : n0 ≤ h179.size := Nat.le_trans zs175 (Keep.of_wr W179).1
  have N183 := Fr.snoc X179 N176 g_b1
  obtain ⟨T184, X184, e184, st184⟩ := getS2 X179 hx hZ hown (host := "") (Or.inl (hw _ (List.mem_of_getElem? (i := 48) rfl))) Via.refl e179 (S_ALTER_CONFIGS.ext f180.2) (g := (mkF m 156 #[.val (.int p1), .val (.int p2), .unset, .unset, .unset, .unset, .unset, .unset, .unset, .unset, .unset, .unset, .unset, .unset] [(.int (22 : Int32)), (.ref b1), (.ref b1)])) rfl (hb hby at_156)
  obtain ⟨car185, Aar185, qar185, Sar185, Nar185, Har185, Gar185⟩ := id V179
  have hinar185 : ¬ ((22 : Int32) < 0 ∨ car185.slots.size ≤ ((22 : Int32)).toNatClampNeg) := inb_of Sar185 ⟨by decide, by decide⟩
  obtain ⟨T186, h186, X186, e186, W186, st186⟩ := stR X184 hx hZ e184 Aar185 (j := (22 : Int32)) hinar185 rfl (Sto.ofV Aar185 qar185 O1 (Ins.self (E_w_ALTER_CONFIGS.ext f180.2))) (g := (mkF m 159 #[.val (.int p1), .val (.int p2), .unset, .unset, .unset, .unset, .unset, .unset, .unset, .unset, .unset, .unset, .unset, .unset] [(.ref w_ALTER_CONFIGS), (.int (22 : Int32)), (.ref b1), (.ref b1)])) rfl rfl (hb hby at_159)
  have V186 : Arv Z h186 b1 k1 (.object "com/example/consort/consort/protocol/ApiKey") (26 : Int32) [(.ref w_PRODUCE), (.ref w_FETCH), (.ref w_LIST_OFFSETS), (.ref w_METADATA), (.ref w_OFFSET_COMMIT), (.ref w_OFFSET_FETCH), (.ref w_FIND_COORDINATOR), (.ref w_JOIN_GROUP), (.ref w_HEARTBEAT), (.ref w_LEAVE_GROUP), (.ref w_SYNC_GROUP), (.ref w_DESCRIBE_GROUPS), (.ref w_LIST_GROUPS), (.ref w_API_VERSIONS), (.ref w_CREATE_TOPICS), (.ref w_DELETE_TOPICS), (.ref w_INIT_PRODUCER_ID), (.ref w_ADD_PARTITIONS_TO_TXN), (.ref w_ADD_OFFSETS_TO_TXN), (.ref w_END_TXN), (.ref w_TXN_OFFSET_COMMIT), (.ref w_DESCRIBE_CONFIGS), (.ref w_ALTER_CONFIGS), .null, .null, .null] .null := Arv.set Aar185 qar185 Sar185 Nar185 Har185 Gar185 rfl W186 22 rfl (Nat.le_of_ble_eq_true rfl)
  have f187 := f180.wr W186 g_b1
  have zs189 : n0 ≤ h186.size := Nat.le_trans zs182 (Keep.of_wr W186).1
  have N190 := Fr.snoc X186 N183 g_b1
  obtain ⟨T191, X191, e191, st191⟩ := getS2 X186 hx hZ hown (host := "") (Or.inl (hw _ (List.mem_of_getElem? (i := 50) rfl))) Via.refl e186 (S_CREATE_PARTITIONS.ext f187.2) (g := (mkF m 163 #[.val (.int p1), .val (.int p2), .unset, .unset, .unset, .unset, .unset, .unset, .unset, .unset, .unset, .unset, .unset, .unset] [(.int (23 : Int32)), (.ref b1), (.ref b1)])) rfl (hb hby at_163)
  obtain ⟨car192, Aar192, qar192, Sar192, Nar192, Har192, Gar192⟩ := id V186
  have hinar192 : ¬ ((23 : Int32) < 0 ∨ car192.slots.size ≤ ((23 : Int32)).toNatClampNeg) := inb_of Sar192 ⟨by decide, by decide⟩
  obtain ⟨T193, h193, X193, e193, W193, st193⟩ := stR X191 hx hZ e191 Aar192 (j := (23 : Int32)) hinar192 rfl (Sto.ofV Aar192 qar192 O1 (Ins.self (E_w_CREATE_PARTITIONS.ext f187.2))) (g := (mkF m 166 #[.val (.int p1), .val (.int p2), .unset, .unset, .unset, .unset, .unset, .unset, .unset, .unset, .unset, .unset, .unset, .unset] [(.ref w_CREATE_PARTITIONS), (.int (23 : Int32)), (.ref b1), (.ref b1)])) rfl rfl (hb hby at_166)
  have V193 : Arv Z h193 b1 k1 (.object "com/example/consort/consort/protocol/ApiKey") (26 : Int32) [(.ref w_PRODUCE), (.ref w_FETCH), (.ref w_LIST_OFFSETS), (.ref w_METADATA), (.ref w_OFFSET_COMMIT), (.ref w_OFFSET_FETCH), (.ref w_FIND_COORDINATOR), (.ref w_JOIN_GROUP), (.ref w_HEARTBEAT), (.ref w_LEAVE_GROUP), (.ref w_SYNC_GROUP), (.ref w_DESCRIBE_GROUPS), (.ref w_LIST_GROUPS), (.ref w_API_VERSIONS), (.ref w_CREATE_TOPICS), (.ref w_DELETE_TOPICS), (.ref w_INIT_PRODUCER_ID), (.ref w_ADD_PARTITIONS_TO_TXN), (.ref w_ADD_OFFSETS_TO_TXN), (.ref w_END_TXN), (.ref w_TXN_OFFSET_COMMIT), (.ref w_DESCRIBE_CONFIGS), (.ref w_ALTER_CONFIGS), (.ref w_CREATE_PARTITIONS), .null, .null] .null := Arv.set Aar192 qar192 Sar192 Nar192 Har192 Gar192 rfl W193 23 rfl (Nat.le_of_ble_eq_true rfl)
  have f194 := f187.wr W193 g_b1
  have zs196 : n0 ≤ h193.size := Nat.le_trans zs189 (Keep.of_wr W193).1
  have N197 := Fr.snoc X193 N190 g_b1
  obtain ⟨T198, X198, e198, st198⟩ := getS2 X193 hx hZ hown (host := "") (Or.inl (hw _ (List.mem_of_getElem? (i := 52) rfl))) Via.refl e193 (S_DELETE_GROUPS.ext f194.2) (g := (mkF m 170 #[.val (.int p1), .val (.int p2), .unset, .unset, .unset, .unset, .unset, .unset, .unset, .unset, .unset, .unset, .unset, .unset] [(.int (24 : Int32)), (.ref b1), (.ref b1)])) rfl (hb hby at_170)
  obtain ⟨car199, Aar199, qar199, Sar199, Nar199, Har199, Gar199⟩ := id V193
  have hinar199 : ¬ ((24 : Int32) < 0 ∨ car199.slots.size ≤ ((24 : Int32)).toNatClampNeg) := inb_of Sar199 ⟨by decide, by decide⟩
  obtain ⟨T200, h200, X200, e200, W200, st200⟩ := stR X198 hx hZ e198 Aar199 (j := (24 : Int32)) hinar199 rfl (Sto.ofV Aar199 qar199 O1 (Ins.self (E_w_DELETE_GROUPS.ext f194.2))) (g := (mkF m 173 #[.val (.int p1), .val (.int p2), .unset, .unset, .unset, .unset, .unset, .unset, .unset, .unset, .unset, .unset, .unset, .unset] [(.ref w_DELETE_GROUPS), (.int (24 : Int32)), (.ref b1), (.ref b1)])) rfl rfl (hb hby at_173)
  have V200 : Arv Z h200 b1 k1 (.object "com/example/consort/consort/protocol/ApiKey") (26 : Int32) [(.ref w_PRODUCE), (.ref w_FETCH), (.ref w_LIST_OFFSETS), (.ref w_METADATA), (.ref w_OFFSET_COMMIT), (.ref w_OFFSET_FETCH), (.ref w_FIND_COORDINATOR), (.ref w_JOIN_GROUP), (.ref w_HEARTBEAT), (.ref w_LEAVE_GROUP), (.ref w_SYNC_GROUP), (.ref w_DESCRIBE_GROUPS), (.ref w_LIST_GROUPS), (.ref w_API_VERSIONS), (.ref w_CREATE_TOPICS), (.ref w_DELETE_TOPICS), (.ref w_INIT_PRODUCER_ID), (.ref w_ADD_PARTITIONS_TO_TXN), (.ref w_ADD_OFFSETS_TO_TXN), (.ref w_END_TXN), (.ref w_TXN_OFFSET_COMMIT), (.ref w_DESCRIBE_CONFIGS), (.ref w_ALTER_CONFIGS), (.ref w_CREATE_PARTITIONS), (.ref w_DELETE_GROUPS), .null] .null := Arv.set Aar199 qar199 Sar199 Nar199 Har199 Gar199 rfl W200 24 rfl (Nat.le_of_ble_eq_true rfl)
  have f201 := f194.wr W200 g_b1
  have zs203 : n0 ≤ h200.size := Nat.le_trans zs196 (Keep.of_wr W200).1
  have N204 := Fr.snoc X200 N197 g_b1
  obtain ⟨T205, X205, e205, st205⟩ := getS2 X200 hx hZ hown (host := "") (Or.inl (hw _ (List.mem_of_getElem? (i := 54) rfl))) Via.refl e200 (S_INCREMENTAL_ALTER_CONFIGS.ext f201.2) (g := (mkF m 177 #[.val (.int p1), .val (.int p2), .unset, .unset, .unset, .unset, .unset, .unset, .unset, .unset, .unset, .unset, .unset, .unset] [(.int (25 : Int32)), (.ref b1), (.ref b1)])) rfl (hb hby at_177)
  obtain ⟨car206, Aar206, qar206, Sar206, Nar206, Har206, Gar206⟩ := id V200
  have hinar206 : ¬ ((25 : Int32) < 0 ∨ car206.slots.size ≤ ((25 : Int32)).toNatClampNeg) := inb_of Sar206 ⟨by decide, by decide⟩
  obtain ⟨T207, h207, X207, e207, W207, st207⟩ := stR X205 hx hZ e205 Aar206 (j := (25 : Int32)) hinar206 rfl (Sto.ofV Aar206 qar206 O1 (Ins.self (E_w_INCREMENTAL_ALTER_CONFIGS.ext f201.2))) (g := (mkF m 180 #[.val (.int p1), .val (.int p2), .unset, .unset, .unset, .unset, .unset, .unset, .unset, .unset, .unset, .unset, .unset, .unset] [(.ref w_INCREMENTAL_ALTER_CONFIGS), (.int (25 : Int32)), (.ref b1), (.ref b1)])) rfl rfl (hb hby at_180)
  have V207 : Arv Z h207 b1 k1 (.object "com/example/consort/consort/protocol/ApiKey") (26 : Int32) [(.ref w_PRODUCE), (.ref w_FETCH), (.ref w_LIST_OFFSETS), (.ref w_METADATA), (.ref w_OFFSET_COMMIT), (.ref w_OFFSET_FETCH), (.ref w_FIND_COORDINATOR), (.ref w_JOIN_GROUP), (.ref w_HEARTBEAT), (.ref w_LEAVE_GROUP), (.ref w_SYNC_GROUP), (.ref w_DESCRIBE_GROUPS), (.ref w_LIST_GROUPS), (.ref w_API_VERSIONS), (.ref w_CREATE_TOPICS), (.ref w_DELETE_TOPICS), (.ref w_INIT_PRODUCER_ID), (.ref w_ADD_PARTITIONS_TO_TXN), (.ref w_ADD_OFFSETS_TO_TXN), (.ref w_END_TXN), (.ref w_TXN_OFFSET_COMMIT), (.ref w_DESCRIBE_CONFIGS), (.ref w_ALTER_CONFIGS), (.ref w_CREATE_PARTITIONS), (.ref w_DELETE_GROUPS), (.ref w_INCREMENTAL_ALTER_CONFIGS)] .null := Arv.set Aar206 qar206 Sar206 Nar206 Har206 Gar206 rfl W207 25 rfl (Nat.le_of_ble_eq_true rfl)
  have f208 := f201.wr W207 g_b1
  have zs210 : n0 ≤ h207.size := Nat.le_trans zs203 (Keep.of_wr W207).1
  have N211 := Fr.snoc X207 N204 g_b1
  obtain ⟨T212, h212, k212, X212, e212, E212, A212, st212⟩ := newP X207 hx hZ (hw _ (List.mem_of_getElem? (i := 56) rfl)) e207 (g := (mkF m 184 #[.val (.int p1), .val (.int p2), .val (.ref b1), .unset, .unset, .unset, .unset, .unset, .unset, .unset, .unset, .unset, .unset, .unset] [(.int (26 : Int32))])) rfl (hb hby at_184) rfl (by decide) (cap := 26) (by decide) (by decide) (by decide) (by decide)
  obtain ⟨b212, g212⟩ : ∃ z, z = h207.size := ⟨_, rfl⟩
  rw [← g212] at A212 st212
  have g_b212 : n0 ≤ b212 := Nat.le_trans zs210 (Nat.le_of_eq g212.symm)
  have ne213 : w_PRODUCE ≠ b212 := Nat.ne_of_lt (Nat.lt_of_lt_of_le (E_w_PRODUCE.ext f208.2).lt (Nat.le_of_eq g212.symm))
  have ne214 : w_FETCH ≠ b212 := Nat.ne_of_lt (Nat.lt_of_lt_of_le (E_w_FETCH.ext f208.2).lt (Nat.le_of_eq g212.symm))
  have ne215 : w_LIST_OFFSETS ≠ b212 := Nat.ne_of_lt (Nat.lt_of_lt_of_le (E_w_LIST_OFFSETS.ext f208.2).lt (Nat.le_of_eq g212.symm))
  have ne216 : w_METADATA ≠ b212 := Nat.ne_of_lt (Nat.lt_of_lt_of_le (E_w_METADATA.ext f208.2).lt (Nat.le_of_eq g212.symm))
  have ne217 : w_OFFSET_COMMIT ≠ b212 := Nat.ne_of_lt (Nat.lt_of_lt_of_le (E_w_OFFSET_COMMIT.ext f208.2).lt (Nat.le_of_eq g212.symm))
  have ne218 : w_OFFSET_FETCH ≠ b212 := Nat.ne_of_lt (Nat.lt_of_lt_of_le (E_w_OFFSET_FETCH.ext f208.2).lt (Nat.le_of_eq g212.symm))
  have ne219 : w_FIND_COORDINATOR ≠ b212 := Nat.ne_of_lt (Nat.lt_of_lt_of_le (E_w_FIND_COORDINATOR.ext f208.2).lt (Nat.le_of_eq g212.symm))
  have ne220 : w_JOIN_GROUP ≠ b212 := Nat.ne_of_lt (Nat.lt_of_lt_of_le (E_w_JOIN_GROUP.ext f208.2).lt (Nat.le_of_eq g212.symm))
  have ne221 : w_HEARTBEAT ≠ b212 := Nat.ne_of_lt (Nat.lt_of_lt_of_le (E_w_HEARTBEAT.ext f208.2).lt (Nat.le_of_eq g212.symm))
  have ne222 : w_LEAVE_GROUP ≠ b212 := Nat.ne_of_lt (Nat.lt_of_lt_of_le (E_w_LEAVE_GROUP.ext f208.2).lt (Nat.le_of_eq g212.symm))
  have ne223 : w_SYNC_GROUP ≠ b212 := Nat.ne_of_lt (Nat.lt_of_lt_of_le (E_w_SYNC_GROUP.ext f208.2).lt (Nat.le_of_eq g212.symm))
  have ne224 : w_DESCRIBE_GROUPS ≠ b212 := Nat.ne_of_lt (Nat.lt_of_lt_of_le (E_w_DESCRIBE_GROUPS.ext f208.2).lt (Nat.le_of_eq g212.symm))
  have ne225 : w_LIST_GROUPS ≠ b212 := Nat.ne_of_lt (Nat.lt_of_lt_of_le (E_w_LIST_GROUPS.ext f208.2).lt (Nat.le_of_eq g212.symm))
  have ne226 : w_API_VERSIONS ≠ b212 := Nat.ne_of_lt (Nat.lt_of_lt_of_le (E_w_API_VERSIONS.ext f208.2).lt (Nat.le_of_eq g212.symm))
  have ne227 : w_CREATE_TOPICS ≠ b212 := Nat.ne_of_lt (Nat.lt_of_lt_of_le (E_w_CREATE_TOPICS.ext f208.2).lt (Nat.le_of_eq g212.symm))
  have ne228 : w_DELETE_TOPICS ≠ b212 := Nat.ne_of_lt (Nat.lt_of_lt_of_le (E_w_DELETE_TOPICS.ext f208.2).lt (Nat.le_of_eq g212.symm))
  have ne229 : w_INIT_PRODUCER_ID ≠ b212 := Nat.ne_of_lt (Nat.lt_of_lt_of_le (E_w_INIT_PRODUCER_ID.ext f208.2).lt (Nat.le_of_eq g212.symm))
  have ne230 : w_ADD_PARTITIONS_TO_TXN ≠ b212 := Nat.ne_of_lt (Nat.lt_of_lt_of_le (E_w_ADD_PARTITIONS_TO_TXN.ext f208.2).lt (Nat.le_of_eq g212.symm))
  have ne231 : w_ADD_OFFSETS_TO_TXN ≠ b212 := Nat.ne_of_lt (Nat.lt_of_lt_of_le (E_w_ADD_OFFSETS_TO_TXN.ext f208.2).lt (Nat.le_of_eq g212.symm))
  have ne232 : w_END_TXN ≠ b212 := Nat.ne_of_lt (Nat.lt_of_lt_of_le (E_w_END_TXN.ext f208.2).lt (Nat.le_of_eq g212.symm))
  have ne233 : w_TXN_OFFSET_COMMIT ≠ b212 := Nat.ne_of_lt (Nat.lt_of_lt_of_le (E_w_TXN_OFFSET_COMMIT.ext f208.2).lt (Nat.le_of_eq g212.symm))
  have ne234 : w_DESCRIBE_CONFIGS ≠ b212 := Nat.ne_of_lt (Nat.lt_of_lt_of_le (E_w_DESCRIBE_CONFIGS.ext f208.2).lt (Nat.le_of_eq g212.symm))
  have ne235 : w_ALTER_CONFIGS ≠ b212 := Nat.ne_of_lt (Nat.lt_of_lt_of_le (E_w_ALTER_CONFIGS.ext f208.2).lt (Nat.le_of_eq g212.symm))
  have ne236 : w_CREATE_PARTITIONS ≠ b212 := Nat.ne_of_lt (Nat.lt_of_lt_of_le (E_w_CREATE_PARTITIONS.ext f208.2).lt (Nat.le_of_eq g212.symm))
  have ne237 : w_DELETE_GROUPS ≠ b212 := Nat.ne_of_lt (Nat.lt_of_lt_of_le (E_w_DELETE_GROUPS.ext f208.2).lt (Nat.le_of_eq g212.symm))
  have ne238 : w_INCREMENTAL_ALTER_CONFIGS ≠ b212 := Nat.ne_of_lt (Nat.lt_of_lt_of_le (E_w_INCREMENTAL_ALTER_CONFIGS.ext f208.2).lt (Nat.le_of_eq g212.symm))
  have ne239 : b1 ≠ b212 := Nat.ne_of_lt (Nat.lt_of_lt_of_le V207.lt (Nat.le_of_eq g212.symm))
  have f240 := f208.ext E212
  have f241 := V207.ext E212
  have zs242 : n0 ≤ h212.size := Nat.le_trans zs210 E212.1
  have V_b212 : Arv Z h212 b212 k212 .int (26 : Int32) [(.int (0 : Int32)), (.int (0 : Int32)), (.int (0 : Int32)), (.int (0 : Int32)), (.int (0 : Int32)), (.int (0 : Int32)), (.int (0 : Int32)), (.int (0 : Int32)), (.int (0 : Int32)), (.int (0 : Int32)), (.int (0 : Int32)), (.int (0 : Int32)), (.int (0 : Int32)), (.int (0 : Int32)), (.int (0 : Int32)), (.int (0 : Int32)), (.int (0 : Int32)), (.int (0 : Int32)), (.int (0 : Int32)), (.int (0 : Int32)), (.int (0 : Int32)), (.int (0 : Int32)), (.int (0 : Int32)), (.int (0 : Int32)), (.int (0 : Int32)), (.int (0 : Int32))] (.int (0 : Int32)) := (Arv.new A212 (by decide)).pad (pad_rep [] (.int (0 : Int32)) 26)
  obtain ⟨car243, Aar243, qar243, Sar243, Nar243, Har243, Gar243⟩ := id V_b212
  have hinar243 : ¬ ((0 : Int32) < 0 ∨ car243.slots.size ≤ ((0 : Int32)).toNatClampNeg) := inb_of Sar243 ⟨by decide, by decide⟩
  obtain ⟨T244, h244, X244, e244, W244, st244⟩ := stI X212 hx hZ e212 Aar243 (j := (0 : Int32)) hinar243 (g := (mkF m 189 #[.val (.int p1), .val (.int p2), .val (.ref b1), .unset, .unset, .unset, .unset, .unset, .unset, .unset, .unset, .unset, .unset, .unset] [(.int (0 : Int32)), (.int (0 : Int32)), (.ref b212), (.ref b212)])) rfl rfl (hb hby at_189)
  have V244 : Arv Z h244 b212 k212 .int (26 : Int32) [(.int (0 : Int32)), (.int (0 : Int32)), (.int (0 : Int32)), (.int (0 : Int32)), (.int (0 : Int32)), (.int (0 : Int32)), (.int (0 : Int32)), (.int (0 : Int32)), (.int (0 : Int32)), (.int (0 : Int32)), (.int (0 : Int32)), (.int (0 : Int32)), (.int (0 : Int32)), (.int (0 : Int32)), (.int (0 : Int32)), (.int (0 : Int32)), (.int (0 : Int32)), (.int (0 : Int32)), (.int (0 : Int32)), (.int (0 : Int32)), (.int (0 : Int32)), (.int (0 : Int32)), (.int (0 : Int32)), (.int (0 : Int32)), (.int (0 : Int32)), (.int (0 : Int32))] (.int (0 : Int32)) := Arv.set Aar243 qar243 Sar243 Nar243 Har243 Gar243 rfl W244 0 rfl (Nat.le_of_ble_eq_true rfl)
  have f245 := f240.wr W244 g_b212
  have f246 := f241.other W244 ne239
  have zs248 : n0 ≤ h244.size := Nat.le_trans zs242 (Keep.of_wr W244).1
  have N249 := Fr.snoc X244 N211 g_b212
  obtain ⟨car250, Aar250, qar250, Sar250, Nar250, Har250, Gar250⟩ := id V244
  have hinar250 : ¬ ((1 : Int32) < 0 ∨ car250.slots.size ≤ ((1 : Int32)).toNatClampNeg) := inb_of Sar250 ⟨by decide, by decide⟩
  obtain ⟨T251, h251, X251, e251, W251, st251⟩ := stI X244 hx hZ e244 Aar250 (j := (1 : Int32)) hinar250 (g := (mkF m 193 #[.val (.int p1), .val (.int p2), .val (.ref b1), .unset, .unset, .unset, .unset, .unset, .unset, .unset, .unset, .unset, .unset, .unset] [(.int (4 : Int32)), (.int (1 : Int32)), (.ref b212), (.ref b212)])) rfl rfl (hb hby at_193)
  have V251 : Arv Z h251 b212 k212 .int (26 : Int32) [(.int (0 : Int32)), (.int (4 : Int32)), (.int (0 : Int32)), (.int (0 : Int32)), (.int (0 : Int32)), (.int (0 : Int32)), (.int (0 : Int32)), (.int (0 : Int32)), (.int (0 : Int32)), (.int (0 : Int32)), (.int (0 : Int32)), (.int (0 : Int32)), (.int (0 : Int32)), (.int (0 : Int32)), (.int (0 : Int32)), (.int (0 : Int32)), (.int (0 : Int32)), (.int (0 : Int32)), (.int (0 : Int32)), (.int (0 : Int32)), (.int (0 : Int32)), (.int (0 : Int32)), (.int (0 : Int32)), (.int (0 : Int32)), (.int (0 : Int32)), (.int (0 : Int32))] (.int (0 : Int32)) := Arv.set Aar250 qar250 Sar250 Nar250 Har250 Gar250 rfl W251 1 rfl (Nat.le_of_ble_eq_true rfl)
  have f252 := f245.wr W251 g_b212
  have f253 := f246.other W251 ne239
  have zs255 : n0 ≤ h251.size := Nat.le_trans zs248 (Keep.of_wr W251).1
  have N256 := Fr.snoc X251 N249 g_b212
  obtain ⟨car257, Aar257, qar257, Sar257, Nar257, Har257, Gar257⟩ := id V251
  have hinar257 : ¬ ((2 : Int32) < 0 ∨ car257.slots.size ≤ ((2 : Int32)).toNatClampNeg) := inb_of Sar257 ⟨by decide, by decide⟩
  obtain ⟨T258, h258, X258, e258, W258, st258⟩ := stI X251 hx hZ e251 Aar257 (j := (2 : Int32)) hinar257 (g := (mkF m 197 #[.val (.int p1), .val (.int p2), .val (.ref b1), .unset, .unset, .unset, .unset, .unset, .unset, .unset, .unset, .unset, .unset, .unset] [(.int (1 : Int32)), (.int (2 : Int32)), (.ref b212), (.ref b212)])) rfl rfl (hb hby at_197)
  have V258 : Arv Z h258 b212 k212 .int (26 : Int32) [(.int (0 : Int32)), (.int (4 : Int32)), (.int (1 : Int32)), (.int (0 : Int32)), (.int (0 : Int32)), (.int (0 : Int32)), (.int (0 : Int32)), (.int (0 : Int32)), (.int (0 : Int32)), (.int (0 : Int32)), (.int (0 : Int32)), (.int (0 : Int32)), (.int (0 : Int32)), (.int (0 : Int32)), (.int (0 : Int32)), (.int (0 : Int32)), (.int (0 : Int32)), (.int (0 : Int32)), (.int (0 : Int32)), (.int (0 : Int32)), (.int (0 : Int32)), (.int (0 : Int32)), (.int (0 : Int32)), (.int (0 : Int32)), (.int (0 : Int32)), (.int (0 : Int32))] (.int (0 : Int32)) := Arv.set Aar257 qar257 Sar257 Nar257 Har257 Gar257 rfl W258 2 rfl (Nat.le_of_ble_eq_true rfl)
  have f259 := f252.wr W258 g_b212
  have f260 := f253.other W258 ne239
  have zs262 : n0 ≤ h258.size := Nat.le_trans zs255 (Keep.of_wr W258).1
  have N263 := Fr.snoc X258 N256 g_b212
  obtain ⟨car264, Aar264, qar264, Sar264, Nar264, Har264, Gar264⟩ := id V258
  have hinar264 : ¬ ((3 : Int32) < 0 ∨ car264.slots.size ≤ ((3 : Int32)).toNatClampNeg) := inb_of Sar264 ⟨by decide, by decide⟩
  obtain ⟨T265, h265, X265, e265, W265, st265⟩ := stI X258 hx hZ e258 Aar264 (j := (3 : Int32)) hinar264 (g := (mkF m 201 #[.val (.int p1), .val (.int p2), .val (.ref b1), .unset, .unset, .unset, .unset, .unset, .unset, .unset, .unset, .unset, .unset, .unset] [(.int (0 : Int32)), (.int (3 : Int32)), (.ref b212), (.ref b212)])) rfl rfl (hb hby at_201)
  have V265 : Arv Z h265 b212 k212 .int (26 : Int32) [(.int (0 : Int32)), (.int (4 : Int32)), (.int (1 : Int32)), (.int (0 : Int32)), (.int (0 : Int32)), (.int (0 : Int32)), (.int (0 : Int32)), (.int (0 : Int32)), (.int (0 : Int32)), (.int (0 : Int32)), (.int (0 : Int32)), (.int (0 : Int32)), (.int (0 : Int32)), (.int (0 : Int32)), (.int (0 : Int32)), (.int (0 : Int32)), (.int (0 : Int32)), (.int (0 : Int32)), (.int (0 : Int32)), (.int (0 : Int32)), (.int (0 : Int32)), (.int (0 : Int32)), (.int (0 : Int32)), (.int (0 : Int32)), (.int (0 : Int32)), (.int (0 : Int32))] (.int (0 : Int32)) := Arv.set Aar264 qar264 Sar264 Nar264 Har264 Gar264 rfl W265 3 rfl (Nat.le_of_ble_eq_true rfl)
  have f266 := f259.wr W265 g_b212
  have f267 := f260.other W265 ne239
  have zs269 : n0 ≤ h265.size := Nat.le_trans zs262 (Keep.of_wr W265).1
  have N270 := Fr.snoc X265 N263 g_b212
  obtain ⟨car271, Aar271, qar271, Sar271, Nar271, Har271, Gar271⟩ := id V265
  have hinar271 : ¬ ((4 : Int32) < 0 ∨ car271.slots.size ≤ ((4 : Int32)).toNatClampNeg) := inb_of Sar271 ⟨by decide, by decide⟩
  obtain ⟨T272, h272, X272, e272, W272, st272⟩ := stI X265 hx hZ e265 Aar271 (j := (4 : Int32)) hinar271 (g := (mkF m 205 #[.val (.int p1), .val (.int p2), .val (.ref b1), .unset, .unset, .unset, .unset, .unset, .unset, .unset, .unset, .unset, .unset, .unset] [(.int (2 : Int32)), (.int (4 : Int32)), (.ref b212), (.ref b212)])) rfl rfl (hb hby at_205)
  have V272 : Arv Z h272 b212 k212 .int (26 : Int32) [(.int (0 : Int32)), (.int (4 : Int32)), (.int (1 : Int32)), (.int (0 : Int32)), (.int (2 : Int32)), (.int (0 : Int32)), (.int (0 : Int32)), (.int (0 : Int32)), (.int (0 : Int32)), (.int (0 : Int32)), (.int (0 : Int32)), (.int (0 : Int32)), (.int (0 : Int32)), (.int (0 : Int32)), (.int (0 : Int32)), (.int (0 : Int32)), (.int (0 : Int32)), (.int (0 : Int32)), (.int (0 : Int32)), (.int (0 : Int32)), (.int (0 : Int32)), (.int (0 : Int32)), (.int (0 : Int32)), (.int (0 : Int32)), (.int (0 : Int32)), (.int (0 : Int32))] (.int (0 : Int32)) := Arv.set Aar271 qar271 Sar271 Nar271 Har271 Gar271 rfl W272 4 rfl (Nat.le_of_ble_eq_true rfl)
  have f273 := f266.wr W272 g_b212
  have f274 := f267.other W272 ne239
  have zs276 : n0 ≤ h272.size := Nat.le_trans zs269 (Keep.of_wr W272).1
  have N277 := Fr.snoc X272 N270 g_b212
  obtain ⟨car278, Aar278, qar278, Sar278, Nar278, Har278, Gar278⟩ := id V272
  have hinar278 : ¬ ((5 : Int32) < 0 ∨ car278.slots.size ≤ ((5 : Int32)).toNatClampNeg) := inb_of Sar278 ⟨by decide, by decide⟩
  obtain ⟨T279, h279, X279, e279, W279, st279⟩ := stI X272 hx hZ e272 Aar278 (j := (5 : Int32)) hinar278 (g := (mkF m 209 #[.val (.int p1), .val (.int p2), .val (.ref b1), .unset, .unset, .unset, .unset, .unset, .unset, .unset, .unset, .unset, .unset, .unset] [(.int (1 : Int32)), (.int (5 : Int32)), (.ref b212), (.ref b212)])) rfl rfl (hb hby at_209)
  have V279 : Arv Z h279 b212 k212 .int (26 : Int32) [(.int (0 : Int32)), (.int (4 : Int32)), (.int (1 : Int32)), (.int (0 : Int32)), (.int (2 : Int32)), (.int (1 : Int32)), (.int (0 : Int32)), (.int (0 : Int32)), (.int (0 : Int32)), (.int (0 : Int32)), (.int (0 : Int32)), (.int (0 : Int32)), (.int (0 : Int32)), (.int (0 : Int32)), (.int (0 : Int32)), (.int (0 : Int32)), (.int (0 : Int32)), (.int (0 : Int32)), (.int (0 : Int32)), (.int (0 : Int32)), (.int (0 : Int32)), (.int (0 : Int32)), (.int (0 : Int32)), (.int (0 : Int32)), (.int (0 : Int32)), (.int (0 : Int32))] (.int (0 : Int32)) := Arv.set Aar278 qar278 Sar278 Nar278 Har278 Gar278 rfl W279 5 rfl (Nat.le_of_ble_eq_true rfl)
  have f280 := f273.wr W279 g_b212
  have f281 := f274.other W279 ne239
  have zs283 : n0 ≤ h279.size := Nat.le_trans zs276 (Keep.of_wr W279).1
  have N284 := Fr.snoc X279 N277 g_b212
  obtain ⟨car285, Aar285, qar285, Sar285, Nar285, Har285, Gar285⟩ := id V279
  have hinar285 : ¬ ((6 : Int32) < 0 ∨ car285.slots.size ≤ ((6 : Int32)).toNatClampNeg) := inb_of Sar285 ⟨by decide, by decide⟩
  obtain ⟨T286, h286, X286, e286, W286, st286⟩ := stI X279 hx hZ e279 Aar285 (j := (6 : Int32)) hinar285 (g := (mkF m 214 #[.val (.int p1), .val (.int p2), .val (.ref b1), .unset, .unset, .unset, .unset, .unset, .unset, .unset, .unset, .unset, .unset, .unset] [(.int (0 : Int32)), (.int (6 : Int32)), (.ref b212), (.ref b212)])) rfl rfl (hb hby at_214)
  have V286 : Arv Z h286 b212 k212 .int (26 : Int32) [(.int (0 : Int32)), (.int (4 : Int32)), (.int (1 : Int32)), (.int (0 : Int32)), (.int (2 : Int32)), (.int (1 : Int32)), (.int (0 : Int32)), (.int (0 : Int32)), (.int (0 : Int32)), (.int (0 : Int32)), (.int (0 : Int32)), (.int (0 : Int32)), (.int (0 : Int32)), (.int (0 : Int32)), (.int (0 : Int32)), (.int (0 : Int32)), (.int (0 : Int32)), (.int (0 : Int32)), (.int (0 : Int32)), (.int (0 : Int32)), (.int (0 : Int32)), (.int (0 : Int32)), (.int (0 : Int32)), (.int (0 : Int32)), (.int (0 : Int32)), (.int (0 : Int32))] (.int (0 : Int32)) := Arv.set Aar285 qar285 Sar285 Nar285 Har285 Gar285 rfl W286 6 rfl (Nat.le_of_ble_eq_true rfl)
  have f287 := f280.wr W286 g_b212
  have f288 := f281.other W286 ne239
  have zs290 : n0 ≤ h286.size := Nat.le_trans zs283 (Keep.of_wr W286).1
  have N291 := Fr.snoc X286 N284 g_b212
  obtain ⟨car292, Aar292, qar292, Sar292, Nar292, Har292, Gar292⟩ := id V286
  have hinar292 : ¬ ((7 : Int32) < 0 ∨ car292.slots.size ≤ ((7 : Int32)).toNatClampNeg) := inb_of Sar292 ⟨by decide, by decide⟩
  obtain ⟨T293, h293, X293, e293, W293, st293⟩ := stI X286 hx hZ e286 Aar292 (j := (7 : Int32)) hinar292 (g := (mkF m 219 #[.val (.int p1), .val (.int p2), .val (.ref b1), .unset, .unset, .unset, .unset, .unset, .unset, .unset, .unset, .unset, .unset, .unset] [(.int (0 : Int32)), (.int (7 : Int32)), (.ref b212), (.ref b212)])) rfl rfl (hb hby at_219)
  have V293 : Arv Z h293 b212 k212 .int (26 : Int32) [(.int (0 : Int32)), (.int (4 : Int32)), (.int (1 : Int32)), (.int (0 : Int32)), (.int (2 : Int32)), (.int (1 : Int32)), (.int (0 : Int32)), (.int (0 : Int32)), (.int (0 : Int32)), (.int (0 : Int32)), (.int (0 : Int32)), (.int (0 : Int32)), (.int (0 : Int32)), (.int (0 : Int32)), (.int (0 : Int32)), (.int (0 : Int32)), (.int (0 : Int32)), (.int (0 : Int32)), (.int (0 : Int32)), (.int (0 : Int32)), (.int (0 : Int32)), (.int (0 : Int32)), (.int (0 : Int32)), (.int (0 : Int32)), (.int (0 : Int32)), (.int (0 : Int32))] (.int (0 : Int32)) := Arv.set Aar292 qar292 Sar292 Nar292 Har292 Gar292 rfl W293 7 rfl (Nat.le_of_ble_eq_true rfl)
  have f294 := f287.wr W293 g_b212
  have f295 := f288.other W293 ne239
  have zs297 : n0 ≤ h293.size := Nat.le_trans zs290 (Keep.of_wr W293).1
  have N298 := Fr.snoc X293 N291 g_b212
  obtain ⟨car299, Aar299, qar299, Sar299, Nar299, Har299, Gar299⟩ := id V293
  have hinar299 : ¬ ((8 : Int32) < 0 ∨ car299.slots.size ≤ ((8 : Int32)).toNatClampNeg) := inb_of Sar299 ⟨by decide, by decide⟩
  obtain ⟨T300, h300, X300, e300, W300, st300⟩ := stI X293 hx hZ e293 Aar299 (j := (8 : Int32)) hinar299 (g := (mkF m 224 #[.val (.int p1), .val (.int p2), .val (.ref b1), .unset, .unset, .unset, .unset, .unset, .unset, .unset, .unset, .unset, .unset, .unset] [(.int (0 : Int32)), (.int (8 : Int32)), (.ref b212), (.ref b212)])) rfl rfl (hb hby at_224)
  have V300 : Arv Z h300 b212 k212 .int (26 : Int32) [(.int (0 : Int32)), (.int (4 : Int32)), (.int (1 : Int32)), (.int (0 : Int32)), (.int (2 : Int32)), (.int (1 : Int32)), (.int (0 : Int32)), (.int (0 : Int32)), (.int (0 : Int32)), (.int (0 : Int32)), (.int (0 : Int32)), (.int (0 : Int32)), (.int (0 : Int32)), (.int (0 : Int32)), (.int (0 : Int32)), (.int (0 : Int32)), (.int (0 : Int32)), (.int (0 : Int32)), (.int (0 : Int32)), (.int (0 : Int32)), (.int (0 : Int32)), (.int (0 : Int32)), (.int (0 : Int32)), (.int (0 : Int32)), (.int (0 : Int32)), (.int (0 : Int32))] (.int (0 : Int32)) := Arv.set Aar299 qar299 Sar299 Nar299 Har299 Gar299 rfl W300 8 rfl (Nat.le_of_ble_eq_true rfl)
  have f301 := f294.wr W300 g_b212
  have f302 := f295.other W300 ne239
  have zs304 : n0 ≤ h300.size := Nat.le_trans zs297 (Keep.of_wr W300).1
  have N305 := Fr.snoc X300 N298 g_b212
  obtain ⟨car306, Aar306, qar306, Sar306, Nar306, Har306, Gar306⟩ := id V300
  have hinar306 : ¬ ((9 : Int32) < 0 ∨ car306.slots.size ≤ ((9 : Int32)).toNatClampNeg) := inb_of Sar306 ⟨by decide, by decide⟩
  obtain ⟨T307, h307, X307, e307, W307, st307⟩ := stI X300 hx hZ e300 Aar306 (j := (9 : Int32)) hinar306 (g := (mkF m 229 #[.val (.int p1), .val (.int p2), .val (.ref b1), .unset, .unset, .unset, .unset, .unset, .unset, .unset, .unset, .unset, .unset, .unset] [(.int (0 : Int32)), (.int (9 : Int32)), (.ref b212), (.ref b212)])) rfl rfl (hb hby at_229)
  have V307 : Arv Z h307 b212 k212 .int (26 : Int32) [(.int (0 : Int32)), (.int (4 : Int32)), (.int (1 : Int32)), (.int (0 : Int32)), (.int (2 : Int32)), (.int (1 : Int32)), (.int (0 : Int32)), (.int (0 : Int32)), (.int (0 : Int32)), (.int (0 : Int32)), (.int (0 : Int32)), (.int (0 : Int32)), (.int (0 : Int32)), (.int (0 : Int32)), (.int (0 : Int32)), (.int (0 : Int32)), (.int (0 : Int32)), (.int (0 : Int32)), (.int (0 : Int32)), (.int (0 : Int32)), (.int (0 : Int32)), (.int (0 : Int32)), (.int (0 : Int32)), (.int (0 : Int32)), (.int (0 : Int32)), (.int (0 : Int32))] (.int (0 : Int32)) := Arv.set Aar306 qar306 Sar306 Nar306 Har306 Gar306 rfl W307 9 rfl (Nat.le_of_ble_eq_true rfl)
  have f308 := f301.wr W307 g_b212
  have f309 := f302.other W307 ne239
  have zs311 : n0 ≤ h307.size := Nat.le_trans zs304 (Keep.of_wr W307).1
  have N312 := Fr.snoc X307 N305 g_b212
  obtain ⟨car313, Aar313, qar313, Sar313, Nar313, Har313, Gar313⟩ := id V307
  have hinar313 : ¬ ((10 : Int32) < 0 ∨ car313.slots.size ≤ ((10 : Int32)).toNatClampNeg) := inb_of Sar313 ⟨by decide, by decide⟩
  obtain ⟨T314, h314, X314, e314, W314, st314⟩ := stI X307 hx hZ e307 Aar313 (j := (10 : Int32)) hinar313 (g := (mkF m 234 #[.val (.int p1), .val (.int p2), .val (.ref b1), .unset, .unset, .unset, .unset, .unset, .unset, .unset, .unset, .unset, .unset, .unset] [(.int (0 : Int32)), (.int (10 : Int32)), (.ref b212), (.ref b212)])) rfl rfl (hb hby at_234)
  have V314 : Arv Z h314 b212 k212 .int (26 : Int32) [(.int (0 : Int32)), (.int (4 : Int32)), (.int (1 : Int32)), (.int (0 : Int32)), (.int (2 : Int32)), (.int (1 : Int32)), (.int (0 : Int32)), (.int (0 : Int32)), (.int (0 : Int32)), (.int (0 : Int32)), (.int (0 : Int32)), (.int (0 : Int32)), (.int (0 : Int32)), (.int (0 : Int32)), (.int (0 : Int32)), (.int (0 : Int32)), (.int (0 : Int32)), (.int (0 : Int32)), (.int (0 : Int32)), (.int (0 : Int32)), (.int (0 : Int32)), (.int (0 : Int32)), (.int (0 : Int32)), (.int (0 : Int32)), (.int (0 : Int32)), (.int (0 : Int32))] (.int (0 : Int32)) := Arv.set Aar313 qar313 Sar313 Nar313 Har313 Gar313 rfl W314 10 rfl (Nat.le_of_ble_eq_true rfl)
  have f315 := f308.wr W314 g_b212
  have f316 := f309.other W314 ne239
  have zs318 : n0 ≤ h314.size := Nat.le_trans zs311 (Keep.of_wr W314).1
  have N319 := Fr.snoc X314 N312 g_b212
  obtain ⟨car320, Aar320, qar320, Sar320, Nar320, Har320, Gar320⟩ := id V314
  have hinar320 : ¬ ((11 : Int32) < 0 ∨ car320.slots.size ≤ ((11 : Int32)).toNatClampNeg) := inb_of Sar320 ⟨by decide, by decide⟩
  obtain ⟨T321, h321, X321, e321, W321, st321⟩ := stI X314 hx hZ e314 Aar320 (j := (11 : Int32)) hinar320 (g := (mkF m 239 #[.val (.int p1), .val (.int p2), .val (.ref b1), .unset, .unset, .unset, .unset, .unset, .unset, .unset, .unset, .unset, .unset, .unset] [(.int (0 : Int32)), (.int (11 : Int32)), (.ref b212), (.ref b212)])) rfl rfl (hb hby at_239)
  have V321 : Arv Z h321 b212 k212 .int (26 : Int32) [(.int (0 : Int32)), (.int (4 : Int32)), (.int (1 : Int32)), (.int (0 : Int32)), (.int (2 : Int32)), (.int (1 : Int32)), (.int (0 : Int32)), (.int (0 : Int32)), (.int (0 : Int32)), (.int (0 : Int32)), (.int (0 : Int32)), (.int (0 : Int32)), (.int (0 : Int32)), (.int (0 : Int32)), (.int (0 : Int32)), (.int (0 : Int32)), (.int (0 : Int32)), (.int (0 : Int32)), (.int (0 : Int32)), (.int (0 : Int32)), (.int (0 : Int32)), (.int (0 : Int32)), (.int (0 : Int32)), (.int (0 : Int32)), (.int (0 : Int32)), (.int (0 : Int32))] (.int (0 : Int32)) := Arv.set Aar320 qar320 Sar320 Nar320 Har320 Gar320 rfl W321 11 rfl (Nat.le_of_ble_eq_true rfl)
  have f322 := f315.wr W321 g_b212
  have f323 := f316.other W321 ne239
  have zs325 : n0 ≤ h321.size := Nat.le_trans zs318 (Keep.of_wr W321).1
  have N326 := Fr.snoc X321 N319 g_b212
  obtain ⟨car327, Aar327, qar327, Sar327, Nar327, Har327, Gar327⟩ := id V321
  have hinar327 : ¬ ((12 : Int32) < 0 ∨ car327.slots.size ≤ ((12 : Int32)).toNatClampNeg) := inb_of Sar327 ⟨by decide, by decide⟩
  obtain ⟨T328, h328, X328, e328, W328, st328⟩ := stI X321 hx hZ e321 Aar327 (j := (12 : Int32)) hinar327 (g := (mkF m 244 #[.val (.int p1), .val (.int p2), .val (.ref b1), .unset, .unset, .unset, .unset, .unset, .unset, .unset, .unset, .unset, .unset, .unset] [(.int (0 : Int32)), (.int (12 : Int32)), (.ref b212), (.ref b212)])) rfl rfl (hb hby at_244)
  have V328 : Arv Z h328 b212 k212 .int (26 : Int32) [(.int (0 : Int32)), (.int (4 : Int32)), (.int (1 : Int32)), (.int (0 : Int32)), (.int (2 : Int32)), (.int (1 : Int32)), (.int (0 : Int32)), (.int (0 : Int32)), (.int (0 : Int32)), (.int (0 : Int32)), (.int (0 : Int32)), (.int (0 : Int32)), (.int (0 : Int32)), (.int (0 : Int32)), (.int (0 : Int32)), (.int (0 : Int32)), (.int (0 : Int32)), (.int (0 : Int32)), (.int (0 : Int32)), (.int (0 : Int32)), (.int (0 : Int32)), (.int (0 : Int32)), (.int (0 : Int32)), (.int (0 : Int32)), (.int (0 : Int32)), (.int (0 : Int32))] (.int (0 : Int32)) := Arv.set Aar327 qar327 Sar327 Nar327 Har327 Gar327 rfl W328 12 rfl (Nat.le_of_ble_eq_true rfl)
  have f329 := f322.wr W328 g_b212
  have f330 := f323.other W328 ne239
  have zs332 : n0 ≤ h328.size := Nat.le_trans zs325 (Keep.of_wr W328).1
  have N333 := Fr.snoc X328 N326 g_b212
  obtain ⟨car334, Aar334, qar334, Sar334, Nar334, Har334, Gar334⟩ := id V328
  have hinar334 : ¬ ((13 : Int32) < 0 ∨ car334.slots.size ≤ ((13 : Int32)).toNatClampNeg) := inb_of Sar334 ⟨by decide, by decide⟩
  obtain ⟨T335, h335, X335, e335, W335, st335⟩ := stI X328 hx hZ e328 Aar334 (j := (13 : Int32)) hinar334 (g := (mkF m 249 #[.val (.int p1), .val (.int p2), .val (.ref b1), .unset, .unset, .unset, .unset, .unset, .unset, .unset, .unset, .unset, .unset, .unset] [(.int (0 : Int32)), (.int (13 : Int32)), (.ref b212), (.ref b212)])) rfl rfl (hb hby at_249)
  have V335 : Arv Z h335 b212 k212 .int (26 : Int32) [(.int (0 : Int32)), (.int (4 : Int32)), (.int (1 : Int32)), (.int (0 : Int32)), (.int (2 : Int32)), (.int (1 : Int32)), (.int (0 : Int32)), (.int (0 : Int32)), (.int (0 : Int32)), (.int (0 : Int32)), (.int (0 : Int32)), (.int (0 : Int32)), (.int (0 : Int32)), (.int (0 : Int32)), (.int (0 : Int32)), (.int (0 : Int32)), (.int (0 : Int32)), (.int (0 : Int32)), (.int (0 : Int32)), (.int (0 : Int32)), (.int (0 : Int32)), (.int (0 : Int32)), (.int (0 : Int32)), (.int (0 : Int32)), (.int (0 : Int32)), (.int (0 : Int32))] (.int (0 : Int32)) := Arv.set Aar334 qar334 Sar334 Nar334 Har334 Gar334 rfl W335 13 rfl (Nat.le_of_ble_eq_true rfl)
  have f336 := f329.wr W335 g_b212
  have f337 := f330.other W335 ne239
  have zs339 : n0 ≤ h335.size := Nat.le_trans zs332 (Keep.of_wr W335).1
  have N340 := Fr.snoc X335 N333 g_b212
  obtain ⟨car341, Aar341, qar341, Sar341, Nar341, Har341, Gar341⟩ := id V335
  have hinar341 : ¬ ((14 : Int32) < 0 ∨ car341.slots.size ≤ ((14 : Int32)).toNatClampNeg) := inb_of Sar341 ⟨by decide, by decide⟩
  obtain ⟨T342, h342, X342, e342, W342, st342⟩ := stI X335 hx hZ e335 Aar341 (j := (14 : Int32)) hinar341 (g := (mkF m 254 #[.val (.int p1), .val (.int p2), .val (.ref b1), .unset, .unset, .unset, .unset, .unset, .unset, .unset, .unset, .unset, .unset, .unset] [(.int (0 : Int32)), (.int (14 : Int32)), (.ref b212), (.ref b212)])) rfl rfl (hb hby at_254)
  have V342 : Arv Z h342 b212 k212 .int (26 : Int32) [(.int (0 : Int32)), (.int (4 : Int32)), (.int (1 : Int32)), (.int (0 : Int32)), (.int (2 : Int32)), (.int (1 : Int32)), (.int (0 : Int32)), (.int (0 : Int32)), (.int (0 : Int32)), (.int (0 : Int32)), (.int (0 : Int32)), (.int (0 : Int32)), (.int (0 : Int32)), (.int (0 : Int32)), (.int (0 : Int32)), (.int (0 : Int32)), (.int (0 : Int32)), (.int (0 : Int32)), (.int (0 : Int32)), (.int (0 : Int32)), (.int (0 : Int32)), (.int (0 : Int32)), (.int (0 : Int32)), (.int (0 : Int32)), (.int (0 : Int32)), (.int (0 : Int32))] (.int (0 : Int32)) := Arv.set Aar341 qar341 Sar341 Nar341 Har341 Gar341 rfl W342 14 rfl (Nat.le_of_ble_eq_true rfl)
  have f343 := f336.wr W342 g_b212
  have f344 := f337.other W342 ne239
  have zs346 : n0 ≤ h342.size := Nat.le_trans zs339 (Keep.of_wr W342).1
  have N347 := Fr.snoc X342 N340 g_b212
  obtain ⟨car348, Aar348, qar348, Sar348, Nar348, Har348, Gar348⟩ := id V342
  have hinar348 : ¬ ((15 : Int32) < 0 ∨ car348.slots.size ≤ ((15 : Int32)).toNatClampNeg) := inb_of Sar348 ⟨by decide, by decide⟩
  obtain ⟨T349, h349, X349, e349, W349, st349⟩ := stI X342 hx hZ e342 Aar348 (j := (15 : Int32)) hinar348 (g := (mkF m 259 #[.val (.int p1), .val (.int p2), .val (.ref b1), .unset, .unset, .unset, .unset, .unset, .unset, .unset, .unset, .unset, .unset, .unset] [(.int (0 : Int32)), (.int (15 : Int32)), (.ref b212), (.ref b212)])) rfl rfl (hb hby at_259)
  have V349 : Arv Z h349 b212 k212 .int (26 : Int32) [(.int (0 : Int32)), (.int (4 : Int32)), (.int (1 : Int32)), (.int (0 : Int32)), (.int (2 : Int32)), (.int (1 : Int32)), (.int (0 : Int32)), (.int (0 : Int32)), (.int (0 : Int32)), (.int (0 : Int32)), (.int (0 : Int32)), (.int (0 : Int32)), (.int (0 : Int32)), (.int (0 : Int32)), (.int (0 : Int32)), (.int (0 : Int32)), (.int (0 : Int32)), (.int (0 : Int32)), (.int (0 : Int32)), (.int (0 : Int32)), (.int (0 : Int32)), (.int (0 : Int32)), (.int (0 : Int32)), (.int (0 : Int32)), (.int (0 : Int32)), (.int (0 : Int32))] (.int (0 : Int32)) := Arv.set Aar348 qar348 Sar348 Nar348 Har348 Gar348 rfl W349 15 rfl (Nat.le_of_ble_eq_true rfl)
  have f350 := f343.wr W349 g_b212
  have f351 := f344.other W349 ne239
  have zs353 : n0 ≤ h349.size := Nat.le_trans zs346 (Keep.of_wr W349).1
  have N354 := Fr.snoc X349 N347 g_b212
  obtain ⟨car355, Aar355, qar355, Sar355, Nar355, Har355, Gar355⟩ := id V349
  have hinar355 : ¬ ((16 : Int32) < 0 ∨ car355.slots.size ≤ ((16 : Int32)).toNatClampNeg) := inb_of Sar355 ⟨by decide, by decide⟩
  obtain ⟨T356, h356, X356, e356, W356, st356⟩ := stI X349 hx hZ e349 Aar355 (j := (16 : Int32)) hinar355 (g := (mkF m 264 #[.val (.int p1), .val (.int p2), .val (.ref b1), .unset, .unset, .unset, .unset, .unset, .unset, .unset, .unset, .unset, .unset, .unset] [(.int (0 : Int32)), (.int (16 : Int32)), (.ref b212), (.ref b212)])) rfl rfl (hb hby at_264)
  have V356 : Arv Z h356 b212 k212 .int (26 : Int32) [(.int (0 : Int32)), (.int (4 : Int32)), (.int (1 : Int32)), (.int (0 : Int32)), (.int (2 : Int32)), (.int (1 : Int32)), (.int (0 : Int32)), (.int (0 : Int32)), (.int (0 : Int32)), (.int (0 : Int32)), (.int (0 : Int32)), (.int (0 : Int32)), (.int (0 : Int32)), (.int (0 : Int32)), (.int (0 : Int32)), (.int (0 : Int32)), (.int (0 : Int32)), (.int (0 : Int32)), (.int (0 : Int32)), (.int (0 : Int32)), (.int (0 : Int32)), (.int (0 : Int32)), (.int (0 : Int32)), (.int (0 : Int32)), (.int (0 : Int32)), (.int (0 : Int32))] (.int (0 : Int32)) := Arv.set Aar355 qar355 Sar355 Nar355 Har355 Gar355 rfl W356 16 rfl (Nat.le_of_ble_eq_true rfl)
  have f357 := f350.wr W356 g_b212
  have f358 := f351.other W356 ne239
  have zs360 : n0 ≤ h356.size := Nat.le_trans zs353 (Keep.of_wr W356).1
  have N361 := Fr.snoc X356 N354 g_b212
  obtain ⟨car362, Aar362, qar362, Sar362, Nar362, Har362, Gar362⟩ := id V356
  have hinar362 : ¬ ((17 : Int32) < 0 ∨ car362.slots.size ≤ ((17 : Int32)).toNatClampNeg) := inb_of Sar362 ⟨by decide, by decide⟩
  obtain ⟨T363, h363, X363, e363, W363, st363⟩ := stI X356 hx hZ e356 Aar362 (j := (17 : Int32)) hinar362 (g := (mkF m 269 #[.val (.int p1), .val (.int p2), .val (.ref b1), .unset, .unset, .unset, .unset, .unset, .unset, .unset, .unset, .unset, .unset, .unset] [(.int (0 : Int32)), (.int (17 : Int32)), (.ref b212), (.ref b212)])) rfl rfl (hb hby at_269)
  have V363 : Arv Z h363 b212 k212 .int (26 : Int32) [(.int (0 : Int32)), (.int (4 : Int32)), (.int (1 : Int32)), (.int (0 : Int32)), (.int (2 : Int32)), (.int (1 : Int32)), (.int (0 : Int32)), (.int (0 : Int32)), (.int (0 : Int32)), (.int (0 : Int32)), (.int (0 : Int32)), (.int (0 : Int32)), (.int (0 : Int32)), (.int (0 : Int32)), (.int (0 : Int32)), (.int (0 : Int32)), (.int (0 : Int32)), (.int (0 : Int32)), (.int (0 : Int32)), (.int (0 : Int32)), (.int (0 : Int32)), (.int (0 : Int32)), (.int (0 : Int32)), (.int (0 : Int32)), (.int (0 : Int32)), (.int (0 : Int32))] (.int (0 : Int32)) := Arv.set Aar362 qar362 Sar362 Nar362 Har362 Gar362 rfl W363 17 rfl (Nat.le_of_ble_eq_true rfl)
  have f364 := f357.wr W363 g_b212
  have f365 := f358.other W363 ne239
  have zs367 : n0 ≤ h363.size := Nat.le_trans zs360 (Keep.of_wr W363).1
  have N368 := Fr.snoc X363 N361 g_b212
  obtain ⟨car369, Aar369, qar369, Sar369, Nar369, Har369, Gar369⟩ := id V363
  have hinar369 : ¬ ((18 : Int32) < 0 ∨ car369.slots.size ≤ ((18 : Int32)).toNatClampNeg) := inb_of Sar369 ⟨by decide, by decide⟩
  obtain ⟨T370, h370, X370, e370, W370, st370⟩ := stI X363 hx hZ e363 Aar369 (j := (18 : Int32)) hinar369 (g := (mkF m 274 #[.val (.int p1), .val (.int p2), .val (.ref b1), .unset, .unset, .unset, .unset, .unset, .unset, .unset, .unset, .unset, .unset, .unset] [(.int (0 : Int32)), (.int (18 : Int32)), (.ref b212), (.ref b212)])) rfl rfl (hb hby at_274)
  have V370 : Arv Z h370 b212 k212 .int (26 : Int32) [(.int (0 : Int32)), (.int (4 : Int32)), (.int (1 : Int32)), (.int (0 : Int32)), (.int (2 : Int32)), (.int (1 : Int32)), (.int (0 : Int32)), (.int (0 : Int32)), (.int (0 : Int32)), (.int (0 : Int32)), (.int (0 : Int32)), (.int (0 : Int32)), (.int (0 : Int32)), (.int (0 : Int32)), (.int (0 : Int32)), (.int (0 : Int32)), (.int (0 : Int32)), (.int (0 : Int32)), (.int (0 : Int32)), (.int (0 : Int32)), (.int (0 : Int32)), (.int (0 : Int32)), (.int (0 : Int32)), (.int (0 : Int32)), (.int (0 : Int32)), (.int (0 : Int32))] (.int (0 : Int32)) := Arv.set Aar369 qar369 Sar369 Nar369 Har369 Gar369 rfl W370 18 rfl (Nat.le_of_ble_eq_true rfl)
  have f371 := f364.wr W370 g_b212
  have f372 := f365.other W370 ne239
  have zs374 : n0 ≤ h370.size := Nat.le_trans zs367 (Keep.of_wr W370).1
  have N375 := Fr.snoc X370 N368 g_b212
  obtain ⟨car376, Aar376, qar376, Sar376, Nar376, Har376, Gar376⟩ := id V370
  have hinar376 : ¬ ((19 : Int32) < 0 ∨ car376.slots.size ≤ ((19 : Int32)).toNatClampNeg) := inb_of Sar376 ⟨by decide, by decide⟩
  obtain ⟨T377, h377, X377, e377, W377, st377⟩ := stI X370 hx hZ e370 Aar376 (j := (19 : Int32)) hinar376 (g := (mkF m 279 #[.val (.int p1), .val (.int p2), .val (.ref b1), .unset, .unset, .unset, .unset, .unset, .unset, .unset, .unset, .unset, .unset, .unset] [(.int (0 : Int32)), (.int (19 : Int32)), (.ref b212), (.ref b212)])) rfl rfl (hb hby at_279)
  have V377 : Arv Z h377 b212 k212 .int (26 : Int32) [(.int (0 : Int32)), (.int (4 : Int32)), (.int (1 : Int32)), (.int (0 : Int32)), (.int (2 : Int32)), (.int (1 : Int32)), (.int (0 : Int32)), (.int (0 : Int32)), (.int (0 : Int32)), (.int (0 : Int32)), (.int (0 : Int32)), (.int (0 : Int32)), (.int (0 : Int32)), (.int (0 : Int32)), (.int (0 : Int32)), (.int (0 : Int32)), (.int (0 : Int32)), (.int (0 : Int32)), (.int (0 : Int32)), (.int (0 : Int32)), (.int (0 : Int32)), (.int (0 : Int32)), (.int (0 : Int32)), (.int (0 : Int32)), (.int (0 : Int32)), (.int (0 : Int32))] (.int (0 : Int32)) := Arv.set Aar376 qar376 Sar376 Nar376 Har376 Gar376 rfl W377 19 rfl (Nat.le_of_ble_eq_true rfl)
  have f378 := f371.wr W377 g_b212
  have f379 := f372.other W377 ne239
  have zs381 : n0 ≤ h377.size := Nat.le_trans zs374 (Keep.of_wr W377).1
  have N382 := Fr.snoc X377 N375 g_b212
  obtain ⟨car383, Aar383, qar383, Sar383, Nar383, Har383, Gar383⟩ := id V377
  have hinar383 : ¬ ((20 : Int32) < 0 ∨ car383.slots.size ≤ ((20 : Int32)).toNatClampNeg) := inb_of Sar383 ⟨by decide, by decide⟩
  obtain ⟨T384, h384, X384, e384, W384, st384⟩ := stI X377 hx hZ e377 Aar383 (j := (20 : Int32)) hinar383 (g := (mkF m 284 #[.val (.int p1), .val (.int p2), .val (.ref b1), .unset, .unset, .unset, .unset, .unset, .unset, .unset, .unset, .unset, .unset, .unset] [(.int (0 : Int32)), (.int (20 : Int32)), (.ref b212), (.ref b212)])) rfl rfl (hb hby at_284)
  have V384 : Arv Z h384 b212 k212 .int (26 : Int32) [(.int (0 : Int32)), (.int (4 : Int32)), (.int (1 : Int32)), (.int (0 : Int32)), (.int (2 : Int32)), (.int (1 : Int32)), (.int (0 : Int32)), (.int (0 : Int32)), (.int (0 : Int32)), (.int (0 : Int32)), (.int (0 : Int32)), (.int (0 : Int32)), (.int (0 : Int32)), (.int (0 : Int32)), (.int (0 : Int32)), (.int (0 : Int32)), (.int (0 : Int32)), (.int (0 : Int32)), (.int (0 : Int32)), (.int (0 : Int32)), (.int (0 : Int32)), (.int (0 : Int32)), (.int (0 : Int32)), (.int (0 : Int32)), (.int (0 : Int32)), (.int (0 : Int32))] (.int (0 : Int32)) := Arv.set Aar383 qar383 Sar383 Nar383 Har383 Gar383 rfl W384 20 rfl (Nat.le_of_ble_eq_true rfl)
  have f385 := f378.wr W384 g_b212
  have f386 := f379.other W384 ne239
  have zs388 : n0 ≤ h384.size := Nat.le_trans zs381 (Keep.of_wr W384).1
  have N389 := Fr.snoc X384 N382 g_b212
  obtain ⟨car390, Aar390, qar390, Sar390, Nar390, Har390, Gar390⟩ := id V384
  have hinar390 : ¬ ((21 : Int32) < 0 ∨ car390.slots.size ≤ ((21 : Int32)).toNatClampNeg) := inb_of Sar390 ⟨by decide, by decide⟩
  obtain ⟨T391, h391, X391, e391, W391, st391⟩ := stI X384 hx hZ e384 Aar390 (j := (21 : Int32)) hinar390 (g := (mkF m 289 #[.val (.int p1), .val (.int p2), .val (.ref b1), .unset, .unset, .unset, .unset, .unset, .unset, .unset, .unset, .unset, .unset, .unset] [(.int (0 : Int32)), (.int (21 : Int32)), (.ref b212), (.ref b212)])) rfl rfl (hb hby at_289)
  have V391 : Arv Z h391 b212 k212 .int (26 : Int32) [(.int (0 : Int32)), (.int (4 : Int32)), (.int (1 : Int32)), (.int (0 : Int32)), (.int (2 : Int32)), (.int (1 : Int32)), (.int (0 : Int32)), (.int (0 : Int32)), (.int (0 : Int32)), (.int (0 : Int32)), (.int (0 : Int32)), (.int (0 : Int32)), (.int (0 : Int32)), (.int (0 : Int32)), (.int (0 : Int32)), (.int (0 : Int32)), (.int (0 : Int32)), (.int (0 : Int32)), (.int (0 : Int32)), (.int (0 : Int32)), (.int (0 : Int32)), (.int (0 : Int32)), (.int (0 : Int32)), (.int (0 : Int32)), (.int (0 : Int32)), (.int (0 : Int32))] (.int (0 : Int32)) := Arv.set Aar390 qar390 Sar390 Nar390 Har390 Gar390 rfl W391 21 rfl (Nat.le_of_ble_eq_true rfl)
  have f392 := f385.wr W391 g_b212
  have f393 := f386.other W391 ne239
  have zs395 : n0 ≤ h391.size := Nat.le_trans zs388 (Keep.of_wr W391).1
  have N396 := Fr.snoc X391 N389 g_b212
  obtain ⟨car397, Aar397, qar397, Sar397, Nar397, Har397, Gar397⟩ := id V391
  have hinar397 : ¬ ((22 : Int32) < 0 ∨ car397.slots.size ≤ ((22 : Int32)).toNatClampNeg) := inb_of Sar397 ⟨by decide, by decide⟩
  obtain ⟨T398, h398, X398, e398, W398, st398⟩ := stI X391 hx hZ e391 Aar397 (j := (22 : Int32)) hinar397 (g := (mkF m 294 #[.val (.int p1), .val (.int p2), .val (.ref b1), .unset, .unset, .unset, .unset, .unset, .unset, .unset, .unset, .unset, .unset, .unset] [(.int (0 : Int32)), (.int (22 : Int32)), (.ref b212), (.ref b212)])) rfl rfl (hb hby at_294)
  have V398 : Arv Z h398 b212 k212 .int (26 : Int32) [(.int (0 : Int32)), (.int (4 : Int32)), (.int (1 : Int32)), (.int (0 : Int32)), (.int (2 : Int32)), (.int (1 : Int32)), (.int (0 : Int32)), (.int (0 : Int32)), (.int (0 : Int32)), (.int (0 : Int32)), (.int (0 : Int32)), (.int (0 : Int32)), (.int (0 : Int32)), (.int (0 : Int32)), (.int (0 : Int32)), (.int (0 : Int32)), (.int (0 : Int32)), (.int (0 : Int32)), (.int (0 : Int32)), (.int (0 : Int32)), (.int (0 : Int32)), (.int (0 : Int32)), (.int (0 : Int32)), (.int (0 : Int32)), (.int (0 : Int32)), (.int (0 : Int32))] (.int (0 : Int32)) := Arv.set Aar397 qar397 Sar397 Nar397 Har397 Gar397 rfl W398 22 rfl (Nat.le_of_ble_eq_true rfl)
  have f399 := f392.wr W398 g_b212
  have f400 := f393.other W398 ne239
  have zs402 : n0 ≤ h398.size := Nat.le_trans zs395 (Keep.of_wr W398).1
  have N403 := Fr.snoc X398 N396 g_b212
  obtain ⟨car404, Aar404, qar404, Sar404, Nar404, Har404, Gar404⟩ := id V398
  have hinar404 : ¬ ((23 : Int32) < 0 ∨ car404.slots.size ≤ ((23 : Int32)).toNatClampNeg) := inb_of Sar404 ⟨by decide, by decide⟩
  obtain ⟨T405, h405, X405, e405, W405, st405⟩ := stI X398 hx hZ e398 Aar404 (j := (23 : Int32)) hinar404 (g := (mkF m 299 #[.val (.int p1), .val (.int p2), .val (.ref b1), .unset, .unset, .unset, .unset, .unset, .unset, .unset, .unset, .unset, .unset, .unset] [(.int (0 : Int32)), (.int (23 : Int32)), (.ref b212), (.ref b212)])) rfl rfl (hb hby at_299)
  have V405 : Arv Z h405 b212 k212 .int (26 : Int32) [(.int (0 : Int32)), (.int (4 : Int32)), (.int (1 : Int32)), (.int (0 : Int32)), (.int (2 : Int32)), (.int (1 : Int32)), (.int (0 : Int32)), (.int (0 : Int32)), (.int (0 : Int32)), (.int (0 : Int32)), (.int (0 : Int32)), (.int (0 : Int32)), (.int (0 : Int32)), (.int (0 : Int32)), (.int (0 : Int32)), (.int (0 : Int32)), (.int (0 : Int32)), (.int (0 : Int32)), (.int (0 : Int32)), (.int (0 : Int32)), (.int (0 : Int32)), (.int (0 : Int32)), (.int (0 : Int32)), (.int (0 : Int32)), (.int (0 : Int32)), (.int (0 : Int32))] (.int (0 : Int32)) := Arv.set Aar404 qar404 Sar404 Nar404 Har404 Gar404 rfl W405 23 rfl (Nat.le_of_ble_eq_true rfl)
  have f406 := f399.wr W405 g_b212
  have f407 := f400.other W405 ne239
  have zs409 : n0 ≤ h405.size := Nat.le_trans zs402 (Keep.of_wr W405).1
  have N410 := Fr.snoc X405 N403 g_b212
  obtain ⟨car411, Aar411, qar411, Sar411, Nar411, Har411, Gar411⟩ := id V405
  have hinar411 : ¬ ((24 : Int32) < 0 ∨ car411.slots.size ≤ ((24 : Int32)).toNatClampNeg) := inb_of Sar411 ⟨by decide, by decide⟩
  obtain ⟨T412, h412, X412, e412, W412, st412⟩ := stI X405 hx hZ e405 Aar411 (j := (24 : Int32)) hinar411 (g := (mkF m 304 #[.val (.int p1), .val (.int p2), .val (.ref b1), .unset, .unset, .unset, .unset, .unset, .unset, .unset, .unset, .unset, .unset, .unset] [(.int (0 : Int32)), (.int (24 : Int32)), (.ref b212), (.ref b212)])) rfl rfl (hb hby at_304)
  have V412 : Arv Z h412 b212 k212 .int (26 : Int32) [(.int (0 : Int32)), (.int (4 : Int32)), (.int (1 : Int32)), (.int (0 : Int32)), (.int (2 : Int32)), (.int (1 : Int32)), (.int (0 : Int32)), (.int (0 : Int32)), (.int (0 : Int32)), (.int (0 : Int32)), (.int (0 : Int32)), (.int (0 : Int32)), (.int (0 : Int32)), (.int (0 : Int32)), (.int (0 : Int32)), (.int (0 : Int32)), (.int (0 : Int32)), (.int (0 : Int32)), (.int (0 : Int32)), (.int (0 : Int32)), (.int (0 : Int32)), (.int (0 : Int32)), (.int (0 : Int32)), (.int (0 : Int32)), (.int (0 : Int32)), (.int (0 : Int32))] (.int (0 : Int32)) := Arv.set Aar411 qar411 Sar411 Nar411 Har411 Gar411 rfl W412 24 rfl (Nat.le_of_ble_eq_true rfl)
  have f413 := f406.wr W412 g_b212
  have f414 := f407.other W412 ne239
  have zs416 : n0 ≤ h412.size := Nat.le_trans zs409 (Keep.of_wr W412).1
  have N417 := Fr.snoc X412 N410 g_b212
  obtain ⟨car418, Aar418, qar418, Sar418, Nar418, Har418, Gar418⟩ := id V412
  have hinar418 : ¬ ((25 : Int32) < 0 ∨ car418.slots.size ≤ ((25 : Int32)).toNatClampNeg) := inb_of Sar418 ⟨by decide, by decide⟩
  obtain ⟨T419, h419, X419, e419, W419, st419⟩ := stI X412 hx hZ e412 Aar418 (j := (25 : Int32)) hinar418 (g := (mkF m 309 #[.val (.int p1), .val (.int p2), .val (.ref b1), .unset, .unset, .unset, .unset, .unset, .unset, .unset, .unset, .unset, .unset, .unset] [(.int (0 : Int32)), (.int (25 : Int32)), (.ref b212), (.ref b212)])) rfl rfl (hb hby at_309)
  have V419 : Arv Z h419 b212 k212 .int (26 : Int32) [(.int (0 : Int32)), (.int (4 : Int32)), (.int (1 : Int32)), (.int (0 : Int32)), (.int (2 : Int32)), (.int (1 : Int32)), (.int (0 : Int32)), (.int (0 : Int32)), (.int (0 : Int32)), (.int (0 : Int32)), (.int (0 : Int32)), (.int (0 : Int32)), (.int (0 : Int32)), (.int (0 : Int32)), (.int (0 : Int32)), (.int (0 : Int32)), (.int (0 : Int32)), (.int (0 : Int32)), (.int (0 : Int32)), (.int (0 : Int32)), (.int (0 : Int32)), (.int (0 : Int32)), (.int (0 : Int32)), (.int (0 : Int32)), (.int (0 : Int32)), (.int (0 : Int32))] (.int (0 : Int32)) := Arv.set Aar418 qar418 Sar418 Nar418 Har418 Gar418 rfl W419 25 rfl (Nat.le_of_ble_eq_true rfl)
  have f420 := f413.wr W419 g_b212
  have f421 := f414.other W419 ne239
  have zs423 : n0 ≤ h419.size := Nat.le_trans zs416 (Keep.of_wr W419).1
  have N424 := Fr.snoc X419 N417 g_b212
  obtain ⟨T425, h425, k425, X425, e425, E425, A425, st425⟩ := newP X419 hx hZ (hw _ (List.mem_of_getElem? (i := 56) rfl)) e419 (g := (mkF m 313 #[.val (.int p1), .val (.int p2), .val (.ref b1), .val (.ref b212), .unset, .unset, .unset, .unset, .unset, .unset, .unset, .unset, .unset, .unset] [(.int (26 : Int32))])) rfl (hb hby at_313) rfl (by decide) (cap := 26) (by decide) (by decide) (by decide) (by decide)
  obtain ⟨b425, g425⟩ : ∃ z, z = h419.size := ⟨_, rfl⟩
  rw [← g425] at A425 st425
  have g_b425 : n0 ≤ b425 := Nat.le_trans zs423 (Nat.le_of_eq g425.symm)
  have ne426 : w_PRODUCE ≠ b425 := Nat.ne_of_lt (Nat.lt_of_lt_of_le (E_w_PRODUCE.ext f420.2).lt (Nat.le_of_eq g425.symm))
  have ne427 : w_FETCH ≠ b425 := Nat.ne_of_lt (Nat.lt_of_lt_of_le (E_w_FETCH.ext f420.2).lt (Nat.le_of_eq g425.symm))
  have ne428 : w_LIST_OFFSETS ≠ b425 := Nat.ne_of_lt (Nat.lt_of_lt_of_le (E_w_LIST_OFFSETS.ext f420.2).lt (Nat.le_of_eq g425.symm))
  have ne429 : w_METADATA ≠ b425 := Nat.ne_of_lt (Nat.lt_of_lt_of_le (E_w_METADATA.ext f420.2).lt (Nat.le_of_eq g425.symm))
  have ne430 : w_OFFSET_COMMIT ≠ b425 := Nat.ne_of_lt (Nat.lt_of_lt_of_le (E_w_OFFSET_COMMIT.ext f420.2).lt (Nat.le_of_eq g425.symm))
  have ne431 : w_OFFSET_FETCH ≠ b425 := Nat.ne_of_lt (Nat.lt_of_lt_of_le (E_w_OFFSET_FETCH.ext f420.2).lt (Nat.le_of_eq g425.symm))
  have ne432 : w_FIND_COORDINATOR ≠ b425 := Nat.ne_of_lt (Nat.lt_of_lt_of_le (E_w_FIND_COORDINATOR.ext f420.2).lt (Nat.le_of_eq g425.symm))
  have ne433 : w_JOIN_GROUP ≠ b425 := Nat.ne_of_lt (Nat.lt_of_lt_of_le (E_w_JOIN_GROUP.ext f420.2).lt (Nat.le_of_eq g425.symm))
  have ne434 : w_HEARTBEAT ≠ b425 := Nat.ne_of_lt (Nat.lt_of_lt_of_le (E_w_HEARTBEAT.ext f420.2).lt (Nat.le_of_eq g425.symm))
  have ne435 : w_LEAVE_GROUP ≠ b425 := Nat.ne_of_lt (Nat.lt_of_lt_of_le (E_w_LEAVE_GROUP.ext f420.2).lt (Nat.le_of_eq g425.symm))
  have ne436 : w_SYNC_GROUP ≠ b425 := Nat.ne_of_lt (Nat.lt_of_lt_of_le (E_w_SYNC_GROUP.ext f420.2).lt (Nat.le_of_eq g425.symm))
  have ne437 : w_DESCRIBE_GROUPS ≠ b425 := Nat.ne_of_lt (Nat.lt_of_lt_of_le (E_w_DESCRIBE_GROUPS.ext f420.2).lt (Nat.le_of_eq g425.symm))
  have ne438 : w_LIST_GROUPS ≠ b425 := Nat.ne_of_lt (Nat.lt_of_lt_of_le (E_w_LIST_GROUPS.ext f420.2).lt (Nat.le_of_eq g425.symm))
  have ne439 : w_API_VERSIONS ≠ b425 := Nat.ne_of_lt (Nat.lt_of_lt_of_le (E_w_API_VERSIONS.ext f420.2).lt (Nat.le_of_eq g425.symm))
  have ne440 : w_CREATE_TOPICS ≠ b425 := Nat.ne_of_lt (Nat.lt_of_lt_of_le (E_w_CREATE_TOPICS.ext f420.2).lt (Nat.le_of_eq g425.symm))
  have ne441 : w_DELETE_TOPICS ≠ b425 := Nat.ne_of_lt (Nat.lt_of_lt_of_le (E_w_DELETE_TOPICS.ext f420.2).lt (Nat.le_of_eq g425.symm))
  have ne442 : w_INIT_PRODUCER_ID ≠ b425 := Nat.ne_of_lt (Nat.lt_of_lt_of_le (E_w_INIT_PRODUCER_ID.ext f420.2).lt (Nat.le_of_eq g425.symm))
  have ne443 : w_ADD_PARTITIONS_TO_TXN ≠ b425 := Nat.ne_of_lt (Nat.lt_of_lt_of_le (E_w_ADD_PARTITIONS_TO_TXN.ext f420.2).lt (Nat.le_of_eq g425.symm))
  have ne444 : w_ADD_OFFSETS_TO_TXN ≠ b425 := Nat.ne_of_lt (Nat.lt_of_lt_of_le (E_w_ADD_OFFSETS_TO_TXN.ext f420.2).lt (Nat.le_of_eq g425.symm))
  have ne445 : w_END_TXN ≠ b425 := Nat.ne_of_lt (Nat.lt_of_lt_of_le (E_w_END_TXN.ext f420.2).lt (Nat.le_of_eq g425.symm))
  have ne446 : w_TXN_OFFSET_COMMIT ≠ b425 := Nat.ne_of_lt (Nat.lt_of_lt_of_le (E_w_TXN_OFFSET_COMMIT.ext f420.2).lt (Nat.le_of_eq g425.symm))
  have ne447 : w_DESCRIBE_CONFIGS ≠ b425 := Nat.ne_of_lt (Nat.lt_of_lt_of_le (E_w_DESCRIBE_CONFIGS.ext f420.2).lt (Nat.le_of_eq g425.symm))
  have ne448 : w_ALTER_CONFIGS ≠ b425 := Nat.ne_of_lt (Nat.lt_of_lt_of_le (E_w_ALTER_CONFIGS.ext f420.2).lt (Nat.le_of_eq g425.symm))
  have ne449 : w_CREATE_PARTITIONS ≠ b425 := Nat.ne_of_lt (Nat.lt_of_lt_of_le (E_w_CREATE_PARTITIONS.ext f420.2).lt (Nat.le_of_eq g425.symm))
  have ne450 : w_DELETE_GROUPS ≠ b425 := Nat.ne_of_lt (Nat.lt_of_lt_of_le (E_w_DELETE_GROUPS.ext f420.2).lt (Nat.le_of_eq g425.symm))
  have ne451 : w_INCREMENTAL_ALTER_CONFIGS ≠ b425 := Nat.ne_of_lt (Nat.lt_of_lt_of_le (E_w_INCREMENTAL_ALTER_CONFIGS.ext f420.2).lt (Nat.le_of_eq g425.symm))
  have ne452 : b1 ≠ b425 := Nat.ne_of_lt (Nat.lt_of_lt_of_le f421.lt (Nat.le_of_eq g425.symm))
  have ne453 : b212 ≠ b425 := Nat.ne_of_lt (Nat.lt_of_lt_of_le V419.lt (Nat.le_of_eq g425.symm))
  have f454 := f420.ext E425
  have f455 := f421.ext E425
  have f456 := V419.ext E425
  have zs457 : n0 ≤ h425.size := Nat.le_trans zs423 E425.1
  have V_b425 : Arv Z h425 b425 k425 .int (26 : Int32) [(.int (0 : Int32)), (.int (0 : Int32)), (.int (0 : Int32)), (.int (0 : Int32)), (.int (0 : Int32)), (.int (0 : Int32)), (.int (0 : Int32)), (.int (0 : Int32)), (.int (0 : Int32)), (.int (0 : Int32)), (.int (0 : Int32)), (.int (0 : Int32)), (.int (0 : Int32)), (.int (0 : Int32)), (.int (0 : Int32)), (.int (0 : Int32)), (.int (0 : Int32)), (.int (0 : Int32)), (.int (0 : Int32)), (.int (0 : Int32)), (.int (0 : Int32)), (.int (0 : Int32)), (.int (0 : Int32)), (.int (0 : Int32)), (.int (0 : Int32)), (.int (0 : Int32))] (.int (0 : Int32)) := (Arv.new A425 (by decide)).pad (pad_rep [] (.int (0 : Int32)) 26)
  obtain ⟨car458, Aar458, qar458, Sar458, Nar458, Har458, Gar458⟩ := id V_b425
  have hinar458 : ¬ ((0 : Int32) < 0 ∨ car458.slots.size ≤ ((0 : Int32)).toNatClampNeg) := inb_of Sar458 ⟨by decide, by decide⟩
  obtain ⟨T459, h459, X459, e459, W459, st459⟩ := stI X425 hx hZ e425 Aar458 (j := (0 : Int32)) hinar458 (g := (mkF m 319 #[.val (.int p1), .val (.int p2), .val (.ref b1), .val (.ref b212), .unset, .unset, .unset, .unset, .unset, .unset, .unset, .unset, .unset, .unset] [(.int (7 : Int32)), (.int (0 : Int32)), (.ref b425), (.ref b425)])) rfl rfl (hb hby at_319)
  have V459 : Arv Z h459 b425 k425 .int (26 : Int32) [(.int (7 : Int32)), (.int (0 : Int32)), (.int (0 : Int32)), (.int (0 : Int32)), (.int (0 : Int32)), (.int (0 : Int32)), (.int (0 : Int32)), (.int (0 : Int32)), (.int (0 : Int32)), (.int (0 : Int32)), (.int (0 : Int32)), (.int (0 : Int32)), (.int (0 : Int32)), (.int (0 : Int32)), (.int (0 : Int32)), (.int (0 : Int32)), (.int (0 : Int32)), (.int (0 : Int32)), (.int (0 : Int32)), (.int (0 : Int32)), (.int (0 : Int32)), (.int (0 : Int32)), (.int (0 : Int32)), (.int (0 : Int32)), (.int (0 : Int32)), (.int (0 : Int32))] (.int (0 : Int32)) := Arv.set Aar458 qar458 Sar458 Nar458 Har458 Gar458 rfl W459 0 rfl (Nat.le_of_ble_eq_true rfl)
  have f460 := f454.wr W459 g_b425
  have f461 := f455.other W459 ne452
  have f462 := f456.other W459 ne453
  have zs464 : n0 ≤ h459.size := Nat.le_trans zs457 (Keep.of_wr W459).1
  have N465 := Fr.snoc X459 N424 g_b425
  obtain ⟨car466, Aar466, qar466, Sar466, Nar466, Har466, Gar466⟩ := id V459
  have hinar466 : ¬ ((1 : Int32) < 0 ∨ car466.slots.size ≤ ((1 : Int32)).toNatClampNeg) := inb_of Sar466 ⟨by decide, by decide⟩
  obtain ⟨T467, h467, X467, e467, W467, st467⟩ := stI X459 hx hZ e459 Aar466 (j := (1 : Int32)) hinar466 (g := (mkF m 324 #[.val (.int p1), .val (.int p2), .val (.ref b1), .val (.ref b212), .unset, .unset, .unset, .unset, .unset, .unset, .unset, .unset, .unset, .unset] [(.int (11 : Int32)), (.int (1 : Int32)), (.ref b425), (.ref b425)])) rfl rfl (hb hby at_324)
  have V467 : Arv Z h467 b425 k425 .int (26 : Int32) [(.int (7 : Int32)), (.int (11 : Int32)), (.int (0 : Int32)), (.int (0 : Int32)), (.int (0 : Int32)), (.int (0 : Int32)), (.int (0 : Int32)), (.int (0 : Int32)), (.int (0 : Int32)), (.int (0 : Int32)), (.int (0 : Int32)), (.int (0 : Int32)), (.int (0 : Int32)), (.int (0 : Int32)), (.int (0 : Int32)), (.int (0 : Int32)), (.int (0 : Int32)), (.int (0 : Int32)), (.int (0 : Int32)), (.int (0 : Int32)), (.int (0 : Int32)), (.int (0 : Int32)), (.int (0 : Int32)), (.int (0 : Int32)), (.int (0 : Int32)), (.int (0 : Int32))] (.int (0 : Int32)) := Arv.set Aar466 qar466 Sar466 Nar466 Har466 Gar466 rfl W467 1 rfl (Nat.le_of_ble_eq_true rfl)
  have f468 := f460.wr W467 g_b425
  have f469 := f461.other W467 ne452
  have f470 := f462.other W467 ne453
  have zs472 : n0 ≤ h467.size := Nat.le_trans zs464 (Keep.of_wr W467).1
  have N473 := Fr.snoc X467 N465 g_b425
  obtain ⟨car474, Aar474, qar474, Sar474, Nar474, Har474, Gar474⟩ := id V467
  have hinar474 : ¬ ((2 : Int32) < 0 ∨ car474.slots.size ≤ ((2 : Int32)).toNatClampNeg) := inb_of Sar474 ⟨by decide, by decide⟩
  obtain ⟨T475, h475, X475, e475, W475, st475⟩ := stI X467 hx hZ e467 Aar474 (j := (2 : Int32)) hinar474 (g := (mkF m 328 #[.val (.int p1), .val (.int p2), .val (.ref b1), .val (.ref b212), .unset, .unset, .unset, .unset, .unset, .unset, .unset, .unset, .unset, .unset] [(.int (2 : Int32)), (.int (2 : Int32)), (.ref b425), (.ref b425)])) rfl rfl (hb hby at_328)
  have V475 : Arv Z h475 b425 k425 .int (26 : Int32) [(.int (7 : Int32)), (.int (11 : Int32)), (.int (2 : Int32)), (.int (0 : Int32)), (.int (0 : Int32)), (.int (0 : Int32)), (.int (0 : Int32)), (.int (0 : Int32)), (.int (0 : Int32)), (.int (0 : Int32)), (.int (0 : Int32)), (.int (0 : Int32)), (.int (0 : Int32)), (.int (0 : Int32)), (.int (0 : Int32)), (.int (0 : Int32)), (.int (0 : Int32)), (.int (0 : Int32)), (.int (0 : Int32)), (.int (0 : Int32)), (.int (0 : Int32)), (.int (0 : Int32)), (.int (0 : Int32)), (.int (0 : Int32)), (.int (0 : Int32)), (.int (0 : Int32))] (.int (0 : Int32)) := Arv.set Aar474 qar474 Sar474 Nar474 Har474 Gar474 rfl W475 2 rfl (Nat.le_of_ble_eq_true rfl)
  have f476 := f468.wr W475 g_b425
  have f477 := f469.other W475 ne452
  have f478 := f470.other W475 ne453
  have zs480 : n0 ≤ h475.size := Nat.le_trans zs472 (Keep.of_wr W475).1
  have N481 := Fr.snoc X475 N473 g_b425
  obtain ⟨car482, Aar482, qar482, Sar482, Nar482, Har482, Gar482⟩ := id V475
  have hinar482 : ¬ ((3 : Int32) < 0 ∨ car482.slots.size ≤ ((3 : Int32)).toNatClampNeg) := inb_of Sar482 ⟨by decide, by decide⟩
  obtain ⟨T483, h483, X483, e483, W483, st483⟩ := stI X475 hx hZ e475 Aar482 (j := (3 : Int32)) hinar482 (g := (mkF m 332 #[.val (.int p1), .val (.int p2), .val (.ref b1), .val (.ref b212), .unset, .unset, .unset, .unset, .unset, .unset, .unset, .unset, .unset, .unset] [(.int (4 : Int32)), (.int (3 : Int32)), (.ref b425), (.ref b425)])) rfl rfl (hb hby at_332)
  have V483 : Arv Z h483 b425 k425 .int (26 : Int32) [(.int (7 : Int32)), (.int (11 : Int32)), (.int (2 : Int32)), (.int (4 : Int32)), (.int (0 : Int32)), (.int (0 : Int32)), (.int (0 : Int32)), (.int (0 : Int32)), (.int (0 : Int32)), (.int (0 : Int32)), (.int (0 : Int32)), (.int (0 : Int32)), (.int (0 : Int32)), (.int (0 : Int32)), (.int (0 : Int32)), (.int (0 : Int32)), (.int (0 : Int32)), (.int (0 : Int32)), (.int (0 : Int32)), (.int (0 : Int32)), (.int (0 : Int32)), (.int (0 : Int32)), (.int (0 : Int32)), (.int (0 : Int32)), (.int (0 : Int32)), (.int (0 : Int32))] (.int (0 : Int32)) := Arv.set Aar482 qar482 Sar482 Nar482 Har482 Gar482 rfl W483 3 rfl (Nat.le_of_ble_eq_true rfl)
  have f484 := f476.wr W483 g_b425
  have f485 := f477.other W483 ne452
  have f486 := f478.other W483 ne453
  have zs488 : n0 ≤ h483.size := Nat.le_trans zs480 (Keep.of_wr W483).1
  have N489 := Fr.snoc X483 N481 g_b425
  obtain ⟨car490, Aar490, qar490, Sar490, Nar490, Har490, Gar490⟩ := id V483
  have hinar490 : ¬ ((4 : Int32) < 0 ∨ car490.slots.size ≤ ((4 : Int32)).toNatClampNeg) := inb_of Sar490 ⟨by decide, by decide⟩
  obtain ⟨T491, h491, X491, e491, W491, st491⟩ := stI X483 hx hZ e483 Aar490 (j := (4 : Int32)) hinar490 (g := (mkF m 337 #[.val (.int p1), .val (.int p2), .val (.ref b1), .val (.ref b212), .unset, .unset, .unset, .unset, .unset, .unset, .unset, .unset, .unset, .unset] [(.int (7 : Int32)), (.int (4 : Int32)), (.ref b425), (.ref b425)])) rfl rfl (hb hby at_337)
  have V491 : Arv Z h491 b425 k425 .int (26 : Int32) [(.int (7 : Int32)), (.int (11 : Int32)), (.int (2 : Int32)), (.int (4 : Int32)), (.int (7 : Int32)), (.int (0 : Int32)), (.int (0 : Int32)), (.int (0 : Int32)), (.int (0 : Int32)), (.int (0 : Int32)), (.int (0 : Int32)), (.int (0 : Int32)), (.int (0 : Int32)), (.int (0 : Int32)), (.int (0 : Int32)), (.int (0 : Int32)), (.int (0 : Int32)), (.int (0 : Int32)), (.int (0 : Int32)), (.int (0 : Int32)), (.int (0 : Int32)), (.int (0 : Int32)), (.int (0 : Int32)), (.int (0 : Int32)), (.int (0 : Int32)), (.int (0 : Int32))] (.int (0 : Int32)) := Arv.set Aar490 qar490 Sar490 Nar490 Har490 Gar490 rfl W491 4 rfl (Nat.le_of_ble_eq_true rfl)
  have f492 := f484.wr W491 g_b425
  have f493 := f485.other W491 ne452
  have f494 := f486.other W491 ne453
  have zs496 : n0 ≤ h491.size := Nat.le_trans zs488 (Keep.of_wr W491).1
  have N497 := Fr.snoc X491 N489 g_b425
  obtain ⟨car498, Aar498, qar498, Sar498, Nar498, Har498, Gar498⟩ := id V491
  have hinar498 : ¬ ((5 : Int32) < 0 ∨ car498.slots.size ≤ ((5 : Int32)).toNatClampNeg) := inb_of Sar498 ⟨by decide, by decide⟩
  obtain ⟨T499, h499, X499, e499, W499, st499⟩ := stI X491 hx hZ e491 Aar498 (j := (5 : Int32)) hinar498 (g := (mkF m 342 #[.val (.int p1), .val (.int p2), .val (.ref b1), .val (.ref b212), .unset, .unset, .unset, .unset, .unset, .unset, .unset, .unset, .unset, .unset] [(.int (7 : Int32)), (.int (5 : Int32)), (.ref b425), (.ref b425)])) rfl rfl (hb hby at_342)
  have V499 : Arv Z h499 b425 k425 .int (26 : Int32) [(.int (7 : Int32)), (.int (11 : Int32)), (.int (2 : Int32)), (.int (4 : Int32)), (.int (7 : Int32)), (.int (7 : Int32)), (.int (0 : Int32)), (.int (0 : Int32)), (.int (0 : Int32)), (.int (0 : Int32)), (.int (0 : Int32)), (.int (0 : Int32)), (.int (0 : Int32)), (.int (0 : Int32)), (.int (0 : Int32)), (.int (0 : Int32)), (.int (0 : Int32)), (.int (0 : Int32)), (.int (0 : Int32)), (.int (0 : Int32)), (.int (0 : Int32)), (.int (0 : Int32)), (.int (0 : Int32)), (.int (0 : Int32)), (.int (0 : Int32)), (.int (0 : Int32))] (.int (0 : Int32)) := Arv.set Aar498 qar498 Sar498 Nar498 Har498 Gar498 rfl W499 5 rfl (Nat.le_of_ble_eq_true rfl)
  have f500 := f492.wr W499 g_b425
  have f501 := f493.other W499 ne452
  have f502 := f494.other W499 ne453
  have zs504 : n0 ≤ h499.size := Nat.le_trans zs496 (Keep.of_wr W499).1
  have N505 := Fr.snoc X499 N497 g_b425
  obtain ⟨car506, Aar506, qar506, Sar506, Nar506, Har506, Gar506⟩ := id V499
  have hinar506 : ¬ ((6 : Int32) < 0 ∨ car506.slots.size ≤ ((6 : Int32)).toNatClampNeg) := inb_of Sar506 ⟨by decide, by decide⟩
  obtain ⟨T507, h507, X507, e507, W507, st507⟩ := stI X499 hx hZ e499 Aar506 (j := (6 : Int32)) hinar506 (g := (mkF m 347 #[.val (.int p1), .val (.int p2), .val (.ref b1), .val (.ref b212), .unset, .unset, .unset, .unset, .unset, .unset, .unset, .unset, .unset, .unset] [(.int (2 : Int32)), (.int (6 : Int32)), (.ref b425), (.ref b425)])) rfl rfl (hb hby at_347)
  have V507 : Arv Z h507 b425 k425 .int (26 : Int32) [(.int (7 : Int32)), (.int (11 : Int32)), (.int (2 : Int32)), (.int (4 : Int32)), (.int (7 : Int32)), (.int (7 : Int32)), (.int (2 : Int32)), (.int (0 : Int32)), (.int (0 : Int32)), (.int (0 : Int32)), (.int (0 : Int32)), (.int (0 : Int32)), (.int (0 : Int32)), (.int (0 : Int32)), (.int (0 : Int32)), (.int (0 : Int32)), (.int (0 : Int32)), (.int (0 : Int32)), (.int (0 : Int32)), (.int (0 : Int32)), (.int (0 : Int32)), (.int (0 : Int32)), (.int (0 : Int32)), (.int (0 : Int32)), (.int (0 : Int32)), (.int (0 : Int32))] (.int (0 : Int32)) := Arv.set Aar506 qar506 Sar506 Nar506 Har506 Gar506 rfl W507 6 rfl (Nat.le_of_ble_eq_true rfl)
  have f508 := f500.wr W507 g_b425
  have f509 := f501.other W507 ne452
  have f510 := f502.other W507 ne453
  have zs512 : n0 ≤ h507.size := Nat.le_trans zs504 (Keep.of_wr W507).1
  have N513 := Fr.snoc X507 N505 g_b425
  obtain ⟨car514, Aar514, qar514, Sar514, Nar514, Har514, Gar514⟩ := id V507
  have hinar514 : ¬ ((7 : Int32) < 0 ∨ car514.slots.size ≤ ((7 : Int32)).toNatClampNeg) := inb_of Sar514 ⟨by decide, by decide⟩
  obtain ⟨T515, h515, X515, e515, W515, st515⟩ := stI X507 hx hZ e507 Aar514 (j := (7 : Int32)) hinar514 (g := (mkF m 352 #[.val (.int p1), .val (.int p2), .val (.ref b1), .val (.ref b212), .unset, .unset, .unset, .unset, .unset, .unset, .unset, .unset, .unset, .unset] [(.int (5 : Int32)), (.int (7 : Int32)), (.ref b425), (.ref b425)])) rfl rfl (hb hby at_352)
  have V515 : Arv Z h515 b425 k425 .int (26 : Int32) [(.int (7 : Int32)), (.int (11 : Int32)), (.int (2 : Int32)), (.int (4 : Int32)), (.int (7 : Int32)), (.int (7 : Int32)), (.int (2 : Int32)), (.int (5 : Int32)), (.int (0 : Int32)), (.int (0 : Int32)), (.int (0 : Int32)), (.int (0 : Int32)), (.int (0 : Int32)), (.int (0 : Int32)), (.int (0 : Int32)), (.int (0 : Int32)), (.int (0 : Int32)), (.int (0 : Int32)), (.int (0 : Int32)), (.int (0 : Int32)), (.int (0 : Int32)), (.int (0 : Int32)), (.int (0 : Int32)), (.int (0 : Int32)), (.int (0 : Int32)), (.int (0 : Int32))] (.int (0 : Int32)) := Arv.set Aar514 qar514 Sar514 Nar514 Har514 Gar514 rfl W515 7 rfl (Nat.le_of_ble_eq_true rfl)
  have f516 := f508.wr W515 g_b425
  have f517 := f509.other W515 ne452
  have f518 := f510.other W515 ne453
  have zs520 : n0 ≤ h515.size := Nat.le_trans zs512 (Keep.of_wr W515).1
  have N521 := Fr.snoc X515 N513 g_b425
  obtain ⟨car522, Aar522, qar522, Sar522, Nar522, Har522, Gar522⟩ := id V515
  have hinar522 : ¬ ((8 : Int32) < 0 ∨ car522.slots.size ≤ ((8 : Int32)).toNatClampNeg) := inb_of Sar522 ⟨by decide, by decide⟩
  obtain ⟨T523, h523, X523, e523, W523, st523⟩ := stI X515 hx hZ e515 Aar522 (j := (8 : Int32)) hinar522 (g := (mkF m 357 #[.val (.int p1), .val (.int p2), .val (.ref b1), .val (.ref b212), .unset, .unset, .unset, .unset, .unset, .unset, .unset, .unset, .unset, .unset] [(.int (3 : Int32)), (.int (8 : Int32)), (.ref b425), (.ref b425)])) rfl rfl (hb hby at_357)
  have V523 : Arv Z h523 b425 k425 .int (26 : Int32) [(.int (7 : Int32)), (.int (11 : Int32)), (.int (2 : Int32)), (.int (4 : Int32)), (.int (7 : Int32)), (.int (7 : Int32)), (.int (2 : Int32)), (.int (5 : Int32)), (.int (3 : Int32)), (.int (0 : Int32)), (.int (0 : Int32)), (.int (0 : Int32)), (.int (0 : Int32)), (.int (0 : Int32)), (.int (0 : Int32)), (.int (0 : Int32)), (.int (0 : Int32)), (.int (0 : Int32)), (.int (0 : Int32)), (.int (0 : Int32)), (.int (0 : Int32)), (.int (0 : Int32)), (.int (0 : Int32)), (.int (0 : Int32)), (.int (0 : Int32)), (.int (0 : Int32))] (.int (0 : Int32)) := Arv.set Aar522 qar522 Sar522 Nar522 Har522 Gar522 rfl W523 8 rfl (Nat.le_of_ble_eq_true rfl)
  have f524 := f516.wr W523 g_b425
  have f525 := f517.other W523 ne452
  have f526 := f518.other W523 ne453
  have zs528 : n0 ≤ h523.size := Nat.le_trans zs520 (Keep.of_wr W523).1
  have N529 := Fr.snoc X523 N521 g_b425
  obtain ⟨car530, Aar530, qar530, Sar530, Nar530, Har530, Gar530⟩ := id V523
  have hinar530 : ¬ ((9 : Int32) < 0 ∨ car530.slots.size ≤ ((9 : Int32)).toNatClampNeg) := inb_of Sar530 ⟨by decide, by decide⟩
  obtain ⟨T531, h531, X531, e531, W531, st531⟩ := stI X523 hx hZ e523 Aar530 (j := (9 : Int32)) hinar530 (g := (mkF m 362 #[.val (.int p1), .val (.int p2), .val (.ref b1), .val (.ref b212), .unset, .unset, .unset, .unset, .unset, .unset, .unset, .unset, .unset, .unset] [(.int (3 : Int32)), (.int (9 : Int32)), (.ref b425), (.ref b425)])) rfl rfl (hb hby at_362)
  have V531 : Arv Z h531 b425 k425 .int (26 : Int32) [(.int (7 : Int32)), (.int (11 : Int32)), (.int (2 : Int32)), (.int (4 : Int32)), (.int (7 : Int32)), (.int (7 : Int32)), (.int (2 : Int32)), (.int (5 : Int32)), (.int (3 : Int32)), (.int (3 : Int32)), (.int (0 : Int32)), (.int (0 : Int32)), (.int (0 : Int32)), (.int (0 : Int32)), (.int (0 : Int32)), (.int (0 : Int32)), (.int (0 : Int32)), (.int (0 : Int32)), (.int (0 : Int32)), (.int (0 : Int32)), (.int (0 : Int32)), (.int (0 : Int32)), (.int (0 : Int32)), (.int (0 : Int32)), (.int (0 : Int32)), (.int (0 : Int32))] (.int (0 : Int32)) := Arv.set Aar530 qar530 Sar530 Nar530 Har530 Gar530 rfl W531 9 rfl (Nat.le_of_ble_eq_true rfl)
  have f532 := f524.wr W531 g_b425
  have f533 := f525.other W531 ne452
  have f534 := f526.other W531 ne453
  have zs536 : n0 ≤ h531.size := Nat.le_trans zs528 (Keep.of_wr W531).1
  have N537 := Fr.snoc X531 N529 g_b425
  obtain ⟨car538, Aar538, qar538, Sar538, Nar538, Har538, Gar538⟩ := id V531
  have hinar538 : ¬ ((10 : Int32) < 0 ∨ car538.slots.size ≤ ((10 : Int32)).toNatClampNeg) := inb_of Sar538 ⟨by decide, by decide⟩
  obtain ⟨T539, h539, X539, e539, W539, st539⟩ := stI X531 hx hZ e531 Aar538 (j := (10 : Int32)) hinar538 (g := (mkF m 367 #[.val (.int p1), .val (.int p2), .val (.ref b1), .val (.ref b212), .unset, .unset, .unset, .unset, .unset, .unset, .unset, .unset, .unset, .unset] [(.int (3 : Int32)), (.int (10 : Int32)), (.ref b425), (.ref b425)])) rfl rfl (hb hby at_367)
  have V539 : Arv Z h539 b425 k425 .int (26 : Int32) [(.int (7 : Int32)), (.int (11 : Int32)), (.int (2 : Int32)), (.int (4 : Int32)), (.int (7 : Int32)), (.int (7 : Int32)), (.int (2 : Int32)), (.int (5 : Int32)), (.int (3 : Int32)), (.int (3 : Int32)), (.int (3 : Int32)), (.int (0 : Int32)), (.int (0 : Int32)), (.int (0 : Int32)), (.int (0 : Int32)), (.int (0 : Int32)), (.int (0 : Int32)), (.int (0 : Int32)), (.int (0 : Int32)), (.int (0 : Int32)), (.int (0 : Int32)), (.int (0 : Int32)), (.int (0 : Int32)), (.int (0 : Int32)), (.int (0 : Int32)), (.int (0 : Int32))] (.int (0 : Int32)) := Arv.set Aar538 qar538 Sar538 Nar538 Har538 Gar538 rfl W539 10 rfl (Nat.le_of_ble_eq_true rfl)
  have f540 := f532.wr W539 g_b425
  have f541 := f533.other W539 ne452
  have f542 := f534.other W539 ne453
  have zs544 : n0 ≤ h539.size := Nat.le_trans zs536 (Keep.of_wr W539).1
  have N545 := Fr.snoc X539 N537 g_b425
  obtain ⟨car546, Aar546, qar546, Sar546, Nar546, Har546, Gar546⟩ := id V539
  have hinar546 : ¬ ((11 : Int32) < 0 ∨ car546.slots.size ≤ ((11 : Int32)).toNatClampNeg) := inb_of Sar546 ⟨by decide, by decide⟩
  obtain ⟨T547, h547, X547, e547, W547, st547⟩ := stI X539 hx hZ e539 Aar546 (j := (11 : Int32)) hinar546 (g := (mkF m 372 #[.val (.int p1), .val (.int p2), .val (.ref b1), .val (.ref b212), .unset, .unset, .unset, .unset, .unset, .unset, .unset, .unset, .unset, .unset] [(.int (3 : Int32)), (.int (11 : Int32)), (.ref b425), (.ref b425)])) rfl rfl (hb hby at_372)
  have V547 : Arv Z h547 b425 k425 .int (26 : Int32) [(.int (7 : Int32)), (.int (11 : Int32)), (.int (2 : Int32)), (.int (4 : Int32)), (.int (7 : Int32)), (.int (7 : Int32)), (.int (2 : Int32)), (.int (5 : Int32)), (.int (3 : Int32)), (.int (3 : Int32)), (.int (3 : Int32)), (.int (3 : Int32)), (.int (0 : Int32)), (.int (0 : Int32)), (.int (0 : Int32)), (.int (0 : Int32)), (.int (0 : Int32)), (.int (0 : Int32)), (.int (0 : Int32)), (.int (0 : Int32)), (.int (0 : Int32)), (.int (0 : Int32)), (.int (0 : Int32)), (.int (0 : Int32)), (.int (0 : Int32)), (.int (0 : Int32))] (.int (0 : Int32)) := Arv.set Aar546 qar546 Sar546 Nar546 Har546 Gar546 rfl W547 11 rfl (Nat.le_of_ble_eq_true rfl)
  have f548 := f540.wr W547 g_b425
  have f549 := f541.other W547 ne452
  have f550 := f542.other W547 ne453
  have zs552 : n0 ≤ h547.size := Nat.le_trans zs544 (Keep.of_wr W547).1
  have N553 := Fr.snoc X547 N545 g_b425
  obtain ⟨car554, Aar554, qar554, Sar554, Nar554, Har554, Gar554⟩ := id V547
  have hinar554 : ¬ ((12 : Int32) < 0 ∨ car554.slots.size ≤ ((12 : Int32)).toNatClampNeg) := inb_of Sar554 ⟨by decide, by decide⟩
  obtain ⟨T555, h555, X555, e555, W555, st555⟩ := stI X547 hx hZ e547 Aar554 (j := (12 : Int32)) hinar554 (g := (mkF m 377 #[.val (.int p1), .val (.int p2), .val (.ref b1), .val (.ref b212), .unset, .unset, .unset, .unset, .unset, .unset, .unset, .unset, .unset, .unset] [(.int (2 : Int32)), (.int (12 : Int32)), (.ref b425), (.ref b425)])) rfl rfl (hb hby at_377)
  have V555 : Arv Z h555 b425 k425 .int (26 : Int32) [(.int (7 : Int32)), (.int (11 : Int32)), (.int (2 : Int32)), (.int (4 : Int32)), (.int (7 : Int32)), (.int (7 : Int32)), (.int (2 : Int32)), (.int (5 : Int32)), (.int (3 : Int32)), (.int (3 : Int32)), (.int (3 : Int32)), (.int (3 : Int32)), (.int (2 : Int32)), (.int (0 : Int32)), (.int (0 : Int32)), (.int (0 : Int32)), (.int (0 : Int32)), (.int (0 : Int32)), (.int (0 : Int32)), (.int (0 : Int32)), (.int (0 : Int32)), (.int (0 : Int32)), (.int (0 : Int32)), (.int (0 : Int32)), (.int (0 : Int32)), (.int (0 : Int32))] (.int (0 : Int32)) := Arv.set Aar554 qar554 Sar554 Nar554 Har554 Gar554 rfl W555 12 rfl (Nat.le_of_ble_eq_true rfl)
  have f556 := f548.wr W555 g_b425
  have f557 := f549.other W555 ne452
  have f558 := f550.other W555 ne453
  have zs560 : n0 ≤ h555.size := Nat.le_trans zs552 (Keep.of_wr W555).1
  have N561 := Fr.snoc X555 N553 g_b425
  obtain ⟨car562, Aar562, qar562, Sar562, Nar562, Har562, Gar562⟩ := id V555
  have hinar562 : ¬ ((13 : Int32) < 0 ∨ car562.slots.size ≤ ((13 : Int32)).toNatClampNeg) := inb_of Sar562 ⟨by decide, by decide⟩
  obtain ⟨T563, h563, X563, e563, W563, st563⟩ := stI X555 hx hZ e555 Aar562 (j := (13 : Int32)) hinar562 (g := (mkF m 382 #[.val (.int p1), .val (.int p2), .val (.ref b1), .val (.ref b212), .unset, .unset, .unset, .unset, .unset, .unset, .unset, .unset, .unset, .unset] [(.int (3 : Int32)), (.int (13 : Int32)), (.ref b425), (.ref b425)])) rfl rfl (hb hby at_382)
  have V563 : Arv Z h563 b425 k425 .int (26 : Int32) [(.int (7 : Int32)), (.int (11 : Int32)), (.int (2 : Int32)), (.int (4 : Int32)), (.int (7 : Int32)), (.int (7 : Int32)), (.int (2 : Int32)), (.int (5 : Int32)), (.int (3 : Int32)), (.int (3 : Int32)), (.int (3 : Int32)), (.int (3 : Int32)), (.int (2 : Int32)), (.int (3 : Int32)), (.int (0 : Int32)), (.int (0 : Int32)), (.int (0 : Int32)), (.int (0 : Int32)), (.int (0 : Int32)), (.int (0 : Int32)), (.int (0 : Int32)), (.int (0 : Int32)), (.int (0 : Int32)), (.int (0 : Int32)), (.int (0 : Int32)), (.int (0 : Int32))] (.int (0 : Int32)) := Arv.set Aar562 qar562 Sar562 Nar562 Har562 Gar562 rfl W563 13 rfl (Nat.le_of_ble_eq_true rfl)
  have f564 := f556.wr W563 g_b425
  have f565 := f557.other W563 ne452
  have f566 := f558.other W563 ne453
  have zs568 : n0 ≤ h563.size := Nat.le_trans zs560 (Keep.of_wr W563).1
  have N569 := Fr.snoc X563 N561 g_b425
  obtain ⟨car570, Aar570, qar570, Sar570, Nar570, Har570, Gar570⟩ := id V563
  have hinar570 : ¬ ((14 : Int32) < 0 ∨ car570.slots.size ≤ ((14 : Int32)).toNatClampNeg) := inb_of Sar570 ⟨by decide, by decide⟩
  obtain ⟨T571, h571, X571, e571, W571, st571⟩ := stI X563 hx hZ e563 Aar570 (j := (14 : Int32)) hinar570 (g := (mkF m 387 #[.val (.int p1), .val (.int p2), .val (.ref b1), .val (.ref b212), .unset, .unset, .unset, .unset, .unset, .unset, .unset, .unset, .unset, .unset] [(.int (5 : Int32)), (.int (14 : Int32)), (.ref b425), (.ref b425)])) rfl rfl (hb hby at_387)
  have V571 : Arv Z h571 b425 k425 .int (26 : Int32) [(.int (7 : Int32)), (.int (11 : Int32)), (.int (2 : Int32)), (.int (4 : Int32)), (.int (7 : Int32)), (.int (7 : Int32)), (.int (2 : Int32)), (.int (5 : Int32)), (.int (3 : Int32)), (.int (3 : Int32)), (.int (3 : Int32)), (.int (3 : Int32)), (.int (2 : Int32)), (.int (3 : Int32)), (.int (5 : Int32)), (.int (0 : Int32)), (.int (0 : Int32)), (.int (0 : Int32)), (.int (0 : Int32)), (.int (0 : Int32)), (.int (0 : Int32)), (.int (0 : Int32)), (.int (0 : Int32)), (.int (0 : Int32)), (.int (0 : Int32)), (.int (0 : Int32))] (.int (0 : Int32)) := Arv.set Aar570 qar570 Sar570 Nar570 Har570 Gar570 rfl W571 14 rfl (Nat.le_of_ble_eq_true rfl)
  have f572 := f564.wr W571 g_b425
  have f573 := f565.other W571 ne452
  have f574 := f566.other W571 ne453
  have zs576 : n0 ≤ h571.size := Nat.le_trans zs568 (Keep.of_wr W571).1
  have N577 := Fr.snoc X571 N569 g_b425
  obtain ⟨car578, Aar578, qar578, Sar578, Nar578, Har578, Gar578⟩ := id V571
  have hinar578 : ¬ ((15 : Int32) < 0 ∨ car578.slots.size ≤ ((15 : Int32)).toNatClampNeg) := inb_of Sar578 ⟨by decide, by decide⟩
  obtain ⟨T579, h579, X579, e579, W579, st579⟩ := stI X571 hx hZ e571 Aar578 (j := (15 : Int32)) hinar578 (g := (mkF m 392 #[.val (.int p1), .val (.int p2), .val (.ref b1), .val (.ref b212), .unset, .unset, .unset, .unset, .unset, .unset, .unset, .unset, .unset, .unset] [(.int (3 : Int32)), (.int (15 : Int32)), (.ref b425), (.ref b425)])) rfl rfl (hb hby at_392)
  have V579 : Arv Z h579 b425 k425 .int (26 : Int32) [(.int (7 : Int32)), (.int (11 : Int32)), (.int (2 : Int32)), (.int (4 : Int32)), (.int (7 : Int32)), (.int (7 : Int32)), (.int (2 : Int32)), (.int (5 : Int32)), (.int (3 : Int32)), (.int (3 : Int32)), (.int (3 : Int32)), (.int (3 : Int32)), (.int (2 : Int32)), (.int (3 : Int32)), (.int (5 : Int32)), (.int (3 : Int32)), (.int (0 : Int32)), (.int (0 : Int32)), (.int (0 : Int32)), (.int (0 : Int32)), (.int (0 : Int32)), (.int (0 : Int32)), (.int (0 : Int32)), (.int (0 : Int32)), (.int (0 : Int32)), (.int (0 : Int32))] (.int (0 : Int32)) := Arv.set Aar578 qar578 Sar578 Nar578 Har578 Gar578 rfl W579 15 rfl (Nat.le_of_ble_eq_true rfl)
  have f580 := f572.wr W579 g_b425
  have f581 := f573.other W579 ne452
  have f582 := f574.other W579 ne453
  have zs584 : n0 ≤ h579.size := Nat.le_trans zs576 (Keep.of_wr W579).1
  have N585 := Fr.snoc X579 N577 g_b425
  obtain ⟨car586, Aar586, qar586, Sar586, Nar586, Har586, Gar586⟩ := id V579
  have hinar586 : ¬ ((16 : Int32) < 0 ∨ car586.slots.size ≤ ((16 : Int32)).toNatClampNeg) := inb_of Sar586 ⟨by decide, by decide⟩
  obtain ⟨T587, h587, X587, e587, W587, st587⟩ := stI X579 hx hZ e579 Aar586 (j := (16 : Int32)) hinar586 (g := (mkF m 397 #[.val (.int p1), .val (.int p2), .val (.ref b1), .val (.ref b212), .unset, .unset, .unset, .unset, .unset, .unset, .unset, .unset, .unset, .unset] [(.int (4 : Int32)), (.int (16 : Int32)), (.ref b425), (.ref b425)])) rfl rfl (hb hby at_397)
  have V587 : Arv Z h587 b425 k425 .int (26 : Int32) [(.int (7 : Int32)), (.int (11 : Int32)), (.int (2 : Int32)), (.int (4 : Int32)), (.int (7 : Int32)), (.int (7 : Int32)), (.int (2 : Int32)), (.int (5 : Int32)), (.int (3 : Int32)), (.int (3 : Int32)), (.int (3 : Int32)), (.int (3 : Int32)), (.int (2 : Int32)), (.int (3 : Int32)), (.int (5 : Int32)), (.int (3 : Int32)), (.int (4 : Int32)), (.int (0 : Int32)), (.int (0 : Int32)), (.int (0 : Int32)), (.int (0 : Int32)), (.int (0 : Int32)), (.int (0 : Int32)), (.int (0 : Int32)), (.int (0 : Int32)), (.int (0 : Int32))] (.int (0 : Int32)) := Arv.set Aar586 qar586 Sar586 Nar586 Har586 Gar586 rfl W587 16 rfl (Nat.le_of_ble_eq_true rfl)
  have f588 := f580.wr W587 g_b425
  have f589 := f581.other W587 ne452
  have f590 := f582.other W587 ne453
  have zs592 : n0 ≤ h587.size := Nat.le_trans zs584 (Keep.of_wr W587).1
  have N593 := Fr.snoc X587 N585 g_b425
  obtain ⟨car594, Aar594, qar594, Sar594, Nar594, Har594, Gar594⟩ := id V587
  have hinar594 : ¬ ((17 : Int32) < 0 ∨ car594.slots.size ≤ ((17 : Int32)).toNatClampNeg) := inb_of Sar594 ⟨by decide, by decide⟩
  obtain ⟨T595, h595, X595, e595, W595, st595⟩ := stI X587 hx hZ e587 Aar594 (j := (17 : Int32)) hinar594 (g := (mkF m 402 #[.val (.int p1), .val (.int p2), .val (.ref b1), .val (.ref b212), .unset, .unset, .unset, .unset, .unset, .unset, .unset, .unset, .unset, .unset] [(.int (1 : Int32)), (.int (17 : Int32)), (.ref b425), (.ref b425)])) rfl rfl (hb hby at_402)
  have V595 : Arv Z h595 b425 k425 .int (26 : Int32) [(.int (7 : Int32)), (.int (11 : Int32)), (.int (2 : Int32)), (.int (4 : Int32)), (.int (7 : Int32)), (.int (7 : Int32)), (.int (2 : Int32)), (.int (5 : Int32)), (.int (3 : Int32)), (.int (3 : Int32)), (.int (3 : Int32)), (.int (3 : Int32)), (.int (2 : Int32)), (.int (3 : Int32)), (.int (5 : Int32)), (.int (3 : Int32)), (.int (4 : Int32)), (.int (1 : Int32)), (.int (0 : Int32)), (.int (0 : Int32)), (.int (0 : Int32)), (.int (0 : Int32)), (.int (0 : Int32)), (.int (0 : Int32)), (.int (0 : Int32)), (.int (0 : Int32))] (.int (0 : Int32)) := Arv.set Aar594 qar594 Sar594 Nar594 Har594 Gar594 rfl W595 17 rfl (Nat.le_of_ble_eq_true rfl)
  have f596 := f588.wr W595 g_b425
  have f597 := f589.other W595 ne452
  have f598 := f590.other W595 ne453
  have zs600 : n0 ≤ h595.size := Nat.le_trans zs592 (Keep.of_wr W595).1
  have N601 := Fr.snoc X595 N593 g_b425
  obtain ⟨car602, Aar602, qar602, Sar602, Nar602, Har602, Gar602⟩ := id V595
  have hinar602 : ¬ ((18 : Int32) < 0 ∨ car602.slots.size ≤ ((18 : Int32)).toNatClampNeg) := inb_of Sar602 ⟨by decide, by decide⟩
  obtain ⟨T603, h603, X603, e603, W603, st603⟩ := stI X595 hx hZ e595 Aar602 (j := (18 : Int32)) hinar602 (g := (mkF m 407 #[.val (.int p1), .val (.int p2), .val (.ref b1), .val (.ref b212), .unset, .unset, .unset, .unset, .unset, .unset, .unset, .unset, .unset, .unset] [(.int (1 : Int32)), (.int (18 : Int32)), (.ref b425), (.ref b425)])) rfl rfl (hb hby at_407)
  have V603 : Arv Z h603 b425 k425 .int (26 : Int32) [(.int (7 : Int32)), (.int (11 : Int32)), (.int (2 : Int32)), (.int (4 : Int32)), (.int (7 : Int32)), (.int (7 : Int32)), (.int (2 : Int32)), (.int (5 : Int32)), (.int (3 : Int32)), (.int (3 : Int32)), (.int (3 : Int32)), (.int (3 : Int32)), (.int (2 : Int32)), (.int (3 : Int32)), (.int (5 : Int32)), (.int (3 : Int32)), (.int (4 : Int32)), (.int (1 : Int32)), (.int (1 : Int32)), (.int (0 : Int32)), (.int (0 : Int32)), (.int (0 : Int32)), (.int (0 : Int32)), (.int (0 : Int32)), (.int (0 : Int32)), (.int (0 : Int32))] (.int (0 : Int32)) := Arv.set Aar602 qar602 Sar602 Nar602 Har602 Gar602 rfl W603 18 rfl (Nat.le_of_ble_eq_true rfl)
  have f604 := f596.wr W603 g_b425
  have f605 := f597.other W603 ne452
  have f606 := f598.other W603 ne453
  have zs608 : n0 ≤ h603.size := Nat.le_trans zs600 (Keep.of_wr W603).1
  have N609 := Fr.snoc X603 N601 g_b425
  obtain ⟨car610, Aar610, qar610, Sar610, Nar610, Har610, Gar610⟩ := id V603
  have hinar610 : ¬ ((19 : Int32) < 0 ∨ car610.slots.size ≤ ((19 : Int32)).toNatClampNeg) := inb_of Sar610 ⟨by decide, by decide⟩
  obtain ⟨T611, h611, X611, e611, W611, st611⟩ := stI X603 hx hZ e603 Aar610 (j := (19 : Int32)) hinar610 (g := (mkF m 412 #[.val (.int p1), .val (.int p2), .val (.ref b1), .val (.ref b212), .unset, .unset, .unset, .unset, .unset, .unset, .unset, .unset, .unset, .unset] [(.int (1 : Int32)), (.int (19 : Int32)), (.ref b425), (.ref b425)])) rfl rfl (hb hby at_412)
  have V611 : Arv Z h611 b425 k425 .int (26 : Int32) [(.int (7 : Int32)), (.int (11 : Int32)), (.int (2 : Int32)), (.int (4 : Int32)), (.int (7 : Int32)), (.int (7 : Int32)), (.int (2 : Int32)), (.int (5 : Int32)), (.int (3 : Int32)), (.int (3 : Int32)), (.int (3 : Int32)), (.int (3 : Int32)), (.int (2 : Int32)), (.int (3 : Int32)), (.int (5 : Int32)), (.int (3 : Int32)), (.int (4 : Int32)), (.int (1 : Int32)), (.int (1 : Int32)), (.int (1 : Int32)), (.int (0 : Int32)), (.int (0 : Int32)), (.int (0 : Int32)), (.int (0 : Int32)), (.int (0 : Int32)), (.int (0 : Int32))] (.int (0 : Int32)) := Arv.set Aar610 qar610 Sar610 Nar610 Har610 Gar610 rfl W611 19 rfl (Nat.le_of_ble_eq_true rfl)
  have f612 := f604.wr W611 g_b425
  have f613 := f605.other W611 ne452
  have f614 := f606.other W611 ne453
  have zs616 : n0 ≤ h611.size := Nat.le_trans zs608 (Keep.of_wr W611).1
  have N617 := Fr.snoc X611 N609 g_b425
  obtain ⟨car618, Aar618, qar618, Sar618, Nar618, Har618, Gar618⟩ := id V611
  have hinar618 : ¬ ((20 : Int32) < 0 ∨ car618.slots.size ≤ ((20 : Int32)).toNatClampNeg) := inb_of Sar618 ⟨by decide, by decide⟩
  obtain ⟨T619, h619, X619, e619, W619, st619⟩ := stI X611 hx hZ e611 Aar618 (j := (20 : Int32)) hinar618 (g := (mkF m 417 #[.val (.int p1), .val (.int p2), .val (.ref b1), .val (.ref b212), .unset, .unset, .unset, .unset, .unset, .unset, .unset, .unset, .unset, .unset] [(.int (3 : Int32)), (.int (20 : Int32)), (.ref b425), (.ref b425)])) rfl rfl (hb hby at_417)
  have V619 : Arv Z h619 b425 k425 .int (26 : Int32) [(.int (7 : Int32)), (.int (11 : Int32)), (.int (2 : Int32)), (.int (4 : Int32)), (.int (7 : Int32)), (.int (7 : Int32)), (.int (2 : Int32)), (.int (5 : Int32)), (.int (3 : Int32)), (.int (3 : Int32)), (.int (3 : Int32)), (.int (3 : Int32)), (.int (2 : Int32)), (.int (3 : Int32)), (.int (5 : Int32)), (.int (3 : Int32)), (.int (4 : Int32)), (.int (1 : Int32)), (.int (1 : Int32)), (.int (1 : Int32)), (.int (3 : Int32)), (.int (0 : Int32)), (.int (0 : Int32)), (.int (0 : Int32)), (.int (0 : Int32)), (.int (0 : Int32))] (.int (0 : Int32)) := Arv.set Aar618 qar618 Sar618 Nar618 Har618 Gar618 rfl W619 20 rfl (Nat.le_of_ble_eq_true rfl)
  have f620 := f612.wr W619 g_b425
  have f621 := f613.other W619 ne452
  have f622 := f614.other W619 ne453
  have zs624 : n0 ≤ h619.size := Nat.le_trans zs616 (Keep.of_wr W619).1
  have N625 := Fr.snoc X619 N617 g_b425
  obtain ⟨car626, Aar626, qar626, Sar626, Nar626, Har626, Gar626⟩ := id V619
  have hinar626 : ¬ ((21 : Int32) < 0 ∨ car626.slots.size ≤ ((21 : Int32)).toNatClampNeg) := inb_of Sar626 ⟨by decide, by decide⟩
  obtain ⟨T627, h627, X627, e627, W627, st627⟩ := stI X619 hx hZ e619 Aar626 (j := (21 : Int32)) hinar626 (g := (mkF m 422 #[.val (.int p1), .val (.int p2), .val (.ref b1), .val (.ref b212), .unset, .unset, .unset, .unset, .unset, .unset, .unset, .unset, .unset, .unset] [(.int (4 : Int32)), (.int (21 : Int32)), (.ref b425), (.ref b425)])) rfl rfl (hb hby at_422)
  have V627 : Arv Z h627 b425 k425 .int (26 : Int32) [(.int (7 : Int32)), (.int (11 : Int32)), (.int (2 : Int32)), (.int (4 : Int32)), (.int (7 : Int32)), (.int (7 : Int32)), (.int (2 : Int32)), (.int (5 : Int32)), (.int (3 : Int32)), (.int (3 : Int32)), (.int (3 : Int32)), (.int (3 : Int32)), (.int (2 : Int32)), (.int (3 : Int32)), (.int (5 : Int32)), (.int (3 : Int32)), (.int (4 : Int32)), (.int (1 : Int32)), (.int (1 : Int32)), (.int (1 : Int32)), (.int (3 : Int32)), (.int (4 : Int32)), (.int (0 : Int32)), (.int (0 : Int32)), (.int (0 : Int32)), (.int (0 : Int32))] (.int (0 : Int32)) := Arv.set Aar626 qar626 Sar626 Nar626 Har626 Gar626 rfl W627 21 rfl (Nat.le_of_ble_eq_true rfl)
  have f628 := f620.wr W627 g_b425
  have f629 := f621.other W627 ne452
  have f630 := f622.other W627 ne453
  have zs632 : n0 ≤ h627.size := Nat.le_trans zs624 (Keep.of_wr W627).1
  have N633 := Fr.snoc X627 N625 g_b425
  obtain ⟨car634, Aar634, qar634, Sar634, Nar634, Har634, Gar634⟩ := id V627
  have hinar634 : ¬ ((22 : Int32) < 0 ∨ car634.slots.size ≤ ((22 : Int32)).toNatClampNeg) := inb_of Sar634 ⟨by decide, by decide⟩
  obtain ⟨T635, h635, X635, e635, W635, st635⟩ := stI X627 hx hZ e627 Aar634 (j := (22 : Int32)) hinar634 (g := (mkF m 427 #[.val (.int p1), .val (.int p2), .val (.ref b1), .val (.ref b212), .unset, .unset, .unset, .unset, .unset, .unset, .unset, .unset, .unset, .unset] [(.int (2 : Int32)), (.int (22 : Int32)), (.ref b425), (.ref b425)])) rfl rfl (hb hby at_427)
  have V635 : Arv Z h635 b425 k425 .int (26 : Int32) [(.int (7 : Int32)), (.int (11 : Int32)), (.int (2 : Int32)), (.int (4 : Int32)), (.int (7 : Int32)), (.int (7 : Int32)), (.int (2 : Int32)), (.int (5 : Int32)), (.int (3 : Int32)), (.int (3 : Int32)), (.int (3 : Int32)), (.int (3 : Int32)), (.int (2 : Int32)), (.int (3 : Int32)), (.int (5 : Int32)), (.int (3 : Int32)), (.int (4 : Int32)), (.int (1 : Int32)), (.int (1 : Int32)), (.int (1 : Int32)), (.int (3 : Int32)), (.int (4 : Int32)), (.int (2 : Int32)), (.int (0 : Int32)), (.int (0 : Int32)), (.int (0 : Int32))] (.int (0 : Int32)) := Arv.set Aar634 qar634 Sar634 Nar634 Har634 Gar634 rfl W635 22 rfl (Nat.le_of_ble_eq_true rfl)
  have f636 := f628.wr W635 g_b425
  have f637 := f629.other W635 ne452
  have f638 := f630.other W635 ne453
  have zs640 : n0 ≤ h635.size := Nat.le_trans zs632 (Keep.of_wr W635).1
  have N641 := Fr.snoc X635 N633 g_b425
  obtain ⟨car642, Aar642, qar642, Sar642, Nar642, Har642, Gar642⟩ := id V635
  have hinar642 : ¬ ((23 : Int32) < 0 ∨ car642.slots.size ≤ ((23 : Int32)).toNatClampNeg) := inb_of Sar642 ⟨by decide, by decide⟩
  obtain ⟨T643, h643, X643, e643, W643, st643⟩ := stI X635 hx hZ e635 Aar642 (j := (23 : Int32)) hinar642 (g := (mkF m 432 #[.val (.int p1), .val (.int p2), .val (.ref b1), .val (.ref b212), .unset, .unset, .unset, .unset, .unset, .unset, .unset, .unset, .unset, .unset] [(.int (1 : Int32)), (.int (23 : Int32)), (.ref b425), (.ref b425)])) rfl rfl (hb hby at_432)
  have V643 : Arv Z h643 b425 k425 .int (26 : Int32) [(.int (7 : Int32)), (.int (11 : Int32)), (.int (2 : Int32)), (.int (4 : Int32)), (.int (7 : Int32)), (.int (7 : Int32)), (.int (2 : Int32)), (.int (5 : Int32)), (.int (3 : Int32)), (.int (3 : Int32)), (.int (3 : Int32)), (.int (3 : Int32)), (.int (2 : Int32)), (.int (3 : Int32)), (.int (5 : Int32)), (.int (3 : Int32)), (.int (4 : Int32)), (.int (1 : Int32)), (.int (1 : Int32)), (.int (1 : Int32)), (.int (3 : Int32)), (.int (4 : Int32)), (.int (2 : Int32)), (.int (1 : Int32)), (.int (0 : Int32)), (.int (0 : Int32))] (.int (0 : Int32)) := Arv.set Aar642 qar642 Sar642 Nar642 Har642 Gar642 rfl W643 23 rfl (Nat.le_of_ble_eq_true rfl)
  have f644 := f636.wr W643 g_b425
  have f645 := f637.other W643 ne452
  have f646 := f638.other W643 ne453
  have zs648 : n0 ≤ h643.size := Nat.le_trans zs640 (Keep.of_wr W643).1
  have N649 := Fr.snoc X643 N641 g_b425
  obtain ⟨car650, Aar650, qar650, Sar650, Nar650, Har650, Gar650⟩ := id V643
  have hinar650 : ¬ ((24 : Int32) < 0 ∨ car650.slots.size ≤ ((24 : Int32)).toNatClampNeg) := inb_of Sar650 ⟨by decide, by decide⟩
  obtain ⟨T651, h651, X651, e651, W651, st651⟩ := stI X643 hx hZ e643 Aar650 (j := (24 : Int32)) hinar650 (g := (mkF m 437 #[.val (.int p1), .val (.int p2), .val (.ref b1), .val (.ref b212), .unset, .unset, .unset, .unset, .unset, .unset, .unset, .unset, .unset, .unset] [(.int (1 : Int32)), (.int (24 : Int32)), (.ref b425), (.ref b425)])) rfl rfl (hb hby at_437)
  have V651 : Arv Z h651 b425 k425 .int (26 : Int32) [(.int (7 : Int32)), (.int (11 : Int32)), (.int (2 : Int32)), (.int (4 : Int32)), (.int (7 : Int32)), (.int (7 : Int32)), (.int (2 : Int32)), (.int (5 : Int32)), (.int (3 : Int32)), (.int (3 : Int32)), (.int (3 : Int32)), (.int (3 : Int32)), (.int (2 : Int32)), (.int (3 : Int32)), (.int (5 : Int32)), (.int (3 : Int32)), (.int (4 : Int32)), (.int (1 : Int32)), (.int (1 : Int32)), (.int (1 : Int32)), (.int (3 : Int32)), (.int (4 : Int32)), (.int (2 : Int32)), (.int (1 : Int32)), (.int (1 : Int32)), (.int (0 : Int32))] (.int (0 : Int32)) := Arv.set Aar650 qar650 Sar650 Nar650 Har650 Gar650 rfl W651 24 rfl (Nat.le_of_ble_eq_true rfl)
  have f652 := f644.wr W651 g_b425
  have f653 := f645.other W651 ne452
  have f654 := f646.other W651 ne453
  have zs656 : n0 ≤ h651.size := Nat.le_trans zs648 (Keep.of_wr W651).1
  have N657 := Fr.snoc X651 N649 g_b425
  obtain ⟨car658, Aar658, qar658, Sar658, Nar658, Har658, Gar658⟩ := id V651
  have hinar658 : ¬ ((25 : Int32) < 0 ∨ car658.slots.size ≤ ((25 : Int32)).toNatClampNeg) := inb_of Sar658 ⟨by decide, by decide⟩
  obtain ⟨T659, h659, X659, e659, W659, st659⟩ := stI X651 hx hZ e651 Aar658 (j := (25 : Int32)) hinar658 (g := (mkF m 442 #[.val (.int p1), .val (.int p2), .val (.ref b1), .val (.ref b212), .unset, .unset, .unset, .unset, .unset, .unset, .unset, .unset, .unset, .unset] [(.int (1 : Int32)), (.int (25 : Int32)), (.ref b425), (.ref b425)])) rfl rfl (hb hby at_442)
  have V659 : Arv Z h659 b425 k425 .int (26 : Int32) [(.int (7 : Int32)), (.int (11 : Int32)), (.int (2 : Int32)), (.int (4 : Int32)), (.int (7 : Int32)), (.int (7 : Int32)), (.int (2 : Int32)), (.int (5 : Int32)), (.int (3 : Int32)), (.int (3 : Int32)), (.int (3 : Int32)), (.int (3 : Int32)), (.int (2 : Int32)), (.int (3 : Int32)), (.int (5 : Int32)), (.int (3 : Int32)), (.int (4 : Int32)), (.int (1 : Int32)), (.int (1 : Int32)), (.int (1 : Int32)), (.int (3 : Int32)), (.int (4 : Int32)), (.int (2 : Int32)), (.int (1 : Int32)), (.int (1 : Int32)), (.int (1 : Int32))] (.int (0 : Int32)) := Arv.set Aar658 qar658 Sar658 Nar658 Har658 Gar658 rfl W659 25 rfl (Nat.le_of_ble_eq_true rfl)
  have f660 := f652.wr W659 g_b425
  have f661 := f653.other W659 ne452
  have f662 := f654.other W659 ne453
  have zs664 : n0 ≤ h659.size := Nat.le_trans zs656 (Keep.of_wr W659).1
  have N665 := Fr.snoc X659 N657 g_b425
  obtain ⟨car666, Aar666, qar666, Sar666, Nar666, Har666, Gar666⟩ := id f661
  have hnn := own_n p1
  obtain ⟨kw, lo, hi, hk1, hk2, hk3, hE, hL, hH, hb0, hb1, hb2⟩ := own_pick Z w_PRODUCE w_FETCH w_LIST_OFFSETS w_METADATA w_OFFSET_COMMIT w_OFFSET_FETCH w_FIND_COORDINATOR w_JOIN_GROUP w_HEARTBEAT w_LEAVE_GROUP w_SYNC_GROUP w_DESCRIBE_GROUPS w_LIST_GROUPS w_API_VERSIONS w_CREATE_TOPICS w_DELETE_TOPICS w_INIT_PRODUCER_ID w_ADD_PARTITIONS_TO_TXN w_ADD_OFFSETS_TO_TXN w_END_TXN w_TXN_OFFSET_COMMIT w_DESCRIBE_CONFIGS w_ALTER_CONFIGS w_CREATE_PARTITIONS w_DELETE_GROUPS w_INCREMENTAL_ALTER_CONFIGS E_w_PRODUCE F_lowestVersion_w_PRODUCE F_highestVersion_w_PRODUCE E_w_FETCH F_lowestVersion_w_FETCH F_highestVersion_w_FETCH E_w_LIST_OFFSETS F_lowestVersion_w_LIST_OFFSETS F_highestVersion_w_LIST_OFFSETS E_w_METADATA F_lowestVersion_w_METADATA F_highestVersion_w_METADATA E_w_OFFSET_COMMIT F_lowestVersion_w_OFFSET_COMMIT F_highestVersion_w_OFFSET_COMMIT E_w_OFFSET_FETCH F_lowestVersion_w_OFFSET_FETCH F_highestVersion_w_OFFSET_FETCH E_w_FIND_COORDINATOR F_lowestVersion_w_FIND_COORDINATOR F_highestVersion_w_FIND_COORDINATOR E_w_JOIN_GROUP F_lowestVersion_w_JOIN_GROUP F_highestVersion_w_JOIN_GROUP E_w_HEARTBEAT F_lowestVersion_w_HEARTBEAT F_highestVersion_w_HEARTBEAT E_w_LEAVE_GROUP F_lowestVersion_w_LEAVE_GROUP F_highestVersion_w_LEAVE_GROUP E_w_SYNC_GROUP F_lowestVersion_w_SYNC_GROUP F_highestVersion_w_SYNC_GROUP E_w_DESCRIBE_GROUPS F_lowestVersion_w_DESCRIBE_GROUPS F_highestVersion_w_DESCRIBE_GROUPS E_w_LIST_GROUPS F_lowestVersion_w_LIST_GROUPS F_highestVersion_w_LIST_GROUPS E_w_API_VERSIONS F_lowestVersion_w_API_VERSIONS F_highestVersion_w_API_VERSIONS E_w_CREATE_TOPICS F_lowestVersion_w_CREATE_TOPICS F_highestVersion_w_CREATE_TOPICS E_w_DELETE_TOPICS F_lowestVersion_w_DELETE_TOPICS F_highestVersion_w_DELETE_TOPICS E_w_INIT_PRODUCER_ID F_lowestVersion_w_INIT_PRODUCER_ID F_highestVersion_w_INIT_PRODUCER_ID E_w_ADD_PARTITIONS_TO_TXN F_lowestVersion_w_ADD_PARTITIONS_TO_TXN F_highestVersion_w_ADD_PARTITIONS_TO_TXN E_w_ADD_OFFSETS_TO_TXN F_lowestVersion_w_ADD_OFFSETS_TO_TXN F_highestVersion_w_ADD_OFFSETS_TO_TXN E_w_END_TXN F_lowestVersion_w_END_TXN F_highestVersion_w_END_TXN E_w_TXN_OFFSET_COMMIT F_lowestVersion_w_TXN_OFFSET_COMMIT F_highestVersion_w_TXN_OFFSET_COMMIT E_w_DESCRIBE_CONFIGS F_lowestVersion_w_DESCRIBE_CONFIGS F_highestVersion_w_DESCRIBE_CONFIGS E_w_ALTER_CONFIGS F_lowestVersion_w_ALTER_CONFIGS F_highestVersion_w_ALTER_CONFIGS E_w_CREATE_PARTITIONS F_lowestVersion_w_CREATE_PARTITIONS F_highestVersion_w_CREATE_PARTITIONS E_w_DELETE_GROUPS F_lowestVersion_w_DELETE_GROUPS F_highestVersion_w_DELETE_GROUPS E_w_INCREMENTAL_ALTER_CONFIGS F_lowestVersion_w_INCREMENTAL_ALTER_CONFIGS F_highestVersion_w_INCREMENTAL_ALTER_CONFIGS _ hnn.1
  have hsu := own_su lo hi hb0 hb1 hb2
  have hinar666 : ¬ (((p1 &&& (2147483647 : Int32)) % (26 : Int32)) < 0 ∨ car666.slots.size ≤ (((p1 &&& (2147483647 : Int32)) % (26 : Int32))).toNatClampNeg) := inb_of Sar666 hnn.2
  have hatar666 : car666.slots[(((p1 &&& (2147483647 : Int32)) % (26 : Int32))).toNatClampNeg]? = some (.ref kw) := Har666.at hinar666 hk1
  obtain ⟨car667, Aar667, qar667, Sar667, Nar667, Har667, Gar667⟩ := id f662
  have hinar667 : ¬ (((p1 &&& (2147483647 : Int32)) % (26 : Int32)) < 0 ∨ car667.slots.size ≤ (((p1 &&& (2147483647 : Int32)) % (26 : Int32))).toNatClampNeg) := inb_of Sar667 hnn.2
  have hatar667 : car667.slots[(((p1 &&& (2147483647 : Int32)) % (26 : Int32))).toNatClampNeg]? = some (.int lo) := Har667.at hinar667 hk2
  have pre668 : ∀ t, Steps p.tables e below (T659.setTop (mkF m 470 #[.val (.int p1), .val (.int p2), .val (.ref b1), .val (.ref b212), .val (.ref b425), .val (.int ((p1 &&& (2147483647 : Int32)) % (26 : Int32))), .val (.ref kw), .val (.int (p2.toInt16.toInt32)), .unset, .unset, .unset, .unset, .unset, .unset] [(.int (p2.toInt16.toInt32)), (.int lo)])) t → Steps p.tables e below (s₁.setTop (entryFrame m #[(.int p1), (.int p2)] maxLocals)) t := fun t k => pre0 t (by
    show Steps p.tables e below (s₁.setTop (mkF m 0 #[.val (.int p1), .val (.int p2), .unset, .unset, .unset, .unset, .unset, .unset, .unset, .unset, .unset, .unset, .unset, .unset] [])) _
    refine XS.bipush X0.here hx rfl (hb hby at_0) ?_
    show Steps p.tables e below (s₁.setTop (mkF m 2 #[.val (.int p1), .val (.int p2), .unset, .unset, .unset, .unset, .unset, .unset, .unset, .unset, .unset, .unset, .unset, .unset] [(.int (26 : Int32))])) _
    refine st1 _ ?_
    show Steps p.tables e below (T1.setTop (mkF m 5 #[.val (.int p1), .val (.int p2), .unset, .unset, .unset, .unset, .unset, .unset, .unset, .unset, .unset, .unset, .unset, .unset] [(.ref b1)])) _
    refine XS.dup X1.here hx rfl (hb hby at_5) rfl rfl ?_
    show Steps p.tables e below (T1.setTop (mkF m 6 #[.val (.int p1), .val (.int p2), .unset, .unset, .unset, .unset, .unset, .unset, .unset, .unset, .unset, .unset, .unset, .unset] [(.ref b1), (.ref b1)])) _
    refine XS.iconst X1.here hx rfl (hb hby at_6) ?_
    show Steps p.tables e below (T1.setTop (mkF m 7 #[.val (.int p1), .val (.int p2), .unset, .unset, .unset, .unset, .unset, .unset, .unset, .unset, .unset, .unset, .unset, .unset] [(.int (0 : Int32)), (.ref b1), (.ref b1)])) _
    refine st30 _ ?_
    show Steps p.tables e below (T30.setTop (mkF m 10 #[.val (.int p1), .val (.int p2), .unset, .unset, .unset, .unset, .unset, .unset, .unset, .unset, .unset, .unset, .unset, .unset] [(.ref w_PRODUCE), (.int (0 : Int32)), (.ref b1), (.ref b1)])) _
    refine st32 _ ?_
    show Steps p.tables e below (T32.setTop (mkF m 11 #[.val (.int p1), .val (.int p2), .unset, .unset, .unset, .unset, .unset, .unset, .unset, .unset, .unset, .unset, .unset, .unset] [(.ref b1)])) _
    refine XS.dup X32.here hx rfl (hb hby at_11) rfl rfl ?_
    show Steps p.tables e below (T32.setTop (mkF m 12 #[.val (.int p1), .val (.int p2), .unset, .unset, .unset, .unset, .unset, .unset, .unset, .unset, .unset, .unset, .unset, .unset] [(.ref b1), (.ref b1)])) _
    refine XS.iconst X32.here hx rfl (hb hby at_12) ?_
    show Steps p.tables e below (T32.setTop (mkF m 13 #[.val (.int p1), .val (.int p2), .unset, .unset, .unset, .unset, .unset, .unset, .unset, .unset, .unset, .unset, .unset, .unset] [(.int (1 : Int32)), (.ref b1), (.ref b1)])) _
    refine st37 _ ?_
    show Steps p.tables e below (T37.setTop (mkF m 16 #[.val (.int p1), .val (.int p2), .unset, .unset, .unset, .unset, .unset, .unset, .unset, .unset, .unset, .unset, .unset, .unset] [(.ref w_FETCH), (.int (1 : Int32)), (.ref b1), (.ref b1)])) _
    refine st39 _ ?_
    show Steps p.tables e below (T39.setTop (mkF m 17 #[.val (.int p1), .val (.int p2), .unset, .unset, .unset, .unset, .unset, .unset, .unset, .unset, .unset, .unset, .unset, .unset] [(.ref b1)])) _
    refine XS.dup X39.here hx rfl (hb hby at_17) rfl rfl ?_
    show Steps p.tables e below (T39.setTop (mkF m 18 #[.val (.int p1), .val (.int p2), .unset, .unset, .unset, .unset, .unset, .unset, .unset, .unset, .unset, .unset, .unset, .unset] [(.ref b1), (.ref b1)])) _
    refine XS.iconst X39.here hx rfl (hb hby at_18) ?_
    show Steps p.tables e below (T39.setTop (mkF m 19 #[.val (.int p1), .val (.int p2), .unset, .unset, .unset, .unset, .unset, .unset, .unset, .unset, .unset, .unset, .unset, .unset] [(.int (2 : Int32)), (.ref b1), (.ref b1)])) _
    refine st44 _ ?_
    show Steps p.tables e below (T44.setTop (mkF m 22 #[.val (.int p1), .val (.int p2), .unset, .unset, .unset, .unset, .unset, .unset, .unset, .unset, .unset, .unset, .unset, .unset] [(.ref w_LIST_OFFSETS), (.int (2 : Int32)), (.ref b1), (.ref b1)])) _
    refine st46 _ ?_
    show Steps p.tables e below (T46.setTop (mkF m 23 #[.val (.int p1), .val (.int p2), .unset, .unset, .unset, .unset, .unset, .unset, .unset, .unset, .unset, .unset, .unset, .unset] [(.ref b1)])) _
    refine XS.dup X46.here hx rfl (hb hby at_23) rfl rfl ?_
    show Steps p.tables e below (T46.setTop (mkF m 24 #[.val (.int p1), .val (.int p2), .unset, .unset, .unset, .unset, .unset, .unset, .unset, .unset, .unset, .unset, .unset, .unset] [(.ref b1), (.ref b1)])) _
    refine XS.iconst X46.here hx rfl (hb hby at_24) ?_
    show Steps p.tables e below (T46.setTop (mkF m 25 #[.val (.int p1), .val (.int p2), .unset, .unset, .unset, .unset, .unset, .unset, .unset, .unset, .unset, .unset, .unset, .unset] [(.int (3 : Int32)), (.ref b1), (.ref b1)])) _
    refine st51 _ ?_
    show Steps p.tables e below (T51.setTop (mkF m 28 #[.val (.int p1), .val (.int p2), .unset, .unset, .unset, .unset, .unset, .unset, .unset, .unset, .unset, .unset, .unset, .unset] [(.ref w_METADATA), (.int (3 : Int32)), (.ref b1), (.ref b1)])) _
    refine st53 _ ?_
    show Steps p.tables e below (T53.setTop (mkF m 29 #[.val (.int p1), .val (.int p2), .unset, .unset, .unset, .unset, .unset, .unset, .unset, .unset, .unset, .unset, .unset, .unset] [(.ref b1)])) _
    refine XS.dup X53.here hx rfl (hb hby at_29) rfl rfl ?_
    show Steps p.tables e below (T53.setTop (mkF m 30 #[.val (.int p1), .val (.int p2), .unset, .unset, .unset, .unset, .unset, .unset, .unset, .unset, .unset, .unset, .unset, .unset] [(.ref b1), (.ref b1)])) _
    refine XS.iconst X53.here hx rfl (hb hby at_30) ?_
    show Steps p.tables e below (T53.setTop (mkF m 31 #[.val (.int p1), .val (.int p2), .unset, .unset, .unset, .unset, .unset, .unset, .unset, .unset, .unset, .unset, .unset, .unset] [(.int (4 : Int32)), (.ref b1), (.ref b1)])) _
    refine st58 _ ?_
    show Steps p.tables e below (T58.setTop (mkF m 34 #[.val (.int p1), .val (.int p2), .unset, .unset, .unset, .unset, .unset, .unset, .unset, .unset, .unset, .unset, .unset, .unset] [(.ref w_OFFSET_COMMIT), (.int (4 : Int32)), (.ref b1), (.ref b1)])) _
    refine st60 _ ?_
    show Steps p.tables e below (T60.setTop (mkF m 35 #[.val (.int p1), .val (.int p2), .unset, .unset, .unset, .unset, .unset, .unset, .unset, .unset, .unset, .unset, .unset, .unset] [(.ref b1)])) _
    refine XS.dup X60.here hx rfl (hb hby at_35) rfl rfl ?_
    show Steps p.tables e below (T60.setTop (mkF m 36 #[.val (.int p1), .val (.int p2), .unset, .unset, .unset, .unset, .unset, .unset, .unset, .unset, .unset, .unset, .unset, .unset] [(.ref b1), (.ref b1)])) _
    refine XS.iconst X60.here hx rfl (hb hby at_36) ?_
    show Steps p.tables e below (T60.setTop (mkF m 37 #[.val (.int p1), .val (.int p2), .unset, .unset, .unset, .unset, .unset, .unset, .unset, .unset, .unset, .unset, .unset, .unset] [(.int (5 : Int32)), (.ref b1), (.ref b1)])) _
    refine st65 _ ?_
    show Steps p.tables e below (T65.setTop (mkF m 40 #[.val (.int p1), .val (.int p2), .unset, .unset, .unset, .unset, .unset, .unset, .unset, .unset, .unset, .unset, .unset, .unset] [(.ref w_OFFSET_FETCH), (.int (5 : Int32)), (.ref b1), (.ref b1)])) _
    refine st67 _ ?_
    show Steps p.tables e below (T67.setTop (mkF m 41 #[.val (.int p1), .val (.int p2), .unset, .unset, .unset, .unset, .unset, .unset, .unset, .unset, .unset, .unset, .unset, .unset] [(.ref b1)])) _
    refine XS.dup X67.here hx rfl (hb hby at_41) rfl rfl ?_
    show Steps p.tables e below (T67.setTop (mkF m 42 #[.val (.int p1), .val (.int p2), .unset, .unset, .unset, .unset, .unset, .unset, .unset, .unset, .unset, .unset, .unset, .unset] [(.ref b1), (.ref b1)])) _
    refine XS.bipush X67.here hx rfl (hb hby at_42) ?_
    show Steps p.tables e below (T67.setTop (mkF m 44 #[.val (.int p1), .val (.int p2), .unset, .unset, .unset, .unset, .unset, .unset, .unset, .unset, .unset, .unset, .unset, .unset] [(.int (6 : Int32)), (.ref b1), (.ref b1)])) _
    refine st72 _ ?_
    show Steps p.tables e below (T72.setTop (mkF m 47 #[.val (.int p1), .val (.int p2), .unset, .unset, .unset, .unset, .unset, .unset, .unset, .unset, .unset, .unset, .unset, .unset] [(.ref w_FIND_COORDINATOR), (.int (6 : Int32)), (.ref b1), (.ref b1)])) _
    refine st74 _ ?_
    show Steps p.tables e below (T74.setTop (mkF m 48 #[.val (.int p1), .val (.int p2), .unset, .unset, .unset, .unset, .unset, .unset, .unset, .unset, .unset, .unset, .unset, .unset] [(.ref b1)])) _
    refine XS.dup X74.here hx rfl (hb hby at_48) rfl rfl ?_
    show Steps p.tables e below (T74.setTop (mkF m 49 #[.val (.int p1), .val (.int p2), .unset, .unset, .unset, .unset, .unset, .unset, .unset, .unset, .unset, .unset, .unset, .unset] [(.ref b1), (.ref b1)])) _
    refine XS.bipush X74.here hx rfl (hb hby at_49) ?_
    show Steps p.tables e below (T74.setTop (mkF m 51 #[.val (.int p1), .val (.int p2), .unset, .unset, .unset, .unset, .unset, .unset, .unset, .unset, .unset, .unset, .unset, .unset] [(.int (7 : Int32)), (.ref b1), (.ref b1)])) _
    refine st79 _ ?_
    show Steps p.tables e below (T79.setTop (mkF m 54 #[.val (.int p1), .val (.int p2), .unset, .unset, .unset, .unset, .unset, .unset, .unset, .unset, .unset, .unset, .unset, .unset] [(.ref w_JOIN_GROUP), (.int (7 : Int32)), (.ref b1), (.ref b1)])) _
    refine st81 _ ?_
    show Steps p.tables e below (T81.setTop (mkF m 55 #[.val (.int p1), .val (.int p2), .unset, .unset, .unset, .unset, .unset, .unset, .unset, .unset, .unset, .unset, .unset, .unset] [(.ref b1)])) _
    refine XS.dup X81.here hx rfl (hb hby at_55) rfl rfl ?_
    show Steps p.tables e below (T81.setTop (mkF m 56 #[.val (.int p1), .val (.int p2), .unset, .unset, .unset, .unset, .unset, .unset, .unset, .unset, .unset, .unset, .unset, .unset] [(.ref b1), (.ref b1)])) _
    refine XS.bipush X81.here hx rfl (hb hby at_56) ?_
    show Steps p.tables e below (T81.setTop (mkF m 58 #[.val (.int p1), .val (.int p2), .unset, .unset, .unset, .unset, .unset, .unset, .unset, .unset, .unset, .unset, .unset, .unset] [(.int (8 : Int32)), (.ref b1), (.ref b1)])) _
    refine st86 _ ?_
    show Steps p.tables e below (T86.setTop (mkF m 61 #[.val (.int p1), .val (.int p2), .unset, .unset, .unset, .unset, .unset, .unset, .unset, .unset, .unset, .unset, .unset, .unset] [(.ref w_HEARTBEAT), (.int (8 : Int32)), (.ref b1), (.ref b1)])) _
    refine st88 _ ?_
    show Steps p.tables e below (T88.setTop (mkF m 62 #[.val (.int p1), .val (.int p2), .unset, .unset, .unset, .unset, .unset, .unset, .unset, .unset, .unset, .unset, .unset, .unset] [(.ref b1)])) _
    refine XS.dup X88.here hx rfl (hb hby at_62) rfl rfl ?_
    show Steps p.tables e below (T88.setTop (mkF m 63 #[.val (.int p1), .val (.int p2), .unset, .unset, .unset, .unset, .unset, .unset, .unset, .unset, .unset, .unset, .unset, .unset] [(.ref b1), (.ref b1)])) _
    refine XS.bipush X88.here hx rfl (hb hby at_63) ?_
    show Steps p.tables e below (T88.setTop (mkF m 65 #[.val (.int p1), .val (.int p2), .unset, .unset, .unset, .unset, .unset, .unset, .unset, .unset, .unset, .unset, .unset, .unset] [(.int (9 : Int32)), (.ref b1), (.ref b1)])) _
    refine st93 _ ?_
    show Steps p.tables e below (T93.setTop (mkF m 68 #[.val (.int p1), .val (.int p2), .unset, .unset, .unset, .unset, .unset, .unset, .unset, .unset, .unset, .unset, .unset, .unset] [(.ref w_LEAVE_GROUP), (.int (9 : Int32)), (.ref b1), (.ref b1)])) _
    refine st95 _ ?_
    show Steps p.tables e below (T95.setTop (mkF m 69 #[.val (.int p1), .val (.int p2), .unset, .unset, .unset, .unset, .unset, .unset, .unset, .unset, .unset, .unset, .unset, .unset] [(.ref b1)])) _
    refine XS.dup X95.here hx rfl (hb hby at_69) rfl rfl ?_
    show Steps p.tables e below (T95.setTop (mkF m 70 #[.val (.int p1), .val (.int p2), .unset, .unset, .unset, .unset, .unset, .unset, .unset, .unset, .unset, .unset, .unset, .unset] [(.ref b1), (.ref b1)])) _
    refine XS.bipush X95.here hx rfl (hb hby at_70) ?_
    show Steps p.tables e below (T95.setTop (mkF m 72 #[.val (.int p1), .val (.int p2), .unset, .unset, .unset, .unset, .unset, .unset, .unset, .unset, .unset, .unset, .unset, .unset] [(.int (10 : Int32)), (.ref b1), (.ref b1)])) _
    refine st100 _ ?_
    show Steps p.tables e below (T100.setTop (mkF m 75 #[.val (.int p1), .val (.int p2), .unset, .unset, .unset, .unset, .unset, .unset, .unset, .unset, .unset, .unset, .unset, .unset] [(.ref w_SYNC_GROUP), (.int (10 : Int32)), (.ref b1), (.ref b1)])) _
    refine st102 _ ?_
    show Steps p.tables e below (T102.setTop (mkF m 76 #[.val (.int p1), .val (.int p2), .unset, .unset, .unset, .unset, .unset, .unset, .unset, .unset, .unset, .unset, .unset, .unset] [(.ref b1)])) _
    refine XS.dup X102.here hx rfl (hb hby at_76) rfl rfl ?_
    show Steps p.tables e below (T102.setTop (mkF m 77 #[.val (.int p1), .val (.int p2), .unset, .unset, .unset, .unset, .unset, .unset, .unset, .unset, .unset, .unset, .unset, .unset] [(.ref b1), (.ref b1)])) _
    refine XS.bipush X102.here hx rfl (hb hby at_77) ?_
    show Steps p.tables e below (T102.setTop (mkF m 79 #[.val (.int p1), .val (.int p2), .unset, .unset, .unset, .unset, .unset, .unset, .unset, .unset, .unset, .unset, .unset, .unset] [(.int (11 : Int32)), (.ref b1), (.ref b1)])) _
    refine st107 _ ?_
    show Steps p.tables e below (T107.setTop (mkF m 82 #[.val (.int p1), .val (.int p2), .unset, .unset, .unset, .unset, .unset, .unset, .unset, .unset, .unset, .unset, .unset, .unset] [(.ref w_DESCRIBE_GROUPS), (.int (11 : Int32)), (.ref b1), (.ref b1)])) _
    refine st109 _ ?_
    show Steps p.tables e below (T109.setTop (mkF m 83 #[.val (.int p1), .val (.int p2), .unset, .unset, .unset, .unset, .unset, .unset, .unset, .unset, .unset, .unset, .unset, .unset] [(.ref b1)])) _
    refine XS.dup X109.here hx rfl (hb hby at_83) rfl rfl ?_
    show Steps p.tables e below (T109.setTop (mkF m 84 #[.val (.int p1), .val (.int p2), .unset, .unset, .unset, .unset, .unset, .unset, .unset, .unset, .unset, .unset, .unset, .unset] [(.ref b1), (.ref b1)])) _
    refine XS.bipush X109.here hx rfl (hb hby at_84) ?_
    show Steps p.tables e below (T109.setTop (mkF m 86 #[.val (.int p1), .val (.int p2), .unset, .unset, .unset, .unset, .unset, .unset, .unset, .unset, .unset, .unset, .unset, .unset] [(.int (12 : Int32)), (.ref b1), (.ref b1)])) _
    refine st114 _ ?_
    show Steps p.tables e below (T114.setTop (mkF m 89 #[.val (.int p1), .val (.int p2), .unset, .unset, .unset, .unset, .unset, .unset, .unset, .unset, .unset, .unset, .unset, .unset] [(.ref w_LIST_GROUPS), (.int (12 : Int32)), (.ref b1), (.ref b1)])) _
    refine st116 _ ?_
    show Steps p.tables e below (T116.setTop (mkF m 90 #[.val (.int p1), .val (.int p2), .unset, .unset, .unset, .unset, .unset, .unset, .unset, .unset, .unset, .unset, .unset, .unset] [(.ref b1)])) _
    refine XS.dup X116.here hx rfl (hb hby at_90) rfl rfl ?_
    show Steps p.tables e below (T116.setTop (mkF m 91 #[.val (.int p1), .val (.int p2), .unset, .unset, .unset, .unset, .unset, .unset, .unset, .unset, .unset, .unset, .unset, .unset] [(.ref b1), (.ref b1)])) _
    refine XS.bipush X116.here hx rfl (hb hby at_91) ?_
    show Steps p.tables e below (T116.setTop (mkF m 93 #[.val (.int p1), .val (.int p2), .unset, .unset, .unset, .unset, .unset, .unset, .unset, .unset, .unset, .unset, .unset, .unset] [(.int (13 : Int32)), (.ref b1), (.ref b1)])) _
    refine st121 _ ?_
    show Steps p.tables e below (T121.setTop (mkF m 96 #[.val (.int p1), .val (.int p2), .unset, .unset, .unset, .unset, .unset, .unset, .unset, .unset, .unset, .unset, .unset, .unset] [(.ref w_API_VERSIONS), (.int (13 : Int32)), (.ref b1), (.ref b1)])) _
    refine st123 _ ?_
    show Steps p.tables e below (T123.setTop (mkF m 97 #[.val (.int p1), .val (.int p2), .unset, .unset, .unset, .unset, .unset, .unset, .unset, .unset, .unset, .unset, .unset, .unset] [(.ref b1)])) _
    refine XS.dup X123.here hx rfl (hb hby at_97) rfl rfl ?_
    show Steps p.tables e below (T123.setTop (mkF m 98 #[.val (.int p1), .val (.int p2), .unset, .unset, .unset, .unset, .unset, .unset, .unset, .unset, .unset, .unset, .unset, .unset] [(.ref b1), (.ref b1)])) _
    refine XS.bipush X123.here hx rfl (hb hby at_98) ?_
    show Steps p.tables e below (T123.setTop (mkF m 100 #[.val (.int p1), .val (.int p2), .unset, .unset, .unset, .unset, .unset, .unset, .unset, .unset, .unset, .unset, .unset, .unset] [(.int (14 : Int32)), (.ref b1), (.ref b1)])) _
    refine st128 _ ?_
    show Steps p.tables e below (T128.setTop (mkF m 103 #[.val (.int p1), .val (.int p2), .unset, .unset, .unset, .unset, .unset, .unset, .unset, .unset, .unset, .unset, .unset, .unset] [(.ref w_CREATE_TOPICS), (.int (14 : Int32)), (.ref b1), (.ref b1)])) _
    refine st130 _ ?_
    show Steps p.tables e below (T130.setTop (mkF m 104 #[.val (.int p1), .val (.int p2), .unset, .unset, .unset, .unset, .unset, .unset, .unset, .unset, .unset, .unset, .unset, .unset] [(.ref b1)])) _
    refine XS.dup X130.here hx rfl (hb hby at_104) rfl rfl ?_
    show Steps p.tables e below (T130.setTop (mkF m 105 #[.val (.int p1), .val (.int p2), .unset, .unset, .unset, .unset, .unset, .unset, .unset, .unset, .unset, .unset, .unset, .unset] [(.ref b1), (.ref b1)])) _
    refine XS.bipush X130.here hx rfl (hb hby at_105) ?_
    show Steps p.tables e below (T130.setTop (mkF m 107 #[.val (.int p1), .val (.int p2), .unset, .unset, .unset, .unset, .unset, .unset, .unset, .unset, .unset, .unset, .unset, .unset] [(.int (15 : Int32)), (.ref b1), (.ref b1)])) _
    refine st135 _ ?_
    show Steps p.tables e below (T135.setTop (mkF m 110 #[.val (.int p1), .val (.int p2), .unset, .unset, .unset, .unset, .unset, .unset, .unset, .unset, .unset, .unset, .unset, .unset] [(.ref w_DELETE_TOPICS), (.int (15 : Int32)), (.ref b1), (.ref b1)])) _
    refine st137 _ ?_
    show Steps p.tables e below (T137.setTop (mkF m 111 #[.val (.int p1), .val (.int p2), .unset, .unset, .unset, .unset, .unset, .unset, .unset, .unset, .unset, .unset, .unset, .unset] [(.ref b1)])) _
    refine XS.dup X137.here hx rfl (hb hby at_111) rfl rfl ?_
    show Steps p.tables e below (T137.setTop (mkF m 112 #[.val (.int p1), .val (.int p2), .unset, .unset, .unset, .unset, .unset, .unset, .unset, .unset, .unset, .unset, .unset, .unset] [(.ref b1), (.ref b1)])) _
    refine XS.bipush X137.here hx rfl (hb hby at_112) ?_
    show Steps p.tables e below (T137.setTop (mkF m 114 #[.val (.int p1), .val (.int p2), .unset, .unset, .unset, .unset, .unset, .unset, .unset, .unset, .unset, .unset, .unset, .unset] [(.int (16 : Int32)), (.ref b1), (.ref b1)])) _
    refine st142 _ ?_
    show Steps p.tables e below (T142.setTop (mkF m 117 #[.val (.int p1), .val (.int p2), .unset, .unset, .unset, .unset, .unset, .unset, .unset, .unset, .unset, .unset, .unset, .unset] [(.ref w_INIT_PRODUCER_ID), (.int (16 : Int32)), (.ref b1), (.ref b1)])) _
    refine st144 _ ?_
    show Steps p.tables e below (T144.setTop (mkF m 118 #[.val (.int p1), .val (.int p2), .unset, .unset, .unset, .unset, .unset, .unset, .unset, .unset, .unset, .unset, .unset, .unset] [(.ref b1)])) _
    refine XS.dup X144.here hx rfl (hb hby at_118) rfl rfl ?_
    show Steps p.tables e below (T144.setTop (mkF m 119 #[.val (.int p1), .val (.int p2), .unset, .unset, .unset, .unset, .unset, .unset, .unset, .unset, .unset, .unset, .unset, .unset] [(.ref b1), (.ref b1)])) _
    refine XS.bipush X144.here hx rfl (hb hby at_119) ?_
    show Steps p.tables e below (T144.setTop (mkF m 121 #[.val (.int p1), .val (.int p2), .unset, .unset, .unset, .unset, .unset, .unset, .unset, .unset, .unset, .unset, .unset, .unset] [(.int (17 : Int32)), (.ref b1), (.ref b1)])) _
    refine st149 _ ?_
    show Steps p.tables e below (T149.setTop (mkF m 124 #[.val (.int p1), .val (.int p2), .unset, .unset, .unset, .unset, .unset, .unset, .unset, .unset, .unset, .unset, .unset, .unset] [(.ref w_ADD_PARTITIONS_TO_TXN), (.int (17 : Int32)), (.ref b1), (.ref b1)])) _
    refine st151 _ ?_
    show Steps p.tables e below (T151.setTop (mkF m 125 #[.val (.int p1), .val (.int p2), .unset, .unset, .unset, .unset, .unset, .unset, .unset, .unset, .unset, .unset, .unset, .unset] [(.ref b1)])) _
    refine XS.dup X151.here hx rfl (hb hby at_125) rfl rfl ?_
    show Steps p.tables e below (T151.setTop (mkF m 126 #[.val (.int p1), .val (.int p2), .unset, .unset, .unset, .unset, .unset, .unset, .unset, .unset, .unset, .unset, .unset, .unset] [(.ref b1), (.ref b1)])) _
    refine XS.bipush X151.here hx rfl (hb hby at_126) ?_
    show Steps p.tables e below (T151.setTop (mkF m 128 #[.val (.int p1), .val (.int p2), .unset, .unset, .unset, .unset, .unset, .unset, .unset, .unset, .unset, .unset, .unset, .unset] [(.int (18 : Int32)), (.ref b1), (.ref b1)])) _
    refine st156 _ ?_
    show Steps p.tables e below (T156.setTop (mkF m 131 #[.val (.int p1), .val (.int p2), .unset, .unset, .unset, .unset, .unset, .unset, .unset, .unset, .unset, .unset, .unset, .unset] [(.ref w_ADD_OFFSETS_TO_TXN), (.int (18 : Int32)), (.ref b1), (.ref b1)])) _
    refine st158 _ ?_
    show Steps p.tables e below (T158.setTop (mkF m 132 #[.val (.int p1), .val (.int p2), .unset, .unset, .unset, .unset, .unset, .unset, .unset, .unset, .unset, .unset, .unset, .unset] [(.ref b1)])) _
    refine XS.dup X158.here hx rfl (hb hby at_132) rfl rfl ?_
    show Steps p.tables e below (T158.setTop (mkF m 133 #[.val (.int p1), .val (.int p2), .unset, .unset, .unset, .unset, .unset, .unset, .unset, .unset, .unset, .unset, .unset, .unset] [(.ref b1), (.ref b1)])) _
    refine XS.bipush X158.here hx rfl (hb hby at_133) ?_
    show Steps p.tables e below (T158.setTop (mkF m 135 #[.val (.int p1), .val (.int p2), .unset, .unset, .unset, .unset, .unset, .unset, .unset, .unset, .unset, .unset, .unset, .unset] [(.int (19 : Int32)), (.ref b1), (.ref b1)])) _
    refine st163 _ ?_
    show Steps p.tables e below (T163.setTop (mkF m 138 #[.val (.int p1), .val (.int p2), .unset, .unset, .unset, .unset, .unset, .unset, .unset, .unset, .unset, .unset, .unset, .unset] [(.ref w_END_TXN), (.int (19 : Int32)), (.ref b1), (.ref b1)])) _
    refine st165 _ ?_
    show Steps p.tables e below (T165.setTop (mkF m 139 #[.val (.int p1), .val (.int p2), .unset, .unset, .unset, .unset, .unset, .unset, .unset, .unset, .unset, .unset, .unset, .unset] [(.ref b1)])) _
    refine XS.dup X165.here hx rfl (hb hby at_139) rfl rfl ?_
    show Steps p.tables e below (T165.setTop (mkF m 140 #[.val (.int p1), .val (.int p2), .unset, .unset, .unset, .unset, .unset, .unset, .unset, .unset, .unset, .unset, .unset, .unset] [(.ref b1), (.ref b1)])) _
    refine XS.bipush X165.here hx rfl (hb hby at_140) ?_
    show Steps p.tables e below (T165.setTop (mkF m 142 #[.val (.int p1), .val (.int p2), .unset, .unset, .unset, .unset, .unset, .unset, .unset, .unset, .unset, .unset, .unset, .unset] [(.int (20 : Int32)), (.ref b1), (.ref b1)])) _
    refine st170 _ ?_
    show Steps p.tables e below (T170.setTop (mkF m 145 #[.val (.int p1), .val (.int p2), .unset, .unset, .unset, .unset, .unset, .unset, .unset, .unset, .unset, .unset, .unset, .unset] [(.ref w_TXN_OFFSET_COMMIT), (.int (20 : Int32)), (.ref b1), (.ref b1)])) _
    refine st172 _ ?_
    show Steps p.tables e below (T172.setTop (mkF m 146 #[.val (.int p1), .val (.int p2), .unset, .unset, .unset, .unset, .unset, .unset, .unset, .unset, .unset, .unset, .unset, .unset] [(.ref b1)])) _
    refine XS.dup X172.here hx rfl (hb hby at_146) rfl rfl ?_
    show Steps p.tables e below (T172.setTop (mkF m 147 #[.val (.int p1), .val (.int p2), .unset, .unset, .unset, .unset, .unset, .unset, .unset, .unset, .unset, .unset, .unset, .unset] [(.ref b1), (.ref b1)])) _
    refine XS.bipush X172.here hx rfl (hb hby at_147) ?_
    show Steps p.tables e below (T172.setTop (mkF m 149 #[.val (.int p1), .val (.int p2), .unset, .unset, .unset, .unset, .unset, .unset, .unset, .unset, .unset, .unset, .unset, .unset] [(.int (21 : Int32)), (.ref b1), (.ref b1)])) _
    refine st177 _ ?_
    show Steps p.tables e below (T177.setTop (mkF m 152 #[.val (.int p1), .val (.int p2), .unset, .unset, .unset, .unset, .unset, .unset, .unset, .unset, .unset, .unset, .unset, .unset] [(.ref w_DESCRIBE_CONFIGS), (.int (21 : Int32)), (.ref b1), (.ref b1)])) _
    refine st179 _ ?_
    show Steps p.tables e below (T179.setTop (mkF m 153 #[.val (.int p1), .val (.int p2), .unset, .unset, .unset, .unset, .unset, .unset, .unset, .unset, .unset, .unset, .unset, .unset] [(.ref b1)])) _
    refine XS.dup X179.here hx rfl (hb hby at_153) rfl rfl ?_
    show Steps p.tables e below (T179.setTop (mkF m 154 #[.val (.int p1), .val (.int p2), .unset, .unset, .unset, .unset, .unset, .unset, .unset, .unset, .unset, .unset, .unset, .unset] [(.ref b1), (.ref b1)])) _
    refine XS.bipush X179.here hx rfl (hb hby at_154) ?_
    show Steps p.tables e below (T179.setTop (mkF m 156 #[.val (.int p1), .val (.int p2), .unset, .unset, .unset, .unset, .unset, .unset, .unset, .unset, .unset, .unset, .unset, .unset] [(.int (22 : Int32)), (.ref b1), (.ref b1)])) _
    refine st184 _ ?_
    show Steps p.tables e below (T184.setTop (mkF m 159 #[.val (.int p1), .val (.int p2), .unset, .unset, .unset, .unset, .unset, .unset, .unset, .unset, .unset, .unset, .unset, .unset] [(.ref w_ALTER_CONFIGS), (.int (22 : Int32)), (.ref b1), (.ref b1)])) _
    refine st186 _ ?_
    show Steps p.tables e below (T186.setTop (mkF m 160 #[.val (.int p1), .val (.int p2), .unset, .unset, .unset, .unset, .unset, .unset, .unset, .unset, .unset, .unset, .unset, .unset] [(.ref b1)])) _
    refine XS.dup X186.here hx rfl (hb hby at_160) rfl rfl ?_
    show Steps p.tables e below (T186.setTop (mkF m 161 #[.val (.int p1), .val (.int p2), .unset, .unset, .unset, .unset, .unset, .unset, .unset, .unset, .unset, .unset, .unset, .unset] [(.ref b1), (.ref b1)])) _
    refine XS.bipush X186.here hx rfl (hb hby at_161) ?_
    show Steps p.tables e below (T186.setTop (mkF m 163 #[.val (.int p1), .val (.int p2), .unset, .unset, .unset, .unset, .unset, .unset, .unset, .unset, .unset, .unset, .unset, .unset] [(.int (23 : Int32)), (.ref b1), (.ref b1)])) _
    refine st191 _ ?_
    show Steps p.tables e below (T191.setTop (mkF m 166 #[.val (.int p1), .val (.int p2), .unset, .unset, .unset, .unset, .unset, .unset, .unset, .unset, .unset, .unset, .unset, .unset] [(.ref w_CREATE_PARTITIONS), (.int (23 : Int32)), (.ref b1), (.ref b1)])) _
    refine st193 _ ?_
    show Steps p.tables e below (T193.setTop (mkF m 167 #[.val (.int p1), .val (.int p2), .unset, .unset, .unset, .unset, .unset, .unset, .unset, .unset, .unset, .unset, .unset, .unset] [(.ref b1)])) _
    refine XS.dup X193.here hx rfl (hb hby at_167) rfl rfl ?_
    show Steps p.tables e below (T193.setTop (mkF m 168 #[.val (.int p1), .val (.int p2), .unset, .unset, .unset, .unset, .unset, .unset, .unset, .unset, .unset, .unset, .unset, .unset] [(.ref b1), (.ref b1)])) _
    refine XS.bipush X193.here hx rfl (hb hby at_168) ?_
    show Steps p.tables e below (T193.setTop (mkF m 170 #[.val (.int p1), .val (.int p2), .unset, .unset, .unset, .unset, .unset, .unset, .unset, .unset, .unset, .unset, .unset, .unset] [(.int (24 : Int32)), (.ref b1), (.ref b1)])) _
    refine st198 _ ?_
    show Steps p.tables e below (T198.setTop (mkF m 173 #[.val (.int p1), .val (.int p2), .unset, .unset, .unset, .unset, .unset, .unset, .unset, .unset, .unset, .unset, .unset, .unset] [(.ref w_DELETE_GROUPS), (.int (24 : Int32)), (.ref b1), (.ref b1)])) _
    refine st200 _ ?_
    show Steps p.tables e below (T200.setTop (mkF m 174 #[.val (.int p1), .val (.int p2), .unset, .unset, .unset, .unset, .unset, .unset, .unset, .unset, .unset, .unset, .unset, .unset] [(.ref b1)])) _
    refine XS.dup X200.here hx rfl (hb hby at_174) rfl rfl ?_
    show Steps p.tables e below (T200.setTop (mkF m 175 #[.val (.int p1), .val (.int p2), .unset, .unset, .unset, .unset, .unset, .unset, .unset, .unset, .unset, .unset, .unset, .unset] [(.ref b1), (.ref b1)])) _
    refine XS.bipush X200.here hx rfl (hb hby at_175) ?_
    show Steps p.tables e below (T200.setTop (mkF m 177 #[.val (.int p1), .val (.int p2), .unset, .unset, .unset, .unset, .unset, .unset, .unset, .unset, .unset, .unset, .unset, .unset] [(.int (25 : Int32)), (.ref b1), (.ref b1)])) _
    refine st205 _ ?_
    show Steps p.tables e below (T205.setTop (mkF m 180 #[.val (.int p1), .val (.int p2), .unset, .unset, .unset, .unset, .unset, .unset, .unset, .unset, .unset, .unset, .unset, .unset] [(.ref w_INCREMENTAL_ALTER_CONFIGS), (.int (25 : Int32)), (.ref b1), (.ref b1)])) _
    refine st207 _ ?_
    show Steps p.tables e below (T207.setTop (mkF m 181 #[.val (.int p1), .val (.int p2), .unset, .unset, .unset, .unset, .unset, .unset, .unset, .unset, .unset, .unset, .unset, .unset] [(.ref b1)])) _
    refine XS.astoreN X207.here hx rfl (hb hby at_181) rfl rfl (l' := #[.val (.int p1), .val (.int p2), .val (.ref b1), .unset, .unset, .unset, .unset, .unset, .unset, .unset, .unset, .unset, .unset, .unset]) rfl ?_
    show Steps p.tables e below (T207.setTop (mkF m 182 #[.val (.int p1), .val (.int p2), .val (.ref b1), .unset, .unset, .unset, .unset, .unset, .unset, .unset, .unset, .unset, .unset, .unset] [])) _
    refine XS.bipush X207.here hx rfl (hb hby at_182) ?_
    show Steps p.tables e below (T207.setTop (mkF m 184 #[.val (.int p1), .val (.int p2), .val (.ref b1), .unset, .unset, .unset, .unset, .unset, .unset, .unset, .unset, .unset, .unset, .unset] [(.int (26 : Int32))])) _
    refine st212 _ ?_
    show Steps p.tables e below (T212.setTop (mkF m 186 #[.val (.int p1), .val (.int p2), .val (.ref b1), .unset, .unset, .unset, .unset, .unset, .unset, .unset, .unset, .unset, .unset, .unset] [(.ref b212)])) _
    refine XS.dup X212.here hx rfl (hb hby at_186) rfl rfl ?_
    show Steps p.tables e below (T212.setTop (mkF m 187 #[.val (.int p1), .val (.int p2), .val (.ref b1), .unset, .unset, .unset, .unset, .unset, .unset, .unset, .unset, .unset, .unset, .unset] [(.ref b212), (.ref b212)])) _
    refine XS.iconst X212.here hx rfl (hb hby at_187) ?_
    show Steps p.tables e below (T212.setTop (mkF m 188 #[.val (.int p1), .val (.int p2), .val (.ref b1), .unset, .unset, .unset, .unset, .unset, .unset, .unset, .unset, .unset, .unset, .unset] [(.int (0 : Int32)), (.ref b212), (.ref b212)])) _
    refine XS.iconst X212.here hx rfl (hb hby at_188) ?_
    show Steps p.tables e below (T212.setTop (mkF m 189 #[.val (.int p1), .val (.int p2), .val (.ref b1), .unset, .unset, .unset, .unset, .unset, .unset, .unset, .unset, .unset, .unset, .unset] [(.int (0 : Int32)), (.int (0 : Int32)), (.ref b212), (.ref b212)])) _
    refine st244 _ ?_
    show Steps p.tables e below (T244.setTop (mkF m 190 #[.val (.int p1), .val (.int p2), .val (.ref b1), .unset, .unset, .unset, .unset, .unset, .unset, .unset, .unset, .unset, .unset, .unset] [(.ref b212)])) _
    refine XS.dup X244.here hx rfl (hb hby at_190) rfl rfl ?_
    show Steps p.tables e below (T244.setTop (mkF m 191 #[.val (.int p1), .val (.int p2), .val (.ref b1), .unset, .unset, .unset, .unset, .unset, .unset, .unset, .unset, .unset, .unset, .unset] [(.ref b212), (.ref b212)])) _
    refine XS.iconst X244.here hx rfl (hb hby at_191) ?_
    show Steps p.tables e below (T244.setTop (mkF m 192 #[.val (.int p1), .val (.int p2), .val (.ref b1), .unset, .unset, .unset, .unset, .unset, .unset, .unset, .unset, .unset, .unset, .unset] [(.int (1 : Int32)), (.ref b212), (.ref b212)])) _
    refine XS.iconst X244.here hx rfl (hb hby at_192) ?_
    show Steps p.tables e below (T244.setTop (mkF m 193 #[.val (.int p1), .val (.int p2), .val (.ref b1), .unset, .unset, .unset, .unset, .unset, .unset, .unset, .unset, .unset, .unset, .unset] [(.int (4 : Int32)), (.int (1 : Int32)), (.ref b212), (.ref b212)])) _
    refine st251 _ ?_
    show Steps p.tables e below (T251.setTop (mkF m 194 #[.val (.int p1), .val (.int p2), .val (.ref b1), .unset, .unset, .unset, .unset, .unset, .unset, .unset, .unset, .unset, .unset, .unset] [(.ref b212)])) _
    refine XS.dup X251.here hx rfl (hb hby at_194) rfl rfl ?_
    show Steps p.tables e below (T251.setTop (mkF m 195 #[.val (.int p1), .val (.int p2), .val (.ref b1), .unset, .unset, .unset, .unset, .unset, .unset, .unset, .unset, .unset, .unset, .unset] [(.ref b212), (.ref b212)])) _
    refine XS.iconst X251.here hx rfl (hb hby at_195) ?_
    show Steps p.tables e below (T251.setTop (mkF m 196 #[.val (.int p1), .val (.int p2), .val (.ref b1), .unset, .unset, .unset, .unset, .unset, .unset, .unset, .unset, .unset, .unset, .unset] [(.int (2 : Int32)), (.ref b212), (.ref b212)])) _
    refine XS.iconst X251.here hx rfl (hb hby at_196) ?_
    show Steps p.tables e below (T251.setTop (mkF m 197 #[.val (.int p1), .val (.int p2), .val (.ref b1), .unset, .unset, .unset, .unset, .unset, .unset, .unset, .unset, .unset, .unset, .unset] [(.int (1 : Int32)), (.int (2 : Int32)), (.ref b212), (.ref b212)])) _
    refine st258 _ ?_
    show Steps p.tables e below (T258.setTop (mkF m 198 #[.val (.int p1), .val (.int p2), .val (.ref b1), .unset, .unset, .unset, .unset, .unset, .unset, .unset, .unset, .unset, .unset, .unset] [(.ref b212)])) _
    refine XS.dup X258.here hx rfl (hb hby at_198) rfl rfl ?_
    show Steps p.tables e below (T258.setTop (mkF m 199 #[.val (.int p1), .val (.int p2), .val (.ref b1), .unset, .unset, .unset, .unset, .unset, .unset, .unset, .unset, .unset, .unset, .unset] [(.ref b212), (.ref b212)])) _
    refine XS.iconst X258.here hx rfl (hb hby at_199) ?_
    show Steps p.tables e below (T258.setTop (mkF m 200 #[.val (.int p1), .val (.int p2), .val (.ref b1), .unset, .unset, .unset, .unset, .unset, .unset, .unset, .unset, .unset, .unset, .unset] [(.int (3 : Int32)), (.ref b212), (.ref b212)])) _
    refine XS.iconst X258.here hx rfl (hb hby at_200) ?_
    show Steps p.tables e below (T258.setTop (mkF m 201 #[.val (.int p1), .val (.int p2), .val (.ref b1), .unset, .unset, .unset, .unset, .unset, .unset, .unset, .unset, .unset, .unset, .unset] [(.int (0 : Int32)), (.int (3 : Int32)), (.ref b212), (.ref b212)])) _
    refine st265 _ ?_
    show Steps p.tables e below (T265.setTop (mkF m 202 #[.val (.int p1), .val (.int p2), .val (.ref b1), .unset, .unset, .unset, .unset, .unset, .unset, .unset, .unset, .unset, .unset, .unset] [(.ref b212)])) _
    refine XS.dup X265.here hx rfl (hb hby at_202) rfl rfl ?_
    show Steps p.tables e below (T265.setTop (mkF m 203 #[.val (.int p1), .val (.int p2), .val (.ref b1), .unset, .unset, .unset, .unset, .unset, .unset, .unset, .unset, .unset, .unset, .unset] [(.ref b212), (.ref b212)])) _
    refine XS.iconst X265.here hx rfl (hb hby at_203) ?_
    show Steps p.tables e below (T265.setTop (mkF m 204 #[.val (.int p1), .val (.int p2), .val (.ref b1), .unset, .unset, .unset, .unset, .unset, .unset, .unset, .unset, .unset, .unset, .unset] [(.int (4 : Int32)), (.ref b212), (.ref b212)])) _
    refine XS.iconst X265.here hx rfl (hb hby at_204) ?_
    show Steps p.tables e below (T265.setTop (mkF m 205 #[.val (.int p1), .val (.int p2), .val (.ref b1), .unset, .unset, .unset, .unset, .unset, .unset, .unset, .unset, .unset, .unset, .unset] [(.int (2 : Int32)), (.int (4 : Int32)), (.ref b212), (.ref b212)])) _
    refine st272 _ ?_
    show Steps p.tables e below (T272.setTop (mkF m 206 #[.val (.int p1), .val (.int p2), .val (.ref b1), .unset, .unset, .unset, .unset, .unset, .unset, .unset, .unset, .unset, .unset, .unset] [(.ref b212)])) _
    refine XS.dup X272.here hx rfl (hb hby at_206) rfl rfl ?_
    show Steps p.tables e below (T272.setTop (mkF m 207 #[.val (.int p1), .val (.int p2), .val (.ref b1), .unset, .unset, .unset, .unset, .unset, .unset, .unset, .unset, .unset, .unset, .unset] [(.ref b212), (.ref b212)])) _
    refine XS.iconst X272.here hx rfl (hb hby at_207) ?_
    show Steps p.tables e below (T272.setTop (mkF m 208 #[.val (.int p1), .val (.int p2), .val (.ref b1), .unset, .unset, .unset, .unset, .unset, .unset, .unset, .unset, .unset, .unset, .unset] [(.int (5 : Int32)), (.ref b212), (.ref b212)])) _
    refine XS.iconst X272.here hx rfl (hb hby at_208) ?_
    show Steps p.tables e below (T272.setTop (mkF m 209 #[.val (.int p1), .val (.int p2), .val (.ref b1), .unset, .unset, .unset, .unset, .unset, .unset, .unset, .unset, .unset, .unset, .unset] [(.int (1 : Int32)), (.int (5 : Int32)), (.ref b212), (.ref b212)])) _
    refine st279 _ ?_
    show Steps p.tables e below (T279.setTop (mkF m 210 #[.val (.int p1), .val (.int p2), .val (.ref b1), .unset, .unset, .unset, .unset, .unset, .unset, .unset, .unset, .unset, .unset, .unset] [(.ref b212)])) _
    refine XS.dup X279.here hx rfl (hb hby at_210) rfl rfl ?_
    show Steps p.tables e below (T279.setTop (mkF m 211 #[.val (.int p1), .val (.int p2), .val (.ref b1), .unset, .unset, .unset, .unset, .unset, .unset, .unset, .unset, .unset, .unset, .unset] [(.ref b212), (.ref b212)])) _
    refine XS.bipush X279.here hx rfl (hb hby at_211) ?_
    show Steps p.tables e below (T279.setTop (mkF m 213 #[.val (.int p1), .val (.int p2), .val (.ref b1), .unset, .unset, .unset, .unset, .unset, .unset, .unset, .unset, .unset, .unset, .unset] [(.int (6 : Int32)), (.ref b212), (.ref b212)])) _
    refine XS.iconst X279.here hx rfl (hb hby at_213) ?_
    show Steps p.tables e below (T279.setTop (mkF m 214 #[.val (.int p1), .val (.int p2), .val (.ref b1), .unset, .unset, .unset, .unset, .unset, .unset, .unset, .unset, .unset, .unset, .unset] [(.int (0 : Int32)), (.int (6 : Int32)), (.ref b212), (.ref b212)])) _
    refine st286 _ ?_
    show Steps p.tables e below (T286.setTop (mkF m 215 #[.val (.int p1), .val (.int p2), .val (.ref b1), .unset, .unset, .unset, .unset, .unset, .unset, .unset, .unset, .unset, .unset, .unset] [(.ref b212)])) _
    refine XS.dup X286.here hx rfl (hb hby at_215) rfl rfl ?_
    show Steps p.tables e below (T286.setTop (mkF m 216 #[.val (.int p1), .val (.int p2), .val (.ref b1), .unset, .unset, .unset, .unset, .unset, .unset, .unset, .unset, .unset, .unset, .unset] [(.ref b212), (.ref b212)])) _
    refine XS.bipush X286.here hx rfl (hb hby at_216) ?_
    show Steps p.tables e below (T286.setTop (mkF m 218 #[.val (.int p1), .val (.int p2), .val (.ref b1), .unset, .unset, .unset, .unset, .unset, .unset, .unset, .unset, .unset, .unset, .unset] [(.int (7 : Int32)), (.ref b212), (.ref b212)])) _
    refine XS.iconst X286.here hx rfl (hb hby at_218) ?_
    show Steps p.tables e below (T286.setTop (mkF m 219 #[.val (.int p1), .val (.int p2), .val (.ref b1), .unset, .unset, .unset, .unset, .unset, .unset, .unset, .unset, .unset, .unset, .unset] [(.int (0 : Int32)), (.int (7 : Int32)), (.ref b212), (.ref b212)])) _
    refine st293 _ ?_
    show Steps p.tables e below (T293.setTop (mkF m 220 #[.val (.int p1), .val (.int p2), .val (.ref b1), .unset, .unset, .unset, .unset, .unset, .unset, .unset, .unset, .unset, .unset, .unset] [(.ref b212)])) _
    refine XS.dup X293.here hx rfl (hb hby at_220) rfl rfl ?_
    show Steps p.tables e below (T293.setTop (mkF m 221 #[.val (.int p1), .val (.int p2), .val (.ref b1), .unset, .unset, .unset, .unset, .unset, .unset, .unset, .unset, .unset, .unset, .unset] [(.ref b212), (.ref b212)])) _
    refine XS.bipush X293.here hx rfl (hb hby at_221) ?_
    show Steps p.tables e below (T293.setTop (mkF m 223 #[.val (.int p1), .val (.int p2), .val (.ref b1), .unset, .unset, .unset, .unset, .unset, .unset, .unset, .unset, .unset, .unset, .unset] [(.int (8 : Int32)), (.ref b212), (.ref b212)])) _
    refine XS.iconst X293.here hx rfl (hb hby at_223) ?_
    show Steps p.tables e below (T293.setTop (mkF m 224 #[.val (.int p1), .val (.int p2), .val (.ref b1), .unset, .unset, .unset, .unset, .unset, .unset, .unset, .unset, .unset, .unset, .unset] [(.int (0 : Int32)), (.int (8 : Int32)), (.ref b212), (.ref b212)])) _
    refine st300 _ ?_
    show Steps p.tables e below (T300.setTop (mkF m 225 #[.val (.int p1), .val (.int p2), .val (.ref b1), .unset, .unset, .unset, .unset, .unset, .unset, .unset, .unset, .unset, .unset, .unset] [(.ref b212)])) _
    refine XS.dup X300.here hx rfl (hb hby at_225) rfl rfl ?_
    show Steps p.tables e below (T300.setTop (mkF m 226 #[.val (.int p1), .val (.int p2), .val (.ref b1), .unset, .unset, .unset, .unset, .unset, .unset, .unset, .unset, .unset, .unset, .unset] [(.ref b212), (.ref b212)])) _
    refine XS.bipush X300.here hx rfl (hb hby at_226) ?_
    show Steps p.tables e below (T300.setTop (mkF m 228 #[.val (.int p1), .val (.int p2), .val (.ref b1), .unset, .unset, .unset, .unset, .unset, .unset, .unset, .unset, .unset, .unset, .unset] [(.int (9 : Int32)), (.ref b212), (.ref b212)])) _
    refine XS.iconst X300.here hx rfl (hb hby at_228) ?_
    show Steps p.tables e below (T300.setTop (mkF m 229 #[.val (.int p1), .val (.int p2), .val (.ref b1), .unset, .unset, .unset, .unset, .unset, .unset, .unset, .unset, .unset, .unset, .unset] [(.int (0 : Int32)), (.int (9 : Int32)), (.ref b212), (.ref b212)])) _
    refine st307 _ ?_
    show Steps p.tables e below (T307.setTop (mkF m 230 #[.val (.int p1), .val (.int p2), .val (.ref b1), .unset, .unset, .unset, .unset, .unset, .unset, .unset, .unset, .unset, .unset, .unset] [(.ref b212)])) _
    refine XS.dup X307.here hx rfl (hb hby at_230) rfl rfl ?_
    show Steps p.tables e below (T307.setTop (mkF m 231 #[.val (.int p1), .val (.int p2), .val (.ref b1), .unset, .unset, .unset, .unset, .unset, .unset, .unset, .unset, .unset, .unset, .unset] [(.ref b212), (.ref b212)])) _
    refine XS.bipush X307.here hx rfl (hb hby at_231) ?_
    show Steps p.tables e below (T307.setTop (mkF m 233 #[.val (.int p1), .val (.int p2), .val (.ref b1), .unset, .unset, .unset, .unset, .unset, .unset, .unset, .unset, .unset, .unset, .unset] [(.int (10 : Int32)), (.ref b212), (.ref b212)])) _
    refine XS.iconst X307.here hx rfl (hb hby at_233) ?_
    show Steps p.tables e below (T307.setTop (mkF m 234 #[.val (.int p1), .val (.int p2), .val (.ref b1), .unset, .unset, .unset, .unset, .unset, .unset, .unset, .unset, .unset, .unset, .unset] [(.int (0 : Int32)), (.int (10 : Int32)), (.ref b212), (.ref b212)])) _
    refine st314 _ ?_
    show Steps p.tables e below (T314.setTop (mkF m 235 #[.val (.int p1), .val (.int p2), .val (.ref b1), .unset, .unset, .unset, .unset, .unset, .unset, .unset, .unset, .unset, .unset, .unset] [(.ref b212)])) _
    refine XS.dup X314.here hx rfl (hb hby at_235) rfl rfl ?_
    show Steps p.tables e below (T314.setTop (mkF m 236 #[.val (.int p1), .val (.int p2), .val (.ref b1), .unset, .unset, .unset, .unset, .unset, .unset, .unset, .unset, .unset, .unset, .unset] [(.ref b212), (.ref b212)])) _
    refine XS.bipush X314.here hx rfl (hb hby at_236) ?_
    show Steps p.tables e below (T314.setTop (mkF m 238 #[.val (.int p1), .val (.int p2), .val (.ref b1), .unset, .unset, .unset, .unset, .unset, .unset, .unset, .unset, .unset, .unset, .unset] [(.int (11 : Int32)), (.ref b212), (.ref b212)])) _
    refine XS.iconst X314.here hx rfl (hb hby at_238) ?_
    show Steps p.tables e below (T314.setTop (mkF m 239 #[.val (.int p1), .val (.int p2), .val (.ref b1), .unset, .unset, .unset, .unset, .unset, .unset, .unset, .unset, .unset, .unset, .unset] [(.int (0 : Int32)), (.int (11 : Int32)), (.ref b212), (.ref b212)])) _
    refine st321 _ ?_
    show Steps p.tables e below (T321.setTop (mkF m 240 #[.val (.int p1), .val (.int p2), .val (.ref b1), .unset, .unset, .unset, .unset, .unset, .unset, .unset, .unset, .unset, .unset, .unset] [(.ref b212)])) _
    refine XS.dup X321.here hx rfl (hb hby at_240) rfl rfl ?_
    show Steps p.tables e below (T321.setTop (mkF m 241 #[.val (.int p1), .val (.int p2), .val (.ref b1), .unset, .unset, .unset, .unset, .unset, .unset, .unset, .unset, .unset, .unset, .unset] [(.ref b212), (.ref b212)])) _
    refine XS.bipush X321.here hx rfl (hb hby at_241) ?_
    show Steps p.tables e below (T321.setTop (mkF m 243 #[.val (.int p1), .val (.int p2), .val (.ref b1), .unset, .unset, .unset, .unset, .unset, .unset, .unset, .unset, .unset, .unset, .unset] [(.int (12 : Int32)), (.ref b212), (.ref b212)])) _
    refine XS.iconst X321.here hx rfl (hb hby at_243) ?_
    show Steps p.tables e below (T321.setTop (mkF m 244 #[.val (.int p1), .val (.int p2), .val (.ref b1), .unset, .unset, .unset, .unset, .unset, .unset, .unset, .unset, .unset, .unset, .unset] [(.int (0 : Int32)), (.int (12 : Int32)), (.ref b212), (.ref b212)])) _
    refine st328 _ ?_
    show Steps p.tables e below (T328.setTop (mkF m 245 #[.val (.int p1), .val (.int p2), .val (.ref b1), .unset, .unset, .unset, .unset, .unset, .unset, .unset, .unset, .unset, .unset, .unset] [(.ref b212)])) _
    refine XS.dup X328.here hx rfl (hb hby at_245) rfl rfl ?_
    show Steps p.tables e below (T328.setTop (mkF m 246 #[.val (.int p1), .val (.int p2), .val (.ref b1), .unset, .unset, .unset, .unset, .unset, .unset, .unset, .unset, .unset, .unset, .unset] [(.ref b212), (.ref b212)])) _
    refine XS.bipush X328.here hx rfl (hb hby at_246) ?_
    show Steps p.tables e below (T328.setTop (mkF m 248 #[.val (.int p1), .val (.int p2), .val (.ref b1), .unset, .unset, .unset, .unset, .unset, .unset, .unset, .unset, .unset, .unset, .unset] [(.int (13 : Int32)), (.ref b212), (.ref b212)])) _
    refine XS.iconst X328.here hx rfl (hb hby at_248) ?_
    show Steps p.tables e below (T328.setTop (mkF m 249 #[.val (.int p1), .val (.int p2), .val (.ref b1), .unset, .unset, .unset, .unset, .unset, .unset, .unset, .unset, .unset, .unset, .unset] [(.int (0 : Int32)), (.int (13 : Int32)), (.ref b212), (.ref b212)])) _
    refine st335 _ ?_
    show Steps p.tables e below (T335.setTop (mkF m 250 #[.val (.int p1), .val (.int p2), .val (.ref b1), .unset, .unset, .unset, .unset, .unset, .unset, .unset, .unset, .unset, .unset, .unset] [(.ref b212)])) _
    refine XS.dup X335.here hx rfl (hb hby at_250) rfl rfl ?_
    show Steps p.tables e below (T335.setTop (mkF m 251 #[.val (.int p1), .val (.int p2), .val (.ref b1), .unset, .unset, .unset, .unset, .unset, .unset, .unset, .unset, .unset, .unset, .unset] [(.ref b212), (.ref b212)])) _
    refine XS.bipush X335.here hx rfl (hb hby at_251) ?_
    show Steps p.tables e below (T335.setTop (mkF m 253 #[.val (.int p1), .val (.int p2), .val (.ref b1), .unset, .unset, .unset, .unset, .unset, .unset, .unset, .unset, .unset, .unset, .unset] [(.int (14 : Int32)), (.ref b212), (.ref b212)])) _
    refine XS.iconst X335.here hx rfl (hb hby at_253) ?_
    show Steps p.tables e below (T335.setTop (mkF m 254 #[.val (.int p1), .val (.int p2), .val (.ref b1), .unset, .unset, .unset, .unset, .unset, .unset, .unset, .unset, .unset, .unset, .unset] [(.int (0 : Int32)), (.int (14 : Int32)), (.ref b212), (.ref b212)])) _
    refine st342 _ ?_
    show Steps p.tables e below (T342.setTop (mkF m 255 #[.val (.int p1), .val (.int p2), .val (.ref b1), .unset, .unset, .unset, .unset, .unset, .unset, .unset, .unset, .unset, .unset, .unset] [(.ref b212)])) _
    refine XS.dup X342.here hx rfl (hb hby at_255) rfl rfl ?_
    show Steps p.tables e below (T342.setTop (mkF m 256 #[.val (.int p1), .val (.int p2), .val (.ref b1), .unset, .unset, .unset, .unset, .unset, .unset, .unset, .unset, .unset, .unset, .unset] [(.ref b212), (.ref b212)])) _
    refine XS.bipush X342.here hx rfl (hb hby at_256) ?_
    show Steps p.tables e below (T342.setTop (mkF m 258 #[.val (.int p1), .val (.int p2), .val (.ref b1), .unset, .unset, .unset, .unset, .unset, .unset, .unset, .unset, .unset, .unset, .unset] [(.int (15 : Int32)), (.ref b212), (.ref b212)])) _
    refine XS.iconst X342.here hx rfl (hb hby at_258) ?_
    show Steps p.tables e below (T342.setTop (mkF m 259 #[.val (.int p1), .val (.int p2), .val (.ref b1), .unset, .unset, .unset, .unset, .unset, .unset, .unset, .unset, .unset, .unset, .unset] [(.int (0 : Int32)), (.int (15 : Int32)), (.ref b212), (.ref b212)])) _
    refine st349 _ ?_
    show Steps p.tables e below (T349.setTop (mkF m 260 #[.val (.int p1), .val (.int p2), .val (.ref b1), .unset, .unset, .unset, .unset, .unset, .unset, .unset, .unset, .unset, .unset, .unset] [(.ref b212)])) _
    refine XS.dup X349.here hx rfl (hb hby at_260) rfl rfl ?_
    show Steps p.tables e below (T349.setTop (mkF m 261 #[.val (.int p1), .val (.int p2), .val (.ref b1), .unset, .unset, .unset, .unset, .unset, .unset, .unset, .unset, .unset, .unset, .unset] [(.ref b212), (.ref b212)])) _
    refine XS.bipush X349.here hx rfl (hb hby at_261) ?_
    show Steps p.tables e below (T349.setTop (mkF m 263 #[.val (.int p1), .val (.int p2), .val (.ref b1), .unset, .unset, .unset, .unset, .unset, .unset, .unset, .unset, .unset, .unset, .unset] [(.int (16 : Int32)), (.ref b212), (.ref b212)])) _
    refine XS.iconst X349.here hx rfl (hb hby at_263) ?_
    show Steps p.tables e below (T349.setTop (mkF m 264 #[.val (.int p1), .val (.int p2), .val (.ref b1), .unset, .unset, .unset, .unset, .unset, .unset, .unset, .unset, .unset, .unset, .unset] [(.int (0 : Int32)), (.int (16 : Int32)), (.ref b212), (.ref b212)])) _
    refine st356 _ ?_
    show Steps p.tables e below (T356.setTop (mkF m 265 #[.val (.int p1), .val (.int p2), .val (.ref b1), .unset, .unset, .unset, .unset, .unset, .unset, .unset, .unset, .unset, .unset, .unset] [(.ref b212)])) _
    refine XS.dup X356.here hx rfl (hb hby at_265) rfl rfl ?_
    show Steps p.tables e below (T356.setTop (mkF m 266 #[.val (.int p1), .val (.int p2), .val (.ref b1), .unset, .unset, .unset, .unset, .unset, .unset, .unset, .unset, .unset, .unset, .unset] [(.ref b212), (.ref b212)])) _
    refine XS.bipush X356.here hx rfl (hb hby at_266) ?_
    show Steps p.tables e below (T356.setTop (mkF m 268 #[.val (.int p1), .val (.int p2), .val (.ref b1), .unset, .unset, .unset, .unset, .unset, .unset, .unset, .unset, .unset, .unset, .unset] [(.int (17 : Int32)), (.ref b212), (.ref b212)])) _
    refine XS.iconst X356.here hx rfl (hb hby at_268) ?_
    show Steps p.tables e below (T356.setTop (mkF m 269 #[.val (.int p1), .val (.int p2), .val (.ref b1), .unset, .unset, .unset, .unset, .unset, .unset, .unset, .unset, .unset, .unset, .unset] [(.int (0 : Int32)), (.int (17 : Int32)), (.ref b212), (.ref b212)])) _
    refine st363 _ ?_
    show Steps p.tables e below (T363.setTop (mkF m 270 #[.val (.int p1), .val (.int p2), .val (.ref b1), .unset, .unset, .unset, .unset, .unset, .unset, .unset, .unset, .unset, .unset, .unset] [(.ref b212)])) _
    refine XS.dup X363.here hx rfl (hb hby at_270) rfl rfl ?_
    show Steps p.tables e below (T363.setTop (mkF m 271 #[.val (.int p1), .val (.int p2), .val (.ref b1), .unset, .unset, .unset, .unset, .unset, .unset, .unset, .unset, .unset, .unset, .unset] [(.ref b212), (.ref b212)])) _
    refine XS.bipush X363.here hx rfl (hb hby at_271) ?_
    show Steps p.tables e below (T363.setTop (mkF m 273 #[.val (.int p1), .val (.int p2), .val (.ref b1), .unset, .unset, .unset, .unset, .unset, .unset, .unset, .unset, .unset, .unset, .unset] [(.int (18 : Int32)), (.ref b212), (.ref b212)])) _
    refine XS.iconst X363.here hx rfl (hb hby at_273) ?_
    show Steps p.tables e below (T363.setTop (mkF m 274 #[.val (.int p1), .val (.int p2), .val (.ref b1), .unset, .unset, .unset, .unset, .unset, .unset, .unset, .unset, .unset, .unset, .unset] [(.int (0 : Int32)), (.int (18 : Int32)), (.ref b212), (.ref b212)])) _
    refine st370 _ ?_
    show Steps p.tables e below (T370.setTop (mkF m 275 #[.val (.int p1), .val (.int p2), .val (.ref b1), .unset, .unset, .unset, .unset, .unset, .unset, .unset, .unset, .unset, .unset, .unset] [(.ref b212)])) _
    refine XS.dup X370.here hx rfl (hb hby at_275) rfl rfl ?_
    show Steps p.tables e below (T370.setTop (mkF m 276 #[.val (.int p1), .val (.int p2), .val (.ref b1), .unset, .unset, .unset, .unset, .unset, .unset, .unset, .unset, .unset, .unset, .unset] [(.ref b212), (.ref b212)])) _
    refine XS.bipush X370.here hx rfl (hb hby at_276) ?_
    show Steps p.tables e below (T370.setTop (mkF m 278 #[.val (.int p1), .val (.int p2), .val (.ref b1), .unset, .unset, .unset, .unset, .unset, .unset, .unset, .unset, .unset, .unset, .unset] [(.int (19 : Int32)), (.ref b212), (.ref b212)])) _
    refine XS.iconst X370.here hx rfl (hb hby at_278) ?_
    show Steps p.tables e below (T370.setTop (mkF m 279 #[.val (.int p1), .val (.int p2), .val (.ref b1), .unset, .unset, .unset, .unset, .unset, .unset, .unset, .unset, .unset, .unset, .unset] [(.int (0 : Int32)), (.int (19 : Int32)), (.ref b212), (.ref b212)])) _
    refine st377 _ ?_
    show Steps p.tables e below (T377.setTop (mkF m 280 #[.val (.int p1), .val (.int p2), .val (.ref b1), .unset, .unset, .unset, .unset, .unset, .unset, .unset, .unset, .unset, .unset, .unset] [(.ref b212)])) _
    refine XS.dup X377.here hx rfl (hb hby at_280) rfl rfl ?_
    show Steps p.tables e below (T377.setTop (mkF m 281 #[.val (.int p1), .val (.int p2), .val (.ref b1), .unset, .unset, .unset, .unset, .unset, .unset, .unset, .unset, .unset, .unset, .unset] [(.ref b212), (.ref b212)])) _
    refine XS.bipush X377.here hx rfl (hb hby at_281) ?_
    show Steps p.tables e below (T377.setTop (mkF m 283 #[.val (.int p1), .val (.int p2), .val (.ref b1), .unset, .unset, .unset, .unset, .unset, .unset, .unset, .unset, .unset, .unset, .unset] [(.int (20 : Int32)), (.ref b212), (.ref b212)])) _
    refine XS.iconst X377.here hx rfl (hb hby at_283) ?_
    show Steps p.tables e below (T377.setTop (mkF m 284 #[.val (.int p1), .val (.int p2), .val (.ref b1), .unset, .unset, .unset, .unset, .unset, .unset, .unset, .unset, .unset, .unset, .unset] [(.int (0 : Int32)), (.int (20 : Int32)), (.ref b212), (.ref b212)])) _
    refine st384 _ ?_
    show Steps p.tables e below (T384.setTop (mkF m 285 #[.val (.int p1), .val (.int p2), .val (.ref b1), .unset, .unset, .unset, .unset, .unset, .unset, .unset, .unset, .unset, .unset, .unset] [(.ref b212)])) _
    refine XS.dup X384.here hx rfl (hb hby at_285) rfl rfl ?_
    show Steps p.tables e below (T384.setTop (mkF m 286 #[.val (.int p1), .val (.int p2), .val (.ref b1), .unset, .unset, .unset, .unset, .unset, .unset, .unset, .unset, .unset, .unset, .unset] [(.ref b212), (.ref b212)])) _
    refine XS.bipush X384.here hx rfl (hb hby at_286) ?_
    show Steps p.tables e below (T384.setTop (mkF m 288 #[.val (.int p1), .val (.int p2), .val (.ref b1), .unset, .unset, .unset, .unset, .unset, .unset, .unset, .unset, .unset, .unset, .unset] [(.int (21 : Int32)), (.ref b212), (.ref b212)])) _
    refine XS.iconst X384.here hx rfl (hb hby at_288) ?_
    show Steps p.tables e below (T384.setTop (mkF m 289 #[.val (.int p1), .val (.int p2), .val (.ref b1), .unset, .unset, .unset, .unset, .unset, .unset, .unset, .unset, .unset, .unset, .unset] [(.int (0 : Int32)), (.int (21 : Int32)), (.ref b212), (.ref b212)])) _
    refine st391 _ ?_
    show Steps p.tables e below (T391.setTop (mkF m 290 #[.val (.int p1), .val (.int p2), .val (.ref b1), .unset, .unset, .unset, .unset, .unset, .unset, .unset, .unset, .unset, .unset, .unset] [(.ref b212)])) _
    refine XS.dup X391.here hx rfl (hb hby at_290) rfl rfl ?_
    show Steps p.tables e below (T391.setTop (mkF m 291 #[.val (.int p1), .val (.int p2), .val (.ref b1), .unset, .unset, .unset, .unset, .unset, .unset, .unset, .unset, .unset, .unset, .unset] [(.ref b212), (.ref b212)])) _
    refine XS.bipush X391.here hx rfl (hb hby at_291) ?_
    show Steps p.tables e below (T391.setTop (mkF m 293 #[.val (.int p1), .val (.int p2), .val (.ref b1), .unset, .unset, .unset, .unset, .unset, .unset, .unset, .unset, .unset, .unset, .unset] [(.int (22 : Int32)), (.ref b212), (.ref b212)])) _
    refine XS.iconst X391.here hx rfl (hb hby at_293) ?_
    show Steps p.tables e below (T391.setTop (mkF m 294 #[.val (.int p1), .val (.int p2), .val (.ref b1), .unset, .unset, .unset, .unset, .unset, .unset, .unset, .unset, .unset, .unset, .unset] [(.int (0 : Int32)), (.int (22 : Int32)), (.ref b212), (.ref b212)])) _
    refine st398 _ ?_
    show Steps p.tables e below (T398.setTop (mkF m 295 #[.val (.int p1), .val (.int p2), .val (.ref b1), .unset, .unset, .unset, .unset, .unset, .unset, .unset, .unset, .unset, .unset, .unset] [(.ref b212)])) _
    refine XS.dup X398.here hx rfl (hb hby at_295) rfl rfl ?_
    show Steps p.tables e below (T398.setTop (mkF m 296 #[.val (.int p1), .val (.int p2), .val (.ref b1), .unset, .unset, .unset, .unset, .unset, .unset, .unset, .unset, .unset, .unset, .unset] [(.ref b212), (.ref b212)])) _
    refine XS.bipush X398.here hx rfl (hb hby at_296) ?_
    show Steps p.tables e below (T398.setTop (mkF m 298 #[.val (.int p1), .val (.int p2), .val (.ref b1), .unset, .unset, .unset, .unset, .unset, .unset, .unset, .unset, .unset, .unset, .unset] [(.int (23 : Int32)), (.ref b212), (.ref b212)])) _
    refine XS.iconst X398.here hx rfl (hb hby at_298) ?_
    show Steps p.tables e below (T398.setTop (mkF m 299 #[.val (.int p1), .val (.int p2), .val (.ref b1), .unset, .unset, .unset, .unset, .unset, .unset, .unset, .unset, .unset, .unset, .unset] [(.int (0 : Int32)), (.int (23 : Int32)), (.ref b212), (.ref b212)])) _
    refine st405 _ ?_
    show Steps p.tables e below (T405.setTop (mkF m 300 #[.val (.int p1), .val (.int p2), .val (.ref b1), .unset, .unset, .unset, .unset, .unset, .unset, .unset, .unset, .unset, .unset, .unset] [(.ref b212)])) _
    refine XS.dup X405.here hx rfl (hb hby at_300) rfl rfl ?_
    show Steps p.tables e below (T405.setTop (mkF m 301 #[.val (.int p1), .val (.int p2), .val (.ref b1), .unset, .unset, .unset, .unset, .unset, .unset, .unset, .unset, .unset, .unset, .unset] [(.ref b212), (.ref b212)])) _
    refine XS.bipush X405.here hx rfl (hb hby at_301) ?_
    show Steps p.tables e below (T405.setTop (mkF m 303 #[.val (.int p1), .val (.int p2), .val (.ref b1), .unset, .unset, .unset, .unset, .unset, .unset, .unset, .unset, .unset, .unset, .unset] [(.int (24 : Int32)), (.ref b212), (.ref b212)])) _
    refine XS.iconst X405.here hx rfl (hb hby at_303) ?_
    show Steps p.tables e below (T405.setTop (mkF m 304 #[.val (.int p1), .val (.int p2), .val (.ref b1), .unset, .unset, .unset, .unset, .unset, .unset, .unset, .unset, .unset, .unset, .unset] [(.int (0 : Int32)), (.int (24 : Int32)), (.ref b212), (.ref b212)])) _
    refine st412 _ ?_
    show Steps p.tables e below (T412.setTop (mkF m 305 #[.val (.int p1), .val (.int p2), .val (.ref b1), .unset, .unset, .unset, .unset, .unset, .unset, .unset, .unset, .unset, .unset, .unset] [(.ref b212)])) _
    refine XS.dup X412.here hx rfl (hb hby at_305) rfl rfl ?_
    show Steps p.tables e below (T412.setTop (mkF m 306 #[.val (.int p1), .val (.int p2), .val (.ref b1), .unset, .unset, .unset, .unset, .unset, .unset, .unset, .unset, .unset, .unset, .unset] [(.ref b212), (.ref b212)])) _
    refine XS.bipush X412.here hx rfl (hb hby at_306) ?_
    show Steps p.tables e below (T412.setTop (mkF m 308 #[.val (.int p1), .val (.int p2), .val (.ref b1), .unset, .unset, .unset, .unset, .unset, .unset, .unset, .unset, .unset, .unset, .unset] [(.int (25 : Int32)), (.ref b212), (.ref b212)])) _
    refine XS.iconst X412.here hx rfl (hb hby at_308) ?_
    show Steps p.tables e below (T412.setTop (mkF m 309 #[.val (.int p1), .val (.int p2), .val (.ref b1), .unset, .unset, .unset, .unset, .unset, .unset, .unset, .unset, .unset, .unset, .unset] [(.int (0 : Int32)), (.int (25 : Int32)), (.ref b212), (.ref b212)])) _
    refine st419 _ ?_
    show Steps p.tables e below (T419.setTop (mkF m 310 #[.val (.int p1), .val (.int p2), .val (.ref b1), .unset, .unset, .unset, .unset, .unset, .unset, .unset, .unset, .unset, .unset, .unset] [(.ref b212)])) _
    refine XS.astoreN X419.here hx rfl (hb hby at_310) rfl rfl (l' := #[.val (.int p1), .val (.int p2), .val (.ref b1), .val (.ref b212), .unset, .unset, .unset, .unset, .unset, .unset, .unset, .unset, .unset, .unset]) rfl ?_
    show Steps p.tables e below (T419.setTop (mkF m 311 #[.val (.int p1), .val (.int p2), .val (.ref b1), .val (.ref b212), .unset, .unset, .unset, .unset, .unset, .unset, .unset, .unset, .unset, .unset] [])) _
    refine XS.bipush X419.here hx rfl (hb hby at_311) ?_
    show Steps p.tables e below (T419.setTop (mkF m 313 #[.val (.int p1), .val (.int p2), .val (.ref b1), .val (.ref b212), .unset, .unset, .unset, .unset, .unset, .unset, .unset, .unset, .unset, .unset] [(.int (26 : Int32))])) _
    refine st425 _ ?_
    show Steps p.tables e below (T425.setTop (mkF m 315 #[.val (.int p1), .val (.int p2), .val (.ref b1), .val (.ref b212), .unset, .unset, .unset, .unset, .unset, .unset, .unset, .unset, .unset, .unset] [(.ref b425)])) _
    refine XS.dup X425.here hx rfl (hb hby at_315) rfl rfl ?_
    show Steps p.tables e below (T425.setTop (mkF m 316 #[.val (.int p1), .val (.int p2), .val (.ref b1), .val (.ref b212), .unset, .unset, .unset, .unset, .unset, .unset, .unset, .unset, .unset, .unset] [(.ref b425), (.ref b425)])) _
    refine XS.iconst X425.here hx rfl (hb hby at_316) ?_
    show Steps p.tables e below (T425.setTop (mkF m 317 #[.val (.int p1), .val (.int p2), .val (.ref b1), .val (.ref b212), .unset, .unset, .unset, .unset, .unset, .unset, .unset, .unset, .unset, .unset] [(.int (0 : Int32)), (.ref b425), (.ref b425)])) _
    refine XS.bipush X425.here hx rfl (hb hby at_317) ?_
    show Steps p.tables e below (T425.setTop (mkF m 319 #[.val (.int p1), .val (.int p2), .val (.ref b1), .val (.ref b212), .unset, .unset, .unset, .unset, .unset, .unset, .unset, .unset, .unset, .unset] [(.int (7 : Int32)), (.int (0 : Int32)), (.ref b425), (.ref b425)])) _
    refine st459 _ ?_
    show Steps p.tables e below (T459.setTop (mkF m 320 #[.val (.int p1), .val (.int p2), .val (.ref b1), .val (.ref b212), .unset, .unset, .unset, .unset, .unset, .unset, .unset, .unset, .unset, .unset] [(.ref b425)])) _
    refine XS.dup X459.here hx rfl (hb hby at_320) rfl rfl ?_
    show Steps p.tables e below (T459.setTop (mkF m 321 #[.val (.int p1), .val (.int p2), .val (.ref b1), .val (.ref b212), .unset, .unset, .unset, .unset, .unset, .unset, .unset, .unset, .unset, .unset] [(.ref b425), (.ref b425)])) _
    refine XS.iconst X459.here hx rfl (hb hby at_321) ?_
    show Steps p.tables e below (T459.setTop (mkF m 322 #[.val (.int p1), .val (.int p2), .val (.ref b1), .val (.ref b212), .unset, .unset, .unset, .unset, .unset, .unset, .unset, .unset, .unset, .unset] [(.int (1 : Int32)), (.ref b425), (.ref b425)])) _
    refine XS.bipush X459.here hx rfl (hb hby at_322) ?_
    show Steps p.tables e below (T459.setTop (mkF m 324 #[.val (.int p1), .val (.int p2), .val (.ref b1), .val (.ref b212), .unset, .unset, .unset, .unset, .unset, .unset, .unset, .unset, .unset, .unset] [(.int (11 : Int32)), (.int (1 : Int32)), (.ref b425), (.ref b425)])) _
    refine st467 _ ?_
    show Steps p.tables e below (T467.setTop (mkF m 325 #[.val (.int p1), .val (.int p2), .val (.ref b1), .val (.ref b212), .unset, .unset, .unset, .unset, .unset, .unset, .unset, .unset, .unset, .unset] [(.ref b425)])) _
    refine XS.dup X467.here hx rfl (hb hby at_325) rfl rfl ?_
    show Steps p.tables e below (T467.setTop (mkF m 326 #[.val (.int p1), .val (.int p2), .val (.ref b1), .val (.ref b212), .unset, .unset, .unset, .unset, .unset, .unset, .unset, .unset, .unset, .unset] [(.ref b425), (.ref b425)])) _
    refine XS.iconst X467.here hx rfl (hb hby at_326) ?_
    show Steps p.tables e below (T467.setTop (mkF m 327 #[.val (.int p1), .val (.int p2), .val (.ref b1), .val (.ref b212), .unset, .unset, .unset, .unset, .unset, .unset, .unset, .unset, .unset, .unset] [(.int (2 : Int32)), (.ref b425), (.ref b425)])) _
    refine XS.iconst X467.here hx rfl (hb hby at_327) ?_
    show Steps p.tables e below (T467.setTop (mkF m 328 #[.val (.int p1), .val (.int p2), .val (.ref b1), .val (.ref b212), .unset, .unset, .unset, .unset, .unset, .unset, .unset, .unset, .unset, .unset] [(.int (2 : Int32)), (.int (2 : Int32)), (.ref b425), (.ref b425)])) _
    refine st475 _ ?_
    show Steps p.tables e below (T475.setTop (mkF m 329 #[.val (.int p1), .val (.int p2), .val (.ref b1), .val (.ref b212), .unset, .unset, .unset, .unset, .unset, .unset, .unset, .unset, .unset, .unset] [(.ref b425)])) _
    refine XS.dup X475.here hx rfl (hb hby at_329) rfl rfl ?_
    show Steps p.tables e below (T475.setTop (mkF m 330 #[.val (.int p1), .val (.int p2), .val (.ref b1), .val (.ref b212), .unset, .unset, .unset, .unset, .unset, .unset, .unset, .unset, .unset, .unset] [(.ref b425), (.ref b425)])) _
    refine XS.iconst X475.here hx rfl (hb hby at_330) ?_
    show Steps p.tables e below (T475.setTop (mkF m 331 #[.val (.int p1), .val (.int p2), .val (.ref b1), .val (.ref b212), .unset, .unset, .unset, .unset, .unset, .unset, .unset, .unset, .unset, .unset] [(.int (3 : Int32)), (.ref b425), (.ref b425)])) _
    refine XS.iconst X475.here hx rfl (hb hby at_331) ?_
    show Steps p.tables e below (T475.setTop (mkF m 332 #[.val (.int p1), .val (.int p2), .val (.ref b1), .val (.ref b212), .unset, .unset, .unset, .unset, .unset, .unset, .unset, .unset, .unset, .unset] [(.int (4 : Int32)), (.int (3 : Int32)), (.ref b425), (.ref b425)])) _
    refine st483 _ ?_
    show Steps p.tables e below (T483.setTop (mkF m 333 #[.val (.int p1), .val (.int p2), .val (.ref b1), .val (.ref b212), .unset, .unset, .unset, .unset, .unset, .unset, .unset, .unset, .unset, .unset] [(.ref b425)])) _
    refine XS.dup X483.here hx rfl (hb hby at_333) rfl rfl ?_
    show Steps p.tables e below (T483.setTop (mkF m 334 #[.val (.int p1), .val (.int p2), .val (.ref b1), .val (.ref b212), .unset, .unset, .unset, .unset, .unset, .unset, .unset, .unset, .unset, .unset] [(.ref b425), (.ref b425)])) _
    refine XS.iconst X483.here hx rfl (hb hby at_334) ?_
    show Steps p.tables e below (T483.setTop (mkF m 335 #[.val (.int p1), .val (.int p2), .val (.ref b1), .val (.ref b212), .unset, .unset, .unset, .unset, .unset, .unset, .unset, .unset, .unset, .unset] [(.int (4 : Int32)), (.ref b425), (.ref b425)])) _
    refine XS.bipush X483.here hx rfl (hb hby at_335) ?_
    show Steps p.tables e below (T483.setTop (mkF m 337 #[.val (.int p1), .val (.int p2), .val (.ref b1), .val (.ref b212), .unset, .unset, .unset, .unset, .unset, .unset, .unset, .unset, .unset, .unset] [(.int (7 : Int32)), (.int (4 : Int32)), (.ref b425), (.ref b425)])) _
    refine st491 _ ?_
    show Steps p.tables e below (T491.setTop (mkF m 338 #[.val (.int p1), .val (.int p2), .val (.ref b1), .val (.ref b212), .unset, .unset, .unset, .unset, .unset, .unset, .unset, .unset, .unset, .unset] [(.ref b425)])) _
    refine XS.dup X491.here hx rfl (hb hby at_338) rfl rfl ?_
    show Steps p.tables e below (T491.setTop (mkF m 339 #[.val (.int p1), .val (.int p2), .val (.ref b1), .val (.ref b212), .unset, .unset, .unset, .unset, .unset, .unset, .unset, .unset, .unset, .unset] [(.ref b425), (.ref b425)])) _
    refine XS.iconst X491.here hx rfl (hb hby at_339) ?_
    show Steps p.tables e below (T491.setTop (mkF m 340 #[.val (.int p1), .val (.int p2), .val (.ref b1), .val (.ref b212), .unset, .unset, .unset, .unset, .unset, .unset, .unset, .unset, .unset, .unset] [(.int (5 : Int32)), (.ref b425), (.ref b425)])) _
    refine XS.bipush X491.here hx rfl (hb hby at_340) ?_
    show Steps p.tables e below (T491.setTop (mkF m 342 #[.val (.int p1), .val (.int p2), .val (.ref b1), .val (.ref b212), .unset, .unset, .unset, .unset, .unset, .unset, .unset, .unset, .unset, .unset] [(.int (7 : Int32)), (.int (5 : Int32)), (.ref b425), (.ref b425)])) _
    refine st499 _ ?_
    show Steps p.tables e below (T499.setTop (mkF m 343 #[.val (.int p1), .val (.int p2), .val (.ref b1), .val (.ref b212), .unset, .unset, .unset, .unset, .unset, .unset, .unset, .unset, .unset, .unset] [(.ref b425)])) _
    refine XS.dup X499.here hx rfl (hb hby at_343) rfl rfl ?_
    show Steps p.tables e below (T499.setTop (mkF m 344 #[.val (.int p1), .val (.int p2), .val (.ref b1), .val (.ref b212), .unset, .unset, .unset, .unset, .unset, .unset, .unset, .unset, .unset, .unset] [(.ref b425), (.ref b425)])) _
    refine XS.bipush X499.here hx rfl (hb hby at_344) ?_
    show Steps p.tables e below (T499.setTop (mkF m 346 #[.val (.int p1), .val (.int p2), .val (.ref b1), .val (.ref b212), .unset, .unset, .unset, .unset, .unset, .unset, .unset, .unset, .unset, .unset] [(.int (6 : Int32)), (.ref b425), (.ref b425)])) _
    refine XS.iconst X499.here hx rfl (hb hby at_346) ?_
    show Steps p.tables e below (T499.setTop (mkF m 347 #[.val (.int p1), .val (.int p2), .val (.ref b1), .val (.ref b212), .unset, .unset, .unset, .unset, .unset, .unset, .unset, .unset, .unset, .unset] [(.int (2 : Int32)), (.int (6 : Int32)), (.ref b425), (.ref b425)])) _
    refine st507 _ ?_
    show Steps p.tables e below (T507.setTop (mkF m 348 #[.val (.int p1), .val (.int p2), .val (.ref b1), .val (.ref b212), .unset, .unset, .unset, .unset, .unset, .unset, .unset, .unset, .unset, .unset] [(.ref b425)])) _
    refine XS.dup X507.here hx rfl (hb hby at_348) rfl rfl ?_
    show Steps p.tables e below (T507.setTop (mkF m 349 #[.val (.int p1), .val (.int p2), .val (.ref b1), .val (.ref b212), .unset, .unset, .unset, .unset, .unset, .unset, .unset, .unset, .unset, .unset] [(.ref b425), (.ref b425)])) _
    refine XS.bipush X507.here hx rfl (hb hby at_349) ?_
    show Steps p.tables e below (T507.setTop (mkF m 351 #[.val (.int p1), .val (.int p2), .val (.ref b1), .val (.ref b212), .unset, .unset, .unset, .unset, .unset, .unset, .unset, .unset, .unset, .unset] [(.int (7 : Int32)), (.ref b425), (.ref b425)])) _
    refine XS.iconst X507.here hx rfl (hb hby at_351) ?_
    show Steps p.tables e below (T507.setTop (mkF m 352 #[.val (.int p1), .val (.int p2), .val (.ref b1), .val (.ref b212), .unset, .unset, .unset, .unset, .unset, .unset, .unset, .unset, .unset, .unset] [(.int (5 : Int32)), (.int (7 : Int32)), (.ref b425), (.ref b425)])) _
    refine st515 _ ?_
    show Steps p.tables e below (T515.setTop (mkF m 353 #[.val (.int p1), .val (.int p2), .val (.ref b1), .val (.ref b212), .unset, .unset, .unset, .unset, .unset, .unset, .unset, .unset, .unset, .unset] [(.ref b425)])) _
    refine XS.dup X515.here hx rfl (hb hby at_353) rfl rfl ?_
    show Steps p.tables e below (T515.setTop (mkF m 354 #[.val (.int p1), .val (.int p2), .val (.ref b1), .val (.ref b212), .unset, .unset, .unset, .unset, .unset, .unset, .unset, .unset, .unset, .unset] [(.ref b425), (.ref b425)])) _
    refine XS.bipush X515.here hx rfl (hb hby at_354) ?_
    show Steps p.tables e below (T515.setTop (mkF m 356 #[.val (.int p1), .val (.int p2), .val (.ref b1), .val (.ref b212), .unset, .unset, .unset, .unset, .unset, .unset, .unset, .unset, .unset, .unset] [(.int (8 : Int32)), (.ref b425), (.ref b425)])) _
    refine XS.iconst X515.here hx rfl (hb hby at_356) ?_
    show Steps p.tables e below (T515.setTop (mkF m 357 #[.val (.int p1), .val (.int p2), .val (.ref b1), .val (.ref b212), .unset, .unset, .unset, .unset, .unset, .unset, .unset, .unset, .unset, .unset] [(.int (3 : Int32)), (.int (8 : Int32)), (.ref b425), (.ref b425)])) _
    refine st523 _ ?_
    show Steps p.tables e below (T523.setTop (mkF m 358 #[.val (.int p1), .val (.int p2), .val (.ref b1), .val (.ref b212), .unset, .unset, .unset, .unset, .unset, .unset, .unset, .unset, .unset, .unset] [(.ref b425)])) _
    refine XS.dup X523.here hx rfl (hb hby at_358) rfl rfl ?_
    show Steps p.tables e below (T523.setTop (mkF m 359 #[.val (.int p1), .val (.int p2), .val (.ref b1), .val (.ref b212), .unset, .unset, .unset, .unset, .unset, .unset, .unset, .unset, .unset, .unset] [(.ref b425), (.ref b425)])) _
    refine XS.bipush X523.here hx rfl (hb hby at_359) ?_
    show Steps p.tables e below (T523.setTop (mkF m 361 #[.val (.int p1), .val (.int p2), .val (.ref b1), .val (.ref b212), .unset, .unset, .unset, .unset, .unset, .unset, .unset, .unset, .unset, .unset] [(.int (9 : Int32)), (.ref b425), (.ref b425)])) _
    refine XS.iconst X523.here hx rfl (hb hby at_361) ?_
    show Steps p.tables e below (T523.setTop (mkF m 362 #[.val (.int p1), .val (.int p2), .val (.ref b1), .val (.ref b212), .unset, .unset, .unset, .unset, .unset, .unset, .unset, .unset, .unset, .unset] [(.int (3 : Int32)), (.int (9 : Int32)), (.ref b425), (.ref b425)])) _
    refine st531 _ ?_
    show Steps p.tables e below (T531.setTop (mkF m 363 #[.val (.int p1), .val (.int p2), .val (.ref b1), .val (.ref b212), .unset, .unset, .unset, .unset, .unset, .unset, .unset, .unset, .unset, .unset] [(.ref b425)])) _
    refine XS.dup X531.here hx rfl (hb hby at_363) rfl rfl ?_
    show Steps p.tables e below (T531.setTop (mkF m 364 #[.val (.int p1), .val (.int p2), .val (.ref b1), .val (.ref b212), .unset, .unset, .unset, .unset, .unset, .unset, .unset, .unset, .unset, .unset] [(.ref b425), (.ref b425)])) _
    refine XS.bipush X531.here hx rfl (hb hby at_364) ?_
    show Steps p.tables e below (T531.setTop (mkF m 366 #[.val (.int p1), .val (.int p2), .val (.ref b1), .val (.ref b212), .unset, .unset, .unset, .unset, .unset, .unset, .unset, .unset, .unset, .unset] [(.int (10 : Int32)), (.ref b425), (.ref b425)])) _
    refine XS.iconst X531.here hx rfl (hb hby at_366) ?_
    show Steps p.tables e below (T531.setTop (mkF m 367 #[.val (.int p1), .val (.int p2), .val (.ref b1), .val (.ref b212), .unset, .unset, .unset, .unset, .unset, .unset, .unset, .unset, .unset, .unset] [(.int (3 : Int32)), (.int (10 : Int32)), (.ref b425), (.ref b425)])) _
    refine st539 _ ?_
    show Steps p.tables e below (T539.setTop (mkF m 368 #[.val (.int p1), .val (.int p2), .val (.ref b1), .val (.ref b212), .unset, .unset, .unset, .unset, .unset, .unset, .unset, .unset, .unset, .unset] [(.ref b425)])) _
    refine XS.dup X539.here hx rfl (hb hby at_368) rfl rfl ?_
    show Steps p.tables e below (T539.setTop (mkF m 369 #[.val (.int p1), .val (.int p2), .val (.ref b1), .val (.ref b212), .unset, .unset, .unset, .unset, .unset, .unset, .unset, .unset, .unset, .unset] [(.ref b425), (.ref b425)])) _
    refine XS.bipush X539.here hx rfl (hb hby at_369) ?_
    show Steps p.tables e below (T539.setTop (mkF m 371 #[.val (.int p1), .val (.int p2), .val (.ref b1), .val (.ref b212), .unset, .unset, .unset, .unset, .unset, .unset, .unset, .unset, .unset, .unset] [(.int (11 : Int32)), (.ref b425), (.ref b425)])) _
    refine XS.iconst X539.here hx rfl (hb hby at_371) ?_
    show Steps p.tables e below (T539.setTop (mkF m 372 #[.val (.int p1), .val (.int p2), .val (.ref b1), .val (.ref b212), .unset, .unset, .unset, .unset, .unset, .unset, .unset, .unset, .unset, .unset] [(.int (3 : Int32)), (.int (11 : Int32)), (.ref b425), (.ref b425)])) _
    refine st547 _ ?_
    show Steps p.tables e below (T547.setTop (mkF m 373 #[.val (.int p1), .val (.int p2), .val (.ref b1), .val (.ref b212), .unset, .unset, .unset, .unset, .unset, .unset, .unset, .unset, .unset, .unset] [(.ref b425)])) _
    refine XS.dup X547.here hx rfl (hb hby at_373) rfl rfl ?_
    show Steps p.tables e below (T547.setTop (mkF m 374 #[.val (.int p1), .val (.int p2), .val (.ref b1), .val (.ref b212), .unset, .unset, .unset, .unset, .unset, .unset, .unset, .unset, .unset, .unset] [(.ref b425), (.ref b425)])) _
    refine XS.bipush X547.here hx rfl (hb hby at_374) ?_
    show Steps p.tables e below (T547.setTop (mkF m 376 #[.val (.int p1), .val (.int p2), .val (.ref b1), .val (.ref b212), .unset, .unset, .unset, .unset, .unset, .unset, .unset, .unset, .unset, .unset] [(.int (12 : Int32)), (.ref b425), (.ref b425)])) _
    refine XS.iconst X547.here hx rfl (hb hby at_376) ?_
    show Steps p.tables e below (T547.setTop (mkF m 377 #[.val (.int p1), .val (.int p2), .val (.ref b1), .val (.ref b212), .unset, .unset, .unset, .unset, .unset, .unset, .unset, .unset, .unset, .unset] [(.int (2 : Int32)), (.int (12 : Int32)), (.ref b425), (.ref b425)])) _
    refine st555 _ ?_
    show Steps p.tables e below (T555.setTop (mkF m 378 #[.val (.int p1), .val (.int p2), .val (.ref b1), .val (.ref b212), .unset, .unset, .unset, .unset, .unset, .unset, .unset, .unset, .unset, .unset] [(.ref b425)])) _
    refine XS.dup X555.here hx rfl (hb hby at_378) rfl rfl ?_
    show Steps p.tables e below (T555.setTop (mkF m 379 #[.val (.int p1), .val (.int p2), .val (.ref b1), .val (.ref b212), .unset, .unset, .unset, .unset, .unset, .unset, .unset, .unset, .unset, .unset] [(.ref b425), (.ref b425)])) _
    refine XS.bipush X555.here hx rfl (hb hby at_379) ?_
    show Steps p.tables e below (T555.setTop (mkF m 381 #[.val (.int p1), .val (.int p2), .val (.ref b1), .val (.ref b212), .unset, .unset, .unset, .unset, .unset, .unset, .unset, .unset, .unset, .unset] [(.int (13 : Int32)), (.ref b425), (.ref b425)])) _
    refine XS.iconst X555.here hx rfl (hb hby at_381) ?_
    show Steps p.tables e below (T555.setTop (mkF m 382 #[.val (.int p1), .val (.int p2), .val (.ref b1), .val (.ref b212), .unset, .unset, .unset, .unset, .unset, .unset, .unset, .unset, .unset, .unset] [(.int (3 : Int32)), (.int (13 : Int32)), (.ref b425), (.ref b425)])) _
    refine st563 _ ?_
    show Steps p.tables e below (T563.setTop (mkF m 383 #[.val (.int p1), .val (.int p2), .val (.ref b1), .val (.ref b212), .unset, .unset, .unset, .unset, .unset, .unset, .unset, .unset, .unset, .unset] [(.ref b425)])) _
    refine XS.dup X563.here hx rfl (hb hby at_383) rfl rfl ?_
    show Steps p.tables e below (T563.setTop (mkF m 384 #[.val (.int p1), .val (.int p2), .val (.ref b1), .val (.ref b212), .unset, .unset, .unset, .unset, .unset, .unset, .unset, .unset, .unset, .unset] [(.ref b425), (.ref b425)])) _
    refine XS.bipush X563.here hx rfl (hb hby at_384) ?_
    show Steps p.tables e below (T563.setTop (mkF m 386 #[.val (.int p1), .val (.int p2), .val (.ref b1), .val (.ref b212), .unset, .unset, .unset, .unset, .unset, .unset, .unset, .unset, .unset, .unset] [(.int (14 : Int32)), (.ref b425), (.ref b425)])) _
    refine XS.iconst X563.here hx rfl (hb hby at_386) ?_
    show Steps p.tables e below (T563.setTop (mkF m 387 #[.val (.int p1), .val (.int p2), .val (.ref b1), .val (.ref b212), .unset, .unset, .unset, .unset, .unset, .unset, .unset, .unset, .unset, .unset] [(.int (5 : Int32)), (.int (14 : Int32)), (.ref b425), (.ref b425)])) _
    refine st571 _ ?_
    show Steps p.tables e below (T571.setTop (mkF m 388 #[.val (.int p1), .val (.int p2), .val (.ref b1), .val (.ref b212), .unset, .unset, .unset, .unset, .unset, .unset, .unset, .unset, .unset, .unset] [(.ref b425)])) _
    refine XS.dup X571.here hx rfl (hb hby at_388) rfl rfl ?_
    show Steps p.tables e below (T571.setTop (mkF m 389 #[.val (.int p1), .val (.int p2), .val (.ref b1), .val (.ref b212), .unset, .unset, .unset, .unset, .unset, .unset, .unset, .unset, .unset, .unset] [(.ref b425), (.ref b425)])) _
    refine XS.bipush X571.here hx rfl (hb hby at_389) ?_
    show Steps p.tables e below (T571.setTop (mkF m 391 #[.val (.int p1), .val (.int p2), .val (.ref b1), .val (.ref b212), .unset, .unset, .unset, .unset, .unset, .unset, .unset, .unset, .unset, .unset] [(.int (15 : Int32)), (.ref b425), (.ref b425)])) _
    refine XS.iconst X571.here hx rfl (hb hby at_391) ?_
    show Steps p.tables e below (T571.setTop (mkF m 392 #[.val (.int p1), .val (.int p2), .val (.ref b1), .val (.ref b212), .unset, .unset, .unset, .unset, .unset, .unset, .unset, .unset, .unset, .unset] [(.int (3 : Int32)), (.int (15 : Int32)), (.ref b425), (.ref b425)])) _
    refine st579 _ ?_
    show Steps p.tables e below (T579.setTop (mkF m 393 #[.val (.int p1), .val (.int p2), .val (.ref b1), .val (.ref b212), .unset, .unset, .unset, .unset, .unset, .unset, .unset, .unset, .unset, .unset] [(.ref b425)])) _
    refine XS.dup X579.here hx rfl (hb hby at_393) rfl rfl ?_
    show Steps p.tables e below (T579.setTop (mkF m 394 #[.val (.int p1), .val (.int p2), .val (.ref b1), .val (.ref b212), .unset, .unset, .unset, .unset, .unset, .unset, .unset, .unset, .unset, .unset] [(.ref b425), (.ref b425)])) _
    refine XS.bipush X579.here hx rfl (hb hby at_394) ?_
    show Steps p.tables e below (T579.setTop (mkF m 396 #[.val (.int p1), .val (.int p2), .val (.ref b1), .val (.ref b212), .unset, .unset, .unset, .unset, .unset, .unset, .unset, .unset, .unset, .unset] [(.int (16 : Int32)), (.ref b425), (.ref b425)])) _
    refine XS.iconst X579.here hx rfl (hb hby at_396) ?_
    show Steps p.tables e below (T579.setTop (mkF m 397 #[.val (.int p1), .val (.int p2), .val (.ref b1), .val (.ref b212), .unset, .unset, .unset, .unset, .unset, .unset, .unset, .unset, .unset, .unset] [(.int (4 : Int32)), (.int (16 : Int32)), (.ref b425), (.ref b425)])) _
    refine st587 _ ?_
    show Steps p.tables e below (T587.setTop (mkF m 398 #[.val (.int p1), .val (.int p2), .val (.ref b1), .val (.ref b212), .unset, .unset, .unset, .unset, .unset, .unset, .unset, .unset, .unset, .unset] [(.ref b425)])) _
    refine XS.dup X587.here hx rfl (hb hby at_398) rfl rfl ?_
    show Steps p.tables e below (T587.setTop (mkF m 399 #[.val (.int p1), .val (.int p2), .val (.ref b1), .val (.ref b212), .unset, .unset, .unset, .unset, .unset, .unset, .unset, .unset, .unset, .unset] [(.ref b425), (.ref b425)])) _
    refine XS.bipush X587.here hx rfl (hb hby at_399) ?_
    show Steps p.tables e below (T587.setTop (mkF m 401 #[.val (.int p1), .val (.int p2), .val (.ref b1), .val (.ref b212), .unset, .unset, .unset, .unset, .unset, .unset, .unset, .unset, .unset, .unset] [(.int (17 : Int32)), (.ref b425), (.ref b425)])) _
    refine XS.iconst X587.here hx rfl (hb hby at_401) ?_
    show Steps p.tables e below (T587.setTop (mkF m 402 #[.val (.int p1), .val (.int p2), .val (.ref b1), .val (.ref b212), .unset, .unset, .unset, .unset, .unset, .unset, .unset, .unset, .unset, .unset] [(.int (1 : Int32)), (.int (17 : Int32)), (.ref b425), (.ref b425)])) _
    refine st595 _ ?_
    show Steps p.tables e below (T595.setTop (mkF m 403 #[.val (.int p1), .val (.int p2), .val (.ref b1), .val (.ref b212), .unset, .unset, .unset, .unset, .unset, .unset, .unset, .unset, .unset, .unset] [(.ref b425)])) _
    refine XS.dup X595.here hx rfl (hb hby at_403) rfl rfl ?_
    show Steps p.tables e below (T595.setTop (mkF m 404 #[.val (.int p1), .val (.int p2), .val (.ref b1), .val (.ref b212), .unset, .unset, .unset, .unset, .unset, .unset, .unset, .unset, .unset, .unset] [(.ref b425), (.ref b425)])) _
    refine XS.bipush X595.here hx rfl (hb hby at_404) ?_
    show Steps p.tables e below (T595.setTop (mkF m 406 #[.val (.int p1), .val (.int p2), .val (.ref b1), .val (.ref b212), .unset, .unset, .unset, .unset, .unset, .unset, .unset, .unset, .unset, .unset] [(.int (18 : Int32)), (.ref b425), (.ref b425)])) _
    refine XS.iconst X595.here hx rfl (hb hby at_406) ?_
    show Steps p.tables e below (T595.setTop (mkF m 407 #[.val (.int p1), .val (.int p2), .val (.ref b1), .val (.ref b212), .unset, .unset, .unset, .unset, .unset, .unset, .unset, .unset, .unset, .unset] [(.int (1 : Int32)), (.int (18 : Int32)), (.ref b425), (.ref b425)])) _
    refine st603 _ ?_
    show Steps p.tables e below (T603.setTop (mkF m 408 #[.val (.int p1), .val (.int p2), .val (.ref b1), .val (.ref b212), .unset, .unset, .unset, .unset, .unset, .unset, .unset, .unset, .unset, .unset] [(.ref b425)])) _
    refine XS.dup X603.here hx rfl (hb hby at_408) rfl rfl ?_
    show Steps p.tables e below (T603.setTop (mkF m 409 #[.val (.int p1), .val (.int p2), .val (.ref b1), .val (.ref b212), .unset, .unset, .unset, .unset, .unset, .unset, .unset, .unset, .unset, .unset] [(.ref b425), (.ref b425)])) _
    refine XS.bipush X603.here hx rfl (hb hby at_409) ?_
    show Steps p.tables e below (T603.setTop (mkF m 411 #[.val (.int p1), .val (.int p2), .val (.ref b1), .val (.ref b212), .unset, .unset, .unset, .unset, .unset, .unset, .unset, .unset, .unset, .unset] [(.int (19 : Int32)), (.ref b425), (.ref b425)])) _
    refine XS.iconst X603.here hx rfl (hb hby at_411) ?_
    show Steps p.tables e below (T603.setTop (mkF m 412 #[.val (.int p1), .val (.int p2), .val (.ref b1), .val (.ref b212), .unset, .unset, .unset, .unset, .unset, .unset, .unset, .unset, .unset, .unset] [(.int (1 : Int32)), (.int (19 : Int32)), (.ref b425), (.ref b425)])) _
    refine st611 _ ?_
    show Steps p.tables e below (T611.setTop (mkF m 413 #[.val (.int p1), .val (.int p2), .val (.ref b1), .val (.ref b212), .unset, .unset, .unset, .unset, .unset, .unset, .unset, .unset, .unset, .unset] [(.ref b425)])) _
    refine XS.dup X611.here hx rfl (hb hby at_413) rfl rfl ?_
    show Steps p.tables e below (T611.setTop (mkF m 414 #[.val (.int p1), .val (.int p2), .val (.ref b1), .val (.ref b212), .unset, .unset, .unset, .unset, .unset, .unset, .unset, .unset, .unset, .unset] [(.ref b425), (.ref b425)])) _
    refine XS.bipush X611.here hx rfl (hb hby at_414) ?_
    show Steps p.tables e below (T611.setTop (mkF m 416 #[.val (.int p1), .val (.int p2), .val (.ref b1), .val (.ref b212), .unset, .unset, .unset, .unset, .unset, .unset, .unset, .unset, .unset, .unset] [(.int (20 : Int32)), (.ref b425), (.ref b425)])) _
    refine XS.iconst X611.here hx rfl (hb hby at_416) ?_
    show Steps p.tables e below (T611.setTop (mkF m 417 #[.val (.int p1), .val (.int p2), .val (.ref b1), .val (.ref b212), .unset, .unset, .unset, .unset, .unset, .unset, .unset, .unset, .unset, .unset] [(.int (3 : Int32)), (.int (20 : Int32)), (.ref b425), (.ref b425)])) _
    refine st619 _ ?_
    show Steps p.tables e below (T619.setTop (mkF m 418 #[.val (.int p1), .val (.int p2), .val (.ref b1), .val (.ref b212), .unset, .unset, .unset, .unset, .unset, .unset, .unset, .unset, .unset, .unset] [(.ref b425)])) _
    refine XS.dup X619.here hx rfl (hb hby at_418) rfl rfl ?_
    show Steps p.tables e below (T619.setTop (mkF m 419 #[.val (.int p1), .val (.int p2), .val (.ref b1), .val (.ref b212), .unset, .unset, .unset, .unset, .unset, .unset, .unset, .unset, .unset, .unset] [(.ref b425), (.ref b425)])) _
    refine XS.bipush X619.here hx rfl (hb hby at_419) ?_
    show Steps p.tables e below (T619.setTop (mkF m 421 #[.val (.int p1), .val (.int p2), .val (.ref b1), .val (.ref b212), .unset, .unset, .unset, .unset, .unset, .unset, .unset, .unset, .unset, .unset] [(.int (21 : Int32)), (.ref b425), (.ref b425)])) _
    refine XS.iconst X619.here hx rfl (hb hby at_421) ?_
    show Steps p.tables e below (T619.setTop (mkF m 422 #[.val (.int p1), .val (.int p2), .val (.ref b1), .val (.ref b212), .unset, .unset, .unset, .unset, .unset, .unset, .unset, .unset, .unset, .unset] [(.int (4 : Int32)), (.int (21 : Int32)), (.ref b425), (.ref b425)])) _
    refine st627 _ ?_
    show Steps p.tables e below (T627.setTop (mkF m 423 #[.val (.int p1), .val (.int p2), .val (.ref b1), .val (.ref b212), .unset, .unset, .unset, .unset, .unset, .unset, .unset, .unset, .unset, .unset] [(.ref b425)])) _
    refine XS.dup X627.here hx rfl (hb hby at_423) rfl rfl ?_
    show Steps p.tables e below (T627.setTop (mkF m 424 #[.val (.int p1), .val (.int p2), .val (.ref b1), .val (.ref b212), .unset, .unset, .unset, .unset, .unset, .unset, .unset, .unset, .unset, .unset] [(.ref b425), (.ref b425)])) _
    refine XS.bipush X627.here hx rfl (hb hby at_424) ?_
    show Steps p.tables e below (T627.setTop (mkF m 426 #[.val (.int p1), .val (.int p2), .val (.ref b1), .val (.ref b212), .unset, .unset, .unset, .unset, .unset, .unset, .unset, .unset, .unset, .unset] [(.int (22 : Int32)), (.ref b425), (.ref b425)])) _
    refine XS.iconst X627.here hx rfl (hb hby at_426) ?_
    show Steps p.tables e below (T627.setTop (mkF m 427 #[.val (.int p1), .val (.int p2), .val (.ref b1), .val (.ref b212), .unset, .unset, .unset, .unset, .unset, .unset, .unset, .unset, .unset, .unset] [(.int (2 : Int32)), (.int (22 : Int32)), (.ref b425), (.ref b425)])) _
    refine st635 _ ?_
    show Steps p.tables e below (T635.setTop (mkF m 428 #[.val (.int p1), .val (.int p2), .val (.ref b1), .val (.ref b212), .unset, .unset, .unset, .unset, .unset, .unset, .unset, .unset, .unset, .unset] [(.ref b425)])) _
    refine XS.dup X635.here hx rfl (hb hby at_428) rfl rfl ?_
    show Steps p.tables e below (T635.setTop (mkF m 429 #[.val (.int p1), .val (.int p2), .val (.ref b1), .val (.ref b212), .unset, .unset, .unset, .unset, .unset, .unset, .unset, .unset, .unset, .unset] [(.ref b425), (.ref b425)])) _
    refine XS.bipush X635.here hx rfl (hb hby at_429) ?_
    show Steps p.tables e below (T635.setTop (mkF m 431 #[.val (.int p1), .val (.int p2), .val (.ref b1), .val (.ref b212), .unset, .unset, .unset, .unset, .unset, .unset, .unset, .unset, .unset, .unset] [(.int (23 : Int32)), (.ref b425), (.ref b425)])) _
    refine XS.iconst X635.here hx rfl (hb hby at_431) ?_
    show Steps p.tables e below (T635.setTop (mkF m 432 #[.val (.int p1), .val (.int p2), .val (.ref b1), .val (.ref b212), .unset, .unset, .unset, .unset, .unset, .unset, .unset, .unset, .unset, .unset] [(.int (1 : Int32)), (.int (23 : Int32)), (.ref b425), (.ref b425)])) _
    refine st643 _ ?_
    show Steps p.tables e below (T643.setTop (mkF m 433 #[.val (.int p1), .val (.int p2), .val (.ref b1), .val (.ref b212), .unset, .unset, .unset, .unset, .unset, .unset, .unset, .unset, .unset, .unset] [(.ref b425)])) _
    refine XS.dup X643.here hx rfl (hb hby at_433) rfl rfl ?_
    show Steps p.tables e below (T643.setTop (mkF m 434 #[.val (.int p1), .val (.int p2), .val (.ref b1), .val (.ref b212), .unset, .unset, .unset, .unset, .unset, .unset, .unset, .unset, .unset, .unset] [(.ref b425), (.ref b425)])) _
    refine XS.bipush X643.here hx rfl (hb hby at_434) ?_
    show Steps p.tables e below (T643.setTop (mkF m 436 #[.val (.int p1), .val (.int p2), .val (.ref b1), .val (.ref b212), .unset, .unset, .unset, .unset, .unset, .unset, .unset, .unset, .unset, .unset] [(.int (24 : Int32)), (.ref b425), (.ref b425)])) _
    refine XS.iconst X643.here hx rfl (hb hby at_436) ?_
    show Steps p.tables e below (T643.setTop (mkF m 437 #[.val (.int p1), .val (.int p2), .val (.ref b1), .val (.ref b212), .unset, .unset, .unset, .unset, .unset, .unset, .unset, .unset, .unset, .unset] [(.int (1 : Int32)), (.int (24 : Int32)), (.ref b425), (.ref b425)])) _
    refine st651 _ ?_
    show Steps p.tables e below (T651.setTop (mkF m 438 #[.val (.int p1), .val (.int p2), .val (.ref b1), .val (.ref b212), .unset, .unset, .unset, .unset, .unset, .unset, .unset, .unset, .unset, .unset] [(.ref b425)])) _
    refine XS.dup X651.here hx rfl (hb hby at_438) rfl rfl ?_
    show Steps p.tables e below (T651.setTop (mkF m 439 #[.val (.int p1), .val (.int p2), .val (.ref b1), .val (.ref b212), .unset, .unset, .unset, .unset, .unset, .unset, .unset, .unset, .unset, .unset] [(.ref b425), (.ref b425)])) _
    refine XS.bipush X651.here hx rfl (hb hby at_439) ?_
    show Steps p.tables e below (T651.setTop (mkF m 441 #[.val (.int p1), .val (.int p2), .val (.ref b1), .val (.ref b212), .unset, .unset, .unset, .unset, .unset, .unset, .unset, .unset, .unset, .unset] [(.int (25 : Int32)), (.ref b425), (.ref b425)])) _
    refine XS.iconst X651.here hx rfl (hb hby at_441) ?_
    show Steps p.tables e below (T651.setTop (mkF m 442 #[.val (.int p1), .val (.int p2), .val (.ref b1), .val (.ref b212), .unset, .unset, .unset, .unset, .unset, .unset, .unset, .unset, .unset, .unset] [(.int (1 : Int32)), (.int (25 : Int32)), (.ref b425), (.ref b425)])) _
    refine st659 _ ?_
    show Steps p.tables e below (T659.setTop (mkF m 443 #[.val (.int p1), .val (.int p2), .val (.ref b1), .val (.ref b212), .unset, .unset, .unset, .unset, .unset, .unset, .unset, .unset, .unset, .unset] [(.ref b425)])) _
    refine XS.astore X659.here hx rfl (hb hby at_443) rfl rfl (l' := #[.val (.int p1), .val (.int p2), .val (.ref b1), .val (.ref b212), .val (.ref b425), .unset, .unset, .unset, .unset, .unset, .unset, .unset, .unset, .unset]) rfl ?_
    show Steps p.tables e below (T659.setTop (mkF m 445 #[.val (.int p1), .val (.int p2), .val (.ref b1), .val (.ref b212), .val (.ref b425), .unset, .unset, .unset, .unset, .unset, .unset, .unset, .unset, .unset] [])) _
    refine XS.iloadN X659.here hx rfl (hb hby at_445) rfl ?_
    show Steps p.tables e below (T659.setTop (mkF m 446 #[.val (.int p1), .val (.int p2), .val (.ref b1), .val (.ref b212), .val (.ref b425), .unset, .unset, .unset, .unset, .unset, .unset, .unset, .unset, .unset] [(.int p1)])) _
    refine X659.ldcInt hx hown (mvT hZ (hw _ (List.mem_of_getElem? (i := 57) rfl))) (g := (mkF m 446 #[.val (.int p1), .val (.int p2), .val (.ref b1), .val (.ref b212), .val (.ref b425), .unset, .unset, .unset, .unset, .unset, .unset, .unset, .unset, .unset] [(.int p1)])) rfl (hb hby at_446) _ ?_
    show Steps p.tables e below (T659.setTop (mkF m 448 #[.val (.int p1), .val (.int p2), .val (.ref b1), .val (.ref b212), .val (.ref b425), .unset, .unset, .unset, .unset, .unset, .unset, .unset, .unset, .unset] [(.int (2147483647 : Int32)), (.int p1)])) _
    refine XS.iand X659.here hx rfl (hb hby at_448) rfl ?_
    show Steps p.tables e below (T659.setTop (mkF m 449 #[.val (.int p1), .val (.int p2), .val (.ref b1), .val (.ref b212), .val (.ref b425), .unset, .unset, .unset, .unset, .unset, .unset, .unset, .unset, .unset] [(.int (p1 &&& (2147483647 : Int32)))])) _
    refine XS.bipush X659.here hx rfl (hb hby at_449) ?_
    show Steps p.tables e below (T659.setTop (mkF m 451 #[.val (.int p1), .val (.int p2), .val (.ref b1), .val (.ref b212), .val (.ref b425), .unset, .unset, .unset, .unset, .unset, .unset, .unset, .unset, .unset] [(.int (26 : Int32)), (.int (p1 &&& (2147483647 : Int32)))])) _
    refine iremM X659 hx rfl (hb hby at_451) rfl (by decide) ?_
    show Steps p.tables e below (T659.setTop (mkF m 452 #[.val (.int p1), .val (.int p2), .val (.ref b1), .val (.ref b212), .val (.ref b425), .unset, .unset, .unset, .unset, .unset, .unset, .unset, .unset, .unset] [(.int ((p1 &&& (2147483647 : Int32)) % (26 : Int32)))])) _
    refine XS.istore X659.here hx rfl (hb hby at_452) rfl (l' := #[.val (.int p1), .val (.int p2), .val (.ref b1), .val (.ref b212), .val (.ref b425), .val (.int ((p1 &&& (2147483647 : Int32)) % (26 : Int32))), .unset, .unset, .unset, .unset, .unset, .unset, .unset, .unset]) rfl ?_
    show Steps p.tables e below (T659.setTop (mkF m 454 #[.val (.int p1), .val (.int p2), .val (.ref b1), .val (.ref b212), .val (.ref b425), .val (.int ((p1 &&& (2147483647 : Int32)) % (26 : Int32))), .unset, .unset, .unset, .unset, .unset, .unset, .unset, .unset] [])) _
    refine XS.aloadN X659.here hx rfl (hb hby at_454) rfl rfl ?_
    show Steps p.tables e below (T659.setTop (mkF m 455 #[.val (.int p1), .val (.int p2), .val (.ref b1), .val (.ref b212), .val (.ref b425), .val (.int ((p1 &&& (2147483647 : Int32)) % (26 : Int32))), .unset, .unset, .unset, .unset, .unset, .unset, .unset, .unset] [(.ref b1)])) _
    refine XS.iload X659.here hx rfl (hb hby at_455) rfl ?_
    show Steps p.tables e below (T659.setTop (mkF m 457 #[.val (.int p1), .val (.int p2), .val (.ref b1), .val (.ref b212), .val (.ref b425), .val (.int ((p1 &&& (2147483647 : Int32)) % (26 : Int32))), .unset, .unset, .unset, .unset, .unset, .unset, .unset, .unset] [(.int ((p1 &&& (2147483647 : Int32)) % (26 : Int32))), (.ref b1)])) _
    refine X659.aaload hx (j := ((p1 &&& (2147483647 : Int32)) % (26 : Int32))) (v := (.ref kw)) (by rw [e659]; exact Aar666.1) (State.isArrayOf_alike hZ.alike Aar666.2.1) rfl Aar666.2.2 hinar666 hatar666 (g := (mkF m 457 #[.val (.int p1), .val (.int p2), .val (.ref b1), .val (.ref b212), .val (.ref b425), .val (.int ((p1 &&& (2147483647 : Int32)) % (26 : Int32))), .unset, .unset, .unset, .unset, .unset, .unset, .unset, .unset] [(.int ((p1 &&& (2147483647 : Int32)) % (26 : Int32))), (.ref b1)])) rfl rfl (hb hby at_457) _ ?_
    show Steps p.tables e below (T659.setTop (mkF m 458 #[.val (.int p1), .val (.int p2), .val (.ref b1), .val (.ref b212), .val (.ref b425), .val (.int ((p1 &&& (2147483647 : Int32)) % (26 : Int32))), .unset, .unset, .unset, .unset, .unset, .unset, .unset, .unset] [(.ref kw)])) _
    refine XS.astore X659.here hx rfl (hb hby at_458) rfl rfl (l' := #[.val (.int p1), .val (.int p2), .val (.ref b1), .val (.ref b212), .val (.ref b425), .val (.int ((p1 &&& (2147483647 : Int32)) % (26 : Int32))), .val (.ref kw), .unset, .unset, .unset, .unset, .unset, .unset, .unset]) rfl ?_
    show Steps p.tables e below (T659.setTop (mkF m 460 #[.val (.int p1), .val (.int p2), .val (.ref b1), .val (.ref b212), .val (.ref b425), .val (.int ((p1 &&& (2147483647 : Int32)) % (26 : Int32))), .val (.ref kw), .unset, .unset, .unset, .unset, .unset, .unset, .unset] [])) _
    refine XS.iloadN X659.here hx rfl (hb hby at_460) rfl ?_
    show Steps p.tables e below (T659.setTop (mkF m 461 #[.val (.int p1), .val (.int p2), .val (.ref b1), .val (.ref b212), .val (.ref b425), .val (.int ((p1 &&& (2147483647 : Int32)) % (26 : Int32))), .val (.ref kw), .unset, .unset, .unset, .unset, .unset, .unset, .unset] [(.int p2)])) _
    refine XS.i2s X659.here hx rfl (hb hby at_461) rfl ?_
    show Steps p.tables e below (T659.setTop (mkF m 462 #[.val (.int p1), .val (.int p2), .val (.ref b1), .val (.ref b212), .val (.ref b425), .val (.int ((p1 &&& (2147483647 : Int32)) % (26 : Int32))), .val (.ref kw), .unset, .unset, .unset, .unset, .unset, .unset, .unset] [(.int (p2.toInt16.toInt32))])) _
    refine XS.istore X659.here hx rfl (hb hby at_462) rfl (l' := #[.val (.int p1), .val (.int p2), .val (.ref b1), .val (.ref b212), .val (.ref b425), .val (.int ((p1 &&& (2147483647 : Int32)) % (26 : Int32))), .val (.ref kw), .val (.int (p2.toInt16.toInt32)), .unset, .unset, .unset, .unset, .unset, .unset]) rfl ?_
    show Steps p.tables e below (T659.setTop (mkF m 464 #[.val (.int p1), .val (.int p2), .val (.ref b1), .val (.ref b212), .val (.ref b425), .val (.int ((p1 &&& (2147483647 : Int32)) % (26 : Int32))), .val (.ref kw), .val (.int (p2.toInt16.toInt32)), .unset, .unset, .unset, .unset, .unset, .unset] [])) _
    refine XS.aloadN X659.here hx rfl (hb hby at_464) rfl rfl ?_
    show Steps p.tables e below (T659.setTop (mkF m 465 #[.val (.int p1), .val (.int p2), .val (.ref b1), .val (.ref b212), .val (.ref b425), .val (.int ((p1 &&& (2147483647 : Int32)) % (26 : Int32))), .val (.ref kw), .val (.int (p2.toInt16.toInt32)), .unset, .unset, .unset, .unset, .unset, .unset] [(.ref b212)])) _
    refine XS.iload X659.here hx rfl (hb hby at_465) rfl ?_
    show Steps p.tables e below (T659.setTop (mkF m 467 #[.val (.int p1), .val (.int p2), .val (.ref b1), .val (.ref b212), .val (.ref b425), .val (.int ((p1 &&& (2147483647 : Int32)) % (26 : Int32))), .val (.ref kw), .val (.int (p2.toInt16.toInt32)), .unset, .unset, .unset, .unset, .unset, .unset] [(.int ((p1 &&& (2147483647 : Int32)) % (26 : Int32))), (.ref b212)])) _
    refine X659.iaload hx (j := ((p1 &&& (2147483647 : Int32)) % (26 : Int32))) (v := (.int lo)) (by rw [e659]; exact Aar667.1) (State.isArrayOf_alike hZ.alike Aar667.2.1) Aar667.2.2 hinar667 hatar667 (g := (mkF m 467 #[.val (.int p1), .val (.int p2), .val (.ref b1), .val (.ref b212), .val (.ref b425), .val (.int ((p1 &&& (2147483647 : Int32)) % (26 : Int32))), .val (.ref kw), .val (.int (p2.toInt16.toInt32)), .unset, .unset, .unset, .unset, .unset, .unset] [(.int ((p1 &&& (2147483647 : Int32)) % (26 : Int32))), (.ref b212)])) rfl rfl (hb hby at_467) _ ?_
    show Steps p.tables e below (T659.setTop (mkF m 468 #[.val (.int p1), .val (.int p2), .val (.ref b1), .val (.ref b212), .val (.ref b425), .val (.int ((p1 &&& (2147483647 : Int32)) % (26 : Int32))), .val (.ref kw), .val (.int (p2.toInt16.toInt32)), .unset, .unset, .unset, .unset, .unset, .unset] [(.int lo)])) _
    refine XS.iload X659.here hx rfl (hb hby at_468) rfl ?_
    exact k)
  refine cps (A := ∃ (ex8 : Int32) (lcj669 : List Loc) (Tj669 : State), Fr n0 lcj669 ∧ Stand p l e room_1 s m #[(.int p1), (.int p2)] below meth c Tj669 lcj669 3 78 ∧ Tj669.heap = h659 ∧ (∀ t, Steps p.tables e below (Tj669.setTop (mkF m 507 #[.val (.int p1), .val (.int p2), .val (.ref b1), .val (.ref b212), .val (.ref b425), .val (.int ((p1 &&& (2147483647 : Int32)) % (26 : Int32))), .val (.ref kw), .val (.int (p2.toInt16.toInt32)), .val (.int ex8), .unset, .unset, .unset, .unset, .unset] [(.int (1 : Int32))])) t → Steps p.tables e below (s₁.setTop (entryFrame m #[(.int p1), (.int p2)] maxLocals)) t)) (fun kj => ?_) ?_
  ·  -- to the meeting at pc 507
    by_cases hc670 : (p2.toInt16.toInt32) < lo
    ·  -- pc 470: (p2.toInt16.toInt32) < lo
      -- pc 494: ApiKey.supports by rmsu
      obtain ⟨cq671, kq671, q671a, q671b, q671c⟩ := isOf hZ e659 (hE.ext f660.2)
      obtain ⟨_, _, ⟨T671, L671, k671, n671⟩, -, X671, ⟨Lc671, hQ671, l671, y671, z671⟩, st671⟩ := X659.virtualBack hx (y := (⟨"com/example/consort/consort/protocol/ApiKey", "supports", "(S)Z"⟩ : MethodName)) (z := (⟨"com/example/consort/consort/protocol/ApiKey", "supports", "(S)Z"⟩ : MethodName)) hown (mvT hZ (hw _ (List.mem_of_getElem? (i := 58) rfl))) (mvT hZ (hw _ (List.mem_of_getElem? (i := 59) rfl))) (notFace_of_selects (args := #[]) (mvT hZ (hw _ (List.mem_of_getElem? (i := 61) rfl)))) (mvT hZ (hw _ (List.mem_of_getElem? (i := 61) rfl))) (mvT hZ (hw _ (List.mem_of_getElem? (i := 60) rfl))) (by decide) (backOf (W := 0) (rmsu l Z a0 hw [] kw (p2.toInt16.toInt32) lo hi h659 n0 zs664 (hL.ext f660.2) (hH.ext f660.2)) hZ (hw _ (List.mem_of_getElem? (i := 62) rfl)) (hw _ (List.mem_of_getElem? (i := 3) rfl)) (by decide) (by decide)) q671a q671c (g := (mkF m 494 #[.val (.int p1), .val (.int p2), .val (.ref b1), .val (.ref b212), .val (.ref b425), .val (.int ((p1 &&& (2147483647 : Int32)) % (26 : Int32))), .val (.ref kw), .val (.int (p2.toInt16.toInt32)), .val (.int (0 : Int32)), .unset, .unset, .unset, .unset, .unset] [(.int (p2.toInt16.toInt32)), (.ref kw)])) rfl (by rw [hml]; rfl) (Steps.refl _) (argsL := [(.int (p2.toInt16.toInt32))]) (rest := []) (lenOf pd_14 rfl) rfl (by show 2 * 0 + _ ≤ _; exact Nat.le_of_eq rfl) (hb hby at_494) (fun _ _ => ⟨rfl, e659, (by decide : 3 + 0 ≤ _), (by decide : 78 + 0 ≤ _)⟩)
      dsimp only [Pt.U, Pt.locs, Pt.cells, Pt.slots] at X671 l671 y671 z671 st671 hQ671
      subst y671 z671
      obtain ⟨rfl, N671q, e671⟩ := hQ671
      have N672 : Fr n0 L671 := by rw [l671]; exact Fr.app N665 N671q
      have hs673 : (fsu (p2.toInt16.toInt32) lo hi) = (0 : Int32) := (by unfold fsu; rw [if_pos hc670])
      have pre674 : ∀ t, Steps p.tables e below (T671.setTop (mkF m 507 #[.val (.int p1), .val (.int p2), .val (.ref b1), .val (.ref b212), .val (.ref b425), .val (.int ((p1 &&& (2147483647 : Int32)) % (26 : Int32))), .val (.ref kw), .val (.int (p2.toInt16.toInt32)), .val (.int (0 : Int32)), .unset, .unset, .unset, .unset, .unset] [(.int (1 : Int32))])) t → Steps p.tables e below (s₁.setTop (entryFrame m #[(.int p1), (.int p2)] maxLocals)) t := fun t k => pre668 t (by
        show Steps p.tables e below (T659.setTop (mkF m 470 #[.val (.int p1), .val (.int p2), .val (.ref b1), .val (.ref b212), .val (.ref b425), .val (.int ((p1 &&& (2147483647 : Int32)) % (26 : Int32))), .val (.ref kw), .val (.int (p2.toInt16.toInt32)), .unset, .unset, .unset, .unset, .unset, .unset] [(.int (p2.toInt16.toInt32)), (.int lo)])) _
        refine XS.icmpYes X659.here hx rfl (pc0 := 470) (pc' := 487) rfl (hb hby at_470) rfl (tlt hc670).2.2.1 (by decide) (by decide) ?_
        show Steps p.tables e below (T659.setTop (mkF m 487 #[.val (.int p1), .val (.int p2), .val (.ref b1), .val (.ref b212), .val (.ref b425), .val (.int ((p1 &&& (2147483647 : Int32)) % (26 : Int32))), .val (.ref kw), .val (.int (p2.toInt16.toInt32)), .unset, .unset, .unset, .unset, .unset, .unset] [])) _
        refine XS.iconst X659.here hx rfl (hb hby at_487) ?_
        show Steps p.tables e below (T659.setTop (mkF m 488 #[.val (.int p1), .val (.int p2), .val (.ref b1), .val (.ref b212), .val (.ref b425), .val (.int ((p1 &&& (2147483647 : Int32)) % (26 : Int32))), .val (.ref kw), .val (.int (p2.toInt16.toInt32)), .unset, .unset, .unset, .unset, .unset, .unset] [(.int (0 : Int32))])) _
        refine XS.istore X659.here hx rfl (hb hby at_488) rfl (l' := #[.val (.int p1), .val (.int p2), .val (.ref b1), .val (.ref b212), .val (.ref b425), .val (.int ((p1 &&& (2147483647 : Int32)) % (26 : Int32))), .val (.ref kw), .val (.int (p2.toInt16.toInt32)), .val (.int (0 : Int32)), .unset, .unset, .unset, .unset, .unset]) rfl ?_
        show Steps p.tables e below (T659.setTop (mkF m 490 #[.val (.int p1), .val (.int p2), .val (.ref b1), .val (.ref b212), .val (.ref b425), .val (.int ((p1 &&& (2147483647 : Int32)) % (26 : Int32))), .val (.ref kw), .val (.int (p2.toInt16.toInt32)), .val (.int (0 : Int32)), .unset, .unset, .unset, .unset, .unset] [])) _
        refine XS.aload X659.here hx rfl (hb hby at_490) rfl rfl ?_
        show Steps p.tables e below (T659.setTop (mkF m 492 #[.val (.int p1), .val (.int p2), .val (.ref b1), .val (.ref b212), .val (.ref b425), .val (.int ((p1 &&& (2147483647 : Int32)) % (26 : Int32))), .val (.ref kw), .val (.int (p2.toInt16.toInt32)), .val (.int (0 : Int32)), .unset, .unset, .unset, .unset, .unset] [(.ref kw)])) _
        refine XS.iload X659.here hx rfl (hb hby at_492) rfl ?_
        show Steps p.tables e below (T659.setTop (mkF m 494 #[.val (.int p1), .val (.int p2), .val (.ref b1), .val (.ref b212), .val (.ref b425), .val (.int ((p1 &&& (2147483647 : Int32)) % (26 : Int32))), .val (.ref kw), .val (.int (p2.toInt16.toInt32)), .val (.int (0 : Int32)), .unset, .unset, .unset, .unset, .unset] [(.int (p2.toInt16.toInt32)), (.ref kw)])) _
        refine st671.trans ?_
        show Steps p.tables e below (T671.setTop (mkF m 497 #[.val (.int p1), .val (.int p2), .val (.ref b1), .val (.ref b212), .val (.ref b425), .val (.int ((p1 &&& (2147483647 : Int32)) % (26 : Int32))), .val (.ref kw), .val (.int (p2.toInt16.toInt32)), .val (.int (0 : Int32)), .unset, .unset, .unset, .unset, .unset] [(.int (fsu (p2.toInt16.toInt32) lo hi))])) _
        refine XS.iload X671.here hx rfl (hb hby at_497) rfl ?_
        show Steps p.tables e below (T671.setTop (mkF m 499 #[.val (.int p1), .val (.int p2), .val (.ref b1), .val (.ref b212), .val (.ref b425), .val (.int ((p1 &&& (2147483647 : Int32)) % (26 : Int32))), .val (.ref kw), .val (.int (p2.toInt16.toInt32)), .val (.int (0 : Int32)), .unset, .unset, .unset, .unset, .unset] [(.int (0 : Int32)), (.int (fsu (p2.toInt16.toInt32) lo hi))])) _
        refine XS.icmpNo X671.here hx rfl (hb hby at_499) rfl (teq hs673).2 ?_
        show Steps p.tables e below (T671.setTop (mkF m 502 #[.val (.int p1), .val (.int p2), .val (.ref b1), .val (.ref b212), .val (.ref b425), .val (.int ((p1 &&& (2147483647 : Int32)) % (26 : Int32))), .val (.ref kw), .val (.int (p2.toInt16.toInt32)), .val (.int (0 : Int32)), .unset, .unset, .unset, .unset, .unset] [])) _
        refine XS.iconst X671.here hx rfl (hb hby at_502) ?_
        show Steps p.tables e below (T671.setTop (mkF m 503 #[.val (.int p1), .val (.int p2), .val (.ref b1), .val (.ref b212), .val (.ref b425), .val (.int ((p1 &&& (2147483647 : Int32)) % (26 : Int32))), .val (.ref kw), .val (.int (p2.toInt16.toInt32)), .val (.int (0 : Int32)), .unset, .unset, .unset, .unset, .unset] [(.int (1 : Int32))])) _
        refine XS.goto X671.here hx rfl (pc0 := 503) (pc' := 507) rfl (hb hby at_503) (by decide) (by decide) ?_
        exact k)
      exact kj ⟨(0 : Int32), _, T671, N672, X671, e671, pre674⟩
    ·  -- pc 470: not (p2.toInt16.toInt32) < lo
      obtain ⟨car675, Aar675, qar675, Sar675, Nar675, Har675, Gar675⟩ := id V659
      have hinar675 : ¬ (((p1 &&& (2147483647 : Int32)) % (26 : Int32)) < 0 ∨ car675.slots.size ≤ (((p1 &&& (2147483647 : Int32)) % (26 : Int32))).toNatClampNeg) := inb_of Sar675 hnn.2
      have hatar675 : car675.slots[(((p1 &&& (2147483647 : Int32)) % (26 : Int32))).toNatClampNeg]? = some (.int hi) := Har675.at hinar675 hk3
      have pre676 : ∀ t, Steps p.tables e below (T659.setTop (mkF m 480 #[.val (.int p1), .val (.int p2), .val (.ref b1), .val (.ref b212), .val (.ref b425), .val (.int ((p1 &&& (2147483647 : Int32)) % (26 : Int32))), .val (.ref kw), .val (.int (p2.toInt16.toInt32)), .unset, .unset, .unset, .unset, .unset, .unset] [(.int hi), (.int (p2.toInt16.toInt32))])) t → Steps p.tables e below (s₁.setTop (entryFrame m #[(.int p1), (.int p2)] maxLocals)) t := fun t k => pre668 t (by
        show Steps p.tables e below (T659.setTop (mkF m 470 #[.val (.int p1), .val (.int p2), .val (.ref b1), .val (.ref b212), .val (.ref b425), .val (.int ((p1 &&& (2147483647 : Int32)) % (26 : Int32))), .val (.ref kw), .val (.int (p2.toInt16.toInt32)), .unset, .unset, .unset, .unset, .unset, .unset] [(.int (p2.toInt16.toInt32)), (.int lo)])) _
        refine XS.icmpNo X659.here hx rfl (hb hby at_470) rfl (flt hc670).2.2.1 ?_
        show Steps p.tables e below (T659.setTop (mkF m 473 #[.val (.int p1), .val (.int p2), .val (.ref b1), .val (.ref b212), .val (.ref b425), .val (.int ((p1 &&& (2147483647 : Int32)) % (26 : Int32))), .val (.ref kw), .val (.int (p2.toInt16.toInt32)), .unset, .unset, .unset, .unset, .unset, .unset] [])) _
        refine XS.iload X659.here hx rfl (hb hby at_473) rfl ?_
        show Steps p.tables e below (T659.setTop (mkF m 475 #[.val (.int p1), .val (.int p2), .val (.ref b1), .val (.ref b212), .val (.ref b425), .val (.int ((p1 &&& (2147483647 : Int32)) % (26 : Int32))), .val (.ref kw), .val (.int (p2.toInt16.toInt32)), .unset, .unset, .unset, .unset, .unset, .unset] [(.int (p2.toInt16.toInt32))])) _
        refine XS.aload X659.here hx rfl (hb hby at_475) rfl rfl ?_
        show Steps p.tables e below (T659.setTop (mkF m 477 #[.val (.int p1), .val (.int p2), .val (.ref b1), .val (.ref b212), .val (.ref b425), .val (.int ((p1 &&& (2147483647 : Int32)) % (26 : Int32))), .val (.ref kw), .val (.int (p2.toInt16.toInt32)), .unset, .unset, .unset, .unset, .unset, .unset] [(.ref b425), (.int (p2.toInt16.toInt32))])) _
        refine XS.iload X659.here hx rfl (hb hby at_477) rfl ?_
        show Steps p.tables e below (T659.setTop (mkF m 479 #[.val (.int p1), .val (.int p2), .val (.ref b1), .val (.ref b212), .val (.ref b425), .val (.int ((p1 &&& (2147483647 : Int32)) % (26 : Int32))), .val (.ref kw), .val (.int (p2.toInt16.toInt32)), .unset, .unset, .unset, .unset, .unset, .unset] [(.int ((p1 &&& (2147483647 : Int32)) % (26 : Int32))), (.ref b425), (.int (p2.toInt16.toInt32))])) _
        refine X659.iaload hx (j := ((p1 &&& (2147483647 : Int32)) % (26 : Int32))) (v := (.int hi)) (by rw [e659]; exact Aar675.1) (State.isArrayOf_alike hZ.alike Aar675.2.1) Aar675.2.2 hinar675 hatar675 (g := (mkF m 479 #[.val (.int p1), .val (.int p2), .val (.ref b1), .val (.ref b212), .val (.ref b425), .val (.int ((p1 &&& (2147483647 : Int32)) % (26 : Int32))), .val (.ref kw), .val (.int (p2.toInt16.toInt32)), .unset, .unset, .unset, .unset, .unset, .unset] [(.int ((p1 &&& (2147483647 : Int32)) % (26 : Int32))), (.ref b425), (.int (p2.toInt16.toInt32))])) rfl rfl (hb hby at_479) _ ?_
        exact k)
      by_cases hc677 : hi < (p2.toInt16.toInt32)
      ·  -- pc 480: hi < (p2.toInt16.toInt32)
        -- pc 494: ApiKey.supports by rmsu
        obtain ⟨cq678, kq678, q678a, q678b, q678c⟩ := isOf hZ e659 (hE.ext f660.2)
        obtain ⟨_, _, ⟨T678, L678, k678, n678⟩, -, X678, ⟨Lc678, hQ678, l678, y678, z678⟩, st678⟩ := X659.virtualBack hx (y := (⟨"com/example/consort/consort/protocol/ApiKey", "supports", "(S)Z"⟩ : MethodName)) (z := (⟨"com/example/consort/consort/protocol/ApiKey", "supports", "(S)Z"⟩ : MethodName)) hown (mvT hZ (hw _ (List.mem_of_getElem? (i := 58) rfl))) (mvT hZ (hw _ (List.mem_of_getElem? (i := 59) rfl))) (notFace_of_selects (args := #[]) (mvT hZ (hw _ (List.mem_of_getElem? (i := 61) rfl)))) (mvT hZ (hw _ (List.mem_of_getElem? (i := 61) rfl))) (mvT hZ (hw _ (List.mem_of_getElem? (i := 60) rfl))) (by decide) (backOf (W := 0) (rmsu l Z a0 hw [] kw (p2.toInt16.toInt32) lo hi h659 n0 zs664 (hL.ext f660.2) (hH.ext f660.2)) hZ (hw _ (List.mem_of_getElem? (i := 62) rfl)) (hw _ (List.mem_of_getElem? (i := 3) rfl)) (by decide) (by decide)) q678a q678c (g := (mkF m 494 #[.val (.int p1), .val (.int p2), .val (.ref b1), .val (.ref b212), .val (.ref b425), .val (.int ((p1 &&& (2147483647 : Int32)) % (26 : Int32))), .val (.ref kw), .val (.int (p2.toInt16.toInt32)), .val (.int (0 : Int32)), .unset, .unset, .unset, .unset, .unset] [(.int (p2.toInt16.toInt32)), (.ref kw)])) rfl (by rw [hml]; rfl) (Steps.refl _) (argsL := [(.int (p2.toInt16.toInt32))]) (rest := []) (lenOf pd_14 rfl) rfl (by show 2 * 0 + _ ≤ _; exact Nat.le_of_eq rfl) (hb hby at_494) (fun _ _ => ⟨rfl, e659, (by decide : 3 + 0 ≤ _), (by decide : 78 + 0 ≤ _)⟩)
        dsimp only [Pt.U, Pt.locs, Pt.cells, Pt.slots] at X678 l678 y678 z678 st678 hQ678
        subst y678 z678
        obtain ⟨rfl, N678q, e678⟩ := hQ678
        have N679 : Fr n0 L678 := by rw [l678]; exact Fr.app N665 N678q
        have hs680 : (fsu (p2.toInt16.toInt32) lo hi) = (0 : Int32) := (by unfold fsu; rw [if_neg hc670, if_pos hc677])
        have pre681 : ∀ t, Steps p.tables e below (T678.setTop (mkF m 507 #[.val (.int p1), .val (.int p2), .val (.ref b1), .val (.ref b212), .val (.ref b425), .val (.int ((p1 &&& (2147483647 : Int32)) % (26 : Int32))), .val (.ref kw), .val (.int (p2.toInt16.toInt32)), .val (.int (0 : Int32)), .unset, .unset, .unset, .unset, .unset] [(.int (1 : Int32))])) t → Steps p.tables e below (s₁.setTop (entryFrame m #[(.int p1), (.int p2)] maxLocals)) t := fun t k => pre676 t (by
          show Steps p.tables e below (T659.setTop (mkF m 480 #[.val (.int p1), .val (.int p2), .val (.ref b1), .val (.ref b212), .val (.ref b425), .val (.int ((p1 &&& (2147483647 : Int32)) % (26 : Int32))), .val (.ref kw), .val (.int (p2.toInt16.toInt32)), .unset, .unset, .unset, .unset, .unset, .unset] [(.int hi), (.int (p2.toInt16.toInt32))])) _
          refine XS.icmpYes X659.here hx rfl (pc0 := 480) (pc' := 487) rfl (hb hby at_480) rfl (tlt hc677).2.2.1 (by decide) (by decide) ?_
          show Steps p.tables e below (T659.setTop (mkF m 487 #[.val (.int p1), .val (.int p2), .val (.ref b1), .val (.ref b212), .val (.ref b425), .val (.int ((p1 &&& (2147483647 : Int32)) % (26 : Int32))), .val (.ref kw), .val (.int (p2.toInt16.toInt32)), .unset, .unset, .unset, .unset, .unset, .unset] [])) _
          refine XS.iconst X659.here hx rfl (hb hby at_487) ?_
          show Steps p.tables e below (T659.setTop (mkF m 488 #[.val (.int p1), .val (.int p2), .val (.ref b1), .val (.ref b212), .val (.ref b425), .val (.int ((p1 &&& (2147483647 : Int32)) % (26 : Int32))), .val (.ref kw), .val (.int (p2.toInt16.toInt32)), .unset, .unset, .unset, .unset, .unset, .unset] [(.int (0 : Int32))])) _
          refine XS.istore X659.here hx rfl (hb hby at_488) rfl (l' := #[.val (.int p1), .val (.int p2), .val (.ref b1), .val (.ref b212), .val (.ref b425), .val (.int ((p1 &&& (2147483647 : Int32)) % (26 : Int32))), .val (.ref kw), .val (.int (p2.toInt16.toInt32)), .val (.int (0 : Int32)), .unset, .unset, .unset, .unset, .unset]) rfl ?_
          show Steps p.tables e below (T659.setTop (mkF m 490 #[.val (.int p1), .val (.int p2), .val (.ref b1), .val (.ref b212), .val (.ref b425), .val (.int ((p1 &&& (2147483647 : Int32)) % (26 : Int32))), .val (.ref kw), .val (.int (p2.toInt16.toInt32)), .val (.int (0 : Int32)), .unset, .unset, .unset, .unset, .unset] [])) _
          refine XS.aload X659.here hx rfl (hb hby at_490) rfl rfl ?_
          show Steps p.tables e below (T659.setTop (mkF m 492 #[.val (.int p1), .val (.int p2), .val (.ref b1), .val (.ref b212), .val (.ref b425), .val (.int ((p1 &&& (2147483647 : Int32)) % (26 : Int32))), .val (.ref kw), .val (.int (p2.toInt16.toInt32)), .val (.int (0 : Int32)), .unset, .unset, .unset, .unset, .unset] [(.ref kw)])) _
          refine XS.iload X659.here hx rfl (hb hby at_492) rfl ?_
          show Steps p.tables e below (T659.setTop (mkF m 494 #[.val (.int p1), .val (.int p2), .val (.ref b1), .val (.ref b212), .val (.ref b425), .val (.int ((p1 &&& (2147483647 : Int32)) % (26 : Int32))), .val (.ref kw), .val (.int (p2.toInt16.toInt32)), .val (.int (0 : Int32)), .unset, .unset, .unset, .unset, .unset] [(.int (p2.toInt16.toInt32)), (.ref kw)])) _
          refine st678.trans ?_
          show Steps p.tables e below (T678.setTop (mkF m 497 #[.val (.int p1), .val (.int p2), .val (.ref b1), .val (.ref b212), .val (.ref b425), .val (.int ((p1 &&& (2147483647 : Int32)) % (26 : Int32))), .val (.ref kw), .val (.int (p2.toInt16.toInt32)), .val (.int (0 : Int32)), .unset, .unset, .unset, .unset, .unset] [(.int (fsu (p2.toInt16.toInt32) lo hi))])) _
          refine XS.iload X678.here hx rfl (hb hby at_497) rfl ?_
          show Steps p.tables e below (T678.setTop (mkF m 499 #[.val (.int p1), .val (.int p2), .val (.ref b1), .val (.ref b212), .val (.ref b425), .val (.int ((p1 &&& (2147483647 : Int32)) % (26 : Int32))), .val (.ref kw), .val (.int (p2.toInt16.toInt32)), .val (.int (0 : Int32)), .unset, .unset, .unset, .unset, .unset] [(.int (0 : Int32)), (.int (fsu (p2.toInt16.toInt32) lo hi))])) _
          refine XS.icmpNo X678.here hx rfl (hb hby at_499) rfl (teq hs680).2 ?_
          show Steps p.tables e below (T678.setTop (mkF m 502 #[.val (.int p1), .val (.int p2), .val (.ref b1), .val (.ref b212), .val (.ref b425), .val (.int ((p1 &&& (2147483647 : Int32)) % (26 : Int32))), .val (.ref kw), .val (.int (p2.toInt16.toInt32)), .val (.int (0 : Int32)), .unset, .unset, .unset, .unset, .unset] [])) _
          refine XS.iconst X678.here hx rfl (hb hby at_502) ?_
          show Steps p.tables e below (T678.setTop (mkF m 503 #[.val (.int p1), .val (.int p2), .val (.ref b1), .val (.ref b212), .val (.ref b425), .val (.int ((p1 &&& (2147483647 : Int32)) % (26 : Int32))), .val (.ref kw), .val (.int (p2.toInt16.toInt32)), .val (.int (0 : Int32)), .unset, .unset, .unset, .unset, .unset] [(.int (1 : Int32))])) _
          refine XS.goto X678.here hx rfl (pc0 := 503) (pc' := 507) rfl (hb hby at_503) (by decide) (by decide) ?_
          exact k)
        exact kj ⟨(0 : Int32), _, T678, N679, X678, e678, pre681⟩
      ·  -- pc 480: not hi < (p2.toInt16.toInt32)
        -- pc 494: ApiKey.supports by rmsu
        obtain ⟨cq682, kq682, q682a, q682b, q682c⟩ := isOf hZ e659 (hE.ext f660.2)
        obtain ⟨_, _, ⟨T682, L682, k682, n682⟩, -, X682, ⟨Lc682, hQ682, l682, y682, z682⟩, st682⟩ := X659.virtualBack hx (y := (⟨"com/example/consort/consort/protocol/ApiKey", "supports", "(S)Z"⟩ : MethodName)) (z := (⟨"com/example/consort/consort/protocol/ApiKey", "supports", "(S)Z"⟩ : MethodName)) hown (mvT hZ (hw _ (List.mem_of_getElem? (i := 58) rfl))) (mvT hZ (hw _ (List.mem_of_getElem? (i := 59) rfl))) (notFace_of_selects (args := #[]) (mvT hZ (hw _ (List.mem_of_getElem? (i := 61) rfl)))) (mvT hZ (hw _ (List.mem_of_getElem? (i := 61) rfl))) (mvT hZ (hw _ (List.mem_of_getElem? (i := 60) rfl))) (by decide) (backOf (W := 0) (rmsu l Z a0 hw [] kw (p2.toInt16.toInt32) lo hi h659 n0 zs664 (hL.ext f660.2) (hH.ext f660.2)) hZ (hw _ (List.mem_of_getElem? (i := 62) rfl)) (hw _ (List.mem_of_getElem? (i := 3) rfl)) (by decide) (by decide)) q682a q682c (g := (mkF m 494 #[.val (.int p1), .val (.int p2), .val (.ref b1), .val (.ref b212), .val (.ref b425), .val (.int ((p1 &&& (2147483647 : Int32)) % (26 : Int32))), .val (.ref kw), .val (.int (p2.toInt16.toInt32)), .val (.int (1 : Int32)), .unset, .unset, .unset, .unset, .unset] [(.int (p2.toInt16.toInt32)), (.ref kw)])) rfl (by rw [hml]; rfl) (Steps.refl _) (argsL := [(.int (p2.toInt16.toInt32))]) (rest := []) (lenOf pd_14 rfl) rfl (by show 2 * 0 + _ ≤ _; exact Nat.le_of_eq rfl) (hb hby at_494) (fun _ _ => ⟨rfl, e659, (by decide : 3 + 0 ≤ _), (by decide : 78 + 0 ≤ _)⟩)
        dsimp only [Pt.U, Pt.locs, Pt.cells, Pt.slots] at X682 l682 y682 z682 st682 hQ682
        subst y682 z682
        obtain ⟨rfl, N682q, e682⟩ := hQ682
        have N683 : Fr n0 L682 := by rw [l682]; exact Fr.app N665 N682q
        have hs684 : (fsu (p2.toInt16.toInt32) lo hi) = (1 : Int32) := (by unfold fsu; rw [if_neg hc670, if_neg hc677])
        have pre685 : ∀ t, Steps p.tables e below (T682.setTop (mkF m 507 #[.val (.int p1), .val (.int p2), .val (.ref b1), .val (.ref b212), .val (.ref b425), .val (.int ((p1 &&& (2147483647 : Int32)) % (26 : Int32))), .val (.ref kw), .val (.int (p2.toInt16.toInt32)), .val (.int (1 : Int32)), .unset, .unset, .unset, .unset, .unset] [(.int (1 : Int32))])) t → Steps p.tables e below (s₁.setTop (entryFrame m #[(.int p1), (.int p2)] maxLocals)) t := fun t k => pre676 t (by
          show Steps p.tables e below (T659.setTop (mkF m 480 #[.val (.int p1), .val (.int p2), .val (.ref b1), .val (.ref b212), .val (.ref b425), .val (.int ((p1 &&& (2147483647 : Int32)) % (26 : Int32))), .val (.ref kw), .val (.int (p2.toInt16.toInt32)), .unset, .unset, .unset, .unset, .unset, .unset] [(.int hi), (.int (p2.toInt16.toInt32))])) _
          refine XS.icmpNo X659.here hx rfl (hb hby at_480) rfl (flt hc677).2.2.1 ?_
          show Steps p.tables e below (T659.setTop (mkF m 483 #[.val (.int p1), .val (.int p2), .val (.ref b1), .val (.ref b212), .val (.ref b425), .val (.int ((p1 &&& (2147483647 : Int32)) % (26 : Int32))), .val (.ref kw), .val (.int (p2.toInt16.toInt32)), .unset, .unset, .unset, .unset, .unset, .unset] [])) _
          refine XS.iconst X659.here hx rfl (hb hby at_483) ?_
          show Steps p.tables e below (T659.setTop (mkF m 484 #[.val (.int p1), .val (.int p2), .val (.ref b1), .val (.ref b212), .val (.ref b425), .val (.int ((p1 &&& (2147483647 : Int32)) % (26 : Int32))), .val (.ref kw), .val (.int (p2.toInt16.toInt32)), .unset, .unset, .unset, .unset, .unset, .unset] [(.int (1 : Int32))])) _
          refine XS.goto X659.here hx rfl (pc0 := 484) (pc' := 488) rfl (hb hby at_484) (by decide) (by decide) ?_
          show Steps p.tables e below (T659.setTop (mkF m 488 #[.val (.int p1), .val (.int p2), .val (.ref b1), .val (.ref b212), .val (.ref b425), .val (.int ((p1 &&& (2147483647 : Int32)) % (26 : Int32))), .val (.ref kw), .val (.int (p2.toInt16.toInt32)), .unset, .unset, .unset, .unset, .unset, .unset] [(.int (1 : Int32))])) _
          refine XS.istore X659.here hx rfl (hb hby at_488) rfl (l' := #[.val (.int p1), .val (.int p2), .val (.ref b1), .val (.ref b212), .val (.ref b425), .val (.int ((p1 &&& (2147483647 : Int32)) % (26 : Int32))), .val (.ref kw), .val (.int (p2.toInt16.toInt32)), .val (.int (1 : Int32)), .unset, .unset, .unset, .unset, .unset]) rfl ?_
          show Steps p.tables e below (T659.setTop (mkF m 490 #[.val (.int p1), .val (.int p2), .val (.ref b1), .val (.ref b212), .val (.ref b425), .val (.int ((p1 &&& (2147483647 : Int32)) % (26 : Int32))), .val (.ref kw), .val (.int (p2.toInt16.toInt32)), .val (.int (1 : Int32)), .unset, .unset, .unset, .unset, .unset] [])) _
          refine XS.aload X659.here hx rfl (hb hby at_490) rfl rfl ?_
          show Steps p.tables e below (T659.setTop (mkF m 492 #[.val (.int p1), .val (.int p2), .val (.ref b1), .val (.ref b212), .val (.ref b425), .val (.int ((p1 &&& (2147483647 : Int32)) % (26 : Int32))), .val (.ref kw), .val (.int (p2.toInt16.toInt32)), .val (.int (1 : Int32)), .unset, .unset, .unset, .unset, .unset] [(.ref kw)])) _
          refine XS.iload X659.here hx rfl (hb hby at_492) rfl ?_
          show Steps p.tables e below (T659.setTop (mkF m 494 #[.val (.int p1), .val (.int p2), .val (.ref b1), .val (.ref b212), .val (.ref b425), .val (.int ((p1 &&& (2147483647 : Int32)) % (26 : Int32))), .val (.ref kw), .val (.int (p2.toInt16.toInt32)), .val (.int (1 : Int32)), .unset, .unset, .unset, .unset, .unset] [(.int (p2.toInt16.toInt32)), (.ref kw)])) _
          refine st682.trans ?_
          show Steps p.tables e below (T682.setTop (mkF m 497 #[.val (.int p1), .val (.int p2), .val (.ref b1), .val (.ref b212), .val (.ref b425), .val (.int ((p1 &&& (2147483647 : Int32)) % (26 : Int32))), .val (.ref kw), .val (.int (p2.toInt16.toInt32)), .val (.int (1 : Int32)), .unset, .unset, .unset, .unset, .unset] [(.int (fsu (p2.toInt16.toInt32) lo hi))])) _
          refine XS.iload X682.here hx rfl (hb hby at_497) rfl ?_
          show Steps p.tables e below (T682.setTop (mkF m 499 #[.val (.int p1), .val (.int p2), .val (.ref b1), .val (.ref b212), .val (.ref b425), .val (.int ((p1 &&& (2147483647 : Int32)) % (26 : Int32))), .val (.ref kw), .val (.int (p2.toInt16.toInt32)), .val (.int (1 : Int32)), .unset, .unset, .unset, .unset, .unset] [(.int (1 : Int32)), (.int (fsu (p2.toInt16.toInt32) lo hi))])) _
          refine XS.icmpNo X682.here hx rfl (hb hby at_499) rfl (teq hs684).2 ?_
          show Steps p.tables e below (T682.setTop (mkF m 502 #[.val (.int p1), .val (.int p2), .val (.ref b1), .val (.ref b212), .val (.ref b425), .val (.int ((p1 &&& (2147483647 : Int32)) % (26 : Int32))), .val (.ref kw), .val (.int (p2.toInt16.toInt32)), .val (.int (1 : Int32)), .unset, .unset, .unset, .unset, .unset] [])) _
          refine XS.iconst X682.here hx rfl (hb hby at_502) ?_
          show Steps p.tables e below (T682.setTop (mkF m 503 #[.val (.int p1), .val (.int p2), .val (.ref b1), .val (.ref b212), .val (.ref b425), .val (.int ((p1 &&& (2147483647 : Int32)) % (26 : Int32))), .val (.ref kw), .val (.int (p2.toInt16.toInt32)), .val (.int (1 : Int32)), .unset, .unset, .unset, .unset, .unset] [(.int (1 : Int32))])) _
          refine XS.goto X682.here hx rfl (pc0 := 503) (pc' := 507) rfl (hb hby at_503) (by decide) (by decide) ?_
          exact k)
        exact kj ⟨(1 : Int32), _, T682, N683, X682, e682, pre685⟩
  ·  -- from the meeting at pc 507
    rintro ⟨ex8, lcj669, Tj669, Nj669, Xj669, ej669, prej669⟩
    obtain ⟨car686, Aar686, qar686, Sar686, Nar686, Har686, Gar686⟩ := id f662
    have hinar686 : ¬ (((p1 &&& (2147483647 : Int32)) % (26 : Int32)) < 0 ∨ car686.slots.size ≤ (((p1 &&& (2147483647 : Int32)) % (26 : Int32))).toNatClampNeg) := inb_of Sar686 hnn.2
    have hatar686 : car686.slots[(((p1 &&& (2147483647 : Int32)) % (26 : Int32))).toNatClampNeg]? = some (.int lo) := Har686.at hinar686 hk2
    -- pc 516: ApiKey.supports by rmsu
    obtain ⟨cq687, kq687, q687a, q687b, q687c⟩ := isOf hZ ej669 (hE.ext f660.2)
    obtain ⟨_, _, ⟨T687, L687, k687, n687⟩, -, X687, ⟨Lc687, hQ687, l687, y687, z687⟩, st687⟩ := Xj669.virtualBack hx (y := (⟨"com/example/consort/consort/protocol/ApiKey", "supports", "(S)Z"⟩ : MethodName)) (z := (⟨"com/example/consort/consort/protocol/ApiKey", "supports", "(S)Z"⟩ : MethodName)) hown (mvT hZ (hw _ (List.mem_of_getElem? (i := 58) rfl))) (mvT hZ (hw _ (List.mem_of_getElem? (i := 59) rfl))) (notFace_of_selects (args := #[]) (mvT hZ (hw _ (List.mem_of_getElem? (i := 61) rfl)))) (mvT hZ (hw _ (List.mem_of_getElem? (i := 61) rfl))) (mvT hZ (hw _ (List.mem_of_getElem? (i := 60) rfl))) (by decide) (backOf (W := 0) (rmsu l Z a0 hw [] kw (lo.toInt16.toInt32) lo hi h659 n0 zs664 (hL.ext f660.2) (hH.ext f660.2)) hZ (hw _ (List.mem_of_getElem? (i := 62) rfl)) (hw _ (List.mem_of_getElem? (i := 3) rfl)) (by decide) (by decide)) q687a q687c (g := (mkF m 516 #[.val (.int p1), .val (.int p2), .val (.ref b1), .val (.ref b212), .val (.ref b425), .val (.int ((p1 &&& (2147483647 : Int32)) % (26 : Int32))), .val (.ref kw), .val (.int (p2.toInt16.toInt32)), .val (.int ex8), .val (.int (1 : Int32)), .unset, .unset, .unset, .unset] [(.int (lo.toInt16.toInt32)), (.ref kw)])) rfl (by rw [hml]; rfl) (Steps.refl _) (argsL := [(.int (lo.toInt16.toInt32))]) (rest := []) (lenOf pd_14 rfl) rfl (by show 2 * 0 + _ ≤ _; exact Nat.le_of_eq rfl) (hb hby at_516) (fun _ _ => ⟨rfl, ej669, (by decide : 3 + 0 ≤ _), (by decide : 78 + 0 ≤ _)⟩)
    dsimp only [Pt.U, Pt.locs, Pt.cells, Pt.slots] at X687 l687 y687 z687 st687 hQ687
    subst y687 z687
    obtain ⟨rfl, N687q, e687⟩ := hQ687
    have N688 : Fr n0 L687 := by rw [l687]; exact Fr.app Nj669 N687q
    obtain ⟨car689, Aar689, qar689, Sar689, Nar689, Har689, Gar689⟩ := id V659
    have hinar689 : ¬ (((p1 &&& (2147483647 : Int32)) % (26 : Int32)) < 0 ∨ car689.slots.size ≤ (((p1 &&& (2147483647 : Int32)) % (26 : Int32))).toNatClampNeg) := inb_of Sar689 hnn.2
    have hatar689 : car689.slots[(((p1 &&& (2147483647 : Int32)) % (26 : Int32))).toNatClampNeg]? = some (.int hi) := Har689.at hinar689 hk3
    -- pc 529: ApiKey.supports by rmsu
    obtain ⟨cq690, kq690, q690a, q690b, q690c⟩ := isOf hZ e687 (hE.ext f660.2)
    obtain ⟨_, _, ⟨T690, L690, k690, n690⟩, -, X690, ⟨Lc690, hQ690, l690, y690, z690⟩, st690⟩ := X687.virtualBack hx (y := (⟨"com/example/consort/consort/protocol/ApiKey", "supports", "(S)Z"⟩ : MethodName)) (z := (⟨"com/example/consort/consort/protocol/ApiKey", "supports", "(S)Z"⟩ : MethodName)) hown (mvT hZ (hw _ (List.mem_of_getElem? (i := 58) rfl))) (mvT hZ (hw _ (List.mem_of_getElem? (i := 59) rfl))) (notFace_of_selects (args := #[]) (mvT hZ (hw _ (List.mem_of_getElem? (i := 61) rfl)))) (mvT hZ (hw _ (List.mem_of_getElem? (i := 61) rfl))) (mvT hZ (hw _ (List.mem_of_getElem? (i := 60) rfl))) (by decide) (backOf (W := 0) (rmsu l Z a0 hw [] kw (hi.toInt16.toInt32) lo hi h659 n0 zs664 (hL.ext f660.2) (hH.ext f660.2)) hZ (hw _ (List.mem_of_getElem? (i := 62) rfl)) (hw _ (List.mem_of_getElem? (i := 3) rfl)) (by decide) (by decide)) q690a q690c (g := (mkF m 529 #[.val (.int p1), .val (.int p2), .val (.ref b1), .val (.ref b212), .val (.ref b425), .val (.int ((p1 &&& (2147483647 : Int32)) % (26 : Int32))), .val (.ref kw), .val (.int (p2.toInt16.toInt32)), .val (.int ex8), .val (.int (1 : Int32)), .val (.int (fsu (lo.toInt16.toInt32) lo hi)), .unset, .unset, .unset] [(.int (hi.toInt16.toInt32)), (.ref kw)])) rfl (by rw [hml]; rfl) (Steps.refl _) (argsL := [(.int (hi.toInt16.toInt32))]) (rest := []) (lenOf pd_14 rfl) rfl (by show 2 * 0 + _ ≤ _; exact Nat.le_of_eq rfl) (hb hby at_529) (fun _ _ => ⟨rfl, e687, (by decide : 3 + 0 ≤ _), (by decide : 78 + 0 ≤ _)⟩)
    dsimp only [Pt.U, Pt.locs, Pt.cells, Pt.slots] at X690 l690 y690 z690 st690 hQ690
    subst y690 z690
    obtain ⟨rfl, N690q, e690⟩ := hQ690
    have N691 : Fr n0 L690 := by rw [l690]; exact Fr.app N688 N690q
    obtain ⟨car692, Aar692, qar692, Sar692, Nar692, Har692, Gar692⟩ := id f662
    have hinar692 : ¬ (((p1 &&& (2147483647 : Int32)) % (26 : Int32)) < 0 ∨ car692.slots.size ≤ (((p1 &&& (2147483647 : Int32)) % (26 : Int32))).toNatClampNeg) := inb_of Sar692 hnn.2
    have hatar692 : car692.slots[(((p1 &&& (2147483647 : Int32)) % (26 : Int32))).toNatClampNeg]? = some (.int lo) := Har692.at hinar692 hk2
    -- pc 543: ApiKey.supports by rmsu
    obtain ⟨cq693, kq693, q693a, q693b, q693c⟩ := isOf hZ e690 (hE.ext f660.2)
    obtain ⟨_, _, ⟨T693, L693, k693, n693⟩, -, X693, ⟨Lc693, hQ693, l693, y693, z693⟩, st693⟩ := X690.virtualBack hx (y := (⟨"com/example/consort/consort/protocol/ApiKey", "supports", "(S)Z"⟩ : MethodName)) (z := (⟨"com/example/consort/consort/protocol/ApiKey", "supports", "(S)Z"⟩ : MethodName)) hown (mvT hZ (hw _ (List.mem_of_getElem? (i := 58) rfl))) (mvT hZ (hw _ (List.mem_of_getElem? (i := 59) rfl))) (notFace_of_selects (args := #[]) (mvT hZ (hw _ (List.mem_of_getElem? (i := 61) rfl)))) (mvT hZ (hw _ (List.mem_of_getElem? (i := 61) rfl))) (mvT hZ (hw _ (List.mem_of_getElem? (i := 60) rfl))) (by decide) (backOf (W := 0) (rmsu l Z a0 hw [] kw ((lo - (1 : Int32)).toInt16.toInt32) lo hi h659 n0 zs664 (hL.ext f660.2) (hH.ext f660.2)) hZ (hw _ (List.mem_of_getElem? (i := 62) rfl)) (hw _ (List.mem_of_getElem? (i := 3) rfl)) (by decide) (by decide)) q693a q693c (g := (mkF m 543 #[.val (.int p1), .val (.int p2), .val (.ref b1), .val (.ref b212), .val (.ref b425), .val (.int ((p1 &&& (2147483647 : Int32)) % (26 : Int32))), .val (.ref kw), .val (.int (p2.toInt16.toInt32)), .val (.int ex8), .val (.int (1 : Int32)), .val (.int (fsu (lo.toInt16.toInt32) lo hi)), .val (.int (fsu (hi.toInt16.toInt32) lo hi)), .unset, .unset] [(.int ((lo - (1 : Int32)).toInt16.toInt32)), (.ref kw)])) rfl (by rw [hml]; rfl) (Steps.refl _) (argsL := [(.int ((lo - (1 : Int32)).toInt16.toInt32))]) (rest := []) (lenOf pd_14 rfl) rfl (by show 2 * 0 + _ ≤ _; exact Nat.le_of_eq rfl) (hb hby at_543) (fun _ _ => ⟨rfl, e690, (by decide : 3 + 0 ≤ _), (by decide : 78 + 0 ≤ _)⟩)
    dsimp only [Pt.U, Pt.locs, Pt.cells, Pt.slots] at X693 l693 y693 z693 st693 hQ693
    subst y693 z693
    obtain ⟨rfl, N693q, e693⟩ := hQ693
    have N694 : Fr n0 L693 := by rw [l693]; exact Fr.app N691 N693q
    have hs695 : (fsu ((lo - (1 : Int32)).toInt16.toInt32) lo hi) = (0 : Int32) := hsu.2.2.1
    obtain ⟨car696, Aar696, qar696, Sar696, Nar696, Har696, Gar696⟩ := id V659
    have hinar696 : ¬ (((p1 &&& (2147483647 : Int32)) % (26 : Int32)) < 0 ∨ car696.slots.size ≤ (((p1 &&& (2147483647 : Int32)) % (26 : Int32))).toNatClampNeg) := inb_of Sar696 hnn.2
    have hatar696 : car696.slots[(((p1 &&& (2147483647 : Int32)) % (26 : Int32))).toNatClampNeg]? = some (.int hi) := Har696.at hinar696 hk3
    -- pc 566: ApiKey.supports by rmsu
    obtain ⟨cq697, kq697, q697a, q697b, q697c⟩ := isOf hZ e693 (hE.ext f660.2)
    obtain ⟨_, _, ⟨T697, L697, k697, n697⟩, -, X697, ⟨Lc697, hQ697, l697, y697, z697⟩, st697⟩ := X693.virtualBack hx (y := (⟨"com/example/consort/consort/protocol/ApiKey", "supports", "(S)Z"⟩ : MethodName)) (z := (⟨"com/example/consort/consort/protocol/ApiKey", "supports", "(S)Z"⟩ : MethodName)) hown (mvT hZ (hw _ (List.mem_of_getElem? (i := 58) rfl))) (mvT hZ (hw _ (List.mem_of_getElem? (i := 59) rfl))) (notFace_of_selects (args := #[]) (mvT hZ (hw _ (List.mem_of_getElem? (i := 61) rfl)))) (mvT hZ (hw _ (List.mem_of_getElem? (i := 61) rfl))) (mvT hZ (hw _ (List.mem_of_getElem? (i := 60) rfl))) (by decide) (backOf (W := 0) (rmsu l Z a0 hw [] kw ((hi + (1 : Int32)).toInt16.toInt32) lo hi h659 n0 zs664 (hL.ext f660.2) (hH.ext f660.2)) hZ (hw _ (List.mem_of_getElem? (i := 62) rfl)) (hw _ (List.mem_of_getElem? (i := 3) rfl)) (by decide) (by decide)) q697a q697c (g := (mkF m 566 #[.val (.int p1), .val (.int p2), .val (.ref b1), .val (.ref b212), .val (.ref b425), .val (.int ((p1 &&& (2147483647 : Int32)) % (26 : Int32))), .val (.ref kw), .val (.int (p2.toInt16.toInt32)), .val (.int ex8), .val (.int (1 : Int32)), .val (.int (fsu (lo.toInt16.toInt32) lo hi)), .val (.int (fsu (hi.toInt16.toInt32) lo hi)), .val (.int (1 : Int32)), .unset] [(.int ((hi + (1 : Int32)).toInt16.toInt32)), (.ref kw)])) rfl (by rw [hml]; rfl) (Steps.refl _) (argsL := [(.int ((hi + (1 : Int32)).toInt16.toInt32))]) (rest := []) (lenOf pd_14 rfl) rfl (by show 2 * 0 + _ ≤ _; exact Nat.le_of_eq rfl) (hb hby at_566) (fun _ _ => ⟨rfl, e693, (by decide : 3 + 0 ≤ _), (by decide : 78 + 0 ≤ _)⟩)
    dsimp only [Pt.U, Pt.locs, Pt.cells, Pt.slots] at X697 l697 y697 z697 st697 hQ697
    subst y697 z697
    obtain ⟨rfl, N697q, e697⟩ := hQ697
    have N698 : Fr n0 L697 := by rw [l697]; exact Fr.app N694 N697q
    have hs699 : (fsu ((hi + (1 : Int32)).toInt16.toInt32) lo hi) = (0 : Int32) := hsu.2.2.2
    have hs700 : ¬ ((fsu (lo.toInt16.toInt32) lo hi) = (0 : Int32)) := (by rw [hsu.1]; decide)
    have hs701 : ¬ ((fsu (hi.toInt16.toInt32) lo hi) = (0 : Int32)) := (by rw [hsu.2.1]; decide)
    obtain ⟨fs, hr, hrun, hended, hW, hsame⟩ := X697.leave (v := some (.int (1 : Int32))) (fun h => by rw [Bd.returns] at h; cases h) Bd.notSynchronized
    refine ⟨_, _, prej669 _ ?_, hrun, hended, _, _, rfl, ?_, ⟨_, rfl⟩, hW, hsame.mono (by decide) (by decide)⟩
    · show Steps p.tables e below (Tj669.setTop (mkF m 507 #[.val (.int p1), .val (.int p2), .val (.ref b1), .val (.ref b212), .val (.ref b425), .val (.int ((p1 &&& (2147483647 : Int32)) % (26 : Int32))), .val (.ref kw), .val (.int (p2.toInt16.toInt32)), .val (.int ex8), .unset, .unset, .unset, .unset, .unset] [(.int (1 : Int32))])) _
      refine XS.istore Xj669.here hx rfl (hb hby at_507) rfl (l' := #[.val (.int p1), .val (.int p2), .val (.ref b1), .val (.ref b212), .val (.ref b425), .val (.int ((p1 &&& (2147483647 : Int32)) % (26 : Int32))), .val (.ref kw), .val (.int (p2.toInt16.toInt32)), .val (.int ex8), .val (.int (1 : Int32)), .unset, .unset, .unset, .unset]) rfl ?_
      show Steps p.tables e below (Tj669.setTop (mkF m 509 #[.val (.int p1), .val (.int p2), .val (.ref b1), .val (.ref b212), .val (.ref b425), .val (.int ((p1 &&& (2147483647 : Int32)) % (26 : Int32))), .val (.ref kw), .val (.int (p2.toInt16.toInt32)), .val (.int ex8), .val (.int (1 : Int32)), .unset, .unset, .unset, .unset] [])) _
      refine XS.aload Xj669.here hx rfl (hb hby at_509) rfl rfl ?_
      show Steps p.tables e below (Tj669.setTop (mkF m 511 #[.val (.int p1), .val (.int p2), .val (.ref b1), .val (.ref b212), .val (.ref b425), .val (.int ((p1 &&& (2147483647 : Int32)) % (26 : Int32))), .val (.ref kw), .val (.int (p2.toInt16.toInt32)), .val (.int ex8), .val (.int (1 : Int32)), .unset, .unset, .unset, .unset] [(.ref kw)])) _
      refine XS.aloadN Xj669.here hx rfl (hb hby at_511) rfl rfl ?_
      show Steps p.tables e below (Tj669.setTop (mkF m 512 #[.val (.int p1), .val (.int p2), .val (.ref b1), .val (.ref b212), .val (.ref b425), .val (.int ((p1 &&& (2147483647 : Int32)) % (26 : Int32))), .val (.ref kw), .val (.int (p2.toInt16.toInt32)), .val (.int ex8), .val (.int (1 : Int32)), .unset, .unset, .unset, .unset] [(.ref b212), (.ref kw)])) _
      refine XS.iload Xj669.here hx rfl (hb hby at_512) rfl ?_
      show Steps p.tables e below (Tj669.setTop (mkF m 514 #[.val (.int p1), .val (.int p2), .val (.ref b1), .val (.ref b212), .val (.ref b425), .val (.int ((p1 &&& (2147483647 : Int32)) % (26 : Int32))), .val (.ref kw), .val (.int (p2.toInt16.toInt32)), .val (.int ex8), .val (.int (1 : Int32)), .unset, .unset, .unset, .unset] [(.int ((p1 &&& (2147483647 : Int32)) % (26 : Int32))), (.ref b212), (.ref kw)])) _
      refine Xj669.iaload hx (j := ((p1 &&& (2147483647 : Int32)) % (26 : Int32))) (v := (.int lo)) (by rw [ej669]; exact Aar686.1) (State.isArrayOf_alike hZ.alike Aar686.2.1) Aar686.2.2 hinar686 hatar686 (g := (mkF m 514 #[.val (.int p1), .val (.int p2), .val (.ref b1), .val (.ref b212), .val (.ref b425), .val (.int ((p1 &&& (2147483647 : Int32)) % (26 : Int32))), .val (.ref kw), .val (.int (p2.toInt16.toInt32)), .val (.int ex8), .val (.int (1 : Int32)), .unset, .unset, .unset, .unset] [(.int ((p1 &&& (2147483647 : Int32)) % (26 : Int32))), (.ref b212), (.ref kw)])) rfl rfl (hb hby at_514) _ ?_
      show Steps p.tables e below (Tj669.setTop (mkF m 515 #[.val (.int p1), .val (.int p2), .val (.ref b1), .val (.ref b212), .val (.ref b425), .val (.int ((p1 &&& (2147483647 : Int32)) % (26 : Int32))), .val (.ref kw), .val (.int (p2.toInt16.toInt32)), .val (.int ex8), .val (.int (1 : Int32)), .unset, .unset, .unset, .unset] [(.int lo), (.ref kw)])) _
      refine XS.i2s Xj669.here hx rfl (hb hby at_515) rfl ?_
      show Steps p.tables e below (Tj669.setTop (mkF m 516 #[.val (.int p1), .val (.int p2), .val (.ref b1), .val (.ref b212), .val (.ref b425), .val (.int ((p1 &&& (2147483647 : Int32)) % (26 : Int32))), .val (.ref kw), .val (.int (p2.toInt16.toInt32)), .val (.int ex8), .val (.int (1 : Int32)), .unset, .unset, .unset, .unset] [(.int (lo.toInt16.toInt32)), (.ref kw)])) _
      refine st687.trans ?_
      show Steps p.tables e below (T687.setTop (mkF m 519 #[.val (.int p1), .val (.int p2), .val (.ref b1), .val (.ref b212), .val (.ref b425), .val (.int ((p1 &&& (2147483647 : Int32)) % (26 : Int32))), .val (.ref kw), .val (.int (p2.toInt16.toInt32)), .val (.int ex8), .val (.int (1 : Int32)), .unset, .unset, .unset, .unset] [(.int (fsu (lo.toInt16.toInt32) lo hi))])) _
      refine XS.istore X687.here hx rfl (hb hby at_519) rfl (l' := #[.val (.int p1), .val (.int p2), .val (.ref b1), .val (.ref b212), .val (.ref b425), .val (.int ((p1 &&& (2147483647 : Int32)) % (26 : Int32))), .val (.ref kw), .val (.int (p2.toInt16.toInt32)), .val (.int ex8), .val (.int (1 : Int32)), .val (.int (fsu (lo.toInt16.toInt32) lo hi)), .unset, .unset, .unset]) rfl ?_
      show Steps p.tables e below (T687.setTop (mkF m 521 #[.val (.int p1), .val (.int p2), .val (.ref b1), .val (.ref b212), .val (.ref b425), .val (.int ((p1 &&& (2147483647 : Int32)) % (26 : Int32))), .val (.ref kw), .val (.int (p2.toInt16.toInt32)), .val (.int ex8), .val (.int (1 : Int32)), .val (.int (fsu (lo.toInt16.toInt32) lo hi)), .unset, .unset, .unset] [])) _
      refine XS.aload X687.here hx rfl (hb hby at_521) rfl rfl ?_
      show Steps p.tables e below (T687.setTop (mkF m 523 #[.val (.int p1), .val (.int p2), .val (.ref b1), .val (.ref b212), .val (.ref b425), .val (.int ((p1 &&& (2147483647 : Int32)) % (26 : Int32))), .val (.ref kw), .val (.int (p2.toInt16.toInt32)), .val (.int ex8), .val (.int (1 : Int32)), .val (.int (fsu (lo.toInt16.toInt32) lo hi)), .unset, .unset, .unset] [(.ref kw)])) _
      refine XS.aload X687.here hx rfl (hb hby at_523) rfl rfl ?_
      show Steps p.tables e below (T687.setTop (mkF m 525 #[.val (.int p1), .val (.int p2), .val (.ref b1), .val (.ref b212), .val (.ref b425), .val (.int ((p1 &&& (2147483647 : Int32)) % (26 : Int32))), .val (.ref kw), .val (.int (p2.toInt16.toInt32)), .val (.int ex8), .val (.int (1 : Int32)), .val (.int (fsu (lo.toInt16.toInt32) lo hi)), .unset, .unset, .unset] [(.ref b425), (.ref kw)])) _
      refine XS.iload X687.here hx rfl (hb hby at_525) rfl ?_
      show Steps p.tables e below (T687.setTop (mkF m 527 #[.val (.int p1), .val (.int p2), .val (.ref b1), .val (.ref b212), .val (.ref b425), .val (.int ((p1 &&& (2147483647 : Int32)) % (26 : Int32))), .val (.ref kw), .val (.int (p2.toInt16.toInt32)), .val (.int ex8), .val (.int (1 : Int32)), .val (.int (fsu (lo.toInt16.toInt32) lo hi)), .unset, .unset, .unset] [(.int ((p1 &&& (2147483647 : Int32)) % (26 : Int32))), (.ref b425), (.ref kw)])) _
      refine X687.iaload hx (j := ((p1 &&& (2147483647 : Int32)) % (26 : Int32))) (v := (.int hi)) (by rw [e687]; exact Aar689.1) (State.isArrayOf_alike hZ.alike Aar689.2.1) Aar689.2.2 hinar689 hatar689 (g := (mkF m 527 #[.val (.int p1), .val (.int p2), .val (.ref b1), .val (.ref b212), .val (.ref b425), .val (.int ((p1 &&& (2147483647 : Int32)) % (26 : Int32))), .val (.ref kw), .val (.int (p2.toInt16.toInt32)), .val (.int ex8), .val (.int (1 : Int32)), .val (.int (fsu (lo.toInt16.toInt32) lo hi)), .unset, .unset, .unset] [(.int ((p1 &&& (2147483647 : Int32)) % (26 : Int32))), (.ref b425), (.ref kw)])) rfl rfl (hb hby at_527) _ ?_
      show Steps p.tables e below (T687.setTop (mkF m 528 #[.val (.int p1), .val (.int p2), .val (.ref b1), .val (.ref b212), .val (.ref b425), .val (.int ((p1 &&& (2147483647 : Int32)) % (26 : Int32))), .val (.ref kw), .val (.int (p2.toInt16.toInt32)), .val (.int ex8), .val (.int (1 : Int32)), .val (.int (fsu (lo.toInt16.toInt32) lo hi)), .unset, .unset, .unset] [(.int hi), (.ref kw)])) _
      refine XS.i2s X687.here hx rfl (hb hby at_528) rfl ?_
      show Steps p.tables e below (T687.setTop (mkF m 529 #[.val (.int p1), .val (.int p2), .val (.ref b1), .val (.ref b212), .val (.ref b425), .val (.int ((p1 &&& (2147483647 : Int32)) % (26 : Int32))), .val (.ref kw), .val (.int (p2.toInt16.toInt32)), .val (.int ex8), .val (.int (1 : Int32)), .val (.int (fsu (lo.toInt16.toInt32) lo hi)), .unset, .unset, .unset] [(.int (hi.toInt16.toInt32)), (.ref kw)])) _
      refine st690.trans ?_
      show Steps p.tables e below (T690.setTop (mkF m 532 #[.val (.int p1), .val (.int p2), .val (.ref b1), .val (.ref b212), .val (.ref b425), .val (.int ((p1 &&& (2147483647 : Int32)) % (26 : Int32))), .val (.ref kw), .val (.int (p2.toInt16.toInt32)), .val (.int ex8), .val (.int (1 : Int32)), .val (.int (fsu (lo.toInt16.toInt32) lo hi)), .unset, .unset, .unset] [(.int (fsu (hi.toInt16.toInt32) lo hi))])) _
      refine XS.istore X690.here hx rfl (hb hby at_532) rfl (l' := #[.val (.int p1), .val (.int p2), .val (.ref b1), .val (.ref b212), .val (.ref b425), .val (.int ((p1 &&& (2147483647 : Int32)) % (26 : Int32))), .val (.ref kw), .val (.int (p2.toInt16.toInt32)), .val (.int ex8), .val (.int (1 : Int32)), .val (.int (fsu (lo.toInt16.toInt32) lo hi)), .val (.int (fsu (hi.toInt16.toInt32) lo hi)), .unset, .unset]) rfl ?_
      show Steps p.tables e below (T690.setTop (mkF m 534 #[.val (.int p1), .val (.int p2), .val (.ref b1), .val (.ref b212), .val (.ref b425), .val (.int ((p1 &&& (2147483647 : Int32)) % (26 : Int32))), .val (.ref kw), .val (.int (p2.toInt16.toInt32)), .val (.int ex8), .val (.int (1 : Int32)), .val (.int (fsu (lo.toInt16.toInt32) lo hi)), .val (.int (fsu (hi.toInt16.toInt32) lo hi)), .unset, .unset] [])) _
      refine XS.aload X690.here hx rfl (hb hby at_534) rfl rfl ?_
      show Steps p.tables e below (T690.setTop (mkF m 536 #[.val (.int p1), .val (.int p2), .val (.ref b1), .val (.ref b212), .val (.ref b425), .val (.int ((p1 &&& (2147483647 : Int32)) % (26 : Int32))), .val (.ref kw), .val (.int (p2.toInt16.toInt32)), .val (.int ex8), .val (.int (1 : Int32)), .val (.int (fsu (lo.toInt16.toInt32) lo hi)), .val (.int (fsu (hi.toInt16.toInt32) lo hi)), .unset, .unset] [(.ref kw)])) _
      refine XS.aloadN X690.here hx rfl (hb hby at_536) rfl rfl ?_
      show Steps p.tables e below (T690.setTop (mkF m 537 #[.val (.int p1), .val (.int p2), .val (.ref b1), .val (.ref b212), .val (.ref b425), .val (.int ((p1 &&& (2147483647 : Int32)) % (26 : Int32))), .val (.ref kw), .val (.int (p2.toInt16.toInt32)), .val (.int ex8), .val (.int (1 : Int32)), .val (.int (fsu (lo.toInt16.toInt32) lo hi)), .val (.int (fsu (hi.toInt16.toInt32) lo hi)), .unset, .unset] [(.ref b212), (.ref kw)])) _
      refine XS.iload X690.here hx rfl (hb hby at_537) rfl ?_
      show Steps p.tables e below (T690.setTop (mkF m 539 #[.val (.int p1), .val (.int p2), .val (.ref b1), .val (.ref b212), .val (.ref b425), .val (.int ((p1 &&& (2147483647 : Int32)) % (26 : Int32))), .val (.ref kw), .val (.int (p2.toInt16.toInt32)), .val (.int ex8), .val (.int (1 : Int32)), .val (.int (fsu (lo.toInt16.toInt32) lo hi)), .val (.int (fsu (hi.toInt16.toInt32) lo hi)), .unset, .unset] [(.int ((p1 &&& (2147483647 : Int32)) % (26 : Int32))), (.ref b212), (.ref kw)])) _
      refine X690.iaload hx (j := ((p1 &&& (2147483647 : Int32)) % (26 : Int32))) (v := (.int lo)) (by rw [e690]; exact Aar692.1) (State.isArrayOf_alike hZ.alike Aar692.2.1) Aar692.2.2 hinar692 hatar692 (g := (mkF m 539 #[.val (.int p1), .val (.int p2), .val (.ref b1), .val (.ref b212), .val (.ref b425), .val (.int ((p1 &&& (2147483647 : Int32)) % (26 : Int32))), .val (.ref kw), .val (.int (p2.toInt16.toInt32)), .val (.int ex8), .val (.int (1 : Int32)), .val (.int (fsu (lo.toInt16.toInt32) lo hi)), .val (.int (fsu (hi.toInt16.toInt32) lo hi)), .unset, .unset] [(.int ((p1 &&& (2147483647 : Int32)) % (26 : Int32))), (.ref b212), (.ref kw)])) rfl rfl (hb hby at_539) _ ?_
      show Steps p.tables e below (T690.setTop (mkF m 540 #[.val (.int p1), .val (.int p2), .val (.ref b1), .val (.ref b212), .val (.ref b425), .val (.int ((p1 &&& (2147483647 : Int32)) % (26 : Int32))), .val (.ref kw), .val (.int (p2.toInt16.toInt32)), .val (.int ex8), .val (.int (1 : Int32)), .val (.int (fsu (lo.toInt16.toInt32) lo hi)), .val (.int (fsu (hi.toInt16.toInt32) lo hi)), .unset, .unset] [(.int lo), (.ref kw)])) _
      refine XS.iconst X690.here hx rfl (hb hby at_540) ?_
      show Steps p.tables e below (T690.setTop (mkF m 541 #[.val (.int p1), .val (.int p2), .val (.ref b1), .val (.ref b212), .val (.ref b425), .val (.int ((p1 &&& (2147483647 : Int32)) % (26 : Int32))), .val (.ref kw), .val (.int (p2.toInt16.toInt32)), .val (.int ex8), .val (.int (1 : Int32)), .val (.int (fsu (lo.toInt16.toInt32) lo hi)), .val (.int (fsu (hi.toInt16.toInt32) lo hi)), .unset, .unset] [(.int (1 : Int32)), (.int lo), (.ref kw)])) _
      refine XS.isub X690.here hx rfl (hb hby at_541) rfl ?_
      show Steps p.tables e below (T690.setTop (mkF m 542 #[.val (.int p1), .val (.int p2), .val (.ref b1), .val (.ref b212), .val (.ref b425), .val (.int ((p1 &&& (2147483647 : Int32)) % (26 : Int32))), .val (.ref kw), .val (.int (p2.toInt16.toInt32)), .val (.int ex8), .val (.int (1 : Int32)), .val (.int (fsu (lo.toInt16.toInt32) lo hi)), .val (.int (fsu (hi.toInt16.toInt32) lo hi)), .unset, .unset] [(.int (lo - (1 : Int32))), (.ref kw)])) _
      refine XS.i2s X690.here hx rfl (hb hby at_542) rfl ?_
      show Steps p.tables e below (T690.setTop (mkF m 543 #[.val (.int p1), .val (.int p2), .val (.ref b1), .val (.ref b212), .val (.ref b425), .val (.int ((p1 &&& (2147483647 : Int32)) % (26 : Int32))), .val (.ref kw), .val (.int (p2.toInt16.toInt32)), .val (.int ex8), .val (.int (1 : Int32)), .val (.int (fsu (lo.toInt16.toInt32) lo hi)), .val (.int (fsu (hi.toInt16.toInt32) lo hi)), .unset, .unset] [(.int ((lo - (1 : Int32)).toInt16.toInt32)), (.ref kw)])) _
      refine st693.trans ?_
      show Steps p.tables e below (T693.setTop (mkF m 546 #[.val (.int p1), .val (.int p2), .val (.ref b1), .val (.ref b212), .val (.ref b425), .val (.int ((p1 &&& (2147483647 : Int32)) % (26 : Int32))), .val (.ref kw), .val (.int (p2.toInt16.toInt32)), .val (.int ex8), .val (.int (1 : Int32)), .val (.int (fsu (lo.toInt16.toInt32) lo hi)), .val (.int (fsu (hi.toInt16.toInt32) lo hi)), .unset, .unset] [(.int (fsu ((lo - (1 : Int32)).toInt16.toInt32) lo hi))])) _
      refine XS.ifNo X693.here hx rfl (hb hby at_546) rfl ((if0 _ _).trans (teq hs695).2) ?_
      show Steps p.tables e below (T693.setTop (mkF m 549 #[.val (.int p1), .val (.int p2), .val (.ref b1), .val (.ref b212), .val (.ref b425), .val (.int ((p1 &&& (2147483647 : Int32)) % (26 : Int32))), .val (.ref kw), .val (.int (p2.toInt16.toInt32)), .val (.int ex8), .val (.int (1 : Int32)), .val (.int (fsu (lo.toInt16.toInt32) lo hi)), .val (.int (fsu (hi.toInt16.toInt32) lo hi)), .unset, .unset] [])) _
      refine XS.iconst X693.here hx rfl (hb hby at_549) ?_
      show Steps p.tables e below (T693.setTop (mkF m 550 #[.val (.int p1), .val (.int p2), .val (.ref b1), .val (.ref b212), .val (.ref b425), .val (.int ((p1 &&& (2147483647 : Int32)) % (26 : Int32))), .val (.ref kw), .val (.int (p2.toInt16.toInt32)), .val (.int ex8), .val (.int (1 : Int32)), .val (.int (fsu (lo.toInt16.toInt32) lo hi)), .val (.int (fsu (hi.toInt16.toInt32) lo hi)), .unset, .unset] [(.int (1 : Int32))])) _
      refine XS.goto X693.here hx rfl (pc0 := 550) (pc' := 554) rfl (hb hby at_550) (by decide) (by decide) ?_
      show Steps p.tables e below (T693.setTop (mkF m 554 #[.val (.int p1), .val (.int p2), .val (.ref b1), .val (.ref b212), .val (.ref b425), .val (.int ((p1 &&& (2147483647 : Int32)) % (26 : Int32))), .val (.ref kw), .val (.int (p2.toInt16.toInt32)), .val (.int ex8), .val (.int (1 : Int32)), .val (.int (fsu (lo.toInt16.toInt32) lo hi)), .val (.int (fsu (hi.toInt16.toInt32) lo hi)), .unset, .unset] [(.int (1 : Int32))])) _
      refine XS.istore X693.here hx rfl (hb hby at_554) rfl (l' := #[.val (.int p1), .val (.int p2), .val (.ref b1), .val (.ref b212), .val (.ref b425), .val (.int ((p1 &&& (2147483647 : Int32)) % (26 : Int32))), .val (.ref kw), .val (.int (p2.toInt16.toInt32)), .val (.int ex8), .val (.int (1 : Int32)), .val (.int (fsu (lo.toInt16.toInt32) lo hi)), .val (.int (fsu (hi.toInt16.toInt32) lo hi)), .val (.int (1 : Int32)), .unset]) rfl ?_
      show Steps p.tables e below (T693.setTop (mkF m 556 #[.val (.int p1), .val (.int p2), .val (.ref b1), .val (.ref b212), .val (.ref b425), .val (.int ((p1 &&& (2147483647 : Int32)) % (26 : Int32))), .val (.ref kw), .val (.int (p2.toInt16.toInt32)), .val (.int ex8), .val (.int (1 : Int32)), .val (.int (fsu (lo.toInt16.toInt32) lo hi)), .val (.int (fsu (hi.toInt16.toInt32) lo hi)), .val (.int (1 : Int32)), .unset] [])) _
      refine XS.aload X693.here hx rfl (hb hby at_556) rfl rfl ?_
      show Steps p.tables e below (T693.setTop (mkF m 558 #[.val (.int p1), .val (.int p2), .val (.ref b1), .val (.ref b212), .val (.ref b425), .val (.int ((p1 &&& (2147483647 : Int32)) % (26 : Int32))), .val (.ref kw), .val (.int (p2.toInt16.toInt32)), .val (.int ex8), .val (.int (1 : Int32)), .val (.int (fsu (lo.toInt16.toInt32) lo hi)), .val (.int (fsu (hi.toInt16.toInt32) lo hi)), .val (.int (1 : Int32)), .unset] [(.ref kw)])) _
      refine XS.aload X693.here hx rfl (hb hby at_558) rfl rfl ?_
      show Steps p.tables e below (T693.setTop (mkF m 560 #[.val (.int p1), .val (.int p2), .val (.ref b1), .val (.ref b212), .val (.ref b425), .val (.int ((p1 &&& (2147483647 : Int32)) % (26 : Int32))), .val (.ref kw), .val (.int (p2.toInt16.toInt32)), .val (.int ex8), .val (.int (1 : Int32)), .val (.int (fsu (lo.toInt16.toInt32) lo hi)), .val (.int (fsu (hi.toInt16.toInt32) lo hi)), .val (.int (1 : Int32)), .unset] [(.ref b425), (.ref kw)])) _
      refine XS.iload X693.here hx rfl (hb hby at_560) rfl ?_
      show Steps p.tables e below (T693.setTop (mkF m 562 #[.val (.int p1), .val (.int p2), .val (.ref b1), .val (.ref b212), .val (.ref b425), .val (.int ((p1 &&& (2147483647 : Int32)) % (26 : Int32))), .val (.ref kw), .val (.int (p2.toInt16.toInt32)), .val (.int ex8), .val (.int (1 : Int32)), .val (.int (fsu (lo.toInt16.toInt32) lo hi)), .val (.int (fsu (hi.toInt16.toInt32) lo hi)), .val (.int (1 : Int32)), .unset] [(.int ((p1 &&& (2147483647 : Int32)) % (26 : Int32))), (.ref b425), (.ref kw)])) _
      refine X693.iaload hx (j := ((p1 &&& (2147483647 : Int32)) % (26 : Int32))) (v := (.int hi)) (by rw [e693]; exact Aar696.1) (State.isArrayOf_alike hZ.alike Aar696.2.1) Aar696.2.2 hinar696 hatar696 (g := (mkF m 562 #[.val (.int p1), .val (.int p2), .val (.ref b1), .val (.ref b212), .val (.ref b425), .val (.int ((p1 &&& (2147483647 : Int32)) % (26 : Int32))), .val (.ref kw), .val (.int (p2.toInt16.toInt32)), .val (.int ex8), .val (.int (1 : Int32)), .val (.int (fsu (lo.toInt16.toInt32) lo hi)), .val (.int (fsu (hi.toInt16.toInt32) lo hi)), .val (.int (1 : Int32)), .unset] [(.int ((p1 &&& (2147483647 : Int32)) % (26 : Int32))), (.ref b425), (.ref kw)])) rfl rfl (hb hby at_562) _ ?_
      show Steps p.tables e below (T693.setTop (mkF m 563 #[.val (.int p1), .val (.int p2), .val (.ref b1), .val (.ref b212), .val (.ref b425), .val (.int ((p1 &&& (2147483647 : Int32)) % (26 : Int32))), .val (.ref kw), .val (.int (p2.toInt16.toInt32)), .val (.int ex8), .val (.int (1 : Int32)), .val (.int (fsu (lo.toInt16.toInt32) lo hi)), .val (.int (fsu (hi.toInt16.toInt32) lo hi)), .val (.int (1 : Int32)), .unset] [(.int hi), (.ref kw)])) _
      refine XS.iconst X693.here hx rfl (hb hby at_563) ?_
      show Steps p.tables e below (T693.setTop (mkF m 564 #[.val (.int p1), .val (.int p2), .val (.ref b1), .val (.ref b212), .val (.ref b425), .val (.int ((p1 &&& (2147483647 : Int32)) % (26 : Int32))), .val (.ref kw), .val (.int (p2.toInt16.toInt32)), .val (.int ex8), .val (.int (1 : Int32)), .val (.int (fsu (lo.toInt16.toInt32) lo hi)), .val (.int (fsu (hi.toInt16.toInt32) lo hi)), .val (.int (1 : Int32)), .unset] [(.int (1 : Int32)), (.int hi), (.ref kw)])) _
      refine XS.iadd X693.here hx rfl (hb hby at_564) rfl ?_
      show Steps p.tables e below (T693.setTop (mkF m 565 #[.val (.int p1), .val (.int p2), .val (.ref b1), .val (.ref b212), .val (.ref b425), .val (.int ((p1 &&& (2147483647 : Int32)) % (26 : Int32))), .val (.ref kw), .val (.int (p2.toInt16.toInt32)), .val (.int ex8), .val (.int (1 : Int32)), .val (.int (fsu (lo.toInt16.toInt32) lo hi)), .val (.int (fsu (hi.toInt16.toInt32) lo hi)), .val (.int (1 : Int32)), .unset] [(.int (hi + (1 : Int32))), (.ref kw)])) _
      refine XS.i2s X693.here hx rfl (hb hby at_565) rfl ?_
      show Steps p.tables e below (T693.setTop (mkF m 566 #[.val (.int p1), .val (.int p2), .val (.ref b1), .val (.ref b212), .val (.ref b425), .val (.int ((p1 &&& (2147483647 : Int32)) % (26 : Int32))), .val (.ref kw), .val (.int (p2.toInt16.toInt32)), .val (.int ex8), .val (.int (1 : Int32)), .val (.int (fsu (lo.toInt16.toInt32) lo hi)), .val (.int (fsu (hi.toInt16.toInt32) lo hi)), .val (.int (1 : Int32)), .unset] [(.int ((hi + (1 : Int32)).toInt16.toInt32)), (.ref kw)])) _
      refine st697.trans ?_
      show Steps p.tables e below (T697.setTop (mkF m 569 #[.val (.int p1), .val (.int p2), .val (.ref b1), .val (.ref b212), .val (.ref b425), .val (.int ((p1 &&& (2147483647 : Int32)) % (26 : Int32))), .val (.ref kw), .val (.int (p2.toInt16.toInt32)), .val (.int ex8), .val (.int (1 : Int32)), .val (.int (fsu (lo.toInt16.toInt32) lo hi)), .val (.int (fsu (hi.toInt16.toInt32) lo hi)), .val (.int (1 : Int32)), .unset] [(.int (fsu ((hi + (1 : Int32)).toInt16.toInt32) lo hi))])) _
      refine XS.ifNo X697.here hx rfl (hb hby at_569) rfl ((if0 _ _).trans (teq hs699).2) ?_
      show Steps p.tables e below (T697.setTop (mkF m 572 #[.val (.int p1), .val (.int p2), .val (.ref b1), .val (.ref b212), .val (.ref b425), .val (.int ((p1 &&& (2147483647 : Int32)) % (26 : Int32))), .val (.ref kw), .val (.int (p2.toInt16.toInt32)), .val (.int ex8), .val (.int (1 : Int32)), .val (.int (fsu (lo.toInt16.toInt32) lo hi)), .val (.int (fsu (hi.toInt16.toInt32) lo hi)), .val (.int (1 : Int32)), .unset] [])) _
      refine XS.iconst X697.here hx rfl (hb hby at_572) ?_
      show Steps p.tables e below (T697.setTop (mkF m 573 #[.val (.int p1), .val (.int p2), .val (.ref b1), .val (.ref b212), .val (.ref b425), .val (.int ((p1 &&& (2147483647 : Int32)) % (26 : Int32))), .val (.ref kw), .val (.int (p2.toInt16.toInt32)), .val (.int ex8), .val (.int (1 : Int32)), .val (.int (fsu (lo.toInt16.toInt32) lo hi)), .val (.int (fsu (hi.toInt16.toInt32) lo hi)), .val (.int (1 : Int32)), .unset] [(.int (1 : Int32))])) _
      refine XS.goto X697.here hx rfl (pc0 := 573) (pc' := 577) rfl (hb hby at_573) (by decide) (by decide) ?_
      show Steps p.tables e below (T697.setTop (mkF m 577 #[.val (.int p1), .val (.int p2), .val (.ref b1), .val (.ref b212), .val (.ref b425), .val (.int ((p1 &&& (2147483647 : Int32)) % (26 : Int32))), .val (.ref kw), .val (.int (p2.toInt16.toInt32)), .val (.int ex8), .val (.int (1 : Int32)), .val (.int (fsu (lo.toInt16.toInt32) lo hi)), .val (.int (fsu (hi.toInt16.toInt32) lo hi)), .val (.int (1 : Int32)), .unset] [(.int (1 : Int32))])) _
      refine XS.istore X697.here hx rfl (hb hby at_577) rfl (l' := #[.val (.int p1), .val (.int p2), .val (.ref b1), .val (.ref b212), .val (.ref b425), .val (.int ((p1 &&& (2147483647 : Int32)) % (26 : Int32))), .val (.ref kw), .val (.int (p2.toInt16.toInt32)), .val (.int ex8), .val (.int (1 : Int32)), .val (.int (fsu (lo.toInt16.toInt32) lo hi)), .val (.int (fsu (hi.toInt16.toInt32) lo hi)), .val (.int (1 : Int32)), .val (.int (1 : Int32))]) rfl ?_
      show Steps p.tables e below (T697.setTop (mkF m 579 #[.val (.int p1), .val (.int p2), .val (.ref b1), .val (.ref b212), .val (.ref b425), .val (.int ((p1 &&& (2147483647 : Int32)) % (26 : Int32))), .val (.ref kw), .val (.int (p2.toInt16.toInt32)), .val (.int ex8), .val (.int (1 : Int32)), .val (.int (fsu (lo.toInt16.toInt32) lo hi)), .val (.int (fsu (hi.toInt16.toInt32) lo hi)), .val (.int (1 : Int32)), .val (.int (1 : Int32))] [])) _
      refine XS.iload X697.here hx rfl (hb hby at_579) rfl ?_
      show Steps p.tables e below (T697.setTop (mkF m 581 #[.val (.int p1), .val (.int p2), .val (.ref b1), .val (.ref b212), .val (.ref b425), .val (.int ((p1 &&& (2147483647 : Int32)) % (26 : Int32))), .val (.ref kw), .val (.int (p2.toInt16.toInt32)), .val (.int ex8), .val (.int (1 : Int32)), .val (.int (fsu (lo.toInt16.toInt32) lo hi)), .val (.int (fsu (hi.toInt16.toInt32) lo hi)), .val (.int (1 : Int32)), .val (.int (1 : Int32))] [(.int (1 : Int32))])) _
      refine XS.ifNo X697.here hx rfl (hb hby at_581) rfl ((if0 _ _).trans (feq (by decide : ¬ ((1 : Int32) = (0 : Int32)))).1) ?_
      show Steps p.tables e below (T697.setTop (mkF m 584 #[.val (.int p1), .val (.int p2), .val (.ref b1), .val (.ref b212), .val (.ref b425), .val (.int ((p1 &&& (2147483647 : Int32)) % (26 : Int32))), .val (.ref kw), .val (.int (p2.toInt16.toInt32)), .val (.int ex8), .val (.int (1 : Int32)), .val (.int (fsu (lo.toInt16.toInt32) lo hi)), .val (.int (fsu (hi.toInt16.toInt32) lo hi)), .val (.int (1 : Int32)), .val (.int (1 : Int32))] [])) _
      refine XS.iload X697.here hx rfl (hb hby at_584) rfl ?_
      show Steps p.tables e below (T697.setTop (mkF m 586 #[.val (.int p1), .val (.int p2), .val (.ref b1), .val (.ref b212), .val (.ref b425), .val (.int ((p1 &&& (2147483647 : Int32)) % (26 : Int32))), .val (.ref kw), .val (.int (p2.toInt16.toInt32)), .val (.int ex8), .val (.int (1 : Int32)), .val (.int (fsu (lo.toInt16.toInt32) lo hi)), .val (.int (fsu (hi.toInt16.toInt32) lo hi)), .val (.int (1 : Int32)), .val (.int (1 : Int32))] [(.int (fsu (lo.toInt16.toInt32) lo hi))])) _
      refine XS.ifNo X697.here hx rfl (hb hby at_586) rfl ((if0 _ _).trans (feq hs700).1) ?_
      show Steps p.tables e below (T697.setTop (mkF m 589 #[.val (.int p1), .val (.int p2), .val (.ref b1), .val (.ref b212), .val (.ref b425), .val (.int ((p1 &&& (2147483647 : Int32)) % (26 : Int32))), .val (.ref kw), .val (.int (p2.toInt16.toInt32)), .val (.int ex8), .val (.int (1 : Int32)), .val (.int (fsu (lo.toInt16.toInt32) lo hi)), .val (.int (fsu (hi.toInt16.toInt32) lo hi)), .val (.int (1 : Int32)), .val (.int (1 : Int32))] [])) _
      refine XS.iload X697.here hx rfl (hb hby at_589) rfl ?_
      show Steps p.tables e below (T697.setTop (mkF m 591 #[.val (.int p1), .val (.int p2), .val (.ref b1), .val (.ref b212), .val (.ref b425), .val (.int ((p1 &&& (2147483647 : Int32)) % (26 : Int32))), .val (.ref kw), .val (.int (p2.toInt16.toInt32)), .val (.int ex8), .val (.int (1 : Int32)), .val (.int (fsu (lo.toInt16.toInt32) lo hi)), .val (.int (fsu (hi.toInt16.toInt32) lo hi)), .val (.int (1 : Int32)), .val (.int (1 : Int32))] [(.int (fsu (hi.toInt16.toInt32) lo hi))])) _
      refine XS.ifNo X697.here hx rfl (hb hby at_591) rfl ((if0 _ _).trans (feq hs701).1) ?_
      show Steps p.tables e below (T697.setTop (mkF m 594 #[.val (.int p1), .val (.int p2), .val (.ref b1), .val (.ref b212), .val (.ref b425), .val (.int ((p1 &&& (2147483647 : Int32)) % (26 : Int32))), .val (.ref kw), .val (.int (p2.toInt16.toInt32)), .val (.int ex8), .val (.int (1 : Int32)), .val (.int (fsu (lo.toInt16.toInt32) lo hi)), .val (.int (fsu (hi.toInt16.toInt32) lo hi)), .val (.int (1 : Int32)), .val (.int (1 : Int32))] [])) _
      refine XS.iload X697.here hx rfl (hb hby at_594) rfl ?_
      show Steps p.tables e below (T697.setTop (mkF m 596 #[.val (.int p1), .val (.int p2), .val (.ref b1), .val (.ref b212), .val (.ref b425), .val (.int ((p1 &&& (2147483647 : Int32)) % (26 : Int32))), .val (.ref kw), .val (.int (p2.toInt16.toInt32)), .val (.int ex8), .val (.int (1 : Int32)), .val (.int (fsu (lo.toInt16.toInt32) lo hi)), .val (.int (fsu (hi.toInt16.toInt32) lo hi)), .val (.int (1 : Int32)), .val (.int (1 : Int32))] [(.int (1 : Int32))])) _
      refine XS.ifNo X697.here hx rfl (hb hby at_596) rfl ((if0 _ _).trans (feq (by decide : ¬ ((1 : Int32) = (0 : Int32)))).1) ?_
      show Steps p.tables e below (T697.setTop (mkF m 599 #[.val (.int p1), .val (.int p2), .val (.ref b1), .val (.ref b212), .val (.ref b425), .val (.int ((p1 &&& (2147483647 : Int32)) % (26 : Int32))), .val (.ref kw), .val (.int (p2.toInt16.toInt32)), .val (.int ex8), .val (.int (1 : Int32)), .val (.int (fsu (lo.toInt16.toInt32) lo hi)), .val (.int (fsu (hi.toInt16.toInt32) lo hi)), .val (.int (1 : Int32)), .val (.int (1 : Int32))] [])) _
      refine XS.iload X697.here hx rfl (hb hby at_599) rfl ?_
      show Steps p.tables e below (T697.setTop (mkF m 601 #[.val (.int p1), .val (.int p2), .val (.ref b1), .val (.ref b212), .val (.ref b425), .val (.int ((p1 &&& (2147483647 : Int32)) % (26 : Int32))), .val (.ref kw), .val (.int (p2.toInt16.toInt32)), .val (.int ex8), .val (.int (1 : Int32)), .val (.int (fsu (lo.toInt16.toInt32) lo hi)), .val (.int (fsu (hi.toInt16.toInt32) lo hi)), .val (.int (1 : Int32)), .val (.int (1 : Int32))] [(.int (1 : Int32))])) _
      refine XS.ifNo X697.here hx rfl (hb hby at_601) rfl ((if0 _ _).trans (feq (by decide : ¬ ((1 : Int32) = (0 : Int32)))).1) ?_
      show Steps p.tables e below (T697.setTop (mkF m 604 #[.val (.int p1), .val (.int p2), .val (.ref b1), .val (.ref b212), .val (.ref b425), .val (.int ((p1 &&& (2147483647 : Int32)) % (26 : Int32))), .val (.ref kw), .val (.int (p2.toInt16.toInt32)), .val (.int ex8), .val (.int (1 : Int32)), .val (.int (fsu (lo.toInt16.toInt32) lo hi)), .val (.int (fsu (hi.toInt16.toInt32) lo hi)), .val (.int (1 : Int32)), .val (.int (1 : Int32))] [])) _
      refine XS.iconst X697.here hx rfl (hb hby at_604) ?_
      show Steps p.tables e below (T697.setTop (mkF m 605 #[.val (.int p1), .val (.int p2), .val (.ref b1), .val (.ref b212), .val (.ref b425), .val (.int ((p1 &&& (2147483647 : Int32)) % (26 : Int32))), .val (.ref kw), .val (.int (p2.toInt16.toInt32)), .val (.int ex8), .val (.int (1 : Int32)), .val (.int (fsu (lo.toInt16.toInt32) lo hi)), .val (.int (fsu (hi.toInt16.toInt32) lo hi)), .val (.int (1 : Int32)), .val (.int (1 : Int32))] [(.int (1 : Int32))])) _
      refine XS.goto X697.here hx rfl (pc0 := 605) (pc' := 609) rfl (hb hby at_605) (by decide) (by decide) ?_
      show Steps p.tables e below (T697.setTop (mkF m 609 #[.val (.int p1), .val (.int p2), .val (.ref b1), .val (.ref b212), .val (.ref b425), .val (.int ((p1 &&& (2147483647 : Int32)) % (26 : Int32))), .val (.ref kw), .val (.int (p2.toInt16.toInt32)), .val (.int ex8), .val (.int (1 : Int32)), .val (.int (fsu (lo.toInt16.toInt32) lo hi)), .val (.int (fsu (hi.toInt16.toInt32) lo hi)), .val (.int (1 : Int32)), .val (.int (1 : Int32))] [(.int (1 : Int32))])) _
      exact retN X697 hx (t := .boolean) Bd.returns (by simp) (hb hby at_609) hr
    · show Q0 Z p1 p2 w_PRODUCE w_FETCH w_LIST_OFFSETS w_METADATA w_OFFSET_COMMIT w_OFFSET_FETCH w_FIND_COORDINATOR w_JOIN_GROUP w_HEARTBEAT w_LEAVE_GROUP w_SYNC_GROUP w_DESCRIBE_GROUPS w_LIST_GROUPS w_API_VERSIONS w_CREATE_TOPICS w_DELETE_TOPICS w_INIT_PRODUCER_ID w_ADD_PARTITIONS_TO_TXN w_ADD_OFFSETS_TO_TXN w_END_TXN w_TXN_OFFSET_COMMIT w_DESCRIBE_CONFIGS w_ALTER_CONFIGS w_CREATE_PARTITIONS w_DELETE_GROUPS w_INCREMENTAL_ALTER_CONFIGS h0 n0 _ T697.heap _
      rw [e697]
      exact ⟨rfl, N698⟩
set_option maxRecDepth 65536 in
set_option maxHeartbeats 40000000 in
theorem comes_1 {Post : Tables → Env → Array Value → State → Outcome → State → Prop} (hpost : ∀ tb e args s v u, (limb_1_1.after args s (.returned v) u = true ∧ limb_1_2.after args s (.returned v) u = true ∧ True) → FrameEnd s (.returned v) u (Jvm.fieldLocs frame_1_writes args s ++ Jvm.arrayLocs frame_1_arrays args s ++ Jvm.staticLocs frame_1_statics s) 16 256 → Post tb e args s (.returned v) u) :
    ArmFor flags0 classFile x code maxLocals ret World_1 tables_1 room_1 Calls_1 rest_1 Pre_1 Post := by
  intro l hfl _ _ p e ha hc hk s m args below hf hA hF happ hP
  obtain ⟨hcalls, hrest, hpre⟩ := hP
  obtain ⟨-, -, -, hnamed, -, -, -, hat⟩ := (Spec.applies_iff hf).mp happ
  obtain ⟨hg, hn⟩ := and_e (Cond.before_iff.mp (show (Jvm.Cond.and given_1 narrow_1).before args s = true from hpre))
  obtain ⟨gv1, gv2⟩ := and_e hg
  obtain ⟨gv3, gv4⟩ := and_e gv2
  obtain ⟨gv5, gv6⟩ := and_e hn
  obtain ⟨gv7, gv8⟩ := and_e gv6
  obtain ⟨gv9, gv10⟩ := and_e gv8
  obtain ⟨gv11, gv12⟩ := and_e gv10
  obtain ⟨gv13, gv14⟩ := and_e gv12
  obtain ⟨gv15, gv16⟩ := and_e gv14
  obtain ⟨gv17, gv18⟩ := and_e gv16
  obtain ⟨gv19, gv20⟩ := and_e gv18
  obtain ⟨gv21, gv22⟩ := and_e gv20
  obtain ⟨gv23, gv24⟩ := and_e gv22
  obtain ⟨gv25, gv26⟩ := and_e gv24
  obtain ⟨gv27, gv28⟩ := and_e gv26
  obtain ⟨gv29, gv30⟩ := and_e gv28
  obtain ⟨gv31, gv32⟩ := and_e gv30
  obtain ⟨gv33, gv34⟩ := and_e gv32
  obtain ⟨gv35, gv36⟩ := and_e gv34
  obtain ⟨gv37, gv38⟩ := and_e gv36
  obtain ⟨gv39, gv40⟩ := and_e gv38
  obtain ⟨gv41, gv42⟩ := and_e gv40
  obtain ⟨gv43, gv44⟩ := and_e gv42
  obtain ⟨gv45, gv46⟩ := and_e gv44
  obtain ⟨gv47, gv48⟩ := and_e gv46
  obtain ⟨gv49, gv50⟩ := and_e gv48
  obtain ⟨gv51, gv52⟩ := and_e gv50
  obtain ⟨gv53, gv54⟩ := and_e gv52
  obtain ⟨gv55, gv56⟩ := and_e gv54
  obtain ⟨gv57, gv58⟩ := and_e gv56
  obtain ⟨gv59, gv60⟩ := and_e gv58
  obtain ⟨gv61, gv62⟩ := and_e gv60
  obtain ⟨gv63, gv64⟩ := and_e gv62
  obtain ⟨gv65, gv66⟩ := and_e gv64
  obtain ⟨gv67, gv68⟩ := and_e gv66
  obtain ⟨gv69, gv70⟩ := and_e gv68
  obtain ⟨gv71, gv72⟩ := and_e gv70
  obtain ⟨gv73, gv74⟩ := and_e gv72
  obtain ⟨gv75, gv76⟩ := and_e gv74
  obtain ⟨gv77, gv78⟩ := and_e gv76
  obtain ⟨gv79, gv80⟩ := and_e gv78
  obtain ⟨gv81, gv82⟩ := and_e gv80
  obtain ⟨gv83, gv84⟩ := and_e gv82
  obtain ⟨gv85, gv86⟩ := and_e gv84
  obtain ⟨gv87, gv88⟩ := and_e gv86
  obtain ⟨gv89, gv90⟩ := and_e gv88
  obtain ⟨gv91, gv92⟩ := and_e gv90
  obtain ⟨gv93, gv94⟩ := and_e gv92
  obtain ⟨gv95, gv96⟩ := and_e gv94
  obtain ⟨gv97, gv98⟩ := and_e gv96
  obtain ⟨gv99, gv100⟩ := and_e gv98
  obtain ⟨gv101, gv102⟩ := and_e gv100
  obtain ⟨gv103, gv104⟩ := and_e gv102
  obtain ⟨gv105, gv106⟩ := and_e gv104
  obtain ⟨gv107, gv108⟩ := and_e gv106
  obtain ⟨gv109, gv110⟩ := and_e gv108
  obtain ⟨gv111, gv112⟩ := and_e gv110
  obtain ⟨gv113, gv114⟩ := and_e gv112
  obtain ⟨gv115, gv116⟩ := and_e gv114
  obtain ⟨gv117, gv118⟩ := and_e gv116
  obtain ⟨gv119, gv120⟩ := and_e gv118
  obtain ⟨gv121, gv122⟩ := and_e gv120
  obtain ⟨gv123, gv124⟩ := and_e gv122
  obtain ⟨gv125, gv126⟩ := and_e gv124
  obtain ⟨gv127, gv128⟩ := and_e gv126
  obtain ⟨gv129, gv130⟩ := and_e gv128
  obtain ⟨gv131, gv132⟩ := and_e gv130
  obtain ⟨gv133, gv134⟩ := and_e gv132
  obtain ⟨gv135, gv136⟩ := and_e gv134
  obtain ⟨gv137, gv138⟩ := and_e gv136
  obtain ⟨gv139, gv140⟩ := and_e gv138
  obtain ⟨gv141, gv142⟩ := and_e gv140
  obtain ⟨gv143, gv144⟩ := and_e gv142
  obtain ⟨gv145, gv146⟩ := and_e gv144
  obtain ⟨gv147, gv148⟩ := and_e gv146
  obtain ⟨gv149, gv150⟩ := and_e gv148
  obtain ⟨gv151, gv152⟩ := and_e gv150
  obtain ⟨gv153, gv154⟩ := and_e gv152
  obtain ⟨gv155, gv156⟩ := and_e gv154
  obtain ⟨gv157, gv158⟩ := and_e gv156
  obtain ⟨w0, w1, rfl⟩ : ∃ w0 w1 : Value, args = #[w0, w1] := by
    have hs : args.size = 2 := by simpa [Cond.value, given_1] using gv1
    obtain ⟨L⟩ := args
    match L, hs with
    | [w0, w1], _ => exact ⟨w0, w1, rfl⟩
  have hw := fun d (hd : d ∈ tables_1) => atoms_spec (ws := Jvm.Cond.code x code maxLocals ret :: tables_1) hat d (List.mem_cons_of_mem _ hd)
  obtain ⟨i0, ei0⟩ := is_v gv3
  obtain rfl : w0 = (.int i0) := Option.some.inj ei0
  obtain ⟨i1, ei1⟩ := is_v gv4
  obtain rfl : w1 = (.int i1) := Option.some.inj ei1
  have O0 := Old.start s
  obtain ⟨w_PRODUCE, ev_PRODUCE⟩ := exa_v gv5
  have S_PRODUCE := Sta.start ev_PRODUCE (Or.inr ⟨(hw _ (List.mem_of_getElem? (i := 3) rfl)), (hw _ (List.mem_of_getElem? (i := 4) rfl))⟩)
  have E_w_PRODUCE := Exa.start ev_PRODUCE gv5
  obtain ⟨w_FETCH, ev_FETCH⟩ := exa_v gv7
  have S_FETCH := Sta.start ev_FETCH (Or.inr ⟨(hw _ (List.mem_of_getElem? (i := 3) rfl)), (hw _ (List.mem_of_getElem? (i := 7) rfl))⟩)
  have E_w_FETCH := Exa.start ev_FETCH gv7
  obtain ⟨w_LIST_OFFSETS, ev_LIST_OFFSETS⟩ := exa_v gv9
  have S_LIST_OFFSETS := Sta.start ev_LIST_OFFSETS (Or.inr ⟨(hw _ (List.mem_of_getElem? (i := 3) rfl)), (hw _ (List.mem_of_getElem? (i := 9) rfl))⟩)
  have E_w_LIST_OFFSETS := Exa.start ev_LIST_OFFSETS gv9
  obtain ⟨w_METADATA, ev_METADATA⟩ := exa_v gv11
  have S_METADATA := Sta.start ev_METADATA (Or.inr ⟨(hw _ (List.mem_of_getElem? (i := 3) rfl)), (hw _ (List.mem_of_getElem? (i := 11) rfl))⟩)
  have E_w_METADATA := Exa.start ev_METADATA gv11
  obtain ⟨w_OFFSET_COMMIT, ev_OFFSET_COMMIT⟩ := exa_v gv13
  have S_OFFSET_COMMIT := Sta.start ev_OFFSET_COMMIT (Or.inr ⟨(hw _ (List.mem_of_getElem? (i := 3) rfl)), (hw _ (List.mem_of_getElem? (i := 13) rfl))⟩)
  have E_w_OFFSET_COMMIT := Exa.start ev_OFFSET_COMMIT gv13
  obtain ⟨w_OFFSET_FETCH, ev_OFFSET_FETCH⟩ := exa_v gv15
  have S_OFFSET_FETCH := Sta.start ev_OFFSET_FETCH (Or.inr ⟨(hw _ (List.mem_of_getElem? (i := 3) rfl)), (hw _ (List.mem_of_getElem? (i := 15) rfl))⟩)
  have E_w_OFFSET_FETCH := Exa.start ev_OFFSET_FETCH gv15
  obtain ⟨w_FIND_COORDINATOR, ev_FIND_COORDINATOR⟩ := exa_v gv17
  have S_FIND_COORDINATOR := Sta.start ev_FIND_COORDINATOR (Or.inr ⟨(hw _ (List.mem_of_getElem? (i := 3) rfl)), (hw _ (List.mem_of_getElem? (i := 17) rfl))⟩)
  have E_w_FIND_COORDINATOR := Exa.start ev_FIND_COORDINATOR gv17
  obtain ⟨w_JOIN_GROUP, ev_JOIN_GROUP⟩ := exa_v gv19
  have S_JOIN_GROUP := Sta.start ev_JOIN_GROUP (Or.inr ⟨(hw _ (List.mem_of_getElem? (i := 3) rfl)), (hw _ (List.mem_of_getElem? (i := 19) rfl))⟩)
  have E_w_JOIN_GROUP := Exa.start ev_JOIN_GROUP gv19
  obtain ⟨w_HEARTBEAT, ev_HEARTBEAT⟩ := exa_v gv21
  have S_HEARTBEAT := Sta.start ev_HEARTBEAT (Or.inr ⟨(hw _ (List.mem_of_getElem? (i := 3) rfl)), (hw _ (List.mem_of_getElem? (i := 21) rfl))⟩)
  have E_w_HEARTBEAT := Exa.start ev_HEARTBEAT gv21
  obtain ⟨w_LEAVE_GROUP, ev_LEAVE_GROUP⟩ := exa_v gv23
  have S_LEAVE_GROUP := Sta.start ev_LEAVE_GROUP (Or.inr ⟨(hw _ (List.mem_of_getElem? (i := 3) rfl)), (hw _ (List.mem_of_getElem? (i := 23) rfl))⟩)
  have E_w_LEAVE_GROUP := Exa.start ev_LEAVE_GROUP gv23
  obtain ⟨w_SYNC_GROUP, ev_SYNC_GROUP⟩ := exa_v gv25
  have S_SYNC_GROUP := Sta.start ev_SYNC_GROUP (Or.inr ⟨(hw _ (List.mem_of_getElem? (i := 3) rfl)), (hw _ (List.mem_of_getElem? (i := 25) rfl))⟩)
  have E_w_SYNC_GROUP := Exa.start ev_SYNC_GROUP gv25
  obtain ⟨w_DESCRIBE_GROUPS, ev_DESCRIBE_GROUPS⟩ := exa_v gv27
  have S_DESCRIBE_GROUPS := Sta.start ev_DESCRIBE_GROUPS (Or.inr ⟨(hw _ (List.mem_of_getElem? (i := 3) rfl)), (hw _ (List.mem_of_getElem? (i := 27) rfl))⟩)
  have E_w_DESCRIBE_GROUPS := Exa.start ev_DESCRIBE_GROUPS gv27
  obtain ⟨w_LIST_GROUPS, ev_LIST_GROUPS⟩ := exa_v gv29
  have S_LIST_GROUPS := Sta.start ev_LIST_GROUPS (Or.inr ⟨(hw _ (List.mem_of_getElem? (i := 3) rfl)), (hw _ (List.mem_of_getElem? (i := 29) rfl))⟩)
  have E_w_LIST_GROUPS := Exa.start ev_LIST_GROUPS gv29
  obtain ⟨w_API_VERSIONS, ev_API_VERSIONS⟩ := exa_v gv31
  have S_API_VERSIONS := Sta.start ev_API_VERSIONS (Or.inr ⟨(hw _ (List.mem_of_getElem? (i := 3) rfl)), (hw _ (List.mem_of_getElem? (i := 31) rfl))⟩)
  have E_w_API_VERSIONS := Exa.start ev_API_VERSIONS gv31
  obtain ⟨w_CREATE_TOPICS, ev_CREATE_TOPICS⟩ := exa_v gv33
  have S_CREATE_TOPICS := Sta.start ev_CREATE_TOPICS (Or.inr ⟨(hw _ (List.mem_of_getElem? (i := 3) rfl)), (hw _ (List.mem_of_getElem? (i := 33) rfl))⟩)
  have E_w_CREATE_TOPICS := Exa.start ev_CREATE_TOPICS gv33
  obtain ⟨w_DELETE_TOPICS, ev_DELETE_TOPICS⟩ := exa_v gv35
  have S_DELETE_TOPICS := Sta.start ev_DELETE_TOPICS (Or.inr ⟨(hw _ (List.mem_of_getElem? (i := 3) rfl)), (hw _ (List.mem_of_getElem? (i := 35) rfl))⟩)
  have E_w_DELETE_TOPICS := Exa.start ev_DELETE_TOPICS gv35
  obtain ⟨w_INIT_PRODUCER_ID, ev_INIT_PRODUCER_ID⟩ := exa_v gv37
  have S_INIT_PRODUCER_ID := Sta.start ev_INIT_PRODUCER_ID (Or.inr ⟨(hw _ (List.mem_of_getElem? (i := 3) rfl)), (hw _ (List.mem_of_getElem? (i := 37) rfl))⟩)
  have E_w_INIT_PRODUCER_ID := Exa.start ev_INIT_PRODUCER_ID gv37
  obtain ⟨w_ADD_PARTITIONS_TO_TXN, ev_ADD_PARTITIONS_TO_TXN⟩ := exa_v gv39
  have S_ADD_PARTITIONS_TO_TXN := Sta.start ev_ADD_PARTITIONS_TO_TXN (Or.inr ⟨(hw _ (List.mem_of_getElem? (i := 3) rfl)), (hw _ (List.mem_of_getElem? (i := 39) rfl))⟩)
  have E_w_ADD_PARTITIONS_TO_TXN := Exa.start ev_ADD_PARTITIONS_TO_TXN gv39
  obtain ⟨w_ADD_OFFSETS_TO_TXN, ev_ADD_OFFSETS_TO_TXN⟩ := exa_v gv41
  have S_ADD_OFFSETS_TO_TXN := Sta.start ev_ADD_OFFSETS_TO_TXN (Or.inr ⟨(hw _ (List.mem_of_getElem? (i := 3) rfl)), (hw _ (List.mem_of_getElem? (i := 41) rfl))⟩)
  have E_w_ADD_OFFSETS_TO_TXN := Exa.start ev_ADD_OFFSETS_TO_TXN gv41
  obtain ⟨w_END_TXN, ev_END_TXN⟩ := exa_v gv43
  have S_END_TXN := Sta.start ev_END_TXN (Or.inr ⟨(hw _ (List.mem_of_getElem? (i := 3) rfl)), (hw _ (List.mem_of_getElem? (i := 43) rfl))⟩)
  have E_w_END_TXN := Exa.start ev_END_TXN gv43
  obtain ⟨w_TXN_OFFSET_COMMIT, ev_TXN_OFFSET_COMMIT⟩ := exa_v gv45
  have S_TXN_OFFSET_COMMIT := Sta.start ev_TXN_OFFSET_COMMIT (Or.inr ⟨(hw _ (List.mem_of_getElem? (i := 3) rfl)), (hw _ (List.mem_of_getElem? (i := 45) rfl))⟩)
  have E_w_TXN_OFFSET_COMMIT := Exa.start ev_TXN_OFFSET_COMMIT gv45
  obtain ⟨w_DESCRIBE_CONFIGS, ev_DESCRIBE_CONFIGS⟩ := exa_v gv47
  have S_DESCRIBE_CONFIGS := Sta.start ev_DESCRIBE_CONFIGS (Or.inr ⟨(hw _ (List.mem_of_getElem? (i := 3) rfl)), (hw _ (List.mem_of_getElem? (i := 47) rfl))⟩)
  have E_w_DESCRIBE_CONFIGS := Exa.start ev_DESCRIBE_CONFIGS gv47
  obtain ⟨w_ALTER_CONFIGS, ev_ALTER_CONFIGS⟩ := exa_v gv49
  have S_ALTER_CONFIGS := Sta.start ev_ALTER_CONFIGS (Or.inr ⟨(hw _ (List.mem_of_getElem? (i := 3) rfl)), (hw _ (List.mem_of_getElem? (i := 49) rfl))⟩)
  have E_w_ALTER_CONFIGS := Exa.start ev_ALTER_CONFIGS gv49
  obtain ⟨w_CREATE_PARTITIONS, ev_CREATE_PARTITIONS⟩ := exa_v gv51
  have S_CREATE_PARTITIONS := Sta.start ev_CREATE_PARTITIONS (Or.inr ⟨(hw _ (List.mem_of_getElem? (i := 3) rfl)), (hw _ (List.mem_of_getElem? (i := 51) rfl))⟩)
  have E_w_CREATE_PARTITIONS := Exa.start ev_CREATE_PARTITIONS gv51
  obtain ⟨w_DELETE_GROUPS, ev_DELETE_GROUPS⟩ := exa_v gv53
  have S_DELETE_GROUPS := Sta.start ev_DELETE_GROUPS (Or.inr ⟨(hw _ (List.mem_of_getElem? (i := 3) rfl)), (hw _ (List.mem_of_getElem? (i := 53) rfl))⟩)
  have E_w_DELETE_GROUPS := Exa.start ev_DELETE_GROUPS gv53
  obtain ⟨w_INCREMENTAL_ALTER_CONFIGS, ev_INCREMENTAL_ALTER_CONFIGS⟩ := exa_v gv55
  have S_INCREMENTAL_ALTER_CONFIGS := Sta.start ev_INCREMENTAL_ALTER_CONFIGS (Or.inr ⟨(hw _ (List.mem_of_getElem? (i := 3) rfl)), (hw _ (List.mem_of_getElem? (i := 55) rfl))⟩)
  have E_w_INCREMENTAL_ALTER_CONFIGS := Exa.start ev_INCREMENTAL_ALTER_CONFIGS gv55
  have F_lowestVersion_w_PRODUCE := own_feq ev_PRODUCE gv57
  have F_highestVersion_w_PRODUCE := own_feq ev_PRODUCE gv59
  have F_lowestVersion_w_CREATE_TOPICS := own_feq ev_CREATE_TOPICS gv61
  have F_highestVersion_w_CREATE_TOPICS := own_feq ev_CREATE_TOPICS gv63
  have F_lowestVersion_w_OFFSET_COMMIT := own_feq ev_OFFSET_COMMIT gv65
  have F_highestVersion_w_OFFSET_COMMIT := own_feq ev_OFFSET_COMMIT gv67
  have F_lowestVersion_w_INIT_PRODUCER_ID := own_feq ev_INIT_PRODUCER_ID gv69
  have F_highestVersion_w_INIT_PRODUCER_ID := own_feq ev_INIT_PRODUCER_ID gv71
  have F_lowestVersion_w_ALTER_CONFIGS := own_feq ev_ALTER_CONFIGS gv73
  have F_highestVersion_w_ALTER_CONFIGS := own_feq ev_ALTER_CONFIGS gv75
  have F_lowestVersion_w_OFFSET_FETCH := own_feq ev_OFFSET_FETCH gv77
  have F_highestVersion_w_OFFSET_FETCH := own_feq ev_OFFSET_FETCH gv79
  have F_lowestVersion_w_FIND_COORDINATOR := own_feq ev_FIND_COORDINATOR gv81
  have F_highestVersion_w_FIND_COORDINATOR := own_feq ev_FIND_COORDINATOR gv83
  have F_lowestVersion_w_HEARTBEAT := own_feq ev_HEARTBEAT gv85
  have F_highestVersion_w_HEARTBEAT := own_feq ev_HEARTBEAT gv87
  have F_lowestVersion_w_LIST_GROUPS := own_feq ev_LIST_GROUPS gv89
  have F_highestVersion_w_LIST_GROUPS := own_feq ev_LIST_GROUPS gv91
  have F_lowestVersion_w_DELETE_TOPICS := own_feq ev_DELETE_TOPICS gv93
  have F_highestVersion_w_DELETE_TOPICS := own_feq ev_DELETE_TOPICS gv95
  have F_lowestVersion_w_METADATA := own_feq ev_METADATA gv97
  have F_highestVersion_w_METADATA := own_feq ev_METADATA gv99
  have F_lowestVersion_w_API_VERSIONS := own_feq ev_API_VERSIONS gv101
  have F_highestVersion_w_API_VERSIONS := own_feq ev_API_VERSIONS gv103
  have F_lowestVersion_w_LEAVE_GROUP := own_feq ev_LEAVE_GROUP gv105
  have F_highestVersion_w_LEAVE_GROUP := own_feq ev_LEAVE_GROUP gv107
  have F_lowestVersion_w_CREATE_PARTITIONS := own_feq ev_CREATE_PARTITIONS gv109
  have F_highestVersion_w_CREATE_PARTITIONS := own_feq ev_CREATE_PARTITIONS gv111
  have F_lowestVersion_w_FETCH := own_feq ev_FETCH gv113
  have F_highestVersion_w_FETCH := own_feq ev_FETCH gv115
  have F_lowestVersion_w_DELETE_GROUPS := own_feq ev_DELETE_GROUPS gv117
  have F_highestVersion_w_DELETE_GROUPS := own_feq ev_DELETE_GROUPS gv119
  have F_lowestVersion_w_LIST_OFFSETS := own_feq ev_LIST_OFFSETS gv121
  have F_highestVersion_w_LIST_OFFSETS := own_feq ev_LIST_OFFSETS gv123
  have F_lowestVersion_w_END_TXN := own_feq ev_END_TXN gv125
  have F_highestVersion_w_END_TXN := own_feq ev_END_TXN gv127
  have F_lowestVersion_w_SYNC_GROUP := own_feq ev_SYNC_GROUP gv129
  have F_highestVersion_w_SYNC_GROUP := own_feq ev_SYNC_GROUP gv131
  have F_lowestVersion_w_DESCRIBE_CONFIGS := own_feq ev_DESCRIBE_CONFIGS gv133
  have F_highestVersion_w_DESCRIBE_CONFIGS := own_feq ev_DESCRIBE_CONFIGS gv135
  have F_lowestVersion_w_DESCRIBE_GROUPS := own_feq ev_DESCRIBE_GROUPS gv137
  have F_highestVersion_w_DESCRIBE_GROUPS := own_feq ev_DESCRIBE_GROUPS gv139
  have F_lowestVersion_w_JOIN_GROUP := own_feq ev_JOIN_GROUP gv141
  have F_highestVersion_w_JOIN_GROUP := own_feq ev_JOIN_GROUP gv143
  have F_lowestVersion_w_ADD_OFFSETS_TO_TXN := own_feq ev_ADD_OFFSETS_TO_TXN gv145
  have F_highestVersion_w_ADD_OFFSETS_TO_TXN := own_feq ev_ADD_OFFSETS_TO_TXN gv147
  have F_lowestVersion_w_TXN_OFFSET_COMMIT := own_feq ev_TXN_OFFSET_COMMIT gv149
  have F_highestVersion_w_TXN_OFFSET_COMMIT := own_feq ev_TXN_OFFSET_COMMIT gv151
  have F_lowestVersion_w_INCREMENTAL_ALTER_CONFIGS := own_feq ev_INCREMENTAL_ALTER_CONFIGS gv153
  have F_highestVersion_w_INCREMENTAL_ALTER_CONFIGS := own_feq ev_INCREMENTAL_ALTER_CONFIGS gv155
  have F_lowestVersion_w_ADD_PARTITIONS_TO_TXN := own_feq ev_ADD_PARTITIONS_TO_TXN gv157
  have F_highestVersion_w_ADD_PARTITIONS_TO_TXN := own_feq ev_ADD_PARTITIONS_TO_TXN gv158
  obtain ⟨n, o, h1, h2, h3, _, L, rfl, ⟨rfl, N⟩, hq⟩ := rm0 l s _ hw tables_1 i0 i1 w_PRODUCE w_FETCH w_LIST_OFFSETS w_METADATA w_OFFSET_COMMIT w_OFFSET_FETCH w_FIND_COORDINATOR w_JOIN_GROUP w_HEARTBEAT w_LEAVE_GROUP w_SYNC_GROUP w_DESCRIBE_GROUPS w_LIST_GROUPS w_API_VERSIONS w_CREATE_TOPICS w_DELETE_TOPICS w_INIT_PRODUCER_ID w_ADD_PARTITIONS_TO_TXN w_ADD_OFFSETS_TO_TXN w_END_TXN w_TXN_OFFSET_COMMIT w_DESCRIBE_CONFIGS w_ALTER_CONFIGS w_CREATE_PARTITIONS w_DELETE_GROUPS w_INCREMENTAL_ALTER_CONFIGS s.heap s.heap.size (Nat.le_refl _) O0 S_PRODUCE S_FETCH S_LIST_OFFSETS S_METADATA S_OFFSET_COMMIT S_OFFSET_FETCH S_FIND_COORDINATOR S_JOIN_GROUP S_HEARTBEAT S_LEAVE_GROUP S_SYNC_GROUP S_DESCRIBE_GROUPS S_LIST_GROUPS S_API_VERSIONS S_CREATE_TOPICS S_DELETE_TOPICS S_INIT_PRODUCER_ID S_ADD_PARTITIONS_TO_TXN S_ADD_OFFSETS_TO_TXN S_END_TXN S_TXN_OFFSET_COMMIT S_DESCRIBE_CONFIGS S_ALTER_CONFIGS S_CREATE_PARTITIONS S_DELETE_GROUPS S_INCREMENTAL_ALTER_CONFIGS E_w_PRODUCE E_w_FETCH E_w_LIST_OFFSETS E_w_METADATA E_w_OFFSET_COMMIT E_w_OFFSET_FETCH E_w_FIND_COORDINATOR E_w_JOIN_GROUP E_w_HEARTBEAT E_w_LEAVE_GROUP E_w_SYNC_GROUP E_w_DESCRIBE_GROUPS E_w_LIST_GROUPS E_w_API_VERSIONS E_w_CREATE_TOPICS E_w_DELETE_TOPICS E_w_INIT_PRODUCER_ID E_w_ADD_PARTITIONS_TO_TXN E_w_ADD_OFFSETS_TO_TXN E_w_END_TXN E_w_TXN_OFFSET_COMMIT E_w_DESCRIBE_CONFIGS E_w_ALTER_CONFIGS E_w_CREATE_PARTITIONS E_w_DELETE_GROUPS E_w_INCREMENTAL_ALTER_CONFIGS F_lowestVersion_w_PRODUCE F_highestVersion_w_PRODUCE F_lowestVersion_w_CREATE_TOPICS F_highestVersion_w_CREATE_TOPICS F_lowestVersion_w_OFFSET_COMMIT F_highestVersion_w_OFFSET_COMMIT F_lowestVersion_w_INIT_PRODUCER_ID F_highestVersion_w_INIT_PRODUCER_ID F_lowestVersion_w_ALTER_CONFIGS F_highestVersion_w_ALTER_CONFIGS F_lowestVersion_w_OFFSET_FETCH F_highestVersion_w_OFFSET_FETCH F_lowestVersion_w_FIND_COORDINATOR F_highestVersion_w_FIND_COORDINATOR F_lowestVersion_w_HEARTBEAT F_highestVersion_w_HEARTBEAT F_lowestVersion_w_LIST_GROUPS F_highestVersion_w_LIST_GROUPS F_lowestVersion_w_DELETE_TOPICS F_highestVersion_w_DELETE_TOPICS F_lowestVersion_w_METADATA F_highestVersion_w_METADATA F_lowestVersion_w_API_VERSIONS F_highestVersion_w_API_VERSIONS F_lowestVersion_w_LEAVE_GROUP F_highestVersion_w_LEAVE_GROUP F_lowestVersion_w_CREATE_PARTITIONS F_highestVersion_w_CREATE_PARTITIONS F_lowestVersion_w_FETCH F_highestVersion_w_FETCH F_lowestVersion_w_DELETE_GROUPS F_highestVersion_w_DELETE_GROUPS F_lowestVersion_w_LIST_OFFSETS F_highestVersion_w_LIST_OFFSETS F_lowestVersion_w_END_TXN F_highestVersion_w_END_TXN F_lowestVersion_w_SYNC_GROUP F_highestVersion_w_SYNC_GROUP F_lowestVersion_w_DESCRIBE_CONFIGS F_highestVersion_w_DESCRIBE_CONFIGS F_lowestVersion_w_DESCRIBE_GROUPS F_highestVersion_w_DESCRIBE_GROUPS F_lowestVersion_w_JOIN_GROUP F_highestVersion_w_JOIN_GROUP F_lowestVersion_w_ADD_OFFSETS_TO_TXN F_highestVersion_w_ADD_OFFSETS_TO_TXN F_lowestVersion_w_TXN_OFFSET_COMMIT F_highestVersion_w_TXN_OFFSET_COMMIT F_lowestVersion_w_INCREMENTAL_ALTER_CONFIGS F_highestVersion_w_INCREMENTAL_ALTER_CONFIGS F_lowestVersion_w_ADD_PARTITIONS_TO_TXN F_highestVersion_w_ADD_PARTITIONS_TO_TXN p e ha hc hk s m _ below hf ((Spec.applies_iff_loose hf).mp happ).1 ⟨rfl, State.Warmed39.refl s, rfl⟩ trivial
  refine ⟨n, _, h1, h2, h3, hpost _ _ _ _ _ _ ⟨Cond.after_iff.mpr rfl, Cond.after_iff.mpr (eq_i res_at (Term.int_eval (1)) rfl), trivial⟩ ⟨hq.1, hq.2.1, (hq.2.2.sift fun y hy => Or.inr (N y hy)).mono (by decide) (by decide)⟩⟩
theorem main_1_1 : Claimed_1_1 := comes_1 fun _ _ _ _ _ _ h hF => ⟨h.1, hF⟩
theorem main_1_2 : Claimed_1_2 := comes_1 fun _ _ _ _ _ _ h hF => ⟨h.2.1, hF⟩
end Jvm.Pilot.@@N@@
namespace Jvm.Pilot.@@N@@
open Jvm Jvm.ClassFile Sem Op Lib Jvm.Free Jvm.Stand Jvm.Pilot.@@N@@.Jvm.D
/-! MADE BY PROGRAM (witnessworld.py) out of the Statement's table words and the real class files: 13 classes; the members and pool entries that the words name. The judged class is class 1, her method 1. -/
namespace start1
open Jvm.ClassFile
def u (s : String) : CpInfo := .utf8 (stringToUtf16 s)
/-- a pool by its gaps: so many unusable entries, then the entry; so many at the end -/
def gap : Nat → List CpInfo → List CpInfo
  | 0, r => r
  | n + 1, r => .unusable :: gap n r
def poolList (es : List (Nat × CpInfo)) (last : Nat) : List CpInfo := es.foldr (fun e r => gap e.1 (e.2 :: r)) (gap last [])
def pool (es : List (Nat × CpInfo)) (last : Nat) : Array CpInfo := ⟨poolList es last⟩
def fileOf (pool : Array CpInfo) (this : Nat) (attrs : Array Attribute := #[]) (ms : Array MethodInfo := #[]) (fl : Nat := 33) (sup : Nat := 0) (ifs : Array Nat := #[]) (fds : Array FieldInfo := #[]) : ClassFile where
  minorVersion := 0
  majorVersion := 65
  constantPool := pool
  accessFlags := fl
  thisClass := this
  superClass := sup
  interfaces := ifs
  fields := fds
  methods := ms
  attributes := attrs
def plain (name : String) (sup : Option ClassId) : Class where
  name := name
  kind := .ordinary
  loader := none
  accessFlags := 33
  super := sup
  interfaces := #[]
  cf := none
  fields := #[]
  methods := #[]
  instanceTypes := #[]
  staticTypes := #[]
  resolved := #[]
  callSites := []
  init := .initialized
  statics := none
  mirror := none

def pool0 : Array CpInfo := pool [(5, u "<init>"), (0, u "()V"), (1, .class_ 10), (1, u "java/lang/Object")] 113

def k0m0 : Method := { name := "<init>", desc := "()V", sig := { parameters := [], returnType := none }, accessFlags := 1, code := none }
/-- java/lang/Object -/
def k0 : Class := { plain "java/lang/Object" none with
  accessFlags := 33
  interfaces := #[]
  cf := some (fileOf pool0 8 #[] #[{ accessFlags := 1, nameIndex := 5, descriptorIndex := 6, attributes := #[] }] 33 0 #[] #[])
  fields := #[]
  methods := #[k0m0]
  instanceTypes := #[]
  staticTypes := #[]
  resolved := Array.replicate 124 none
  statics := none }

def pool1 : Array CpInfo := pool [(2, .class_ 4), (1, u "java/lang/Object"), (0, u "<init>"), (0, u "()V"), (0, .class_ 8), (0, u "com/example/consort/consort/protocol/ApiKey"), (0, .fieldref 7 10), (0, .nameAndType 11 12), (0, u "PRODUCE"), (0, u "Lcom/example/consort/consort/protocol/ApiKey;"), (0, .fieldref 7 14), (0, .nameAndType 15 12), (0, u "FETCH"), (0, .fieldref 7 17), (0, .nameAndType 18 12), (0, u "LIST_OFFSETS"), (0, .fieldref 7 20), (0, .nameAndType 21 12), (0, u "METADATA"), (0, .fieldref 7 23), (0, .nameAndType 24 12), (0, u "OFFSET_COMMIT"), (0, .fieldref 7 26), (0, .nameAndType 27 12), (0, u "OFFSET_FETCH"), (0, .fieldref 7 29), (0, .nameAndType 30 12), (0, u "FIND_COORDINATOR"), (0, .fieldref 7 32), (0, .nameAndType 33 12), (0, u "JOIN_GROUP"), (0, .fieldref 7 35), (0, .nameAndType 36 12), (0, u "HEARTBEAT"), (0, .fieldref 7 38), (0, .nameAndType 39 12), (0, u "LEAVE_GROUP"), (0, .fieldref 7 41), (0, .nameAndType 42 12), (0, u "SYNC_GROUP"), (0, .fieldref 7 44), (0, .nameAndType 45 12), (0, u "DESCRIBE_GROUPS"), (0, .fieldref 7 47), (0, .nameAndType 48 12), (0, u "LIST_GROUPS"), (0, .fieldref 7 50), (0, .nameAndType 51 12), (0, u "API_VERSIONS"), (0, .fieldref 7 53), (0, .nameAndType 54 12), (0, u "CREATE_TOPICS"), (0, .fieldref 7 56), (0, .nameAndType 57 12), (0, u "DELETE_TOPICS"), (0, .fieldref 7 59), (0, .nameAndType 60 12), (0, u "INIT_PRODUCER_ID"), (0, .fieldref 7 62), (0, .nameAndType 63 12), (0, u "ADD_PARTITIONS_TO_TXN"), (0, .fieldref 7 65), (0, .nameAndType 66 12), (0, u "ADD_OFFSETS_TO_TXN"), (0, .fieldref 7 68), (0, .nameAndType 69 12), (0, u "END_TXN"), (0, .fieldref 7 71), (0, .nameAndType 72 12), (0, u "TXN_OFFSET_COMMIT"), (0, .fieldref 7 74), (0, .nameAndType 75 12), (0, u "DESCRIBE_CONFIGS"), (0, .fieldref 7 77), (0, .nameAndType 78 12), (0, u "ALTER_CONFIGS"), (0, .fieldref 7 80), (0, .nameAndType 81 12), (0, u "CREATE_PARTITIONS"), (0, .fieldref 7 83), (0, .nameAndType 84 12), (0, u "DELETE_GROUPS"), (0, .fieldref 7 86), (0, .nameAndType 87 12), (0, u "INCREMENTAL_ALTER_CONFIGS"), (0, .integer 2147483647), (0, .methodref 7 90), (0, .nameAndType 91 92), (0, u "supports"), (0, u "(S)Z"), (0, .class_ 94), (0, u "com/example/consort/consort/protocol/ApiKeySupportsPinLaw"), (2, u "law"), (0, u "(II)Z")] 7

def k1m0 : Method := { name := "<init>", desc := "()V", sig := { parameters := [], returnType := none }, accessFlags := 1, code := none }
def k1c1 : Code := { maxStack := 4, maxLocals := 14, code := code, exceptionTable := #[], attributes := #[] }
def k1m1 : Method := { name := "law", desc := "(II)Z", sig := { parameters := [.int, .int], returnType := some .boolean }, accessFlags := 9, code := some k1c1 }
/-- com/example/consort/consort/protocol/ApiKeySupportsPinLaw -/
def k1 : Class := { plain "com/example/consort/consort/protocol/ApiKeySupportsPinLaw" (some 0) with
  accessFlags := 49
  interfaces := #[]
  cf := some (fileOf pool1 93 #[] #[{ accessFlags := 1, nameIndex := 5, descriptorIndex := 6, attributes := #[] }, { accessFlags := 9, nameIndex := 97, descriptorIndex := 98, attributes := #[] }] 49 2 #[] #[])
  fields := #[]
  methods := #[k1m0, k1m1]
  instanceTypes := #[]
  staticTypes := #[]
  resolved := Array.replicate 106 none
  statics := none }

def pool2 : Array CpInfo := pool [(1, .class_ 2), (0, u "java/lang/constant/Constable"), (0, .class_ 4), (0, u "java/lang/Object")] 6

/-- java/lang/constant/Constable -/
def k2 : Class := { plain "java/lang/constant/Constable" (some 0) with
  accessFlags := 1537
  interfaces := #[]
  cf := some (fileOf pool2 1 #[] #[] 1537 3 #[] #[])
  fields := #[]
  methods := #[]
  instanceTypes := #[]
  staticTypes := #[]
  resolved := Array.replicate 11 none
  statics := none }

def pool3 : Array CpInfo := pool [(1, .class_ 2), (0, u "java/lang/Comparable"), (0, .class_ 4), (0, u "java/lang/Object")] 7

/-- java/lang/Comparable -/
def k3 : Class := { plain "java/lang/Comparable" (some 0) with
  accessFlags := 1537
  interfaces := #[]
  cf := some (fileOf pool3 1 #[] #[] 1537 3 #[] #[])
  fields := #[]
  methods := #[]
  instanceTypes := #[]
  staticTypes := #[]
  resolved := Array.replicate 12 none
  statics := none }

def pool4 : Array CpInfo := pool [(1, .class_ 2), (0, u "java/io/Serializable"), (0, .class_ 4), (0, u "java/lang/Object")] 2

/-- java/io/Serializable -/
def k4 : Class := { plain "java/io/Serializable" (some 0) with
  accessFlags := 1537
  interfaces := #[]
  cf := some (fileOf pool4 1 #[] #[] 1537 3 #[] #[])
  fields := #[]
  methods := #[]
  instanceTypes := #[]
  staticTypes := #[]
  resolved := Array.replicate 7 none
  statics := none }

def pool5 : Array CpInfo := pool [(2, .class_ 4), (1, u "java/lang/Enum"), (0, u "name"), (0, u "Ljava/lang/String;"), (2, u "ordinal"), (0, u "I"), (1, .class_ 14), (1, u "java/lang/Object"), (4, u "hash"), (86, .class_ 108), (1, u "java/lang/Enum$EnumDesc"), (2, .class_ 112), (0, u "java/lang/constant/Constable"), (0, .class_ 114), (0, u "java/lang/Comparable"), (0, .class_ 116), (0, u "java/io/Serializable")] 87

/-- java/lang/Enum -/
def k5 : Class := { plain "java/lang/Enum" (some 0) with
  accessFlags := 1057
  interfaces := #[2, 3, 4]
  cf := some (fileOf pool5 2 #[.nestMembers #[106]] #[] 1057 12 #[111, 113, 115] #[{ accessFlags := 18, nameIndex := 5, descriptorIndex := 6, attributes := #[] }, { accessFlags := 18, nameIndex := 9, descriptorIndex := 10, attributes := #[] }, { accessFlags := 2, nameIndex := 19, descriptorIndex := 10, attributes := #[] }])
  fields := #[{ name := "name", type := (.object "java/lang/String"), accessFlags := 18, slot := 0, constantValue := 0 }, { name := "ordinal", type := .int, accessFlags := 18, slot := 1, constantValue := 0 }, { name := "hash", type := .int, accessFlags := 2, slot := 2, constantValue := 0 }]
  methods := #[]
  instanceTypes := #[(.object "java/lang/String"), .int, .int]
  staticTypes := #[]
  resolved := Array.replicate 204 none
  statics := none }

def pool6 : Array CpInfo := pool [(1, .class_ 2), (0, u "com/example/consort/consort/protocol/ApiKey"), (2, u "PRODUCE"), (0, u "Lcom/example/consort/consort/protocol/ApiKey;"), (2, u "FETCH"), (2, u "LIST_OFFSETS"), (2, u "METADATA"), (2, u "OFFSET_COMMIT"), (2, u "OFFSET_FETCH"), (2, u "FIND_COORDINATOR"), (2, u "JOIN_GROUP"), (2, u "HEARTBEAT"), (2, u "LEAVE_GROUP"), (2, u "SYNC_GROUP"), (2, u "DESCRIBE_GROUPS"), (2, u "LIST_GROUPS"), (2, u "API_VERSIONS"), (2, u "CREATE_TOPICS"), (2, u "DELETE_TOPICS"), (2, u "INIT_PRODUCER_ID"), (2, u "ADD_PARTITIONS_TO_TXN"), (2, u "ADD_OFFSETS_TO_TXN"), (2, u "END_TXN"), (2, u "TXN_OFFSET_COMMIT"), (2, u "DESCRIBE_CONFIGS"), (2, u "ALTER_CONFIGS"), (2, u "CREATE_PARTITIONS"), (2, u "DELETE_GROUPS"), (2, u "INCREMENTAL_ALTER_CONFIGS"), (2, u "$VALUES"), (0, u "[Lcom/example/consort/consort/protocol/ApiKey;"), (6, .class_ 94), (1, u "java/lang/Enum"), (8, u "id"), (0, u "S"), (0, .fieldref 1 106), (0, .nameAndType 107 104), (0, u "lowestVersion"), (0, .fieldref 1 109), (0, .nameAndType 110 104), (0, u "highestVersion"), (2, u "firstFlexibleVersion"), (17, u "(S)Z"), (43, u "supports")] 7

def k6c0 : Code := { maxStack := 2, maxLocals := 2, code := prog_17_method_8_code, exceptionTable := #[], attributes := #[] }
def k6m0 : Method := { name := "supports", desc := "(S)Z", sig := { parameters := [.short], returnType := some .boolean }, accessFlags := 1, code := some k6c0 }
/-- com/example/consort/consort/protocol/ApiKey -/
def k6 : Class := { plain "com/example/consort/consort/protocol/ApiKey" (some 5) with
  accessFlags := 16433
  interfaces := #[]
  cf := some (fileOf pool6 1 #[] #[{ accessFlags := 1, nameIndex := 175, descriptorIndex := 131, attributes := #[] }] 16433 92 #[] #[{ accessFlags := 16409, nameIndex := 5, descriptorIndex := 6, attributes := #[] }, { accessFlags := 16409, nameIndex := 9, descriptorIndex := 6, attributes := #[] }, { accessFlags := 16409, nameIndex := 12, descriptorIndex := 6, attributes := #[] }, { accessFlags := 16409, nameIndex := 15, descriptorIndex := 6, attributes := #[] }, { accessFlags := 16409, nameIndex := 18, descriptorIndex := 6, attributes := #[] }, { accessFlags := 16409, nameIndex := 21, descriptorIndex := 6, attributes := #[] }, { accessFlags := 16409, nameIndex := 24, descriptorIndex := 6, attributes := #[] }, { accessFlags := 16409, nameIndex := 27, descriptorIndex := 6, attributes := #[] }, { accessFlags := 16409, nameIndex := 30, descriptorIndex := 6, attributes := #[] }, { accessFlags := 16409, nameIndex := 33, descriptorIndex := 6, attributes := #[] }, { accessFlags := 16409, nameIndex := 36, descriptorIndex := 6, attributes := #[] }, { accessFlags := 16409, nameIndex := 39, descriptorIndex := 6, attributes := #[] }, { accessFlags := 16409, nameIndex := 42, descriptorIndex := 6, attributes := #[] }, { accessFlags := 16409, nameIndex := 45, descriptorIndex := 6, attributes := #[] }, { accessFlags := 16409, nameIndex := 48, descriptorIndex := 6, attributes := #[] }, { accessFlags := 16409, nameIndex := 51, descriptorIndex := 6, attributes := #[] }, { accessFlags := 16409, nameIndex := 54, descriptorIndex := 6, attributes := #[] }, { accessFlags := 16409, nameIndex := 57, descriptorIndex := 6, attributes := #[] }, { accessFlags := 16409, nameIndex := 60, descriptorIndex := 6, attributes := #[] }, { accessFlags := 16409, nameIndex := 63, descriptorIndex := 6, attributes := #[] }, { accessFlags := 16409, nameIndex := 66, descriptorIndex := 6, attributes := #[] }, { accessFlags := 16409, nameIndex := 69, descriptorIndex := 6, attributes := #[] }, { accessFlags := 16409, nameIndex := 72, descriptorIndex := 6, attributes := #[] }, { accessFlags := 16409, nameIndex := 75, descriptorIndex := 6, attributes := #[] }, { accessFlags := 16409, nameIndex := 78, descriptorIndex := 6, attributes := #[] }, { accessFlags := 16409, nameIndex := 81, descriptorIndex := 6, attributes := #[] }, { accessFlags := 18, nameIndex := 103, descriptorIndex := 104, attributes := #[] }, { accessFlags := 18, nameIndex := 107, descriptorIndex := 104, attributes := #[] }, { accessFlags := 18, nameIndex := 110, descriptorIndex := 104, attributes := #[] }, { accessFlags := 18, nameIndex := 113, descriptorIndex := 104, attributes := #[] }, { accessFlags := 4122, nameIndex := 84, descriptorIndex := 85, attributes := #[] }])
  fields := #[{ name := "PRODUCE", type := (.object "com/example/consort/consort/protocol/ApiKey"), accessFlags := 16409, slot := 0, constantValue := 0 }, { name := "FETCH", type := (.object "com/example/consort/consort/protocol/ApiKey"), accessFlags := 16409, slot := 1, constantValue := 0 }, { name := "LIST_OFFSETS", type := (.object "com/example/consort/consort/protocol/ApiKey"), accessFlags := 16409, slot := 2, constantValue := 0 }, { name := "METADATA", type := (.object "com/example/consort/consort/protocol/ApiKey"), accessFlags := 16409, slot := 3, constantValue := 0 }, { name := "OFFSET_COMMIT", type := (.object "com/example/consort/consort/protocol/ApiKey"), accessFlags := 16409, slot := 4, constantValue := 0 }, { name := "OFFSET_FETCH", type := (.object "com/example/consort/consort/protocol/ApiKey"), accessFlags := 16409, slot := 5, constantValue := 0 }, { name := "FIND_COORDINATOR", type := (.object "com/example/consort/consort/protocol/ApiKey"), accessFlags := 16409, slot := 6, constantValue := 0 }, { name := "JOIN_GROUP", type := (.object "com/example/consort/consort/protocol/ApiKey"), accessFlags := 16409, slot := 7, constantValue := 0 }, { name := "HEARTBEAT", type := (.object "com/example/consort/consort/protocol/ApiKey"), accessFlags := 16409, slot := 8, constantValue := 0 }, { name := "LEAVE_GROUP", type := (.object "com/example/consort/consort/protocol/ApiKey"), accessFlags := 16409, slot := 9, constantValue := 0 }, { name := "SYNC_GROUP", type := (.object "com/example/consort/consort/protocol/ApiKey"), accessFlags := 16409, slot := 10, constantValue := 0 }, { name := "DESCRIBE_GROUPS", type := (.object "com/example/consort/consort/protocol/ApiKey"), accessFlags := 16409, slot := 11, constantValue := 0 }, { name := "LIST_GROUPS", type := (.object "com/example/consort/consort/protocol/ApiKey"), accessFlags := 16409, slot := 12, constantValue := 0 }, { name := "API_VERSIONS", type := (.object "com/example/consort/consort/protocol/ApiKey"), accessFlags := 16409, slot := 13, constantValue := 0 }, { name := "CREATE_TOPICS", type := (.object "com/example/consort/consort/protocol/ApiKey"), accessFlags := 16409, slot := 14, constantValue := 0 }, { name := "DELETE_TOPICS", type := (.object "com/example/consort/consort/protocol/ApiKey"), accessFlags := 16409, slot := 15, constantValue := 0 }, { name := "INIT_PRODUCER_ID", type := (.object "com/example/consort/consort/protocol/ApiKey"), accessFlags := 16409, slot := 16, constantValue := 0 }, { name := "ADD_PARTITIONS_TO_TXN", type := (.object "com/example/consort/consort/protocol/ApiKey"), accessFlags := 16409, slot := 17, constantValue := 0 }, { name := "ADD_OFFSETS_TO_TXN", type := (.object "com/example/consort/consort/protocol/ApiKey"), accessFlags := 16409, slot := 18, constantValue := 0 }, { name := "END_TXN", type := (.object "com/example/consort/consort/protocol/ApiKey"), accessFlags := 16409, slot := 19, constantValue := 0 }, { name := "TXN_OFFSET_COMMIT", type := (.object "com/example/consort/consort/protocol/ApiKey"), accessFlags := 16409, slot := 20, constantValue := 0 }, { name := "DESCRIBE_CONFIGS", type := (.object "com/example/consort/consort/protocol/ApiKey"), accessFlags := 16409, slot := 21, constantValue := 0 }, { name := "ALTER_CONFIGS", type := (.object "com/example/consort/consort/protocol/ApiKey"), accessFlags := 16409, slot := 22, constantValue := 0 }, { name := "CREATE_PARTITIONS", type := (.object "com/example/consort/consort/protocol/ApiKey"), accessFlags := 16409, slot := 23, constantValue := 0 }, { name := "DELETE_GROUPS", type := (.object "com/example/consort/consort/protocol/ApiKey"), accessFlags := 16409, slot := 24, constantValue := 0 }, { name := "INCREMENTAL_ALTER_CONFIGS", type := (.object "com/example/consort/consort/protocol/ApiKey"), accessFlags := 16409, slot := 25, constantValue := 0 }, { name := "id", type := .short, accessFlags := 18, slot := 3, constantValue := 0 }, { name := "lowestVersion", type := .short, accessFlags := 18, slot := 4, constantValue := 0 }, { name := "highestVersion", type := .short, accessFlags := 18, slot := 5, constantValue := 0 }, { name := "firstFlexibleVersion", type := .short, accessFlags := 18, slot := 6, constantValue := 0 }, { name := "$VALUES", type := (.array (.object "com/example/consort/consort/protocol/ApiKey")), accessFlags := 4122, slot := 26, constantValue := 0 }]
  methods := #[k6m0]
  instanceTypes := #[(.object "java/lang/String"), .int, .int, .short, .short, .short, .short]
  staticTypes := #[(.object "com/example/consort/consort/protocol/ApiKey"), (.object "com/example/consort/consort/protocol/ApiKey"), (.object "com/example/consort/consort/protocol/ApiKey"), (.object "com/example/consort/consort/protocol/ApiKey"), (.object "com/example/consort/consort/protocol/ApiKey"), (.object "com/example/consort/consort/protocol/ApiKey"), (.object "com/example/consort/consort/protocol/ApiKey"), (.object "com/example/consort/consort/protocol/ApiKey"), (.object "com/example/consort/consort/protocol/ApiKey"), (.object "com/example/consort/consort/protocol/ApiKey"), (.object "com/example/consort/consort/protocol/ApiKey"), (.object "com/example/consort/consort/protocol/ApiKey"), (.object "com/example/consort/consort/protocol/ApiKey"), (.object "com/example/consort/consort/protocol/ApiKey"), (.object "com/example/consort/consort/protocol/ApiKey"), (.object "com/example/consort/consort/protocol/ApiKey"), (.object "com/example/consort/consort/protocol/ApiKey"), (.object "com/example/consort/consort/protocol/ApiKey"), (.object "com/example/consort/consort/protocol/ApiKey"), (.object "com/example/consort/consort/protocol/ApiKey"), (.object "com/example/consort/consort/protocol/ApiKey"), (.object "com/example/consort/consort/protocol/ApiKey"), (.object "com/example/consort/consort/protocol/ApiKey"), (.object "com/example/consort/consort/protocol/ApiKey"), (.object "com/example/consort/consort/protocol/ApiKey"), (.object "com/example/consort/consort/protocol/ApiKey"), (.array (.object "com/example/consort/consort/protocol/ApiKey"))]
  resolved := Array.replicate 183 none
  statics := some 0 }

def pool7 : Array CpInfo := pool [(1, u "java/lang/Cloneable"), (0, .class_ 1), (0, u "java/lang/Object"), (0, .class_ 3)] 3

/-- java/lang/Cloneable -/
def k7 : Class := { plain "java/lang/Cloneable" (some 0) with
  accessFlags := 1537
  interfaces := #[]
  cf := some (fileOf pool7 2 #[] #[] 1537 4 #[] #[])
  fields := #[]
  methods := #[]
  instanceTypes := #[]
  staticTypes := #[]
  resolved := Array.replicate 8 none
  statics := none }

/-- the primitive byte -/
def k8 : Class := { plain "byte" none with kind := .primitive 'B', accessFlags := 0x411 }
/-- [B -/
def k9 : Class := { plain "[B" (some 0) with kind := .array 8 .byte, interfaces := #[7, 4], accessFlags := 1041 }

/-- the primitive int -/
def k10 : Class := { plain "int" none with kind := .primitive 'I', accessFlags := 0x411 }
/-- [I -/
def k11 : Class := { plain "[I" (some 0) with kind := .array 10 .int, interfaces := #[7, 4], accessFlags := 1041 }

/-- [Lcom/example/consort/consort/protocol/ApiKey; -/
def k12 : Class := { plain "[Lcom/example/consort/consort/protocol/ApiKey;" (some 0) with kind := .array 6 (.object "com/example/consort/consort/protocol/ApiKey"), interfaces := #[7, 4], accessFlags := 1041 }

def heap : Heap := #[{ cls := 6, slots := #[.ref 1, .ref 2, .ref 3, .ref 4, .ref 5, .ref 6, .ref 7, .ref 8, .ref 9, .ref 10, .ref 11, .ref 12, .ref 13, .ref 14, .ref 15, .ref 16, .ref 17, .ref 18, .ref 19, .ref 20, .ref 21, .ref 22, .ref 23, .ref 24, .ref 25, .ref 26, .null], vm := .statics 6 },
  { cls := 6, slots := #[.null, .int 0, .int 0, .int 0, .int 0, .int 7, .int 0], vm := .none },
  { cls := 6, slots := #[.null, .int 0, .int 0, .int 0, .int 4, .int 11, .int 0], vm := .none },
  { cls := 6, slots := #[.null, .int 0, .int 0, .int 0, .int 1, .int 2, .int 0], vm := .none },
  { cls := 6, slots := #[.null, .int 0, .int 0, .int 0, .int 0, .int 4, .int 0], vm := .none },
  { cls := 6, slots := #[.null, .int 0, .int 0, .int 0, .int 2, .int 7, .int 0], vm := .none },
  { cls := 6, slots := #[.null, .int 0, .int 0, .int 0, .int 1, .int 7, .int 0], vm := .none },
  { cls := 6, slots := #[.null, .int 0, .int 0, .int 0, .int 0, .int 2, .int 0], vm := .none },
  { cls := 6, slots := #[.null, .int 0, .int 0, .int 0, .int 0, .int 5, .int 0], vm := .none },
  { cls := 6, slots := #[.null, .int 0, .int 0, .int 0, .int 0, .int 3, .int 0], vm := .none },
  { cls := 6, slots := #[.null, .int 0, .int 0, .int 0, .int 0, .int 3, .int 0], vm := .none },
  { cls := 6, slots := #[.null, .int 0, .int 0, .int 0, .int 0, .int 3, .int 0], vm := .none },
  { cls := 6, slots := #[.null, .int 0, .int 0, .int 0, .int 0, .int 3, .int 0], vm := .none },
  { cls := 6, slots := #[.null, .int 0, .int 0, .int 0, .int 0, .int 2, .int 0], vm := .none },
  { cls := 6, slots := #[.null, .int 0, .int 0, .int 0, .int 0, .int 3, .int 0], vm := .none },
  { cls := 6, slots := #[.null, .int 0, .int 0, .int 0, .int 0, .int 5, .int 0], vm := .none },
  { cls := 6, slots := #[.null, .int 0, .int 0, .int 0, .int 0, .int 3, .int 0], vm := .none },
  { cls := 6, slots := #[.null, .int 0, .int 0, .int 0, .int 0, .int 4, .int 0], vm := .none },
  { cls := 6, slots := #[.null, .int 0, .int 0, .int 0, .int 0, .int 1, .int 0], vm := .none },
  { cls := 6, slots := #[.null, .int 0, .int 0, .int 0, .int 0, .int 1, .int 0], vm := .none },
  { cls := 6, slots := #[.null, .int 0, .int 0, .int 0, .int 0, .int 1, .int 0], vm := .none },
  { cls := 6, slots := #[.null, .int 0, .int 0, .int 0, .int 0, .int 3, .int 0], vm := .none },
  { cls := 6, slots := #[.null, .int 0, .int 0, .int 0, .int 0, .int 4, .int 0], vm := .none },
  { cls := 6, slots := #[.null, .int 0, .int 0, .int 0, .int 0, .int 2, .int 0], vm := .none },
  { cls := 6, slots := #[.null, .int 0, .int 0, .int 0, .int 0, .int 1, .int 0], vm := .none },
  { cls := 6, slots := #[.null, .int 0, .int 0, .int 0, .int 0, .int 1, .int 0], vm := .none },
  { cls := 6, slots := #[.null, .int 0, .int 0, .int 0, .int 0, .int 1, .int 0], vm := .none }]
def classes : Array Class := #[k0, k1, k2, k3, k4, k5, k6, k7, k8, k9, k10, k11, k12]
def interned : List (Array UInt16 × Addr) := []
def slotsUsed : Nat := 209
def theMethod : MethodId := ⟨1, 1⟩
def args0 : Array Value := #[.int 3, .int 4]
def aboutOver (below : List Frame) : State where
  vm := { classes := classes, interned := interned.toArray }
  heap := heap
  slotsUsed := slotsUsed
  threads := #[{ frames := .invoking theMethod args0 :: below }]
def below0 : List Frame := [.native { method := ⟨0, 0⟩, args := #[] }]
def about1 : State := aboutOver below0
def p0 : Program := .bare "" "" ""
def e0 : Env := launch0.env 0 0 0
theorem w_frames : about1.frames = Frame.invoking theMethod args0 :: below0 := rfl
set_option maxRecDepth 65536 in
theorem w_args : argsFit about1.vm theMethod args0 = true := by decide +kernel
set_option maxRecDepth 65536 in
theorem w_heap : heapFits about1 = true := by decide +kernel
set_option maxRecDepth 65536 in
theorem w_runnable : about1.curStatus? = some .runnable := by decide +kernel
set_option maxRecDepth 65536 in
theorem w_alone : about1.alone = true := by decide +kernel
set_option maxRecDepth 65536 in
theorem w_named : about1.methodNamed? x = some theMethod := by decide +kernel
set_option maxRecDepth 65536 in
theorem w_hears : about1.hears theMethod below0 = true := by decide +kernel
set_option maxRecDepth 65536 in
theorem w_ripe : about1.ripe theMethod args0 below0 = true := by decide +kernel
theorem w_running : about1.status = .running := rfl
set_option maxRecDepth 65536 in
theorem w_room : about1.hasRoom e0.platform room_1 = true :=
  launch0.hasRoom_least _ room_1 (by decide +kernel) (by decide +kernel) (by decide +kernel) (by decide +kernel) (by decide +kernel) (by decide +kernel)
theorem allAtoms_all (ts : List Jvm.Cond) (a : Array Jvm.Value) (st : Jvm.State) : (allAtoms ts).before a st = ts.all (fun c => c.before a st) := by
  induction ts with
  | nil => rfl
  | cons c t ih =>
    show (Jvm.Cond.and c (allAtoms t)).before a st = _
    rw [Jvm.Cond.before_and, ih, List.all_cons]
def words1 : List Jvm.Cond := Jvm.Cond.code x code maxLocals ret :: tables_1
/-- a 'code' word, met by the world's own term for the bytes: nothing is compared byte by byte -/
theorem code_word {y : MethodName} {bytes : ByteArray} {mx : Nat} {rt : Option FieldType} {a : Array Value} {s : State} {m : MethodId} {meth : Method} {c : Code} (h1 : s.methodNamed? y = some m) (h2 : s.vm.method? m = some meth) (h3 : meth.code = some c) (h4 : c.code = bytes)
    (h5 : (c.maxLocals == mx && c.exceptionTable.isEmpty && decide (c.maxStack ≤ mostOperands) && decide (meth.sig.returnType = rt) && !meth.locks && decide (parseMethodDescriptor y.desc = some meth.sig)) = true) : (Jvm.Cond.code y bytes mx rt).before a s = true := by
  simp only [Bool.and_eq_true, beq_iff_eq, Bool.not_eq_true', decide_eq_true_eq] at h5
  obtain ⟨⟨⟨⟨⟨g1, g2⟩, g3⟩, g4⟩, g5⟩, g6⟩ := h5
  simp [Cond.before, Cond.holds, Cond.value, h1, h2, h3, h4, g1, g2, g3, g4, g5, g6]
def isCode : Jvm.Cond → Bool
  | .code _ _ _ _ => true
  | _ => false
theorem all_split {L : List Jvm.Cond} {P : Jvm.Cond → Bool} (h1 : L.all (fun c => isCode c || P c) = true) (h2 : ∀ c ∈ L.filter isCode, P c = true) : L.all P = true := by
  refine List.all_eq_true.mpr fun c hc => ?_
  have h := List.all_eq_true.mp h1 c hc
  rcases Bool.eq_false_or_eq_true (isCode c) with hi | hi
  · exact h2 c (List.mem_filter.mpr ⟨hc, hi⟩)
  · simpa [hi] using h
set_option maxRecDepth 65536 in
theorem w_c0 : (Jvm.Cond.code x code maxLocals ret).before args0 about1 = true := code_word (m := ⟨1, 1⟩) (meth := k1m1) (c := k1c1) (by decide +kernel) rfl rfl rfl (by decide +kernel)
set_option maxRecDepth 65536 in
theorem w_c1 : (Jvm.Cond.code ({ cls := "com/example/consort/consort/protocol/ApiKey", name := "supports", desc := "(S)Z" } : Jvm.MethodName) prog_17_method_8_code (2 : Nat) (Option.some Jvm.ClassFile.FieldType.boolean)).before args0 about1 = true := code_word (m := ⟨6, 0⟩) (meth := k6m0) (c := k6c0) (by decide +kernel) rfl rfl rfl (by decide +kernel)
def codes1 : List Jvm.Cond := [Jvm.Cond.code x code maxLocals ret, Jvm.Cond.code ({ cls := "com/example/consort/consort/protocol/ApiKey", name := "supports", desc := "(S)Z" } : Jvm.MethodName) prog_17_method_8_code (2 : Nat) (Option.some Jvm.ClassFile.FieldType.boolean)]
set_option maxRecDepth 65536 in
theorem codes_eq : words1.filter isCode = codes1 := rfl
theorem w_codes : ∀ c ∈ words1.filter isCode, c.before args0 about1 = true := by
  rw [codes_eq]
  intro c hc
  simp only [codes1, List.mem_cons, List.not_mem_nil, or_false] at hc
  rcases hc with rfl | rfl
  · exact w_c0
  · exact w_c1
set_option maxRecDepth 65536 in
theorem w_t1 : (words1.take 24).all (fun c => isCode c || c.before args0 about1) = true := by decide +kernel
set_option maxRecDepth 65536 in
theorem w_t2 : ((words1.drop 24).take 24).all (fun c => isCode c || c.before args0 about1) = true := by decide +kernel
set_option maxRecDepth 65536 in
theorem w_t3 : ((words1.drop 24).drop 24).all (fun c => isCode c || c.before args0 about1) = true := by decide +kernel
theorem w_tables : (allAtoms (Jvm.Cond.code x code maxLocals ret :: tables_1)).before args0 about1 = true := by
  rw [allAtoms_all]
  show words1.all (fun c => c.before args0 about1) = true
  refine all_split ?_ w_codes
  rw [← List.take_append_drop 24 words1, List.all_append, w_t1, ← List.take_append_drop 24 (words1.drop 24), List.all_append, w_t2, w_t3]
  rfl
set_option maxRecDepth 65536 in
theorem w_case : (Jvm.Cond.and given_1 narrow_1).before args0 about1 = true := by decide +kernel
theorem w_applies : (headSpec (Jvm.Cond.code x code maxLocals ret :: tables_1) room_1).applies x e0.platform about1 = true :=
  (Spec.applies_iff w_frames).mpr ⟨w_running, w_runnable, w_alone, w_named, w_hears, w_ripe, w_room, w_tables⟩
theorem atStart : AtStart classFile x code maxLocals ret World_1 tables_1 room_1 Calls_1 rest_1 Pre_1 launch0 p0 e0 about1 theMethod args0 below0 :=
  ⟨lists_1, trivial, launch0.admits_env _ _ _, launch0.least_env, fairChoices_fair.cas, fairChoices_fair.clock, w_frames, w_args, w_heap, w_applies, trivial, trivial, w_case⟩
end start1
theorem witness_1 : WitnessClaimed_1 := ⟨start1.p0, start1.e0, start1.about1, start1.theMethod, start1.args0, start1.below0, start1.atStart⟩
end Jvm.Pilot.@@N@@
