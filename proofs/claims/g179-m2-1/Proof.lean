import JvmDerived
import JvmDerived.Pilot.@@N@@Statement
import JvmDerived.Pilot.@@N@@Code
set_option linter.unusedVariables false
set_option linter.unusedSimpArgs false
namespace Jvm.RoadKit
open Sem ClassFile Op Lib Jvm.Stand Jvm.Free Jvm.LawKit
section New
variable {p : Program} {l : Launch} {e : Env} {R : Room} {s : State} {m : MethodId} {args : Array Value} {below : List Frame} {meth : Method} {c : Code} {T : State} {locs : List Loc} {cells slots : Nat}
theorem retI (X : Stand p l e R s m args below meth c T locs cells slots) (hx : p.tables.exec = Jvm.exec) {pc : Nat} {Ls : Array Slot} {z : Int32} {rest : List Value} (hret : meth.sig.returnType = some .int) (hd : decode c.code pc = .ok (.ireturn, 1)) {fs : List Frame}
    (hl : ∀ (f : JFrame) (acts : List Action), f.method = m → f.locked = none → f.entered = [] → (doReturn e (T.setTop f) acts (some (.int z))).1 = T.setFrames fs) : Steps p.tables e below (T.setTop (mkF m pc Ls (.int z :: rest))) (T.setFrames fs) :=
  retOut X hx hret rfl (Or.inl ⟨rfl, Or.inl rfl, _, rfl⟩) hd hl
end New
end Jvm.RoadKit
namespace Jvm.Pilot.@@N@@
open Jvm Jvm.ClassFile Sem Op Lib Jvm.Free Jvm.Stand Jvm.LawKit Jvm.RoadKit Bundle Jvm.Pilot.@@N@@.Jvm.D
abbrev KS : String := "com/example/explicit_grants/explicitgrants/SubjectLines"
abbrev KK : String := "com/example/explicit_grants/explicitgrants/Interner$Key"
abbrev KJ : String := "java/lang/String"
abbrev KL : String := "com/example/explicit_grants/explicitgrants/SubjectLinesIsAdministratorPinLaw"
theorem own_w {Z : State} {a0 : Array Value} (hw : ∀ d ∈ tables_1, d.before a0 Z = true) {i : Nat} {d : Jvm.Cond} (h : tables_1[i]? = some d) : d.before a0 Z = true := hw _ (List.mem_of_getElem? h)
theorem own_sel {s : State} {args : Array Value} {y : MethodName} {n : Nat} (wi : (Jvm.Cond.instantiable y.cls n).before args s = true) (hp : s.PrivateAt y) (hi : (Jvm.Cond.instanceMethod y).before args s = true) (hy : y.cls ≠ "java/lang/invoke/MethodHandle" ∧ y.cls ≠ "java/lang/invoke/VarHandle") : (Jvm.Cond.selects y.cls y y).before args s = true := by
  obtain ⟨c, k, h1, h2, h3, h4, -⟩ := Cond.instantiable_spec wi
  exact selects_self_of_private h1 h2 (Bool.or_eq_false_iff.mp h4).1 hp hi hy
def own_hc (b0 b1 : Int32) : Int32 := (((31 : Int32) * ((0 : Int32) + (b0 &&& (255 : Int32)))) + (b1 &&& (255 : Int32)))
def own_cl (b : Int32) : Int32 := nar .char ((b &&& (255 : Int32)).toUInt32.toUInt16.toUInt32.toInt32)
def own_ch (b : Int32) : Int32 := nar .char (own_cl b)
def own_k1 (b0 b1 : Int32) : Int64 := (((2 : Int64) ||| (((own_ch b0).toInt64) <<< ((8 : Int32) &&& 0x3f).toInt64)) ||| (((own_ch b1).toInt64) <<< ((16 : Int32) &&& 0x3f).toInt64))
def own_m1 (x : Int32) : Int32 := ((x ^^^ ((x.toUInt32 >>> ((16 : Int32) &&& 31).toUInt32).toInt32)) * (-2048144789 : Int32))
def own_m2 (x : Int32) : Int32 := ((x ^^^ ((x.toUInt32 >>> ((13 : Int32) &&& 31).toUInt32).toInt32)) * (-1028477387 : Int32))
def own_m3 (x : Int32) : Int32 := (x ^^^ ((x.toUInt32 >>> ((16 : Int32) &&& 31).toUInt32).toInt32))
def own_hh (b0 b1 : Int32) : Int32 := own_m3 (own_m2 (own_m1 (own_hc b0 b1)))
theorem own_sl (x : Int32) : ¬ (x &&& (15 : Int32)) < 0 ∧ (x &&& (15 : Int32)) < (16 : Int32) := by
  have e := c_mask x (15 : Int32) 4 (by decide) (by decide)
  generalize x &&& (15 : Int32) = v at *
  simp only [Int32.lt_iff_toInt_lt, show (0 : Int32).toInt = 0 from by decide, show (16 : Int32).toInt = 16 from by decide]
  omega
theorem own_i2c (x : Int32) : ((nar .char x).toInt - x.toInt) % 65536 = 0 ∧ 0 ≤ (nar .char x).toInt ∧ (nar .char x).toInt < 65536 := c_i2c x
theorem own_c8 (x : Int32) : ¬ (255 : Int32) < (nar .char ((x &&& (255 : Int32)).toUInt32.toUInt16.toUInt32.toInt32)) := by
  have e := c_mask x (255 : Int32) 8 (by decide) (by decide)
  generalize x &&& (255 : Int32) = v at *
  have e5 := c_i2c v
  have e6 := own_i2c (v.toUInt32.toUInt16.toUInt32.toInt32)
  simp only [Int32.lt_iff_toInt_lt, show (255 : Int32).toInt = 255 from by decide]
  omega
theorem own_c256 (b : Int32) : ((own_ch b).toInt64) < (256 : Int64) := by
  unfold own_ch own_cl
  have e := c_mask b (255 : Int32) 8 (by decide) (by decide)
  generalize b &&& (255 : Int32) = v at *
  have e5 := c_i2c v
  have e6 := own_i2c (v.toUInt32.toUInt16.toUInt32.toInt32)
  have e7 := own_i2c (nar .char (v.toUInt32.toUInt16.toUInt32.toInt32))
  simp only [Int64.lt_iff_toInt_lt, Int32.toInt_toInt64, show (256 : Int64).toInt = 256 from by decide]
  omega
theorem own_low (x y : Int64) : ¬ ((((2 : Int64) ||| (x <<< ((8 : Int32) &&& 0x3f).toInt64)) ||| (y <<< ((16 : Int32) &&& 0x3f).toInt64)) = (255 : Int64)) := by
  intro h
  rw [show ((8 : Int32) &&& 0x3f).toInt64 = (8 : Int64) from by decide, show ((16 : Int32) &&& 0x3f).toInt64 = (16 : Int64) from by decide] at h
  have h1 := congrArg (fun z : Int64 => z.toBitVec.getLsbD 0) h
  simp at h1
theorem own_k1ne (b0 b1 : Int32) : ¬ ((own_k1 b0 b1) = (255 : Int64)) := by
  unfold own_k1
  generalize (own_ch b0).toInt64 = x
  generalize (own_ch b1).toInt64 = y
  exact own_low x y
theorem pn_0 : plainName "java/lang/StringUTF16" = true := by first | (simp [plainName, overriddenIn]; done) | decide +kernel
theorem d6_0 : decode jdk_52_method_15_code 0 = .ok (.iload_n 1, 1) := by decide +kernel
theorem d6_1 : decode jdk_52_method_15_code 1 = .ok (.aload_n 0, 1) := by decide +kernel
theorem d6_2 : decode jdk_52_method_15_code 2 = .ok (.arraylength, 1) := by decide +kernel
theorem d6_3 : decode jdk_52_method_15_code 3 = .ok (.isub, 1) := by decide +kernel
theorem d6_4 : decode jdk_52_method_15_code 4 = .ok (.bipush 31, 2) := by decide +kernel
theorem d6_6 : decode jdk_52_method_15_code 6 = .ok (.iushr, 1) := by decide +kernel
theorem d6_7 : decode jdk_52_method_15_code 7 = .ok (.i2b, 1) := by decide +kernel
theorem d6_8 : decode jdk_52_method_15_code 8 = .ok (.ireturn, 1) := by decide +kernel
theorem ef_cod (m : MethodId) (x0 : Addr) (x1 : Int32) : entryFrame m #[(.ref x0), (.int x1)] 2 = mkF m 0 #[.val (.ref x0), .val (.int x1)] [] := by first | (simp [entryFrame, mkF, argsToLocals, Value.category]; done) | rfl
abbrev R_cod : Room := { frames := 0, cells := 0, slots := 0, locals := 0 }
def Qcod (Z : State) (a1 : Addr) (k1 : ClassId) (v0 : Int32) (v1 : Int32) (h0 : Heap) (n0 : Nat) (v : Option Value) (h : Heap) (L : List Loc) : Prop := v = some (.int 0) ∧ Fr n0 L ∧ h = h0
set_option maxRecDepth 65536 in
set_option maxHeartbeats 40000000 in
theorem rmcod (l : Launch) (Z : State) (a0 : Array Value) (hw : ∀ d ∈ tables_1, d.before a0 Z = true) (ws : List Jvm.Cond) (a1 : Addr) (k1 : ClassId) (v0 : Int32) (v1 : Int32) (h0 : Heap) (n0 : Nat) (Z0 : n0 ≤ h0.size) (V_a1 : Arv Z h0 a1 k1 .byte (2 : Int32) [(.int v0), (.int v1)] (.int 0)) :
    MetFree l (⟨"java/lang/StringUTF16", "coderFromArrayLen", "([BI)B"⟩ : MethodName) (head1 (Jvm.Cond.code (⟨"java/lang/StringUTF16", "coderFromArrayLen", "([BI)B"⟩ : MethodName) jdk_52_method_15_code 2 (some .byte) :: ws) R_cod) (fun a U => a = #[(.ref a1), (.int 2)] ∧ Z.Warmed39 U.vm ∧ U.heap = h0) (fun _ _ _ _ _ => True) (fun _ U o U' => ∃ v L, o = .returned v ∧ Qcod Z a1 k1 v0 v1 h0 n0 v U'.heap L ∧ FrameEnd U o U' L R_cod.cells R_cod.slots) := by
  refine MetFree.of_bodySF (plainFor_of_name pn_0) hisR ?_
  intro p e s m args below meth c s₁ Bd hml0 hP hK
  obtain ⟨rfl, hZ, hh⟩ := hP
  have hx := Bd.exec
  have hby := Bd.bytes
  have hml : c.maxLocals = 2 := hml0
  have hown : s.vm.findClass "java/lang/StringUTF16" = some m.cls := findClass_of_methodNamed Bd.named
  have hnm := (name_of_methodNamed Bd.named Bd.method).1
  have X0 : Stand p l e R_cod s m #[(.ref a1), (.int 2)] below meth c s₁ [] 0 0 := Stand.of_body Bd
  have e0 : s₁.heap = h0 := by rw [← hh, Bd.state]; rfl
  have N0 := Fr.nil n0
  have pre0 : ∀ t, Steps p.tables e below (s₁.setTop (mkF m 0 #[.val (.ref a1), .val (.int 2)] [])) t → Steps p.tables e below (s₁.setTop (entryFrame m #[(.ref a1), (.int 2)] 2)) t := fun t k => castTop (ef_cod m a1 (2 : Int32)) k
  obtain ⟨car1, Aar1, qar1, Sar1, Nar1, Har1, Gar1⟩ := id V_a1
  obtain ⟨fs, hr, hrun, hended, hW, hsame⟩ := X0.leave (v := some (.int 0)) (fun h => by rw [Bd.returns] at h; cases h) Bd.notSynchronized
  refine ⟨_, _, pre0 _ ?_, hrun, hended, _, _, rfl, ?_, ⟨_, rfl⟩, hW, hsame.mono (by decide) (by decide)⟩
  · show Steps p.tables e below (s₁.setTop (mkF m 0 #[.val (.ref a1), .val (.int 2)] [])) _
    refine XS.iloadN X0.here hx rfl (hb hby d6_0) rfl ?_
    refine XS.aloadN X0.here hx rfl (hb hby d6_1) rfl rfl ?_
    refine X0.arraylength hx (by rw [e0]; exact Aar1.1) (State.isArrayOf_alike hZ.alike Aar1.2.1) (g := (mkF m 2 #[.val (.ref a1), .val (.int 2)] [(.ref a1), (.int 2)])) rfl rfl (hb hby d6_2) _ ?_
    rw [len_of Sar1 Nar1]
    refine XS.isub X0.here hx rfl (hb hby d6_3) rfl ?_
    refine XS.bipush X0.here hx rfl (hb hby d6_4) ?_
    refine XS.iushr X0.here hx rfl (hb hby d6_6) rfl ?_
    refine XS.i2b X0.here hx rfl (hb hby d6_7) rfl ?_
    exact retN X0 hx (t := .byte) Bd.returns (by first | (simp; done) | (simp [narrow]; done) | decide) (hb hby d6_8) hr
  · show Qcod Z a1 k1 v0 v1 h0 n0 _ s₁.heap _
    rw [e0]
    exact ⟨rfl, N0, rfl⟩
theorem d5_0 : decode jdk_52_method_21_code 0 = .ok (.iconst 0, 1) := by decide +kernel
theorem d5_1 : decode jdk_52_method_21_code 1 = .ok (.istore 5, 2) := by decide +kernel
theorem d5_3 : decode jdk_52_method_21_code 3 = .ok (.iload 5, 2) := by decide +kernel
theorem d5_5 : decode jdk_52_method_21_code 5 = .ok (.iload 4, 2) := by decide +kernel
theorem d5_7 : decode jdk_52_method_21_code 7 = .ok (.if_icmp .ge 37, 3) := by decide +kernel
theorem d5_10 : decode jdk_52_method_21_code 10 = .ok (.aload_n 0, 1) := by decide +kernel
theorem d5_11 : decode jdk_52_method_21_code 11 = .ok (.iload_n 1, 1) := by decide +kernel
theorem d5_12 : decode jdk_52_method_21_code 12 = .ok (.caload, 1) := by decide +kernel
theorem d5_13 : decode jdk_52_method_21_code 13 = .ok (.istore 6, 2) := by decide +kernel
theorem d5_15 : decode jdk_52_method_21_code 15 = .ok (.iload 6, 2) := by decide +kernel
theorem d5_17 : decode jdk_52_method_21_code 17 = .ok (.sipush 255, 3) := by decide +kernel
theorem d5_20 : decode jdk_52_method_21_code 20 = .ok (.if_icmp .le 6, 3) := by decide +kernel
theorem d5_26 : decode jdk_52_method_21_code 26 = .ok (.aload_n 2, 1) := by decide +kernel
theorem d5_27 : decode jdk_52_method_21_code 27 = .ok (.iload_n 3, 1) := by decide +kernel
theorem d5_28 : decode jdk_52_method_21_code 28 = .ok (.iload 6, 2) := by decide +kernel
theorem d5_30 : decode jdk_52_method_21_code 30 = .ok (.i2b, 1) := by decide +kernel
theorem d5_31 : decode jdk_52_method_21_code 31 = .ok (.bastore, 1) := by decide +kernel
theorem d5_32 : decode jdk_52_method_21_code 32 = .ok (.iinc 1 1, 3) := by decide +kernel
theorem d5_35 : decode jdk_52_method_21_code 35 = .ok (.iinc 3 1, 3) := by decide +kernel
theorem d5_38 : decode jdk_52_method_21_code 38 = .ok (.iinc 5 1, 3) := by decide +kernel
theorem d5_41 : decode jdk_52_method_21_code 41 = .ok (.goto (-38), 3) := by decide +kernel
theorem d5_44 : decode jdk_52_method_21_code 44 = .ok (.iload 4, 2) := by decide +kernel
theorem d5_46 : decode jdk_52_method_21_code 46 = .ok (.ireturn, 1) := by decide +kernel
theorem ef_cm5 (m : MethodId) (x0 : Addr) (x1 : Int32) (x2 : Addr) (x3 : Int32) (x4 : Int32) : entryFrame m #[(.ref x0), (.int x1), (.ref x2), (.int x3), (.int x4)] 7 = mkF m 0 #[.val (.ref x0), .val (.int x1), .val (.ref x2), .val (.int x3), .val (.int x4), .unset, .unset] [] := by first | (simp [entryFrame, mkF, argsToLocals, Value.category]; done) | rfl
abbrev R_cm5 : Room := { frames := 0, cells := 0, slots := 0, locals := 0 }
def Qcm5 (Z : State) (a1 : Addr) (a3 : Addr) (k2 : ClassId) (k3 : ClassId) (c0 : Int32) (c1 : Int32) (h0 : Heap) (n0 : Nat) (v : Option Value) (h : Heap) (L : List Loc) : Prop := v = some (.int 2) ∧ Fr n0 L ∧ Keep h0 h [a3] ∧ Arv Z h a3 k3 .byte (2 : Int32) [(.int (nar .byte (c0.toInt8.toInt32))), (.int (nar .byte (c1.toInt8.toInt32)))] (.int 0)
set_option maxRecDepth 65536 in
set_option maxHeartbeats 40000000 in
theorem rmcm5 (l : Launch) (Z : State) (a0 : Array Value) (hw : ∀ d ∈ tables_1, d.before a0 Z = true) (ws : List Jvm.Cond) (a1 : Addr) (a3 : Addr) (k2 : ClassId) (k3 : ClassId) (c0 : Int32) (c1 : Int32) (h0 : Heap) (n0 : Nat) (Z0 : n0 ≤ h0.size) (V_a1 : Arv Z h0 a1 k2 .char (2 : Int32) [(.int c0), (.int c1)] (.int 0)) (V_a3 : Arv Z h0 a3 k3 .byte (2 : Int32) [(.int 0), (.int 0)] (.int 0)) (g_a3 : n0 ≤ a3) (ne_a1_a3 : a1 ≠ a3) (hca : ¬ ((255 : Int32) < c0)) (hcb : ¬ ((255 : Int32) < c1)) :
    MetFree l (⟨"java/lang/StringUTF16", "compress", "([CI[BII)I"⟩ : MethodName) (head1 (Jvm.Cond.code (⟨"java/lang/StringUTF16", "compress", "([CI[BII)I"⟩ : MethodName) jdk_52_method_21_code 7 (some .int) :: ws) R_cm5) (fun a U => a = #[(.ref a1), (.int 0), (.ref a3), (.int 0), (.int 2)] ∧ Z.Warmed39 U.vm ∧ U.heap = h0) (fun _ _ _ _ _ => True) (fun _ U o U' => ∃ v L, o = .returned v ∧ Qcm5 Z a1 a3 k2 k3 c0 c1 h0 n0 v U'.heap L ∧ FrameEnd U o U' L R_cm5.cells R_cm5.slots) := by
  refine MetFree.of_bodySF (plainFor_of_name pn_0) hisR ?_
  intro p e s m args below meth c s₁ Bd hml0 hP hK
  obtain ⟨rfl, hZ, hh⟩ := hP
  have hx := Bd.exec
  have hby := Bd.bytes
  have hml : c.maxLocals = 7 := hml0
  have hown : s.vm.findClass "java/lang/StringUTF16" = some m.cls := findClass_of_methodNamed Bd.named
  have hnm := (name_of_methodNamed Bd.named Bd.method).1
  have X0 : Stand p l e R_cm5 s m #[(.ref a1), (.int 0), (.ref a3), (.int 0), (.int 2)] below meth c s₁ [] 0 0 := Stand.of_body Bd
  have e0 : s₁.heap = h0 := by rw [← hh, Bd.state]; rfl
  have N0 := Fr.nil n0
  have pre0 : ∀ t, Steps p.tables e below (s₁.setTop (mkF m 0 #[.val (.ref a1), .val (.int 0), .val (.ref a3), .val (.int 0), .val (.int 2), .unset, .unset] [])) t → Steps p.tables e below (s₁.setTop (entryFrame m #[(.ref a1), (.int 0), (.ref a3), (.int 0), (.int 2)] 7)) t := fun t k => castTop (ef_cm5 m a1 (0 : Int32) a3 (0 : Int32) (2 : Int32)) k
  obtain ⟨car1, Aar1, qar1, Sar1, Nar1, Har1, Gar1⟩ := id V_a1
  have hinar1 : ¬ ((0 : Int32) < 0 ∨ car1.slots.size ≤ ((0 : Int32)).toNatClampNeg) := inb_of Sar1 ⟨by decide, by decide⟩
  have hatar1 : car1.slots[((0 : Int32)).toNatClampNeg]? = some (.int c0) := Har1.at hinar1 rfl
  obtain ⟨car2, Aar2, qar2, Sar2, Nar2, Har2, Gar2⟩ := id V_a3
  have hinar2 : ¬ ((0 : Int32) < 0 ∨ car2.slots.size ≤ ((0 : Int32)).toNatClampNeg) := inb_of Sar2 ⟨by decide, by decide⟩
  obtain ⟨T3, h3, X3, e3, W3, st3⟩ := stB X0 hx hZ e0 Aar2 (j := (0 : Int32)) hinar2 (g := (mkF m 31 #[.val (.ref a1), .val (.int 0), .val (.ref a3), .val (.int 0), .val (.int 2), .val (.int 0), .val (.int c0)] [(.int (c0.toInt8.toInt32)), (.int 0), (.ref a3)])) rfl rfl (hb hby d5_31)
  have V3 : Arv Z h3 a3 k3 .byte (2 : Int32) [(.int (nar .byte (c0.toInt8.toInt32))), (.int 0)] (.int 0) := Arv.set Aar2 qar2 Sar2 Nar2 Har2 Gar2 (fits_nar_byte _) W3 0 rfl (Nat.le_of_ble_eq_true rfl)
  have f4 := V_a1.other W3 ne_a1_a3
  have K6 := (Keep.refl h0 [a3]).wr W3 (Or.inl (List.mem_of_getElem? (i := 0) rfl))
  have N8 := Fr.snoc X3 N0 g_a3
  obtain ⟨car9, Aar9, qar9, Sar9, Nar9, Har9, Gar9⟩ := id f4
  have hinar9 : ¬ ((1 : Int32) < 0 ∨ car9.slots.size ≤ ((1 : Int32)).toNatClampNeg) := inb_of Sar9 ⟨by decide, by decide⟩
  have hatar9 : car9.slots[((1 : Int32)).toNatClampNeg]? = some (.int c1) := Har9.at hinar9 rfl
  obtain ⟨car10, Aar10, qar10, Sar10, Nar10, Har10, Gar10⟩ := id V3
  have hinar10 : ¬ ((1 : Int32) < 0 ∨ car10.slots.size ≤ ((1 : Int32)).toNatClampNeg) := inb_of Sar10 ⟨by decide, by decide⟩
  obtain ⟨T11, h11, X11, e11, W11, st11⟩ := stB X3 hx hZ e3 Aar10 (j := (1 : Int32)) hinar10 (g := (mkF m 31 #[.val (.ref a1), .val (.int 1), .val (.ref a3), .val (.int 1), .val (.int 2), .val (.int 1), .val (.int c1)] [(.int (c1.toInt8.toInt32)), (.int 1), (.ref a3)])) rfl rfl (hb hby d5_31)
  have V11 : Arv Z h11 a3 k3 .byte (2 : Int32) [(.int (nar .byte (c0.toInt8.toInt32))), (.int (nar .byte (c1.toInt8.toInt32)))] (.int 0) := Arv.set Aar10 qar10 Sar10 Nar10 Har10 Gar10 (fits_nar_byte _) W11 1 rfl (Nat.le_of_ble_eq_true rfl)
  have K14 := K6.wr W11 (Or.inl (List.mem_of_getElem? (i := 0) rfl))
  have N16 := Fr.snoc X11 N8 g_a3
  obtain ⟨fs, hr, hrun, hended, hW, hsame⟩ := X11.leave (v := some (.int 2)) (fun h => by rw [Bd.returns] at h; cases h) Bd.notSynchronized
  refine ⟨_, _, pre0 _ ?_, hrun, hended, _, _, rfl, ?_, ⟨_, rfl⟩, hW, hsame.mono (by decide) (by decide)⟩
  · show Steps p.tables e below (s₁.setTop (mkF m 0 #[.val (.ref a1), .val (.int 0), .val (.ref a3), .val (.int 0), .val (.int 2), .unset, .unset] [])) _
    refine XS.iconst X0.here hx rfl (hb hby d5_0) ?_
    refine XS.istore X0.here hx rfl (hb hby d5_1) rfl (l' := #[.val (.ref a1), .val (.int 0), .val (.ref a3), .val (.int 0), .val (.int 2), .val (.int 0), .unset]) rfl ?_
    refine XS.iload X0.here hx rfl (hb hby d5_3) rfl ?_
    refine XS.iload X0.here hx rfl (hb hby d5_5) rfl ?_
    show Steps p.tables e below (s₁.setTop (mkF m 7 #[.val (.ref a1), .val (.int 0), .val (.ref a3), .val (.int 0), .val (.int 2), .val (.int 0), .unset] [(.int 2), (.int 0)])) _
    refine XS.icmpNo X0.here hx rfl (hb hby d5_7) rfl (tlt (by decide : (0 : Int32) < (2 : Int32))).2.1 ?_
    refine XS.aloadN X0.here hx rfl (hb hby d5_10) rfl rfl ?_
    refine XS.iloadN X0.here hx rfl (hb hby d5_11) rfl ?_
    refine X0.caload hx (j := (0 : Int32)) (v := (.int c0)) (by rw [e0]; exact Aar1.1) (State.isArrayOf_alike hZ.alike Aar1.2.1) Aar1.2.2 hinar1 hatar1 (g := (mkF m 12 #[.val (.ref a1), .val (.int 0), .val (.ref a3), .val (.int 0), .val (.int 2), .val (.int 0), .unset] [(.int 0), (.ref a1)])) rfl rfl (hb hby d5_12) _ ?_
    show Steps p.tables e below (s₁.setTop (mkF m 13 #[.val (.ref a1), .val (.int 0), .val (.ref a3), .val (.int 0), .val (.int 2), .val (.int 0), .unset] [(.int c0)])) _
    refine XS.istore X0.here hx rfl (hb hby d5_13) rfl (l' := #[.val (.ref a1), .val (.int 0), .val (.ref a3), .val (.int 0), .val (.int 2), .val (.int 0), .val (.int c0)]) rfl ?_
    refine XS.iload X0.here hx rfl (hb hby d5_15) rfl ?_
    refine XS.sipush X0.here hx rfl (hb hby d5_17) ?_
    show Steps p.tables e below (s₁.setTop (mkF m 20 #[.val (.ref a1), .val (.int 0), .val (.ref a3), .val (.int 0), .val (.int 2), .val (.int 0), .val (.int c0)] [(.int 255), (.int c0)])) _
    refine XS.icmpYes X0.here hx rfl (pc0 := 20) (pc' := 26) rfl (hb hby d5_20) rfl (flt hca).2.2.2 (by decide) (by decide) ?_
    refine XS.aloadN X0.here hx rfl (hb hby d5_26) rfl rfl ?_
    refine XS.iloadN X0.here hx rfl (hb hby d5_27) rfl ?_
    refine XS.iload X0.here hx rfl (hb hby d5_28) rfl ?_
    refine XS.i2b X0.here hx rfl (hb hby d5_30) rfl ?_
    show Steps p.tables e below (s₁.setTop (mkF m 31 #[.val (.ref a1), .val (.int 0), .val (.ref a3), .val (.int 0), .val (.int 2), .val (.int 0), .val (.int c0)] [(.int (c0.toInt8.toInt32)), (.int 0), (.ref a3)])) _
    refine st3 _ ?_
    refine XS.iinc X3.here hx rfl (hb hby d5_32) rfl (l' := #[.val (.ref a1), .val (.int 1), .val (.ref a3), .val (.int 0), .val (.int 2), .val (.int 0), .val (.int c0)]) rfl ?_
    refine XS.iinc X3.here hx rfl (hb hby d5_35) rfl (l' := #[.val (.ref a1), .val (.int 1), .val (.ref a3), .val (.int 1), .val (.int 2), .val (.int 0), .val (.int c0)]) rfl ?_
    refine XS.iinc X3.here hx rfl (hb hby d5_38) rfl (l' := #[.val (.ref a1), .val (.int 1), .val (.ref a3), .val (.int 1), .val (.int 2), .val (.int 1), .val (.int c0)]) rfl ?_
    refine XS.goto X3.here hx rfl (pc0 := 41) (pc' := 3) rfl (hb hby d5_41) (by decide) (by decide) ?_
    refine XS.iload X3.here hx rfl (hb hby d5_3) rfl ?_
    refine XS.iload X3.here hx rfl (hb hby d5_5) rfl ?_
    show Steps p.tables e below (T3.setTop (mkF m 7 #[.val (.ref a1), .val (.int 1), .val (.ref a3), .val (.int 1), .val (.int 2), .val (.int 1), .val (.int c0)] [(.int 2), (.int 1)])) _
    refine XS.icmpNo X3.here hx rfl (hb hby d5_7) rfl (tlt (by decide : (1 : Int32) < (2 : Int32))).2.1 ?_
    show Steps p.tables e below (T3.setTop (mkF m 10 #[.val (.ref a1), .val (.int 1), .val (.ref a3), .val (.int 1), .val (.int 2), .val (.int 1), .val (.int c0)] [])) _
    refine XS.aloadN X3.here hx rfl (hb hby d5_10) rfl rfl ?_
    refine XS.iloadN X3.here hx rfl (hb hby d5_11) rfl ?_
    refine X3.caload hx (j := (1 : Int32)) (v := (.int c1)) (by rw [e3]; exact Aar9.1) (State.isArrayOf_alike hZ.alike Aar9.2.1) Aar9.2.2 hinar9 hatar9 (g := (mkF m 12 #[.val (.ref a1), .val (.int 1), .val (.ref a3), .val (.int 1), .val (.int 2), .val (.int 1), .val (.int c0)] [(.int 1), (.ref a1)])) rfl rfl (hb hby d5_12) _ ?_
    refine XS.istore X3.here hx rfl (hb hby d5_13) rfl (l' := #[.val (.ref a1), .val (.int 1), .val (.ref a3), .val (.int 1), .val (.int 2), .val (.int 1), .val (.int c1)]) rfl ?_
    refine XS.iload X3.here hx rfl (hb hby d5_15) rfl ?_
    refine XS.sipush X3.here hx rfl (hb hby d5_17) ?_
    show Steps p.tables e below (T3.setTop (mkF m 20 #[.val (.ref a1), .val (.int 1), .val (.ref a3), .val (.int 1), .val (.int 2), .val (.int 1), .val (.int c1)] [(.int 255), (.int c1)])) _
    refine XS.icmpYes X3.here hx rfl (pc0 := 20) (pc' := 26) rfl (hb hby d5_20) rfl (flt hcb).2.2.2 (by decide) (by decide) ?_
    refine XS.aloadN X3.here hx rfl (hb hby d5_26) rfl rfl ?_
    show Steps p.tables e below (T3.setTop (mkF m 27 #[.val (.ref a1), .val (.int 1), .val (.ref a3), .val (.int 1), .val (.int 2), .val (.int 1), .val (.int c1)] [(.ref a3)])) _
    refine XS.iloadN X3.here hx rfl (hb hby d5_27) rfl ?_
    refine XS.iload X3.here hx rfl (hb hby d5_28) rfl ?_
    refine XS.i2b X3.here hx rfl (hb hby d5_30) rfl ?_
    refine st11 _ ?_
    refine XS.iinc X11.here hx rfl (hb hby d5_32) rfl (l' := #[.val (.ref a1), .val (.int 2), .val (.ref a3), .val (.int 1), .val (.int 2), .val (.int 1), .val (.int c1)]) rfl ?_
    refine XS.iinc X11.here hx rfl (hb hby d5_35) rfl (l' := #[.val (.ref a1), .val (.int 2), .val (.ref a3), .val (.int 2), .val (.int 2), .val (.int 1), .val (.int c1)]) rfl ?_
    refine XS.iinc X11.here hx rfl (hb hby d5_38) rfl (l' := #[.val (.ref a1), .val (.int 2), .val (.ref a3), .val (.int 2), .val (.int 2), .val (.int 2), .val (.int c1)]) rfl ?_
    refine XS.goto X11.here hx rfl (pc0 := 41) (pc' := 3) rfl (hb hby d5_41) (by decide) (by decide) ?_
    show Steps p.tables e below (T11.setTop (mkF m 3 #[.val (.ref a1), .val (.int 2), .val (.ref a3), .val (.int 2), .val (.int 2), .val (.int 2), .val (.int c1)] [])) _
    refine XS.iload X11.here hx rfl (hb hby d5_3) rfl ?_
    refine XS.iload X11.here hx rfl (hb hby d5_5) rfl ?_
    show Steps p.tables e below (T11.setTop (mkF m 7 #[.val (.ref a1), .val (.int 2), .val (.ref a3), .val (.int 2), .val (.int 2), .val (.int 2), .val (.int c1)] [(.int 2), (.int 2)])) _
    refine XS.icmpYes X11.here hx rfl (pc0 := 7) (pc' := 44) rfl (hb hby d5_7) rfl (flt (by decide : ¬ ((2 : Int32) < (2 : Int32)))).2.1 (by decide) (by decide) ?_
    refine XS.iload X11.here hx rfl (hb hby d5_44) rfl ?_
    exact retI X11 hx Bd.returns (hb hby d5_46) hr
  · show Qcm5 Z a1 a3 k2 k3 c0 c1 h0 n0 _ T11.heap _
    rw [e11]
    exact ⟨rfl, N16, K14, V11⟩
theorem d4_0 : decode jdk_52_method_16_code 0 = .ok (.iload_n 2, 1) := by decide +kernel
theorem d4_1 : decode jdk_52_method_16_code 1 = .ok (.newarray .byte, 2) := by decide +kernel
theorem d4_3 : decode jdk_52_method_16_code 3 = .ok (.astore_n 3, 1) := by decide +kernel
theorem d4_4 : decode jdk_52_method_16_code 4 = .ok (.aload_n 0, 1) := by decide +kernel
theorem d4_5 : decode jdk_52_method_16_code 5 = .ok (.iload_n 1, 1) := by decide +kernel
theorem d4_6 : decode jdk_52_method_16_code 6 = .ok (.aload_n 3, 1) := by decide +kernel
theorem d4_7 : decode jdk_52_method_16_code 7 = .ok (.iconst 0, 1) := by decide +kernel
theorem d4_8 : decode jdk_52_method_16_code 8 = .ok (.iload_n 2, 1) := by decide +kernel
theorem d4_9 : decode jdk_52_method_16_code 9 = .ok (.invokestatic 115, 3) := by decide +kernel
theorem pd_41 : parseMethodDescriptor "([CI[BII)I" = some ⟨[(.array .char), .int, (.array .byte), .int, .int], some .int⟩ := by decide +kernel
theorem d4_12 : decode jdk_52_method_16_code 12 = .ok (.istore 4, 2) := by decide +kernel
theorem d4_14 : decode jdk_52_method_16_code 14 = .ok (.iload 4, 2) := by decide +kernel
theorem d4_16 : decode jdk_52_method_16_code 16 = .ok (.iload_n 2, 1) := by decide +kernel
theorem d4_17 : decode jdk_52_method_16_code 17 = .ok (.if_icmp .eq 40, 3) := by decide +kernel
theorem d4_57 : decode jdk_52_method_16_code 57 = .ok (.aload_n 3, 1) := by decide +kernel
theorem d4_58 : decode jdk_52_method_16_code 58 = .ok (.areturn, 1) := by decide +kernel
theorem ef_cm3 (m : MethodId) (x0 : Addr) (x1 : Int32) (x2 : Int32) : entryFrame m #[(.ref x0), (.int x1), (.int x2)] 6 = mkF m 0 #[.val (.ref x0), .val (.int x1), .val (.int x2), .unset, .unset, .unset] [] := by first | (simp [entryFrame, mkF, argsToLocals, Value.category]; done) | rfl
abbrev R_cm3 : Room := { frames := 1, cells := 1, slots := 2, locals := 18 }
def Qcm3 (Z : State) (a1 : Addr) (k2 : ClassId) (c0 : Int32) (c1 : Int32) (h0 : Heap) (n0 : Nat) (v : Option Value) (h : Heap) (L : List Loc) : Prop := ∃ (n1 : Addr) (kn1 : ClassId), v = some (.ref n1) ∧ Fr n0 L ∧ Keep h0 h [] ∧ n0 ≤ n1 ∧ h0.size ≤ n1 ∧ Arv Z h n1 kn1 .byte (2 : Int32) [(.int (nar .byte (c0.toInt8.toInt32))), (.int (nar .byte (c1.toInt8.toInt32)))] (.int 0) ∧ Exa Z h n1 "[B"
set_option maxRecDepth 65536 in
set_option maxHeartbeats 40000000 in
theorem rmcm3 (l : Launch) (Z : State) (a0 : Array Value) (hw : ∀ d ∈ tables_1, d.before a0 Z = true) (ws : List Jvm.Cond) (a1 : Addr) (k2 : ClassId) (c0 : Int32) (c1 : Int32) (h0 : Heap) (n0 : Nat) (Z0 : n0 ≤ h0.size) (V_a1 : Arv Z h0 a1 k2 .char (2 : Int32) [(.int c0), (.int c1)] (.int 0)) (hca : ¬ ((255 : Int32) < c0)) (hcb : ¬ ((255 : Int32) < c1)) :
    MetFree l (⟨"java/lang/StringUTF16", "compress", "([CII)[B"⟩ : MethodName) (head1 (Jvm.Cond.code (⟨"java/lang/StringUTF16", "compress", "([CII)[B"⟩ : MethodName) jdk_52_method_16_code 6 (some (.array .byte)) :: ws) R_cm3) (fun a U => a = #[(.ref a1), (.int 0), (.int 2)] ∧ Z.Warmed39 U.vm ∧ U.heap = h0) (fun _ _ _ _ _ => True) (fun _ U o U' => ∃ v L, o = .returned v ∧ Qcm3 Z a1 k2 c0 c1 h0 n0 v U'.heap L ∧ FrameEnd U o U' L R_cm3.cells R_cm3.slots) := by
  refine MetFree.of_bodySF (plainFor_of_name pn_0) hisR ?_
  intro p e s m args below meth c s₁ Bd hml0 hP hK
  obtain ⟨rfl, hZ, hh⟩ := hP
  have hx := Bd.exec
  have hby := Bd.bytes
  have hml : c.maxLocals = 6 := hml0
  have hown : s.vm.findClass "java/lang/StringUTF16" = some m.cls := findClass_of_methodNamed Bd.named
  have hnm := (name_of_methodNamed Bd.named Bd.method).1
  have X0 : Stand p l e R_cm3 s m #[(.ref a1), (.int 0), (.int 2)] below meth c s₁ [] 0 0 := Stand.of_body Bd
  have e0 : s₁.heap = h0 := by rw [← hh, Bd.state]; rfl
  have N0 := Fr.nil n0
  have pre0 : ∀ t, Steps p.tables e below (s₁.setTop (mkF m 0 #[.val (.ref a1), .val (.int 0), .val (.int 2), .unset, .unset, .unset] [])) t → Steps p.tables e below (s₁.setTop (entryFrame m #[(.ref a1), (.int 0), (.int 2)] 6)) t := fun t k => castTop (ef_cm3 m a1 (0 : Int32) (2 : Int32)) k
  obtain ⟨T1, h1, ka1, X1, e1, E1, A1, B1, st1⟩ := newPE X0 hx hZ (own_w hw (i := 19) rfl) e0 (g := (mkF m 1 #[.val (.ref a1), .val (.int 0), .val (.int 2), .unset, .unset, .unset] [(.int 2)])) rfl (hb hby d4_1) rfl (by decide) (cap := 2) (by decide) (by decide) (by decide) (by decide) (ad := "[B") (by decide)
  obtain ⟨bx1, g1⟩ : ∃ z, z = h0.size := ⟨_, rfl⟩
  rw [← g1] at A1 B1 st1
  have g_bx1 : n0 ≤ bx1 := Nat.le_trans Z0 (Nat.le_of_eq g1.symm)
  have sz_bx1 : h0.size ≤ bx1 := Nat.le_trans (Keep.refl h0 []).1 (Nat.le_of_eq g1.symm)
  have ne2 : a1 ≠ bx1 := Nat.ne_of_lt (Nat.lt_of_lt_of_le V_a1.lt (Nat.le_of_eq g1.symm))
  have f3 := V_a1.ext E1
  have zs4 : n0 ≤ h1.size := Nat.le_trans Z0 E1.1
  have K5 := (Keep.refl h0 []).ext E1
  have V_bx1 : Arv Z h1 bx1 ka1 .byte (2 : Int32) [(.int 0), (.int 0)] (.int 0) := (Arv.new A1 (by decide)).pad (pad_rep [] (.int 0) 2)
  -- pc 9: StringUTF16.compress by rmcm5
  obtain ⟨_, _, ⟨T6, L6, ck6, cn6⟩, -, X6, ⟨Lc6, hQ6, l6, y6, z6⟩, st6⟩ := Jvm.LawKit.callS X1 hx (y := (⟨"java/lang/StringUTF16", "compress", "([CI[BII)I"⟩ : MethodName)) hown (mvT hZ (own_w hw (i := 20) rfl)) (mvT hZ (own_w hw (i := 21) rfl)) (mvT hZ (own_w hw (i := 17) rfl)) (mvT hZ (own_w hw (i := 22) rfl)) (by decide) (backOf (W := 0) (rmcm5 l Z a0 hw [] a1 bx1 k2 ka1 c0 c1 h1 n0 zs4 f3 V_bx1 g_bx1 ne2 hca hcb) hZ (own_w hw (i := 22) rfl) (own_w hw (i := 17) rfl) (by decide) (by decide)) (g := (mkF m 9 #[.val (.ref a1), .val (.int 0), .val (.int 2), .val (.ref bx1), .unset, .unset] [(.int 2), (.int 0), (.ref bx1), (.int 0), (.ref a1)])) rfl (by rw [hml]; rfl) (argsL := [(.ref a1), (.int 0), (.ref bx1), (.int 0), (.int 2)]) (rest := []) (lenOf pd_41 rfl) rfl (by show 2 * 0 + _ ≤ _; exact Nat.le_of_eq rfl) (hb hby d4_9) (fun _ _ => ⟨rfl, e1, (by decide : 1 + 0 ≤ _), (by decide : 2 + 0 ≤ _)⟩)
  dsimp only [Pt.U, Pt.locs, Pt.cells, Pt.slots] at X6 l6 y6 z6 st6 hQ6
  subst y6 z6
  obtain ⟨rfl, N6q, K6q, o6_0⟩ := hQ6
  have N7 : Fr n0 L6 := by rw [l6]; exact Fr.app N0 N6q
  have f9 := B1.keep K6q
  have K12 := K5.trans K6q (allS (Or.inr sz_bx1) all0)
  obtain ⟨fs, hr, hrun, hended, hW, hsame⟩ := X6.leave (v := some (.ref bx1)) (fun h => by rw [Bd.returns] at h; cases h) Bd.notSynchronized
  refine ⟨_, _, pre0 _ ?_, hrun, hended, _, _, rfl, ?_, ⟨_, rfl⟩, hW, hsame.mono (by decide) (by decide)⟩
  · show Steps p.tables e below (s₁.setTop (mkF m 0 #[.val (.ref a1), .val (.int 0), .val (.int 2), .unset, .unset, .unset] [])) _
    refine XS.iloadN X0.here hx rfl (hb hby d4_0) rfl ?_
    refine st1 _ ?_
    refine XS.astoreN X1.here hx rfl (hb hby d4_3) rfl rfl (l' := #[.val (.ref a1), .val (.int 0), .val (.int 2), .val (.ref bx1), .unset, .unset]) rfl ?_
    refine XS.aloadN X1.here hx rfl (hb hby d4_4) rfl rfl ?_
    refine XS.iloadN X1.here hx rfl (hb hby d4_5) rfl ?_
    refine XS.aloadN X1.here hx rfl (hb hby d4_6) rfl rfl ?_
    refine XS.iconst X1.here hx rfl (hb hby d4_7) ?_
    refine XS.iloadN X1.here hx rfl (hb hby d4_8) rfl ?_
    show Steps p.tables e below (T1.setTop (mkF m 9 #[.val (.ref a1), .val (.int 0), .val (.int 2), .val (.ref bx1), .unset, .unset] [(.int 2), (.int 0), (.ref bx1), (.int 0), (.ref a1)])) _
    refine st6 _ ?_
    refine XS.istore X6.here hx rfl (hb hby d4_12) rfl (l' := #[.val (.ref a1), .val (.int 0), .val (.int 2), .val (.ref bx1), .val (.int 2), .unset]) rfl ?_
    refine XS.iload X6.here hx rfl (hb hby d4_14) rfl ?_
    refine XS.iloadN X6.here hx rfl (hb hby d4_16) rfl ?_
    show Steps p.tables e below (T6.setTop (mkF m 17 #[.val (.ref a1), .val (.int 0), .val (.int 2), .val (.ref bx1), .val (.int 2), .unset] [(.int 2), (.int 2)])) _
    refine XS.icmpYes X6.here hx rfl (pc0 := 17) (pc' := 57) rfl (hb hby d4_17) rfl (teq (by decide : (2 : Int32) = (2 : Int32))).1 (by decide) (by decide) ?_
    refine XS.aloadN X6.here hx rfl (hb hby d4_57) rfl rfl ?_
    exact retOut X6 hx (t := (.array .byte)) Bd.returns rfl (Or.inr (Or.inr (Or.inr (Or.inr ⟨rfl, rfl, rfl⟩)))) (hb hby d4_58) hr
  · show Qcm3 Z a1 k2 c0 c1 h0 n0 _ T6.heap _
    exact ⟨bx1, ka1, rfl, N7, K12, g_bx1, sz_bx1, o6_0, f9⟩
theorem pn_48 : plainName KJ = true := by first | (simp [plainName, overriddenIn]; done) | decide +kernel
theorem d2_0 : decode jdk_42_method_149_code 0 = .ok (.aload_n 0, 1) := by decide +kernel
theorem d2_1 : decode jdk_42_method_149_code 1 = .ok (.invokespecial 1, 3) := by decide +kernel
theorem d2_4 : decode jdk_42_method_149_code 4 = .ok (.iload_n 3, 1) := by decide +kernel
theorem d2_5 : decode jdk_42_method_149_code 5 = .ok (.ifCond .ne 22, 3) := by decide +kernel
theorem d2_27 : decode jdk_42_method_149_code 27 = .ok (.getstatic 38, 3) := by decide +kernel
theorem d2_30 : decode jdk_42_method_149_code 30 = .ok (.ifCond .eq 28, 3) := by decide +kernel
theorem d2_33 : decode jdk_42_method_149_code 33 = .ok (.aload_n 1, 1) := by decide +kernel
theorem d2_34 : decode jdk_42_method_149_code 34 = .ok (.iload_n 2, 1) := by decide +kernel
theorem d2_35 : decode jdk_42_method_149_code 35 = .ok (.iload_n 3, 1) := by decide +kernel
theorem d2_36 : decode jdk_42_method_149_code 36 = .ok (.invokestatic 177, 3) := by decide +kernel
theorem pd_59 : parseMethodDescriptor "([CII)[B" = some ⟨[(.array .char), .int, .int], some (.array .byte)⟩ := by decide +kernel
theorem d2_39 : decode jdk_42_method_149_code 39 = .ok (.astore 5, 2) := by decide +kernel
theorem d2_41 : decode jdk_42_method_149_code 41 = .ok (.aload_n 0, 1) := by decide +kernel
theorem d2_42 : decode jdk_42_method_149_code 42 = .ok (.aload 5, 2) := by decide +kernel
theorem d2_44 : decode jdk_42_method_149_code 44 = .ok (.iload_n 3, 1) := by decide +kernel
theorem d2_45 : decode jdk_42_method_149_code 45 = .ok (.invokestatic 47, 3) := by decide +kernel
theorem pd_65 : parseMethodDescriptor "([BI)B" = some ⟨[(.array .byte), .int], some .byte⟩ := by decide +kernel
theorem d2_48 : decode jdk_42_method_149_code 48 = .ok (.putfield 15, 3) := by decide +kernel
theorem sn_67 {Z : State} {a0 : Array Value} (hw : ∀ d ∈ tables_1, d.before a0 Z = true) : Jvm.RoadKit.slotOf Z KJ "value" "[B" ≠ Jvm.RoadKit.slotOf Z KJ "coder" "B" := slot_ne (Or.inr (own_w hw (i := 29) rfl)) (Or.inr (own_w hw (i := 27) rfl)) (by decide) (t := (.array .byte)) (t' := .byte) (by decide) (by decide)
theorem sn_68 {Z : State} {a0 : Array Value} (hw : ∀ d ∈ tables_1, d.before a0 Z = true) : Jvm.RoadKit.slotOf Z KJ "hash" "I" ≠ Jvm.RoadKit.slotOf Z KJ "coder" "B" := slot_ne (Or.inl (own_w hw (i := 101) rfl)) (Or.inr (own_w hw (i := 27) rfl)) (by decide) (t := .int) (t' := .byte) (by decide) (by decide)
theorem sn_69 {Z : State} {a0 : Array Value} (hw : ∀ d ∈ tables_1, d.before a0 Z = true) : Jvm.RoadKit.slotOf Z KJ "hashIsZero" "Z" ≠ Jvm.RoadKit.slotOf Z KJ "coder" "B" := slot_ne (Or.inl (own_w hw (i := 103) rfl)) (Or.inr (own_w hw (i := 27) rfl)) (by decide) (t := .boolean) (t' := .byte) (by decide) (by decide)
theorem d2_51 : decode jdk_42_method_149_code 51 = .ok (.aload_n 0, 1) := by decide +kernel
theorem d2_52 : decode jdk_42_method_149_code 52 = .ok (.aload 5, 2) := by decide +kernel
theorem d2_54 : decode jdk_42_method_149_code 54 = .ok (.putfield 9, 3) := by decide +kernel
theorem sn_73 {Z : State} {a0 : Array Value} (hw : ∀ d ∈ tables_1, d.before a0 Z = true) : Jvm.RoadKit.slotOf Z KJ "coder" "B" ≠ Jvm.RoadKit.slotOf Z KJ "value" "[B" := slot_ne (Or.inr (own_w hw (i := 27) rfl)) (Or.inr (own_w hw (i := 29) rfl)) (by decide) (t := .byte) (t' := (.array .byte)) (by decide) (by decide)
theorem sn_74 {Z : State} {a0 : Array Value} (hw : ∀ d ∈ tables_1, d.before a0 Z = true) : Jvm.RoadKit.slotOf Z KJ "hash" "I" ≠ Jvm.RoadKit.slotOf Z KJ "value" "[B" := slot_ne (Or.inl (own_w hw (i := 101) rfl)) (Or.inr (own_w hw (i := 29) rfl)) (by decide) (t := .int) (t' := (.array .byte)) (by decide) (by decide)
theorem sn_75 {Z : State} {a0 : Array Value} (hw : ∀ d ∈ tables_1, d.before a0 Z = true) : Jvm.RoadKit.slotOf Z KJ "hashIsZero" "Z" ≠ Jvm.RoadKit.slotOf Z KJ "value" "[B" := slot_ne (Or.inl (own_w hw (i := 103) rfl)) (Or.inr (own_w hw (i := 29) rfl)) (by decide) (t := .boolean) (t' := (.array .byte)) (by decide) (by decide)
theorem d2_57 : decode jdk_42_method_149_code 57 = .ok (.return_, 1) := by decide +kernel
theorem ef_in4 (m : MethodId) (x0 : Addr) (x1 : Addr) (x2 : Int32) (x3 : Int32) : entryFrame m #[(.ref x0), (.ref x1), (.int x2), (.int x3), .null] 6 = mkF m 0 #[.val (.ref x0), .val (.ref x1), .val (.int x2), .val (.int x3), .val .null, .unset] [] := by first | (simp [entryFrame, mkF, argsToLocals, Value.category]; done) | rfl
abbrev R_in4 : Room := { frames := 2, cells := 1, slots := 2, locals := 35 }
def Qin4 (Z : State) (a1 : Addr) (a2 : Addr) (k2 : ClassId) (c0 : Int32) (c1 : Int32) (w0 : Int32) (w1 : Int32) (w2 : Int32) (cz : Int32) (h0 : Heap) (n0 : Nat) (v : Option Value) (h : Heap) (L : List Loc) : Prop := ∃ (n1 : Addr) (kn1 : ClassId), v = none ∧ Fr n0 L ∧ Keep h0 h [a1] ∧ n0 ≤ n1 ∧ h0.size ≤ n1 ∧ Exa Z h a1 KJ ∧ Fld Z h a1 KJ "value" "[B" (.ref n1) ∧ Fld Z h a1 KJ "coder" "B" (.int 0) ∧ Fld Z h a1 KJ "hash" "I" (.int w1) ∧ Fld Z h a1 KJ "hashIsZero" "Z" (.int w2) ∧ Arv Z h n1 kn1 .byte (2 : Int32) [(.int (nar .byte (c0.toInt8.toInt32))), (.int (nar .byte (c1.toInt8.toInt32)))] (.int 0) ∧ Exa Z h n1 "[B"
set_option maxRecDepth 65536 in
set_option maxHeartbeats 40000000 in
theorem rmin4 (l : Launch) (Z : State) (a0 : Array Value) (hw : ∀ d ∈ tables_1, d.before a0 Z = true) (ws : List Jvm.Cond) (a1 : Addr) (a2 : Addr) (k2 : ClassId) (c0 : Int32) (c1 : Int32) (w0 : Int32) (w1 : Int32) (w2 : Int32) (cz : Int32) (h0 : Heap) (n0 : Nat) (Z0 : n0 ≤ h0.size) (O0 : Old Z n0 h0) (S_COMPACT_STRINGS : Sta Z Z.heap KJ "COMPACT_STRINGS" "Z" (.int cz)) (hcz : ¬ (cz = (0 : Int32))) (E_a1 : Exa Z h0 a1 KJ) (F_value_a1 : Fld Z h0 a1 KJ "value" "[B" .null) (F_coder_a1 : Fld Z h0 a1 KJ "coder" "B" (.int w0)) (F_hash_a1 : Fld Z h0 a1 KJ "hash" "I" (.int w1)) (F_hashIsZero_a1 : Fld Z h0 a1 KJ "hashIsZero" "Z" (.int w2)) (g_a1 : n0 ≤ a1) (ne_a1_a2 : a1 ≠ a2) (V_a2 : Arv Z h0 a2 k2 .char (2 : Int32) [(.int c0), (.int c1)] (.int 0)) (hca : ¬ ((255 : Int32) < c0)) (hcb : ¬ ((255 : Int32) < c1)) :
    MetFree l (⟨KJ, "<init>", "([CIILjava/lang/Void;)V"⟩ : MethodName) (head1 (Jvm.Cond.code (⟨KJ, "<init>", "([CIILjava/lang/Void;)V"⟩ : MethodName) jdk_42_method_149_code 6 none :: ws) R_in4) (fun a U => a = #[(.ref a1), (.ref a2), (.int 0), (.int 2), .null] ∧ Z.Warmed39 U.vm ∧ U.heap = h0) (fun _ _ _ _ _ => True) (fun _ U o U' => ∃ v L, o = .returned v ∧ Qin4 Z a1 a2 k2 c0 c1 w0 w1 w2 cz h0 n0 v U'.heap L ∧ FrameEnd U o U' L R_in4.cells R_in4.slots) := by
  refine MetFree.of_bodySF (plainFor_of_name pn_48) hisR ?_
  intro p e s m args below meth c s₁ Bd hml0 hP hK
  obtain ⟨rfl, hZ, hh⟩ := hP
  have hx := Bd.exec
  have hby := Bd.bytes
  have hml : c.maxLocals = 6 := hml0
  have hown : s.vm.findClass KJ = some m.cls := findClass_of_methodNamed Bd.named
  have hnm := (name_of_methodNamed Bd.named Bd.method).1
  have X0 : Stand p l e R_in4 s m #[(.ref a1), (.ref a2), (.int 0), (.int 2), .null] below meth c s₁ [] 0 0 := Stand.of_body Bd
  have e0 : s₁.heap = h0 := by rw [← hh, Bd.state]; rfl
  have N0 := Fr.nil n0
  have pre0 : ∀ t, Steps p.tables e below (s₁.setTop (mkF m 0 #[.val (.ref a1), .val (.ref a2), .val (.int 0), .val (.int 2), .val .null, .unset] [])) t → Steps p.tables e below (s₁.setTop (entryFrame m #[(.ref a1), (.ref a2), (.int 0), (.int 2), .null] 6)) t := fun t k => castTop (ef_in4 m a1 a2 (0 : Int32) (2 : Int32)) k
  obtain ⟨T1, X1, e1, st1⟩ := initO X0 hx hZ hown (own_w hw (i := 11) rfl) (own_w hw (i := 12) rfl) (own_w hw (i := 13) rfl) e0 (g := (mkF m 1 #[.val (.ref a1), .val (.ref a2), .val (.int 0), .val (.int 2), .val .null, .unset] [(.ref a1)])) rfl (by rw [hml]; rfl) rfl (hb hby d2_1) (by decide) (W := 0) (by show 2 * 0 + _ ≤ _; exact Nat.le_of_eq rfl) (by decide)
  obtain ⟨T2, X2, e2, st2⟩ := getS2 X1 hx hZ hown (host := "") (Or.inl (own_w hw (i := 14) rfl)) Via.refl e1 (S_COMPACT_STRINGS.ext O0.2) (g := (mkF m 27 #[.val (.ref a1), .val (.ref a2), .val (.int 0), .val (.int 2), .val .null, .unset] [])) rfl (hb hby d2_27)
  -- pc 36: StringUTF16.compress by rmcm3
  obtain ⟨_, _, ⟨T3, L3, ck3, cn3⟩, -, X3, ⟨Lc3, hQ3, l3, y3, z3⟩, st3⟩ := Jvm.LawKit.callS X2 hx (y := (⟨"java/lang/StringUTF16", "compress", "([CII)[B"⟩ : MethodName)) hown (mvT hZ (own_w hw (i := 15) rfl)) (mvT hZ (own_w hw (i := 16) rfl)) (mvT hZ (own_w hw (i := 17) rfl)) (mvT hZ (own_w hw (i := 18) rfl)) (by decide) (backOf (W := 0) (rmcm3 l Z a0 hw [] a2 k2 c0 c1 h0 n0 Z0 V_a2 hca hcb) hZ (own_w hw (i := 18) rfl) (own_w hw (i := 17) rfl) (by decide) (by decide)) (g := (mkF m 36 #[.val (.ref a1), .val (.ref a2), .val (.int 0), .val (.int 2), .val .null, .unset] [(.int 2), (.int 0), (.ref a2)])) rfl (by rw [hml]; rfl) (argsL := [(.ref a2), (.int 0), (.int 2)]) (rest := []) (lenOf pd_59 rfl) rfl (by show 2 * 0 + _ ≤ _; exact Nat.le_of_eq rfl) (hb hby d2_36) (fun _ _ => ⟨rfl, e2, (by decide : 0 + 1 ≤ _), (by decide : 0 + 2 ≤ _)⟩)
  dsimp only [Pt.U, Pt.locs, Pt.cells, Pt.slots] at X3 l3 y3 z3 st3 hQ3
  subst y3 z3
  obtain ⟨n1_3, kn1_3, rfl, N3q, K3q, gq3_0, sq3_0, o3_0, o3_1⟩ := hQ3
  have N4 : Fr n0 L3 := by rw [l3]; exact Fr.app N0 N3q
  have ne5 : a1 ≠ n1_3 := Nat.ne_of_lt (Nat.lt_of_lt_of_le E_a1.lt sq3_0)
  have sz_n1_3 : h0.size ≤ n1_3 := Nat.le_trans (Keep.refl h0 [a1]).1 sq3_0
  have f8 := E_a1.keep K3q
  have f9 := F_value_a1.keep K3q nin0
  have f10 := F_coder_a1.keep K3q nin0
  have f11 := F_hash_a1.keep K3q nin0
  have f12 := F_hashIsZero_a1.keep K3q nin0
  have zs14 : n0 ≤ T3.heap.size := Nat.le_trans Z0 K3q.1
  have K15 := (Keep.refl h0 [a1]).trans K3q all0
  -- pc 45: StringUTF16.coderFromArrayLen by rmcod
  obtain ⟨_, _, ⟨T16, L16, ck16, cn16⟩, -, X16, ⟨Lc16, hQ16, l16, y16, z16⟩, st16⟩ := Jvm.LawKit.callS X3 hx (y := (⟨"java/lang/StringUTF16", "coderFromArrayLen", "([BI)B"⟩ : MethodName)) hown (mvT hZ (own_w hw (i := 23) rfl)) (mvT hZ (own_w hw (i := 24) rfl)) (mvT hZ (own_w hw (i := 17) rfl)) (mvT hZ (own_w hw (i := 25) rfl)) (by decide) (backOf (W := 1) (rmcod l Z a0 hw [] n1_3 kn1_3 (nar .byte (c0.toInt8.toInt32)) (nar .byte (c1.toInt8.toInt32)) T3.heap n0 zs14 o3_0) hZ (own_w hw (i := 25) rfl) (own_w hw (i := 17) rfl) (by decide) (by decide)) (g := (mkF m 45 #[.val (.ref a1), .val (.ref a2), .val (.int 0), .val (.int 2), .val .null, .val (.ref n1_3)] [(.int 2), (.ref n1_3), (.ref a1)])) rfl (by rw [hml]; rfl) (argsL := [(.ref n1_3), (.int 2)]) (rest := [(.ref a1)]) (lenOf pd_65 rfl) rfl (by show 2 * 0 + _ ≤ _; exact Nat.le_of_eq rfl) (hb hby d2_45) (fun _ _ => ⟨rfl, rfl, (by decide : 1 + 0 ≤ _), (by decide : 2 + 0 ≤ _)⟩)
  dsimp only [Pt.U, Pt.locs, Pt.cells, Pt.slots] at X16 l16 y16 z16 st16 hQ16
  subst y16 z16
  obtain ⟨rfl, N16q, e16⟩ := hQ16
  have N17 : Fr n0 L16 := by rw [l16]; exact Fr.app N4 N16q
  obtain ⟨T18, h18, X18, e18, W18, st18⟩ := putFN X16 hx hZ hown (own_w hw (i := 26) rfl) Via.refl e16 f10 f8 (Or.inr ⟨(own_w hw (i := 27) rfl), rfl, hnm⟩) (own_w hw (i := 2) rfl) (ty := .byte) (v' := (.int 0)) (by decide) rfl rfl (g := (mkF m 48 #[.val (.ref a1), .val (.ref a2), .val (.int 0), .val (.int 2), .val .null, .val (.ref n1_3)] [(.int 0), (.ref a1)])) rfl rfl (hb hby d2_48)
  have f20 := f8.wr W18
  have f21 := f9.other W18 (Or.inr (sn_67 hw))
  have f22 := f10.same W18
  have f23 := f11.other W18 (Or.inr (sn_68 hw))
  have f24 := f12.other W18 (Or.inr (sn_69 hw))
  have f26 := o3_0.other W18 (Ne.symm ne5)
  have f27 := o3_1.wr W18
  have K28 := K15.wr W18 (Or.inl (List.mem_of_getElem? (i := 0) rfl))
  have N30 := Fr.snoc X18 N17 g_a1
  obtain ⟨T31, h31, X31, e31, W31, st31⟩ := putF X18 hx hZ hown (host := "") (Or.inl (own_w hw (i := 28) rfl)) Via.refl e18 f21 f20 (Or.inr ⟨(own_w hw (i := 29) rfl), rfl, hnm⟩) (own_w hw (i := 2) rfl) (ty := (.array .byte)) (by decide) rfl rfl (g := (mkF m 54 #[.val (.ref a1), .val (.ref a2), .val (.int 0), .val (.int 2), .val .null, .val (.ref n1_3)] [(.ref n1_3), (.ref a1)])) rfl rfl (hb hby d2_54)
  have f33 := f20.wr W31
  have f34 := f21.same W31
  have f35 := f22.other W31 (Or.inr (sn_73 hw))
  have f36 := f23.other W31 (Or.inr (sn_74 hw))
  have f37 := f24.other W31 (Or.inr (sn_75 hw))
  have f39 := f26.other W31 (Ne.symm ne5)
  have f40 := f27.wr W31
  have K41 := K28.wr W31 (Or.inl (List.mem_of_getElem? (i := 0) rfl))
  have N43 := Fr.snoc X31 N30 g_a1
  obtain ⟨fs, hr, hrun, hended, hW, hsame⟩ := X31.leave (v := none) (fun _ => rfl) Bd.notSynchronized
  refine ⟨_, _, pre0 _ ?_, hrun, hended, _, _, rfl, ?_, ⟨_, rfl⟩, hW, hsame.mono (by decide) (by decide)⟩
  · show Steps p.tables e below (s₁.setTop (mkF m 0 #[.val (.ref a1), .val (.ref a2), .val (.int 0), .val (.int 2), .val .null, .unset] [])) _
    refine XS.aloadN X0.here hx rfl (hb hby d2_0) rfl rfl ?_
    refine st1 _ ?_
    refine XS.iloadN X1.here hx rfl (hb hby d2_4) rfl ?_
    show Steps p.tables e below (T1.setTop (mkF m 5 #[.val (.ref a1), .val (.ref a2), .val (.int 0), .val (.int 2), .val .null, .unset] [(.int 2)])) _
    refine XS.ifYes X1.here hx rfl (pc0 := 5) (pc' := 27) rfl (hb hby d2_5) rfl ((if0 _ _).trans (feq (by decide : ¬ ((2 : Int32) = (0 : Int32)))).2) (by decide) (by decide) ?_
    refine st2 _ ?_
    show Steps p.tables e below (T2.setTop (mkF m 30 #[.val (.ref a1), .val (.ref a2), .val (.int 0), .val (.int 2), .val .null, .unset] [(.int cz)])) _
    refine XS.ifNo X2.here hx rfl (hb hby d2_30) rfl ((if0 _ _).trans (feq hcz).1) ?_
    refine XS.aloadN X2.here hx rfl (hb hby d2_33) rfl rfl ?_
    refine XS.iloadN X2.here hx rfl (hb hby d2_34) rfl ?_
    show Steps p.tables e below (T2.setTop (mkF m 35 #[.val (.ref a1), .val (.ref a2), .val (.int 0), .val (.int 2), .val .null, .unset] [(.int 0), (.ref a2)])) _
    refine XS.iloadN X2.here hx rfl (hb hby d2_35) rfl ?_
    refine st3 _ ?_
    refine XS.astore X3.here hx rfl (hb hby d2_39) rfl rfl (l' := #[.val (.ref a1), .val (.ref a2), .val (.int 0), .val (.int 2), .val .null, .val (.ref n1_3)]) rfl ?_
    refine XS.aloadN X3.here hx rfl (hb hby d2_41) rfl rfl ?_
    refine XS.aload X3.here hx rfl (hb hby d2_42) rfl rfl ?_
    refine XS.iloadN X3.here hx rfl (hb hby d2_44) rfl ?_
    refine st16 _ ?_
    refine st18 _ ?_
    show Steps p.tables e below (T18.setTop (mkF m 51 #[.val (.ref a1), .val (.ref a2), .val (.int 0), .val (.int 2), .val .null, .val (.ref n1_3)] [])) _
    refine XS.aloadN X18.here hx rfl (hb hby d2_51) rfl rfl ?_
    refine XS.aload X18.here hx rfl (hb hby d2_52) rfl rfl ?_
    refine st31 _ ?_
    exact X31.returnOut hx Bd.returns (hb hby d2_57) hr
  · show Qin4 Z a1 a2 k2 c0 c1 w0 w1 w2 cz h0 n0 _ T31.heap _
    rw [e31]
    exact ⟨n1_3, kn1_3, rfl, N43, K41, gq3_0, sz_n1_3, f33, f34, f35, f36, f37, f39, f40⟩
theorem d1_0 : decode jdk_42_method_3_code 0 = .ok (.aload_n 0, 1) := by decide +kernel
theorem d1_1 : decode jdk_42_method_3_code 1 = .ok (.aload_n 1, 1) := by decide +kernel
theorem d1_2 : decode jdk_42_method_3_code 2 = .ok (.iconst 0, 1) := by decide +kernel
theorem d1_3 : decode jdk_42_method_3_code 3 = .ok (.aload_n 1, 1) := by decide +kernel
theorem d1_4 : decode jdk_42_method_3_code 4 = .ok (.arraylength, 1) := by decide +kernel
theorem d1_5 : decode jdk_42_method_3_code 5 = .ok (.aconst_null, 1) := by decide +kernel
theorem d1_6 : decode jdk_42_method_3_code 6 = .ok (.invokespecial 27, 3) := by decide +kernel
theorem pd_84 : parseMethodDescriptor "([CIILjava/lang/Void;)V" = some ⟨[(.array .char), .int, .int, (.object "java/lang/Void")], none⟩ := by decide +kernel
theorem d1_9 : decode jdk_42_method_3_code 9 = .ok (.return_, 1) := by decide +kernel
theorem ef_in1 (m : MethodId) (x0 : Addr) (x1 : Addr) : entryFrame m #[(.ref x0), (.ref x1)] 2 = mkF m 0 #[.val (.ref x0), .val (.ref x1)] [] := by first | (simp [entryFrame, mkF, argsToLocals, Value.category]; done) | rfl
abbrev R_in1 : Room := { frames := 3, cells := 1, slots := 2, locals := 52 }
def Qin1 (Z : State) (a1 : Addr) (a2 : Addr) (k2 : ClassId) (c0 : Int32) (c1 : Int32) (w0 : Int32) (w1 : Int32) (w2 : Int32) (cz : Int32) (h0 : Heap) (n0 : Nat) (v : Option Value) (h : Heap) (L : List Loc) : Prop := ∃ (n1 : Addr) (kn1 : ClassId), v = none ∧ Fr n0 L ∧ Keep h0 h [a1] ∧ n0 ≤ n1 ∧ h0.size ≤ n1 ∧ Exa Z h a1 KJ ∧ Fld Z h a1 KJ "value" "[B" (.ref n1) ∧ Fld Z h a1 KJ "coder" "B" (.int 0) ∧ Fld Z h a1 KJ "hash" "I" (.int w1) ∧ Fld Z h a1 KJ "hashIsZero" "Z" (.int w2) ∧ Arv Z h n1 kn1 .byte (2 : Int32) [(.int (nar .byte (c0.toInt8.toInt32))), (.int (nar .byte (c1.toInt8.toInt32)))] (.int 0) ∧ Exa Z h n1 "[B"
set_option maxRecDepth 65536 in
set_option maxHeartbeats 40000000 in
theorem rmin1 (l : Launch) (Z : State) (a0 : Array Value) (hw : ∀ d ∈ tables_1, d.before a0 Z = true) (ws : List Jvm.Cond) (a1 : Addr) (a2 : Addr) (k2 : ClassId) (c0 : Int32) (c1 : Int32) (w0 : Int32) (w1 : Int32) (w2 : Int32) (cz : Int32) (h0 : Heap) (n0 : Nat) (Z0 : n0 ≤ h0.size) (O0 : Old Z n0 h0) (S_COMPACT_STRINGS : Sta Z Z.heap KJ "COMPACT_STRINGS" "Z" (.int cz)) (hcz : ¬ (cz = (0 : Int32))) (E_a1 : Exa Z h0 a1 KJ) (F_value_a1 : Fld Z h0 a1 KJ "value" "[B" .null) (F_coder_a1 : Fld Z h0 a1 KJ "coder" "B" (.int w0)) (F_hash_a1 : Fld Z h0 a1 KJ "hash" "I" (.int w1)) (F_hashIsZero_a1 : Fld Z h0 a1 KJ "hashIsZero" "Z" (.int w2)) (g_a1 : n0 ≤ a1) (ne_a1_a2 : a1 ≠ a2) (V_a2 : Arv Z h0 a2 k2 .char (2 : Int32) [(.int c0), (.int c1)] (.int 0)) (hca : ¬ ((255 : Int32) < c0)) (hcb : ¬ ((255 : Int32) < c1)) :
    MetFree l (⟨KJ, "<init>", "([C)V"⟩ : MethodName) (head1 (Jvm.Cond.code (⟨KJ, "<init>", "([C)V"⟩ : MethodName) jdk_42_method_3_code 2 none :: ws) R_in1) (fun a U => a = #[(.ref a1), (.ref a2)] ∧ Z.Warmed39 U.vm ∧ U.heap = h0) (fun _ _ _ _ _ => True) (fun _ U o U' => ∃ v L, o = .returned v ∧ Qin1 Z a1 a2 k2 c0 c1 w0 w1 w2 cz h0 n0 v U'.heap L ∧ FrameEnd U o U' L R_in1.cells R_in1.slots) := by
  refine MetFree.of_bodySF (plainFor_of_name pn_48) hisR ?_
  intro p e s m args below meth c s₁ Bd hml0 hP hK
  obtain ⟨rfl, hZ, hh⟩ := hP
  have hx := Bd.exec
  have hby := Bd.bytes
  have hml : c.maxLocals = 2 := hml0
  have hown : s.vm.findClass KJ = some m.cls := findClass_of_methodNamed Bd.named
  have hnm := (name_of_methodNamed Bd.named Bd.method).1
  have X0 : Stand p l e R_in1 s m #[(.ref a1), (.ref a2)] below meth c s₁ [] 0 0 := Stand.of_body Bd
  have e0 : s₁.heap = h0 := by rw [← hh, Bd.state]; rfl
  have N0 := Fr.nil n0
  have pre0 : ∀ t, Steps p.tables e below (s₁.setTop (mkF m 0 #[.val (.ref a1), .val (.ref a2)] [])) t → Steps p.tables e below (s₁.setTop (entryFrame m #[(.ref a1), (.ref a2)] 2)) t := fun t k => castTop (ef_in1 m a1 a2) k
  obtain ⟨car1, Aar1, qar1, Sar1, Nar1, Har1, Gar1⟩ := id V_a2
  -- pc 6: String.<init> by rmin4
  obtain ⟨_, _, ⟨T2, L2, ck2, cn2⟩, -, X2, ⟨Lc2, hQ2, l2, y2, z2⟩, st2⟩ := X0.specialBack hx (y := (⟨KJ, "<init>", "([CIILjava/lang/Void;)V"⟩ : MethodName)) rfl hown (mvT hZ (own_w hw (i := 7) rfl)) (mvT hZ (own_w hw (i := 8) rfl)) (mvT hZ (own_w hw (i := 10) rfl)) (by decide) (backOf (W := 0) (rmin4 l Z a0 hw [] a1 a2 k2 c0 c1 w0 w1 w2 cz h0 n0 Z0 O0 S_COMPACT_STRINGS hcz E_a1 F_value_a1 F_coder_a1 F_hash_a1 F_hashIsZero_a1 g_a1 ne_a1_a2 V_a2 hca hcb) hZ (own_w hw (i := 10) rfl) (own_w hw (i := 3) rfl) (by decide) (by decide)) (g := (mkF m 6 #[.val (.ref a1), .val (.ref a2)] [.null, (.int 2), (.int 0), (.ref a2), (.ref a1)])) rfl (by rw [hml]; rfl) (Steps.refl _) (a := a1) (argsL := [(.ref a2), (.int 0), (.int 2), .null]) (rest := []) (lenOf pd_84 rfl) rfl (by show 2 * 0 + _ ≤ _; exact Nat.le_of_eq rfl) (hb hby d1_6) (fun _ _ => ⟨rfl, e0, (by decide : 0 + 1 ≤ _), (by decide : 0 + 2 ≤ _)⟩)
  dsimp only [Pt.U, Pt.locs, Pt.cells, Pt.slots] at X2 l2 y2 z2 st2 hQ2
  subst y2 z2
  obtain ⟨n1_2, kn1_2, rfl, N2q, K2q, gq2_0, sq2_0, o2_0, o2_1, o2_2, o2_3, o2_4, o2_5, o2_6⟩ := hQ2
  have N3 : Fr n0 L2 := by rw [l2]; exact Fr.app N0 N2q
  have sz_n1_2 : h0.size ≤ n1_2 := Nat.le_trans (Keep.refl h0 [a1]).1 sq2_0
  have K14 := (Keep.refl h0 [a1]).trans K2q (allS (Or.inl (List.mem_of_getElem? (i := 0) rfl)) all0)
  obtain ⟨fs, hr, hrun, hended, hW, hsame⟩ := X2.leave (v := none) (fun _ => rfl) Bd.notSynchronized
  refine ⟨_, _, pre0 _ ?_, hrun, hended, _, _, rfl, ?_, ⟨_, rfl⟩, hW, hsame.mono (by decide) (by decide)⟩
  · show Steps p.tables e below (s₁.setTop (mkF m 0 #[.val (.ref a1), .val (.ref a2)] [])) _
    refine XS.aloadN X0.here hx rfl (hb hby d1_0) rfl rfl ?_
    refine XS.aloadN X0.here hx rfl (hb hby d1_1) rfl rfl ?_
    refine XS.iconst X0.here hx rfl (hb hby d1_2) ?_
    refine XS.aloadN X0.here hx rfl (hb hby d1_3) rfl rfl ?_
    refine X0.arraylength hx (by rw [e0]; exact Aar1.1) (State.isArrayOf_alike hZ.alike Aar1.2.1) (g := (mkF m 4 #[.val (.ref a1), .val (.ref a2)] [(.ref a2), (.int 0), (.ref a2), (.ref a1)])) rfl rfl (hb hby d1_4) _ ?_
    rw [len_of Sar1 Nar1]
    refine XS.aconstNull X0.here hx rfl (hb hby d1_5) ?_
    refine st2.trans ?_
    exact X2.returnOut hx Bd.returns (hb hby d1_9) hr
  · show Qin1 Z a1 a2 k2 c0 c1 w0 w1 w2 cz h0 n0 _ T2.heap _
    exact ⟨n1_2, kn1_2, rfl, N3, K14, gq2_0, sz_n1_2, o2_0, o2_1, o2_2, o2_3, o2_4, o2_5, o2_6⟩
theorem d11_0 : decode jdk_42_method_152_code 0 = .ok (.getstatic 38, 3) := by decide +kernel
theorem d11_3 : decode jdk_42_method_152_code 3 = .ok (.ifCond .eq 10, 3) := by decide +kernel
theorem d11_6 : decode jdk_42_method_152_code 6 = .ok (.aload_n 0, 1) := by decide +kernel
theorem d11_7 : decode jdk_42_method_152_code 7 = .ok (.getfield 15, 3) := by decide +kernel
theorem d11_10 : decode jdk_42_method_152_code 10 = .ok (.goto 4, 3) := by decide +kernel
theorem d11_14 : decode jdk_42_method_152_code 14 = .ok (.ireturn, 1) := by decide +kernel
theorem ef_coder (m : MethodId) (x0 : Addr) : entryFrame m #[(.ref x0)] 1 = mkF m 0 #[.val (.ref x0)] [] := by first | (simp [entryFrame, mkF, argsToLocals, Value.category]; done) | rfl
abbrev R_coder : Room := { frames := 0, cells := 0, slots := 0, locals := 0 }
def Qcoder (Z : State) (a1 : Addr) (cz : Int32) (h0 : Heap) (n0 : Nat) (v : Option Value) (h : Heap) (L : List Loc) : Prop := v = some (.int 0) ∧ Fr n0 L ∧ h = h0
set_option maxRecDepth 65536 in
set_option maxHeartbeats 40000000 in
theorem rmcoder (l : Launch) (Z : State) (a0 : Array Value) (hw : ∀ d ∈ tables_1, d.before a0 Z = true) (ws : List Jvm.Cond) (a1 : Addr) (cz : Int32) (h0 : Heap) (n0 : Nat) (Z0 : n0 ≤ h0.size) (O0 : Old Z n0 h0) (S_COMPACT_STRINGS : Sta Z Z.heap KJ "COMPACT_STRINGS" "Z" (.int cz)) (hcz : ¬ (cz = (0 : Int32))) (F_coder_a1 : Fld Z h0 a1 KJ "coder" "B" (.int 0)) :
    MetFree l (⟨KJ, "coder", "()B"⟩ : MethodName) (head1 (Jvm.Cond.code (⟨KJ, "coder", "()B"⟩ : MethodName) jdk_42_method_152_code 1 (some .byte) :: ws) R_coder) (fun a U => a = #[(.ref a1)] ∧ Z.Warmed39 U.vm ∧ U.heap = h0) (fun _ _ _ _ _ => True) (fun _ U o U' => ∃ v L, o = .returned v ∧ Qcoder Z a1 cz h0 n0 v U'.heap L ∧ FrameEnd U o U' L R_coder.cells R_coder.slots) := by
  refine MetFree.of_bodySF (plainFor_of_name pn_48) hisR ?_
  intro p e s m args below meth c s₁ Bd hml0 hP hK
  obtain ⟨rfl, hZ, hh⟩ := hP
  have hx := Bd.exec
  have hby := Bd.bytes
  have hml : c.maxLocals = 1 := hml0
  have hown : s.vm.findClass KJ = some m.cls := findClass_of_methodNamed Bd.named
  have hnm := (name_of_methodNamed Bd.named Bd.method).1
  have X0 : Stand p l e R_coder s m #[(.ref a1)] below meth c s₁ [] 0 0 := Stand.of_body Bd
  have e0 : s₁.heap = h0 := by rw [← hh, Bd.state]; rfl
  have N0 := Fr.nil n0
  have pre0 : ∀ t, Steps p.tables e below (s₁.setTop (mkF m 0 #[.val (.ref a1)] [])) t → Steps p.tables e below (s₁.setTop (entryFrame m #[(.ref a1)] 1)) t := fun t k => castTop (ef_coder m a1) k
  obtain ⟨T1, X1, e1, st1⟩ := getS2 X0 hx hZ hown (host := "") (Or.inl (own_w hw (i := 14) rfl)) Via.refl e0 (S_COMPACT_STRINGS.ext O0.2) (g := (mkF m 0 #[.val (.ref a1)] [])) rfl (hb hby d11_0)
  obtain ⟨T2, X2, e2, st2⟩ := getF X1 hx hZ hown (host := "") (Or.inl (own_w hw (i := 26) rfl)) Via.refl e1 F_coder_a1 (g := (mkF m 7 #[.val (.ref a1)] [(.ref a1)])) rfl rfl (hb hby d11_7)
  obtain ⟨fs, hr, hrun, hended, hW, hsame⟩ := X2.leave (v := some (.int 0)) (fun h => by rw [Bd.returns] at h; cases h) Bd.notSynchronized
  refine ⟨_, _, pre0 _ ?_, hrun, hended, _, _, rfl, ?_, ⟨_, rfl⟩, hW, hsame.mono (by decide) (by decide)⟩
  · show Steps p.tables e below (s₁.setTop (mkF m 0 #[.val (.ref a1)] [])) _
    refine st1 _ ?_
    show Steps p.tables e below (T1.setTop (mkF m 3 #[.val (.ref a1)] [(.int cz)])) _
    refine XS.ifNo X1.here hx rfl (hb hby d11_3) rfl ((if0 _ _).trans (feq hcz).1) ?_
    refine XS.aloadN X1.here hx rfl (hb hby d11_6) rfl rfl ?_
    refine st2 _ ?_
    refine XS.goto X2.here hx rfl (pc0 := 10) (pc' := 14) rfl (hb hby d11_10) (by decide) (by decide) ?_
    exact retN X2 hx (t := .byte) Bd.returns (by first | (simp; done) | (simp [narrow]; done) | decide) (hb hby d11_14) hr
  · show Qcoder Z a1 cz h0 n0 _ T2.heap _
    rw [e2]
    exact ⟨rfl, N0, rfl⟩
theorem d13_0 : decode jdk_42_method_154_code 0 = .ok (.getstatic 38, 3) := by decide +kernel
theorem d13_3 : decode jdk_42_method_154_code 3 = .ok (.ifCond .eq 14, 3) := by decide +kernel
theorem d13_6 : decode jdk_42_method_154_code 6 = .ok (.aload_n 0, 1) := by decide +kernel
theorem d13_7 : decode jdk_42_method_154_code 7 = .ok (.getfield 15, 3) := by decide +kernel
theorem d13_10 : decode jdk_42_method_154_code 10 = .ok (.ifCond .ne 7, 3) := by decide +kernel
theorem d13_13 : decode jdk_42_method_154_code 13 = .ok (.iconst 1, 1) := by decide +kernel
theorem d13_14 : decode jdk_42_method_154_code 14 = .ok (.goto 4, 3) := by decide +kernel
theorem d13_18 : decode jdk_42_method_154_code 18 = .ok (.ireturn, 1) := by decide +kernel
theorem ef_lat (m : MethodId) (x0 : Addr) : entryFrame m #[(.ref x0)] 1 = mkF m 0 #[.val (.ref x0)] [] := by first | (simp [entryFrame, mkF, argsToLocals, Value.category]; done) | rfl
abbrev R_lat : Room := { frames := 0, cells := 0, slots := 0, locals := 0 }
def Qlat (Z : State) (a1 : Addr) (cz : Int32) (h0 : Heap) (n0 : Nat) (v : Option Value) (h : Heap) (L : List Loc) : Prop := v = some (.int 1) ∧ Fr n0 L ∧ h = h0
set_option maxRecDepth 65536 in
set_option maxHeartbeats 40000000 in
theorem rmlat (l : Launch) (Z : State) (a0 : Array Value) (hw : ∀ d ∈ tables_1, d.before a0 Z = true) (ws : List Jvm.Cond) (a1 : Addr) (cz : Int32) (h0 : Heap) (n0 : Nat) (Z0 : n0 ≤ h0.size) (O0 : Old Z n0 h0) (S_COMPACT_STRINGS : Sta Z Z.heap KJ "COMPACT_STRINGS" "Z" (.int cz)) (hcz : ¬ (cz = (0 : Int32))) (F_coder_a1 : Fld Z h0 a1 KJ "coder" "B" (.int 0)) :
    MetFree l (⟨KJ, "isLatin1", "()Z"⟩ : MethodName) (head1 (Jvm.Cond.code (⟨KJ, "isLatin1", "()Z"⟩ : MethodName) jdk_42_method_154_code 1 (some .boolean) :: ws) R_lat) (fun a U => a = #[(.ref a1)] ∧ Z.Warmed39 U.vm ∧ U.heap = h0) (fun _ _ _ _ _ => True) (fun _ U o U' => ∃ v L, o = .returned v ∧ Qlat Z a1 cz h0 n0 v U'.heap L ∧ FrameEnd U o U' L R_lat.cells R_lat.slots) := by
  refine MetFree.of_bodySF (plainFor_of_name pn_48) hisR ?_
  intro p e s m args below meth c s₁ Bd hml0 hP hK
  obtain ⟨rfl, hZ, hh⟩ := hP
  have hx := Bd.exec
  have hby := Bd.bytes
  have hml : c.maxLocals = 1 := hml0
  have hown : s.vm.findClass KJ = some m.cls := findClass_of_methodNamed Bd.named
  have hnm := (name_of_methodNamed Bd.named Bd.method).1
  have X0 : Stand p l e R_lat s m #[(.ref a1)] below meth c s₁ [] 0 0 := Stand.of_body Bd
  have e0 : s₁.heap = h0 := by rw [← hh, Bd.state]; rfl
  have N0 := Fr.nil n0
  have pre0 : ∀ t, Steps p.tables e below (s₁.setTop (mkF m 0 #[.val (.ref a1)] [])) t → Steps p.tables e below (s₁.setTop (entryFrame m #[(.ref a1)] 1)) t := fun t k => castTop (ef_lat m a1) k
  obtain ⟨T1, X1, e1, st1⟩ := getS2 X0 hx hZ hown (host := "") (Or.inl (own_w hw (i := 14) rfl)) Via.refl e0 (S_COMPACT_STRINGS.ext O0.2) (g := (mkF m 0 #[.val (.ref a1)] [])) rfl (hb hby d13_0)
  obtain ⟨T2, X2, e2, st2⟩ := getF X1 hx hZ hown (host := "") (Or.inl (own_w hw (i := 26) rfl)) Via.refl e1 F_coder_a1 (g := (mkF m 7 #[.val (.ref a1)] [(.ref a1)])) rfl rfl (hb hby d13_7)
  obtain ⟨fs, hr, hrun, hended, hW, hsame⟩ := X2.leave (v := some (.int 1)) (fun h => by rw [Bd.returns] at h; cases h) Bd.notSynchronized
  refine ⟨_, _, pre0 _ ?_, hrun, hended, _, _, rfl, ?_, ⟨_, rfl⟩, hW, hsame.mono (by decide) (by decide)⟩
  · show Steps p.tables e below (s₁.setTop (mkF m 0 #[.val (.ref a1)] [])) _
    refine st1 _ ?_
    show Steps p.tables e below (T1.setTop (mkF m 3 #[.val (.ref a1)] [(.int cz)])) _
    refine XS.ifNo X1.here hx rfl (hb hby d13_3) rfl ((if0 _ _).trans (feq hcz).1) ?_
    refine XS.aloadN X1.here hx rfl (hb hby d13_6) rfl rfl ?_
    refine st2 _ ?_
    show Steps p.tables e below (T2.setTop (mkF m 10 #[.val (.ref a1)] [(.int 0)])) _
    refine XS.ifNo X2.here hx rfl (hb hby d13_10) rfl ((if0 _ _).trans (teq (by decide : (0 : Int32) = (0 : Int32))).2) ?_
    refine XS.iconst X2.here hx rfl (hb hby d13_13) ?_
    refine XS.goto X2.here hx rfl (pc0 := 14) (pc' := 18) rfl (hb hby d13_14) (by decide) (by decide) ?_
    exact retN X2 hx (t := .boolean) Bd.returns (by simp) (hb hby d13_18) hr
  · show Qlat Z a1 cz h0 n0 _ T2.heap _
    rw [e2]
    exact ⟨rfl, N0, rfl⟩
theorem d10_0 : decode jdk_42_method_54_code 0 = .ok (.aload_n 0, 1) := by decide +kernel
theorem d10_1 : decode jdk_42_method_54_code 1 = .ok (.getfield 9, 3) := by decide +kernel
theorem d10_4 : decode jdk_42_method_54_code 4 = .ok (.arraylength, 1) := by decide +kernel
theorem d10_5 : decode jdk_42_method_54_code 5 = .ok (.aload_n 0, 1) := by decide +kernel
theorem d10_6 : decode jdk_42_method_54_code 6 = .ok (.invokevirtual 335, 3) := by decide +kernel
theorem pd_105 : parseMethodDescriptor "()B" = some ⟨[], some .byte⟩ := by decide +kernel
theorem d10_9 : decode jdk_42_method_54_code 9 = .ok (.ishr, 1) := by decide +kernel
theorem d10_10 : decode jdk_42_method_54_code 10 = .ok (.ireturn, 1) := by decide +kernel
theorem ef_len (m : MethodId) (x0 : Addr) : entryFrame m #[(.ref x0)] 1 = mkF m 0 #[.val (.ref x0)] [] := by first | (simp [entryFrame, mkF, argsToLocals, Value.category]; done) | rfl
abbrev R_len : Room := { frames := 1, cells := 0, slots := 0, locals := 13 }
def Qlen (Z : State) (a1 : Addr) (bv : Addr) (kb : ClassId) (b0 : Int32) (b1 : Int32) (cz : Int32) (h0 : Heap) (n0 : Nat) (v : Option Value) (h : Heap) (L : List Loc) : Prop := v = some (.int 2) ∧ Fr n0 L ∧ h = h0
set_option maxRecDepth 65536 in
set_option maxHeartbeats 40000000 in
theorem rmlen (l : Launch) (Z : State) (a0 : Array Value) (hw : ∀ d ∈ tables_1, d.before a0 Z = true) (ws : List Jvm.Cond) (a1 : Addr) (bv : Addr) (kb : ClassId) (b0 : Int32) (b1 : Int32) (cz : Int32) (h0 : Heap) (n0 : Nat) (Z0 : n0 ≤ h0.size) (O0 : Old Z n0 h0) (S_COMPACT_STRINGS : Sta Z Z.heap KJ "COMPACT_STRINGS" "Z" (.int cz)) (hcz : ¬ (cz = (0 : Int32))) (E_a1 : Exa Z h0 a1 KJ) (F_value_a1 : Fld Z h0 a1 KJ "value" "[B" (.ref bv)) (F_coder_a1 : Fld Z h0 a1 KJ "coder" "B" (.int 0)) (V_bv : Arv Z h0 bv kb .byte (2 : Int32) [(.int b0), (.int b1)] (.int 0)) :
    MetFree l (⟨KJ, "length", "()I"⟩ : MethodName) (head1 (Jvm.Cond.code (⟨KJ, "length", "()I"⟩ : MethodName) jdk_42_method_54_code 1 (some .int) :: ws) R_len) (fun a U => a = #[(.ref a1)] ∧ Z.Warmed39 U.vm ∧ U.heap = h0) (fun _ _ _ _ _ => True) (fun _ U o U' => ∃ v L, o = .returned v ∧ Qlen Z a1 bv kb b0 b1 cz h0 n0 v U'.heap L ∧ FrameEnd U o U' L R_len.cells R_len.slots) := by
  refine MetFree.of_bodySF (plainFor_of_name pn_48) hisR ?_
  intro p e s m args below meth c s₁ Bd hml0 hP hK
  obtain ⟨rfl, hZ, hh⟩ := hP
  have hx := Bd.exec
  have hby := Bd.bytes
  have hml : c.maxLocals = 1 := hml0
  have hown : s.vm.findClass KJ = some m.cls := findClass_of_methodNamed Bd.named
  have hnm := (name_of_methodNamed Bd.named Bd.method).1
  have X0 : Stand p l e R_len s m #[(.ref a1)] below meth c s₁ [] 0 0 := Stand.of_body Bd
  have e0 : s₁.heap = h0 := by rw [← hh, Bd.state]; rfl
  have N0 := Fr.nil n0
  have pre0 : ∀ t, Steps p.tables e below (s₁.setTop (mkF m 0 #[.val (.ref a1)] [])) t → Steps p.tables e below (s₁.setTop (entryFrame m #[(.ref a1)] 1)) t := fun t k => castTop (ef_len m a1) k
  obtain ⟨T1, X1, e1, st1⟩ := getF X0 hx hZ hown (host := "") (Or.inl (own_w hw (i := 28) rfl)) Via.refl e0 F_value_a1 (g := (mkF m 1 #[.val (.ref a1)] [(.ref a1)])) rfl rfl (hb hby d10_1)
  obtain ⟨car2, Aar2, qar2, Sar2, Nar2, Har2, Gar2⟩ := id V_bv
  -- pc 6: String.coder by rmcoder
  obtain ⟨cq3, kq3, q3a, q3b, q3c⟩ := isOf hZ e1 E_a1
  obtain ⟨_, _, ⟨T3, L3, ck3, cn3⟩, -, X3, ⟨Lc3, hQ3, l3, y3, z3⟩, st3⟩ := X1.virtualBack hx (y := (⟨KJ, "coder", "()B"⟩ : MethodName)) (z := (⟨KJ, "coder", "()B"⟩ : MethodName)) hown (mvT hZ (own_w hw (i := 62) rfl)) (mvT hZ (own_w hw (i := 63) rfl)) (notFace_of_selects (args := #[]) (mvT hZ (own_w hw (i := 65) rfl))) (mvT hZ (own_w hw (i := 65) rfl)) (mvT hZ (own_w hw (i := 64) rfl)) (by decide) (backOf (W := 1) (rmcoder l Z a0 hw [] a1 cz h0 n0 Z0 O0 S_COMPACT_STRINGS hcz F_coder_a1) hZ (own_w hw (i := 66) rfl) (own_w hw (i := 3) rfl) (by decide) (by decide)) q3a q3c (g := (mkF m 6 #[.val (.ref a1)] [(.ref a1), (.int 2)])) rfl (by rw [hml]; rfl) (Steps.refl _) (argsL := []) (rest := [(.int 2)]) (lenOf pd_105 rfl) rfl (by show 2 * 0 + _ ≤ _; exact Nat.le_of_eq rfl) (hb hby d10_6) (fun _ _ => ⟨rfl, e1, (by decide : 0 + 0 ≤ _), (by decide : 0 + 0 ≤ _)⟩)
  dsimp only [Pt.U, Pt.locs, Pt.cells, Pt.slots] at X3 l3 y3 z3 st3 hQ3
  subst y3 z3
  obtain ⟨rfl, N3q, e3⟩ := hQ3
  have N4 : Fr n0 L3 := by rw [l3]; exact Fr.app N0 N3q
  obtain ⟨fs, hr, hrun, hended, hW, hsame⟩ := X3.leave (v := some (.int 2)) (fun h => by rw [Bd.returns] at h; cases h) Bd.notSynchronized
  refine ⟨_, _, pre0 _ ?_, hrun, hended, _, _, rfl, ?_, ⟨_, rfl⟩, hW, hsame.mono (by decide) (by decide)⟩
  · show Steps p.tables e below (s₁.setTop (mkF m 0 #[.val (.ref a1)] [])) _
    refine XS.aloadN X0.here hx rfl (hb hby d10_0) rfl rfl ?_
    refine st1 _ ?_
    refine X1.arraylength hx (by rw [e1]; exact Aar2.1) (State.isArrayOf_alike hZ.alike Aar2.2.1) (g := (mkF m 4 #[.val (.ref a1)] [(.ref bv)])) rfl rfl (hb hby d10_4) _ ?_
    rw [len_of Sar2 Nar2]
    refine XS.aloadN X1.here hx rfl (hb hby d10_5) rfl rfl ?_
    refine st3.trans ?_
    refine XS.ishr X3.here hx rfl (hb hby d10_9) rfl ?_
    exact retI X3 hx Bd.returns (hb hby d10_10) hr
  · show Qlen Z a1 bv kb b0 b1 cz h0 n0 _ T3.heap _
    rw [e3]
    exact ⟨rfl, N4, rfl⟩
theorem pn_108 : plainName "jdk/internal/util/Preconditions" = true := by first | (simp [plainName, overriddenIn]; done) | decide +kernel
theorem d16_0 : decode jdk_41_method_11_code 0 = .ok (.iload_n 0, 1) := by decide +kernel
theorem d16_1 : decode jdk_41_method_11_code 1 = .ok (.ifCond .lt 8, 3) := by decide +kernel
theorem d16_4 : decode jdk_41_method_11_code 4 = .ok (.iload_n 0, 1) := by decide +kernel
theorem d16_5 : decode jdk_41_method_11_code 5 = .ok (.iload_n 1, 1) := by decide +kernel
theorem d16_6 : decode jdk_41_method_11_code 6 = .ok (.if_icmp .lt 10, 3) := by decide +kernel
theorem d16_16 : decode jdk_41_method_11_code 16 = .ok (.iload_n 0, 1) := by decide +kernel
theorem d16_17 : decode jdk_41_method_11_code 17 = .ok (.ireturn, 1) := by decide +kernel
theorem ef_pc0N (m : MethodId) (x0 : Int32) (x1 : Int32) : entryFrame m #[(.int x0), (.int x1), .null] 3 = mkF m 0 #[.val (.int x0), .val (.int x1), .val .null] [] := by first | (simp [entryFrame, mkF, argsToLocals, Value.category]; done) | rfl
abbrev R_pc0N : Room := { frames := 0, cells := 0, slots := 0, locals := 0 }
def Qpc0N (Z : State)  (h0 : Heap) (n0 : Nat) (v : Option Value) (h : Heap) (L : List Loc) : Prop := v = some (.int 0) ∧ Fr n0 L ∧ h = h0
set_option maxRecDepth 65536 in
set_option maxHeartbeats 40000000 in
theorem rmpc0N (l : Launch) (Z : State) (a0 : Array Value) (hw : ∀ d ∈ tables_1, d.before a0 Z = true) (ws : List Jvm.Cond)  (h0 : Heap) (n0 : Nat) (Z0 : n0 ≤ h0.size) :
    MetFree l (⟨"jdk/internal/util/Preconditions", "checkIndex", "(IILjava/util/function/BiFunction;)I"⟩ : MethodName) (head1 (Jvm.Cond.code (⟨"jdk/internal/util/Preconditions", "checkIndex", "(IILjava/util/function/BiFunction;)I"⟩ : MethodName) jdk_41_method_11_code 3 (some .int) :: ws) R_pc0N) (fun a U => a = #[(.int 0), (.int 2), .null] ∧ Z.Warmed39 U.vm ∧ U.heap = h0) (fun _ _ _ _ _ => True) (fun _ U o U' => ∃ v L, o = .returned v ∧ Qpc0N Z  h0 n0 v U'.heap L ∧ FrameEnd U o U' L R_pc0N.cells R_pc0N.slots) := by
  refine MetFree.of_bodySF (plainFor_of_name pn_108) hisR ?_
  intro p e s m args below meth c s₁ Bd hml0 hP hK
  obtain ⟨rfl, hZ, hh⟩ := hP
  have hx := Bd.exec
  have hby := Bd.bytes
  have hml : c.maxLocals = 3 := hml0
  have hown : s.vm.findClass "jdk/internal/util/Preconditions" = some m.cls := findClass_of_methodNamed Bd.named
  have hnm := (name_of_methodNamed Bd.named Bd.method).1
  have X0 : Stand p l e R_pc0N s m #[(.int 0), (.int 2), .null] below meth c s₁ [] 0 0 := Stand.of_body Bd
  have e0 : s₁.heap = h0 := by rw [← hh, Bd.state]; rfl
  have N0 := Fr.nil n0
  have pre0 : ∀ t, Steps p.tables e below (s₁.setTop (mkF m 0 #[.val (.int 0), .val (.int 2), .val .null] [])) t → Steps p.tables e below (s₁.setTop (entryFrame m #[(.int 0), (.int 2), .null] 3)) t := fun t k => castTop (ef_pc0N m (0 : Int32) (2 : Int32)) k
  obtain ⟨fs, hr, hrun, hended, hW, hsame⟩ := X0.leave (v := some (.int 0)) (fun h => by rw [Bd.returns] at h; cases h) Bd.notSynchronized
  refine ⟨_, _, pre0 _ ?_, hrun, hended, _, _, rfl, ?_, ⟨_, rfl⟩, hW, hsame.mono (by decide) (by decide)⟩
  · show Steps p.tables e below (s₁.setTop (mkF m 0 #[.val (.int 0), .val (.int 2), .val .null] [])) _
    refine XS.iloadN X0.here hx rfl (hb hby d16_0) rfl ?_
    show Steps p.tables e below (s₁.setTop (mkF m 1 #[.val (.int 0), .val (.int 2), .val .null] [(.int 0)])) _
    refine XS.ifNo X0.here hx rfl (hb hby d16_1) rfl ((if0 _ _).trans (flt (by decide : ¬ ((0 : Int32) < (0 : Int32)))).1) ?_
    refine XS.iloadN X0.here hx rfl (hb hby d16_4) rfl ?_
    refine XS.iloadN X0.here hx rfl (hb hby d16_5) rfl ?_
    show Steps p.tables e below (s₁.setTop (mkF m 6 #[.val (.int 0), .val (.int 2), .val .null] [(.int 2), (.int 0)])) _
    refine XS.icmpYes X0.here hx rfl (pc0 := 6) (pc' := 16) rfl (hb hby d16_6) rfl (tlt (by decide : (0 : Int32) < (2 : Int32))).1 (by decide) (by decide) ?_
    refine XS.iloadN X0.here hx rfl (hb hby d16_16) rfl ?_
    exact retI X0 hx Bd.returns (hb hby d16_17) hr
  · show Qpc0N Z  h0 n0 _ s₁.heap _
    rw [e0]
    exact ⟨rfl, N0, rfl⟩
theorem ef_pc0R (m : MethodId) (x0 : Int32) (x1 : Int32) (x2 : Addr) : entryFrame m #[(.int x0), (.int x1), (.ref x2)] 3 = mkF m 0 #[.val (.int x0), .val (.int x1), .val (.ref x2)] [] := by first | (simp [entryFrame, mkF, argsToLocals, Value.category]; done) | rfl
abbrev R_pc0R : Room := { frames := 0, cells := 0, slots := 0, locals := 0 }
def Qpc0R (Z : State) (a3 : Addr) (h0 : Heap) (n0 : Nat) (v : Option Value) (h : Heap) (L : List Loc) : Prop := v = some (.int 0) ∧ Fr n0 L ∧ h = h0
set_option maxRecDepth 65536 in
set_option maxHeartbeats 40000000 in
theorem rmpc0R (l : Launch) (Z : State) (a0 : Array Value) (hw : ∀ d ∈ tables_1, d.before a0 Z = true) (ws : List Jvm.Cond) (a3 : Addr) (h0 : Heap) (n0 : Nat) (Z0 : n0 ≤ h0.size) :
    MetFree l (⟨"jdk/internal/util/Preconditions", "checkIndex", "(IILjava/util/function/BiFunction;)I"⟩ : MethodName) (head1 (Jvm.Cond.code (⟨"jdk/internal/util/Preconditions", "checkIndex", "(IILjava/util/function/BiFunction;)I"⟩ : MethodName) jdk_41_method_11_code 3 (some .int) :: ws) R_pc0R) (fun a U => a = #[(.int 0), (.int 2), (.ref a3)] ∧ Z.Warmed39 U.vm ∧ U.heap = h0) (fun _ _ _ _ _ => True) (fun _ U o U' => ∃ v L, o = .returned v ∧ Qpc0R Z a3 h0 n0 v U'.heap L ∧ FrameEnd U o U' L R_pc0R.cells R_pc0R.slots) := by
  refine MetFree.of_bodySF (plainFor_of_name pn_108) hisR ?_
  intro p e s m args below meth c s₁ Bd hml0 hP hK
  obtain ⟨rfl, hZ, hh⟩ := hP
  have hx := Bd.exec
  have hby := Bd.bytes
  have hml : c.maxLocals = 3 := hml0
  have hown : s.vm.findClass "jdk/internal/util/Preconditions" = some m.cls := findClass_of_methodNamed Bd.named
  have hnm := (name_of_methodNamed Bd.named Bd.method).1
  have X0 : Stand p l e R_pc0R s m #[(.int 0), (.int 2), (.ref a3)] below meth c s₁ [] 0 0 := Stand.of_body Bd
  have e0 : s₁.heap = h0 := by rw [← hh, Bd.state]; rfl
  have N0 := Fr.nil n0
  have pre0 : ∀ t, Steps p.tables e below (s₁.setTop (mkF m 0 #[.val (.int 0), .val (.int 2), .val (.ref a3)] [])) t → Steps p.tables e below (s₁.setTop (entryFrame m #[(.int 0), (.int 2), (.ref a3)] 3)) t := fun t k => castTop (ef_pc0R m (0 : Int32) (2 : Int32) a3) k
  obtain ⟨fs, hr, hrun, hended, hW, hsame⟩ := X0.leave (v := some (.int 0)) (fun h => by rw [Bd.returns] at h; cases h) Bd.notSynchronized
  refine ⟨_, _, pre0 _ ?_, hrun, hended, _, _, rfl, ?_, ⟨_, rfl⟩, hW, hsame.mono (by decide) (by decide)⟩
  · show Steps p.tables e below (s₁.setTop (mkF m 0 #[.val (.int 0), .val (.int 2), .val (.ref a3)] [])) _
    refine XS.iloadN X0.here hx rfl (hb hby d16_0) rfl ?_
    show Steps p.tables e below (s₁.setTop (mkF m 1 #[.val (.int 0), .val (.int 2), .val (.ref a3)] [(.int 0)])) _
    refine XS.ifNo X0.here hx rfl (hb hby d16_1) rfl ((if0 _ _).trans (flt (by decide : ¬ ((0 : Int32) < (0 : Int32)))).1) ?_
    refine XS.iloadN X0.here hx rfl (hb hby d16_4) rfl ?_
    refine XS.iloadN X0.here hx rfl (hb hby d16_5) rfl ?_
    show Steps p.tables e below (s₁.setTop (mkF m 6 #[.val (.int 0), .val (.int 2), .val (.ref a3)] [(.int 2), (.int 0)])) _
    refine XS.icmpYes X0.here hx rfl (pc0 := 6) (pc' := 16) rfl (hb hby d16_6) rfl (tlt (by decide : (0 : Int32) < (2 : Int32))).1 (by decide) (by decide) ?_
    refine XS.iloadN X0.here hx rfl (hb hby d16_16) rfl ?_
    exact retI X0 hx Bd.returns (hb hby d16_17) hr
  · show Qpc0R Z a3 h0 n0 _ s₁.heap _
    rw [e0]
    exact ⟨rfl, N0, rfl⟩
theorem d15_0 : decode jdk_42_method_155_code 0 = .ok (.iload_n 0, 1) := by decide +kernel
theorem d15_1 : decode jdk_42_method_155_code 1 = .ok (.iload_n 1, 1) := by decide +kernel
theorem d15_2 : decode jdk_42_method_155_code 2 = .ok (.getstatic 1053, 3) := by decide +kernel
theorem d15_5 : decode jdk_42_method_155_code 5 = .ok (.invokestatic 1059, 3) := by decide +kernel
theorem pd_120 : parseMethodDescriptor "(IILjava/util/function/BiFunction;)I" = some ⟨[.int, .int, (.object "java/util/function/BiFunction")], some .int⟩ := by decide +kernel
theorem d15_8 : decode jdk_42_method_155_code 8 = .ok (.pop, 1) := by decide +kernel
theorem d15_9 : decode jdk_42_method_155_code 9 = .ok (.return_, 1) := by decide +kernel
theorem ef_ci0 (m : MethodId) (x0 : Int32) (x1 : Int32) : entryFrame m #[(.int x0), (.int x1)] 2 = mkF m 0 #[.val (.int x0), .val (.int x1)] [] := by first | (simp [entryFrame, mkF, argsToLocals, Value.category]; done) | rfl
abbrev R_ci0 : Room := { frames := 1, cells := 0, slots := 0, locals := 14 }
def Qci0 (Z : State) (fmt : Value) (h0 : Heap) (n0 : Nat) (v : Option Value) (h : Heap) (L : List Loc) : Prop := v = none ∧ Fr n0 L ∧ h = h0
set_option maxRecDepth 65536 in
set_option maxHeartbeats 40000000 in
theorem rmci0 (l : Launch) (Z : State) (a0 : Array Value) (hw : ∀ d ∈ tables_1, d.before a0 Z = true) (ws : List Jvm.Cond) (fmt : Value) (h0 : Heap) (n0 : Nat) (Z0 : n0 ≤ h0.size) (O0 : Old Z n0 h0) (S_SIOOBE_FORMATTER : Sta Z Z.heap "jdk/internal/util/Preconditions" "SIOOBE_FORMATTER" "Ljava/util/function/BiFunction;" fmt) (hfmt : fmt = .null ∨ ∃ a, fmt = .ref a) :
    MetFree l (⟨KJ, "checkIndex", "(II)V"⟩ : MethodName) (head1 (Jvm.Cond.code (⟨KJ, "checkIndex", "(II)V"⟩ : MethodName) jdk_42_method_155_code 2 none :: ws) R_ci0) (fun a U => a = #[(.int 0), (.int 2)] ∧ Z.Warmed39 U.vm ∧ U.heap = h0) (fun _ _ _ _ _ => True) (fun _ U o U' => ∃ v L, o = .returned v ∧ Qci0 Z fmt h0 n0 v U'.heap L ∧ FrameEnd U o U' L R_ci0.cells R_ci0.slots) := by
  refine MetFree.of_bodySF (plainFor_of_name pn_48) hisR ?_
  intro p e s m args below meth c s₁ Bd hml0 hP hK
  obtain ⟨rfl, hZ, hh⟩ := hP
  have hx := Bd.exec
  have hby := Bd.bytes
  have hml : c.maxLocals = 2 := hml0
  have hown : s.vm.findClass KJ = some m.cls := findClass_of_methodNamed Bd.named
  have hnm := (name_of_methodNamed Bd.named Bd.method).1
  have X0 : Stand p l e R_ci0 s m #[(.int 0), (.int 2)] below meth c s₁ [] 0 0 := Stand.of_body Bd
  have e0 : s₁.heap = h0 := by rw [← hh, Bd.state]; rfl
  have N0 := Fr.nil n0
  have pre0 : ∀ t, Steps p.tables e below (s₁.setTop (mkF m 0 #[.val (.int 0), .val (.int 2)] [])) t → Steps p.tables e below (s₁.setTop (entryFrame m #[(.int 0), (.int 2)] 2)) t := fun t k => castTop (ef_ci0 m (0 : Int32) (2 : Int32)) k
  rcases hfmt with hq0 | ⟨fa, hq0⟩
  ·  -- the formatter: N
    have S_q := S_SIOOBE_FORMATTER
    rw [hq0] at S_q
    obtain ⟨T1, X1, e1, st1⟩ := getS2 X0 hx hZ hown (host := "") (Or.inl (own_w hw (i := 84) rfl)) Via.refl e0 (S_q.ext O0.2) (g := (mkF m 2 #[.val (.int 0), .val (.int 2)] [(.int 2), (.int 0)])) rfl (hb hby d15_2)
    -- pc 5: Preconditions.checkIndex by rmpc0N
    obtain ⟨_, _, ⟨T2, L2, ck2, cn2⟩, -, X2, ⟨Lc2, hQ2, l2, y2, z2⟩, st2⟩ := Jvm.LawKit.callS X1 hx (y := (⟨"jdk/internal/util/Preconditions", "checkIndex", "(IILjava/util/function/BiFunction;)I"⟩ : MethodName)) hown (mvT hZ (own_w hw (i := 86) rfl)) (mvT hZ (own_w hw (i := 87) rfl)) (mvT hZ (own_w hw (i := 85) rfl)) (mvT hZ (own_w hw (i := 88) rfl)) (by decide) (backOf (W := 0) (rmpc0N l Z a0 hw []  h0 n0 Z0 ) hZ (own_w hw (i := 88) rfl) (own_w hw (i := 85) rfl) (by decide) (by decide)) (g := (mkF m 5 #[.val (.int 0), .val (.int 2)] [.null, (.int 2), (.int 0)])) rfl (by rw [hml]; rfl) (argsL := [(.int 0), (.int 2), .null]) (rest := []) (lenOf pd_120 rfl) rfl (by show 2 * 0 + _ ≤ _; exact Nat.le_of_eq rfl) (hb hby d15_5) (fun _ _ => ⟨rfl, e1, (by decide : 0 + 0 ≤ _), (by decide : 0 + 0 ≤ _)⟩)
    dsimp only [Pt.U, Pt.locs, Pt.cells, Pt.slots] at X2 l2 y2 z2 st2 hQ2
    subst y2 z2
    obtain ⟨rfl, N2q, e2⟩ := hQ2
    have N3 : Fr n0 L2 := by rw [l2]; exact Fr.app N0 N2q
    obtain ⟨fs, hr, hrun, hended, hW, hsame⟩ := X2.leave (v := none) (fun _ => rfl) Bd.notSynchronized
    refine ⟨_, _, pre0 _ ?_, hrun, hended, _, _, rfl, ?_, ⟨_, rfl⟩, hW, hsame.mono (by decide) (by decide)⟩
    · show Steps p.tables e below (s₁.setTop (mkF m 0 #[.val (.int 0), .val (.int 2)] [])) _
      refine XS.iloadN X0.here hx rfl (hb hby d15_0) rfl ?_
      refine XS.iloadN X0.here hx rfl (hb hby d15_1) rfl ?_
      refine st1 _ ?_
      refine st2 _ ?_
      refine XS.pop X2.here hx rfl (hb hby d15_8) rfl rfl ?_
      exact X2.returnOut hx Bd.returns (hb hby d15_9) hr
    · show Qci0 Z fmt h0 n0 _ T2.heap _
      rw [e2]
      exact ⟨rfl, N3, rfl⟩
  ·  -- the formatter: R
    have S_q := S_SIOOBE_FORMATTER
    rw [hq0] at S_q
    obtain ⟨T4, X4, e4, st4⟩ := getS2 X0 hx hZ hown (host := "") (Or.inl (own_w hw (i := 84) rfl)) Via.refl e0 (S_q.ext O0.2) (g := (mkF m 2 #[.val (.int 0), .val (.int 2)] [(.int 2), (.int 0)])) rfl (hb hby d15_2)
    -- pc 5: Preconditions.checkIndex by rmpc0R
    obtain ⟨_, _, ⟨T5, L5, ck5, cn5⟩, -, X5, ⟨Lc5, hQ5, l5, y5, z5⟩, st5⟩ := Jvm.LawKit.callS X4 hx (y := (⟨"jdk/internal/util/Preconditions", "checkIndex", "(IILjava/util/function/BiFunction;)I"⟩ : MethodName)) hown (mvT hZ (own_w hw (i := 86) rfl)) (mvT hZ (own_w hw (i := 87) rfl)) (mvT hZ (own_w hw (i := 85) rfl)) (mvT hZ (own_w hw (i := 88) rfl)) (by decide) (backOf (W := 0) (rmpc0R l Z a0 hw [] fa h0 n0 Z0 ) hZ (own_w hw (i := 88) rfl) (own_w hw (i := 85) rfl) (by decide) (by decide)) (g := (mkF m 5 #[.val (.int 0), .val (.int 2)] [(.ref fa), (.int 2), (.int 0)])) rfl (by rw [hml]; rfl) (argsL := [(.int 0), (.int 2), (.ref fa)]) (rest := []) (lenOf pd_120 rfl) rfl (by show 2 * 0 + _ ≤ _; exact Nat.le_of_eq rfl) (hb hby d15_5) (fun _ _ => ⟨rfl, e4, (by decide : 0 + 0 ≤ _), (by decide : 0 + 0 ≤ _)⟩)
    dsimp only [Pt.U, Pt.locs, Pt.cells, Pt.slots] at X5 l5 y5 z5 st5 hQ5
    subst y5 z5
    obtain ⟨rfl, N5q, e5⟩ := hQ5
    have N6 : Fr n0 L5 := by rw [l5]; exact Fr.app N0 N5q
    obtain ⟨fs, hr, hrun, hended, hW, hsame⟩ := X5.leave (v := none) (fun _ => rfl) Bd.notSynchronized
    refine ⟨_, _, pre0 _ ?_, hrun, hended, _, _, rfl, ?_, ⟨_, rfl⟩, hW, hsame.mono (by decide) (by decide)⟩
    · show Steps p.tables e below (s₁.setTop (mkF m 0 #[.val (.int 0), .val (.int 2)] [])) _
      refine XS.iloadN X0.here hx rfl (hb hby d15_0) rfl ?_
      refine XS.iloadN X0.here hx rfl (hb hby d15_1) rfl ?_
      refine st4 _ ?_
      refine st5 _ ?_
      refine XS.pop X5.here hx rfl (hb hby d15_8) rfl rfl ?_
      exact X5.returnOut hx Bd.returns (hb hby d15_9) hr
    · show Qci0 Z fmt h0 n0 _ T5.heap _
      rw [e5]
      exact ⟨rfl, N6, rfl⟩
theorem pn_123 : plainName "java/lang/StringLatin1" = true := by first | (simp [plainName, overriddenIn]; done) | decide +kernel
theorem d14_0 : decode jdk_43_method_2_code 0 = .ok (.iload_n 1, 1) := by decide +kernel
theorem d14_1 : decode jdk_43_method_2_code 1 = .ok (.aload_n 0, 1) := by decide +kernel
theorem d14_2 : decode jdk_43_method_2_code 2 = .ok (.arraylength, 1) := by decide +kernel
theorem d14_3 : decode jdk_43_method_2_code 3 = .ok (.invokestatic 9, 3) := by decide +kernel
theorem pd_128 : parseMethodDescriptor "(II)V" = some ⟨[.int, .int], none⟩ := by decide +kernel
theorem d14_6 : decode jdk_43_method_2_code 6 = .ok (.aload_n 0, 1) := by decide +kernel
theorem d14_7 : decode jdk_43_method_2_code 7 = .ok (.iload_n 1, 1) := by decide +kernel
theorem d14_8 : decode jdk_43_method_2_code 8 = .ok (.baload, 1) := by decide +kernel
theorem d14_9 : decode jdk_43_method_2_code 9 = .ok (.sipush 255, 3) := by decide +kernel
theorem d14_12 : decode jdk_43_method_2_code 12 = .ok (.iand, 1) := by decide +kernel
theorem d14_13 : decode jdk_43_method_2_code 13 = .ok (.i2c, 1) := by decide +kernel
theorem d14_14 : decode jdk_43_method_2_code 14 = .ok (.ireturn, 1) := by decide +kernel
theorem ef_cl0 (m : MethodId) (x0 : Addr) (x1 : Int32) : entryFrame m #[(.ref x0), (.int x1)] 2 = mkF m 0 #[.val (.ref x0), .val (.int x1)] [] := by first | (simp [entryFrame, mkF, argsToLocals, Value.category]; done) | rfl
abbrev R_cl0 : Room := { frames := 2, cells := 0, slots := 0, locals := 27 }
def Qcl0 (Z : State) (a1 : Addr) (k1 : ClassId) (b0 : Int32) (b1 : Int32) (fmt : Value) (h0 : Heap) (n0 : Nat) (v : Option Value) (h : Heap) (L : List Loc) : Prop := v = some (.int (own_cl b0)) ∧ Fr n0 L ∧ h = h0
set_option maxRecDepth 65536 in
set_option maxHeartbeats 40000000 in
theorem rmcl0 (l : Launch) (Z : State) (a0 : Array Value) (hw : ∀ d ∈ tables_1, d.before a0 Z = true) (ws : List Jvm.Cond) (a1 : Addr) (k1 : ClassId) (b0 : Int32) (b1 : Int32) (fmt : Value) (h0 : Heap) (n0 : Nat) (Z0 : n0 ≤ h0.size) (O0 : Old Z n0 h0) (V_a1 : Arv Z h0 a1 k1 .byte (2 : Int32) [(.int b0), (.int b1)] (.int 0)) (S_SIOOBE_FORMATTER : Sta Z Z.heap "jdk/internal/util/Preconditions" "SIOOBE_FORMATTER" "Ljava/util/function/BiFunction;" fmt) (hfmt : fmt = .null ∨ ∃ a, fmt = .ref a) :
    MetFree l (⟨"java/lang/StringLatin1", "charAt", "([BI)C"⟩ : MethodName) (head1 (Jvm.Cond.code (⟨"java/lang/StringLatin1", "charAt", "([BI)C"⟩ : MethodName) jdk_43_method_2_code 2 (some .char) :: ws) R_cl0) (fun a U => a = #[(.ref a1), (.int 0)] ∧ Z.Warmed39 U.vm ∧ U.heap = h0) (fun _ _ _ _ _ => True) (fun _ U o U' => ∃ v L, o = .returned v ∧ Qcl0 Z a1 k1 b0 b1 fmt h0 n0 v U'.heap L ∧ FrameEnd U o U' L R_cl0.cells R_cl0.slots) := by
  refine MetFree.of_bodySF (plainFor_of_name pn_123) hisR ?_
  intro p e s m args below meth c s₁ Bd hml0 hP hK
  obtain ⟨rfl, hZ, hh⟩ := hP
  have hx := Bd.exec
  have hby := Bd.bytes
  have hml : c.maxLocals = 2 := hml0
  have hown : s.vm.findClass "java/lang/StringLatin1" = some m.cls := findClass_of_methodNamed Bd.named
  have hnm := (name_of_methodNamed Bd.named Bd.method).1
  have X0 : Stand p l e R_cl0 s m #[(.ref a1), (.int 0)] below meth c s₁ [] 0 0 := Stand.of_body Bd
  have e0 : s₁.heap = h0 := by rw [← hh, Bd.state]; rfl
  have N0 := Fr.nil n0
  have pre0 : ∀ t, Steps p.tables e below (s₁.setTop (mkF m 0 #[.val (.ref a1), .val (.int 0)] [])) t → Steps p.tables e below (s₁.setTop (entryFrame m #[(.ref a1), (.int 0)] 2)) t := fun t k => castTop (ef_cl0 m a1 (0 : Int32)) k
  obtain ⟨car1, Aar1, qar1, Sar1, Nar1, Har1, Gar1⟩ := id V_a1
  -- pc 3: String.checkIndex by rmci0
  obtain ⟨_, _, ⟨T2, L2, ck2, cn2⟩, -, X2, ⟨Lc2, hQ2, l2, y2, z2⟩, st2⟩ := Jvm.LawKit.callS X0 hx (y := (⟨KJ, "checkIndex", "(II)V"⟩ : MethodName)) hown (mvT hZ (own_w hw (i := 81) rfl)) (mvT hZ (own_w hw (i := 82) rfl)) (mvT hZ (own_w hw (i := 3) rfl)) (mvT hZ (own_w hw (i := 83) rfl)) (by decide) (backOf (W := 0) (rmci0 l Z a0 hw [] fmt h0 n0 Z0 O0 S_SIOOBE_FORMATTER hfmt) hZ (own_w hw (i := 83) rfl) (own_w hw (i := 3) rfl) (by decide) (by decide)) (g := (mkF m 3 #[.val (.ref a1), .val (.int 0)] [(.int 2), (.int 0)])) rfl (by rw [hml]; rfl) (argsL := [(.int 0), (.int 2)]) (rest := []) (lenOf pd_128 rfl) rfl (by show 2 * 0 + _ ≤ _; exact Nat.le_of_eq rfl) (hb hby d14_3) (fun _ _ => ⟨rfl, e0, (by decide : 0 + 0 ≤ _), (by decide : 0 + 0 ≤ _)⟩)
  dsimp only [Pt.U, Pt.locs, Pt.cells, Pt.slots] at X2 l2 y2 z2 st2 hQ2
  subst y2 z2
  obtain ⟨rfl, N2q, e2⟩ := hQ2
  have N3 : Fr n0 L2 := by rw [l2]; exact Fr.app N0 N2q
  obtain ⟨car4, Aar4, qar4, Sar4, Nar4, Har4, Gar4⟩ := id V_a1
  have hinar4 : ¬ ((0 : Int32) < 0 ∨ car4.slots.size ≤ ((0 : Int32)).toNatClampNeg) := inb_of Sar4 ⟨by decide, by decide⟩
  have hatar4 : car4.slots[((0 : Int32)).toNatClampNeg]? = some (.int b0) := Har4.at hinar4 rfl
  obtain ⟨fs, hr, hrun, hended, hW, hsame⟩ := X2.leave (v := some (.int (nar .char ((b0 &&& (255 : Int32)).toUInt32.toUInt16.toUInt32.toInt32)))) (fun h => by rw [Bd.returns] at h; cases h) Bd.notSynchronized
  refine ⟨_, _, pre0 _ ?_, hrun, hended, _, _, rfl, ?_, ⟨_, rfl⟩, hW, hsame.mono (by decide) (by decide)⟩
  · show Steps p.tables e below (s₁.setTop (mkF m 0 #[.val (.ref a1), .val (.int 0)] [])) _
    refine XS.iloadN X0.here hx rfl (hb hby d14_0) rfl ?_
    refine XS.aloadN X0.here hx rfl (hb hby d14_1) rfl rfl ?_
    refine X0.arraylength hx (by rw [e0]; exact Aar1.1) (State.isArrayOf_alike hZ.alike Aar1.2.1) (g := (mkF m 2 #[.val (.ref a1), .val (.int 0)] [(.ref a1), (.int 0)])) rfl rfl (hb hby d14_2) _ ?_
    rw [len_of Sar1 Nar1]
    refine st2 _ ?_
    refine XS.aloadN X2.here hx rfl (hb hby d14_6) rfl rfl ?_
    refine XS.iloadN X2.here hx rfl (hb hby d14_7) rfl ?_
    refine X2.baloadBytes hx (j := (0 : Int32)) (v := (.int b0)) (by rw [e2]; exact Aar4.1) (State.isArrayOf_alike hZ.alike Aar4.2.1) Aar4.2.2 hinar4 hatar4 (g := (mkF m 8 #[.val (.ref a1), .val (.int 0)] [(.int 0), (.ref a1)])) rfl rfl (hb hby d14_8) _ ?_
    refine XS.sipush X2.here hx rfl (hb hby d14_9) ?_
    show Steps p.tables e below (T2.setTop (mkF m 12 #[.val (.ref a1), .val (.int 0)] [(.int 255), (.int b0)])) _
    refine XS.iand X2.here hx rfl (hb hby d14_12) rfl ?_
    refine XS.i2c X2.here hx rfl (hb hby d14_13) rfl ?_
    exact retN X2 hx (t := .char) Bd.returns (by first | (simp; done) | (simp [narrow]; done) | decide) (hb hby d14_14) hr
  · show Qcl0 Z a1 k1 b0 b1 fmt h0 n0 _ T2.heap _
    rw [e2]
    exact ⟨rfl, N3, rfl⟩
theorem d12_0 : decode jdk_42_method_56_code 0 = .ok (.aload_n 0, 1) := by decide +kernel
theorem d12_1 : decode jdk_42_method_56_code 1 = .ok (.invokevirtual 492, 3) := by decide +kernel
theorem pd_138 : parseMethodDescriptor "()Z" = some ⟨[], some .boolean⟩ := by decide +kernel
theorem d12_4 : decode jdk_42_method_56_code 4 = .ok (.ifCond .eq 12, 3) := by decide +kernel
theorem d12_7 : decode jdk_42_method_56_code 7 = .ok (.aload_n 0, 1) := by decide +kernel
theorem d12_8 : decode jdk_42_method_56_code 8 = .ok (.getfield 9, 3) := by decide +kernel
theorem d12_11 : decode jdk_42_method_56_code 11 = .ok (.iload_n 1, 1) := by decide +kernel
theorem d12_12 : decode jdk_42_method_56_code 12 = .ok (.invokestatic 495, 3) := by decide +kernel
theorem pd_144 : parseMethodDescriptor "([BI)C" = some ⟨[(.array .byte), .int], some .char⟩ := by decide +kernel
theorem d12_15 : decode jdk_42_method_56_code 15 = .ok (.ireturn, 1) := by decide +kernel
theorem ef_ca0 (m : MethodId) (x0 : Addr) (x1 : Int32) : entryFrame m #[(.ref x0), (.int x1)] 2 = mkF m 0 #[.val (.ref x0), .val (.int x1)] [] := by first | (simp [entryFrame, mkF, argsToLocals, Value.category]; done) | rfl
abbrev R_ca0 : Room := { frames := 3, cells := 0, slots := 0, locals := 40 }
def Qca0 (Z : State) (a1 : Addr) (bv : Addr) (kb : ClassId) (b0 : Int32) (b1 : Int32) (cz : Int32) (fmt : Value) (h0 : Heap) (n0 : Nat) (v : Option Value) (h : Heap) (L : List Loc) : Prop := v = some (.int (own_ch b0)) ∧ Fr n0 L ∧ h = h0
set_option maxRecDepth 65536 in
set_option maxHeartbeats 40000000 in
theorem rmca0 (l : Launch) (Z : State) (a0 : Array Value) (hw : ∀ d ∈ tables_1, d.before a0 Z = true) (ws : List Jvm.Cond) (a1 : Addr) (bv : Addr) (kb : ClassId) (b0 : Int32) (b1 : Int32) (cz : Int32) (fmt : Value) (h0 : Heap) (n0 : Nat) (Z0 : n0 ≤ h0.size) (O0 : Old Z n0 h0) (S_COMPACT_STRINGS : Sta Z Z.heap KJ "COMPACT_STRINGS" "Z" (.int cz)) (hcz : ¬ (cz = (0 : Int32))) (E_a1 : Exa Z h0 a1 KJ) (F_value_a1 : Fld Z h0 a1 KJ "value" "[B" (.ref bv)) (F_coder_a1 : Fld Z h0 a1 KJ "coder" "B" (.int 0)) (V_bv : Arv Z h0 bv kb .byte (2 : Int32) [(.int b0), (.int b1)] (.int 0)) (S_SIOOBE_FORMATTER : Sta Z Z.heap "jdk/internal/util/Preconditions" "SIOOBE_FORMATTER" "Ljava/util/function/BiFunction;" fmt) (hfmt : fmt = .null ∨ ∃ a, fmt = .ref a) :
    MetFree l (⟨KJ, "charAt", "(I)C"⟩ : MethodName) (head1 (Jvm.Cond.code (⟨KJ, "charAt", "(I)C"⟩ : MethodName) jdk_42_method_56_code 2 (some .char) :: ws) R_ca0) (fun a U => a = #[(.ref a1), (.int 0)] ∧ Z.Warmed39 U.vm ∧ U.heap = h0) (fun _ _ _ _ _ => True) (fun _ U o U' => ∃ v L, o = .returned v ∧ Qca0 Z a1 bv kb b0 b1 cz fmt h0 n0 v U'.heap L ∧ FrameEnd U o U' L R_ca0.cells R_ca0.slots) := by
  refine MetFree.of_bodySF (plainFor_of_name pn_48) hisR ?_
  intro p e s m args below meth c s₁ Bd hml0 hP hK
  obtain ⟨rfl, hZ, hh⟩ := hP
  have hx := Bd.exec
  have hby := Bd.bytes
  have hml : c.maxLocals = 2 := hml0
  have hown : s.vm.findClass KJ = some m.cls := findClass_of_methodNamed Bd.named
  have hnm := (name_of_methodNamed Bd.named Bd.method).1
  have X0 : Stand p l e R_ca0 s m #[(.ref a1), (.int 0)] below meth c s₁ [] 0 0 := Stand.of_body Bd
  have e0 : s₁.heap = h0 := by rw [← hh, Bd.state]; rfl
  have N0 := Fr.nil n0
  have pre0 : ∀ t, Steps p.tables e below (s₁.setTop (mkF m 0 #[.val (.ref a1), .val (.int 0)] [])) t → Steps p.tables e below (s₁.setTop (entryFrame m #[(.ref a1), (.int 0)] 2)) t := fun t k => castTop (ef_ca0 m a1 (0 : Int32)) k
  -- pc 1: String.isLatin1 by rmlat
  obtain ⟨cq1, kq1, q1a, q1b, q1c⟩ := isOf hZ e0 E_a1
  obtain ⟨_, _, ⟨T1, L1, ck1, cn1⟩, -, X1, ⟨Lc1, hQ1, l1, y1, z1⟩, st1⟩ := X0.virtualBack hx (y := (⟨KJ, "isLatin1", "()Z"⟩ : MethodName)) (z := (⟨KJ, "isLatin1", "()Z"⟩ : MethodName)) hown (mvT hZ (own_w hw (i := 72) rfl)) (mvT hZ (own_w hw (i := 73) rfl)) (notFace_of_selects (args := #[]) (mvT hZ (own_w hw (i := 75) rfl))) (mvT hZ (own_w hw (i := 75) rfl)) (mvT hZ (own_w hw (i := 74) rfl)) (by decide) (backOf (W := 0) (rmlat l Z a0 hw [] a1 cz h0 n0 Z0 O0 S_COMPACT_STRINGS hcz F_coder_a1) hZ (own_w hw (i := 76) rfl) (own_w hw (i := 3) rfl) (by decide) (by decide)) q1a q1c (g := (mkF m 1 #[.val (.ref a1), .val (.int 0)] [(.ref a1)])) rfl (by rw [hml]; rfl) (Steps.refl _) (argsL := []) (rest := []) (lenOf pd_138 rfl) rfl (by show 2 * 0 + _ ≤ _; exact Nat.le_of_eq rfl) (hb hby d12_1) (fun _ _ => ⟨rfl, e0, (by decide : 0 + 0 ≤ _), (by decide : 0 + 0 ≤ _)⟩)
  dsimp only [Pt.U, Pt.locs, Pt.cells, Pt.slots] at X1 l1 y1 z1 st1 hQ1
  subst y1 z1
  obtain ⟨rfl, N1q, e1⟩ := hQ1
  have N2 : Fr n0 L1 := by rw [l1]; exact Fr.app N0 N1q
  obtain ⟨T3, X3, e3, st3⟩ := getF X1 hx hZ hown (host := "") (Or.inl (own_w hw (i := 28) rfl)) Via.refl e1 F_value_a1 (g := (mkF m 8 #[.val (.ref a1), .val (.int 0)] [(.ref a1)])) rfl rfl (hb hby d12_8)
  -- pc 12: StringLatin1.charAt by rmcl0
  obtain ⟨_, _, ⟨T4, L4, ck4, cn4⟩, -, X4, ⟨Lc4, hQ4, l4, y4, z4⟩, st4⟩ := Jvm.LawKit.callS X3 hx (y := (⟨"java/lang/StringLatin1", "charAt", "([BI)C"⟩ : MethodName)) hown (mvT hZ (own_w hw (i := 77) rfl)) (mvT hZ (own_w hw (i := 78) rfl)) (mvT hZ (own_w hw (i := 79) rfl)) (mvT hZ (own_w hw (i := 80) rfl)) (by decide) (backOf (W := 0) (rmcl0 l Z a0 hw [] bv kb b0 b1 fmt h0 n0 Z0 O0 V_bv S_SIOOBE_FORMATTER hfmt) hZ (own_w hw (i := 80) rfl) (own_w hw (i := 79) rfl) (by decide) (by decide)) (g := (mkF m 12 #[.val (.ref a1), .val (.int 0)] [(.int 0), (.ref bv)])) rfl (by rw [hml]; rfl) (argsL := [(.ref bv), (.int 0)]) (rest := []) (lenOf pd_144 rfl) rfl (by show 2 * 0 + _ ≤ _; exact Nat.le_of_eq rfl) (hb hby d12_12) (fun _ _ => ⟨rfl, e3, (by decide : 0 + 0 ≤ _), (by decide : 0 + 0 ≤ _)⟩)
  dsimp only [Pt.U, Pt.locs, Pt.cells, Pt.slots] at X4 l4 y4 z4 st4 hQ4
  subst y4 z4
  obtain ⟨rfl, N4q, e4⟩ := hQ4
  have N5 : Fr n0 L4 := by rw [l4]; exact Fr.app N2 N4q
  obtain ⟨fs, hr, hrun, hended, hW, hsame⟩ := X4.leave (v := some (.int (nar .char (own_cl b0)))) (fun h => by rw [Bd.returns] at h; cases h) Bd.notSynchronized
  refine ⟨_, _, pre0 _ ?_, hrun, hended, _, _, rfl, ?_, ⟨_, rfl⟩, hW, hsame.mono (by decide) (by decide)⟩
  · show Steps p.tables e below (s₁.setTop (mkF m 0 #[.val (.ref a1), .val (.int 0)] [])) _
    refine XS.aloadN X0.here hx rfl (hb hby d12_0) rfl rfl ?_
    refine st1.trans ?_
    show Steps p.tables e below (T1.setTop (mkF m 4 #[.val (.ref a1), .val (.int 0)] [(.int 1)])) _
    refine XS.ifNo X1.here hx rfl (hb hby d12_4) rfl ((if0 _ _).trans (feq (by decide : ¬ ((1 : Int32) = (0 : Int32)))).1) ?_
    refine XS.aloadN X1.here hx rfl (hb hby d12_7) rfl rfl ?_
    refine st3 _ ?_
    refine XS.iloadN X3.here hx rfl (hb hby d12_11) rfl ?_
    refine st4 _ ?_
    exact retN X4 hx (t := .char) Bd.returns (by first | (simp; done) | (simp [narrow]; done) | decide) (hb hby d12_15) hr
  · show Qca0 Z a1 bv kb b0 b1 cz fmt h0 n0 _ T4.heap _
    rw [e4]
    exact ⟨rfl, N5, rfl⟩
theorem ef_pc1N (m : MethodId) (x0 : Int32) (x1 : Int32) : entryFrame m #[(.int x0), (.int x1), .null] 3 = mkF m 0 #[.val (.int x0), .val (.int x1), .val .null] [] := by first | (simp [entryFrame, mkF, argsToLocals, Value.category]; done) | rfl
abbrev R_pc1N : Room := { frames := 0, cells := 0, slots := 0, locals := 0 }
def Qpc1N (Z : State)  (h0 : Heap) (n0 : Nat) (v : Option Value) (h : Heap) (L : List Loc) : Prop := v = some (.int 1) ∧ Fr n0 L ∧ h = h0
set_option maxRecDepth 65536 in
set_option maxHeartbeats 40000000 in
theorem rmpc1N (l : Launch) (Z : State) (a0 : Array Value) (hw : ∀ d ∈ tables_1, d.before a0 Z = true) (ws : List Jvm.Cond)  (h0 : Heap) (n0 : Nat) (Z0 : n0 ≤ h0.size) :
    MetFree l (⟨"jdk/internal/util/Preconditions", "checkIndex", "(IILjava/util/function/BiFunction;)I"⟩ : MethodName) (head1 (Jvm.Cond.code (⟨"jdk/internal/util/Preconditions", "checkIndex", "(IILjava/util/function/BiFunction;)I"⟩ : MethodName) jdk_41_method_11_code 3 (some .int) :: ws) R_pc1N) (fun a U => a = #[(.int 1), (.int 2), .null] ∧ Z.Warmed39 U.vm ∧ U.heap = h0) (fun _ _ _ _ _ => True) (fun _ U o U' => ∃ v L, o = .returned v ∧ Qpc1N Z  h0 n0 v U'.heap L ∧ FrameEnd U o U' L R_pc1N.cells R_pc1N.slots) := by
  refine MetFree.of_bodySF (plainFor_of_name pn_108) hisR ?_
  intro p e s m args below meth c s₁ Bd hml0 hP hK
  obtain ⟨rfl, hZ, hh⟩ := hP
  have hx := Bd.exec
  have hby := Bd.bytes
  have hml : c.maxLocals = 3 := hml0
  have hown : s.vm.findClass "jdk/internal/util/Preconditions" = some m.cls := findClass_of_methodNamed Bd.named
  have hnm := (name_of_methodNamed Bd.named Bd.method).1
  have X0 : Stand p l e R_pc1N s m #[(.int 1), (.int 2), .null] below meth c s₁ [] 0 0 := Stand.of_body Bd
  have e0 : s₁.heap = h0 := by rw [← hh, Bd.state]; rfl
  have N0 := Fr.nil n0
  have pre0 : ∀ t, Steps p.tables e below (s₁.setTop (mkF m 0 #[.val (.int 1), .val (.int 2), .val .null] [])) t → Steps p.tables e below (s₁.setTop (entryFrame m #[(.int 1), (.int 2), .null] 3)) t := fun t k => castTop (ef_pc1N m (1 : Int32) (2 : Int32)) k
  obtain ⟨fs, hr, hrun, hended, hW, hsame⟩ := X0.leave (v := some (.int 1)) (fun h => by rw [Bd.returns] at h; cases h) Bd.notSynchronized
  refine ⟨_, _, pre0 _ ?_, hrun, hended, _, _, rfl, ?_, ⟨_, rfl⟩, hW, hsame.mono (by decide) (by decide)⟩
  · show Steps p.tables e below (s₁.setTop (mkF m 0 #[.val (.int 1), .val (.int 2), .val .null] [])) _
    refine XS.iloadN X0.here hx rfl (hb hby d16_0) rfl ?_
    show Steps p.tables e below (s₁.setTop (mkF m 1 #[.val (.int 1), .val (.int 2), .val .null] [(.int 1)])) _
    refine XS.ifNo X0.here hx rfl (hb hby d16_1) rfl ((if0 _ _).trans (flt (by decide : ¬ ((1 : Int32) < (0 : Int32)))).1) ?_
    refine XS.iloadN X0.here hx rfl (hb hby d16_4) rfl ?_
    refine XS.iloadN X0.here hx rfl (hb hby d16_5) rfl ?_
    show Steps p.tables e below (s₁.setTop (mkF m 6 #[.val (.int 1), .val (.int 2), .val .null] [(.int 2), (.int 1)])) _
    refine XS.icmpYes X0.here hx rfl (pc0 := 6) (pc' := 16) rfl (hb hby d16_6) rfl (tlt (by decide : (1 : Int32) < (2 : Int32))).1 (by decide) (by decide) ?_
    refine XS.iloadN X0.here hx rfl (hb hby d16_16) rfl ?_
    exact retI X0 hx Bd.returns (hb hby d16_17) hr
  · show Qpc1N Z  h0 n0 _ s₁.heap _
    rw [e0]
    exact ⟨rfl, N0, rfl⟩
theorem ef_pc1R (m : MethodId) (x0 : Int32) (x1 : Int32) (x2 : Addr) : entryFrame m #[(.int x0), (.int x1), (.ref x2)] 3 = mkF m 0 #[.val (.int x0), .val (.int x1), .val (.ref x2)] [] := by first | (simp [entryFrame, mkF, argsToLocals, Value.category]; done) | rfl
abbrev R_pc1R : Room := { frames := 0, cells := 0, slots := 0, locals := 0 }
def Qpc1R (Z : State) (a3 : Addr) (h0 : Heap) (n0 : Nat) (v : Option Value) (h : Heap) (L : List Loc) : Prop := v = some (.int 1) ∧ Fr n0 L ∧ h = h0
set_option maxRecDepth 65536 in
set_option maxHeartbeats 40000000 in
theorem rmpc1R (l : Launch) (Z : State) (a0 : Array Value) (hw : ∀ d ∈ tables_1, d.before a0 Z = true) (ws : List Jvm.Cond) (a3 : Addr) (h0 : Heap) (n0 : Nat) (Z0 : n0 ≤ h0.size) :
    MetFree l (⟨"jdk/internal/util/Preconditions", "checkIndex", "(IILjava/util/function/BiFunction;)I"⟩ : MethodName) (head1 (Jvm.Cond.code (⟨"jdk/internal/util/Preconditions", "checkIndex", "(IILjava/util/function/BiFunction;)I"⟩ : MethodName) jdk_41_method_11_code 3 (some .int) :: ws) R_pc1R) (fun a U => a = #[(.int 1), (.int 2), (.ref a3)] ∧ Z.Warmed39 U.vm ∧ U.heap = h0) (fun _ _ _ _ _ => True) (fun _ U o U' => ∃ v L, o = .returned v ∧ Qpc1R Z a3 h0 n0 v U'.heap L ∧ FrameEnd U o U' L R_pc1R.cells R_pc1R.slots) := by
  refine MetFree.of_bodySF (plainFor_of_name pn_108) hisR ?_
  intro p e s m args below meth c s₁ Bd hml0 hP hK
  obtain ⟨rfl, hZ, hh⟩ := hP
  have hx := Bd.exec
  have hby := Bd.bytes
  have hml : c.maxLocals = 3 := hml0
  have hown : s.vm.findClass "jdk/internal/util/Preconditions" = some m.cls := findClass_of_methodNamed Bd.named
  have hnm := (name_of_methodNamed Bd.named Bd.method).1
  have X0 : Stand p l e R_pc1R s m #[(.int 1), (.int 2), (.ref a3)] below meth c s₁ [] 0 0 := Stand.of_body Bd
  have e0 : s₁.heap = h0 := by rw [← hh, Bd.state]; rfl
  have N0 := Fr.nil n0
  have pre0 : ∀ t, Steps p.tables e below (s₁.setTop (mkF m 0 #[.val (.int 1), .val (.int 2), .val (.ref a3)] [])) t → Steps p.tables e below (s₁.setTop (entryFrame m #[(.int 1), (.int 2), (.ref a3)] 3)) t := fun t k => castTop (ef_pc1R m (1 : Int32) (2 : Int32) a3) k
  obtain ⟨fs, hr, hrun, hended, hW, hsame⟩ := X0.leave (v := some (.int 1)) (fun h => by rw [Bd.returns] at h; cases h) Bd.notSynchronized
  refine ⟨_, _, pre0 _ ?_, hrun, hended, _, _, rfl, ?_, ⟨_, rfl⟩, hW, hsame.mono (by decide) (by decide)⟩
  · show Steps p.tables e below (s₁.setTop (mkF m 0 #[.val (.int 1), .val (.int 2), .val (.ref a3)] [])) _
    refine XS.iloadN X0.here hx rfl (hb hby d16_0) rfl ?_
    show Steps p.tables e below (s₁.setTop (mkF m 1 #[.val (.int 1), .val (.int 2), .val (.ref a3)] [(.int 1)])) _
    refine XS.ifNo X0.here hx rfl (hb hby d16_1) rfl ((if0 _ _).trans (flt (by decide : ¬ ((1 : Int32) < (0 : Int32)))).1) ?_
    refine XS.iloadN X0.here hx rfl (hb hby d16_4) rfl ?_
    refine XS.iloadN X0.here hx rfl (hb hby d16_5) rfl ?_
    show Steps p.tables e below (s₁.setTop (mkF m 6 #[.val (.int 1), .val (.int 2), .val (.ref a3)] [(.int 2), (.int 1)])) _
    refine XS.icmpYes X0.here hx rfl (pc0 := 6) (pc' := 16) rfl (hb hby d16_6) rfl (tlt (by decide : (1 : Int32) < (2 : Int32))).1 (by decide) (by decide) ?_
    refine XS.iloadN X0.here hx rfl (hb hby d16_16) rfl ?_
    exact retI X0 hx Bd.returns (hb hby d16_17) hr
  · show Qpc1R Z a3 h0 n0 _ s₁.heap _
    rw [e0]
    exact ⟨rfl, N0, rfl⟩
theorem ef_ci1 (m : MethodId) (x0 : Int32) (x1 : Int32) : entryFrame m #[(.int x0), (.int x1)] 2 = mkF m 0 #[.val (.int x0), .val (.int x1)] [] := by first | (simp [entryFrame, mkF, argsToLocals, Value.category]; done) | rfl
abbrev R_ci1 : Room := { frames := 1, cells := 0, slots := 0, locals := 14 }
def Qci1 (Z : State) (fmt : Value) (h0 : Heap) (n0 : Nat) (v : Option Value) (h : Heap) (L : List Loc) : Prop := v = none ∧ Fr n0 L ∧ h = h0
set_option maxRecDepth 65536 in
set_option maxHeartbeats 40000000 in
theorem rmci1 (l : Launch) (Z : State) (a0 : Array Value) (hw : ∀ d ∈ tables_1, d.before a0 Z = true) (ws : List Jvm.Cond) (fmt : Value) (h0 : Heap) (n0 : Nat) (Z0 : n0 ≤ h0.size) (O0 : Old Z n0 h0) (S_SIOOBE_FORMATTER : Sta Z Z.heap "jdk/internal/util/Preconditions" "SIOOBE_FORMATTER" "Ljava/util/function/BiFunction;" fmt) (hfmt : fmt = .null ∨ ∃ a, fmt = .ref a) :
    MetFree l (⟨KJ, "checkIndex", "(II)V"⟩ : MethodName) (head1 (Jvm.Cond.code (⟨KJ, "checkIndex", "(II)V"⟩ : MethodName) jdk_42_method_155_code 2 none :: ws) R_ci1) (fun a U => a = #[(.int 1), (.int 2)] ∧ Z.Warmed39 U.vm ∧ U.heap = h0) (fun _ _ _ _ _ => True) (fun _ U o U' => ∃ v L, o = .returned v ∧ Qci1 Z fmt h0 n0 v U'.heap L ∧ FrameEnd U o U' L R_ci1.cells R_ci1.slots) := by
  refine MetFree.of_bodySF (plainFor_of_name pn_48) hisR ?_
  intro p e s m args below meth c s₁ Bd hml0 hP hK
  obtain ⟨rfl, hZ, hh⟩ := hP
  have hx := Bd.exec
  have hby := Bd.bytes
  have hml : c.maxLocals = 2 := hml0
  have hown : s.vm.findClass KJ = some m.cls := findClass_of_methodNamed Bd.named
  have hnm := (name_of_methodNamed Bd.named Bd.method).1
  have X0 : Stand p l e R_ci1 s m #[(.int 1), (.int 2)] below meth c s₁ [] 0 0 := Stand.of_body Bd
  have e0 : s₁.heap = h0 := by rw [← hh, Bd.state]; rfl
  have N0 := Fr.nil n0
  have pre0 : ∀ t, Steps p.tables e below (s₁.setTop (mkF m 0 #[.val (.int 1), .val (.int 2)] [])) t → Steps p.tables e below (s₁.setTop (entryFrame m #[(.int 1), (.int 2)] 2)) t := fun t k => castTop (ef_ci1 m (1 : Int32) (2 : Int32)) k
  rcases hfmt with hq0 | ⟨fa, hq0⟩
  ·  -- the formatter: N
    have S_q := S_SIOOBE_FORMATTER
    rw [hq0] at S_q
    obtain ⟨T1, X1, e1, st1⟩ := getS2 X0 hx hZ hown (host := "") (Or.inl (own_w hw (i := 84) rfl)) Via.refl e0 (S_q.ext O0.2) (g := (mkF m 2 #[.val (.int 1), .val (.int 2)] [(.int 2), (.int 1)])) rfl (hb hby d15_2)
    -- pc 5: Preconditions.checkIndex by rmpc1N
    obtain ⟨_, _, ⟨T2, L2, ck2, cn2⟩, -, X2, ⟨Lc2, hQ2, l2, y2, z2⟩, st2⟩ := Jvm.LawKit.callS X1 hx (y := (⟨"jdk/internal/util/Preconditions", "checkIndex", "(IILjava/util/function/BiFunction;)I"⟩ : MethodName)) hown (mvT hZ (own_w hw (i := 86) rfl)) (mvT hZ (own_w hw (i := 87) rfl)) (mvT hZ (own_w hw (i := 85) rfl)) (mvT hZ (own_w hw (i := 88) rfl)) (by decide) (backOf (W := 0) (rmpc1N l Z a0 hw []  h0 n0 Z0 ) hZ (own_w hw (i := 88) rfl) (own_w hw (i := 85) rfl) (by decide) (by decide)) (g := (mkF m 5 #[.val (.int 1), .val (.int 2)] [.null, (.int 2), (.int 1)])) rfl (by rw [hml]; rfl) (argsL := [(.int 1), (.int 2), .null]) (rest := []) (lenOf pd_120 rfl) rfl (by show 2 * 0 + _ ≤ _; exact Nat.le_of_eq rfl) (hb hby d15_5) (fun _ _ => ⟨rfl, e1, (by decide : 0 + 0 ≤ _), (by decide : 0 + 0 ≤ _)⟩)
    dsimp only [Pt.U, Pt.locs, Pt.cells, Pt.slots] at X2 l2 y2 z2 st2 hQ2
    subst y2 z2
    obtain ⟨rfl, N2q, e2⟩ := hQ2
    have N3 : Fr n0 L2 := by rw [l2]; exact Fr.app N0 N2q
    obtain ⟨fs, hr, hrun, hended, hW, hsame⟩ := X2.leave (v := none) (fun _ => rfl) Bd.notSynchronized
    refine ⟨_, _, pre0 _ ?_, hrun, hended, _, _, rfl, ?_, ⟨_, rfl⟩, hW, hsame.mono (by decide) (by decide)⟩
    · show Steps p.tables e below (s₁.setTop (mkF m 0 #[.val (.int 1), .val (.int 2)] [])) _
      refine XS.iloadN X0.here hx rfl (hb hby d15_0) rfl ?_
      refine XS.iloadN X0.here hx rfl (hb hby d15_1) rfl ?_
      refine st1 _ ?_
      refine st2 _ ?_
      refine XS.pop X2.here hx rfl (hb hby d15_8) rfl rfl ?_
      exact X2.returnOut hx Bd.returns (hb hby d15_9) hr
    · show Qci1 Z fmt h0 n0 _ T2.heap _
      rw [e2]
      exact ⟨rfl, N3, rfl⟩
  ·  -- the formatter: R
    have S_q := S_SIOOBE_FORMATTER
    rw [hq0] at S_q
    obtain ⟨T4, X4, e4, st4⟩ := getS2 X0 hx hZ hown (host := "") (Or.inl (own_w hw (i := 84) rfl)) Via.refl e0 (S_q.ext O0.2) (g := (mkF m 2 #[.val (.int 1), .val (.int 2)] [(.int 2), (.int 1)])) rfl (hb hby d15_2)
    -- pc 5: Preconditions.checkIndex by rmpc1R
    obtain ⟨_, _, ⟨T5, L5, ck5, cn5⟩, -, X5, ⟨Lc5, hQ5, l5, y5, z5⟩, st5⟩ := Jvm.LawKit.callS X4 hx (y := (⟨"jdk/internal/util/Preconditions", "checkIndex", "(IILjava/util/function/BiFunction;)I"⟩ : MethodName)) hown (mvT hZ (own_w hw (i := 86) rfl)) (mvT hZ (own_w hw (i := 87) rfl)) (mvT hZ (own_w hw (i := 85) rfl)) (mvT hZ (own_w hw (i := 88) rfl)) (by decide) (backOf (W := 0) (rmpc1R l Z a0 hw [] fa h0 n0 Z0 ) hZ (own_w hw (i := 88) rfl) (own_w hw (i := 85) rfl) (by decide) (by decide)) (g := (mkF m 5 #[.val (.int 1), .val (.int 2)] [(.ref fa), (.int 2), (.int 1)])) rfl (by rw [hml]; rfl) (argsL := [(.int 1), (.int 2), (.ref fa)]) (rest := []) (lenOf pd_120 rfl) rfl (by show 2 * 0 + _ ≤ _; exact Nat.le_of_eq rfl) (hb hby d15_5) (fun _ _ => ⟨rfl, e4, (by decide : 0 + 0 ≤ _), (by decide : 0 + 0 ≤ _)⟩)
    dsimp only [Pt.U, Pt.locs, Pt.cells, Pt.slots] at X5 l5 y5 z5 st5 hQ5
    subst y5 z5
    obtain ⟨rfl, N5q, e5⟩ := hQ5
    have N6 : Fr n0 L5 := by rw [l5]; exact Fr.app N0 N5q
    obtain ⟨fs, hr, hrun, hended, hW, hsame⟩ := X5.leave (v := none) (fun _ => rfl) Bd.notSynchronized
    refine ⟨_, _, pre0 _ ?_, hrun, hended, _, _, rfl, ?_, ⟨_, rfl⟩, hW, hsame.mono (by decide) (by decide)⟩
    · show Steps p.tables e below (s₁.setTop (mkF m 0 #[.val (.int 1), .val (.int 2)] [])) _
      refine XS.iloadN X0.here hx rfl (hb hby d15_0) rfl ?_
      refine XS.iloadN X0.here hx rfl (hb hby d15_1) rfl ?_
      refine st4 _ ?_
      refine st5 _ ?_
      refine XS.pop X5.here hx rfl (hb hby d15_8) rfl rfl ?_
      exact X5.returnOut hx Bd.returns (hb hby d15_9) hr
    · show Qci1 Z fmt h0 n0 _ T5.heap _
      rw [e5]
      exact ⟨rfl, N6, rfl⟩
theorem ef_cl1 (m : MethodId) (x0 : Addr) (x1 : Int32) : entryFrame m #[(.ref x0), (.int x1)] 2 = mkF m 0 #[.val (.ref x0), .val (.int x1)] [] := by first | (simp [entryFrame, mkF, argsToLocals, Value.category]; done) | rfl
abbrev R_cl1 : Room := { frames := 2, cells := 0, slots := 0, locals := 27 }
def Qcl1 (Z : State) (a1 : Addr) (k1 : ClassId) (b0 : Int32) (b1 : Int32) (fmt : Value) (h0 : Heap) (n0 : Nat) (v : Option Value) (h : Heap) (L : List Loc) : Prop := v = some (.int (own_cl b1)) ∧ Fr n0 L ∧ h = h0
set_option maxRecDepth 65536 in
set_option maxHeartbeats 40000000 in
theorem rmcl1 (l : Launch) (Z : State) (a0 : Array Value) (hw : ∀ d ∈ tables_1, d.before a0 Z = true) (ws : List Jvm.Cond) (a1 : Addr) (k1 : ClassId) (b0 : Int32) (b1 : Int32) (fmt : Value) (h0 : Heap) (n0 : Nat) (Z0 : n0 ≤ h0.size) (O0 : Old Z n0 h0) (V_a1 : Arv Z h0 a1 k1 .byte (2 : Int32) [(.int b0), (.int b1)] (.int 0)) (S_SIOOBE_FORMATTER : Sta Z Z.heap "jdk/internal/util/Preconditions" "SIOOBE_FORMATTER" "Ljava/util/function/BiFunction;" fmt) (hfmt : fmt = .null ∨ ∃ a, fmt = .ref a) :
    MetFree l (⟨"java/lang/StringLatin1", "charAt", "([BI)C"⟩ : MethodName) (head1 (Jvm.Cond.code (⟨"java/lang/StringLatin1", "charAt", "([BI)C"⟩ : MethodName) jdk_43_method_2_code 2 (some .char) :: ws) R_cl1) (fun a U => a = #[(.ref a1), (.int 1)] ∧ Z.Warmed39 U.vm ∧ U.heap = h0) (fun _ _ _ _ _ => True) (fun _ U o U' => ∃ v L, o = .returned v ∧ Qcl1 Z a1 k1 b0 b1 fmt h0 n0 v U'.heap L ∧ FrameEnd U o U' L R_cl1.cells R_cl1.slots) := by
  refine MetFree.of_bodySF (plainFor_of_name pn_123) hisR ?_
  intro p e s m args below meth c s₁ Bd hml0 hP hK
  obtain ⟨rfl, hZ, hh⟩ := hP
  have hx := Bd.exec
  have hby := Bd.bytes
  have hml : c.maxLocals = 2 := hml0
  have hown : s.vm.findClass "java/lang/StringLatin1" = some m.cls := findClass_of_methodNamed Bd.named
  have hnm := (name_of_methodNamed Bd.named Bd.method).1
  have X0 : Stand p l e R_cl1 s m #[(.ref a1), (.int 1)] below meth c s₁ [] 0 0 := Stand.of_body Bd
  have e0 : s₁.heap = h0 := by rw [← hh, Bd.state]; rfl
  have N0 := Fr.nil n0
  have pre0 : ∀ t, Steps p.tables e below (s₁.setTop (mkF m 0 #[.val (.ref a1), .val (.int 1)] [])) t → Steps p.tables e below (s₁.setTop (entryFrame m #[(.ref a1), (.int 1)] 2)) t := fun t k => castTop (ef_cl1 m a1 (1 : Int32)) k
  obtain ⟨car1, Aar1, qar1, Sar1, Nar1, Har1, Gar1⟩ := id V_a1
  -- pc 3: String.checkIndex by rmci1
  obtain ⟨_, _, ⟨T2, L2, ck2, cn2⟩, -, X2, ⟨Lc2, hQ2, l2, y2, z2⟩, st2⟩ := Jvm.LawKit.callS X0 hx (y := (⟨KJ, "checkIndex", "(II)V"⟩ : MethodName)) hown (mvT hZ (own_w hw (i := 81) rfl)) (mvT hZ (own_w hw (i := 82) rfl)) (mvT hZ (own_w hw (i := 3) rfl)) (mvT hZ (own_w hw (i := 83) rfl)) (by decide) (backOf (W := 0) (rmci1 l Z a0 hw [] fmt h0 n0 Z0 O0 S_SIOOBE_FORMATTER hfmt) hZ (own_w hw (i := 83) rfl) (own_w hw (i := 3) rfl) (by decide) (by decide)) (g := (mkF m 3 #[.val (.ref a1), .val (.int 1)] [(.int 2), (.int 1)])) rfl (by rw [hml]; rfl) (argsL := [(.int 1), (.int 2)]) (rest := []) (lenOf pd_128 rfl) rfl (by show 2 * 0 + _ ≤ _; exact Nat.le_of_eq rfl) (hb hby d14_3) (fun _ _ => ⟨rfl, e0, (by decide : 0 + 0 ≤ _), (by decide : 0 + 0 ≤ _)⟩)
  dsimp only [Pt.U, Pt.locs, Pt.cells, Pt.slots] at X2 l2 y2 z2 st2 hQ2
  subst y2 z2
  obtain ⟨rfl, N2q, e2⟩ := hQ2
  have N3 : Fr n0 L2 := by rw [l2]; exact Fr.app N0 N2q
  obtain ⟨car4, Aar4, qar4, Sar4, Nar4, Har4, Gar4⟩ := id V_a1
  have hinar4 : ¬ ((1 : Int32) < 0 ∨ car4.slots.size ≤ ((1 : Int32)).toNatClampNeg) := inb_of Sar4 ⟨by decide, by decide⟩
  have hatar4 : car4.slots[((1 : Int32)).toNatClampNeg]? = some (.int b1) := Har4.at hinar4 rfl
  obtain ⟨fs, hr, hrun, hended, hW, hsame⟩ := X2.leave (v := some (.int (nar .char ((b1 &&& (255 : Int32)).toUInt32.toUInt16.toUInt32.toInt32)))) (fun h => by rw [Bd.returns] at h; cases h) Bd.notSynchronized
  refine ⟨_, _, pre0 _ ?_, hrun, hended, _, _, rfl, ?_, ⟨_, rfl⟩, hW, hsame.mono (by decide) (by decide)⟩
  · show Steps p.tables e below (s₁.setTop (mkF m 0 #[.val (.ref a1), .val (.int 1)] [])) _
    refine XS.iloadN X0.here hx rfl (hb hby d14_0) rfl ?_
    refine XS.aloadN X0.here hx rfl (hb hby d14_1) rfl rfl ?_
    refine X0.arraylength hx (by rw [e0]; exact Aar1.1) (State.isArrayOf_alike hZ.alike Aar1.2.1) (g := (mkF m 2 #[.val (.ref a1), .val (.int 1)] [(.ref a1), (.int 1)])) rfl rfl (hb hby d14_2) _ ?_
    rw [len_of Sar1 Nar1]
    refine st2 _ ?_
    refine XS.aloadN X2.here hx rfl (hb hby d14_6) rfl rfl ?_
    refine XS.iloadN X2.here hx rfl (hb hby d14_7) rfl ?_
    refine X2.baloadBytes hx (j := (1 : Int32)) (v := (.int b1)) (by rw [e2]; exact Aar4.1) (State.isArrayOf_alike hZ.alike Aar4.2.1) Aar4.2.2 hinar4 hatar4 (g := (mkF m 8 #[.val (.ref a1), .val (.int 1)] [(.int 1), (.ref a1)])) rfl rfl (hb hby d14_8) _ ?_
    refine XS.sipush X2.here hx rfl (hb hby d14_9) ?_
    show Steps p.tables e below (T2.setTop (mkF m 12 #[.val (.ref a1), .val (.int 1)] [(.int 255), (.int b1)])) _
    refine XS.iand X2.here hx rfl (hb hby d14_12) rfl ?_
    refine XS.i2c X2.here hx rfl (hb hby d14_13) rfl ?_
    exact retN X2 hx (t := .char) Bd.returns (by first | (simp; done) | (simp [narrow]; done) | decide) (hb hby d14_14) hr
  · show Qcl1 Z a1 k1 b0 b1 fmt h0 n0 _ T2.heap _
    rw [e2]
    exact ⟨rfl, N3, rfl⟩
theorem ef_ca1 (m : MethodId) (x0 : Addr) (x1 : Int32) : entryFrame m #[(.ref x0), (.int x1)] 2 = mkF m 0 #[.val (.ref x0), .val (.int x1)] [] := by first | (simp [entryFrame, mkF, argsToLocals, Value.category]; done) | rfl
abbrev R_ca1 : Room := { frames := 3, cells := 0, slots := 0, locals := 40 }
def Qca1 (Z : State) (a1 : Addr) (bv : Addr) (kb : ClassId) (b0 : Int32) (b1 : Int32) (cz : Int32) (fmt : Value) (h0 : Heap) (n0 : Nat) (v : Option Value) (h : Heap) (L : List Loc) : Prop := v = some (.int (own_ch b1)) ∧ Fr n0 L ∧ h = h0
set_option maxRecDepth 65536 in
set_option maxHeartbeats 40000000 in
theorem rmca1 (l : Launch) (Z : State) (a0 : Array Value) (hw : ∀ d ∈ tables_1, d.before a0 Z = true) (ws : List Jvm.Cond) (a1 : Addr) (bv : Addr) (kb : ClassId) (b0 : Int32) (b1 : Int32) (cz : Int32) (fmt : Value) (h0 : Heap) (n0 : Nat) (Z0 : n0 ≤ h0.size) (O0 : Old Z n0 h0) (S_COMPACT_STRINGS : Sta Z Z.heap KJ "COMPACT_STRINGS" "Z" (.int cz)) (hcz : ¬ (cz = (0 : Int32))) (E_a1 : Exa Z h0 a1 KJ) (F_value_a1 : Fld Z h0 a1 KJ "value" "[B" (.ref bv)) (F_coder_a1 : Fld Z h0 a1 KJ "coder" "B" (.int 0)) (V_bv : Arv Z h0 bv kb .byte (2 : Int32) [(.int b0), (.int b1)] (.int 0)) (S_SIOOBE_FORMATTER : Sta Z Z.heap "jdk/internal/util/Preconditions" "SIOOBE_FORMATTER" "Ljava/util/function/BiFunction;" fmt) (hfmt : fmt = .null ∨ ∃ a, fmt = .ref a) :
    MetFree l (⟨KJ, "charAt", "(I)C"⟩ : MethodName) (head1 (Jvm.Cond.code (⟨KJ, "charAt", "(I)C"⟩ : MethodName) jdk_42_method_56_code 2 (some .char) :: ws) R_ca1) (fun a U => a = #[(.ref a1), (.int 1)] ∧ Z.Warmed39 U.vm ∧ U.heap = h0) (fun _ _ _ _ _ => True) (fun _ U o U' => ∃ v L, o = .returned v ∧ Qca1 Z a1 bv kb b0 b1 cz fmt h0 n0 v U'.heap L ∧ FrameEnd U o U' L R_ca1.cells R_ca1.slots) := by
  refine MetFree.of_bodySF (plainFor_of_name pn_48) hisR ?_
  intro p e s m args below meth c s₁ Bd hml0 hP hK
  obtain ⟨rfl, hZ, hh⟩ := hP
  have hx := Bd.exec
  have hby := Bd.bytes
  have hml : c.maxLocals = 2 := hml0
  have hown : s.vm.findClass KJ = some m.cls := findClass_of_methodNamed Bd.named
  have hnm := (name_of_methodNamed Bd.named Bd.method).1
  have X0 : Stand p l e R_ca1 s m #[(.ref a1), (.int 1)] below meth c s₁ [] 0 0 := Stand.of_body Bd
  have e0 : s₁.heap = h0 := by rw [← hh, Bd.state]; rfl
  have N0 := Fr.nil n0
  have pre0 : ∀ t, Steps p.tables e below (s₁.setTop (mkF m 0 #[.val (.ref a1), .val (.int 1)] [])) t → Steps p.tables e below (s₁.setTop (entryFrame m #[(.ref a1), (.int 1)] 2)) t := fun t k => castTop (ef_ca1 m a1 (1 : Int32)) k
  -- pc 1: String.isLatin1 by rmlat
  obtain ⟨cq1, kq1, q1a, q1b, q1c⟩ := isOf hZ e0 E_a1
  obtain ⟨_, _, ⟨T1, L1, ck1, cn1⟩, -, X1, ⟨Lc1, hQ1, l1, y1, z1⟩, st1⟩ := X0.virtualBack hx (y := (⟨KJ, "isLatin1", "()Z"⟩ : MethodName)) (z := (⟨KJ, "isLatin1", "()Z"⟩ : MethodName)) hown (mvT hZ (own_w hw (i := 72) rfl)) (mvT hZ (own_w hw (i := 73) rfl)) (notFace_of_selects (args := #[]) (mvT hZ (own_w hw (i := 75) rfl))) (mvT hZ (own_w hw (i := 75) rfl)) (mvT hZ (own_w hw (i := 74) rfl)) (by decide) (backOf (W := 0) (rmlat l Z a0 hw [] a1 cz h0 n0 Z0 O0 S_COMPACT_STRINGS hcz F_coder_a1) hZ (own_w hw (i := 76) rfl) (own_w hw (i := 3) rfl) (by decide) (by decide)) q1a q1c (g := (mkF m 1 #[.val (.ref a1), .val (.int 1)] [(.ref a1)])) rfl (by rw [hml]; rfl) (Steps.refl _) (argsL := []) (rest := []) (lenOf pd_138 rfl) rfl (by show 2 * 0 + _ ≤ _; exact Nat.le_of_eq rfl) (hb hby d12_1) (fun _ _ => ⟨rfl, e0, (by decide : 0 + 0 ≤ _), (by decide : 0 + 0 ≤ _)⟩)
  dsimp only [Pt.U, Pt.locs, Pt.cells, Pt.slots] at X1 l1 y1 z1 st1 hQ1
  subst y1 z1
  obtain ⟨rfl, N1q, e1⟩ := hQ1
  have N2 : Fr n0 L1 := by rw [l1]; exact Fr.app N0 N1q
  obtain ⟨T3, X3, e3, st3⟩ := getF X1 hx hZ hown (host := "") (Or.inl (own_w hw (i := 28) rfl)) Via.refl e1 F_value_a1 (g := (mkF m 8 #[.val (.ref a1), .val (.int 1)] [(.ref a1)])) rfl rfl (hb hby d12_8)
  -- pc 12: StringLatin1.charAt by rmcl1
  obtain ⟨_, _, ⟨T4, L4, ck4, cn4⟩, -, X4, ⟨Lc4, hQ4, l4, y4, z4⟩, st4⟩ := Jvm.LawKit.callS X3 hx (y := (⟨"java/lang/StringLatin1", "charAt", "([BI)C"⟩ : MethodName)) hown (mvT hZ (own_w hw (i := 77) rfl)) (mvT hZ (own_w hw (i := 78) rfl)) (mvT hZ (own_w hw (i := 79) rfl)) (mvT hZ (own_w hw (i := 80) rfl)) (by decide) (backOf (W := 0) (rmcl1 l Z a0 hw [] bv kb b0 b1 fmt h0 n0 Z0 O0 V_bv S_SIOOBE_FORMATTER hfmt) hZ (own_w hw (i := 80) rfl) (own_w hw (i := 79) rfl) (by decide) (by decide)) (g := (mkF m 12 #[.val (.ref a1), .val (.int 1)] [(.int 1), (.ref bv)])) rfl (by rw [hml]; rfl) (argsL := [(.ref bv), (.int 1)]) (rest := []) (lenOf pd_144 rfl) rfl (by show 2 * 0 + _ ≤ _; exact Nat.le_of_eq rfl) (hb hby d12_12) (fun _ _ => ⟨rfl, e3, (by decide : 0 + 0 ≤ _), (by decide : 0 + 0 ≤ _)⟩)
  dsimp only [Pt.U, Pt.locs, Pt.cells, Pt.slots] at X4 l4 y4 z4 st4 hQ4
  subst y4 z4
  obtain ⟨rfl, N4q, e4⟩ := hQ4
  have N5 : Fr n0 L4 := by rw [l4]; exact Fr.app N2 N4q
  obtain ⟨fs, hr, hrun, hended, hW, hsame⟩ := X4.leave (v := some (.int (nar .char (own_cl b1)))) (fun h => by rw [Bd.returns] at h; cases h) Bd.notSynchronized
  refine ⟨_, _, pre0 _ ?_, hrun, hended, _, _, rfl, ?_, ⟨_, rfl⟩, hW, hsame.mono (by decide) (by decide)⟩
  · show Steps p.tables e below (s₁.setTop (mkF m 0 #[.val (.ref a1), .val (.int 1)] [])) _
    refine XS.aloadN X0.here hx rfl (hb hby d12_0) rfl rfl ?_
    refine st1.trans ?_
    show Steps p.tables e below (T1.setTop (mkF m 4 #[.val (.ref a1), .val (.int 1)] [(.int 1)])) _
    refine XS.ifNo X1.here hx rfl (hb hby d12_4) rfl ((if0 _ _).trans (feq (by decide : ¬ ((1 : Int32) = (0 : Int32)))).1) ?_
    refine XS.aloadN X1.here hx rfl (hb hby d12_7) rfl rfl ?_
    refine st3 _ ?_
    refine XS.iloadN X3.here hx rfl (hb hby d12_11) rfl ?_
    refine st4 _ ?_
    exact retN X4 hx (t := .char) Bd.returns (by first | (simp; done) | (simp [narrow]; done) | decide) (hb hby d12_15) hr
  · show Qca1 Z a1 bv kb b0 b1 cz fmt h0 n0 _ T4.heap _
    rw [e4]
    exact ⟨rfl, N5, rfl⟩
theorem pn_146 : plainName "jdk/internal/util/ArraysSupport" = true := by first | (simp [plainName, overriddenIn]; done) | decide +kernel
theorem d21_0 : decode jdk_48_method_5_code 0 = .ok (.iload_n 2, 1) := by decide +kernel
theorem d21_1 : decode jdk_48_method_5_code 1 = .ok (.iload_n 3, 1) := by decide +kernel
theorem d21_2 : decode jdk_48_method_5_code 2 = .ok (.iadd, 1) := by decide +kernel
theorem d21_3 : decode jdk_48_method_5_code 3 = .ok (.istore 4, 2) := by decide +kernel
theorem d21_5 : decode jdk_48_method_5_code 5 = .ok (.iload_n 2, 1) := by decide +kernel
theorem d21_6 : decode jdk_48_method_5_code 6 = .ok (.istore 5, 2) := by decide +kernel
theorem d21_8 : decode jdk_48_method_5_code 8 = .ok (.iload 5, 2) := by decide +kernel
theorem d21_10 : decode jdk_48_method_5_code 10 = .ok (.iload 4, 2) := by decide +kernel
theorem d21_12 : decode jdk_48_method_5_code 12 = .ok (.if_icmp .ge 23, 3) := by decide +kernel
theorem d21_15 : decode jdk_48_method_5_code 15 = .ok (.bipush 31, 2) := by decide +kernel
theorem d21_17 : decode jdk_48_method_5_code 17 = .ok (.iload_n 0, 1) := by decide +kernel
theorem d21_18 : decode jdk_48_method_5_code 18 = .ok (.imul, 1) := by decide +kernel
theorem d21_19 : decode jdk_48_method_5_code 19 = .ok (.aload_n 1, 1) := by decide +kernel
theorem d21_20 : decode jdk_48_method_5_code 20 = .ok (.iload 5, 2) := by decide +kernel
theorem d21_22 : decode jdk_48_method_5_code 22 = .ok (.baload, 1) := by decide +kernel
theorem d21_23 : decode jdk_48_method_5_code 23 = .ok (.sipush 255, 3) := by decide +kernel
theorem d21_26 : decode jdk_48_method_5_code 26 = .ok (.iand, 1) := by decide +kernel
theorem d21_27 : decode jdk_48_method_5_code 27 = .ok (.iadd, 1) := by decide +kernel
theorem d21_28 : decode jdk_48_method_5_code 28 = .ok (.istore_n 0, 1) := by decide +kernel
theorem d21_29 : decode jdk_48_method_5_code 29 = .ok (.iinc 5 1, 3) := by decide +kernel
theorem d21_32 : decode jdk_48_method_5_code 32 = .ok (.goto (-24), 3) := by decide +kernel
theorem d21_35 : decode jdk_48_method_5_code 35 = .ok (.iload_n 0, 1) := by decide +kernel
theorem d21_36 : decode jdk_48_method_5_code 36 = .ok (.ireturn, 1) := by decide +kernel
theorem ef_sg (m : MethodId) (x0 : Int32) (x1 : Addr) (x2 : Int32) (x3 : Int32) : entryFrame m #[(.int x0), (.ref x1), (.int x2), (.int x3)] 6 = mkF m 0 #[.val (.int x0), .val (.ref x1), .val (.int x2), .val (.int x3), .unset, .unset] [] := by first | (simp [entryFrame, mkF, argsToLocals, Value.category]; done) | rfl
abbrev R_sg : Room := { frames := 0, cells := 0, slots := 0, locals := 0 }
def Qsg (Z : State) (a2 : Addr) (kb : ClassId) (b0 : Int32) (b1 : Int32) (h0 : Heap) (n0 : Nat) (v : Option Value) (h : Heap) (L : List Loc) : Prop := v = some (.int (own_hc b0 b1)) ∧ Fr n0 L ∧ h = h0
set_option maxRecDepth 65536 in
set_option maxHeartbeats 40000000 in
theorem rmsg (l : Launch) (Z : State) (a0 : Array Value) (hw : ∀ d ∈ tables_1, d.before a0 Z = true) (ws : List Jvm.Cond) (a2 : Addr) (kb : ClassId) (b0 : Int32) (b1 : Int32) (h0 : Heap) (n0 : Nat) (Z0 : n0 ≤ h0.size) (V_a2 : Arv Z h0 a2 kb .byte (2 : Int32) [(.int b0), (.int b1)] (.int 0)) :
    MetFree l (⟨"jdk/internal/util/ArraysSupport", "signedHashCode", "(I[BII)I"⟩ : MethodName) (head1 (Jvm.Cond.code (⟨"jdk/internal/util/ArraysSupport", "signedHashCode", "(I[BII)I"⟩ : MethodName) jdk_48_method_5_code 6 (some .int) :: ws) R_sg) (fun a U => a = #[(.int 0), (.ref a2), (.int 0), (.int 2)] ∧ Z.Warmed39 U.vm ∧ U.heap = h0) (fun _ _ _ _ _ => True) (fun _ U o U' => ∃ v L, o = .returned v ∧ Qsg Z a2 kb b0 b1 h0 n0 v U'.heap L ∧ FrameEnd U o U' L R_sg.cells R_sg.slots) := by
  refine MetFree.of_bodySF (plainFor_of_name pn_146) hisR ?_
  intro p e s m args below meth c s₁ Bd hml0 hP hK
  obtain ⟨rfl, hZ, hh⟩ := hP
  have hx := Bd.exec
  have hby := Bd.bytes
  have hml : c.maxLocals = 6 := hml0
  have hown : s.vm.findClass "jdk/internal/util/ArraysSupport" = some m.cls := findClass_of_methodNamed Bd.named
  have hnm := (name_of_methodNamed Bd.named Bd.method).1
  have X0 : Stand p l e R_sg s m #[(.int 0), (.ref a2), (.int 0), (.int 2)] below meth c s₁ [] 0 0 := Stand.of_body Bd
  have e0 : s₁.heap = h0 := by rw [← hh, Bd.state]; rfl
  have N0 := Fr.nil n0
  have pre0 : ∀ t, Steps p.tables e below (s₁.setTop (mkF m 0 #[.val (.int 0), .val (.ref a2), .val (.int 0), .val (.int 2), .unset, .unset] [])) t → Steps p.tables e below (s₁.setTop (entryFrame m #[(.int 0), (.ref a2), (.int 0), (.int 2)] 6)) t := fun t k => castTop (ef_sg m (0 : Int32) a2 (0 : Int32) (2 : Int32)) k
  obtain ⟨car1, Aar1, qar1, Sar1, Nar1, Har1, Gar1⟩ := id V_a2
  have hinar1 : ¬ ((0 : Int32) < 0 ∨ car1.slots.size ≤ ((0 : Int32)).toNatClampNeg) := inb_of Sar1 ⟨by decide, by decide⟩
  have hatar1 : car1.slots[((0 : Int32)).toNatClampNeg]? = some (.int b0) := Har1.at hinar1 rfl
  obtain ⟨car2, Aar2, qar2, Sar2, Nar2, Har2, Gar2⟩ := id V_a2
  have hinar2 : ¬ ((1 : Int32) < 0 ∨ car2.slots.size ≤ ((1 : Int32)).toNatClampNeg) := inb_of Sar2 ⟨by decide, by decide⟩
  have hatar2 : car2.slots[((1 : Int32)).toNatClampNeg]? = some (.int b1) := Har2.at hinar2 rfl
  obtain ⟨fs, hr, hrun, hended, hW, hsame⟩ := X0.leave (v := some (.int (((31 : Int32) * ((0 : Int32) + (b0 &&& (255 : Int32)))) + (b1 &&& (255 : Int32))))) (fun h => by rw [Bd.returns] at h; cases h) Bd.notSynchronized
  refine ⟨_, _, pre0 _ ?_, hrun, hended, _, _, rfl, ?_, ⟨_, rfl⟩, hW, hsame.mono (by decide) (by decide)⟩
  · show Steps p.tables e below (s₁.setTop (mkF m 0 #[.val (.int 0), .val (.ref a2), .val (.int 0), .val (.int 2), .unset, .unset] [])) _
    refine XS.iloadN X0.here hx rfl (hb hby d21_0) rfl ?_
    refine XS.iloadN X0.here hx rfl (hb hby d21_1) rfl ?_
    refine XS.iadd X0.here hx rfl (hb hby d21_2) rfl ?_
    refine XS.istore X0.here hx rfl (hb hby d21_3) rfl (l' := #[.val (.int 0), .val (.ref a2), .val (.int 0), .val (.int 2), .val (.int 2), .unset]) rfl ?_
    refine XS.iloadN X0.here hx rfl (hb hby d21_5) rfl ?_
    refine XS.istore X0.here hx rfl (hb hby d21_6) rfl (l' := #[.val (.int 0), .val (.ref a2), .val (.int 0), .val (.int 2), .val (.int 2), .val (.int 0)]) rfl ?_
    refine XS.iload X0.here hx rfl (hb hby d21_8) rfl ?_
    refine XS.iload X0.here hx rfl (hb hby d21_10) rfl ?_
    show Steps p.tables e below (s₁.setTop (mkF m 12 #[.val (.int 0), .val (.ref a2), .val (.int 0), .val (.int 2), .val (.int 2), .val (.int 0)] [(.int 2), (.int 0)])) _
    refine XS.icmpNo X0.here hx rfl (hb hby d21_12) rfl (tlt (by decide : (0 : Int32) < (2 : Int32))).2.1 ?_
    refine XS.bipush X0.here hx rfl (hb hby d21_15) ?_
    refine XS.iloadN X0.here hx rfl (hb hby d21_17) rfl ?_
    refine XS.imul X0.here hx rfl (hb hby d21_18) rfl ?_
    refine XS.aloadN X0.here hx rfl (hb hby d21_19) rfl rfl ?_
    refine XS.iload X0.here hx rfl (hb hby d21_20) rfl ?_
    refine X0.baloadBytes hx (j := (0 : Int32)) (v := (.int b0)) (by rw [e0]; exact Aar1.1) (State.isArrayOf_alike hZ.alike Aar1.2.1) Aar1.2.2 hinar1 hatar1 (g := (mkF m 22 #[.val (.int 0), .val (.ref a2), .val (.int 0), .val (.int 2), .val (.int 2), .val (.int 0)] [(.int 0), (.ref a2), (.int 0)])) rfl rfl (hb hby d21_22) _ ?_
    refine XS.sipush X0.here hx rfl (hb hby d21_23) ?_
    show Steps p.tables e below (s₁.setTop (mkF m 26 #[.val (.int 0), .val (.ref a2), .val (.int 0), .val (.int 2), .val (.int 2), .val (.int 0)] [(.int 255), (.int b0), (.int 0)])) _
    refine XS.iand X0.here hx rfl (hb hby d21_26) rfl ?_
    refine XS.iadd X0.here hx rfl (hb hby d21_27) rfl ?_
    refine XS.istoreN X0.here hx rfl (hb hby d21_28) rfl (l' := #[.val (.int ((0 : Int32) + (b0 &&& (255 : Int32)))), .val (.ref a2), .val (.int 0), .val (.int 2), .val (.int 2), .val (.int 0)]) rfl ?_
    refine XS.iinc X0.here hx rfl (hb hby d21_29) rfl (l' := #[.val (.int ((0 : Int32) + (b0 &&& (255 : Int32)))), .val (.ref a2), .val (.int 0), .val (.int 2), .val (.int 2), .val (.int 1)]) rfl ?_
    refine XS.goto X0.here hx rfl (pc0 := 32) (pc' := 8) rfl (hb hby d21_32) (by decide) (by decide) ?_
    refine XS.iload X0.here hx rfl (hb hby d21_8) rfl ?_
    refine XS.iload X0.here hx rfl (hb hby d21_10) rfl ?_
    show Steps p.tables e below (s₁.setTop (mkF m 12 #[.val (.int ((0 : Int32) + (b0 &&& (255 : Int32)))), .val (.ref a2), .val (.int 0), .val (.int 2), .val (.int 2), .val (.int 1)] [(.int 2), (.int 1)])) _
    refine XS.icmpNo X0.here hx rfl (hb hby d21_12) rfl (tlt (by decide : (1 : Int32) < (2 : Int32))).2.1 ?_
    show Steps p.tables e below (s₁.setTop (mkF m 15 #[.val (.int ((0 : Int32) + (b0 &&& (255 : Int32)))), .val (.ref a2), .val (.int 0), .val (.int 2), .val (.int 2), .val (.int 1)] [])) _
    refine XS.bipush X0.here hx rfl (hb hby d21_15) ?_
    refine XS.iloadN X0.here hx rfl (hb hby d21_17) rfl ?_
    refine XS.imul X0.here hx rfl (hb hby d21_18) rfl ?_
    refine XS.aloadN X0.here hx rfl (hb hby d21_19) rfl rfl ?_
    refine XS.iload X0.here hx rfl (hb hby d21_20) rfl ?_
    refine X0.baloadBytes hx (j := (1 : Int32)) (v := (.int b1)) (by rw [e0]; exact Aar2.1) (State.isArrayOf_alike hZ.alike Aar2.2.1) Aar2.2.2 hinar2 hatar2 (g := (mkF m 22 #[.val (.int ((0 : Int32) + (b0 &&& (255 : Int32)))), .val (.ref a2), .val (.int 0), .val (.int 2), .val (.int 2), .val (.int 1)] [(.int 1), (.ref a2), (.int ((31 : Int32) * ((0 : Int32) + (b0 &&& (255 : Int32)))))])) rfl rfl (hb hby d21_22) _ ?_
    refine XS.sipush X0.here hx rfl (hb hby d21_23) ?_
    refine XS.iand X0.here hx rfl (hb hby d21_26) rfl ?_
    show Steps p.tables e below (s₁.setTop (mkF m 27 #[.val (.int ((0 : Int32) + (b0 &&& (255 : Int32)))), .val (.ref a2), .val (.int 0), .val (.int 2), .val (.int 2), .val (.int 1)] [(.int (b1 &&& (255 : Int32))), (.int ((31 : Int32) * ((0 : Int32) + (b0 &&& (255 : Int32)))))])) _
    refine XS.iadd X0.here hx rfl (hb hby d21_27) rfl ?_
    refine XS.istoreN X0.here hx rfl (hb hby d21_28) rfl (l' := #[.val (.int (((31 : Int32) * ((0 : Int32) + (b0 &&& (255 : Int32)))) + (b1 &&& (255 : Int32)))), .val (.ref a2), .val (.int 0), .val (.int 2), .val (.int 2), .val (.int 1)]) rfl ?_
    refine XS.iinc X0.here hx rfl (hb hby d21_29) rfl (l' := #[.val (.int (((31 : Int32) * ((0 : Int32) + (b0 &&& (255 : Int32)))) + (b1 &&& (255 : Int32)))), .val (.ref a2), .val (.int 0), .val (.int 2), .val (.int 2), .val (.int 2)]) rfl ?_
    refine XS.goto X0.here hx rfl (pc0 := 32) (pc' := 8) rfl (hb hby d21_32) (by decide) (by decide) ?_
    refine XS.iload X0.here hx rfl (hb hby d21_8) rfl ?_
    refine XS.iload X0.here hx rfl (hb hby d21_10) rfl ?_
    show Steps p.tables e below (s₁.setTop (mkF m 12 #[.val (.int (((31 : Int32) * ((0 : Int32) + (b0 &&& (255 : Int32)))) + (b1 &&& (255 : Int32)))), .val (.ref a2), .val (.int 0), .val (.int 2), .val (.int 2), .val (.int 2)] [(.int 2), (.int 2)])) _
    refine XS.icmpYes X0.here hx rfl (pc0 := 12) (pc' := 35) rfl (hb hby d21_12) rfl (flt (by decide : ¬ ((2 : Int32) < (2 : Int32)))).2.1 (by decide) (by decide) ?_
    refine XS.iloadN X0.here hx rfl (hb hby d21_35) rfl ?_
    show Steps p.tables e below (s₁.setTop (mkF m 36 #[.val (.int (((31 : Int32) * ((0 : Int32) + (b0 &&& (255 : Int32)))) + (b1 &&& (255 : Int32)))), .val (.ref a2), .val (.int 0), .val (.int 2), .val (.int 2), .val (.int 2)] [(.int (((31 : Int32) * ((0 : Int32) + (b0 &&& (255 : Int32)))) + (b1 &&& (255 : Int32))))])) _
    exact retI X0 hx Bd.returns (hb hby d21_36) hr
  · show Qsg Z a2 kb b0 b1 h0 n0 _ s₁.heap _
    rw [e0]
    exact ⟨rfl, N0, rfl⟩
theorem d20_0 : decode jdk_48_method_4_code 0 = .ok (.iload 4, 2) := by decide +kernel
theorem d20_2 : decode jdk_48_method_4_code 2 = .ok (.tableswitch 127 4 10 #[42, 55, 127, 127, 88, 101, 114], 42) := by decide +kernel
theorem d20_44 : decode jdk_48_method_4_code 44 = .ok (.iload_n 3, 1) := by decide +kernel
theorem d20_45 : decode jdk_48_method_4_code 45 = .ok (.aload_n 0, 1) := by decide +kernel
theorem d20_46 : decode jdk_48_method_4_code 46 = .ok (.checkcast 60, 3) := by decide +kernel
theorem d20_49 : decode jdk_48_method_4_code 49 = .ok (.iload_n 1, 1) := by decide +kernel
theorem d20_50 : decode jdk_48_method_4_code 50 = .ok (.iload_n 2, 1) := by decide +kernel
theorem d20_51 : decode jdk_48_method_4_code 51 = .ok (.invokestatic 62, 3) := by decide +kernel
theorem pd_178 : parseMethodDescriptor "(I[BII)I" = some ⟨[.int, (.array .byte), .int, .int], some .int⟩ := by decide +kernel
theorem d20_54 : decode jdk_48_method_4_code 54 = .ok (.goto 103, 3) := by decide +kernel
theorem d20_157 : decode jdk_48_method_4_code 157 = .ok (.ireturn, 1) := by decide +kernel
theorem ef_vh (m : MethodId) (x0 : Addr) (x1 : Int32) (x2 : Int32) (x3 : Int32) (x4 : Int32) : entryFrame m #[(.ref x0), (.int x1), (.int x2), (.int x3), (.int x4)] 5 = mkF m 0 #[.val (.ref x0), .val (.int x1), .val (.int x2), .val (.int x3), .val (.int x4)] [] := by first | (simp [entryFrame, mkF, argsToLocals, Value.category]; done) | rfl
abbrev R_vh : Room := { frames := 1, cells := 0, slots := 0, locals := 17 }
def Qvh (Z : State) (a1 : Addr) (kb : ClassId) (b0 : Int32) (b1 : Int32) (h0 : Heap) (n0 : Nat) (v : Option Value) (h : Heap) (L : List Loc) : Prop := v = some (.int (own_hc b0 b1)) ∧ Fr n0 L ∧ h = h0
set_option maxRecDepth 65536 in
set_option maxHeartbeats 40000000 in
theorem rmvh (l : Launch) (Z : State) (a0 : Array Value) (hw : ∀ d ∈ tables_1, d.before a0 Z = true) (ws : List Jvm.Cond) (a1 : Addr) (kb : ClassId) (b0 : Int32) (b1 : Int32) (h0 : Heap) (n0 : Nat) (Z0 : n0 ≤ h0.size) (V_a1 : Arv Z h0 a1 kb .byte (2 : Int32) [(.int b0), (.int b1)] (.int 0)) (E_a1 : Exa Z h0 a1 "[B") :
    MetFree l (⟨"jdk/internal/util/ArraysSupport", "vectorizedHashCode", "(Ljava/lang/Object;IIII)I"⟩ : MethodName) (head1 (Jvm.Cond.code (⟨"jdk/internal/util/ArraysSupport", "vectorizedHashCode", "(Ljava/lang/Object;IIII)I"⟩ : MethodName) jdk_48_method_4_code 5 (some .int) :: ws) R_vh) (fun a U => a = #[(.ref a1), (.int 0), (.int 2), (.int 0), (.int 4)] ∧ Z.Warmed39 U.vm ∧ U.heap = h0) (fun _ _ _ _ _ => True) (fun _ U o U' => ∃ v L, o = .returned v ∧ Qvh Z a1 kb b0 b1 h0 n0 v U'.heap L ∧ FrameEnd U o U' L R_vh.cells R_vh.slots) := by
  refine MetFree.of_bodySF (plainFor_of_name pn_146) hisR ?_
  intro p e s m args below meth c s₁ Bd hml0 hP hK
  obtain ⟨rfl, hZ, hh⟩ := hP
  have hx := Bd.exec
  have hby := Bd.bytes
  have hml : c.maxLocals = 5 := hml0
  have hown : s.vm.findClass "jdk/internal/util/ArraysSupport" = some m.cls := findClass_of_methodNamed Bd.named
  have hnm := (name_of_methodNamed Bd.named Bd.method).1
  have X0 : Stand p l e R_vh s m #[(.ref a1), (.int 0), (.int 2), (.int 0), (.int 4)] below meth c s₁ [] 0 0 := Stand.of_body Bd
  have e0 : s₁.heap = h0 := by rw [← hh, Bd.state]; rfl
  have N0 := Fr.nil n0
  have pre0 : ∀ t, Steps p.tables e below (s₁.setTop (mkF m 0 #[.val (.ref a1), .val (.int 0), .val (.int 2), .val (.int 0), .val (.int 4)] [])) t → Steps p.tables e below (s₁.setTop (entryFrame m #[(.ref a1), (.int 0), (.int 2), (.int 0), (.int 4)] 5)) t := fun t k => castTop (ef_vh m a1 (0 : Int32) (2 : Int32) (0 : Int32) (4 : Int32)) k
  obtain ⟨T1, X1, e1, st1⟩ := castY X0 hx hZ hown (own_w hw (i := 111) rfl) e0 (Ins.self E_a1) (g := (mkF m 46 #[.val (.ref a1), .val (.int 0), .val (.int 2), .val (.int 0), .val (.int 4)] [(.ref a1), (.int 0)])) rfl rfl (hb hby d20_46)
  -- pc 51: ArraysSupport.signedHashCode by rmsg
  obtain ⟨_, _, ⟨T2, L2, ck2, cn2⟩, -, X2, ⟨Lc2, hQ2, l2, y2, z2⟩, st2⟩ := Jvm.LawKit.callS X1 hx (y := (⟨"jdk/internal/util/ArraysSupport", "signedHashCode", "(I[BII)I"⟩ : MethodName)) hown (mvT hZ (own_w hw (i := 113) rfl)) (mvT hZ (own_w hw (i := 114) rfl)) (mvT hZ (own_w hw (i := 109) rfl)) (mvT hZ (own_w hw (i := 115) rfl)) (by decide) (backOf (W := 0) (rmsg l Z a0 hw [] a1 kb b0 b1 h0 n0 Z0 V_a1) hZ (own_w hw (i := 115) rfl) (own_w hw (i := 109) rfl) (by decide) (by decide)) (g := (mkF m 51 #[.val (.ref a1), .val (.int 0), .val (.int 2), .val (.int 0), .val (.int 4)] [(.int 2), (.int 0), (.ref a1), (.int 0)])) rfl (by rw [hml]; rfl) (argsL := [(.int 0), (.ref a1), (.int 0), (.int 2)]) (rest := []) (lenOf pd_178 rfl) rfl (by show 2 * 0 + _ ≤ _; exact Nat.le_of_eq rfl) (hb hby d20_51) (fun _ _ => ⟨rfl, e1, (by decide : 0 + 0 ≤ _), (by decide : 0 + 0 ≤ _)⟩)
  dsimp only [Pt.U, Pt.locs, Pt.cells, Pt.slots] at X2 l2 y2 z2 st2 hQ2
  subst y2 z2
  obtain ⟨rfl, N2q, e2⟩ := hQ2
  have N3 : Fr n0 L2 := by rw [l2]; exact Fr.app N0 N2q
  obtain ⟨fs, hr, hrun, hended, hW, hsame⟩ := X2.leave (v := some (.int (own_hc b0 b1))) (fun h => by rw [Bd.returns] at h; cases h) Bd.notSynchronized
  refine ⟨_, _, pre0 _ ?_, hrun, hended, _, _, rfl, ?_, ⟨_, rfl⟩, hW, hsame.mono (by decide) (by decide)⟩
  · show Steps p.tables e below (s₁.setTop (mkF m 0 #[.val (.ref a1), .val (.int 0), .val (.int 2), .val (.int 0), .val (.int 4)] [])) _
    refine XS.iload X0.here hx rfl (hb hby d20_0) rfl ?_
    show Steps p.tables e below (s₁.setTop (mkF m 2 #[.val (.ref a1), .val (.int 0), .val (.int 2), .val (.int 0), .val (.int 4)] [(.int 4)])) _
    refine XS.tswIn X0.here hx rfl (pc0 := 2) (pc' := 44) rfl (hb hby d20_2) rfl (by decide) (o := 42) (by rfl) (by decide) (by decide) ?_
    refine XS.iloadN X0.here hx rfl (hb hby d20_44) rfl ?_
    refine XS.aloadN X0.here hx rfl (hb hby d20_45) rfl rfl ?_
    refine st1 _ ?_
    refine XS.iloadN X1.here hx rfl (hb hby d20_49) rfl ?_
    refine XS.iloadN X1.here hx rfl (hb hby d20_50) rfl ?_
    refine st2 _ ?_
    show Steps p.tables e below (T2.setTop (mkF m 54 #[.val (.ref a1), .val (.int 0), .val (.int 2), .val (.int 0), .val (.int 4)] [(.int (own_hc b0 b1))])) _
    refine XS.goto X2.here hx rfl (pc0 := 54) (pc' := 157) rfl (hb hby d20_54) (by decide) (by decide) ?_
    exact retI X2 hx Bd.returns (hb hby d20_157) hr
  · show Qvh Z a1 kb b0 b1 h0 n0 _ T2.heap _
    rw [e2]
    exact ⟨rfl, N3, rfl⟩
theorem d19_0 : decode jdk_43_method_21_code 0 = .ok (.aload_n 0, 1) := by decide +kernel
theorem d19_1 : decode jdk_43_method_21_code 1 = .ok (.arraylength, 1) := by decide +kernel
theorem d19_2 : decode jdk_43_method_21_code 2 = .ok (.lookupswitch 40 #[(0, 26), (1, 30)], 26) := by decide +kernel
theorem d19_42 : decode jdk_43_method_21_code 42 = .ok (.aload_n 0, 1) := by decide +kernel
theorem d19_43 : decode jdk_43_method_21_code 43 = .ok (.iconst 0, 1) := by decide +kernel
theorem d19_44 : decode jdk_43_method_21_code 44 = .ok (.aload_n 0, 1) := by decide +kernel
theorem d19_45 : decode jdk_43_method_21_code 45 = .ok (.arraylength, 1) := by decide +kernel
theorem d19_46 : decode jdk_43_method_21_code 46 = .ok (.iconst 0, 1) := by decide +kernel
theorem d19_47 : decode jdk_43_method_21_code 47 = .ok (.iconst 4, 1) := by decide +kernel
theorem d19_48 : decode jdk_43_method_21_code 48 = .ok (.invokestatic 84, 3) := by decide +kernel
theorem pd_191 : parseMethodDescriptor "(Ljava/lang/Object;IIII)I" = some ⟨[(.object "java/lang/Object"), .int, .int, .int, .int], some .int⟩ := by decide +kernel
theorem d19_51 : decode jdk_43_method_21_code 51 = .ok (.ireturn, 1) := by decide +kernel
theorem ef_lh (m : MethodId) (x0 : Addr) : entryFrame m #[(.ref x0)] 1 = mkF m 0 #[.val (.ref x0)] [] := by first | (simp [entryFrame, mkF, argsToLocals, Value.category]; done) | rfl
abbrev R_lh : Room := { frames := 2, cells := 0, slots := 0, locals := 33 }
def Qlh (Z : State) (a1 : Addr) (kb : ClassId) (b0 : Int32) (b1 : Int32) (h0 : Heap) (n0 : Nat) (v : Option Value) (h : Heap) (L : List Loc) : Prop := v = some (.int (own_hc b0 b1)) ∧ Fr n0 L ∧ h = h0
set_option maxRecDepth 65536 in
set_option maxHeartbeats 40000000 in
theorem rmlh (l : Launch) (Z : State) (a0 : Array Value) (hw : ∀ d ∈ tables_1, d.before a0 Z = true) (ws : List Jvm.Cond) (a1 : Addr) (kb : ClassId) (b0 : Int32) (b1 : Int32) (h0 : Heap) (n0 : Nat) (Z0 : n0 ≤ h0.size) (V_a1 : Arv Z h0 a1 kb .byte (2 : Int32) [(.int b0), (.int b1)] (.int 0)) (E_a1 : Exa Z h0 a1 "[B") :
    MetFree l (⟨"java/lang/StringLatin1", "hashCode", "([B)I"⟩ : MethodName) (head1 (Jvm.Cond.code (⟨"java/lang/StringLatin1", "hashCode", "([B)I"⟩ : MethodName) jdk_43_method_21_code 1 (some .int) :: ws) R_lh) (fun a U => a = #[(.ref a1)] ∧ Z.Warmed39 U.vm ∧ U.heap = h0) (fun _ _ _ _ _ => True) (fun _ U o U' => ∃ v L, o = .returned v ∧ Qlh Z a1 kb b0 b1 h0 n0 v U'.heap L ∧ FrameEnd U o U' L R_lh.cells R_lh.slots) := by
  refine MetFree.of_bodySF (plainFor_of_name pn_123) hisR ?_
  intro p e s m args below meth c s₁ Bd hml0 hP hK
  obtain ⟨rfl, hZ, hh⟩ := hP
  have hx := Bd.exec
  have hby := Bd.bytes
  have hml : c.maxLocals = 1 := hml0
  have hown : s.vm.findClass "java/lang/StringLatin1" = some m.cls := findClass_of_methodNamed Bd.named
  have hnm := (name_of_methodNamed Bd.named Bd.method).1
  have X0 : Stand p l e R_lh s m #[(.ref a1)] below meth c s₁ [] 0 0 := Stand.of_body Bd
  have e0 : s₁.heap = h0 := by rw [← hh, Bd.state]; rfl
  have N0 := Fr.nil n0
  have pre0 : ∀ t, Steps p.tables e below (s₁.setTop (mkF m 0 #[.val (.ref a1)] [])) t → Steps p.tables e below (s₁.setTop (entryFrame m #[(.ref a1)] 1)) t := fun t k => castTop (ef_lh m a1) k
  obtain ⟨car1, Aar1, qar1, Sar1, Nar1, Har1, Gar1⟩ := id V_a1
  obtain ⟨car2, Aar2, qar2, Sar2, Nar2, Har2, Gar2⟩ := id V_a1
  -- pc 48: ArraysSupport.vectorizedHashCode by rmvh
  obtain ⟨_, _, ⟨T3, L3, ck3, cn3⟩, -, X3, ⟨Lc3, hQ3, l3, y3, z3⟩, st3⟩ := Jvm.LawKit.callS X0 hx (y := (⟨"jdk/internal/util/ArraysSupport", "vectorizedHashCode", "(Ljava/lang/Object;IIII)I"⟩ : MethodName)) hown (mvT hZ (own_w hw (i := 107) rfl)) (mvT hZ (own_w hw (i := 108) rfl)) (mvT hZ (own_w hw (i := 109) rfl)) (mvT hZ (own_w hw (i := 110) rfl)) (by decide) (backOf (W := 0) (rmvh l Z a0 hw [] a1 kb b0 b1 h0 n0 Z0 V_a1 E_a1) hZ (own_w hw (i := 110) rfl) (own_w hw (i := 109) rfl) (by decide) (by decide)) (g := (mkF m 48 #[.val (.ref a1)] [(.int 4), (.int 0), (.int 2), (.int 0), (.ref a1)])) rfl (by rw [hml]; rfl) (argsL := [(.ref a1), (.int 0), (.int 2), (.int 0), (.int 4)]) (rest := []) (lenOf pd_191 rfl) rfl (by show 2 * 0 + _ ≤ _; exact Nat.le_of_eq rfl) (hb hby d19_48) (fun _ _ => ⟨rfl, e0, (by decide : 0 + 0 ≤ _), (by decide : 0 + 0 ≤ _)⟩)
  dsimp only [Pt.U, Pt.locs, Pt.cells, Pt.slots] at X3 l3 y3 z3 st3 hQ3
  subst y3 z3
  obtain ⟨rfl, N3q, e3⟩ := hQ3
  have N4 : Fr n0 L3 := by rw [l3]; exact Fr.app N0 N3q
  obtain ⟨fs, hr, hrun, hended, hW, hsame⟩ := X3.leave (v := some (.int (own_hc b0 b1))) (fun h => by rw [Bd.returns] at h; cases h) Bd.notSynchronized
  refine ⟨_, _, pre0 _ ?_, hrun, hended, _, _, rfl, ?_, ⟨_, rfl⟩, hW, hsame.mono (by decide) (by decide)⟩
  · show Steps p.tables e below (s₁.setTop (mkF m 0 #[.val (.ref a1)] [])) _
    refine XS.aloadN X0.here hx rfl (hb hby d19_0) rfl rfl ?_
    refine X0.arraylength hx (by rw [e0]; exact Aar1.1) (State.isArrayOf_alike hZ.alike Aar1.2.1) (g := (mkF m 1 #[.val (.ref a1)] [(.ref a1)])) rfl rfl (hb hby d19_1) _ ?_
    rw [len_of Sar1 Nar1]
    refine X0.lookupswitchMiss hx (g := (mkF m 2 #[.val (.ref a1)] [(.int 2)])) rfl (k := (2 : Int32)) (rest := []) rfl (hb hby d19_2) (by decide) (by first | decide | rfl) (by show (0 : Int) ≤ ((2 : Nat) : Int) + 40; decide) _ ?_
    show Steps p.tables e below (s₁.setTop (mkF m 42 #[.val (.ref a1)] [])) _
    refine XS.aloadN X0.here hx rfl (hb hby d19_42) rfl rfl ?_
    refine XS.iconst X0.here hx rfl (hb hby d19_43) ?_
    refine XS.aloadN X0.here hx rfl (hb hby d19_44) rfl rfl ?_
    refine X0.arraylength hx (by rw [e0]; exact Aar2.1) (State.isArrayOf_alike hZ.alike Aar2.2.1) (g := (mkF m 45 #[.val (.ref a1)] [(.ref a1), (.int 0), (.ref a1)])) rfl rfl (hb hby d19_45) _ ?_
    rw [len_of Sar2 Nar2]
    refine XS.iconst X0.here hx rfl (hb hby d19_46) ?_
    refine XS.iconst X0.here hx rfl (hb hby d19_47) ?_
    refine st3 _ ?_
    exact retI X3 hx Bd.returns (hb hby d19_51) hr
  · show Qlh Z a1 kb b0 b1 h0 n0 _ T3.heap _
    rw [e3]
    exact ⟨rfl, N4, rfl⟩
theorem d18_0 : decode jdk_42_method_78_code 0 = .ok (.aload_n 0, 1) := by decide +kernel
theorem d18_1 : decode jdk_42_method_78_code 1 = .ok (.getfield 19, 3) := by decide +kernel
theorem d18_4 : decode jdk_42_method_78_code 4 = .ok (.istore_n 1, 1) := by decide +kernel
theorem d18_5 : decode jdk_42_method_78_code 5 = .ok (.iload_n 1, 1) := by decide +kernel
theorem d18_6 : decode jdk_42_method_78_code 6 = .ok (.ifCond .ne 52, 3) := by decide +kernel
theorem d18_9 : decode jdk_42_method_78_code 9 = .ok (.aload_n 0, 1) := by decide +kernel
theorem d18_10 : decode jdk_42_method_78_code 10 = .ok (.getfield 23, 3) := by decide +kernel
theorem d18_13 : decode jdk_42_method_78_code 13 = .ok (.ifCond .ne 45, 3) := by decide +kernel
theorem d18_16 : decode jdk_42_method_78_code 16 = .ok (.aload_n 0, 1) := by decide +kernel
theorem d18_17 : decode jdk_42_method_78_code 17 = .ok (.invokevirtual 492, 3) := by decide +kernel
theorem d18_20 : decode jdk_42_method_78_code 20 = .ok (.ifCond .eq 13, 3) := by decide +kernel
theorem d18_23 : decode jdk_42_method_78_code 23 = .ok (.aload_n 0, 1) := by decide +kernel
theorem d18_24 : decode jdk_42_method_78_code 24 = .ok (.getfield 9, 3) := by decide +kernel
theorem d18_27 : decode jdk_42_method_78_code 27 = .ok (.invokestatic 628, 3) := by decide +kernel
theorem pd_207 : parseMethodDescriptor "([B)I" = some ⟨[(.array .byte)], some .int⟩ := by decide +kernel
theorem d18_30 : decode jdk_42_method_78_code 30 = .ok (.goto 10, 3) := by decide +kernel
theorem d18_40 : decode jdk_42_method_78_code 40 = .ok (.istore_n 1, 1) := by decide +kernel
theorem d18_41 : decode jdk_42_method_78_code 41 = .ok (.iload_n 1, 1) := by decide +kernel
theorem d18_42 : decode jdk_42_method_78_code 42 = .ok (.ifCond .ne 11, 3) := by decide +kernel
theorem d18_45 : decode jdk_42_method_78_code 45 = .ok (.aload_n 0, 1) := by decide +kernel
theorem d18_46 : decode jdk_42_method_78_code 46 = .ok (.iconst 1, 1) := by decide +kernel
theorem d18_47 : decode jdk_42_method_78_code 47 = .ok (.putfield 23, 3) := by decide +kernel
theorem sn_215 {Z : State} {a0 : Array Value} (hw : ∀ d ∈ tables_1, d.before a0 Z = true) : Jvm.RoadKit.slotOf Z KJ "value" "[B" ≠ Jvm.RoadKit.slotOf Z KJ "hashIsZero" "Z" := slot_ne (Or.inr (own_w hw (i := 29) rfl)) (Or.inl (own_w hw (i := 103) rfl)) (by decide) (t := (.array .byte)) (t' := .boolean) (by decide) (by decide)
theorem sn_216 {Z : State} {a0 : Array Value} (hw : ∀ d ∈ tables_1, d.before a0 Z = true) : Jvm.RoadKit.slotOf Z KJ "coder" "B" ≠ Jvm.RoadKit.slotOf Z KJ "hashIsZero" "Z" := slot_ne (Or.inr (own_w hw (i := 27) rfl)) (Or.inl (own_w hw (i := 103) rfl)) (by decide) (t := .byte) (t' := .boolean) (by decide) (by decide)
theorem sn_217 {Z : State} {a0 : Array Value} (hw : ∀ d ∈ tables_1, d.before a0 Z = true) : Jvm.RoadKit.slotOf Z KJ "hash" "I" ≠ Jvm.RoadKit.slotOf Z KJ "hashIsZero" "Z" := slot_ne (Or.inl (own_w hw (i := 101) rfl)) (Or.inl (own_w hw (i := 103) rfl)) (by decide) (t := .int) (t' := .boolean) (by decide) (by decide)
theorem d18_50 : decode jdk_42_method_78_code 50 = .ok (.goto 8, 3) := by decide +kernel
theorem d18_58 : decode jdk_42_method_78_code 58 = .ok (.iload_n 1, 1) := by decide +kernel
theorem d18_59 : decode jdk_42_method_78_code 59 = .ok (.ireturn, 1) := by decide +kernel
theorem d18_53 : decode jdk_42_method_78_code 53 = .ok (.aload_n 0, 1) := by decide +kernel
theorem d18_54 : decode jdk_42_method_78_code 54 = .ok (.iload_n 1, 1) := by decide +kernel
theorem d18_55 : decode jdk_42_method_78_code 55 = .ok (.putfield 19, 3) := by decide +kernel
theorem sn_224 {Z : State} {a0 : Array Value} (hw : ∀ d ∈ tables_1, d.before a0 Z = true) : Jvm.RoadKit.slotOf Z KJ "value" "[B" ≠ Jvm.RoadKit.slotOf Z KJ "hash" "I" := slot_ne (Or.inr (own_w hw (i := 29) rfl)) (Or.inl (own_w hw (i := 101) rfl)) (by decide) (t := (.array .byte)) (t' := .int) (by decide) (by decide)
theorem sn_225 {Z : State} {a0 : Array Value} (hw : ∀ d ∈ tables_1, d.before a0 Z = true) : Jvm.RoadKit.slotOf Z KJ "coder" "B" ≠ Jvm.RoadKit.slotOf Z KJ "hash" "I" := slot_ne (Or.inr (own_w hw (i := 27) rfl)) (Or.inl (own_w hw (i := 101) rfl)) (by decide) (t := .byte) (t' := .int) (by decide) (by decide)
theorem sn_226 {Z : State} {a0 : Array Value} (hw : ∀ d ∈ tables_1, d.before a0 Z = true) : Jvm.RoadKit.slotOf Z KJ "hashIsZero" "Z" ≠ Jvm.RoadKit.slotOf Z KJ "hash" "I" := slot_ne (Or.inl (own_w hw (i := 103) rfl)) (Or.inl (own_w hw (i := 101) rfl)) (by decide) (t := .boolean) (t' := .int) (by decide) (by decide)
theorem ef_hc (m : MethodId) (x0 : Addr) : entryFrame m #[(.ref x0)] 2 = mkF m 0 #[.val (.ref x0), .unset] [] := by first | (simp [entryFrame, mkF, argsToLocals, Value.category]; done) | rfl
def fhc (b0 : Int32) (b1 : Int32) (hv : Int32) (zv : Int32) : Int32 := if hv = (0 : Int32) then (if zv = (0 : Int32) then (if (own_hc b0 b1) = (0 : Int32) then (own_hc b0 b1) else (own_hc b0 b1)) else hv) else hv
def fhc_hashIsZero (b0 : Int32) (b1 : Int32) (hv : Int32) (zv : Int32) : Int32 := if hv = (0 : Int32) then (if zv = (0 : Int32) then (if (own_hc b0 b1) = (0 : Int32) then (1 : Int32) else zv) else zv) else zv
abbrev R_hc : Room := { frames := 3, cells := 0, slots := 0, locals := 45 }
def Qhc (Z : State) (a1 : Addr) (bv : Addr) (kb : ClassId) (b0 : Int32) (b1 : Int32) (hv : Int32) (zv : Int32) (cz : Int32) (h0 : Heap) (n0 : Nat) (v : Option Value) (h : Heap) (L : List Loc) : Prop := v = some (.int (own_hc b0 b1)) ∧ Fr n0 L ∧ Keep h0 h [a1] ∧ Exa Z h a1 KJ ∧ Fld Z h a1 KJ "value" "[B" (.ref bv) ∧ Fld Z h a1 KJ "coder" "B" (.int 0) ∧ Fld Z h a1 KJ "hash" "I" (.int (own_hc b0 b1)) ∧ Fld Z h a1 KJ "hashIsZero" "Z" (.int (fhc_hashIsZero b0 b1 hv zv))
set_option maxRecDepth 65536 in
set_option maxHeartbeats 40000000 in
theorem rmhc (l : Launch) (Z : State) (a0 : Array Value) (hw : ∀ d ∈ tables_1, d.before a0 Z = true) (ws : List Jvm.Cond) (a1 : Addr) (bv : Addr) (kb : ClassId) (b0 : Int32) (b1 : Int32) (hv : Int32) (zv : Int32) (cz : Int32) (h0 : Heap) (n0 : Nat) (Z0 : n0 ≤ h0.size) (O0 : Old Z n0 h0) (S_COMPACT_STRINGS : Sta Z Z.heap KJ "COMPACT_STRINGS" "Z" (.int cz)) (hcz : ¬ (cz = (0 : Int32))) (E_a1 : Exa Z h0 a1 KJ) (F_value_a1 : Fld Z h0 a1 KJ "value" "[B" (.ref bv)) (F_coder_a1 : Fld Z h0 a1 KJ "coder" "B" (.int 0)) (V_bv : Arv Z h0 bv kb .byte (2 : Int32) [(.int b0), (.int b1)] (.int 0)) (E_bv : Exa Z h0 bv "[B") (F_hash_a1 : Fld Z h0 a1 KJ "hash" "I" (.int hv)) (F_hashIsZero_a1 : Fld Z h0 a1 KJ "hashIsZero" "Z" (.int zv)) (hinv : hv = (own_hc b0 b1) ∨ (hv = (0 : Int32) ∧ zv = (0 : Int32))) (g_a1 : n0 ≤ a1) (ne_a1_bv : a1 ≠ bv) :
    MetFree l (⟨KJ, "hashCode", "()I"⟩ : MethodName) (head1 (Jvm.Cond.code (⟨KJ, "hashCode", "()I"⟩ : MethodName) jdk_42_method_78_code 2 (some .int) :: ws) R_hc) (fun a U => a = #[(.ref a1)] ∧ Z.Warmed39 U.vm ∧ U.heap = h0) (fun _ _ _ _ _ => True) (fun _ U o U' => ∃ v L, o = .returned v ∧ Qhc Z a1 bv kb b0 b1 hv zv cz h0 n0 v U'.heap L ∧ FrameEnd U o U' L R_hc.cells R_hc.slots) := by
  refine MetFree.of_bodySF (plainFor_of_name pn_48) hisR ?_
  intro p e s m args below meth c s₁ Bd hml0 hP hK
  obtain ⟨rfl, hZ, hh⟩ := hP
  have hx := Bd.exec
  have hby := Bd.bytes
  have hml : c.maxLocals = 2 := hml0
  have hown : s.vm.findClass KJ = some m.cls := findClass_of_methodNamed Bd.named
  have hnm := (name_of_methodNamed Bd.named Bd.method).1
  have X0 : Stand p l e R_hc s m #[(.ref a1)] below meth c s₁ [] 0 0 := Stand.of_body Bd
  have e0 : s₁.heap = h0 := by rw [← hh, Bd.state]; rfl
  have N0 := Fr.nil n0
  have pre0 : ∀ t, Steps p.tables e below (s₁.setTop (mkF m 0 #[.val (.ref a1), .unset] [])) t → Steps p.tables e below (s₁.setTop (entryFrame m #[(.ref a1)] 2)) t := fun t k => castTop (ef_hc m a1) k
  obtain ⟨T1, X1, e1, st1⟩ := getF X0 hx hZ hown (host := "") (Or.inl (own_w hw (i := 100) rfl)) Via.refl e0 F_hash_a1 (g := (mkF m 1 #[.val (.ref a1), .unset] [(.ref a1)])) rfl rfl (hb hby d18_1)
  have pre2 : ∀ t, Steps p.tables e below (T1.setTop (mkF m 6 #[.val (.ref a1), .val (.int hv)] [(.int hv)])) t → Steps p.tables e below (s₁.setTop (entryFrame m #[(.ref a1)] 2)) t := fun t k => pre0 t (by
    show Steps p.tables e below (s₁.setTop (mkF m 0 #[.val (.ref a1), .unset] [])) _
    refine XS.aloadN X0.here hx rfl (hb hby d18_0) rfl rfl ?_
    refine st1 _ ?_
    refine XS.istoreN X1.here hx rfl (hb hby d18_4) rfl (l' := #[.val (.ref a1), .val (.int hv)]) rfl ?_
    refine XS.iloadN X1.here hx rfl (hb hby d18_5) rfl ?_
    exact k)
  by_cases hc3 : hv = (0 : Int32)
  ·  -- pc 6: hv = (0 : Int32)
    obtain ⟨T4, X4, e4, st4⟩ := getF X1 hx hZ hown (host := "") (Or.inl (own_w hw (i := 102) rfl)) Via.refl e1 F_hashIsZero_a1 (g := (mkF m 10 #[.val (.ref a1), .val (.int hv)] [(.ref a1)])) rfl rfl (hb hby d18_10)
    have pre5 : ∀ t, Steps p.tables e below (T4.setTop (mkF m 13 #[.val (.ref a1), .val (.int hv)] [(.int zv)])) t → Steps p.tables e below (s₁.setTop (entryFrame m #[(.ref a1)] 2)) t := fun t k => pre2 t (by
      show Steps p.tables e below (T1.setTop (mkF m 6 #[.val (.ref a1), .val (.int hv)] [(.int hv)])) _
      refine XS.ifNo X1.here hx rfl (hb hby d18_6) rfl ((if0 _ _).trans (teq hc3).2) ?_
      refine XS.aloadN X1.here hx rfl (hb hby d18_9) rfl rfl ?_
      refine st4 _ ?_
      exact k)
    by_cases hc6 : zv = (0 : Int32)
    ·  -- pc 13: zv = (0 : Int32)
      -- pc 17: String.isLatin1 by rmlat
      obtain ⟨cq7, kq7, q7a, q7b, q7c⟩ := isOf hZ e4 E_a1
      obtain ⟨_, _, ⟨T7, L7, ck7, cn7⟩, -, X7, ⟨Lc7, hQ7, l7, y7, z7⟩, st7⟩ := X4.virtualBack hx (y := (⟨KJ, "isLatin1", "()Z"⟩ : MethodName)) (z := (⟨KJ, "isLatin1", "()Z"⟩ : MethodName)) hown (mvT hZ (own_w hw (i := 72) rfl)) (mvT hZ (own_w hw (i := 73) rfl)) (notFace_of_selects (args := #[]) (mvT hZ (own_w hw (i := 75) rfl))) (mvT hZ (own_w hw (i := 75) rfl)) (mvT hZ (own_w hw (i := 74) rfl)) (by decide) (backOf (W := 0) (rmlat l Z a0 hw [] a1 cz h0 n0 Z0 O0 S_COMPACT_STRINGS hcz F_coder_a1) hZ (own_w hw (i := 76) rfl) (own_w hw (i := 3) rfl) (by decide) (by decide)) q7a q7c (g := (mkF m 17 #[.val (.ref a1), .val (.int hv)] [(.ref a1)])) rfl (by rw [hml]; rfl) (Steps.refl _) (argsL := []) (rest := []) (lenOf pd_138 rfl) rfl (by show 2 * 0 + _ ≤ _; exact Nat.le_of_eq rfl) (hb hby d18_17) (fun _ _ => ⟨rfl, e4, (by decide : 0 + 0 ≤ _), (by decide : 0 + 0 ≤ _)⟩)
      dsimp only [Pt.U, Pt.locs, Pt.cells, Pt.slots] at X7 l7 y7 z7 st7 hQ7
      subst y7 z7
      obtain ⟨rfl, N7q, e7⟩ := hQ7
      have N8 : Fr n0 L7 := by rw [l7]; exact Fr.app N0 N7q
      obtain ⟨T9, X9, e9, st9⟩ := getF X7 hx hZ hown (host := "") (Or.inl (own_w hw (i := 28) rfl)) Via.refl e7 F_value_a1 (g := (mkF m 24 #[.val (.ref a1), .val (.int hv)] [(.ref a1)])) rfl rfl (hb hby d18_24)
      -- pc 27: StringLatin1.hashCode by rmlh
      obtain ⟨_, _, ⟨T10, L10, ck10, cn10⟩, -, X10, ⟨Lc10, hQ10, l10, y10, z10⟩, st10⟩ := Jvm.LawKit.callS X9 hx (y := (⟨"java/lang/StringLatin1", "hashCode", "([B)I"⟩ : MethodName)) hown (mvT hZ (own_w hw (i := 104) rfl)) (mvT hZ (own_w hw (i := 105) rfl)) (mvT hZ (own_w hw (i := 79) rfl)) (mvT hZ (own_w hw (i := 106) rfl)) (by decide) (backOf (W := 0) (rmlh l Z a0 hw [] bv kb b0 b1 h0 n0 Z0 V_bv E_bv) hZ (own_w hw (i := 106) rfl) (own_w hw (i := 79) rfl) (by decide) (by decide)) (g := (mkF m 27 #[.val (.ref a1), .val (.int hv)] [(.ref bv)])) rfl (by rw [hml]; rfl) (argsL := [(.ref bv)]) (rest := []) (lenOf pd_207 rfl) rfl (by show 2 * 0 + _ ≤ _; exact Nat.le_of_eq rfl) (hb hby d18_27) (fun _ _ => ⟨rfl, e9, (by decide : 0 + 0 ≤ _), (by decide : 0 + 0 ≤ _)⟩)
      dsimp only [Pt.U, Pt.locs, Pt.cells, Pt.slots] at X10 l10 y10 z10 st10 hQ10
      subst y10 z10
      obtain ⟨rfl, N10q, e10⟩ := hQ10
      have N11 : Fr n0 L10 := by rw [l10]; exact Fr.app N8 N10q
      have pre12 : ∀ t, Steps p.tables e below (T10.setTop (mkF m 42 #[.val (.ref a1), .val (.int (own_hc b0 b1))] [(.int (own_hc b0 b1))])) t → Steps p.tables e below (s₁.setTop (entryFrame m #[(.ref a1)] 2)) t := fun t k => pre5 t (by
        show Steps p.tables e below (T4.setTop (mkF m 13 #[.val (.ref a1), .val (.int hv)] [(.int zv)])) _
        refine XS.ifNo X4.here hx rfl (hb hby d18_13) rfl ((if0 _ _).trans (teq hc6).2) ?_
        show Steps p.tables e below (T4.setTop (mkF m 16 #[.val (.ref a1), .val (.int hv)] [])) _
        refine XS.aloadN X4.here hx rfl (hb hby d18_16) rfl rfl ?_
        refine st7.trans ?_
        show Steps p.tables e below (T7.setTop (mkF m 20 #[.val (.ref a1), .val (.int hv)] [(.int 1)])) _
        refine XS.ifNo X7.here hx rfl (hb hby d18_20) rfl ((if0 _ _).trans (feq (by decide : ¬ ((1 : Int32) = (0 : Int32)))).1) ?_
        refine XS.aloadN X7.here hx rfl (hb hby d18_23) rfl rfl ?_
        refine st9 _ ?_
        refine st10 _ ?_
        refine XS.goto X10.here hx rfl (pc0 := 30) (pc' := 40) rfl (hb hby d18_30) (by decide) (by decide) ?_
        refine XS.istoreN X10.here hx rfl (hb hby d18_40) rfl (l' := #[.val (.ref a1), .val (.int (own_hc b0 b1))]) rfl ?_
        show Steps p.tables e below (T10.setTop (mkF m 41 #[.val (.ref a1), .val (.int (own_hc b0 b1))] [])) _
        refine XS.iloadN X10.here hx rfl (hb hby d18_41) rfl ?_
        exact k)
      by_cases hc13 : (own_hc b0 b1) = (0 : Int32)
      ·  -- pc 42: (own_hc b0 b1) = (0 : Int32)
        obtain ⟨T14, h14, X14, e14, W14, st14⟩ := putFN X10 hx hZ hown (own_w hw (i := 102) rfl) Via.refl e10 F_hashIsZero_a1 E_a1 (Or.inl (own_w hw (i := 103) rfl)) (own_w hw (i := 2) rfl) (ty := .boolean) (v' := (.int 1)) (by decide) rfl rfl (g := (mkF m 47 #[.val (.ref a1), .val (.int (own_hc b0 b1))] [(.int 1), (.ref a1)])) rfl rfl (hb hby d18_47)
        have f16 := E_a1.wr W14
        have f17 := F_value_a1.other W14 (Or.inr (sn_215 hw))
        have f18 := F_coder_a1.other W14 (Or.inr (sn_216 hw))
        have f21 := F_hash_a1.other W14 (Or.inr (sn_217 hw))
        have f22 := F_hashIsZero_a1.same W14
        have K23 := (Keep.refl h0 [a1]).wr W14 (Or.inl (List.mem_of_getElem? (i := 0) rfl))
        have N25 := Fr.snoc X14 N11 g_a1
        obtain ⟨fs, hr, hrun, hended, hW, hsame⟩ := X14.leave (v := some (.int (own_hc b0 b1))) (fun h => by rw [Bd.returns] at h; cases h) Bd.notSynchronized
        refine ⟨_, _, pre12 _ ?_, hrun, hended, _, _, rfl, ?_, ⟨_, rfl⟩, hW, hsame.mono (by decide) (by decide)⟩
        · show Steps p.tables e below (T10.setTop (mkF m 42 #[.val (.ref a1), .val (.int (own_hc b0 b1))] [(.int (own_hc b0 b1))])) _
          refine XS.ifNo X10.here hx rfl (hb hby d18_42) rfl ((if0 _ _).trans (teq hc13).2) ?_
          refine XS.aloadN X10.here hx rfl (hb hby d18_45) rfl rfl ?_
          refine XS.iconst X10.here hx rfl (hb hby d18_46) ?_
          refine st14 _ ?_
          refine XS.goto X14.here hx rfl (pc0 := 50) (pc' := 58) rfl (hb hby d18_50) (by decide) (by decide) ?_
          refine XS.iloadN X14.here hx rfl (hb hby d18_58) rfl ?_
          exact retI X14 hx Bd.returns (hb hby d18_59) hr
        · show Qhc Z a1 bv kb b0 b1 hv zv cz h0 n0 _ T14.heap _
          rw [e14]
          have ov4 : (1 : Int32) = fhc_hashIsZero b0 b1 hv zv := (by unfold fhc_hashIsZero; rw [if_pos hc3, if_pos hc6, if_pos hc13])
          exact ⟨rfl, N25, K23, f16, f17, f18, (by rw [← (hc3.trans hc13.symm)]; exact f21), (by rw [← ov4]; exact f22)⟩
      ·  -- pc 42: not (own_hc b0 b1) = (0 : Int32)
        obtain ⟨T26, h26, X26, e26, W26, st26⟩ := putF X10 hx hZ hown (host := "") (Or.inl (own_w hw (i := 100) rfl)) Via.refl e10 F_hash_a1 E_a1 (Or.inl (own_w hw (i := 101) rfl)) (own_w hw (i := 2) rfl) (ty := .int) (by decide) rfl rfl (g := (mkF m 55 #[.val (.ref a1), .val (.int (own_hc b0 b1))] [(.int (own_hc b0 b1)), (.ref a1)])) rfl rfl (hb hby d18_55)
        have f28 := E_a1.wr W26
        have f29 := F_value_a1.other W26 (Or.inr (sn_224 hw))
        have f30 := F_coder_a1.other W26 (Or.inr (sn_225 hw))
        have f33 := F_hash_a1.same W26
        have f34 := F_hashIsZero_a1.other W26 (Or.inr (sn_226 hw))
        have K35 := (Keep.refl h0 [a1]).wr W26 (Or.inl (List.mem_of_getElem? (i := 0) rfl))
        have N37 := Fr.snoc X26 N11 g_a1
        obtain ⟨fs, hr, hrun, hended, hW, hsame⟩ := X26.leave (v := some (.int (own_hc b0 b1))) (fun h => by rw [Bd.returns] at h; cases h) Bd.notSynchronized
        refine ⟨_, _, pre12 _ ?_, hrun, hended, _, _, rfl, ?_, ⟨_, rfl⟩, hW, hsame.mono (by decide) (by decide)⟩
        · show Steps p.tables e below (T10.setTop (mkF m 42 #[.val (.ref a1), .val (.int (own_hc b0 b1))] [(.int (own_hc b0 b1))])) _
          refine XS.ifYes X10.here hx rfl (pc0 := 42) (pc' := 53) rfl (hb hby d18_42) rfl ((if0 _ _).trans (feq hc13).2) (by decide) (by decide) ?_
          refine XS.aloadN X10.here hx rfl (hb hby d18_53) rfl rfl ?_
          refine XS.iloadN X10.here hx rfl (hb hby d18_54) rfl ?_
          refine st26 _ ?_
          refine XS.iloadN X26.here hx rfl (hb hby d18_58) rfl ?_
          exact retI X26 hx Bd.returns (hb hby d18_59) hr
        · show Qhc Z a1 bv kb b0 b1 hv zv cz h0 n0 _ T26.heap _
          rw [e26]
          have ov4 : zv = fhc_hashIsZero b0 b1 hv zv := (by unfold fhc_hashIsZero; rw [if_pos hc3, if_pos hc6, if_neg hc13])
          exact ⟨rfl, N37, K35, f28, f29, f30, f33, (by rw [← ov4]; exact f34)⟩
    ·  -- pc 13: not zv = (0 : Int32)
      obtain ⟨fs, hr, hrun, hended, hW, hsame⟩ := X4.leave (v := some (.int hv)) (fun h => by rw [Bd.returns] at h; cases h) Bd.notSynchronized
      refine ⟨_, _, pre5 _ ?_, hrun, hended, _, _, rfl, ?_, ⟨_, rfl⟩, hW, hsame.mono (by decide) (by decide)⟩
      · show Steps p.tables e below (T4.setTop (mkF m 13 #[.val (.ref a1), .val (.int hv)] [(.int zv)])) _
        refine XS.ifYes X4.here hx rfl (pc0 := 13) (pc' := 58) rfl (hb hby d18_13) rfl ((if0 _ _).trans (feq hc6).2) (by decide) (by decide) ?_
        show Steps p.tables e below (T4.setTop (mkF m 58 #[.val (.ref a1), .val (.int hv)] [])) _
        refine XS.iloadN X4.here hx rfl (hb hby d18_58) rfl ?_
        exact retI X4 hx Bd.returns (hb hby d18_59) hr
      · show Qhc Z a1 bv kb b0 b1 hv zv cz h0 n0 _ T4.heap _
        rw [e4]
        have ov4 : zv = fhc_hashIsZero b0 b1 hv zv := (by unfold fhc_hashIsZero; rw [if_pos hc3, if_neg hc6])
        exact ⟨(congrArg (fun z => some (Value.int z)) (hinv.resolve_right fun z => hc6 z.2)), N0, (Keep.refl h0 [a1]), E_a1, F_value_a1, F_coder_a1, (by rw [← (hinv.resolve_right fun z => hc6 z.2)]; exact F_hash_a1), (by rw [← ov4]; exact F_hashIsZero_a1)⟩
  ·  -- pc 6: not hv = (0 : Int32)
    obtain ⟨fs, hr, hrun, hended, hW, hsame⟩ := X1.leave (v := some (.int hv)) (fun h => by rw [Bd.returns] at h; cases h) Bd.notSynchronized
    refine ⟨_, _, pre2 _ ?_, hrun, hended, _, _, rfl, ?_, ⟨_, rfl⟩, hW, hsame.mono (by decide) (by decide)⟩
    · show Steps p.tables e below (T1.setTop (mkF m 6 #[.val (.ref a1), .val (.int hv)] [(.int hv)])) _
      refine XS.ifYes X1.here hx rfl (pc0 := 6) (pc' := 58) rfl (hb hby d18_6) rfl ((if0 _ _).trans (feq hc3).2) (by decide) (by decide) ?_
      refine XS.iloadN X1.here hx rfl (hb hby d18_58) rfl ?_
      exact retI X1 hx Bd.returns (hb hby d18_59) hr
    · show Qhc Z a1 bv kb b0 b1 hv zv cz h0 n0 _ T1.heap _
      rw [e1]
      have ov4 : zv = fhc_hashIsZero b0 b1 hv zv := (by unfold fhc_hashIsZero; rw [if_neg hc3])
      exact ⟨(congrArg (fun z => some (Value.int z)) (hinv.resolve_right fun z => hc3 z.1)), N0, (Keep.refl h0 [a1]), E_a1, F_value_a1, F_coder_a1, (by rw [← (hinv.resolve_right fun z => hc3 z.1)]; exact F_hash_a1), (by rw [← ov4]; exact F_hashIsZero_a1)⟩
theorem pn_227 : plainName KK = true := by first | (simp [plainName, overriddenIn]; done) | decide +kernel
theorem d17_0 : decode prog_11_method_4_code 0 = .ok (.aload_n 0, 1) := by decide +kernel
theorem d17_1 : decode prog_11_method_4_code 1 = .ok (.invokevirtual 51, 3) := by decide +kernel
theorem pd_230 : parseMethodDescriptor "()I" = some ⟨[], some .int⟩ := by decide +kernel
theorem d17_4 : decode prog_11_method_4_code 4 = .ok (.istore_n 1, 1) := by decide +kernel
theorem d17_5 : decode prog_11_method_4_code 5 = .ok (.iload_n 1, 1) := by decide +kernel
theorem d17_6 : decode prog_11_method_4_code 6 = .ok (.iload_n 1, 1) := by decide +kernel
theorem d17_7 : decode prog_11_method_4_code 7 = .ok (.bipush 16, 2) := by decide +kernel
theorem d17_9 : decode prog_11_method_4_code 9 = .ok (.iushr, 1) := by decide +kernel
theorem d17_10 : decode prog_11_method_4_code 10 = .ok (.ixor, 1) := by decide +kernel
theorem d17_11 : decode prog_11_method_4_code 11 = .ok (.ldc 54, 2) := by decide +kernel
theorem d17_13 : decode prog_11_method_4_code 13 = .ok (.imul, 1) := by decide +kernel
theorem d17_14 : decode prog_11_method_4_code 14 = .ok (.istore_n 1, 1) := by decide +kernel
theorem d17_15 : decode prog_11_method_4_code 15 = .ok (.iload_n 1, 1) := by decide +kernel
theorem d17_16 : decode prog_11_method_4_code 16 = .ok (.iload_n 1, 1) := by decide +kernel
theorem d17_17 : decode prog_11_method_4_code 17 = .ok (.bipush 13, 2) := by decide +kernel
theorem d17_19 : decode prog_11_method_4_code 19 = .ok (.iushr, 1) := by decide +kernel
theorem d17_20 : decode prog_11_method_4_code 20 = .ok (.ixor, 1) := by decide +kernel
theorem d17_21 : decode prog_11_method_4_code 21 = .ok (.ldc 55, 2) := by decide +kernel
theorem d17_23 : decode prog_11_method_4_code 23 = .ok (.imul, 1) := by decide +kernel
theorem d17_24 : decode prog_11_method_4_code 24 = .ok (.istore_n 1, 1) := by decide +kernel
theorem d17_25 : decode prog_11_method_4_code 25 = .ok (.iload_n 1, 1) := by decide +kernel
theorem d17_26 : decode prog_11_method_4_code 26 = .ok (.iload_n 1, 1) := by decide +kernel
theorem d17_27 : decode prog_11_method_4_code 27 = .ok (.bipush 16, 2) := by decide +kernel
theorem d17_29 : decode prog_11_method_4_code 29 = .ok (.iushr, 1) := by decide +kernel
theorem d17_30 : decode prog_11_method_4_code 30 = .ok (.ixor, 1) := by decide +kernel
theorem d17_31 : decode prog_11_method_4_code 31 = .ok (.ireturn, 1) := by decide +kernel
theorem ef_kh (m : MethodId) (x0 : Addr) : entryFrame m #[(.ref x0)] 2 = mkF m 0 #[.val (.ref x0), .unset] [] := by first | (simp [entryFrame, mkF, argsToLocals, Value.category]; done) | rfl
abbrev R_kh : Room := { frames := 4, cells := 0, slots := 0, locals := 58 }
def Qkh (Z : State) (a1 : Addr) (bv : Addr) (kb : ClassId) (b0 : Int32) (b1 : Int32) (hv : Int32) (zv : Int32) (cz : Int32) (h0 : Heap) (n0 : Nat) (v : Option Value) (h : Heap) (L : List Loc) : Prop := v = some (.int (own_hh b0 b1)) ∧ Fr n0 L ∧ Keep h0 h [a1] ∧ Exa Z h a1 KJ ∧ Fld Z h a1 KJ "value" "[B" (.ref bv) ∧ Fld Z h a1 KJ "coder" "B" (.int 0) ∧ Fld Z h a1 KJ "hash" "I" (.int (own_hc b0 b1)) ∧ Fld Z h a1 KJ "hashIsZero" "Z" (.int (fhc_hashIsZero b0 b1 hv zv))
set_option maxRecDepth 65536 in
set_option maxHeartbeats 40000000 in
theorem rmkh (l : Launch) (Z : State) (a0 : Array Value) (hw : ∀ d ∈ tables_1, d.before a0 Z = true) (ws : List Jvm.Cond) (a1 : Addr) (bv : Addr) (kb : ClassId) (b0 : Int32) (b1 : Int32) (hv : Int32) (zv : Int32) (cz : Int32) (h0 : Heap) (n0 : Nat) (Z0 : n0 ≤ h0.size) (O0 : Old Z n0 h0) (S_COMPACT_STRINGS : Sta Z Z.heap KJ "COMPACT_STRINGS" "Z" (.int cz)) (hcz : ¬ (cz = (0 : Int32))) (E_a1 : Exa Z h0 a1 KJ) (F_value_a1 : Fld Z h0 a1 KJ "value" "[B" (.ref bv)) (F_coder_a1 : Fld Z h0 a1 KJ "coder" "B" (.int 0)) (V_bv : Arv Z h0 bv kb .byte (2 : Int32) [(.int b0), (.int b1)] (.int 0)) (E_bv : Exa Z h0 bv "[B") (F_hash_a1 : Fld Z h0 a1 KJ "hash" "I" (.int hv)) (F_hashIsZero_a1 : Fld Z h0 a1 KJ "hashIsZero" "Z" (.int zv)) (hinv : hv = (own_hc b0 b1) ∨ (hv = (0 : Int32) ∧ zv = (0 : Int32))) (g_a1 : n0 ≤ a1) (ne_a1_bv : a1 ≠ bv) :
    MetFree l (⟨KK, "hash", "(Ljava/lang/String;)I"⟩ : MethodName) (head1 (Jvm.Cond.code (⟨KK, "hash", "(Ljava/lang/String;)I"⟩ : MethodName) prog_11_method_4_code 2 (some .int) :: ws) R_kh) (fun a U => a = #[(.ref a1)] ∧ Z.Warmed39 U.vm ∧ U.heap = h0) (fun _ _ _ _ _ => True) (fun _ U o U' => ∃ v L, o = .returned v ∧ Qkh Z a1 bv kb b0 b1 hv zv cz h0 n0 v U'.heap L ∧ FrameEnd U o U' L R_kh.cells R_kh.slots) := by
  refine MetFree.of_bodySF (plainFor_of_name pn_227) hisR ?_
  intro p e s m args below meth c s₁ Bd hml0 hP hK
  obtain ⟨rfl, hZ, hh⟩ := hP
  have hx := Bd.exec
  have hby := Bd.bytes
  have hml : c.maxLocals = 2 := hml0
  have hown : s.vm.findClass KK = some m.cls := findClass_of_methodNamed Bd.named
  have hnm := (name_of_methodNamed Bd.named Bd.method).1
  have X0 : Stand p l e R_kh s m #[(.ref a1)] below meth c s₁ [] 0 0 := Stand.of_body Bd
  have e0 : s₁.heap = h0 := by rw [← hh, Bd.state]; rfl
  have N0 := Fr.nil n0
  have pre0 : ∀ t, Steps p.tables e below (s₁.setTop (mkF m 0 #[.val (.ref a1), .unset] [])) t → Steps p.tables e below (s₁.setTop (entryFrame m #[(.ref a1)] 2)) t := fun t k => castTop (ef_kh m a1) k
  -- pc 1: String.hashCode by rmhc
  obtain ⟨cq1, kq1, q1a, q1b, q1c⟩ := isOf hZ e0 E_a1
  obtain ⟨_, _, ⟨T1, L1, ck1, cn1⟩, -, X1, ⟨Lc1, hQ1, l1, y1, z1⟩, st1⟩ := X0.virtualBack hx (y := (⟨KJ, "hashCode", "()I"⟩ : MethodName)) (z := (⟨KJ, "hashCode", "()I"⟩ : MethodName)) hown (mvT hZ (own_w hw (i := 95) rfl)) (mvT hZ (own_w hw (i := 96) rfl)) (notFace_of_selects (args := #[]) (mvT hZ (own_w hw (i := 98) rfl))) (mvT hZ (own_w hw (i := 98) rfl)) (mvT hZ (own_w hw (i := 97) rfl)) (by decide) (backOf (W := 0) (rmhc l Z a0 hw [] a1 bv kb b0 b1 hv zv cz h0 n0 Z0 O0 S_COMPACT_STRINGS hcz E_a1 F_value_a1 F_coder_a1 V_bv E_bv F_hash_a1 F_hashIsZero_a1 hinv g_a1 ne_a1_bv) hZ (own_w hw (i := 99) rfl) (own_w hw (i := 3) rfl) (by decide) (by decide)) q1a q1c (g := (mkF m 1 #[.val (.ref a1), .unset] [(.ref a1)])) rfl (by rw [hml]; rfl) (Steps.refl _) (argsL := []) (rest := []) (lenOf pd_230 rfl) rfl (by show 2 * 0 + _ ≤ _; exact Nat.le_of_eq rfl) (hb hby d17_1) (fun _ _ => ⟨rfl, e0, (by decide : 0 + 0 ≤ _), (by decide : 0 + 0 ≤ _)⟩)
  dsimp only [Pt.U, Pt.locs, Pt.cells, Pt.slots] at X1 l1 y1 z1 st1 hQ1
  subst y1 z1
  obtain ⟨rfl, N1q, K1q, o1_0, o1_1, o1_2, o1_3, o1_4⟩ := hQ1
  have N2 : Fr n0 L1 := by rw [l1]; exact Fr.app N0 N1q
  have K12 := (Keep.refl h0 [a1]).trans K1q (allS (Or.inl (List.mem_of_getElem? (i := 0) rfl)) all0)
  obtain ⟨fs, hr, hrun, hended, hW, hsame⟩ := X1.leave (v := some (.int ((((((own_hc b0 b1) ^^^ (((own_hc b0 b1).toUInt32 >>> ((16 : Int32) &&& 31).toUInt32).toInt32)) * (-2048144789 : Int32)) ^^^ (((((own_hc b0 b1) ^^^ (((own_hc b0 b1).toUInt32 >>> ((16 : Int32) &&& 31).toUInt32).toInt32)) * (-2048144789 : Int32)).toUInt32 >>> ((13 : Int32) &&& 31).toUInt32).toInt32)) * (-1028477387 : Int32)) ^^^ (((((((own_hc b0 b1) ^^^ (((own_hc b0 b1).toUInt32 >>> ((16 : Int32) &&& 31).toUInt32).toInt32)) * (-2048144789 : Int32)) ^^^ (((((own_hc b0 b1) ^^^ (((own_hc b0 b1).toUInt32 >>> ((16 : Int32) &&& 31).toUInt32).toInt32)) * (-2048144789 : Int32)).toUInt32 >>> ((13 : Int32) &&& 31).toUInt32).toInt32)) * (-1028477387 : Int32)).toUInt32 >>> ((16 : Int32) &&& 31).toUInt32).toInt32)))) (fun h => by rw [Bd.returns] at h; cases h) Bd.notSynchronized
  refine ⟨_, _, pre0 _ ?_, hrun, hended, _, _, rfl, ?_, ⟨_, rfl⟩, hW, hsame.mono (by decide) (by decide)⟩
  · show Steps p.tables e below (s₁.setTop (mkF m 0 #[.val (.ref a1), .unset] [])) _
    refine XS.aloadN X0.here hx rfl (hb hby d17_0) rfl rfl ?_
    refine st1.trans ?_
    refine XS.istoreN X1.here hx rfl (hb hby d17_4) rfl (l' := #[.val (.ref a1), .val (.int (own_hc b0 b1))]) rfl ?_
    refine XS.iloadN X1.here hx rfl (hb hby d17_5) rfl ?_
    refine XS.iloadN X1.here hx rfl (hb hby d17_6) rfl ?_
    refine XS.bipush X1.here hx rfl (hb hby d17_7) ?_
    refine XS.iushr X1.here hx rfl (hb hby d17_9) rfl ?_
    refine XS.ixor X1.here hx rfl (hb hby d17_10) rfl ?_
    show Steps p.tables e below (T1.setTop (mkF m 11 #[.val (.ref a1), .val (.int (own_hc b0 b1))] [(.int ((own_hc b0 b1) ^^^ (((own_hc b0 b1).toUInt32 >>> ((16 : Int32) &&& 31).toUInt32).toInt32)))])) _
    refine X1.ldcInt hx hown (mvT hZ (own_w hw (i := 116) rfl)) (g := (mkF m 11 #[.val (.ref a1), .val (.int (own_hc b0 b1))] [(.int ((own_hc b0 b1) ^^^ (((own_hc b0 b1).toUInt32 >>> ((16 : Int32) &&& 31).toUInt32).toInt32)))])) rfl (hb hby d17_11) _ ?_
    refine XS.imul X1.here hx rfl (hb hby d17_13) rfl ?_
    refine XS.istoreN X1.here hx rfl (hb hby d17_14) rfl (l' := #[.val (.ref a1), .val (.int (((own_hc b0 b1) ^^^ (((own_hc b0 b1).toUInt32 >>> ((16 : Int32) &&& 31).toUInt32).toInt32)) * (-2048144789 : Int32)))]) rfl ?_
    refine XS.iloadN X1.here hx rfl (hb hby d17_15) rfl ?_
    refine XS.iloadN X1.here hx rfl (hb hby d17_16) rfl ?_
    refine XS.bipush X1.here hx rfl (hb hby d17_17) ?_
    refine XS.iushr X1.here hx rfl (hb hby d17_19) rfl ?_
    refine XS.ixor X1.here hx rfl (hb hby d17_20) rfl ?_
    show Steps p.tables e below (T1.setTop (mkF m 21 #[.val (.ref a1), .val (.int (((own_hc b0 b1) ^^^ (((own_hc b0 b1).toUInt32 >>> ((16 : Int32) &&& 31).toUInt32).toInt32)) * (-2048144789 : Int32)))] [(.int ((((own_hc b0 b1) ^^^ (((own_hc b0 b1).toUInt32 >>> ((16 : Int32) &&& 31).toUInt32).toInt32)) * (-2048144789 : Int32)) ^^^ (((((own_hc b0 b1) ^^^ (((own_hc b0 b1).toUInt32 >>> ((16 : Int32) &&& 31).toUInt32).toInt32)) * (-2048144789 : Int32)).toUInt32 >>> ((13 : Int32) &&& 31).toUInt32).toInt32)))])) _
    refine X1.ldcInt hx hown (mvT hZ (own_w hw (i := 117) rfl)) (g := (mkF m 21 #[.val (.ref a1), .val (.int (((own_hc b0 b1) ^^^ (((own_hc b0 b1).toUInt32 >>> ((16 : Int32) &&& 31).toUInt32).toInt32)) * (-2048144789 : Int32)))] [(.int ((((own_hc b0 b1) ^^^ (((own_hc b0 b1).toUInt32 >>> ((16 : Int32) &&& 31).toUInt32).toInt32)) * (-2048144789 : Int32)) ^^^ (((((own_hc b0 b1) ^^^ (((own_hc b0 b1).toUInt32 >>> ((16 : Int32) &&& 31).toUInt32).toInt32)) * (-2048144789 : Int32)).toUInt32 >>> ((13 : Int32) &&& 31).toUInt32).toInt32)))])) rfl (hb hby d17_21) _ ?_
    refine XS.imul X1.here hx rfl (hb hby d17_23) rfl ?_
    refine XS.istoreN X1.here hx rfl (hb hby d17_24) rfl (l' := #[.val (.ref a1), .val (.int (((((own_hc b0 b1) ^^^ (((own_hc b0 b1).toUInt32 >>> ((16 : Int32) &&& 31).toUInt32).toInt32)) * (-2048144789 : Int32)) ^^^ (((((own_hc b0 b1) ^^^ (((own_hc b0 b1).toUInt32 >>> ((16 : Int32) &&& 31).toUInt32).toInt32)) * (-2048144789 : Int32)).toUInt32 >>> ((13 : Int32) &&& 31).toUInt32).toInt32)) * (-1028477387 : Int32)))]) rfl ?_
    refine XS.iloadN X1.here hx rfl (hb hby d17_25) rfl ?_
    refine XS.iloadN X1.here hx rfl (hb hby d17_26) rfl ?_
    refine XS.bipush X1.here hx rfl (hb hby d17_27) ?_
    refine XS.iushr X1.here hx rfl (hb hby d17_29) rfl ?_
    refine XS.ixor X1.here hx rfl (hb hby d17_30) rfl ?_
    show Steps p.tables e below (T1.setTop (mkF m 31 #[.val (.ref a1), .val (.int (((((own_hc b0 b1) ^^^ (((own_hc b0 b1).toUInt32 >>> ((16 : Int32) &&& 31).toUInt32).toInt32)) * (-2048144789 : Int32)) ^^^ (((((own_hc b0 b1) ^^^ (((own_hc b0 b1).toUInt32 >>> ((16 : Int32) &&& 31).toUInt32).toInt32)) * (-2048144789 : Int32)).toUInt32 >>> ((13 : Int32) &&& 31).toUInt32).toInt32)) * (-1028477387 : Int32)))] [(.int ((((((own_hc b0 b1) ^^^ (((own_hc b0 b1).toUInt32 >>> ((16 : Int32) &&& 31).toUInt32).toInt32)) * (-2048144789 : Int32)) ^^^ (((((own_hc b0 b1) ^^^ (((own_hc b0 b1).toUInt32 >>> ((16 : Int32) &&& 31).toUInt32).toInt32)) * (-2048144789 : Int32)).toUInt32 >>> ((13 : Int32) &&& 31).toUInt32).toInt32)) * (-1028477387 : Int32)) ^^^ (((((((own_hc b0 b1) ^^^ (((own_hc b0 b1).toUInt32 >>> ((16 : Int32) &&& 31).toUInt32).toInt32)) * (-2048144789 : Int32)) ^^^ (((((own_hc b0 b1) ^^^ (((own_hc b0 b1).toUInt32 >>> ((16 : Int32) &&& 31).toUInt32).toInt32)) * (-2048144789 : Int32)).toUInt32 >>> ((13 : Int32) &&& 31).toUInt32).toInt32)) * (-1028477387 : Int32)).toUInt32 >>> ((16 : Int32) &&& 31).toUInt32).toInt32)))])) _
    exact retI X1 hx Bd.returns (hb hby d17_31) hr
  · show Qkh Z a1 bv kb b0 b1 hv zv cz h0 n0 _ T1.heap _
    exact ⟨rfl, N2, K12, o1_0, o1_1, o1_2, o1_3, o1_4⟩
theorem pn_254 : plainName "java/lang/Record" = true := by first | (simp [plainName, overriddenIn]; done) | decide +kernel
theorem d23_0 : decode jdk_30_method_1_code 0 = .ok (.aload_n 0, 1) := by decide +kernel
theorem d23_1 : decode jdk_30_method_1_code 1 = .ok (.invokespecial 1, 3) := by decide +kernel
theorem d23_4 : decode jdk_30_method_1_code 4 = .ok (.return_, 1) := by decide +kernel
theorem ef_rec (m : MethodId) (x0 : Addr) : entryFrame m #[(.ref x0)] 1 = mkF m 0 #[.val (.ref x0)] [] := by first | (simp [entryFrame, mkF, argsToLocals, Value.category]; done) | rfl
abbrev R_rec : Room := { frames := 1, cells := 0, slots := 0, locals := 12 }
def Qrec (Z : State) (a1 : Addr) (h0 : Heap) (n0 : Nat) (v : Option Value) (h : Heap) (L : List Loc) : Prop := v = none ∧ Fr n0 L ∧ h = h0
set_option maxRecDepth 65536 in
set_option maxHeartbeats 40000000 in
theorem rmrec (l : Launch) (Z : State) (a0 : Array Value) (hw : ∀ d ∈ tables_1, d.before a0 Z = true) (ws : List Jvm.Cond) (a1 : Addr) (h0 : Heap) (n0 : Nat) (Z0 : n0 ≤ h0.size) :
    MetFree l (⟨"java/lang/Record", "<init>", "()V"⟩ : MethodName) (head1 (Jvm.Cond.code (⟨"java/lang/Record", "<init>", "()V"⟩ : MethodName) jdk_30_method_1_code 1 none :: ws) R_rec) (fun a U => a = #[(.ref a1)] ∧ Z.Warmed39 U.vm ∧ U.heap = h0) (fun _ _ _ _ _ => True) (fun _ U o U' => ∃ v L, o = .returned v ∧ Qrec Z a1 h0 n0 v U'.heap L ∧ FrameEnd U o U' L R_rec.cells R_rec.slots) := by
  refine MetFree.of_bodySF (plainFor_of_name pn_254) hisR ?_
  intro p e s m args below meth c s₁ Bd hml0 hP hK
  obtain ⟨rfl, hZ, hh⟩ := hP
  have hx := Bd.exec
  have hby := Bd.bytes
  have hml : c.maxLocals = 1 := hml0
  have hown : s.vm.findClass "java/lang/Record" = some m.cls := findClass_of_methodNamed Bd.named
  have hnm := (name_of_methodNamed Bd.named Bd.method).1
  have X0 : Stand p l e R_rec s m #[(.ref a1)] below meth c s₁ [] 0 0 := Stand.of_body Bd
  have e0 : s₁.heap = h0 := by rw [← hh, Bd.state]; rfl
  have N0 := Fr.nil n0
  have pre0 : ∀ t, Steps p.tables e below (s₁.setTop (mkF m 0 #[.val (.ref a1)] [])) t → Steps p.tables e below (s₁.setTop (entryFrame m #[(.ref a1)] 1)) t := fun t k => castTop (ef_rec m a1) k
  obtain ⟨T1, X1, e1, st1⟩ := initO X0 hx hZ hown (own_w hw (i := 126) rfl) (own_w hw (i := 12) rfl) (own_w hw (i := 13) rfl) e0 (g := (mkF m 1 #[.val (.ref a1)] [(.ref a1)])) rfl (by rw [hml]; rfl) rfl (hb hby d23_1) (by decide) (W := 0) (by show 2 * 0 + _ ≤ _; exact Nat.le_of_eq rfl) (by decide)
  obtain ⟨fs, hr, hrun, hended, hW, hsame⟩ := X1.leave (v := none) (fun _ => rfl) Bd.notSynchronized
  refine ⟨_, _, pre0 _ ?_, hrun, hended, _, _, rfl, ?_, ⟨_, rfl⟩, hW, hsame.mono (by decide) (by decide)⟩
  · show Steps p.tables e below (s₁.setTop (mkF m 0 #[.val (.ref a1)] [])) _
    refine XS.aloadN X0.here hx rfl (hb hby d23_0) rfl rfl ?_
    refine st1 _ ?_
    exact X1.returnOut hx Bd.returns (hb hby d23_4) hr
  · show Qrec Z a1 h0 n0 _ T1.heap _
    rw [e1]
    exact ⟨rfl, N0, rfl⟩
theorem d22_0 : decode prog_11_method_1_code 0 = .ok (.aload_n 0, 1) := by decide +kernel
theorem d22_1 : decode prog_11_method_1_code 1 = .ok (.invokespecial 1, 3) := by decide +kernel
theorem pd_260 : parseMethodDescriptor "()V" = some ⟨[], none⟩ := by decide +kernel
theorem d22_4 : decode prog_11_method_1_code 4 = .ok (.aload_n 0, 1) := by decide +kernel
theorem d22_5 : decode prog_11_method_1_code 5 = .ok (.aload_n 1, 1) := by decide +kernel
theorem d22_6 : decode prog_11_method_1_code 6 = .ok (.putfield 7, 3) := by decide +kernel
theorem sn_264 {Z : State} {a0 : Array Value} (hw : ∀ d ∈ tables_1, d.before a0 Z = true) : Jvm.RoadKit.slotOf Z KK "hash" "I" ≠ Jvm.RoadKit.slotOf Z KK "name" "Ljava/lang/String;" := slot_ne (Or.inr (own_w hw (i := 130) rfl)) (Or.inr (own_w hw (i := 128) rfl)) (by decide) (t := .int) (t' := (.object KJ)) (by decide) (by decide)
theorem sn_265 {Z : State} {a0 : Array Value} (hw : ∀ d ∈ tables_1, d.before a0 Z = true) : Jvm.RoadKit.slotOf Z KK "first" "J" ≠ Jvm.RoadKit.slotOf Z KK "name" "Ljava/lang/String;" := slot_ne (Or.inr (own_w hw (i := 132) rfl)) (Or.inr (own_w hw (i := 128) rfl)) (by decide) (t := .long) (t' := (.object KJ)) (by decide) (by decide)
theorem sn_266 {Z : State} {a0 : Array Value} (hw : ∀ d ∈ tables_1, d.before a0 Z = true) : Jvm.RoadKit.slotOf Z KK "second" "J" ≠ Jvm.RoadKit.slotOf Z KK "name" "Ljava/lang/String;" := slot_ne (Or.inr (own_w hw (i := 134) rfl)) (Or.inr (own_w hw (i := 128) rfl)) (by decide) (t := .long) (t' := (.object KJ)) (by decide) (by decide)
theorem sn_267 {Z : State} {a0 : Array Value} (hw : ∀ d ∈ tables_1, d.before a0 Z = true) : Jvm.RoadKit.slotOf Z KK "third" "J" ≠ Jvm.RoadKit.slotOf Z KK "name" "Ljava/lang/String;" := slot_ne (Or.inr (own_w hw (i := 136) rfl)) (Or.inr (own_w hw (i := 128) rfl)) (by decide) (t := .long) (t' := (.object KJ)) (by decide) (by decide)
theorem d22_9 : decode prog_11_method_1_code 9 = .ok (.aload_n 0, 1) := by decide +kernel
theorem d22_10 : decode prog_11_method_1_code 10 = .ok (.iload_n 2, 1) := by decide +kernel
theorem d22_11 : decode prog_11_method_1_code 11 = .ok (.putfield 13, 3) := by decide +kernel
theorem sn_271 {Z : State} {a0 : Array Value} (hw : ∀ d ∈ tables_1, d.before a0 Z = true) : Jvm.RoadKit.slotOf Z KK "name" "Ljava/lang/String;" ≠ Jvm.RoadKit.slotOf Z KK "hash" "I" := slot_ne (Or.inr (own_w hw (i := 128) rfl)) (Or.inr (own_w hw (i := 130) rfl)) (by decide) (t := (.object KJ)) (t' := .int) (by decide) (by decide)
theorem sn_272 {Z : State} {a0 : Array Value} (hw : ∀ d ∈ tables_1, d.before a0 Z = true) : Jvm.RoadKit.slotOf Z KK "first" "J" ≠ Jvm.RoadKit.slotOf Z KK "hash" "I" := slot_ne (Or.inr (own_w hw (i := 132) rfl)) (Or.inr (own_w hw (i := 130) rfl)) (by decide) (t := .long) (t' := .int) (by decide) (by decide)
theorem sn_273 {Z : State} {a0 : Array Value} (hw : ∀ d ∈ tables_1, d.before a0 Z = true) : Jvm.RoadKit.slotOf Z KK "second" "J" ≠ Jvm.RoadKit.slotOf Z KK "hash" "I" := slot_ne (Or.inr (own_w hw (i := 134) rfl)) (Or.inr (own_w hw (i := 130) rfl)) (by decide) (t := .long) (t' := .int) (by decide) (by decide)
theorem sn_274 {Z : State} {a0 : Array Value} (hw : ∀ d ∈ tables_1, d.before a0 Z = true) : Jvm.RoadKit.slotOf Z KK "third" "J" ≠ Jvm.RoadKit.slotOf Z KK "hash" "I" := slot_ne (Or.inr (own_w hw (i := 136) rfl)) (Or.inr (own_w hw (i := 130) rfl)) (by decide) (t := .long) (t' := .int) (by decide) (by decide)
theorem d22_14 : decode prog_11_method_1_code 14 = .ok (.aload_n 0, 1) := by decide +kernel
theorem d22_15 : decode prog_11_method_1_code 15 = .ok (.lload_n 3, 1) := by decide +kernel
theorem d22_16 : decode prog_11_method_1_code 16 = .ok (.putfield 17, 3) := by decide +kernel
theorem sn_278 {Z : State} {a0 : Array Value} (hw : ∀ d ∈ tables_1, d.before a0 Z = true) : Jvm.RoadKit.slotOf Z KK "name" "Ljava/lang/String;" ≠ Jvm.RoadKit.slotOf Z KK "first" "J" := slot_ne (Or.inr (own_w hw (i := 128) rfl)) (Or.inr (own_w hw (i := 132) rfl)) (by decide) (t := (.object KJ)) (t' := .long) (by decide) (by decide)
theorem sn_279 {Z : State} {a0 : Array Value} (hw : ∀ d ∈ tables_1, d.before a0 Z = true) : Jvm.RoadKit.slotOf Z KK "hash" "I" ≠ Jvm.RoadKit.slotOf Z KK "first" "J" := slot_ne (Or.inr (own_w hw (i := 130) rfl)) (Or.inr (own_w hw (i := 132) rfl)) (by decide) (t := .int) (t' := .long) (by decide) (by decide)
theorem sn_280 {Z : State} {a0 : Array Value} (hw : ∀ d ∈ tables_1, d.before a0 Z = true) : Jvm.RoadKit.slotOf Z KK "second" "J" ≠ Jvm.RoadKit.slotOf Z KK "first" "J" := slot_ne (Or.inr (own_w hw (i := 134) rfl)) (Or.inr (own_w hw (i := 132) rfl)) (by decide) (t := .long) (t' := .long) (by decide) (by decide)
theorem sn_281 {Z : State} {a0 : Array Value} (hw : ∀ d ∈ tables_1, d.before a0 Z = true) : Jvm.RoadKit.slotOf Z KK "third" "J" ≠ Jvm.RoadKit.slotOf Z KK "first" "J" := slot_ne (Or.inr (own_w hw (i := 136) rfl)) (Or.inr (own_w hw (i := 132) rfl)) (by decide) (t := .long) (t' := .long) (by decide) (by decide)
theorem d22_19 : decode prog_11_method_1_code 19 = .ok (.aload_n 0, 1) := by decide +kernel
theorem d22_20 : decode prog_11_method_1_code 20 = .ok (.lload 5, 2) := by decide +kernel
theorem d22_22 : decode prog_11_method_1_code 22 = .ok (.putfield 21, 3) := by decide +kernel
theorem sn_285 {Z : State} {a0 : Array Value} (hw : ∀ d ∈ tables_1, d.before a0 Z = true) : Jvm.RoadKit.slotOf Z KK "name" "Ljava/lang/String;" ≠ Jvm.RoadKit.slotOf Z KK "second" "J" := slot_ne (Or.inr (own_w hw (i := 128) rfl)) (Or.inr (own_w hw (i := 134) rfl)) (by decide) (t := (.object KJ)) (t' := .long) (by decide) (by decide)
theorem sn_286 {Z : State} {a0 : Array Value} (hw : ∀ d ∈ tables_1, d.before a0 Z = true) : Jvm.RoadKit.slotOf Z KK "hash" "I" ≠ Jvm.RoadKit.slotOf Z KK "second" "J" := slot_ne (Or.inr (own_w hw (i := 130) rfl)) (Or.inr (own_w hw (i := 134) rfl)) (by decide) (t := .int) (t' := .long) (by decide) (by decide)
theorem sn_287 {Z : State} {a0 : Array Value} (hw : ∀ d ∈ tables_1, d.before a0 Z = true) : Jvm.RoadKit.slotOf Z KK "first" "J" ≠ Jvm.RoadKit.slotOf Z KK "second" "J" := slot_ne (Or.inr (own_w hw (i := 132) rfl)) (Or.inr (own_w hw (i := 134) rfl)) (by decide) (t := .long) (t' := .long) (by decide) (by decide)
theorem sn_288 {Z : State} {a0 : Array Value} (hw : ∀ d ∈ tables_1, d.before a0 Z = true) : Jvm.RoadKit.slotOf Z KK "third" "J" ≠ Jvm.RoadKit.slotOf Z KK "second" "J" := slot_ne (Or.inr (own_w hw (i := 136) rfl)) (Or.inr (own_w hw (i := 134) rfl)) (by decide) (t := .long) (t' := .long) (by decide) (by decide)
theorem d22_25 : decode prog_11_method_1_code 25 = .ok (.aload_n 0, 1) := by decide +kernel
theorem d22_26 : decode prog_11_method_1_code 26 = .ok (.lload 7, 2) := by decide +kernel
theorem d22_28 : decode prog_11_method_1_code 28 = .ok (.putfield 24, 3) := by decide +kernel
theorem sn_292 {Z : State} {a0 : Array Value} (hw : ∀ d ∈ tables_1, d.before a0 Z = true) : Jvm.RoadKit.slotOf Z KK "name" "Ljava/lang/String;" ≠ Jvm.RoadKit.slotOf Z KK "third" "J" := slot_ne (Or.inr (own_w hw (i := 128) rfl)) (Or.inr (own_w hw (i := 136) rfl)) (by decide) (t := (.object KJ)) (t' := .long) (by decide) (by decide)
theorem sn_293 {Z : State} {a0 : Array Value} (hw : ∀ d ∈ tables_1, d.before a0 Z = true) : Jvm.RoadKit.slotOf Z KK "hash" "I" ≠ Jvm.RoadKit.slotOf Z KK "third" "J" := slot_ne (Or.inr (own_w hw (i := 130) rfl)) (Or.inr (own_w hw (i := 136) rfl)) (by decide) (t := .int) (t' := .long) (by decide) (by decide)
theorem sn_294 {Z : State} {a0 : Array Value} (hw : ∀ d ∈ tables_1, d.before a0 Z = true) : Jvm.RoadKit.slotOf Z KK "first" "J" ≠ Jvm.RoadKit.slotOf Z KK "third" "J" := slot_ne (Or.inr (own_w hw (i := 132) rfl)) (Or.inr (own_w hw (i := 136) rfl)) (by decide) (t := .long) (t' := .long) (by decide) (by decide)
theorem sn_295 {Z : State} {a0 : Array Value} (hw : ∀ d ∈ tables_1, d.before a0 Z = true) : Jvm.RoadKit.slotOf Z KK "second" "J" ≠ Jvm.RoadKit.slotOf Z KK "third" "J" := slot_ne (Or.inr (own_w hw (i := 134) rfl)) (Or.inr (own_w hw (i := 136) rfl)) (by decide) (t := .long) (t' := .long) (by decide) (by decide)
theorem d22_31 : decode prog_11_method_1_code 31 = .ok (.return_, 1) := by decide +kernel
theorem ef_ki (m : MethodId) (x0 : Addr) (x1 : Addr) (x2 : Int32) (x3 : Int64) (x4 : Int64) (x5 : Int64) : entryFrame m #[(.ref x0), (.ref x1), (.int x2), (.long x3), (.long x4), (.long x5)] 9 = mkF m 0 #[.val (.ref x0), .val (.ref x1), .val (.int x2), .val (.long x3), .second, .val (.long x4), .second, .val (.long x5), .second] [] := by first | (simp [entryFrame, mkF, argsToLocals, Value.category]; done) | rfl
abbrev R_ki : Room := { frames := 2, cells := 0, slots := 0, locals := 24 }
def Qki (Z : State) (a1 : Addr) (a2 : Addr) (p3 : Int32) (q4 : Int64) (q5 : Int64) (q6 : Int64) (u1 : Int32) (u2 : Int64) (u3 : Int64) (u4 : Int64) (h0 : Heap) (n0 : Nat) (v : Option Value) (h : Heap) (L : List Loc) : Prop := v = none ∧ Fr n0 L ∧ Keep h0 h [a1] ∧ Exa Z h a1 KK ∧ Fld Z h a1 KK "hash" "I" (.int p3) ∧ Fld Z h a1 KK "first" "J" (.long q4) ∧ Fld Z h a1 KK "second" "J" (.long q5) ∧ Fld Z h a1 KK "third" "J" (.long q6)
set_option maxRecDepth 65536 in
set_option maxHeartbeats 40000000 in
theorem rmki (l : Launch) (Z : State) (a0 : Array Value) (hw : ∀ d ∈ tables_1, d.before a0 Z = true) (ws : List Jvm.Cond) (a1 : Addr) (a2 : Addr) (p3 : Int32) (q4 : Int64) (q5 : Int64) (q6 : Int64) (u1 : Int32) (u2 : Int64) (u3 : Int64) (u4 : Int64) (h0 : Heap) (n0 : Nat) (Z0 : n0 ≤ h0.size) (E_a1 : Exa Z h0 a1 KK) (F_name_a1 : Fld Z h0 a1 KK "name" "Ljava/lang/String;" .null) (F_hash_a1 : Fld Z h0 a1 KK "hash" "I" (.int u1)) (F_first_a1 : Fld Z h0 a1 KK "first" "J" (.long u2)) (F_second_a1 : Fld Z h0 a1 KK "second" "J" (.long u3)) (F_third_a1 : Fld Z h0 a1 KK "third" "J" (.long u4)) (g_a1 : n0 ≤ a1) :
    MetFree l (⟨KK, "<init>", "(Ljava/lang/String;IJJJ)V"⟩ : MethodName) (head1 (Jvm.Cond.code (⟨KK, "<init>", "(Ljava/lang/String;IJJJ)V"⟩ : MethodName) prog_11_method_1_code 9 none :: ws) R_ki) (fun a U => a = #[(.ref a1), (.ref a2), (.int p3), (.long q4), (.long q5), (.long q6)] ∧ Z.Warmed39 U.vm ∧ U.heap = h0) (fun _ _ _ _ _ => True) (fun _ U o U' => ∃ v L, o = .returned v ∧ Qki Z a1 a2 p3 q4 q5 q6 u1 u2 u3 u4 h0 n0 v U'.heap L ∧ FrameEnd U o U' L R_ki.cells R_ki.slots) := by
  refine MetFree.of_bodySF (plainFor_of_name pn_227) hisR ?_
  intro p e s m args below meth c s₁ Bd hml0 hP hK
  obtain ⟨rfl, hZ, hh⟩ := hP
  have hx := Bd.exec
  have hby := Bd.bytes
  have hml : c.maxLocals = 9 := hml0
  have hown : s.vm.findClass KK = some m.cls := findClass_of_methodNamed Bd.named
  have hnm := (name_of_methodNamed Bd.named Bd.method).1
  have X0 : Stand p l e R_ki s m #[(.ref a1), (.ref a2), (.int p3), (.long q4), (.long q5), (.long q6)] below meth c s₁ [] 0 0 := Stand.of_body Bd
  have e0 : s₁.heap = h0 := by rw [← hh, Bd.state]; rfl
  have N0 := Fr.nil n0
  have pre0 : ∀ t, Steps p.tables e below (s₁.setTop (mkF m 0 #[.val (.ref a1), .val (.ref a2), .val (.int p3), .val (.long q4), .second, .val (.long q5), .second, .val (.long q6), .second] [])) t → Steps p.tables e below (s₁.setTop (entryFrame m #[(.ref a1), (.ref a2), (.int p3), (.long q4), (.long q5), (.long q6)] 9)) t := fun t k => castTop (ef_ki m a1 a2 p3 q4 q5 q6) k
  -- pc 1: Record.<init> by rmrec
  obtain ⟨_, _, ⟨T1, L1, ck1, cn1⟩, -, X1, ⟨Lc1, hQ1, l1, y1, z1⟩, st1⟩ := X0.specialBack hx (y := (⟨"java/lang/Record", "<init>", "()V"⟩ : MethodName)) rfl hown (mvT hZ (own_w hw (i := 121) rfl)) (mvT hZ (own_w hw (i := 122) rfl)) (mvT hZ (own_w hw (i := 125) rfl)) (by decide) (backOf (W := 0) (rmrec l Z a0 hw [] a1 h0 n0 Z0 ) hZ (own_w hw (i := 125) rfl) (own_w hw (i := 124) rfl) (by decide) (by decide)) (g := (mkF m 1 #[.val (.ref a1), .val (.ref a2), .val (.int p3), .val (.long q4), .second, .val (.long q5), .second, .val (.long q6), .second] [(.ref a1)])) rfl (by rw [hml]; rfl) (Steps.refl _) (a := a1) (argsL := []) (rest := []) (lenOf pd_260 rfl) rfl (by show 2 * 0 + _ ≤ _; exact Nat.le_of_eq rfl) (hb hby d22_1) (fun _ _ => ⟨rfl, e0, (by decide : 0 + 0 ≤ _), (by decide : 0 + 0 ≤ _)⟩)
  dsimp only [Pt.U, Pt.locs, Pt.cells, Pt.slots] at X1 l1 y1 z1 st1 hQ1
  subst y1 z1
  obtain ⟨rfl, N1q, e1⟩ := hQ1
  have N2 : Fr n0 L1 := by rw [l1]; exact Fr.app N0 N1q
  obtain ⟨T3, h3, X3, e3, W3, st3⟩ := putF X1 hx hZ hown (host := "") (Or.inl (own_w hw (i := 127) rfl)) Via.refl e1 F_name_a1 E_a1 (Or.inr ⟨(own_w hw (i := 128) rfl), rfl, hnm⟩) (own_w hw (i := 91) rfl) (ty := (.object KJ)) (by decide) rfl rfl (g := (mkF m 6 #[.val (.ref a1), .val (.ref a2), .val (.int p3), .val (.long q4), .second, .val (.long q5), .second, .val (.long q6), .second] [(.ref a2), (.ref a1)])) rfl rfl (hb hby d22_6)
  have f4 := E_a1.wr W3
  have f6 := F_hash_a1.other W3 (Or.inr (sn_264 hw))
  have f7 := F_first_a1.other W3 (Or.inr (sn_265 hw))
  have f8 := F_second_a1.other W3 (Or.inr (sn_266 hw))
  have f9 := F_third_a1.other W3 (Or.inr (sn_267 hw))
  have K10 := (Keep.refl h0 [a1]).wr W3 (Or.inl (List.mem_of_getElem? (i := 0) rfl))
  have N12 := Fr.snoc X3 N2 g_a1
  obtain ⟨T13, h13, X13, e13, W13, st13⟩ := putF X3 hx hZ hown (host := "") (Or.inl (own_w hw (i := 129) rfl)) Via.refl e3 f6 f4 (Or.inr ⟨(own_w hw (i := 130) rfl), rfl, hnm⟩) (own_w hw (i := 91) rfl) (ty := .int) (by decide) rfl rfl (g := (mkF m 11 #[.val (.ref a1), .val (.ref a2), .val (.int p3), .val (.long q4), .second, .val (.long q5), .second, .val (.long q6), .second] [(.int p3), (.ref a1)])) rfl rfl (hb hby d22_11)
  have f14 := f4.wr W13
  have f16 := f6.same W13
  have f17 := f7.other W13 (Or.inr (sn_272 hw))
  have f18 := f8.other W13 (Or.inr (sn_273 hw))
  have f19 := f9.other W13 (Or.inr (sn_274 hw))
  have K20 := K10.wr W13 (Or.inl (List.mem_of_getElem? (i := 0) rfl))
  have N22 := Fr.snoc X13 N12 g_a1
  obtain ⟨T23, h23, X23, e23, W23, st23⟩ := putF X13 hx hZ hown (host := "") (Or.inl (own_w hw (i := 131) rfl)) Via.refl e13 f17 f14 (Or.inr ⟨(own_w hw (i := 132) rfl), rfl, hnm⟩) (own_w hw (i := 91) rfl) (ty := .long) (by decide) rfl rfl (g := (mkF m 16 #[.val (.ref a1), .val (.ref a2), .val (.int p3), .val (.long q4), .second, .val (.long q5), .second, .val (.long q6), .second] [(.long q4), (.ref a1)])) rfl rfl (hb hby d22_16)
  have f24 := f14.wr W23
  have f26 := f16.other W23 (Or.inr (sn_279 hw))
  have f27 := f17.same W23
  have f28 := f18.other W23 (Or.inr (sn_280 hw))
  have f29 := f19.other W23 (Or.inr (sn_281 hw))
  have K30 := K20.wr W23 (Or.inl (List.mem_of_getElem? (i := 0) rfl))
  have N32 := Fr.snoc X23 N22 g_a1
  obtain ⟨T33, h33, X33, e33, W33, st33⟩ := putF X23 hx hZ hown (host := "") (Or.inl (own_w hw (i := 133) rfl)) Via.refl e23 f28 f24 (Or.inr ⟨(own_w hw (i := 134) rfl), rfl, hnm⟩) (own_w hw (i := 91) rfl) (ty := .long) (by decide) rfl rfl (g := (mkF m 22 #[.val (.ref a1), .val (.ref a2), .val (.int p3), .val (.long q4), .second, .val (.long q5), .second, .val (.long q6), .second] [(.long q5), (.ref a1)])) rfl rfl (hb hby d22_22)
  have f34 := f24.wr W33
  have f36 := f26.other W33 (Or.inr (sn_286 hw))
  have f37 := f27.other W33 (Or.inr (sn_287 hw))
  have f38 := f28.same W33
  have f39 := f29.other W33 (Or.inr (sn_288 hw))
  have K40 := K30.wr W33 (Or.inl (List.mem_of_getElem? (i := 0) rfl))
  have N42 := Fr.snoc X33 N32 g_a1
  obtain ⟨T43, h43, X43, e43, W43, st43⟩ := putF X33 hx hZ hown (host := "") (Or.inl (own_w hw (i := 135) rfl)) Via.refl e33 f39 f34 (Or.inr ⟨(own_w hw (i := 136) rfl), rfl, hnm⟩) (own_w hw (i := 91) rfl) (ty := .long) (by decide) rfl rfl (g := (mkF m 28 #[.val (.ref a1), .val (.ref a2), .val (.int p3), .val (.long q4), .second, .val (.long q5), .second, .val (.long q6), .second] [(.long q6), (.ref a1)])) rfl rfl (hb hby d22_28)
  have f44 := f34.wr W43
  have f46 := f36.other W43 (Or.inr (sn_293 hw))
  have f47 := f37.other W43 (Or.inr (sn_294 hw))
  have f48 := f38.other W43 (Or.inr (sn_295 hw))
  have f49 := f39.same W43
  have K50 := K40.wr W43 (Or.inl (List.mem_of_getElem? (i := 0) rfl))
  have N52 := Fr.snoc X43 N42 g_a1
  obtain ⟨fs, hr, hrun, hended, hW, hsame⟩ := X43.leave (v := none) (fun _ => rfl) Bd.notSynchronized
  refine ⟨_, _, pre0 _ ?_, hrun, hended, _, _, rfl, ?_, ⟨_, rfl⟩, hW, hsame.mono (by decide) (by decide)⟩
  · show Steps p.tables e below (s₁.setTop (mkF m 0 #[.val (.ref a1), .val (.ref a2), .val (.int p3), .val (.long q4), .second, .val (.long q5), .second, .val (.long q6), .second] [])) _
    refine XS.aloadN X0.here hx rfl (hb hby d22_0) rfl rfl ?_
    refine st1.trans ?_
    refine XS.aloadN X1.here hx rfl (hb hby d22_4) rfl rfl ?_
    refine XS.aloadN X1.here hx rfl (hb hby d22_5) rfl rfl ?_
    refine st3 _ ?_
    refine XS.aloadN X3.here hx rfl (hb hby d22_9) rfl rfl ?_
    refine XS.iloadN X3.here hx rfl (hb hby d22_10) rfl ?_
    refine st13 _ ?_
    show Steps p.tables e below (T13.setTop (mkF m 14 #[.val (.ref a1), .val (.ref a2), .val (.int p3), .val (.long q4), .second, .val (.long q5), .second, .val (.long q6), .second] [])) _
    refine XS.aloadN X13.here hx rfl (hb hby d22_14) rfl rfl ?_
    refine XS.lloadN X13.here hx rfl (hb hby d22_15) rfl ?_
    refine st23 _ ?_
    refine XS.aloadN X23.here hx rfl (hb hby d22_19) rfl rfl ?_
    refine XS.lload X23.here hx rfl (hb hby d22_20) rfl ?_
    refine st33 _ ?_
    refine XS.aloadN X33.here hx rfl (hb hby d22_25) rfl rfl ?_
    refine XS.lload X33.here hx rfl (hb hby d22_26) rfl ?_
    show Steps p.tables e below (T33.setTop (mkF m 28 #[.val (.ref a1), .val (.ref a2), .val (.int p3), .val (.long q4), .second, .val (.long q5), .second, .val (.long q6), .second] [(.long q6), (.ref a1)])) _
    refine st43 _ ?_
    exact X43.returnOut hx Bd.returns (hb hby d22_31) hr
  · show Qki Z a1 a2 p3 q4 q5 q6 u1 u2 u3 u4 h0 n0 _ T43.heap _
    rw [e43]
    exact ⟨rfl, N52, K50, f44, f46, f47, f48, f49⟩
theorem d9_0 : decode prog_11_method_2_code 0 = .ok (.aload_n 0, 1) := by decide +kernel
theorem d9_1 : decode prog_11_method_2_code 1 = .ok (.invokevirtual 27, 3) := by decide +kernel
theorem d9_4 : decode prog_11_method_2_code 4 = .ok (.istore_n 1, 1) := by decide +kernel
theorem d9_5 : decode prog_11_method_2_code 5 = .ok (.iload_n 1, 1) := by decide +kernel
theorem d9_6 : decode prog_11_method_2_code 6 = .ok (.bipush 23, 2) := by decide +kernel
theorem d9_8 : decode prog_11_method_2_code 8 = .ok (.if_icmp .gt 7, 3) := by decide +kernel
theorem d9_11 : decode prog_11_method_2_code 11 = .ok (.iconst 1, 1) := by decide +kernel
theorem d9_12 : decode prog_11_method_2_code 12 = .ok (.goto 4, 3) := by decide +kernel
theorem d9_16 : decode prog_11_method_2_code 16 = .ok (.istore_n 2, 1) := by decide +kernel
theorem d9_17 : decode prog_11_method_2_code 17 = .ok (.iload_n 1, 1) := by decide +kernel
theorem d9_18 : decode prog_11_method_2_code 18 = .ok (.i2l, 1) := by decide +kernel
theorem d9_19 : decode prog_11_method_2_code 19 = .ok (.lstore_n 3, 1) := by decide +kernel
theorem d9_20 : decode prog_11_method_2_code 20 = .ok (.lconst 0, 1) := by decide +kernel
theorem d9_21 : decode prog_11_method_2_code 21 = .ok (.lstore 5, 2) := by decide +kernel
theorem d9_23 : decode prog_11_method_2_code 23 = .ok (.lconst 0, 1) := by decide +kernel
theorem d9_24 : decode prog_11_method_2_code 24 = .ok (.lstore 7, 2) := by decide +kernel
theorem d9_26 : decode prog_11_method_2_code 26 = .ok (.iconst 0, 1) := by decide +kernel
theorem d9_27 : decode prog_11_method_2_code 27 = .ok (.istore 9, 2) := by decide +kernel
theorem d9_29 : decode prog_11_method_2_code 29 = .ok (.iload_n 2, 1) := by decide +kernel
theorem d9_30 : decode prog_11_method_2_code 30 = .ok (.ifCond .eq 108, 3) := by decide +kernel
theorem d9_33 : decode prog_11_method_2_code 33 = .ok (.iload 9, 2) := by decide +kernel
theorem d9_35 : decode prog_11_method_2_code 35 = .ok (.iload_n 1, 1) := by decide +kernel
theorem d9_36 : decode prog_11_method_2_code 36 = .ok (.if_icmp .ge 102, 3) := by decide +kernel
theorem d9_39 : decode prog_11_method_2_code 39 = .ok (.aload_n 0, 1) := by decide +kernel
theorem d9_40 : decode prog_11_method_2_code 40 = .ok (.iload 9, 2) := by decide +kernel
theorem d9_42 : decode prog_11_method_2_code 42 = .ok (.invokevirtual 33, 3) := by decide +kernel
theorem pd_323 : parseMethodDescriptor "(I)C" = some ⟨[.int], some .char⟩ := by decide +kernel
theorem d9_45 : decode prog_11_method_2_code 45 = .ok (.i2l, 1) := by decide +kernel
theorem d9_46 : decode prog_11_method_2_code 46 = .ok (.lstore 10, 2) := by decide +kernel
theorem d9_48 : decode prog_11_method_2_code 48 = .ok (.iload 9, 2) := by decide +kernel
theorem d9_50 : decode prog_11_method_2_code 50 = .ok (.iconst 1, 1) := by decide +kernel
theorem d9_51 : decode prog_11_method_2_code 51 = .ok (.iadd, 1) := by decide +kernel
theorem d9_52 : decode prog_11_method_2_code 52 = .ok (.istore 12, 2) := by decide +kernel
theorem d9_54 : decode prog_11_method_2_code 54 = .ok (.iload 12, 2) := by decide +kernel
theorem d9_56 : decode prog_11_method_2_code 56 = .ok (.bipush 8, 2) := by decide +kernel
theorem d9_58 : decode prog_11_method_2_code 58 = .ok (.if_icmp .ge 17, 3) := by decide +kernel
theorem d9_61 : decode prog_11_method_2_code 61 = .ok (.lload_n 3, 1) := by decide +kernel
theorem d9_62 : decode prog_11_method_2_code 62 = .ok (.lload 10, 2) := by decide +kernel
theorem d9_64 : decode prog_11_method_2_code 64 = .ok (.bipush 8, 2) := by decide +kernel
theorem d9_66 : decode prog_11_method_2_code 66 = .ok (.iload 12, 2) := by decide +kernel
theorem d9_68 : decode prog_11_method_2_code 68 = .ok (.imul, 1) := by decide +kernel
theorem d9_69 : decode prog_11_method_2_code 69 = .ok (.lshl, 1) := by decide +kernel
theorem d9_70 : decode prog_11_method_2_code 70 = .ok (.lor, 1) := by decide +kernel
theorem d9_71 : decode prog_11_method_2_code 71 = .ok (.lstore_n 3, 1) := by decide +kernel
theorem d9_72 : decode prog_11_method_2_code 72 = .ok (.goto 45, 3) := by decide +kernel
theorem d9_117 : decode prog_11_method_2_code 117 = .ok (.lload 10, 2) := by decide +kernel
theorem d9_119 : decode prog_11_method_2_code 119 = .ok (.ldc2_w 41, 3) := by decide +kernel
theorem d9_122 : decode prog_11_method_2_code 122 = .ok (.lcmp, 1) := by decide +kernel
theorem d9_123 : decode prog_11_method_2_code 123 = .ok (.ifCond .ge 7, 3) := by decide +kernel
theorem d9_126 : decode prog_11_method_2_code 126 = .ok (.iconst 1, 1) := by decide +kernel
theorem d9_127 : decode prog_11_method_2_code 127 = .ok (.goto 4, 3) := by decide +kernel
theorem d9_131 : decode prog_11_method_2_code 131 = .ok (.istore_n 2, 1) := by decide +kernel
theorem d9_132 : decode prog_11_method_2_code 132 = .ok (.iinc 9 1, 3) := by decide +kernel
theorem d9_135 : decode prog_11_method_2_code 135 = .ok (.goto (-106), 3) := by decide +kernel
theorem d9_138 : decode prog_11_method_2_code 138 = .ok (.iload_n 2, 1) := by decide +kernel
theorem d9_139 : decode prog_11_method_2_code 139 = .ok (.ifCond .eq 23, 3) := by decide +kernel
theorem d9_142 : decode prog_11_method_2_code 142 = .ok (.new 8, 3) := by decide +kernel
theorem d9_145 : decode prog_11_method_2_code 145 = .ok (.dup, 1) := by decide +kernel
theorem d9_146 : decode prog_11_method_2_code 146 = .ok (.aload_n 0, 1) := by decide +kernel
theorem d9_147 : decode prog_11_method_2_code 147 = .ok (.aload_n 0, 1) := by decide +kernel
theorem d9_148 : decode prog_11_method_2_code 148 = .ok (.invokestatic 43, 3) := by decide +kernel
theorem pd_358 : parseMethodDescriptor "(Ljava/lang/String;)I" = some ⟨[(.object KJ)], some .int⟩ := by decide +kernel
theorem d9_151 : decode prog_11_method_2_code 151 = .ok (.lload_n 3, 1) := by decide +kernel
theorem d9_152 : decode prog_11_method_2_code 152 = .ok (.lload 5, 2) := by decide +kernel
theorem d9_154 : decode prog_11_method_2_code 154 = .ok (.lload 7, 2) := by decide +kernel
theorem d9_156 : decode prog_11_method_2_code 156 = .ok (.invokespecial 46, 3) := by decide +kernel
theorem pd_363 : parseMethodDescriptor "(Ljava/lang/String;IJJJ)V" = some ⟨[(.object KJ), .int, .long, .long, .long], none⟩ := by decide +kernel
theorem d9_159 : decode prog_11_method_2_code 159 = .ok (.goto 20, 3) := by decide +kernel
theorem d9_179 : decode prog_11_method_2_code 179 = .ok (.areturn, 1) := by decide +kernel
theorem ef_ko (m : MethodId) (x0 : Addr) : entryFrame m #[(.ref x0)] 13 = mkF m 0 #[.val (.ref x0), .unset, .unset, .unset, .unset, .unset, .unset, .unset, .unset, .unset, .unset, .unset, .unset] [] := by first | (simp [entryFrame, mkF, argsToLocals, Value.category]; done) | rfl
abbrev R_ko : Room := { frames := 5, cells := 1, slots := 5, locals := 74 }
def Qko (Z : State) (a1 : Addr) (bv : Addr) (kb : ClassId) (b0 : Int32) (b1 : Int32) (hv : Int32) (zv : Int32) (cz : Int32) (fmt : Value) (h0 : Heap) (n0 : Nat) (v : Option Value) (h : Heap) (L : List Loc) : Prop := ∃ (n1 : Addr) (kn1 : ClassId), v = some (.ref n1) ∧ Fr n0 L ∧ Keep h0 h [a1] ∧ n0 ≤ n1 ∧ h0.size ≤ n1 ∧ Exa Z h a1 KJ ∧ Fld Z h a1 KJ "value" "[B" (.ref bv) ∧ Fld Z h a1 KJ "coder" "B" (.int 0) ∧ Fld Z h a1 KJ "hash" "I" (.int (own_hc b0 b1)) ∧ Fld Z h a1 KJ "hashIsZero" "Z" (.int (fhc_hashIsZero b0 b1 hv zv)) ∧ Exa Z h n1 KK ∧ Fld Z h n1 KK "hash" "I" (.int (own_hh b0 b1)) ∧ Fld Z h n1 KK "first" "J" (.long (own_k1 b0 b1)) ∧ Fld Z h n1 KK "second" "J" (.long 0) ∧ Fld Z h n1 KK "third" "J" (.long 0)
set_option maxRecDepth 65536 in
set_option maxHeartbeats 40000000 in
theorem rmko (l : Launch) (Z : State) (a0 : Array Value) (hw : ∀ d ∈ tables_1, d.before a0 Z = true) (ws : List Jvm.Cond) (a1 : Addr) (bv : Addr) (kb : ClassId) (b0 : Int32) (b1 : Int32) (hv : Int32) (zv : Int32) (cz : Int32) (fmt : Value) (h0 : Heap) (n0 : Nat) (Z0 : n0 ≤ h0.size) (O0 : Old Z n0 h0) (S_COMPACT_STRINGS : Sta Z Z.heap KJ "COMPACT_STRINGS" "Z" (.int cz)) (hcz : ¬ (cz = (0 : Int32))) (E_a1 : Exa Z h0 a1 KJ) (F_value_a1 : Fld Z h0 a1 KJ "value" "[B" (.ref bv)) (F_coder_a1 : Fld Z h0 a1 KJ "coder" "B" (.int 0)) (V_bv : Arv Z h0 bv kb .byte (2 : Int32) [(.int b0), (.int b1)] (.int 0)) (E_bv : Exa Z h0 bv "[B") (F_hash_a1 : Fld Z h0 a1 KJ "hash" "I" (.int hv)) (F_hashIsZero_a1 : Fld Z h0 a1 KJ "hashIsZero" "Z" (.int zv)) (hinv : hv = (own_hc b0 b1) ∨ (hv = (0 : Int32) ∧ zv = (0 : Int32))) (g_a1 : n0 ≤ a1) (ne_a1_bv : a1 ≠ bv) (S_SIOOBE_FORMATTER : Sta Z Z.heap "jdk/internal/util/Preconditions" "SIOOBE_FORMATTER" "Ljava/util/function/BiFunction;" fmt) (hfmt : fmt = .null ∨ ∃ a, fmt = .ref a) :
    MetFree l (⟨KK, "of", "(Ljava/lang/String;)Lcom/example/explicit_grants/explicitgrants/Interner$Key;"⟩ : MethodName) (head1 (Jvm.Cond.code (⟨KK, "of", "(Ljava/lang/String;)Lcom/example/explicit_grants/explicitgrants/Interner$Key;"⟩ : MethodName) prog_11_method_2_code 13 (some (.object KK)) :: ws) R_ko) (fun a U => a = #[(.ref a1)] ∧ Z.Warmed39 U.vm ∧ U.heap = h0) (fun _ _ _ _ _ => True) (fun _ U o U' => ∃ v L, o = .returned v ∧ Qko Z a1 bv kb b0 b1 hv zv cz fmt h0 n0 v U'.heap L ∧ FrameEnd U o U' L R_ko.cells R_ko.slots) := by
  refine MetFree.of_bodySF (plainFor_of_name pn_227) hisR ?_
  intro p e s m args below meth c s₁ Bd hml0 hP hK
  obtain ⟨rfl, hZ, hh⟩ := hP
  have hx := Bd.exec
  have hby := Bd.bytes
  have hml : c.maxLocals = 13 := hml0
  have hown : s.vm.findClass KK = some m.cls := findClass_of_methodNamed Bd.named
  have hnm := (name_of_methodNamed Bd.named Bd.method).1
  have X0 : Stand p l e R_ko s m #[(.ref a1)] below meth c s₁ [] 0 0 := Stand.of_body Bd
  have e0 : s₁.heap = h0 := by rw [← hh, Bd.state]; rfl
  have N0 := Fr.nil n0
  have pre0 : ∀ t, Steps p.tables e below (s₁.setTop (mkF m 0 #[.val (.ref a1), .unset, .unset, .unset, .unset, .unset, .unset, .unset, .unset, .unset, .unset, .unset, .unset] [])) t → Steps p.tables e below (s₁.setTop (entryFrame m #[(.ref a1)] 13)) t := fun t k => castTop (ef_ko m a1) k
  -- pc 1: String.length by rmlen
  obtain ⟨cq1, kq1, q1a, q1b, q1c⟩ := isOf hZ e0 E_a1
  obtain ⟨_, _, ⟨T1, L1, ck1, cn1⟩, -, X1, ⟨Lc1, hQ1, l1, y1, z1⟩, st1⟩ := X0.virtualBack hx (y := (⟨KJ, "length", "()I"⟩ : MethodName)) (z := (⟨KJ, "length", "()I"⟩ : MethodName)) hown (mvT hZ (own_w hw (i := 57) rfl)) (mvT hZ (own_w hw (i := 58) rfl)) (notFace_of_selects (args := #[]) (mvT hZ (own_w hw (i := 60) rfl))) (mvT hZ (own_w hw (i := 60) rfl)) (mvT hZ (own_w hw (i := 59) rfl)) (by decide) (backOf (W := 0) (rmlen l Z a0 hw [] a1 bv kb b0 b1 cz h0 n0 Z0 O0 S_COMPACT_STRINGS hcz E_a1 F_value_a1 F_coder_a1 V_bv) hZ (own_w hw (i := 61) rfl) (own_w hw (i := 3) rfl) (by decide) (by decide)) q1a q1c (g := (mkF m 1 #[.val (.ref a1), .unset, .unset, .unset, .unset, .unset, .unset, .unset, .unset, .unset, .unset, .unset, .unset] [(.ref a1)])) rfl (by rw [hml]; rfl) (Steps.refl _) (argsL := []) (rest := []) (lenOf pd_230 rfl) rfl (by show 2 * 0 + _ ≤ _; exact Nat.le_of_eq rfl) (hb hby d9_1) (fun _ _ => ⟨rfl, e0, (by decide : 0 + 0 ≤ _), (by decide : 0 + 0 ≤ _)⟩)
  dsimp only [Pt.U, Pt.locs, Pt.cells, Pt.slots] at X1 l1 y1 z1 st1 hQ1
  subst y1 z1
  obtain ⟨rfl, N1q, e1⟩ := hQ1
  have N2 : Fr n0 L1 := by rw [l1]; exact Fr.app N0 N1q
  -- pc 42: String.charAt by rmca0
  obtain ⟨cq3, kq3, q3a, q3b, q3c⟩ := isOf hZ e1 E_a1
  obtain ⟨_, _, ⟨T3, L3, ck3, cn3⟩, -, X3, ⟨Lc3, hQ3, l3, y3, z3⟩, st3⟩ := X1.virtualBack hx (y := (⟨KJ, "charAt", "(I)C"⟩ : MethodName)) (z := (⟨KJ, "charAt", "(I)C"⟩ : MethodName)) hown (mvT hZ (own_w hw (i := 67) rfl)) (mvT hZ (own_w hw (i := 68) rfl)) (notFace_of_selects (args := #[]) (mvT hZ (own_w hw (i := 70) rfl))) (mvT hZ (own_w hw (i := 70) rfl)) (mvT hZ (own_w hw (i := 69) rfl)) (by decide) (backOf (W := 0) (rmca0 l Z a0 hw [] a1 bv kb b0 b1 cz fmt h0 n0 Z0 O0 S_COMPACT_STRINGS hcz E_a1 F_value_a1 F_coder_a1 V_bv S_SIOOBE_FORMATTER hfmt) hZ (own_w hw (i := 71) rfl) (own_w hw (i := 3) rfl) (by decide) (by decide)) q3a q3c (g := (mkF m 42 #[.val (.ref a1), .val (.int 2), .val (.int 1), .val (.long 2), .second, .val (.long 0), .second, .val (.long 0), .second, .val (.int 0), .unset, .unset, .unset] [(.int 0), (.ref a1)])) rfl (by rw [hml]; rfl) (Steps.refl _) (argsL := [(.int 0)]) (rest := []) (lenOf pd_323 rfl) rfl (by show 2 * 0 + _ ≤ _; exact Nat.le_of_eq rfl) (hb hby d9_42) (fun _ _ => ⟨rfl, e1, (by decide : 0 + 0 ≤ _), (by decide : 0 + 0 ≤ _)⟩)
  dsimp only [Pt.U, Pt.locs, Pt.cells, Pt.slots] at X3 l3 y3 z3 st3 hQ3
  subst y3 z3
  obtain ⟨rfl, N3q, e3⟩ := hQ3
  have N4 : Fr n0 L3 := by rw [l3]; exact Fr.app N2 N3q
  have hs5 : ((own_ch b0).toInt64) < (256 : Int64) := (own_c256 _)
  -- pc 42: String.charAt by rmca1
  obtain ⟨cq6, kq6, q6a, q6b, q6c⟩ := isOf hZ e3 E_a1
  obtain ⟨_, _, ⟨T6, L6, ck6, cn6⟩, -, X6, ⟨Lc6, hQ6, l6, y6, z6⟩, st6⟩ := X3.virtualBack hx (y := (⟨KJ, "charAt", "(I)C"⟩ : MethodName)) (z := (⟨KJ, "charAt", "(I)C"⟩ : MethodName)) hown (mvT hZ (own_w hw (i := 67) rfl)) (mvT hZ (own_w hw (i := 68) rfl)) (notFace_of_selects (args := #[]) (mvT hZ (own_w hw (i := 70) rfl))) (mvT hZ (own_w hw (i := 70) rfl)) (mvT hZ (own_w hw (i := 69) rfl)) (by decide) (backOf (W := 0) (rmca1 l Z a0 hw [] a1 bv kb b0 b1 cz fmt h0 n0 Z0 O0 S_COMPACT_STRINGS hcz E_a1 F_value_a1 F_coder_a1 V_bv S_SIOOBE_FORMATTER hfmt) hZ (own_w hw (i := 71) rfl) (own_w hw (i := 3) rfl) (by decide) (by decide)) q6a q6c (g := (mkF m 42 #[.val (.ref a1), .val (.int 2), .val (.int 1), .val (.long ((2 : Int64) ||| (((own_ch b0).toInt64) <<< ((8 : Int32) &&& 0x3f).toInt64))), .second, .val (.long 0), .second, .val (.long 0), .second, .val (.int 1), .val (.long ((own_ch b0).toInt64)), .second, .val (.int 1)] [(.int 1), (.ref a1)])) rfl (by rw [hml]; rfl) (Steps.refl _) (argsL := [(.int 1)]) (rest := []) (lenOf pd_323 rfl) rfl (by show 2 * 0 + _ ≤ _; exact Nat.le_of_eq rfl) (hb hby d9_42) (fun _ _ => ⟨rfl, e3, (by decide : 0 + 0 ≤ _), (by decide : 0 + 0 ≤ _)⟩)
  dsimp only [Pt.U, Pt.locs, Pt.cells, Pt.slots] at X6 l6 y6 z6 st6 hQ6
  subst y6 z6
  obtain ⟨rfl, N6q, e6⟩ := hQ6
  have N7 : Fr n0 L6 := by rw [l6]; exact Fr.app N4 N6q
  have hs8 : ((own_ch b1).toInt64) < (256 : Int64) := (own_c256 _)
  obtain ⟨T9, h9, X9, e9, E9, A9, D9, -, st9⟩ := newO X6 hx hZ hown (own_w hw (i := 90) rfl) (own_w hw (i := 91) rfl) (own_w hw (i := 55) rfl) e6 (g := (mkF m 142 #[.val (.ref a1), .val (.int 2), .val (.int 1), .val (.long (((2 : Int64) ||| (((own_ch b0).toInt64) <<< ((8 : Int32) &&& 0x3f).toInt64)) ||| (((own_ch b1).toInt64) <<< ((16 : Int32) &&& 0x3f).toInt64))), .second, .val (.long 0), .second, .val (.long 0), .second, .val (.int 2), .val (.long ((own_ch b1).toInt64)), .second, .val (.int 2)] [])) rfl (hb hby d9_142) (by decide) (by decide)
  obtain ⟨bx9, g9⟩ : ∃ z, z = h0.size := ⟨_, rfl⟩
  rw [← g9] at A9 D9 st9
  have g_bx9 : n0 ≤ bx9 := Nat.le_trans Z0 (Nat.le_of_eq g9.symm)
  have sz_bx9 : h0.size ≤ bx9 := Nat.le_trans (Keep.refl h0 [a1]).1 (Nat.le_of_eq g9.symm)
  have ne10 : a1 ≠ bx9 := Nat.ne_of_lt (Nat.lt_of_lt_of_le E_a1.lt (Nat.le_of_eq g9.symm))
  have f12 := O0.ext E9
  have f13 := E_a1.ext E9
  have f14 := F_value_a1.ext E9
  have f15 := F_coder_a1.ext E9
  have f16 := V_bv.ext E9
  have f17 := E_bv.ext E9
  have f18 := F_hash_a1.ext E9
  have f19 := F_hashIsZero_a1.ext E9
  have zs20 : n0 ≤ h9.size := Nat.le_trans Z0 E9.1
  have K21 := (Keep.refl h0 [a1]).ext E9
  have F_name_bx9 : Fld Z h9 bx9 KK "name" "Ljava/lang/String;" .null := D9 (Or.inr (own_w hw (i := 128) rfl)) (ty := (.object KJ)) (by decide)
  have F_hash_bx9 : Fld Z h9 bx9 KK "hash" "I" (.int 0) := D9 (Or.inr (own_w hw (i := 130) rfl)) (ty := .int) (by decide)
  have F_first_bx9 : Fld Z h9 bx9 KK "first" "J" (.long 0) := D9 (Or.inr (own_w hw (i := 132) rfl)) (ty := .long) (by decide)
  have F_second_bx9 : Fld Z h9 bx9 KK "second" "J" (.long 0) := D9 (Or.inr (own_w hw (i := 134) rfl)) (ty := .long) (by decide)
  have F_third_bx9 : Fld Z h9 bx9 KK "third" "J" (.long 0) := D9 (Or.inr (own_w hw (i := 136) rfl)) (ty := .long) (by decide)
  -- pc 148: Interner$Key.hash by rmkh
  obtain ⟨_, _, ⟨T22, L22, ck22, cn22⟩, -, X22, ⟨Lc22, hQ22, l22, y22, z22⟩, st22⟩ := Jvm.LawKit.callS X9 hx (y := (⟨KK, "hash", "(Ljava/lang/String;)I"⟩ : MethodName)) hown (mvT hZ (own_w hw (i := 92) rfl)) (mvT hZ (own_w hw (i := 93) rfl)) (mvT hZ (own_w hw (i := 55) rfl)) (mvT hZ (own_w hw (i := 94) rfl)) (by decide) (backOf (W := 3) (rmkh l Z a0 hw [] a1 bv kb b0 b1 hv zv cz h9 n0 zs20 f12 S_COMPACT_STRINGS hcz f13 f14 f15 f16 f17 f18 f19 hinv g_a1 ne_a1_bv) hZ (own_w hw (i := 94) rfl) (own_w hw (i := 55) rfl) (by decide) (by decide)) (g := (mkF m 148 #[.val (.ref a1), .val (.int 2), .val (.int 1), .val (.long (((2 : Int64) ||| (((own_ch b0).toInt64) <<< ((8 : Int32) &&& 0x3f).toInt64)) ||| (((own_ch b1).toInt64) <<< ((16 : Int32) &&& 0x3f).toInt64))), .second, .val (.long 0), .second, .val (.long 0), .second, .val (.int 2), .val (.long ((own_ch b1).toInt64)), .second, .val (.int 2)] [(.ref a1), (.ref a1), (.ref bx9), (.ref bx9)])) rfl (by rw [hml]; rfl) (argsL := [(.ref a1)]) (rest := [(.ref a1), (.ref bx9), (.ref bx9)]) (lenOf pd_358 rfl) rfl (by show 2 * 0 + _ ≤ _; exact Nat.le_of_eq rfl) (hb hby d9_148) (fun _ _ => ⟨rfl, e9, (by decide : 1 + 0 ≤ _), (by decide : 5 + 0 ≤ _)⟩)
  dsimp only [Pt.U, Pt.locs, Pt.cells, Pt.slots] at X22 l22 y22 z22 st22 hQ22
  subst y22 z22
  obtain ⟨rfl, N22q, K22q, o22_0, o22_1, o22_2, o22_3, o22_4⟩ := hQ22
  have N23 : Fr n0 L22 := by rw [l22]; exact Fr.app N7 N22q
  have f32 := A9.keep K22q
  have f33 := F_name_bx9.keep K22q (ninS (Ne.symm ne10) nin0)
  have f34 := F_hash_bx9.keep K22q (ninS (Ne.symm ne10) nin0)
  have f35 := F_first_bx9.keep K22q (ninS (Ne.symm ne10) nin0)
  have f36 := F_second_bx9.keep K22q (ninS (Ne.symm ne10) nin0)
  have f37 := F_third_bx9.keep K22q (ninS (Ne.symm ne10) nin0)
  have zs38 : n0 ≤ T22.heap.size := Nat.le_trans zs20 K22q.1
  have K39 := K21.trans K22q (allS (Or.inl (List.mem_of_getElem? (i := 0) rfl)) all0)
  -- pc 156: Interner$Key.<init> by rmki
  obtain ⟨_, _, ⟨T40, L40, ck40, cn40⟩, -, X40, ⟨Lc40, hQ40, l40, y40, z40⟩, st40⟩ := X22.specialBack hx (y := (⟨KK, "<init>", "(Ljava/lang/String;IJJJ)V"⟩ : MethodName)) rfl hown (mvT hZ (own_w hw (i := 118) rfl)) (mvT hZ (own_w hw (i := 119) rfl)) (mvT hZ (own_w hw (i := 120) rfl)) (by decide) (backOf (W := 1) (rmki l Z a0 hw [] bx9 a1 (own_hh b0 b1) (((2 : Int64) ||| (((own_ch b0).toInt64) <<< ((8 : Int32) &&& 0x3f).toInt64)) ||| (((own_ch b1).toInt64) <<< ((16 : Int32) &&& 0x3f).toInt64)) (0 : Int64) (0 : Int64) (0 : Int32) (0 : Int64) (0 : Int64) (0 : Int64) T22.heap n0 zs38 f32 f33 f34 f35 f36 f37 g_bx9) hZ (own_w hw (i := 120) rfl) (own_w hw (i := 55) rfl) (by decide) (by decide)) (g := (mkF m 156 #[.val (.ref a1), .val (.int 2), .val (.int 1), .val (.long (((2 : Int64) ||| (((own_ch b0).toInt64) <<< ((8 : Int32) &&& 0x3f).toInt64)) ||| (((own_ch b1).toInt64) <<< ((16 : Int32) &&& 0x3f).toInt64))), .second, .val (.long 0), .second, .val (.long 0), .second, .val (.int 2), .val (.long ((own_ch b1).toInt64)), .second, .val (.int 2)] [(.long 0), (.long 0), (.long (((2 : Int64) ||| (((own_ch b0).toInt64) <<< ((8 : Int32) &&& 0x3f).toInt64)) ||| (((own_ch b1).toInt64) <<< ((16 : Int32) &&& 0x3f).toInt64))), (.int (own_hh b0 b1)), (.ref a1), (.ref bx9), (.ref bx9)])) rfl (by rw [hml]; rfl) (Steps.refl _) (a := bx9) (argsL := [(.ref a1), (.int (own_hh b0 b1)), (.long (((2 : Int64) ||| (((own_ch b0).toInt64) <<< ((8 : Int32) &&& 0x3f).toInt64)) ||| (((own_ch b1).toInt64) <<< ((16 : Int32) &&& 0x3f).toInt64))), (.long 0), (.long 0)]) (rest := [(.ref bx9)]) (lenOf pd_363 rfl) rfl (by show 2 * 0 + _ ≤ _; exact Nat.le_of_eq rfl) (hb hby d9_156) (fun _ _ => ⟨rfl, rfl, (by decide : 1 + 0 ≤ _), (by decide : 5 + 0 ≤ _)⟩)
  dsimp only [Pt.U, Pt.locs, Pt.cells, Pt.slots] at X40 l40 y40 z40 st40 hQ40
  subst y40 z40
  obtain ⟨rfl, N40q, K40q, o40_0, o40_1, o40_2, o40_3, o40_4⟩ := hQ40
  have N41 : Fr n0 L40 := by rw [l40]; exact Fr.app N23 N40q
  have f43 := o22_0.keep K40q
  have f52 := o22_1.keep K40q (ninS ne10 nin0)
  have f53 := o22_2.keep K40q (ninS ne10 nin0)
  have f54 := o22_3.keep K40q (ninS ne10 nin0)
  have f55 := o22_4.keep K40q (ninS ne10 nin0)
  have K57 := K39.trans K40q (allS (Or.inr sz_bx9) all0)
  obtain ⟨fs, hr, hrun, hended, hW, hsame⟩ := X40.leave (v := some (.ref bx9)) (fun h => by rw [Bd.returns] at h; cases h) Bd.notSynchronized
  refine ⟨_, _, pre0 _ ?_, hrun, hended, _, _, rfl, ?_, ⟨_, rfl⟩, hW, hsame.mono (by decide) (by decide)⟩
  · show Steps p.tables e below (s₁.setTop (mkF m 0 #[.val (.ref a1), .unset, .unset, .unset, .unset, .unset, .unset, .unset, .unset, .unset, .unset, .unset, .unset] [])) _
    refine XS.aloadN X0.here hx rfl (hb hby d9_0) rfl rfl ?_
    refine st1.trans ?_
    refine XS.istoreN X1.here hx rfl (hb hby d9_4) rfl (l' := #[.val (.ref a1), .val (.int 2), .unset, .unset, .unset, .unset, .unset, .unset, .unset, .unset, .unset, .unset, .unset]) rfl ?_
    refine XS.iloadN X1.here hx rfl (hb hby d9_5) rfl ?_
    refine XS.bipush X1.here hx rfl (hb hby d9_6) ?_
    show Steps p.tables e below (T1.setTop (mkF m 8 #[.val (.ref a1), .val (.int 2), .unset, .unset, .unset, .unset, .unset, .unset, .unset, .unset, .unset, .unset, .unset] [(.int 23), (.int 2)])) _
    refine XS.icmpNo X1.here hx rfl (hb hby d9_8) rfl (flt (by decide : ¬ ((23 : Int32) < (2 : Int32)))).2.2.1 ?_
    refine XS.iconst X1.here hx rfl (hb hby d9_11) ?_
    refine XS.goto X1.here hx rfl (pc0 := 12) (pc' := 16) rfl (hb hby d9_12) (by decide) (by decide) ?_
    show Steps p.tables e below (T1.setTop (mkF m 16 #[.val (.ref a1), .val (.int 2), .unset, .unset, .unset, .unset, .unset, .unset, .unset, .unset, .unset, .unset, .unset] [(.int 1)])) _
    refine XS.istoreN X1.here hx rfl (hb hby d9_16) rfl (l' := #[.val (.ref a1), .val (.int 2), .val (.int 1), .unset, .unset, .unset, .unset, .unset, .unset, .unset, .unset, .unset, .unset]) rfl ?_
    refine XS.iloadN X1.here hx rfl (hb hby d9_17) rfl ?_
    refine XS.i2l X1.here hx rfl (hb hby d9_18) rfl ?_
    refine XS.lstoreN X1.here hx rfl (hb hby d9_19) rfl (l' := #[.val (.ref a1), .val (.int 2), .val (.int 1), .val (.long 2), .second, .unset, .unset, .unset, .unset, .unset, .unset, .unset, .unset]) rfl ?_
    refine XS.lconst X1.here hx rfl (hb hby d9_20) ?_
    refine XS.lstore X1.here hx rfl (hb hby d9_21) rfl (l' := #[.val (.ref a1), .val (.int 2), .val (.int 1), .val (.long 2), .second, .val (.long 0), .second, .unset, .unset, .unset, .unset, .unset, .unset]) rfl ?_
    refine XS.lconst X1.here hx rfl (hb hby d9_23) ?_
    refine XS.lstore X1.here hx rfl (hb hby d9_24) rfl (l' := #[.val (.ref a1), .val (.int 2), .val (.int 1), .val (.long 2), .second, .val (.long 0), .second, .val (.long 0), .second, .unset, .unset, .unset, .unset]) rfl ?_
    show Steps p.tables e below (T1.setTop (mkF m 26 #[.val (.ref a1), .val (.int 2), .val (.int 1), .val (.long 2), .second, .val (.long 0), .second, .val (.long 0), .second, .unset, .unset, .unset, .unset] [])) _
    refine XS.iconst X1.here hx rfl (hb hby d9_26) ?_
    refine XS.istore X1.here hx rfl (hb hby d9_27) rfl (l' := #[.val (.ref a1), .val (.int 2), .val (.int 1), .val (.long 2), .second, .val (.long 0), .second, .val (.long 0), .second, .val (.int 0), .unset, .unset, .unset]) rfl ?_
    refine XS.iloadN X1.here hx rfl (hb hby d9_29) rfl ?_
    show Steps p.tables e below (T1.setTop (mkF m 30 #[.val (.ref a1), .val (.int 2), .val (.int 1), .val (.long 2), .second, .val (.long 0), .second, .val (.long 0), .second, .val (.int 0), .unset, .unset, .unset] [(.int 1)])) _
    refine XS.ifNo X1.here hx rfl (hb hby d9_30) rfl ((if0 _ _).trans (feq (by decide : ¬ ((1 : Int32) = (0 : Int32)))).1) ?_
    refine XS.iload X1.here hx rfl (hb hby d9_33) rfl ?_
    refine XS.iloadN X1.here hx rfl (hb hby d9_35) rfl ?_
    show Steps p.tables e below (T1.setTop (mkF m 36 #[.val (.ref a1), .val (.int 2), .val (.int 1), .val (.long 2), .second, .val (.long 0), .second, .val (.long 0), .second, .val (.int 0), .unset, .unset, .unset] [(.int 2), (.int 0)])) _
    refine XS.icmpNo X1.here hx rfl (hb hby d9_36) rfl (tlt (by decide : (0 : Int32) < (2 : Int32))).2.1 ?_
    refine XS.aloadN X1.here hx rfl (hb hby d9_39) rfl rfl ?_
    show Steps p.tables e below (T1.setTop (mkF m 40 #[.val (.ref a1), .val (.int 2), .val (.int 1), .val (.long 2), .second, .val (.long 0), .second, .val (.long 0), .second, .val (.int 0), .unset, .unset, .unset] [(.ref a1)])) _
    refine XS.iload X1.here hx rfl (hb hby d9_40) rfl ?_
    refine st3.trans ?_
    refine XS.i2l X3.here hx rfl (hb hby d9_45) rfl ?_
    refine XS.lstore X3.here hx rfl (hb hby d9_46) rfl (l' := #[.val (.ref a1), .val (.int 2), .val (.int 1), .val (.long 2), .second, .val (.long 0), .second, .val (.long 0), .second, .val (.int 0), .val (.long ((own_ch b0).toInt64)), .second, .unset]) rfl ?_
    refine XS.iload X3.here hx rfl (hb hby d9_48) rfl ?_
    refine XS.iconst X3.here hx rfl (hb hby d9_50) ?_
    refine XS.iadd X3.here hx rfl (hb hby d9_51) rfl ?_
    refine XS.istore X3.here hx rfl (hb hby d9_52) rfl (l' := #[.val (.ref a1), .val (.int 2), .val (.int 1), .val (.long 2), .second, .val (.long 0), .second, .val (.long 0), .second, .val (.int 0), .val (.long ((own_ch b0).toInt64)), .second, .val (.int 1)]) rfl ?_
    show Steps p.tables e below (T3.setTop (mkF m 54 #[.val (.ref a1), .val (.int 2), .val (.int 1), .val (.long 2), .second, .val (.long 0), .second, .val (.long 0), .second, .val (.int 0), .val (.long ((own_ch b0).toInt64)), .second, .val (.int 1)] [])) _
    refine XS.iload X3.here hx rfl (hb hby d9_54) rfl ?_
    refine XS.bipush X3.here hx rfl (hb hby d9_56) ?_
    show Steps p.tables e below (T3.setTop (mkF m 58 #[.val (.ref a1), .val (.int 2), .val (.int 1), .val (.long 2), .second, .val (.long 0), .second, .val (.long 0), .second, .val (.int 0), .val (.long ((own_ch b0).toInt64)), .second, .val (.int 1)] [(.int 8), (.int 1)])) _
    refine XS.icmpNo X3.here hx rfl (hb hby d9_58) rfl (tlt (by decide : (1 : Int32) < (8 : Int32))).2.1 ?_
    refine XS.lloadN X3.here hx rfl (hb hby d9_61) rfl ?_
    refine XS.lload X3.here hx rfl (hb hby d9_62) rfl ?_
    refine XS.bipush X3.here hx rfl (hb hby d9_64) ?_
    refine XS.iload X3.here hx rfl (hb hby d9_66) rfl ?_
    refine XS.imul X3.here hx rfl (hb hby d9_68) rfl ?_
    show Steps p.tables e below (T3.setTop (mkF m 69 #[.val (.ref a1), .val (.int 2), .val (.int 1), .val (.long 2), .second, .val (.long 0), .second, .val (.long 0), .second, .val (.int 0), .val (.long ((own_ch b0).toInt64)), .second, .val (.int 1)] [(.int 8), (.long ((own_ch b0).toInt64)), (.long 2)])) _
    refine XS.lshl X3.here hx rfl (hb hby d9_69) rfl ?_
    refine XS.lor X3.here hx rfl (hb hby d9_70) rfl ?_
    refine XS.lstoreN X3.here hx rfl (hb hby d9_71) rfl (l' := #[.val (.ref a1), .val (.int 2), .val (.int 1), .val (.long ((2 : Int64) ||| (((own_ch b0).toInt64) <<< ((8 : Int32) &&& 0x3f).toInt64))), .second, .val (.long 0), .second, .val (.long 0), .second, .val (.int 0), .val (.long ((own_ch b0).toInt64)), .second, .val (.int 1)]) rfl ?_
    refine XS.goto X3.here hx rfl (pc0 := 72) (pc' := 117) rfl (hb hby d9_72) (by decide) (by decide) ?_
    refine XS.lload X3.here hx rfl (hb hby d9_117) rfl ?_
    refine X3.ldc2Long hx hown (mvT hZ (own_w hw (i := 89) rfl)) (g := (mkF m 119 #[.val (.ref a1), .val (.int 2), .val (.int 1), .val (.long ((2 : Int64) ||| (((own_ch b0).toInt64) <<< ((8 : Int32) &&& 0x3f).toInt64))), .second, .val (.long 0), .second, .val (.long 0), .second, .val (.int 0), .val (.long ((own_ch b0).toInt64)), .second, .val (.int 1)] [(.long ((own_ch b0).toInt64))])) rfl (hb hby d9_119) _ ?_
    refine XS.lcmp X3.here hx rfl (hb hby d9_122) rfl ?_
    show Steps p.tables e below (T3.setTop (mkF m 123 #[.val (.ref a1), .val (.int 2), .val (.int 1), .val (.long ((2 : Int64) ||| (((own_ch b0).toInt64) <<< ((8 : Int32) &&& 0x3f).toInt64))), .second, .val (.long 0), .second, .val (.long 0), .second, .val (.int 0), .val (.long ((own_ch b0).toInt64)), .second, .val (.int 1)] [(.int (lcmpW ((own_ch b0).toInt64) (256 : Int64)))])) _
    refine XS.ifNo X3.here hx rfl (hb hby d9_123) rfl ((if0 _ _).trans (tlt ((lw_lt _ _).mpr hs5)).2.1) ?_
    show Steps p.tables e below (T3.setTop (mkF m 126 #[.val (.ref a1), .val (.int 2), .val (.int 1), .val (.long ((2 : Int64) ||| (((own_ch b0).toInt64) <<< ((8 : Int32) &&& 0x3f).toInt64))), .second, .val (.long 0), .second, .val (.long 0), .second, .val (.int 0), .val (.long ((own_ch b0).toInt64)), .second, .val (.int 1)] [])) _
    refine XS.iconst X3.here hx rfl (hb hby d9_126) ?_
    refine XS.goto X3.here hx rfl (pc0 := 127) (pc' := 131) rfl (hb hby d9_127) (by decide) (by decide) ?_
    refine XS.istoreN X3.here hx rfl (hb hby d9_131) rfl (l' := #[.val (.ref a1), .val (.int 2), .val (.int 1), .val (.long ((2 : Int64) ||| (((own_ch b0).toInt64) <<< ((8 : Int32) &&& 0x3f).toInt64))), .second, .val (.long 0), .second, .val (.long 0), .second, .val (.int 0), .val (.long ((own_ch b0).toInt64)), .second, .val (.int 1)]) rfl ?_
    refine XS.iinc X3.here hx rfl (hb hby d9_132) rfl (l' := #[.val (.ref a1), .val (.int 2), .val (.int 1), .val (.long ((2 : Int64) ||| (((own_ch b0).toInt64) <<< ((8 : Int32) &&& 0x3f).toInt64))), .second, .val (.long 0), .second, .val (.long 0), .second, .val (.int 1), .val (.long ((own_ch b0).toInt64)), .second, .val (.int 1)]) rfl ?_
    refine XS.goto X3.here hx rfl (pc0 := 135) (pc' := 29) rfl (hb hby d9_135) (by decide) (by decide) ?_
    refine XS.iloadN X3.here hx rfl (hb hby d9_29) rfl ?_
    show Steps p.tables e below (T3.setTop (mkF m 30 #[.val (.ref a1), .val (.int 2), .val (.int 1), .val (.long ((2 : Int64) ||| (((own_ch b0).toInt64) <<< ((8 : Int32) &&& 0x3f).toInt64))), .second, .val (.long 0), .second, .val (.long 0), .second, .val (.int 1), .val (.long ((own_ch b0).toInt64)), .second, .val (.int 1)] [(.int 1)])) _
    refine XS.ifNo X3.here hx rfl (hb hby d9_30) rfl ((if0 _ _).trans (feq (by decide : ¬ ((1 : Int32) = (0 : Int32)))).1) ?_
    refine XS.iload X3.here hx rfl (hb hby d9_33) rfl ?_
    show Steps p.tables e below (T3.setTop (mkF m 35 #[.val (.ref a1), .val (.int 2), .val (.int 1), .val (.long ((2 : Int64) ||| (((own_ch b0).toInt64) <<< ((8 : Int32) &&& 0x3f).toInt64))), .second, .val (.long 0), .second, .val (.long 0), .second, .val (.int 1), .val (.long ((own_ch b0).toInt64)), .second, .val (.int 1)] [(.int 1)])) _
    refine XS.iloadN X3.here hx rfl (hb hby d9_35) rfl ?_
    show Steps p.tables e below (T3.setTop (mkF m 36 #[.val (.ref a1), .val (.int 2), .val (.int 1), .val (.long ((2 : Int64) ||| (((own_ch b0).toInt64) <<< ((8 : Int32) &&& 0x3f).toInt64))), .second, .val (.long 0), .second, .val (.long 0), .second, .val (.int 1), .val (.long ((own_ch b0).toInt64)), .second, .val (.int 1)] [(.int 2), (.int 1)])) _
    refine XS.icmpNo X3.here hx rfl (hb hby d9_36) rfl (tlt (by decide : (1 : Int32) < (2 : Int32))).2.1 ?_
    refine XS.aloadN X3.here hx rfl (hb hby d9_39) rfl rfl ?_
    refine XS.iload X3.here hx rfl (hb hby d9_40) rfl ?_
    refine st6.trans ?_
    refine XS.i2l X6.here hx rfl (hb hby d9_45) rfl ?_
    refine XS.lstore X6.here hx rfl (hb hby d9_46) rfl (l' := #[.val (.ref a1), .val (.int 2), .val (.int 1), .val (.long ((2 : Int64) ||| (((own_ch b0).toInt64) <<< ((8 : Int32) &&& 0x3f).toInt64))), .second, .val (.long 0), .second, .val (.long 0), .second, .val (.int 1), .val (.long ((own_ch b1).toInt64)), .second, .val (.int 1)]) rfl ?_
    refine XS.iload X6.here hx rfl (hb hby d9_48) rfl ?_
    show Steps p.tables e below (T6.setTop (mkF m 50 #[.val (.ref a1), .val (.int 2), .val (.int 1), .val (.long ((2 : Int64) ||| (((own_ch b0).toInt64) <<< ((8 : Int32) &&& 0x3f).toInt64))), .second, .val (.long 0), .second, .val (.long 0), .second, .val (.int 1), .val (.long ((own_ch b1).toInt64)), .second, .val (.int 1)] [(.int 1)])) _
    refine XS.iconst X6.here hx rfl (hb hby d9_50) ?_
    refine XS.iadd X6.here hx rfl (hb hby d9_51) rfl ?_
    refine XS.istore X6.here hx rfl (hb hby d9_52) rfl (l' := #[.val (.ref a1), .val (.int 2), .val (.int 1), .val (.long ((2 : Int64) ||| (((own_ch b0).toInt64) <<< ((8 : Int32) &&& 0x3f).toInt64))), .second, .val (.long 0), .second, .val (.long 0), .second, .val (.int 1), .val (.long ((own_ch b1).toInt64)), .second, .val (.int 2)]) rfl ?_
    refine XS.iload X6.here hx rfl (hb hby d9_54) rfl ?_
    refine XS.bipush X6.here hx rfl (hb hby d9_56) ?_
    show Steps p.tables e below (T6.setTop (mkF m 58 #[.val (.ref a1), .val (.int 2), .val (.int 1), .val (.long ((2 : Int64) ||| (((own_ch b0).toInt64) <<< ((8 : Int32) &&& 0x3f).toInt64))), .second, .val (.long 0), .second, .val (.long 0), .second, .val (.int 1), .val (.long ((own_ch b1).toInt64)), .second, .val (.int 2)] [(.int 8), (.int 2)])) _
    refine XS.icmpNo X6.here hx rfl (hb hby d9_58) rfl (tlt (by decide : (2 : Int32) < (8 : Int32))).2.1 ?_
    refine XS.lloadN X6.here hx rfl (hb hby d9_61) rfl ?_
    refine XS.lload X6.here hx rfl (hb hby d9_62) rfl ?_
    show Steps p.tables e below (T6.setTop (mkF m 64 #[.val (.ref a1), .val (.int 2), .val (.int 1), .val (.long ((2 : Int64) ||| (((own_ch b0).toInt64) <<< ((8 : Int32) &&& 0x3f).toInt64))), .second, .val (.long 0), .second, .val (.long 0), .second, .val (.int 1), .val (.long ((own_ch b1).toInt64)), .second, .val (.int 2)] [(.long ((own_ch b1).toInt64)), (.long ((2 : Int64) ||| (((own_ch b0).toInt64) <<< ((8 : Int32) &&& 0x3f).toInt64)))])) _
    refine XS.bipush X6.here hx rfl (hb hby d9_64) ?_
    refine XS.iload X6.here hx rfl (hb hby d9_66) rfl ?_
    refine XS.imul X6.here hx rfl (hb hby d9_68) rfl ?_
    refine XS.lshl X6.here hx rfl (hb hby d9_69) rfl ?_
    refine XS.lor X6.here hx rfl (hb hby d9_70) rfl ?_
    refine XS.lstoreN X6.here hx rfl (hb hby d9_71) rfl (l' := #[.val (.ref a1), .val (.int 2), .val (.int 1), .val (.long (((2 : Int64) ||| (((own_ch b0).toInt64) <<< ((8 : Int32) &&& 0x3f).toInt64)) ||| (((own_ch b1).toInt64) <<< ((16 : Int32) &&& 0x3f).toInt64))), .second, .val (.long 0), .second, .val (.long 0), .second, .val (.int 1), .val (.long ((own_ch b1).toInt64)), .second, .val (.int 2)]) rfl ?_
    refine XS.goto X6.here hx rfl (pc0 := 72) (pc' := 117) rfl (hb hby d9_72) (by decide) (by decide) ?_
    refine XS.lload X6.here hx rfl (hb hby d9_117) rfl ?_
    show Steps p.tables e below (T6.setTop (mkF m 119 #[.val (.ref a1), .val (.int 2), .val (.int 1), .val (.long (((2 : Int64) ||| (((own_ch b0).toInt64) <<< ((8 : Int32) &&& 0x3f).toInt64)) ||| (((own_ch b1).toInt64) <<< ((16 : Int32) &&& 0x3f).toInt64))), .second, .val (.long 0), .second, .val (.long 0), .second, .val (.int 1), .val (.long ((own_ch b1).toInt64)), .second, .val (.int 2)] [(.long ((own_ch b1).toInt64))])) _
    refine X6.ldc2Long hx hown (mvT hZ (own_w hw (i := 89) rfl)) (g := (mkF m 119 #[.val (.ref a1), .val (.int 2), .val (.int 1), .val (.long (((2 : Int64) ||| (((own_ch b0).toInt64) <<< ((8 : Int32) &&& 0x3f).toInt64)) ||| (((own_ch b1).toInt64) <<< ((16 : Int32) &&& 0x3f).toInt64))), .second, .val (.long 0), .second, .val (.long 0), .second, .val (.int 1), .val (.long ((own_ch b1).toInt64)), .second, .val (.int 2)] [(.long ((own_ch b1).toInt64))])) rfl (hb hby d9_119) _ ?_
    refine XS.lcmp X6.here hx rfl (hb hby d9_122) rfl ?_
    show Steps p.tables e below (T6.setTop (mkF m 123 #[.val (.ref a1), .val (.int 2), .val (.int 1), .val (.long (((2 : Int64) ||| (((own_ch b0).toInt64) <<< ((8 : Int32) &&& 0x3f).toInt64)) ||| (((own_ch b1).toInt64) <<< ((16 : Int32) &&& 0x3f).toInt64))), .second, .val (.long 0), .second, .val (.long 0), .second, .val (.int 1), .val (.long ((own_ch b1).toInt64)), .second, .val (.int 2)] [(.int (lcmpW ((own_ch b1).toInt64) (256 : Int64)))])) _
    refine XS.ifNo X6.here hx rfl (hb hby d9_123) rfl ((if0 _ _).trans (tlt ((lw_lt _ _).mpr hs8)).2.1) ?_
    refine XS.iconst X6.here hx rfl (hb hby d9_126) ?_
    refine XS.goto X6.here hx rfl (pc0 := 127) (pc' := 131) rfl (hb hby d9_127) (by decide) (by decide) ?_
    refine XS.istoreN X6.here hx rfl (hb hby d9_131) rfl (l' := #[.val (.ref a1), .val (.int 2), .val (.int 1), .val (.long (((2 : Int64) ||| (((own_ch b0).toInt64) <<< ((8 : Int32) &&& 0x3f).toInt64)) ||| (((own_ch b1).toInt64) <<< ((16 : Int32) &&& 0x3f).toInt64))), .second, .val (.long 0), .second, .val (.long 0), .second, .val (.int 1), .val (.long ((own_ch b1).toInt64)), .second, .val (.int 2)]) rfl ?_
    refine XS.iinc X6.here hx rfl (hb hby d9_132) rfl (l' := #[.val (.ref a1), .val (.int 2), .val (.int 1), .val (.long (((2 : Int64) ||| (((own_ch b0).toInt64) <<< ((8 : Int32) &&& 0x3f).toInt64)) ||| (((own_ch b1).toInt64) <<< ((16 : Int32) &&& 0x3f).toInt64))), .second, .val (.long 0), .second, .val (.long 0), .second, .val (.int 2), .val (.long ((own_ch b1).toInt64)), .second, .val (.int 2)]) rfl ?_
    refine XS.goto X6.here hx rfl (pc0 := 135) (pc' := 29) rfl (hb hby d9_135) (by decide) (by decide) ?_
    show Steps p.tables e below (T6.setTop (mkF m 29 #[.val (.ref a1), .val (.int 2), .val (.int 1), .val (.long (((2 : Int64) ||| (((own_ch b0).toInt64) <<< ((8 : Int32) &&& 0x3f).toInt64)) ||| (((own_ch b1).toInt64) <<< ((16 : Int32) &&& 0x3f).toInt64))), .second, .val (.long 0), .second, .val (.long 0), .second, .val (.int 2), .val (.long ((own_ch b1).toInt64)), .second, .val (.int 2)] [])) _
    refine XS.iloadN X6.here hx rfl (hb hby d9_29) rfl ?_
    show Steps p.tables e below (T6.setTop (mkF m 30 #[.val (.ref a1), .val (.int 2), .val (.int 1), .val (.long (((2 : Int64) ||| (((own_ch b0).toInt64) <<< ((8 : Int32) &&& 0x3f).toInt64)) ||| (((own_ch b1).toInt64) <<< ((16 : Int32) &&& 0x3f).toInt64))), .second, .val (.long 0), .second, .val (.long 0), .second, .val (.int 2), .val (.long ((own_ch b1).toInt64)), .second, .val (.int 2)] [(.int 1)])) _
    refine XS.ifNo X6.here hx rfl (hb hby d9_30) rfl ((if0 _ _).trans (feq (by decide : ¬ ((1 : Int32) = (0 : Int32)))).1) ?_
    refine XS.iload X6.here hx rfl (hb hby d9_33) rfl ?_
    refine XS.iloadN X6.here hx rfl (hb hby d9_35) rfl ?_
    show Steps p.tables e below (T6.setTop (mkF m 36 #[.val (.ref a1), .val (.int 2), .val (.int 1), .val (.long (((2 : Int64) ||| (((own_ch b0).toInt64) <<< ((8 : Int32) &&& 0x3f).toInt64)) ||| (((own_ch b1).toInt64) <<< ((16 : Int32) &&& 0x3f).toInt64))), .second, .val (.long 0), .second, .val (.long 0), .second, .val (.int 2), .val (.long ((own_ch b1).toInt64)), .second, .val (.int 2)] [(.int 2), (.int 2)])) _
    refine XS.icmpYes X6.here hx rfl (pc0 := 36) (pc' := 138) rfl (hb hby d9_36) rfl (flt (by decide : ¬ ((2 : Int32) < (2 : Int32)))).2.1 (by decide) (by decide) ?_
    refine XS.iloadN X6.here hx rfl (hb hby d9_138) rfl ?_
    show Steps p.tables e below (T6.setTop (mkF m 139 #[.val (.ref a1), .val (.int 2), .val (.int 1), .val (.long (((2 : Int64) ||| (((own_ch b0).toInt64) <<< ((8 : Int32) &&& 0x3f).toInt64)) ||| (((own_ch b1).toInt64) <<< ((16 : Int32) &&& 0x3f).toInt64))), .second, .val (.long 0), .second, .val (.long 0), .second, .val (.int 2), .val (.long ((own_ch b1).toInt64)), .second, .val (.int 2)] [(.int 1)])) _
    refine XS.ifNo X6.here hx rfl (hb hby d9_139) rfl ((if0 _ _).trans (feq (by decide : ¬ ((1 : Int32) = (0 : Int32)))).1) ?_
    refine st9 _ ?_
    show Steps p.tables e below (T9.setTop (mkF m 145 #[.val (.ref a1), .val (.int 2), .val (.int 1), .val (.long (((2 : Int64) ||| (((own_ch b0).toInt64) <<< ((8 : Int32) &&& 0x3f).toInt64)) ||| (((own_ch b1).toInt64) <<< ((16 : Int32) &&& 0x3f).toInt64))), .second, .val (.long 0), .second, .val (.long 0), .second, .val (.int 2), .val (.long ((own_ch b1).toInt64)), .second, .val (.int 2)] [(.ref bx9)])) _
    refine XS.dup X9.here hx rfl (hb hby d9_145) rfl rfl ?_
    refine XS.aloadN X9.here hx rfl (hb hby d9_146) rfl rfl ?_
    refine XS.aloadN X9.here hx rfl (hb hby d9_147) rfl rfl ?_
    refine st22 _ ?_
    refine XS.lloadN X22.here hx rfl (hb hby d9_151) rfl ?_
    refine XS.lload X22.here hx rfl (hb hby d9_152) rfl ?_
    refine XS.lload X22.here hx rfl (hb hby d9_154) rfl ?_
    refine st40.trans ?_
    show Steps p.tables e below (T40.setTop (mkF m 159 #[.val (.ref a1), .val (.int 2), .val (.int 1), .val (.long (((2 : Int64) ||| (((own_ch b0).toInt64) <<< ((8 : Int32) &&& 0x3f).toInt64)) ||| (((own_ch b1).toInt64) <<< ((16 : Int32) &&& 0x3f).toInt64))), .second, .val (.long 0), .second, .val (.long 0), .second, .val (.int 2), .val (.long ((own_ch b1).toInt64)), .second, .val (.int 2)] [(.ref bx9)])) _
    refine XS.goto X40.here hx rfl (pc0 := 159) (pc' := 179) rfl (hb hby d9_159) (by decide) (by decide) ?_
    exact retOut X40 hx (t := (.object KK)) Bd.returns rfl (Or.inr (Or.inr (Or.inr (Or.inr ⟨rfl, rfl, rfl⟩)))) (hb hby d9_179) hr
  · show Qko Z a1 bv kb b0 b1 hv zv cz fmt h0 n0 _ T40.heap _
    exact ⟨bx9, (0 : ClassId), rfl, N41, K57, g_bx9, sz_bx9, f43, f52, f53, f54, f55, o40_0, o40_1, o40_2, o40_3, o40_4⟩
theorem d25_0 : decode prog_11_method_9_code 0 = .ok (.aload_n 0, 1) := by decide +kernel
theorem d25_1 : decode prog_11_method_9_code 1 = .ok (.getfield 13, 3) := by decide +kernel
theorem d25_4 : decode prog_11_method_9_code 4 = .ok (.ireturn, 1) := by decide +kernel
theorem ef_gh (m : MethodId) (x0 : Addr) : entryFrame m #[(.ref x0)] 1 = mkF m 0 #[.val (.ref x0)] [] := by first | (simp [entryFrame, mkF, argsToLocals, Value.category]; done) | rfl
abbrev R_gh : Room := { frames := 0, cells := 0, slots := 0, locals := 0 }
def Qgh (Z : State) (a1 : Addr) (hu : Int32) (h0 : Heap) (n0 : Nat) (v : Option Value) (h : Heap) (L : List Loc) : Prop := v = some (.int hu) ∧ Fr n0 L ∧ h = h0
set_option maxRecDepth 65536 in
set_option maxHeartbeats 40000000 in
theorem rmgh (l : Launch) (Z : State) (a0 : Array Value) (hw : ∀ d ∈ tables_1, d.before a0 Z = true) (ws : List Jvm.Cond) (a1 : Addr) (hu : Int32) (h0 : Heap) (n0 : Nat) (Z0 : n0 ≤ h0.size) (F_hash_a1 : Fld Z h0 a1 KK "hash" "I" (.int hu)) :
    MetFree l (⟨KK, "hash", "()I"⟩ : MethodName) (head1 (Jvm.Cond.code (⟨KK, "hash", "()I"⟩ : MethodName) prog_11_method_9_code 1 (some .int) :: ws) R_gh) (fun a U => a = #[(.ref a1)] ∧ Z.Warmed39 U.vm ∧ U.heap = h0) (fun _ _ _ _ _ => True) (fun _ U o U' => ∃ v L, o = .returned v ∧ Qgh Z a1 hu h0 n0 v U'.heap L ∧ FrameEnd U o U' L R_gh.cells R_gh.slots) := by
  refine MetFree.of_bodySF (plainFor_of_name pn_227) hisR ?_
  intro p e s m args below meth c s₁ Bd hml0 hP hK
  obtain ⟨rfl, hZ, hh⟩ := hP
  have hx := Bd.exec
  have hby := Bd.bytes
  have hml : c.maxLocals = 1 := hml0
  have hown : s.vm.findClass KK = some m.cls := findClass_of_methodNamed Bd.named
  have hnm := (name_of_methodNamed Bd.named Bd.method).1
  have X0 : Stand p l e R_gh s m #[(.ref a1)] below meth c s₁ [] 0 0 := Stand.of_body Bd
  have e0 : s₁.heap = h0 := by rw [← hh, Bd.state]; rfl
  have N0 := Fr.nil n0
  have pre0 : ∀ t, Steps p.tables e below (s₁.setTop (mkF m 0 #[.val (.ref a1)] [])) t → Steps p.tables e below (s₁.setTop (entryFrame m #[(.ref a1)] 1)) t := fun t k => castTop (ef_gh m a1) k
  obtain ⟨T1, X1, e1, st1⟩ := getF X0 hx hZ hown (host := "") (Or.inl (own_w hw (i := 129) rfl)) Via.refl e0 F_hash_a1 (g := (mkF m 1 #[.val (.ref a1)] [(.ref a1)])) rfl rfl (hb hby d25_1)
  obtain ⟨fs, hr, hrun, hended, hW, hsame⟩ := X1.leave (v := some (.int hu)) (fun h => by rw [Bd.returns] at h; cases h) Bd.notSynchronized
  refine ⟨_, _, pre0 _ ?_, hrun, hended, _, _, rfl, ?_, ⟨_, rfl⟩, hW, hsame.mono (by decide) (by decide)⟩
  · show Steps p.tables e below (s₁.setTop (mkF m 0 #[.val (.ref a1)] [])) _
    refine XS.aloadN X0.here hx rfl (hb hby d25_0) rfl rfl ?_
    refine st1 _ ?_
    exact retI X1 hx Bd.returns (hb hby d25_4) hr
  · show Qgh Z a1 hu h0 n0 _ T1.heap _
    rw [e1]
    exact ⟨rfl, N0, rfl⟩
theorem d30_0 : decode prog_11_method_10_code 0 = .ok (.aload_n 0, 1) := by decide +kernel
theorem d30_1 : decode prog_11_method_10_code 1 = .ok (.getfield 17, 3) := by decide +kernel
theorem d30_4 : decode prog_11_method_10_code 4 = .ok (.lreturn, 1) := by decide +kernel
theorem ef_gk1 (m : MethodId) (x0 : Addr) : entryFrame m #[(.ref x0)] 1 = mkF m 0 #[.val (.ref x0)] [] := by first | (simp [entryFrame, mkF, argsToLocals, Value.category]; done) | rfl
abbrev R_gk1 : Room := { frames := 0, cells := 0, slots := 0, locals := 0 }
def Qgk1 (Z : State) (a1 : Addr) (k1 : Int64) (h0 : Heap) (n0 : Nat) (v : Option Value) (h : Heap) (L : List Loc) : Prop := v = some (.long k1) ∧ Fr n0 L ∧ h = h0
set_option maxRecDepth 65536 in
set_option maxHeartbeats 40000000 in
theorem rmgk1 (l : Launch) (Z : State) (a0 : Array Value) (hw : ∀ d ∈ tables_1, d.before a0 Z = true) (ws : List Jvm.Cond) (a1 : Addr) (k1 : Int64) (h0 : Heap) (n0 : Nat) (Z0 : n0 ≤ h0.size) (F_first_a1 : Fld Z h0 a1 KK "first" "J" (.long k1)) :
    MetFree l (⟨KK, "first", "()J"⟩ : MethodName) (head1 (Jvm.Cond.code (⟨KK, "first", "()J"⟩ : MethodName) prog_11_method_10_code 1 (some .long) :: ws) R_gk1) (fun a U => a = #[(.ref a1)] ∧ Z.Warmed39 U.vm ∧ U.heap = h0) (fun _ _ _ _ _ => True) (fun _ U o U' => ∃ v L, o = .returned v ∧ Qgk1 Z a1 k1 h0 n0 v U'.heap L ∧ FrameEnd U o U' L R_gk1.cells R_gk1.slots) := by
  refine MetFree.of_bodySF (plainFor_of_name pn_227) hisR ?_
  intro p e s m args below meth c s₁ Bd hml0 hP hK
  obtain ⟨rfl, hZ, hh⟩ := hP
  have hx := Bd.exec
  have hby := Bd.bytes
  have hml : c.maxLocals = 1 := hml0
  have hown : s.vm.findClass KK = some m.cls := findClass_of_methodNamed Bd.named
  have hnm := (name_of_methodNamed Bd.named Bd.method).1
  have X0 : Stand p l e R_gk1 s m #[(.ref a1)] below meth c s₁ [] 0 0 := Stand.of_body Bd
  have e0 : s₁.heap = h0 := by rw [← hh, Bd.state]; rfl
  have N0 := Fr.nil n0
  have pre0 : ∀ t, Steps p.tables e below (s₁.setTop (mkF m 0 #[.val (.ref a1)] [])) t → Steps p.tables e below (s₁.setTop (entryFrame m #[(.ref a1)] 1)) t := fun t k => castTop (ef_gk1 m a1) k
  obtain ⟨T1, X1, e1, st1⟩ := getF X0 hx hZ hown (host := "") (Or.inl (own_w hw (i := 131) rfl)) Via.refl e0 F_first_a1 (g := (mkF m 1 #[.val (.ref a1)] [(.ref a1)])) rfl rfl (hb hby d30_1)
  obtain ⟨fs, hr, hrun, hended, hW, hsame⟩ := X1.leave (v := some (.long k1)) (fun h => by rw [Bd.returns] at h; cases h) Bd.notSynchronized
  refine ⟨_, _, pre0 _ ?_, hrun, hended, _, _, rfl, ?_, ⟨_, rfl⟩, hW, hsame.mono (by decide) (by decide)⟩
  · show Steps p.tables e below (s₁.setTop (mkF m 0 #[.val (.ref a1)] [])) _
    refine XS.aloadN X0.here hx rfl (hb hby d30_0) rfl rfl ?_
    refine st1 _ ?_
    exact retOut X1 hx (t := .long) Bd.returns rfl (Or.inr (Or.inl ⟨rfl, rfl, _, rfl⟩)) (hb hby d30_4) hr
  · show Qgk1 Z a1 k1 h0 n0 _ T1.heap _
    rw [e1]
    exact ⟨rfl, N0, rfl⟩
theorem d31_0 : decode prog_11_method_11_code 0 = .ok (.aload_n 0, 1) := by decide +kernel
theorem d31_1 : decode prog_11_method_11_code 1 = .ok (.getfield 21, 3) := by decide +kernel
theorem d31_4 : decode prog_11_method_11_code 4 = .ok (.lreturn, 1) := by decide +kernel
theorem ef_gk2 (m : MethodId) (x0 : Addr) : entryFrame m #[(.ref x0)] 1 = mkF m 0 #[.val (.ref x0)] [] := by first | (simp [entryFrame, mkF, argsToLocals, Value.category]; done) | rfl
abbrev R_gk2 : Room := { frames := 0, cells := 0, slots := 0, locals := 0 }
def Qgk2 (Z : State) (a1 : Addr) (k2 : Int64) (h0 : Heap) (n0 : Nat) (v : Option Value) (h : Heap) (L : List Loc) : Prop := v = some (.long k2) ∧ Fr n0 L ∧ h = h0
set_option maxRecDepth 65536 in
set_option maxHeartbeats 40000000 in
theorem rmgk2 (l : Launch) (Z : State) (a0 : Array Value) (hw : ∀ d ∈ tables_1, d.before a0 Z = true) (ws : List Jvm.Cond) (a1 : Addr) (k2 : Int64) (h0 : Heap) (n0 : Nat) (Z0 : n0 ≤ h0.size) (F_second_a1 : Fld Z h0 a1 KK "second" "J" (.long k2)) :
    MetFree l (⟨KK, "second", "()J"⟩ : MethodName) (head1 (Jvm.Cond.code (⟨KK, "second", "()J"⟩ : MethodName) prog_11_method_11_code 1 (some .long) :: ws) R_gk2) (fun a U => a = #[(.ref a1)] ∧ Z.Warmed39 U.vm ∧ U.heap = h0) (fun _ _ _ _ _ => True) (fun _ U o U' => ∃ v L, o = .returned v ∧ Qgk2 Z a1 k2 h0 n0 v U'.heap L ∧ FrameEnd U o U' L R_gk2.cells R_gk2.slots) := by
  refine MetFree.of_bodySF (plainFor_of_name pn_227) hisR ?_
  intro p e s m args below meth c s₁ Bd hml0 hP hK
  obtain ⟨rfl, hZ, hh⟩ := hP
  have hx := Bd.exec
  have hby := Bd.bytes
  have hml : c.maxLocals = 1 := hml0
  have hown : s.vm.findClass KK = some m.cls := findClass_of_methodNamed Bd.named
  have hnm := (name_of_methodNamed Bd.named Bd.method).1
  have X0 : Stand p l e R_gk2 s m #[(.ref a1)] below meth c s₁ [] 0 0 := Stand.of_body Bd
  have e0 : s₁.heap = h0 := by rw [← hh, Bd.state]; rfl
  have N0 := Fr.nil n0
  have pre0 : ∀ t, Steps p.tables e below (s₁.setTop (mkF m 0 #[.val (.ref a1)] [])) t → Steps p.tables e below (s₁.setTop (entryFrame m #[(.ref a1)] 1)) t := fun t k => castTop (ef_gk2 m a1) k
  obtain ⟨T1, X1, e1, st1⟩ := getF X0 hx hZ hown (host := "") (Or.inl (own_w hw (i := 133) rfl)) Via.refl e0 F_second_a1 (g := (mkF m 1 #[.val (.ref a1)] [(.ref a1)])) rfl rfl (hb hby d31_1)
  obtain ⟨fs, hr, hrun, hended, hW, hsame⟩ := X1.leave (v := some (.long k2)) (fun h => by rw [Bd.returns] at h; cases h) Bd.notSynchronized
  refine ⟨_, _, pre0 _ ?_, hrun, hended, _, _, rfl, ?_, ⟨_, rfl⟩, hW, hsame.mono (by decide) (by decide)⟩
  · show Steps p.tables e below (s₁.setTop (mkF m 0 #[.val (.ref a1)] [])) _
    refine XS.aloadN X0.here hx rfl (hb hby d31_0) rfl rfl ?_
    refine st1 _ ?_
    exact retOut X1 hx (t := .long) Bd.returns rfl (Or.inr (Or.inl ⟨rfl, rfl, _, rfl⟩)) (hb hby d31_4) hr
  · show Qgk2 Z a1 k2 h0 n0 _ T1.heap _
    rw [e1]
    exact ⟨rfl, N0, rfl⟩
theorem d32_0 : decode prog_11_method_12_code 0 = .ok (.aload_n 0, 1) := by decide +kernel
theorem d32_1 : decode prog_11_method_12_code 1 = .ok (.getfield 24, 3) := by decide +kernel
theorem d32_4 : decode prog_11_method_12_code 4 = .ok (.lreturn, 1) := by decide +kernel
theorem ef_gk3 (m : MethodId) (x0 : Addr) : entryFrame m #[(.ref x0)] 1 = mkF m 0 #[.val (.ref x0)] [] := by first | (simp [entryFrame, mkF, argsToLocals, Value.category]; done) | rfl
abbrev R_gk3 : Room := { frames := 0, cells := 0, slots := 0, locals := 0 }
def Qgk3 (Z : State) (a1 : Addr) (k3 : Int64) (h0 : Heap) (n0 : Nat) (v : Option Value) (h : Heap) (L : List Loc) : Prop := v = some (.long k3) ∧ Fr n0 L ∧ h = h0
set_option maxRecDepth 65536 in
set_option maxHeartbeats 40000000 in
theorem rmgk3 (l : Launch) (Z : State) (a0 : Array Value) (hw : ∀ d ∈ tables_1, d.before a0 Z = true) (ws : List Jvm.Cond) (a1 : Addr) (k3 : Int64) (h0 : Heap) (n0 : Nat) (Z0 : n0 ≤ h0.size) (F_third_a1 : Fld Z h0 a1 KK "third" "J" (.long k3)) :
    MetFree l (⟨KK, "third", "()J"⟩ : MethodName) (head1 (Jvm.Cond.code (⟨KK, "third", "()J"⟩ : MethodName) prog_11_method_12_code 1 (some .long) :: ws) R_gk3) (fun a U => a = #[(.ref a1)] ∧ Z.Warmed39 U.vm ∧ U.heap = h0) (fun _ _ _ _ _ => True) (fun _ U o U' => ∃ v L, o = .returned v ∧ Qgk3 Z a1 k3 h0 n0 v U'.heap L ∧ FrameEnd U o U' L R_gk3.cells R_gk3.slots) := by
  refine MetFree.of_bodySF (plainFor_of_name pn_227) hisR ?_
  intro p e s m args below meth c s₁ Bd hml0 hP hK
  obtain ⟨rfl, hZ, hh⟩ := hP
  have hx := Bd.exec
  have hby := Bd.bytes
  have hml : c.maxLocals = 1 := hml0
  have hown : s.vm.findClass KK = some m.cls := findClass_of_methodNamed Bd.named
  have hnm := (name_of_methodNamed Bd.named Bd.method).1
  have X0 : Stand p l e R_gk3 s m #[(.ref a1)] below meth c s₁ [] 0 0 := Stand.of_body Bd
  have e0 : s₁.heap = h0 := by rw [← hh, Bd.state]; rfl
  have N0 := Fr.nil n0
  have pre0 : ∀ t, Steps p.tables e below (s₁.setTop (mkF m 0 #[.val (.ref a1)] [])) t → Steps p.tables e below (s₁.setTop (entryFrame m #[(.ref a1)] 1)) t := fun t k => castTop (ef_gk3 m a1) k
  obtain ⟨T1, X1, e1, st1⟩ := getF X0 hx hZ hown (host := "") (Or.inl (own_w hw (i := 135) rfl)) Via.refl e0 F_third_a1 (g := (mkF m 1 #[.val (.ref a1)] [(.ref a1)])) rfl rfl (hb hby d32_1)
  obtain ⟨fs, hr, hrun, hended, hW, hsame⟩ := X1.leave (v := some (.long k3)) (fun h => by rw [Bd.returns] at h; cases h) Bd.notSynchronized
  refine ⟨_, _, pre0 _ ?_, hrun, hended, _, _, rfl, ?_, ⟨_, rfl⟩, hW, hsame.mono (by decide) (by decide)⟩
  · show Steps p.tables e below (s₁.setTop (mkF m 0 #[.val (.ref a1)] [])) _
    refine XS.aloadN X0.here hx rfl (hb hby d32_0) rfl rfl ?_
    refine st1 _ ?_
    exact retOut X1 hx (t := .long) Bd.returns rfl (Or.inr (Or.inl ⟨rfl, rfl, _, rfl⟩)) (hb hby d32_4) hr
  · show Qgk3 Z a1 k3 h0 n0 _ T1.heap _
    rw [e1]
    exact ⟨rfl, N0, rfl⟩
theorem d38_0 : decode prog_11_method_3_code 0 = .ok (.aload_n 0, 1) := by decide +kernel
theorem d38_1 : decode prog_11_method_3_code 1 = .ok (.getfield 17, 3) := by decide +kernel
theorem d38_4 : decode prog_11_method_3_code 4 = .ok (.ldc2_w 49, 3) := by decide +kernel
theorem d38_7 : decode prog_11_method_3_code 7 = .ok (.lcmp, 1) := by decide +kernel
theorem d38_8 : decode prog_11_method_3_code 8 = .ok (.ifCond .eq 7, 3) := by decide +kernel
theorem d38_11 : decode prog_11_method_3_code 11 = .ok (.iconst 1, 1) := by decide +kernel
theorem d38_12 : decode prog_11_method_3_code 12 = .ok (.goto 4, 3) := by decide +kernel
theorem d38_16 : decode prog_11_method_3_code 16 = .ok (.ireturn, 1) := by decide +kernel
theorem ef_ip (m : MethodId) (x0 : Addr) : entryFrame m #[(.ref x0)] 1 = mkF m 0 #[.val (.ref x0)] [] := by first | (simp [entryFrame, mkF, argsToLocals, Value.category]; done) | rfl
abbrev R_ip : Room := { frames := 0, cells := 0, slots := 0, locals := 0 }
def Qip (Z : State) (a1 : Addr) (k1 : Int64) (h0 : Heap) (n0 : Nat) (v : Option Value) (h : Heap) (L : List Loc) : Prop := v = some (.int 1) ∧ Fr n0 L ∧ h = h0
set_option maxRecDepth 65536 in
set_option maxHeartbeats 40000000 in
theorem rmip (l : Launch) (Z : State) (a0 : Array Value) (hw : ∀ d ∈ tables_1, d.before a0 Z = true) (ws : List Jvm.Cond) (a1 : Addr) (k1 : Int64) (h0 : Heap) (n0 : Nat) (Z0 : n0 ≤ h0.size) (F_first_a1 : Fld Z h0 a1 KK "first" "J" (.long k1)) (hk : ¬ (k1 = (255 : Int64))) :
    MetFree l (⟨KK, "isPacked", "()Z"⟩ : MethodName) (head1 (Jvm.Cond.code (⟨KK, "isPacked", "()Z"⟩ : MethodName) prog_11_method_3_code 1 (some .boolean) :: ws) R_ip) (fun a U => a = #[(.ref a1)] ∧ Z.Warmed39 U.vm ∧ U.heap = h0) (fun _ _ _ _ _ => True) (fun _ U o U' => ∃ v L, o = .returned v ∧ Qip Z a1 k1 h0 n0 v U'.heap L ∧ FrameEnd U o U' L R_ip.cells R_ip.slots) := by
  refine MetFree.of_bodySF (plainFor_of_name pn_227) hisR ?_
  intro p e s m args below meth c s₁ Bd hml0 hP hK
  obtain ⟨rfl, hZ, hh⟩ := hP
  have hx := Bd.exec
  have hby := Bd.bytes
  have hml : c.maxLocals = 1 := hml0
  have hown : s.vm.findClass KK = some m.cls := findClass_of_methodNamed Bd.named
  have hnm := (name_of_methodNamed Bd.named Bd.method).1
  have X0 : Stand p l e R_ip s m #[(.ref a1)] below meth c s₁ [] 0 0 := Stand.of_body Bd
  have e0 : s₁.heap = h0 := by rw [← hh, Bd.state]; rfl
  have N0 := Fr.nil n0
  have pre0 : ∀ t, Steps p.tables e below (s₁.setTop (mkF m 0 #[.val (.ref a1)] [])) t → Steps p.tables e below (s₁.setTop (entryFrame m #[(.ref a1)] 1)) t := fun t k => castTop (ef_ip m a1) k
  obtain ⟨T1, X1, e1, st1⟩ := getF X0 hx hZ hown (host := "") (Or.inl (own_w hw (i := 131) rfl)) Via.refl e0 F_first_a1 (g := (mkF m 1 #[.val (.ref a1)] [(.ref a1)])) rfl rfl (hb hby d38_1)
  obtain ⟨fs, hr, hrun, hended, hW, hsame⟩ := X1.leave (v := some (.int 1)) (fun h => by rw [Bd.returns] at h; cases h) Bd.notSynchronized
  refine ⟨_, _, pre0 _ ?_, hrun, hended, _, _, rfl, ?_, ⟨_, rfl⟩, hW, hsame.mono (by decide) (by decide)⟩
  · show Steps p.tables e below (s₁.setTop (mkF m 0 #[.val (.ref a1)] [])) _
    refine XS.aloadN X0.here hx rfl (hb hby d38_0) rfl rfl ?_
    refine st1 _ ?_
    refine X1.ldc2Long hx hown (mvT hZ (own_w hw (i := 205) rfl)) (g := (mkF m 4 #[.val (.ref a1)] [(.long k1)])) rfl (hb hby d38_4) _ ?_
    refine XS.lcmp X1.here hx rfl (hb hby d38_7) rfl ?_
    show Steps p.tables e below (T1.setTop (mkF m 8 #[.val (.ref a1)] [(.int (lcmpW k1 (255 : Int64)))])) _
    refine XS.ifNo X1.here hx rfl (hb hby d38_8) rfl ((if0 _ _).trans (feq (mt (lw_eq _ _).mp hk)).1) ?_
    refine XS.iconst X1.here hx rfl (hb hby d38_11) ?_
    refine XS.goto X1.here hx rfl (pc0 := 12) (pc' := 16) rfl (hb hby d38_12) (by decide) (by decide) ?_
    exact retN X1 hx (t := .boolean) Bd.returns (by simp) (hb hby d38_16) hr
  · show Qip Z a1 k1 h0 n0 _ T1.heap _
    rw [e1]
    exact ⟨rfl, N0, rfl⟩
theorem pn_386 : plainName KS = true := by first | (simp [plainName, overriddenIn]; done) | decide +kernel
theorem d35_0 : decode prog_18_method_23_code 0 = .ok (.aload_n 0, 1) := by decide +kernel
theorem d35_1 : decode prog_18_method_23_code 1 = .ok (.arraylength, 1) := by decide +kernel
theorem d35_2 : decode prog_18_method_23_code 2 = .ok (.bipush 8, 2) := by decide +kernel
theorem d35_4 : decode prog_18_method_23_code 4 = .ok (.isub, 1) := by decide +kernel
theorem d35_5 : decode prog_18_method_23_code 5 = .ok (.bipush 6, 2) := by decide +kernel
theorem d35_7 : decode prog_18_method_23_code 7 = .ok (.idiv, 1) := by decide +kernel
theorem d35_8 : decode prog_18_method_23_code 8 = .ok (.ireturn, 1) := by decide +kernel
theorem ef_cap (m : MethodId) (x0 : Addr) : entryFrame m #[(.ref x0)] 1 = mkF m 0 #[.val (.ref x0)] [] := by first | (simp [entryFrame, mkF, argsToLocals, Value.category]; done) | rfl
abbrev R_cap : Room := { frames := 0, cells := 0, slots := 0, locals := 0 }
def Qcap (Z : State) (a1 : Addr) (kr : ClassId) (r0 : Int32) (r1 : Int32) (r2 : Int32) (r3 : Int32) (r4 : Int32) (r5 : Int32) (r6 : Int32) (r7 : Int32) (r8 : Int32) (r9 : Int32) (r10 : Int32) (r11 : Int32) (r12 : Int32) (r13 : Int32) (r14 : Int32) (r15 : Int32) (r16 : Int32) (r17 : Int32) (r18 : Int32) (r19 : Int32) (h0 : Heap) (n0 : Nat) (v : Option Value) (h : Heap) (L : List Loc) : Prop := v = some (.int 2) ∧ Fr n0 L ∧ h = h0
set_option maxRecDepth 65536 in
set_option maxHeartbeats 40000000 in
theorem rmcap (l : Launch) (Z : State) (a0 : Array Value) (hw : ∀ d ∈ tables_1, d.before a0 Z = true) (ws : List Jvm.Cond) (a1 : Addr) (kr : ClassId) (r0 : Int32) (r1 : Int32) (r2 : Int32) (r3 : Int32) (r4 : Int32) (r5 : Int32) (r6 : Int32) (r7 : Int32) (r8 : Int32) (r9 : Int32) (r10 : Int32) (r11 : Int32) (r12 : Int32) (r13 : Int32) (r14 : Int32) (r15 : Int32) (r16 : Int32) (r17 : Int32) (r18 : Int32) (r19 : Int32) (h0 : Heap) (n0 : Nat) (Z0 : n0 ≤ h0.size) (V_a1 : Arv Z h0 a1 kr .int (20 : Int32) [(.int r0), (.int r1), (.int r2), (.int r3), (.int r4), (.int r5), (.int r6), (.int r7), (.int r8), (.int r9), (.int r10), (.int r11), (.int r12), (.int r13), (.int r14), (.int r15), (.int r16), (.int r17), (.int r18), (.int r19)] (.int 0)) :
    MetFree l (⟨KS, "capacity", "([I)I"⟩ : MethodName) (head1 (Jvm.Cond.code (⟨KS, "capacity", "([I)I"⟩ : MethodName) prog_18_method_23_code 1 (some .int) :: ws) R_cap) (fun a U => a = #[(.ref a1)] ∧ Z.Warmed39 U.vm ∧ U.heap = h0) (fun _ _ _ _ _ => True) (fun _ U o U' => ∃ v L, o = .returned v ∧ Qcap Z a1 kr r0 r1 r2 r3 r4 r5 r6 r7 r8 r9 r10 r11 r12 r13 r14 r15 r16 r17 r18 r19 h0 n0 v U'.heap L ∧ FrameEnd U o U' L R_cap.cells R_cap.slots) := by
  refine MetFree.of_bodySF (plainFor_of_name pn_386) hisR ?_
  intro p e s m args below meth c s₁ Bd hml0 hP hK
  obtain ⟨rfl, hZ, hh⟩ := hP
  have hx := Bd.exec
  have hby := Bd.bytes
  have hml : c.maxLocals = 1 := hml0
  have hown : s.vm.findClass KS = some m.cls := findClass_of_methodNamed Bd.named
  have hnm := (name_of_methodNamed Bd.named Bd.method).1
  have X0 : Stand p l e R_cap s m #[(.ref a1)] below meth c s₁ [] 0 0 := Stand.of_body Bd
  have e0 : s₁.heap = h0 := by rw [← hh, Bd.state]; rfl
  have N0 := Fr.nil n0
  have pre0 : ∀ t, Steps p.tables e below (s₁.setTop (mkF m 0 #[.val (.ref a1)] [])) t → Steps p.tables e below (s₁.setTop (entryFrame m #[(.ref a1)] 1)) t := fun t k => castTop (ef_cap m a1) k
  obtain ⟨car1, Aar1, qar1, Sar1, Nar1, Har1, Gar1⟩ := id V_a1
  obtain ⟨fs, hr, hrun, hended, hW, hsame⟩ := X0.leave (v := some (.int 2)) (fun h => by rw [Bd.returns] at h; cases h) Bd.notSynchronized
  refine ⟨_, _, pre0 _ ?_, hrun, hended, _, _, rfl, ?_, ⟨_, rfl⟩, hW, hsame.mono (by decide) (by decide)⟩
  · show Steps p.tables e below (s₁.setTop (mkF m 0 #[.val (.ref a1)] [])) _
    refine XS.aloadN X0.here hx rfl (hb hby d35_0) rfl rfl ?_
    refine X0.arraylength hx (by rw [e0]; exact Aar1.1) (State.isArrayOf_alike hZ.alike Aar1.2.1) (g := (mkF m 1 #[.val (.ref a1)] [(.ref a1)])) rfl rfl (hb hby d35_1) _ ?_
    rw [len_of Sar1 Nar1]
    refine XS.bipush X0.here hx rfl (hb hby d35_2) ?_
    refine XS.isub X0.here hx rfl (hb hby d35_4) rfl ?_
    refine XS.bipush X0.here hx rfl (hb hby d35_5) ?_
    refine XS.idiv X0.here hx rfl (hb hby d35_7) rfl (by decide) ?_
    exact retI X0 hx Bd.returns (hb hby d35_8) hr
  · show Qcap Z a1 kr r0 r1 r2 r3 r4 r5 r6 r7 r8 r9 r10 r11 r12 r13 r14 r15 r16 r17 r18 r19 h0 n0 _ s₁.heap _
    rw [e0]
    exact ⟨rfl, N0, rfl⟩
theorem d34_0 : decode prog_18_method_22_code 0 = .ok (.aload_n 0, 1) := by decide +kernel
theorem d34_1 : decode prog_18_method_22_code 1 = .ok (.invokestatic 65, 3) := by decide +kernel
theorem pd_396 : parseMethodDescriptor "([I)I" = some ⟨[(.array .int)], some .int⟩ := by decide +kernel
theorem d34_4 : decode prog_18_method_22_code 4 = .ok (.bipush 16, 2) := by decide +kernel
theorem d34_6 : decode prog_18_method_22_code 6 = .ok (.if_icmp .gt 7, 3) := by decide +kernel
theorem d34_9 : decode prog_18_method_22_code 9 = .ok (.iconst 1, 1) := by decide +kernel
theorem d34_10 : decode prog_18_method_22_code 10 = .ok (.goto 4, 3) := by decide +kernel
theorem d34_14 : decode prog_18_method_22_code 14 = .ok (.ireturn, 1) := by decide +kernel
theorem ef_den (m : MethodId) (x0 : Addr) : entryFrame m #[(.ref x0)] 1 = mkF m 0 #[.val (.ref x0)] [] := by first | (simp [entryFrame, mkF, argsToLocals, Value.category]; done) | rfl
abbrev R_den : Room := { frames := 1, cells := 0, slots := 0, locals := 12 }
def Qden (Z : State) (a1 : Addr) (kr : ClassId) (r0 : Int32) (r1 : Int32) (r2 : Int32) (r3 : Int32) (r4 : Int32) (r5 : Int32) (r6 : Int32) (r7 : Int32) (r8 : Int32) (r9 : Int32) (r10 : Int32) (r11 : Int32) (r12 : Int32) (r13 : Int32) (r14 : Int32) (r15 : Int32) (r16 : Int32) (r17 : Int32) (r18 : Int32) (r19 : Int32) (h0 : Heap) (n0 : Nat) (v : Option Value) (h : Heap) (L : List Loc) : Prop := v = some (.int 1) ∧ Fr n0 L ∧ h = h0
set_option maxRecDepth 65536 in
set_option maxHeartbeats 40000000 in
theorem rmden (l : Launch) (Z : State) (a0 : Array Value) (hw : ∀ d ∈ tables_1, d.before a0 Z = true) (ws : List Jvm.Cond) (a1 : Addr) (kr : ClassId) (r0 : Int32) (r1 : Int32) (r2 : Int32) (r3 : Int32) (r4 : Int32) (r5 : Int32) (r6 : Int32) (r7 : Int32) (r8 : Int32) (r9 : Int32) (r10 : Int32) (r11 : Int32) (r12 : Int32) (r13 : Int32) (r14 : Int32) (r15 : Int32) (r16 : Int32) (r17 : Int32) (r18 : Int32) (r19 : Int32) (h0 : Heap) (n0 : Nat) (Z0 : n0 ≤ h0.size) (V_a1 : Arv Z h0 a1 kr .int (20 : Int32) [(.int r0), (.int r1), (.int r2), (.int r3), (.int r4), (.int r5), (.int r6), (.int r7), (.int r8), (.int r9), (.int r10), (.int r11), (.int r12), (.int r13), (.int r14), (.int r15), (.int r16), (.int r17), (.int r18), (.int r19)] (.int 0)) :
    MetFree l (⟨KS, "isDense", "([I)Z"⟩ : MethodName) (head1 (Jvm.Cond.code (⟨KS, "isDense", "([I)Z"⟩ : MethodName) prog_18_method_22_code 1 (some .boolean) :: ws) R_den) (fun a U => a = #[(.ref a1)] ∧ Z.Warmed39 U.vm ∧ U.heap = h0) (fun _ _ _ _ _ => True) (fun _ U o U' => ∃ v L, o = .returned v ∧ Qden Z a1 kr r0 r1 r2 r3 r4 r5 r6 r7 r8 r9 r10 r11 r12 r13 r14 r15 r16 r17 r18 r19 h0 n0 v U'.heap L ∧ FrameEnd U o U' L R_den.cells R_den.slots) := by
  refine MetFree.of_bodySF (plainFor_of_name pn_386) hisR ?_
  intro p e s m args below meth c s₁ Bd hml0 hP hK
  obtain ⟨rfl, hZ, hh⟩ := hP
  have hx := Bd.exec
  have hby := Bd.bytes
  have hml : c.maxLocals = 1 := hml0
  have hown : s.vm.findClass KS = some m.cls := findClass_of_methodNamed Bd.named
  have hnm := (name_of_methodNamed Bd.named Bd.method).1
  have X0 : Stand p l e R_den s m #[(.ref a1)] below meth c s₁ [] 0 0 := Stand.of_body Bd
  have e0 : s₁.heap = h0 := by rw [← hh, Bd.state]; rfl
  have N0 := Fr.nil n0
  have pre0 : ∀ t, Steps p.tables e below (s₁.setTop (mkF m 0 #[.val (.ref a1)] [])) t → Steps p.tables e below (s₁.setTop (entryFrame m #[(.ref a1)] 1)) t := fun t k => castTop (ef_den m a1) k
  -- pc 1: SubjectLines.capacity by rmcap
  obtain ⟨_, _, ⟨T1, L1, ck1, cn1⟩, -, X1, ⟨Lc1, hQ1, l1, y1, z1⟩, st1⟩ := Jvm.LawKit.callS X0 hx (y := (⟨KS, "capacity", "([I)I"⟩ : MethodName)) hown (mvT hZ (own_w hw (i := 190) rfl)) (mvT hZ (own_w hw (i := 191) rfl)) (mvT hZ (own_w hw (i := 32) rfl)) (mvT hZ (own_w hw (i := 192) rfl)) (by decide) (backOf (W := 0) (rmcap l Z a0 hw [] a1 kr r0 r1 r2 r3 r4 r5 r6 r7 r8 r9 r10 r11 r12 r13 r14 r15 r16 r17 r18 r19 h0 n0 Z0 V_a1) hZ (own_w hw (i := 192) rfl) (own_w hw (i := 32) rfl) (by decide) (by decide)) (g := (mkF m 1 #[.val (.ref a1)] [(.ref a1)])) rfl (by rw [hml]; rfl) (argsL := [(.ref a1)]) (rest := []) (lenOf pd_396 rfl) rfl (by show 2 * 0 + _ ≤ _; exact Nat.le_of_eq rfl) (hb hby d34_1) (fun _ _ => ⟨rfl, e0, (by decide : 0 + 0 ≤ _), (by decide : 0 + 0 ≤ _)⟩)
  dsimp only [Pt.U, Pt.locs, Pt.cells, Pt.slots] at X1 l1 y1 z1 st1 hQ1
  subst y1 z1
  obtain ⟨rfl, N1q, e1⟩ := hQ1
  have N2 : Fr n0 L1 := by rw [l1]; exact Fr.app N0 N1q
  obtain ⟨fs, hr, hrun, hended, hW, hsame⟩ := X1.leave (v := some (.int 1)) (fun h => by rw [Bd.returns] at h; cases h) Bd.notSynchronized
  refine ⟨_, _, pre0 _ ?_, hrun, hended, _, _, rfl, ?_, ⟨_, rfl⟩, hW, hsame.mono (by decide) (by decide)⟩
  · show Steps p.tables e below (s₁.setTop (mkF m 0 #[.val (.ref a1)] [])) _
    refine XS.aloadN X0.here hx rfl (hb hby d34_0) rfl rfl ?_
    refine st1 _ ?_
    refine XS.bipush X1.here hx rfl (hb hby d34_4) ?_
    show Steps p.tables e below (T1.setTop (mkF m 6 #[.val (.ref a1)] [(.int 16), (.int 2)])) _
    refine XS.icmpNo X1.here hx rfl (hb hby d34_6) rfl (flt (by decide : ¬ ((16 : Int32) < (2 : Int32)))).2.2.1 ?_
    refine XS.iconst X1.here hx rfl (hb hby d34_9) ?_
    refine XS.goto X1.here hx rfl (pc0 := 10) (pc' := 14) rfl (hb hby d34_10) (by decide) (by decide) ?_
    exact retN X1 hx (t := .boolean) Bd.returns (by simp) (hb hby d34_14) hr
  · show Qden Z a1 kr r0 r1 r2 r3 r4 r5 r6 r7 r8 r9 r10 r11 r12 r13 r14 r15 r16 r17 r18 r19 h0 n0 _ T1.heap _
    rw [e1]
    exact ⟨rfl, N2, rfl⟩
theorem d36_0 : decode prog_18_method_24_code 0 = .ok (.aload_n 0, 1) := by decide +kernel
theorem d36_1 : decode prog_18_method_24_code 1 = .ok (.invokestatic 65, 3) := by decide +kernel
theorem d36_4 : decode prog_18_method_24_code 4 = .ok (.iconst 1, 1) := by decide +kernel
theorem d36_5 : decode prog_18_method_24_code 5 = .ok (.isub, 1) := by decide +kernel
theorem d36_6 : decode prog_18_method_24_code 6 = .ok (.ireturn, 1) := by decide +kernel
theorem ef_msk (m : MethodId) (x0 : Addr) : entryFrame m #[(.ref x0)] 1 = mkF m 0 #[.val (.ref x0)] [] := by first | (simp [entryFrame, mkF, argsToLocals, Value.category]; done) | rfl
abbrev R_msk : Room := { frames := 1, cells := 0, slots := 0, locals := 12 }
def Qmsk (Z : State) (a1 : Addr) (kr : ClassId) (r0 : Int32) (r1 : Int32) (r2 : Int32) (r3 : Int32) (r4 : Int32) (r5 : Int32) (r6 : Int32) (r7 : Int32) (r8 : Int32) (r9 : Int32) (r10 : Int32) (r11 : Int32) (r12 : Int32) (r13 : Int32) (r14 : Int32) (r15 : Int32) (r16 : Int32) (r17 : Int32) (r18 : Int32) (r19 : Int32) (h0 : Heap) (n0 : Nat) (v : Option Value) (h : Heap) (L : List Loc) : Prop := v = some (.int 1) ∧ Fr n0 L ∧ h = h0
set_option maxRecDepth 65536 in
set_option maxHeartbeats 40000000 in
theorem rmmsk (l : Launch) (Z : State) (a0 : Array Value) (hw : ∀ d ∈ tables_1, d.before a0 Z = true) (ws : List Jvm.Cond) (a1 : Addr) (kr : ClassId) (r0 : Int32) (r1 : Int32) (r2 : Int32) (r3 : Int32) (r4 : Int32) (r5 : Int32) (r6 : Int32) (r7 : Int32) (r8 : Int32) (r9 : Int32) (r10 : Int32) (r11 : Int32) (r12 : Int32) (r13 : Int32) (r14 : Int32) (r15 : Int32) (r16 : Int32) (r17 : Int32) (r18 : Int32) (r19 : Int32) (h0 : Heap) (n0 : Nat) (Z0 : n0 ≤ h0.size) (V_a1 : Arv Z h0 a1 kr .int (20 : Int32) [(.int r0), (.int r1), (.int r2), (.int r3), (.int r4), (.int r5), (.int r6), (.int r7), (.int r8), (.int r9), (.int r10), (.int r11), (.int r12), (.int r13), (.int r14), (.int r15), (.int r16), (.int r17), (.int r18), (.int r19)] (.int 0)) :
    MetFree l (⟨KS, "mask", "([I)I"⟩ : MethodName) (head1 (Jvm.Cond.code (⟨KS, "mask", "([I)I"⟩ : MethodName) prog_18_method_24_code 1 (some .int) :: ws) R_msk) (fun a U => a = #[(.ref a1)] ∧ Z.Warmed39 U.vm ∧ U.heap = h0) (fun _ _ _ _ _ => True) (fun _ U o U' => ∃ v L, o = .returned v ∧ Qmsk Z a1 kr r0 r1 r2 r3 r4 r5 r6 r7 r8 r9 r10 r11 r12 r13 r14 r15 r16 r17 r18 r19 h0 n0 v U'.heap L ∧ FrameEnd U o U' L R_msk.cells R_msk.slots) := by
  refine MetFree.of_bodySF (plainFor_of_name pn_386) hisR ?_
  intro p e s m args below meth c s₁ Bd hml0 hP hK
  obtain ⟨rfl, hZ, hh⟩ := hP
  have hx := Bd.exec
  have hby := Bd.bytes
  have hml : c.maxLocals = 1 := hml0
  have hown : s.vm.findClass KS = some m.cls := findClass_of_methodNamed Bd.named
  have hnm := (name_of_methodNamed Bd.named Bd.method).1
  have X0 : Stand p l e R_msk s m #[(.ref a1)] below meth c s₁ [] 0 0 := Stand.of_body Bd
  have e0 : s₁.heap = h0 := by rw [← hh, Bd.state]; rfl
  have N0 := Fr.nil n0
  have pre0 : ∀ t, Steps p.tables e below (s₁.setTop (mkF m 0 #[.val (.ref a1)] [])) t → Steps p.tables e below (s₁.setTop (entryFrame m #[(.ref a1)] 1)) t := fun t k => castTop (ef_msk m a1) k
  -- pc 1: SubjectLines.capacity by rmcap
  obtain ⟨_, _, ⟨T1, L1, ck1, cn1⟩, -, X1, ⟨Lc1, hQ1, l1, y1, z1⟩, st1⟩ := Jvm.LawKit.callS X0 hx (y := (⟨KS, "capacity", "([I)I"⟩ : MethodName)) hown (mvT hZ (own_w hw (i := 190) rfl)) (mvT hZ (own_w hw (i := 191) rfl)) (mvT hZ (own_w hw (i := 32) rfl)) (mvT hZ (own_w hw (i := 192) rfl)) (by decide) (backOf (W := 0) (rmcap l Z a0 hw [] a1 kr r0 r1 r2 r3 r4 r5 r6 r7 r8 r9 r10 r11 r12 r13 r14 r15 r16 r17 r18 r19 h0 n0 Z0 V_a1) hZ (own_w hw (i := 192) rfl) (own_w hw (i := 32) rfl) (by decide) (by decide)) (g := (mkF m 1 #[.val (.ref a1)] [(.ref a1)])) rfl (by rw [hml]; rfl) (argsL := [(.ref a1)]) (rest := []) (lenOf pd_396 rfl) rfl (by show 2 * 0 + _ ≤ _; exact Nat.le_of_eq rfl) (hb hby d36_1) (fun _ _ => ⟨rfl, e0, (by decide : 0 + 0 ≤ _), (by decide : 0 + 0 ≤ _)⟩)
  dsimp only [Pt.U, Pt.locs, Pt.cells, Pt.slots] at X1 l1 y1 z1 st1 hQ1
  subst y1 z1
  obtain ⟨rfl, N1q, e1⟩ := hQ1
  have N2 : Fr n0 L1 := by rw [l1]; exact Fr.app N0 N1q
  obtain ⟨fs, hr, hrun, hended, hW, hsame⟩ := X1.leave (v := some (.int 1)) (fun h => by rw [Bd.returns] at h; cases h) Bd.notSynchronized
  refine ⟨_, _, pre0 _ ?_, hrun, hended, _, _, rfl, ?_, ⟨_, rfl⟩, hW, hsame.mono (by decide) (by decide)⟩
  · show Steps p.tables e below (s₁.setTop (mkF m 0 #[.val (.ref a1)] [])) _
    refine XS.aloadN X0.here hx rfl (hb hby d36_0) rfl rfl ?_
    refine st1 _ ?_
    refine XS.iconst X1.here hx rfl (hb hby d36_4) ?_
    refine XS.isub X1.here hx rfl (hb hby d36_5) rfl ?_
    exact retI X1 hx Bd.returns (hb hby d36_6) hr
  · show Qmsk Z a1 kr r0 r1 r2 r3 r4 r5 r6 r7 r8 r9 r10 r11 r12 r13 r14 r15 r16 r17 r18 r19 h0 n0 _ T1.heap _
    rw [e1]
    exact ⟨rfl, N2, rfl⟩
theorem d33_0 : decode prog_18_method_17_code 0 = .ok (.aload_n 0, 1) := by decide +kernel
theorem d33_1 : decode prog_18_method_17_code 1 = .ok (.invokestatic 34, 3) := by decide +kernel
theorem pd_409 : parseMethodDescriptor "([I)Z" = some ⟨[(.array .int)], some .boolean⟩ := by decide +kernel
theorem d33_4 : decode prog_18_method_17_code 4 = .ok (.istore 6, 2) := by decide +kernel
theorem d33_6 : decode prog_18_method_17_code 6 = .ok (.aload_n 0, 1) := by decide +kernel
theorem d33_7 : decode prog_18_method_17_code 7 = .ok (.invokestatic 53, 3) := by decide +kernel
theorem d33_10 : decode prog_18_method_17_code 10 = .ok (.istore 7, 2) := by decide +kernel
theorem d33_12 : decode prog_18_method_17_code 12 = .ok (.iload 6, 2) := by decide +kernel
theorem d33_14 : decode prog_18_method_17_code 14 = .ok (.ifCond .eq 7, 3) := by decide +kernel
theorem d33_17 : decode prog_18_method_17_code 17 = .ok (.iconst 0, 1) := by decide +kernel
theorem d33_18 : decode prog_18_method_17_code 18 = .ok (.goto 9, 3) := by decide +kernel
theorem d33_27 : decode prog_18_method_17_code 27 = .ok (.istore 8, 2) := by decide +kernel
theorem d33_29 : decode prog_18_method_17_code 29 = .ok (.bipush 8, 2) := by decide +kernel
theorem d33_31 : decode prog_18_method_17_code 31 = .ok (.iload 8, 2) := by decide +kernel
theorem d33_33 : decode prog_18_method_17_code 33 = .ok (.bipush 6, 2) := by decide +kernel
theorem d33_35 : decode prog_18_method_17_code 35 = .ok (.imul, 1) := by decide +kernel
theorem d33_36 : decode prog_18_method_17_code 36 = .ok (.iadd, 1) := by decide +kernel
theorem d33_37 : decode prog_18_method_17_code 37 = .ok (.istore 9, 2) := by decide +kernel
theorem d33_39 : decode prog_18_method_17_code 39 = .ok (.iload 9, 2) := by decide +kernel
theorem d33_41 : decode prog_18_method_17_code 41 = .ok (.aload_n 0, 1) := by decide +kernel
theorem d33_42 : decode prog_18_method_17_code 42 = .ok (.arraylength, 1) := by decide +kernel
theorem d33_43 : decode prog_18_method_17_code 43 = .ok (.if_icmp .ge 98, 3) := by decide +kernel
theorem d33_46 : decode prog_18_method_17_code 46 = .ok (.aload_n 0, 1) := by decide +kernel
theorem d33_47 : decode prog_18_method_17_code 47 = .ok (.iload 9, 2) := by decide +kernel
theorem d33_49 : decode prog_18_method_17_code 49 = .ok (.iaload, 1) := by decide +kernel
theorem d33_50 : decode prog_18_method_17_code 50 = .ok (.ifCond .eq 91, 3) := by decide +kernel
theorem d33_141 : decode prog_18_method_17_code 141 = .ok (.iload 9, 2) := by decide +kernel
theorem d33_143 : decode prog_18_method_17_code 143 = .ok (.ireturn, 1) := by decide +kernel
theorem ef_pl (m : MethodId) (x0 : Addr) (x1 : Int32) (x2 : Int32) (x3 : Int32) (x4 : Int32) (x5 : Int32) : entryFrame m #[(.ref x0), (.int x1), (.int x2), (.int x3), (.int x4), (.int x5)] 10 = mkF m 0 #[.val (.ref x0), .val (.int x1), .val (.int x2), .val (.int x3), .val (.int x4), .val (.int x5), .unset, .unset, .unset, .unset] [] := by first | (simp [entryFrame, mkF, argsToLocals, Value.category]; done) | rfl
abbrev R_pl : Room := { frames := 2, cells := 0, slots := 0, locals := 24 }
def Qpl (Z : State) (a1 : Addr) (p2 : Int32) (p3 : Int32) (p4 : Int32) (p5 : Int32) (p6 : Int32) (kr : ClassId) (r0 : Int32) (r1 : Int32) (r2 : Int32) (r3 : Int32) (r4 : Int32) (r5 : Int32) (r6 : Int32) (r7 : Int32) (r9 : Int32) (r10 : Int32) (r11 : Int32) (r12 : Int32) (r13 : Int32) (r14 : Int32) (r15 : Int32) (r16 : Int32) (r17 : Int32) (r18 : Int32) (r19 : Int32) (h0 : Heap) (n0 : Nat) (v : Option Value) (h : Heap) (L : List Loc) : Prop := v = some (.int 8) ∧ Fr n0 L ∧ h = h0
set_option maxRecDepth 65536 in
set_option maxHeartbeats 40000000 in
theorem rmpl (l : Launch) (Z : State) (a0 : Array Value) (hw : ∀ d ∈ tables_1, d.before a0 Z = true) (ws : List Jvm.Cond) (a1 : Addr) (p2 : Int32) (p3 : Int32) (p4 : Int32) (p5 : Int32) (p6 : Int32) (kr : ClassId) (r0 : Int32) (r1 : Int32) (r2 : Int32) (r3 : Int32) (r4 : Int32) (r5 : Int32) (r6 : Int32) (r7 : Int32) (r9 : Int32) (r10 : Int32) (r11 : Int32) (r12 : Int32) (r13 : Int32) (r14 : Int32) (r15 : Int32) (r16 : Int32) (r17 : Int32) (r18 : Int32) (r19 : Int32) (h0 : Heap) (n0 : Nat) (Z0 : n0 ≤ h0.size) (V_a1 : Arv Z h0 a1 kr .int (20 : Int32) [(.int r0), (.int r1), (.int r2), (.int r3), (.int r4), (.int r5), (.int r6), (.int r7), (.int 0), (.int r9), (.int r10), (.int r11), (.int r12), (.int r13), (.int r14), (.int r15), (.int r16), (.int r17), (.int r18), (.int r19)] (.int 0)) :
    MetFree l (⟨KS, "place", "([IIIIII)I"⟩ : MethodName) (head1 (Jvm.Cond.code (⟨KS, "place", "([IIIIII)I"⟩ : MethodName) prog_18_method_17_code 10 (some .int) :: ws) R_pl) (fun a U => a = #[(.ref a1), (.int p2), (.int p3), (.int p4), (.int p5), (.int p6)] ∧ Z.Warmed39 U.vm ∧ U.heap = h0) (fun _ _ _ _ _ => True) (fun _ U o U' => ∃ v L, o = .returned v ∧ Qpl Z a1 p2 p3 p4 p5 p6 kr r0 r1 r2 r3 r4 r5 r6 r7 r9 r10 r11 r12 r13 r14 r15 r16 r17 r18 r19 h0 n0 v U'.heap L ∧ FrameEnd U o U' L R_pl.cells R_pl.slots) := by
  refine MetFree.of_bodySF (plainFor_of_name pn_386) hisR ?_
  intro p e s m args below meth c s₁ Bd hml0 hP hK
  obtain ⟨rfl, hZ, hh⟩ := hP
  have hx := Bd.exec
  have hby := Bd.bytes
  have hml : c.maxLocals = 10 := hml0
  have hown : s.vm.findClass KS = some m.cls := findClass_of_methodNamed Bd.named
  have hnm := (name_of_methodNamed Bd.named Bd.method).1
  have X0 : Stand p l e R_pl s m #[(.ref a1), (.int p2), (.int p3), (.int p4), (.int p5), (.int p6)] below meth c s₁ [] 0 0 := Stand.of_body Bd
  have e0 : s₁.heap = h0 := by rw [← hh, Bd.state]; rfl
  have N0 := Fr.nil n0
  have pre0 : ∀ t, Steps p.tables e below (s₁.setTop (mkF m 0 #[.val (.ref a1), .val (.int p2), .val (.int p3), .val (.int p4), .val (.int p5), .val (.int p6), .unset, .unset, .unset, .unset] [])) t → Steps p.tables e below (s₁.setTop (entryFrame m #[(.ref a1), (.int p2), (.int p3), (.int p4), (.int p5), (.int p6)] 10)) t := fun t k => castTop (ef_pl m a1 p2 p3 p4 p5 p6) k
  -- pc 1: SubjectLines.isDense by rmden
  obtain ⟨_, _, ⟨T1, L1, ck1, cn1⟩, -, X1, ⟨Lc1, hQ1, l1, y1, z1⟩, st1⟩ := Jvm.LawKit.callS X0 hx (y := (⟨KS, "isDense", "([I)Z"⟩ : MethodName)) hown (mvT hZ (own_w hw (i := 187) rfl)) (mvT hZ (own_w hw (i := 188) rfl)) (mvT hZ (own_w hw (i := 32) rfl)) (mvT hZ (own_w hw (i := 189) rfl)) (by decide) (backOf (W := 0) (rmden l Z a0 hw [] a1 kr r0 r1 r2 r3 r4 r5 r6 r7 (0 : Int32) r9 r10 r11 r12 r13 r14 r15 r16 r17 r18 r19 h0 n0 Z0 V_a1) hZ (own_w hw (i := 189) rfl) (own_w hw (i := 32) rfl) (by decide) (by decide)) (g := (mkF m 1 #[.val (.ref a1), .val (.int p2), .val (.int p3), .val (.int p4), .val (.int p5), .val (.int p6), .unset, .unset, .unset, .unset] [(.ref a1)])) rfl (by rw [hml]; rfl) (argsL := [(.ref a1)]) (rest := []) (lenOf pd_409 rfl) rfl (by show 2 * 0 + _ ≤ _; exact Nat.le_of_eq rfl) (hb hby d33_1) (fun _ _ => ⟨rfl, e0, (by decide : 0 + 0 ≤ _), (by decide : 0 + 0 ≤ _)⟩)
  dsimp only [Pt.U, Pt.locs, Pt.cells, Pt.slots] at X1 l1 y1 z1 st1 hQ1
  subst y1 z1
  obtain ⟨rfl, N1q, e1⟩ := hQ1
  have N2 : Fr n0 L1 := by rw [l1]; exact Fr.app N0 N1q
  -- pc 7: SubjectLines.mask by rmmsk
  obtain ⟨_, _, ⟨T3, L3, ck3, cn3⟩, -, X3, ⟨Lc3, hQ3, l3, y3, z3⟩, st3⟩ := Jvm.LawKit.callS X1 hx (y := (⟨KS, "mask", "([I)I"⟩ : MethodName)) hown (mvT hZ (own_w hw (i := 193) rfl)) (mvT hZ (own_w hw (i := 194) rfl)) (mvT hZ (own_w hw (i := 32) rfl)) (mvT hZ (own_w hw (i := 195) rfl)) (by decide) (backOf (W := 0) (rmmsk l Z a0 hw [] a1 kr r0 r1 r2 r3 r4 r5 r6 r7 (0 : Int32) r9 r10 r11 r12 r13 r14 r15 r16 r17 r18 r19 h0 n0 Z0 V_a1) hZ (own_w hw (i := 195) rfl) (own_w hw (i := 32) rfl) (by decide) (by decide)) (g := (mkF m 7 #[.val (.ref a1), .val (.int p2), .val (.int p3), .val (.int p4), .val (.int p5), .val (.int p6), .val (.int 1), .unset, .unset, .unset] [(.ref a1)])) rfl (by rw [hml]; rfl) (argsL := [(.ref a1)]) (rest := []) (lenOf pd_396 rfl) rfl (by show 2 * 0 + _ ≤ _; exact Nat.le_of_eq rfl) (hb hby d33_7) (fun _ _ => ⟨rfl, e1, (by decide : 0 + 0 ≤ _), (by decide : 0 + 0 ≤ _)⟩)
  dsimp only [Pt.U, Pt.locs, Pt.cells, Pt.slots] at X3 l3 y3 z3 st3 hQ3
  subst y3 z3
  obtain ⟨rfl, N3q, e3⟩ := hQ3
  have N4 : Fr n0 L3 := by rw [l3]; exact Fr.app N2 N3q
  obtain ⟨car5, Aar5, qar5, Sar5, Nar5, Har5, Gar5⟩ := id V_a1
  obtain ⟨car6, Aar6, qar6, Sar6, Nar6, Har6, Gar6⟩ := id V_a1
  have hinar6 : ¬ ((8 : Int32) < 0 ∨ car6.slots.size ≤ ((8 : Int32)).toNatClampNeg) := inb_of Sar6 ⟨by decide, by decide⟩
  have hatar6 : car6.slots[((8 : Int32)).toNatClampNeg]? = some (.int 0) := Har6.at hinar6 rfl
  obtain ⟨fs, hr, hrun, hended, hW, hsame⟩ := X3.leave (v := some (.int 8)) (fun h => by rw [Bd.returns] at h; cases h) Bd.notSynchronized
  refine ⟨_, _, pre0 _ ?_, hrun, hended, _, _, rfl, ?_, ⟨_, rfl⟩, hW, hsame.mono (by decide) (by decide)⟩
  · show Steps p.tables e below (s₁.setTop (mkF m 0 #[.val (.ref a1), .val (.int p2), .val (.int p3), .val (.int p4), .val (.int p5), .val (.int p6), .unset, .unset, .unset, .unset] [])) _
    refine XS.aloadN X0.here hx rfl (hb hby d33_0) rfl rfl ?_
    refine st1 _ ?_
    refine XS.istore X1.here hx rfl (hb hby d33_4) rfl (l' := #[.val (.ref a1), .val (.int p2), .val (.int p3), .val (.int p4), .val (.int p5), .val (.int p6), .val (.int 1), .unset, .unset, .unset]) rfl ?_
    refine XS.aloadN X1.here hx rfl (hb hby d33_6) rfl rfl ?_
    refine st3 _ ?_
    refine XS.istore X3.here hx rfl (hb hby d33_10) rfl (l' := #[.val (.ref a1), .val (.int p2), .val (.int p3), .val (.int p4), .val (.int p5), .val (.int p6), .val (.int 1), .val (.int 1), .unset, .unset]) rfl ?_
    refine XS.iload X3.here hx rfl (hb hby d33_12) rfl ?_
    show Steps p.tables e below (T3.setTop (mkF m 14 #[.val (.ref a1), .val (.int p2), .val (.int p3), .val (.int p4), .val (.int p5), .val (.int p6), .val (.int 1), .val (.int 1), .unset, .unset] [(.int 1)])) _
    refine XS.ifNo X3.here hx rfl (hb hby d33_14) rfl ((if0 _ _).trans (feq (by decide : ¬ ((1 : Int32) = (0 : Int32)))).1) ?_
    show Steps p.tables e below (T3.setTop (mkF m 17 #[.val (.ref a1), .val (.int p2), .val (.int p3), .val (.int p4), .val (.int p5), .val (.int p6), .val (.int 1), .val (.int 1), .unset, .unset] [])) _
    refine XS.iconst X3.here hx rfl (hb hby d33_17) ?_
    refine XS.goto X3.here hx rfl (pc0 := 18) (pc' := 27) rfl (hb hby d33_18) (by decide) (by decide) ?_
    refine XS.istore X3.here hx rfl (hb hby d33_27) rfl (l' := #[.val (.ref a1), .val (.int p2), .val (.int p3), .val (.int p4), .val (.int p5), .val (.int p6), .val (.int 1), .val (.int 1), .val (.int 0), .unset]) rfl ?_
    refine XS.bipush X3.here hx rfl (hb hby d33_29) ?_
    refine XS.iload X3.here hx rfl (hb hby d33_31) rfl ?_
    refine XS.bipush X3.here hx rfl (hb hby d33_33) ?_
    refine XS.imul X3.here hx rfl (hb hby d33_35) rfl ?_
    refine XS.iadd X3.here hx rfl (hb hby d33_36) rfl ?_
    show Steps p.tables e below (T3.setTop (mkF m 37 #[.val (.ref a1), .val (.int p2), .val (.int p3), .val (.int p4), .val (.int p5), .val (.int p6), .val (.int 1), .val (.int 1), .val (.int 0), .unset] [(.int 8)])) _
    refine XS.istore X3.here hx rfl (hb hby d33_37) rfl (l' := #[.val (.ref a1), .val (.int p2), .val (.int p3), .val (.int p4), .val (.int p5), .val (.int p6), .val (.int 1), .val (.int 1), .val (.int 0), .val (.int 8)]) rfl ?_
    refine XS.iload X3.here hx rfl (hb hby d33_39) rfl ?_
    refine XS.aloadN X3.here hx rfl (hb hby d33_41) rfl rfl ?_
    refine X3.arraylength hx (by rw [e3]; exact Aar5.1) (State.isArrayOf_alike hZ.alike Aar5.2.1) (g := (mkF m 42 #[.val (.ref a1), .val (.int p2), .val (.int p3), .val (.int p4), .val (.int p5), .val (.int p6), .val (.int 1), .val (.int 1), .val (.int 0), .val (.int 8)] [(.ref a1), (.int 8)])) rfl rfl (hb hby d33_42) _ ?_
    rw [len_of Sar5 Nar5]
    show Steps p.tables e below (T3.setTop (mkF m 43 #[.val (.ref a1), .val (.int p2), .val (.int p3), .val (.int p4), .val (.int p5), .val (.int p6), .val (.int 1), .val (.int 1), .val (.int 0), .val (.int 8)] [(.int 20), (.int 8)])) _
    refine XS.icmpNo X3.here hx rfl (hb hby d33_43) rfl (tlt (by decide : (8 : Int32) < (20 : Int32))).2.1 ?_
    refine XS.aloadN X3.here hx rfl (hb hby d33_46) rfl rfl ?_
    refine XS.iload X3.here hx rfl (hb hby d33_47) rfl ?_
    refine X3.iaload hx (j := (8 : Int32)) (v := (.int 0)) (by rw [e3]; exact Aar6.1) (State.isArrayOf_alike hZ.alike Aar6.2.1) Aar6.2.2 hinar6 hatar6 (g := (mkF m 49 #[.val (.ref a1), .val (.int p2), .val (.int p3), .val (.int p4), .val (.int p5), .val (.int p6), .val (.int 1), .val (.int 1), .val (.int 0), .val (.int 8)] [(.int 8), (.ref a1)])) rfl rfl (hb hby d33_49) _ ?_
    show Steps p.tables e below (T3.setTop (mkF m 50 #[.val (.ref a1), .val (.int p2), .val (.int p3), .val (.int p4), .val (.int p5), .val (.int p6), .val (.int 1), .val (.int 1), .val (.int 0), .val (.int 8)] [(.int 0)])) _
    refine XS.ifYes X3.here hx rfl (pc0 := 50) (pc' := 141) rfl (hb hby d33_50) rfl ((if0 _ _).trans (teq (by decide : (0 : Int32) = (0 : Int32))).1) (by decide) (by decide) ?_
    refine XS.iload X3.here hx rfl (hb hby d33_141) rfl ?_
    exact retI X3 hx Bd.returns (hb hby d33_143) hr
  · show Qpl Z a1 p2 p3 p4 p5 p6 kr r0 r1 r2 r3 r4 r5 r6 r7 r9 r10 r11 r12 r13 r14 r15 r16 r17 r18 r19 h0 n0 _ T3.heap _
    rw [e3]
    exact ⟨rfl, N4, rfl⟩
theorem d37_0 : decode prog_18_method_12_code 0 = .ok (.aload_n 1, 1) := by decide +kernel
theorem d37_1 : decode prog_18_method_12_code 1 = .ok (.iconst 2, 1) := by decide +kernel
theorem d37_2 : decode prog_18_method_12_code 2 = .ok (.iaload, 1) := by decide +kernel
theorem d37_3 : decode prog_18_method_12_code 3 = .ok (.aload_n 3, 1) := by decide +kernel
theorem d37_4 : decode prog_18_method_12_code 4 = .ok (.invokevirtual 95, 3) := by decide +kernel
theorem pd_440 : parseMethodDescriptor "()J" = some ⟨[], some .long⟩ := by decide +kernel
theorem d37_7 : decode prog_18_method_12_code 7 = .ok (.l2i, 1) := by decide +kernel
theorem d37_8 : decode prog_18_method_12_code 8 = .ok (.if_icmp .ne 96, 3) := by decide +kernel
theorem d37_11 : decode prog_18_method_12_code 11 = .ok (.aload_n 1, 1) := by decide +kernel
theorem d37_12 : decode prog_18_method_12_code 12 = .ok (.iconst 3, 1) := by decide +kernel
theorem d37_13 : decode prog_18_method_12_code 13 = .ok (.iaload, 1) := by decide +kernel
theorem d37_14 : decode prog_18_method_12_code 14 = .ok (.aload_n 3, 1) := by decide +kernel
theorem d37_15 : decode prog_18_method_12_code 15 = .ok (.invokevirtual 95, 3) := by decide +kernel
theorem d37_18 : decode prog_18_method_12_code 18 = .ok (.bipush 32, 2) := by decide +kernel
theorem d37_20 : decode prog_18_method_12_code 20 = .ok (.lushr, 1) := by decide +kernel
theorem d37_21 : decode prog_18_method_12_code 21 = .ok (.l2i, 1) := by decide +kernel
theorem d37_22 : decode prog_18_method_12_code 22 = .ok (.if_icmp .ne 82, 3) := by decide +kernel
theorem d37_25 : decode prog_18_method_12_code 25 = .ok (.aload_n 1, 1) := by decide +kernel
theorem d37_26 : decode prog_18_method_12_code 26 = .ok (.iconst 4, 1) := by decide +kernel
theorem d37_27 : decode prog_18_method_12_code 27 = .ok (.iaload, 1) := by decide +kernel
theorem d37_28 : decode prog_18_method_12_code 28 = .ok (.aload_n 3, 1) := by decide +kernel
theorem d37_29 : decode prog_18_method_12_code 29 = .ok (.invokevirtual 99, 3) := by decide +kernel
theorem d37_32 : decode prog_18_method_12_code 32 = .ok (.l2i, 1) := by decide +kernel
theorem d37_33 : decode prog_18_method_12_code 33 = .ok (.if_icmp .ne 71, 3) := by decide +kernel
theorem d37_36 : decode prog_18_method_12_code 36 = .ok (.aload_n 1, 1) := by decide +kernel
theorem d37_37 : decode prog_18_method_12_code 37 = .ok (.iconst 5, 1) := by decide +kernel
theorem d37_38 : decode prog_18_method_12_code 38 = .ok (.iaload, 1) := by decide +kernel
theorem d37_39 : decode prog_18_method_12_code 39 = .ok (.aload_n 3, 1) := by decide +kernel
theorem d37_40 : decode prog_18_method_12_code 40 = .ok (.invokevirtual 99, 3) := by decide +kernel
theorem d37_43 : decode prog_18_method_12_code 43 = .ok (.bipush 32, 2) := by decide +kernel
theorem d37_45 : decode prog_18_method_12_code 45 = .ok (.lushr, 1) := by decide +kernel
theorem d37_46 : decode prog_18_method_12_code 46 = .ok (.l2i, 1) := by decide +kernel
theorem d37_47 : decode prog_18_method_12_code 47 = .ok (.if_icmp .ne 57, 3) := by decide +kernel
theorem d37_50 : decode prog_18_method_12_code 50 = .ok (.aload_n 1, 1) := by decide +kernel
theorem d37_51 : decode prog_18_method_12_code 51 = .ok (.bipush 6, 2) := by decide +kernel
theorem d37_53 : decode prog_18_method_12_code 53 = .ok (.iaload, 1) := by decide +kernel
theorem d37_54 : decode prog_18_method_12_code 54 = .ok (.aload_n 3, 1) := by decide +kernel
theorem d37_55 : decode prog_18_method_12_code 55 = .ok (.invokevirtual 102, 3) := by decide +kernel
theorem d37_58 : decode prog_18_method_12_code 58 = .ok (.l2i, 1) := by decide +kernel
theorem d37_59 : decode prog_18_method_12_code 59 = .ok (.if_icmp .ne 45, 3) := by decide +kernel
theorem d37_62 : decode prog_18_method_12_code 62 = .ok (.aload_n 1, 1) := by decide +kernel
theorem d37_63 : decode prog_18_method_12_code 63 = .ok (.bipush 7, 2) := by decide +kernel
theorem d37_65 : decode prog_18_method_12_code 65 = .ok (.iaload, 1) := by decide +kernel
theorem d37_66 : decode prog_18_method_12_code 66 = .ok (.aload_n 3, 1) := by decide +kernel
theorem d37_67 : decode prog_18_method_12_code 67 = .ok (.invokevirtual 102, 3) := by decide +kernel
theorem d37_70 : decode prog_18_method_12_code 70 = .ok (.bipush 32, 2) := by decide +kernel
theorem d37_72 : decode prog_18_method_12_code 72 = .ok (.lushr, 1) := by decide +kernel
theorem d37_73 : decode prog_18_method_12_code 73 = .ok (.l2i, 1) := by decide +kernel
theorem d37_74 : decode prog_18_method_12_code 74 = .ok (.if_icmp .ne 30, 3) := by decide +kernel
theorem d37_77 : decode prog_18_method_12_code 77 = .ok (.aload_n 3, 1) := by decide +kernel
theorem d37_78 : decode prog_18_method_12_code 78 = .ok (.invokevirtual 107, 3) := by decide +kernel
theorem d37_81 : decode prog_18_method_12_code 81 = .ok (.ifCond .ne 19, 3) := by decide +kernel
theorem d37_100 : decode prog_18_method_12_code 100 = .ok (.iconst 1, 1) := by decide +kernel
theorem d37_101 : decode prog_18_method_12_code 101 = .ok (.goto 4, 3) := by decide +kernel
theorem d37_105 : decode prog_18_method_12_code 105 = .ok (.ireturn, 1) := by decide +kernel
theorem ef_ho (m : MethodId) (x0 : Addr) (x1 : Addr) (x2 : Int32) (x3 : Addr) : entryFrame m #[(.ref x0), (.ref x1), (.int x2), (.ref x3)] 4 = mkF m 0 #[.val (.ref x0), .val (.ref x1), .val (.int x2), .val (.ref x3)] [] := by first | (simp [entryFrame, mkF, argsToLocals, Value.category]; done) | rfl
abbrev R_ho : Room := { frames := 1, cells := 0, slots := 0, locals := 13 }
def Qho (Z : State) (a1 : Addr) (a2 : Addr) (p3 : Int32) (a4 : Addr) (hu : Int32) (k1 : Int64) (kr : ClassId) (r0 : Int32) (r1 : Int32) (r8 : Int32) (r9 : Int32) (r10 : Int32) (r11 : Int32) (r12 : Int32) (r13 : Int32) (r14 : Int32) (r15 : Int32) (r16 : Int32) (r17 : Int32) (r18 : Int32) (r19 : Int32) (h0 : Heap) (n0 : Nat) (v : Option Value) (h : Heap) (L : List Loc) : Prop := v = some (.int 1) ∧ Fr n0 L ∧ h = h0
set_option maxRecDepth 65536 in
set_option maxHeartbeats 40000000 in
theorem rmho (l : Launch) (Z : State) (a0 : Array Value) (hw : ∀ d ∈ tables_1, d.before a0 Z = true) (ws : List Jvm.Cond) (a1 : Addr) (a2 : Addr) (p3 : Int32) (a4 : Addr) (hu : Int32) (k1 : Int64) (kr : ClassId) (r0 : Int32) (r1 : Int32) (r8 : Int32) (r9 : Int32) (r10 : Int32) (r11 : Int32) (r12 : Int32) (r13 : Int32) (r14 : Int32) (r15 : Int32) (r16 : Int32) (r17 : Int32) (r18 : Int32) (r19 : Int32) (h0 : Heap) (n0 : Nat) (Z0 : n0 ≤ h0.size) (E_a4 : Exa Z h0 a4 KK) (F_hash_a4 : Fld Z h0 a4 KK "hash" "I" (.int hu)) (F_first_a4 : Fld Z h0 a4 KK "first" "J" (.long k1)) (F_second_a4 : Fld Z h0 a4 KK "second" "J" (.long 0)) (F_third_a4 : Fld Z h0 a4 KK "third" "J" (.long 0)) (V_a2 : Arv Z h0 a2 kr .int (20 : Int32) [(.int r0), (.int r1), (.int (k1.toInt32)), (.int (((k1.toUInt64 >>> ((32 : Int32) &&& 0x3f).toInt64.toUInt64).toInt64).toInt32)), (.int 0), (.int 0), (.int 0), (.int 0), (.int r8), (.int r9), (.int r10), (.int r11), (.int r12), (.int r13), (.int r14), (.int r15), (.int r16), (.int r17), (.int r18), (.int r19)] (.int 0)) (hk : ¬ (k1 = (255 : Int64))) :
    MetFree l (⟨KS, "holds", "([IILcom/example/explicit_grants/explicitgrants/Interner$Key;)Z"⟩ : MethodName) (head1 (Jvm.Cond.code (⟨KS, "holds", "([IILcom/example/explicit_grants/explicitgrants/Interner$Key;)Z"⟩ : MethodName) prog_18_method_12_code 4 (some .boolean) :: ws) R_ho) (fun a U => a = #[(.ref a1), (.ref a2), (.int p3), (.ref a4)] ∧ Z.Warmed39 U.vm ∧ U.heap = h0) (fun _ _ _ _ _ => True) (fun _ U o U' => ∃ v L, o = .returned v ∧ Qho Z a1 a2 p3 a4 hu k1 kr r0 r1 r8 r9 r10 r11 r12 r13 r14 r15 r16 r17 r18 r19 h0 n0 v U'.heap L ∧ FrameEnd U o U' L R_ho.cells R_ho.slots) := by
  refine MetFree.of_bodySF (plainFor_of_name pn_386) hisR ?_
  intro p e s m args below meth c s₁ Bd hml0 hP hK
  obtain ⟨rfl, hZ, hh⟩ := hP
  have hx := Bd.exec
  have hby := Bd.bytes
  have hml : c.maxLocals = 4 := hml0
  have hown : s.vm.findClass KS = some m.cls := findClass_of_methodNamed Bd.named
  have hnm := (name_of_methodNamed Bd.named Bd.method).1
  have X0 : Stand p l e R_ho s m #[(.ref a1), (.ref a2), (.int p3), (.ref a4)] below meth c s₁ [] 0 0 := Stand.of_body Bd
  have e0 : s₁.heap = h0 := by rw [← hh, Bd.state]; rfl
  have N0 := Fr.nil n0
  have pre0 : ∀ t, Steps p.tables e below (s₁.setTop (mkF m 0 #[.val (.ref a1), .val (.ref a2), .val (.int p3), .val (.ref a4)] [])) t → Steps p.tables e below (s₁.setTop (entryFrame m #[(.ref a1), (.ref a2), (.int p3), (.ref a4)] 4)) t := fun t k => castTop (ef_ho m a1 a2 p3 a4) k
  obtain ⟨car1, Aar1, qar1, Sar1, Nar1, Har1, Gar1⟩ := id V_a2
  have hinar1 : ¬ ((2 : Int32) < 0 ∨ car1.slots.size ≤ ((2 : Int32)).toNatClampNeg) := inb_of Sar1 ⟨by decide, by decide⟩
  have hatar1 : car1.slots[((2 : Int32)).toNatClampNeg]? = some (.int (k1.toInt32)) := Har1.at hinar1 rfl
  -- pc 4: Interner$Key.first by rmgk1
  obtain ⟨cq2, kq2, q2a, q2b, q2c⟩ := isOf hZ e0 E_a4
  obtain ⟨_, _, ⟨T2, L2, ck2, cn2⟩, -, X2, ⟨Lc2, hQ2, l2, y2, z2⟩, st2⟩ := X0.virtualBack hx (y := (⟨KK, "first", "()J"⟩ : MethodName)) (z := (⟨KK, "first", "()J"⟩ : MethodName)) hown (mvT hZ (own_w hw (i := 168) rfl)) (mvT hZ (own_w hw (i := 169) rfl)) (notFace_of_selects (args := #[]) (mvT hZ (own_w hw (i := 171) rfl))) (mvT hZ (own_w hw (i := 171) rfl)) (mvT hZ (own_w hw (i := 170) rfl)) (by decide) (backOf (W := 1) (rmgk1 l Z a0 hw [] a4 k1 h0 n0 Z0 F_first_a4) hZ (own_w hw (i := 172) rfl) (own_w hw (i := 55) rfl) (by decide) (by decide)) q2a q2c (g := (mkF m 4 #[.val (.ref a1), .val (.ref a2), .val (.int p3), .val (.ref a4)] [(.ref a4), (.int (k1.toInt32))])) rfl (by rw [hml]; rfl) (Steps.refl _) (argsL := []) (rest := [(.int (k1.toInt32))]) (lenOf pd_440 rfl) rfl (by show 2 * 0 + _ ≤ _; exact Nat.le_of_eq rfl) (hb hby d37_4) (fun _ _ => ⟨rfl, e0, (by decide : 0 + 0 ≤ _), (by decide : 0 + 0 ≤ _)⟩)
  dsimp only [Pt.U, Pt.locs, Pt.cells, Pt.slots] at X2 l2 y2 z2 st2 hQ2
  subst y2 z2
  obtain ⟨rfl, N2q, e2⟩ := hQ2
  have N3 : Fr n0 L2 := by rw [l2]; exact Fr.app N0 N2q
  obtain ⟨car4, Aar4, qar4, Sar4, Nar4, Har4, Gar4⟩ := id V_a2
  have hinar4 : ¬ ((3 : Int32) < 0 ∨ car4.slots.size ≤ ((3 : Int32)).toNatClampNeg) := inb_of Sar4 ⟨by decide, by decide⟩
  have hatar4 : car4.slots[((3 : Int32)).toNatClampNeg]? = some (.int (((k1.toUInt64 >>> ((32 : Int32) &&& 0x3f).toInt64.toUInt64).toInt64).toInt32)) := Har4.at hinar4 rfl
  -- pc 15: Interner$Key.first by rmgk1
  obtain ⟨cq5, kq5, q5a, q5b, q5c⟩ := isOf hZ e2 E_a4
  obtain ⟨_, _, ⟨T5, L5, ck5, cn5⟩, -, X5, ⟨Lc5, hQ5, l5, y5, z5⟩, st5⟩ := X2.virtualBack hx (y := (⟨KK, "first", "()J"⟩ : MethodName)) (z := (⟨KK, "first", "()J"⟩ : MethodName)) hown (mvT hZ (own_w hw (i := 168) rfl)) (mvT hZ (own_w hw (i := 169) rfl)) (notFace_of_selects (args := #[]) (mvT hZ (own_w hw (i := 171) rfl))) (mvT hZ (own_w hw (i := 171) rfl)) (mvT hZ (own_w hw (i := 170) rfl)) (by decide) (backOf (W := 1) (rmgk1 l Z a0 hw [] a4 k1 h0 n0 Z0 F_first_a4) hZ (own_w hw (i := 172) rfl) (own_w hw (i := 55) rfl) (by decide) (by decide)) q5a q5c (g := (mkF m 15 #[.val (.ref a1), .val (.ref a2), .val (.int p3), .val (.ref a4)] [(.ref a4), (.int (((k1.toUInt64 >>> ((32 : Int32) &&& 0x3f).toInt64.toUInt64).toInt64).toInt32))])) rfl (by rw [hml]; rfl) (Steps.refl _) (argsL := []) (rest := [(.int (((k1.toUInt64 >>> ((32 : Int32) &&& 0x3f).toInt64.toUInt64).toInt64).toInt32))]) (lenOf pd_440 rfl) rfl (by show 2 * 0 + _ ≤ _; exact Nat.le_of_eq rfl) (hb hby d37_15) (fun _ _ => ⟨rfl, e2, (by decide : 0 + 0 ≤ _), (by decide : 0 + 0 ≤ _)⟩)
  dsimp only [Pt.U, Pt.locs, Pt.cells, Pt.slots] at X5 l5 y5 z5 st5 hQ5
  subst y5 z5
  obtain ⟨rfl, N5q, e5⟩ := hQ5
  have N6 : Fr n0 L5 := by rw [l5]; exact Fr.app N3 N5q
  obtain ⟨car7, Aar7, qar7, Sar7, Nar7, Har7, Gar7⟩ := id V_a2
  have hinar7 : ¬ ((4 : Int32) < 0 ∨ car7.slots.size ≤ ((4 : Int32)).toNatClampNeg) := inb_of Sar7 ⟨by decide, by decide⟩
  have hatar7 : car7.slots[((4 : Int32)).toNatClampNeg]? = some (.int 0) := Har7.at hinar7 rfl
  -- pc 29: Interner$Key.second by rmgk2
  obtain ⟨cq8, kq8, q8a, q8b, q8c⟩ := isOf hZ e5 E_a4
  obtain ⟨_, _, ⟨T8, L8, ck8, cn8⟩, -, X8, ⟨Lc8, hQ8, l8, y8, z8⟩, st8⟩ := X5.virtualBack hx (y := (⟨KK, "second", "()J"⟩ : MethodName)) (z := (⟨KK, "second", "()J"⟩ : MethodName)) hown (mvT hZ (own_w hw (i := 173) rfl)) (mvT hZ (own_w hw (i := 174) rfl)) (notFace_of_selects (args := #[]) (mvT hZ (own_w hw (i := 176) rfl))) (mvT hZ (own_w hw (i := 176) rfl)) (mvT hZ (own_w hw (i := 175) rfl)) (by decide) (backOf (W := 1) (rmgk2 l Z a0 hw [] a4 (0 : Int64) h0 n0 Z0 F_second_a4) hZ (own_w hw (i := 177) rfl) (own_w hw (i := 55) rfl) (by decide) (by decide)) q8a q8c (g := (mkF m 29 #[.val (.ref a1), .val (.ref a2), .val (.int p3), .val (.ref a4)] [(.ref a4), (.int 0)])) rfl (by rw [hml]; rfl) (Steps.refl _) (argsL := []) (rest := [(.int 0)]) (lenOf pd_440 rfl) rfl (by show 2 * 0 + _ ≤ _; exact Nat.le_of_eq rfl) (hb hby d37_29) (fun _ _ => ⟨rfl, e5, (by decide : 0 + 0 ≤ _), (by decide : 0 + 0 ≤ _)⟩)
  dsimp only [Pt.U, Pt.locs, Pt.cells, Pt.slots] at X8 l8 y8 z8 st8 hQ8
  subst y8 z8
  obtain ⟨rfl, N8q, e8⟩ := hQ8
  have N9 : Fr n0 L8 := by rw [l8]; exact Fr.app N6 N8q
  obtain ⟨car10, Aar10, qar10, Sar10, Nar10, Har10, Gar10⟩ := id V_a2
  have hinar10 : ¬ ((5 : Int32) < 0 ∨ car10.slots.size ≤ ((5 : Int32)).toNatClampNeg) := inb_of Sar10 ⟨by decide, by decide⟩
  have hatar10 : car10.slots[((5 : Int32)).toNatClampNeg]? = some (.int 0) := Har10.at hinar10 rfl
  -- pc 40: Interner$Key.second by rmgk2
  obtain ⟨cq11, kq11, q11a, q11b, q11c⟩ := isOf hZ e8 E_a4
  obtain ⟨_, _, ⟨T11, L11, ck11, cn11⟩, -, X11, ⟨Lc11, hQ11, l11, y11, z11⟩, st11⟩ := X8.virtualBack hx (y := (⟨KK, "second", "()J"⟩ : MethodName)) (z := (⟨KK, "second", "()J"⟩ : MethodName)) hown (mvT hZ (own_w hw (i := 173) rfl)) (mvT hZ (own_w hw (i := 174) rfl)) (notFace_of_selects (args := #[]) (mvT hZ (own_w hw (i := 176) rfl))) (mvT hZ (own_w hw (i := 176) rfl)) (mvT hZ (own_w hw (i := 175) rfl)) (by decide) (backOf (W := 1) (rmgk2 l Z a0 hw [] a4 (0 : Int64) h0 n0 Z0 F_second_a4) hZ (own_w hw (i := 177) rfl) (own_w hw (i := 55) rfl) (by decide) (by decide)) q11a q11c (g := (mkF m 40 #[.val (.ref a1), .val (.ref a2), .val (.int p3), .val (.ref a4)] [(.ref a4), (.int 0)])) rfl (by rw [hml]; rfl) (Steps.refl _) (argsL := []) (rest := [(.int 0)]) (lenOf pd_440 rfl) rfl (by show 2 * 0 + _ ≤ _; exact Nat.le_of_eq rfl) (hb hby d37_40) (fun _ _ => ⟨rfl, e8, (by decide : 0 + 0 ≤ _), (by decide : 0 + 0 ≤ _)⟩)
  dsimp only [Pt.U, Pt.locs, Pt.cells, Pt.slots] at X11 l11 y11 z11 st11 hQ11
  subst y11 z11
  obtain ⟨rfl, N11q, e11⟩ := hQ11
  have N12 : Fr n0 L11 := by rw [l11]; exact Fr.app N9 N11q
  obtain ⟨car13, Aar13, qar13, Sar13, Nar13, Har13, Gar13⟩ := id V_a2
  have hinar13 : ¬ ((6 : Int32) < 0 ∨ car13.slots.size ≤ ((6 : Int32)).toNatClampNeg) := inb_of Sar13 ⟨by decide, by decide⟩
  have hatar13 : car13.slots[((6 : Int32)).toNatClampNeg]? = some (.int 0) := Har13.at hinar13 rfl
  -- pc 55: Interner$Key.third by rmgk3
  obtain ⟨cq14, kq14, q14a, q14b, q14c⟩ := isOf hZ e11 E_a4
  obtain ⟨_, _, ⟨T14, L14, ck14, cn14⟩, -, X14, ⟨Lc14, hQ14, l14, y14, z14⟩, st14⟩ := X11.virtualBack hx (y := (⟨KK, "third", "()J"⟩ : MethodName)) (z := (⟨KK, "third", "()J"⟩ : MethodName)) hown (mvT hZ (own_w hw (i := 178) rfl)) (mvT hZ (own_w hw (i := 179) rfl)) (notFace_of_selects (args := #[]) (mvT hZ (own_w hw (i := 181) rfl))) (mvT hZ (own_w hw (i := 181) rfl)) (mvT hZ (own_w hw (i := 180) rfl)) (by decide) (backOf (W := 1) (rmgk3 l Z a0 hw [] a4 (0 : Int64) h0 n0 Z0 F_third_a4) hZ (own_w hw (i := 182) rfl) (own_w hw (i := 55) rfl) (by decide) (by decide)) q14a q14c (g := (mkF m 55 #[.val (.ref a1), .val (.ref a2), .val (.int p3), .val (.ref a4)] [(.ref a4), (.int 0)])) rfl (by rw [hml]; rfl) (Steps.refl _) (argsL := []) (rest := [(.int 0)]) (lenOf pd_440 rfl) rfl (by show 2 * 0 + _ ≤ _; exact Nat.le_of_eq rfl) (hb hby d37_55) (fun _ _ => ⟨rfl, e11, (by decide : 0 + 0 ≤ _), (by decide : 0 + 0 ≤ _)⟩)
  dsimp only [Pt.U, Pt.locs, Pt.cells, Pt.slots] at X14 l14 y14 z14 st14 hQ14
  subst y14 z14
  obtain ⟨rfl, N14q, e14⟩ := hQ14
  have N15 : Fr n0 L14 := by rw [l14]; exact Fr.app N12 N14q
  obtain ⟨car16, Aar16, qar16, Sar16, Nar16, Har16, Gar16⟩ := id V_a2
  have hinar16 : ¬ ((7 : Int32) < 0 ∨ car16.slots.size ≤ ((7 : Int32)).toNatClampNeg) := inb_of Sar16 ⟨by decide, by decide⟩
  have hatar16 : car16.slots[((7 : Int32)).toNatClampNeg]? = some (.int 0) := Har16.at hinar16 rfl
  -- pc 67: Interner$Key.third by rmgk3
  obtain ⟨cq17, kq17, q17a, q17b, q17c⟩ := isOf hZ e14 E_a4
  obtain ⟨_, _, ⟨T17, L17, ck17, cn17⟩, -, X17, ⟨Lc17, hQ17, l17, y17, z17⟩, st17⟩ := X14.virtualBack hx (y := (⟨KK, "third", "()J"⟩ : MethodName)) (z := (⟨KK, "third", "()J"⟩ : MethodName)) hown (mvT hZ (own_w hw (i := 178) rfl)) (mvT hZ (own_w hw (i := 179) rfl)) (notFace_of_selects (args := #[]) (mvT hZ (own_w hw (i := 181) rfl))) (mvT hZ (own_w hw (i := 181) rfl)) (mvT hZ (own_w hw (i := 180) rfl)) (by decide) (backOf (W := 1) (rmgk3 l Z a0 hw [] a4 (0 : Int64) h0 n0 Z0 F_third_a4) hZ (own_w hw (i := 182) rfl) (own_w hw (i := 55) rfl) (by decide) (by decide)) q17a q17c (g := (mkF m 67 #[.val (.ref a1), .val (.ref a2), .val (.int p3), .val (.ref a4)] [(.ref a4), (.int 0)])) rfl (by rw [hml]; rfl) (Steps.refl _) (argsL := []) (rest := [(.int 0)]) (lenOf pd_440 rfl) rfl (by show 2 * 0 + _ ≤ _; exact Nat.le_of_eq rfl) (hb hby d37_67) (fun _ _ => ⟨rfl, e14, (by decide : 0 + 0 ≤ _), (by decide : 0 + 0 ≤ _)⟩)
  dsimp only [Pt.U, Pt.locs, Pt.cells, Pt.slots] at X17 l17 y17 z17 st17 hQ17
  subst y17 z17
  obtain ⟨rfl, N17q, e17⟩ := hQ17
  have N18 : Fr n0 L17 := by rw [l17]; exact Fr.app N15 N17q
  -- pc 78: Interner$Key.isPacked by rmip
  obtain ⟨cq19, kq19, q19a, q19b, q19c⟩ := isOf hZ e17 E_a4
  obtain ⟨_, _, ⟨T19, L19, ck19, cn19⟩, -, X19, ⟨Lc19, hQ19, l19, y19, z19⟩, st19⟩ := X17.virtualBack hx (y := (⟨KK, "isPacked", "()Z"⟩ : MethodName)) (z := (⟨KK, "isPacked", "()Z"⟩ : MethodName)) hown (mvT hZ (own_w hw (i := 200) rfl)) (mvT hZ (own_w hw (i := 201) rfl)) (notFace_of_selects (args := #[]) (mvT hZ (own_w hw (i := 203) rfl))) (mvT hZ (own_w hw (i := 203) rfl)) (mvT hZ (own_w hw (i := 202) rfl)) (by decide) (backOf (W := 0) (rmip l Z a0 hw [] a4 k1 h0 n0 Z0 F_first_a4 hk) hZ (own_w hw (i := 204) rfl) (own_w hw (i := 55) rfl) (by decide) (by decide)) q19a q19c (g := (mkF m 78 #[.val (.ref a1), .val (.ref a2), .val (.int p3), .val (.ref a4)] [(.ref a4)])) rfl (by rw [hml]; rfl) (Steps.refl _) (argsL := []) (rest := []) (lenOf pd_138 rfl) rfl (by show 2 * 0 + _ ≤ _; exact Nat.le_of_eq rfl) (hb hby d37_78) (fun _ _ => ⟨rfl, e17, (by decide : 0 + 0 ≤ _), (by decide : 0 + 0 ≤ _)⟩)
  dsimp only [Pt.U, Pt.locs, Pt.cells, Pt.slots] at X19 l19 y19 z19 st19 hQ19
  subst y19 z19
  obtain ⟨rfl, N19q, e19⟩ := hQ19
  have N20 : Fr n0 L19 := by rw [l19]; exact Fr.app N18 N19q
  obtain ⟨fs, hr, hrun, hended, hW, hsame⟩ := X19.leave (v := some (.int 1)) (fun h => by rw [Bd.returns] at h; cases h) Bd.notSynchronized
  refine ⟨_, _, pre0 _ ?_, hrun, hended, _, _, rfl, ?_, ⟨_, rfl⟩, hW, hsame.mono (by decide) (by decide)⟩
  · show Steps p.tables e below (s₁.setTop (mkF m 0 #[.val (.ref a1), .val (.ref a2), .val (.int p3), .val (.ref a4)] [])) _
    refine XS.aloadN X0.here hx rfl (hb hby d37_0) rfl rfl ?_
    refine XS.iconst X0.here hx rfl (hb hby d37_1) ?_
    refine X0.iaload hx (j := (2 : Int32)) (v := (.int (k1.toInt32))) (by rw [e0]; exact Aar1.1) (State.isArrayOf_alike hZ.alike Aar1.2.1) Aar1.2.2 hinar1 hatar1 (g := (mkF m 2 #[.val (.ref a1), .val (.ref a2), .val (.int p3), .val (.ref a4)] [(.int 2), (.ref a2)])) rfl rfl (hb hby d37_2) _ ?_
    refine XS.aloadN X0.here hx rfl (hb hby d37_3) rfl rfl ?_
    refine st2.trans ?_
    refine XS.l2i X2.here hx rfl (hb hby d37_7) rfl ?_
    show Steps p.tables e below (T2.setTop (mkF m 8 #[.val (.ref a1), .val (.ref a2), .val (.int p3), .val (.ref a4)] [(.int (k1.toInt32)), (.int (k1.toInt32))])) _
    refine XS.icmpNo X2.here hx rfl (hb hby d37_8) rfl (teq (rfl : (k1.toInt32) = (k1.toInt32))).2 ?_
    refine XS.aloadN X2.here hx rfl (hb hby d37_11) rfl rfl ?_
    show Steps p.tables e below (T2.setTop (mkF m 12 #[.val (.ref a1), .val (.ref a2), .val (.int p3), .val (.ref a4)] [(.ref a2)])) _
    refine XS.iconst X2.here hx rfl (hb hby d37_12) ?_
    refine X2.iaload hx (j := (3 : Int32)) (v := (.int (((k1.toUInt64 >>> ((32 : Int32) &&& 0x3f).toInt64.toUInt64).toInt64).toInt32))) (by rw [e2]; exact Aar4.1) (State.isArrayOf_alike hZ.alike Aar4.2.1) Aar4.2.2 hinar4 hatar4 (g := (mkF m 13 #[.val (.ref a1), .val (.ref a2), .val (.int p3), .val (.ref a4)] [(.int 3), (.ref a2)])) rfl rfl (hb hby d37_13) _ ?_
    refine XS.aloadN X2.here hx rfl (hb hby d37_14) rfl rfl ?_
    refine st5.trans ?_
    refine XS.bipush X5.here hx rfl (hb hby d37_18) ?_
    refine XS.lushr X5.here hx rfl (hb hby d37_20) rfl ?_
    refine XS.l2i X5.here hx rfl (hb hby d37_21) rfl ?_
    show Steps p.tables e below (T5.setTop (mkF m 22 #[.val (.ref a1), .val (.ref a2), .val (.int p3), .val (.ref a4)] [(.int (((k1.toUInt64 >>> ((32 : Int32) &&& 0x3f).toInt64.toUInt64).toInt64).toInt32)), (.int (((k1.toUInt64 >>> ((32 : Int32) &&& 0x3f).toInt64.toUInt64).toInt64).toInt32))])) _
    refine XS.icmpNo X5.here hx rfl (hb hby d37_22) rfl (teq (rfl : (((k1.toUInt64 >>> ((32 : Int32) &&& 0x3f).toInt64.toUInt64).toInt64).toInt32) = (((k1.toUInt64 >>> ((32 : Int32) &&& 0x3f).toInt64.toUInt64).toInt64).toInt32))).2 ?_
    show Steps p.tables e below (T5.setTop (mkF m 25 #[.val (.ref a1), .val (.ref a2), .val (.int p3), .val (.ref a4)] [])) _
    refine XS.aloadN X5.here hx rfl (hb hby d37_25) rfl rfl ?_
    refine XS.iconst X5.here hx rfl (hb hby d37_26) ?_
    refine X5.iaload hx (j := (4 : Int32)) (v := (.int 0)) (by rw [e5]; exact Aar7.1) (State.isArrayOf_alike hZ.alike Aar7.2.1) Aar7.2.2 hinar7 hatar7 (g := (mkF m 27 #[.val (.ref a1), .val (.ref a2), .val (.int p3), .val (.ref a4)] [(.int 4), (.ref a2)])) rfl rfl (hb hby d37_27) _ ?_
    refine XS.aloadN X5.here hx rfl (hb hby d37_28) rfl rfl ?_
    refine st8.trans ?_
    refine XS.l2i X8.here hx rfl (hb hby d37_32) rfl ?_
    show Steps p.tables e below (T8.setTop (mkF m 33 #[.val (.ref a1), .val (.ref a2), .val (.int p3), .val (.ref a4)] [(.int 0), (.int 0)])) _
    refine XS.icmpNo X8.here hx rfl (hb hby d37_33) rfl (teq (by decide : (0 : Int32) = (0 : Int32))).2 ?_
    refine XS.aloadN X8.here hx rfl (hb hby d37_36) rfl rfl ?_
    show Steps p.tables e below (T8.setTop (mkF m 37 #[.val (.ref a1), .val (.ref a2), .val (.int p3), .val (.ref a4)] [(.ref a2)])) _
    refine XS.iconst X8.here hx rfl (hb hby d37_37) ?_
    refine X8.iaload hx (j := (5 : Int32)) (v := (.int 0)) (by rw [e8]; exact Aar10.1) (State.isArrayOf_alike hZ.alike Aar10.2.1) Aar10.2.2 hinar10 hatar10 (g := (mkF m 38 #[.val (.ref a1), .val (.ref a2), .val (.int p3), .val (.ref a4)] [(.int 5), (.ref a2)])) rfl rfl (hb hby d37_38) _ ?_
    refine XS.aloadN X8.here hx rfl (hb hby d37_39) rfl rfl ?_
    refine st11.trans ?_
    refine XS.bipush X11.here hx rfl (hb hby d37_43) ?_
    refine XS.lushr X11.here hx rfl (hb hby d37_45) rfl ?_
    refine XS.l2i X11.here hx rfl (hb hby d37_46) rfl ?_
    show Steps p.tables e below (T11.setTop (mkF m 47 #[.val (.ref a1), .val (.ref a2), .val (.int p3), .val (.ref a4)] [(.int 0), (.int 0)])) _
    refine XS.icmpNo X11.here hx rfl (hb hby d37_47) rfl (teq (by decide : (0 : Int32) = (0 : Int32))).2 ?_
    show Steps p.tables e below (T11.setTop (mkF m 50 #[.val (.ref a1), .val (.ref a2), .val (.int p3), .val (.ref a4)] [])) _
    refine XS.aloadN X11.here hx rfl (hb hby d37_50) rfl rfl ?_
    refine XS.bipush X11.here hx rfl (hb hby d37_51) ?_
    refine X11.iaload hx (j := (6 : Int32)) (v := (.int 0)) (by rw [e11]; exact Aar13.1) (State.isArrayOf_alike hZ.alike Aar13.2.1) Aar13.2.2 hinar13 hatar13 (g := (mkF m 53 #[.val (.ref a1), .val (.ref a2), .val (.int p3), .val (.ref a4)] [(.int 6), (.ref a2)])) rfl rfl (hb hby d37_53) _ ?_
    refine XS.aloadN X11.here hx rfl (hb hby d37_54) rfl rfl ?_
    refine st14.trans ?_
    refine XS.l2i X14.here hx rfl (hb hby d37_58) rfl ?_
    show Steps p.tables e below (T14.setTop (mkF m 59 #[.val (.ref a1), .val (.ref a2), .val (.int p3), .val (.ref a4)] [(.int 0), (.int 0)])) _
    refine XS.icmpNo X14.here hx rfl (hb hby d37_59) rfl (teq (by decide : (0 : Int32) = (0 : Int32))).2 ?_
    refine XS.aloadN X14.here hx rfl (hb hby d37_62) rfl rfl ?_
    show Steps p.tables e below (T14.setTop (mkF m 63 #[.val (.ref a1), .val (.ref a2), .val (.int p3), .val (.ref a4)] [(.ref a2)])) _
    refine XS.bipush X14.here hx rfl (hb hby d37_63) ?_
    refine X14.iaload hx (j := (7 : Int32)) (v := (.int 0)) (by rw [e14]; exact Aar16.1) (State.isArrayOf_alike hZ.alike Aar16.2.1) Aar16.2.2 hinar16 hatar16 (g := (mkF m 65 #[.val (.ref a1), .val (.ref a2), .val (.int p3), .val (.ref a4)] [(.int 7), (.ref a2)])) rfl rfl (hb hby d37_65) _ ?_
    refine XS.aloadN X14.here hx rfl (hb hby d37_66) rfl rfl ?_
    refine st17.trans ?_
    refine XS.bipush X17.here hx rfl (hb hby d37_70) ?_
    refine XS.lushr X17.here hx rfl (hb hby d37_72) rfl ?_
    refine XS.l2i X17.here hx rfl (hb hby d37_73) rfl ?_
    show Steps p.tables e below (T17.setTop (mkF m 74 #[.val (.ref a1), .val (.ref a2), .val (.int p3), .val (.ref a4)] [(.int 0), (.int 0)])) _
    refine XS.icmpNo X17.here hx rfl (hb hby d37_74) rfl (teq (by decide : (0 : Int32) = (0 : Int32))).2 ?_
    show Steps p.tables e below (T17.setTop (mkF m 77 #[.val (.ref a1), .val (.ref a2), .val (.int p3), .val (.ref a4)] [])) _
    refine XS.aloadN X17.here hx rfl (hb hby d37_77) rfl rfl ?_
    refine st19.trans ?_
    show Steps p.tables e below (T19.setTop (mkF m 81 #[.val (.ref a1), .val (.ref a2), .val (.int p3), .val (.ref a4)] [(.int 1)])) _
    refine XS.ifYes X19.here hx rfl (pc0 := 81) (pc' := 100) rfl (hb hby d37_81) rfl ((if0 _ _).trans (feq (by decide : ¬ ((1 : Int32) = (0 : Int32)))).2) (by decide) (by decide) ?_
    refine XS.iconst X19.here hx rfl (hb hby d37_100) ?_
    refine XS.goto X19.here hx rfl (pc0 := 101) (pc' := 105) rfl (hb hby d37_101) (by decide) (by decide) ?_
    exact retN X19 hx (t := .boolean) Bd.returns (by simp) (hb hby d37_105) hr
  · show Qho Z a1 a2 p3 a4 hu k1 kr r0 r1 r8 r9 r10 r11 r12 r13 r14 r15 r16 r17 r18 r19 h0 n0 _ T19.heap _
    rw [e19]
    exact ⟨rfl, N20, rfl⟩
theorem d29_0 : decode prog_18_method_11_code 0 = .ok (.aload_n 0, 1) := by decide +kernel
theorem d29_1 : decode prog_18_method_11_code 1 = .ok (.getfield 14, 3) := by decide +kernel
theorem d29_4 : decode prog_18_method_11_code 4 = .ok (.arraylength, 1) := by decide +kernel
theorem d29_5 : decode prog_18_method_11_code 5 = .ok (.iconst 1, 1) := by decide +kernel
theorem d29_6 : decode prog_18_method_11_code 6 = .ok (.isub, 1) := by decide +kernel
theorem d29_7 : decode prog_18_method_11_code 7 = .ok (.istore_n 2, 1) := by decide +kernel
theorem d29_8 : decode prog_18_method_11_code 8 = .ok (.aload_n 1, 1) := by decide +kernel
theorem d29_9 : decode prog_18_method_11_code 9 = .ok (.invokevirtual 24, 3) := by decide +kernel
theorem d29_12 : decode prog_18_method_11_code 12 = .ok (.iload_n 2, 1) := by decide +kernel
theorem d29_13 : decode prog_18_method_11_code 13 = .ok (.iand, 1) := by decide +kernel
theorem d29_14 : decode prog_18_method_11_code 14 = .ok (.istore_n 3, 1) := by decide +kernel
theorem d29_15 : decode prog_18_method_11_code 15 = .ok (.aload_n 0, 1) := by decide +kernel
theorem d29_16 : decode prog_18_method_11_code 16 = .ok (.getfield 14, 3) := by decide +kernel
theorem d29_19 : decode prog_18_method_11_code 19 = .ok (.iload_n 3, 1) := by decide +kernel
theorem d29_20 : decode prog_18_method_11_code 20 = .ok (.aaload, 1) := by decide +kernel
theorem d29_21 : decode prog_18_method_11_code 21 = .ok (.ifnull 40, 3) := by decide +kernel
theorem d29_61 : decode prog_18_method_11_code 61 = .ok (.iload_n 3, 1) := by decide +kernel
theorem d29_62 : decode prog_18_method_11_code 62 = .ok (.ireturn, 1) := by decide +kernel
theorem ef_slE (m : MethodId) (x0 : Addr) (x1 : Addr) : entryFrame m #[(.ref x0), (.ref x1)] 4 = mkF m 0 #[.val (.ref x0), .val (.ref x1), .unset, .unset] [] := by first | (simp [entryFrame, mkF, argsToLocals, Value.category]; done) | rfl
abbrev R_slE : Room := { frames := 1, cells := 0, slots := 0, locals := 12 }
def QslE (Z : State) (a1 : Addr) (a2 : Addr) (hu : Int32) (aH : Addr) (aR : Addr) (aS : Addr) (kR : ClassId) (h0 : Heap) (n0 : Nat) (v : Option Value) (h : Heap) (L : List Loc) : Prop := v = some (.int (hu &&& (15 : Int32))) ∧ Fr n0 L ∧ h = h0
set_option maxRecDepth 65536 in
set_option maxHeartbeats 40000000 in
theorem rmslE (l : Launch) (Z : State) (a0 : Array Value) (hw : ∀ d ∈ tables_1, d.before a0 Z = true) (ws : List Jvm.Cond) (a1 : Addr) (a2 : Addr) (hu : Int32) (aH : Addr) (aR : Addr) (aS : Addr) (kR : ClassId) (h0 : Heap) (n0 : Nat) (Z0 : n0 ≤ h0.size) (E_a1 : Exa Z h0 a1 KS) (F_hashes_a1 : Fld Z h0 a1 KS "hashes" "[I" (.ref aH)) (F_records_a1 : Fld Z h0 a1 KS "records" "[[I" (.ref aR)) (F_subjects_a1 : Fld Z h0 a1 KS "subjects" "[Ljava/lang/String;" (.ref aS)) (E_a2 : Exa Z h0 a2 KK) (F_hash_a2 : Fld Z h0 a2 KK "hash" "I" (.int hu)) (V_aR : Arh Z h0 aR kR (.array .int) (16 : Int32) [] [] .null) :
    MetFree l (⟨KS, "slotOf", "(Lcom/example/explicit_grants/explicitgrants/Interner$Key;)I"⟩ : MethodName) (head1 (Jvm.Cond.code (⟨KS, "slotOf", "(Lcom/example/explicit_grants/explicitgrants/Interner$Key;)I"⟩ : MethodName) prog_18_method_11_code 4 (some .int) :: ws) R_slE) (fun a U => a = #[(.ref a1), (.ref a2)] ∧ Z.Warmed39 U.vm ∧ U.heap = h0) (fun _ _ _ _ _ => True) (fun _ U o U' => ∃ v L, o = .returned v ∧ QslE Z a1 a2 hu aH aR aS kR h0 n0 v U'.heap L ∧ FrameEnd U o U' L R_slE.cells R_slE.slots) := by
  refine MetFree.of_bodySF (plainFor_of_name pn_386) hisR ?_
  intro p e s m args below meth c s₁ Bd hml0 hP hK
  obtain ⟨rfl, hZ, hh⟩ := hP
  have hx := Bd.exec
  have hby := Bd.bytes
  have hml : c.maxLocals = 4 := hml0
  have hown : s.vm.findClass KS = some m.cls := findClass_of_methodNamed Bd.named
  have hnm := (name_of_methodNamed Bd.named Bd.method).1
  have X0 : Stand p l e R_slE s m #[(.ref a1), (.ref a2)] below meth c s₁ [] 0 0 := Stand.of_body Bd
  have e0 : s₁.heap = h0 := by rw [← hh, Bd.state]; rfl
  have N0 := Fr.nil n0
  have pre0 : ∀ t, Steps p.tables e below (s₁.setTop (mkF m 0 #[.val (.ref a1), .val (.ref a2), .unset, .unset] [])) t → Steps p.tables e below (s₁.setTop (entryFrame m #[(.ref a1), (.ref a2)] 4)) t := fun t k => castTop (ef_slE m a1 a2) k
  obtain ⟨T1, X1, e1, st1⟩ := getF X0 hx hZ hown (host := "") (Or.inl (own_w hw (i := 42) rfl)) Via.refl e0 F_records_a1 (g := (mkF m 1 #[.val (.ref a1), .val (.ref a2), .unset, .unset] [(.ref a1)])) rfl rfl (hb hby d29_1)
  obtain ⟨car2, Aar2, qar2, Sar2, Nar2, Har2, Gar2⟩ := id V_aR
  -- pc 9: Interner$Key.hash by rmgh
  obtain ⟨cq3, kq3, q3a, q3b, q3c⟩ := isOf hZ e1 E_a2
  obtain ⟨_, _, ⟨T3, L3, ck3, cn3⟩, -, X3, ⟨Lc3, hQ3, l3, y3, z3⟩, st3⟩ := X1.virtualBack hx (y := (⟨KK, "hash", "()I"⟩ : MethodName)) (z := (⟨KK, "hash", "()I"⟩ : MethodName)) hown (mvT hZ (own_w hw (i := 142) rfl)) (mvT hZ (own_w hw (i := 143) rfl)) (notFace_of_selects (args := #[]) (mvT hZ (own_w hw (i := 145) rfl))) (mvT hZ (own_w hw (i := 145) rfl)) (mvT hZ (own_w hw (i := 144) rfl)) (by decide) (backOf (W := 0) (rmgh l Z a0 hw [] a2 hu h0 n0 Z0 F_hash_a2) hZ (own_w hw (i := 146) rfl) (own_w hw (i := 55) rfl) (by decide) (by decide)) q3a q3c (g := (mkF m 9 #[.val (.ref a1), .val (.ref a2), .val (.int 15), .unset] [(.ref a2)])) rfl (by rw [hml]; rfl) (Steps.refl _) (argsL := []) (rest := []) (lenOf pd_230 rfl) rfl (by show 2 * 0 + _ ≤ _; exact Nat.le_of_eq rfl) (hb hby d29_9) (fun _ _ => ⟨rfl, e1, (by decide : 0 + 0 ≤ _), (by decide : 0 + 0 ≤ _)⟩)
  dsimp only [Pt.U, Pt.locs, Pt.cells, Pt.slots] at X3 l3 y3 z3 st3 hQ3
  subst y3 z3
  obtain ⟨rfl, N3q, e3⟩ := hQ3
  have N4 : Fr n0 L3 := by rw [l3]; exact Fr.app N0 N3q
  obtain ⟨T5, X5, e5, st5⟩ := getF X3 hx hZ hown (host := "") (Or.inl (own_w hw (i := 42) rfl)) Via.refl e3 F_records_a1 (g := (mkF m 16 #[.val (.ref a1), .val (.ref a2), .val (.int 15), .val (.int (hu &&& (15 : Int32)))] [(.ref a1)])) rfl rfl (hb hby d29_16)
  obtain ⟨car6, Aar6, qar6, Sar6, Nar6, Har6, Gar6⟩ := id V_aR
  have hinar6 : ¬ ((hu &&& (15 : Int32)) < 0 ∨ car6.slots.size ≤ ((hu &&& (15 : Int32))).toNatClampNeg) := inb_of Sar6 (own_sl _)
  have hatar6 : car6.slots[((hu &&& (15 : Int32))).toNatClampNeg]? = some .null := atH (hs := []) (vs := []) (dv := .null) Har6 hinar6 rfl
  obtain ⟨fs, hr, hrun, hended, hW, hsame⟩ := X5.leave (v := some (.int (hu &&& (15 : Int32)))) (fun h => by rw [Bd.returns] at h; cases h) Bd.notSynchronized
  refine ⟨_, _, pre0 _ ?_, hrun, hended, _, _, rfl, ?_, ⟨_, rfl⟩, hW, hsame.mono (by decide) (by decide)⟩
  · show Steps p.tables e below (s₁.setTop (mkF m 0 #[.val (.ref a1), .val (.ref a2), .unset, .unset] [])) _
    refine XS.aloadN X0.here hx rfl (hb hby d29_0) rfl rfl ?_
    refine st1 _ ?_
    refine X1.arraylength hx (by rw [e1]; exact Aar2.1) (State.isArrayOf_alike hZ.alike Aar2.2.1) (g := (mkF m 4 #[.val (.ref a1), .val (.ref a2), .unset, .unset] [(.ref aR)])) rfl rfl (hb hby d29_4) _ ?_
    rw [len_of Sar2 Nar2]
    refine XS.iconst X1.here hx rfl (hb hby d29_5) ?_
    refine XS.isub X1.here hx rfl (hb hby d29_6) rfl ?_
    refine XS.istoreN X1.here hx rfl (hb hby d29_7) rfl (l' := #[.val (.ref a1), .val (.ref a2), .val (.int 15), .unset]) rfl ?_
    refine XS.aloadN X1.here hx rfl (hb hby d29_8) rfl rfl ?_
    refine st3.trans ?_
    show Steps p.tables e below (T3.setTop (mkF m 12 #[.val (.ref a1), .val (.ref a2), .val (.int 15), .unset] [(.int hu)])) _
    refine XS.iloadN X3.here hx rfl (hb hby d29_12) rfl ?_
    refine XS.iand X3.here hx rfl (hb hby d29_13) rfl ?_
    refine XS.istoreN X3.here hx rfl (hb hby d29_14) rfl (l' := #[.val (.ref a1), .val (.ref a2), .val (.int 15), .val (.int (hu &&& (15 : Int32)))]) rfl ?_
    refine XS.aloadN X3.here hx rfl (hb hby d29_15) rfl rfl ?_
    refine st5 _ ?_
    refine XS.iloadN X5.here hx rfl (hb hby d29_19) rfl ?_
    refine X5.aaload hx (j := (hu &&& (15 : Int32))) (v := .null) (by rw [e5]; exact Aar6.1) (State.isArrayOf_alike hZ.alike Aar6.2.1) rfl Aar6.2.2 hinar6 hatar6 (g := (mkF m 20 #[.val (.ref a1), .val (.ref a2), .val (.int 15), .val (.int (hu &&& (15 : Int32)))] [(.int (hu &&& (15 : Int32))), (.ref aR)])) rfl rfl (hb hby d29_20) _ ?_
    refine XS.ifnullYes X5.here hx rfl (pc0 := 21) (pc' := 61) rfl (hb hby d29_21) rfl (by decide) (by decide) ?_
    show Steps p.tables e below (T5.setTop (mkF m 61 #[.val (.ref a1), .val (.ref a2), .val (.int 15), .val (.int (hu &&& (15 : Int32)))] [])) _
    refine XS.iloadN X5.here hx rfl (hb hby d29_61) rfl ?_
    exact retI X5 hx Bd.returns (hb hby d29_62) hr
  · show QslE Z a1 a2 hu aH aR aS kR h0 n0 _ T5.heap _
    rw [e5]
    exact ⟨rfl, N4, rfl⟩
theorem d29_24 : decode prog_18_method_11_code 24 = .ok (.aload_n 0, 1) := by decide +kernel
theorem d29_25 : decode prog_18_method_11_code 25 = .ok (.getfield 9, 3) := by decide +kernel
theorem d29_28 : decode prog_18_method_11_code 28 = .ok (.iload_n 3, 1) := by decide +kernel
theorem d29_29 : decode prog_18_method_11_code 29 = .ok (.iaload, 1) := by decide +kernel
theorem d29_30 : decode prog_18_method_11_code 30 = .ok (.aload_n 1, 1) := by decide +kernel
theorem d29_31 : decode prog_18_method_11_code 31 = .ok (.invokevirtual 24, 3) := by decide +kernel
theorem d29_34 : decode prog_18_method_11_code 34 = .ok (.if_icmp .ne 18, 3) := by decide +kernel
theorem d29_37 : decode prog_18_method_11_code 37 = .ok (.aload_n 0, 1) := by decide +kernel
theorem d29_38 : decode prog_18_method_11_code 38 = .ok (.aload_n 0, 1) := by decide +kernel
theorem d29_39 : decode prog_18_method_11_code 39 = .ok (.getfield 14, 3) := by decide +kernel
theorem d29_42 : decode prog_18_method_11_code 42 = .ok (.iload_n 3, 1) := by decide +kernel
theorem d29_43 : decode prog_18_method_11_code 43 = .ok (.aaload, 1) := by decide +kernel
theorem d29_44 : decode prog_18_method_11_code 44 = .ok (.iload_n 3, 1) := by decide +kernel
theorem d29_45 : decode prog_18_method_11_code 45 = .ok (.aload_n 1, 1) := by decide +kernel
theorem d29_46 : decode prog_18_method_11_code 46 = .ok (.invokevirtual 30, 3) := by decide +kernel
theorem pd_523 : parseMethodDescriptor "([IILcom/example/explicit_grants/explicitgrants/Interner$Key;)Z" = some ⟨[(.array .int), .int, (.object KK)], some .boolean⟩ := by decide +kernel
theorem d29_49 : decode prog_18_method_11_code 49 = .ok (.ifCond .ne 12, 3) := by decide +kernel
theorem ef_slO (m : MethodId) (x0 : Addr) (x1 : Addr) : entryFrame m #[(.ref x0), (.ref x1)] 4 = mkF m 0 #[.val (.ref x0), .val (.ref x1), .unset, .unset] [] := by first | (simp [entryFrame, mkF, argsToLocals, Value.category]; done) | rfl
abbrev R_slO : Room := { frames := 2, cells := 0, slots := 0, locals := 28 }
def QslO (Z : State) (a1 : Addr) (a2 : Addr) (hu : Int32) (k1 : Int64) (aH : Addr) (aR : Addr) (aS : Addr) (kH : ClassId) (kR : ClassId) (rc : Addr) (kr : ClassId) (r0 : Int32) (r1 : Int32) (r8 : Int32) (r9 : Int32) (r10 : Int32) (r11 : Int32) (r12 : Int32) (r13 : Int32) (r14 : Int32) (r15 : Int32) (r16 : Int32) (r17 : Int32) (r18 : Int32) (r19 : Int32) (h0 : Heap) (n0 : Nat) (v : Option Value) (h : Heap) (L : List Loc) : Prop := v = some (.int (hu &&& (15 : Int32))) ∧ Fr n0 L ∧ h = h0
set_option maxRecDepth 65536 in
set_option maxHeartbeats 40000000 in
theorem rmslO (l : Launch) (Z : State) (a0 : Array Value) (hw : ∀ d ∈ tables_1, d.before a0 Z = true) (ws : List Jvm.Cond) (a1 : Addr) (a2 : Addr) (hu : Int32) (k1 : Int64) (aH : Addr) (aR : Addr) (aS : Addr) (kH : ClassId) (kR : ClassId) (rc : Addr) (kr : ClassId) (r0 : Int32) (r1 : Int32) (r8 : Int32) (r9 : Int32) (r10 : Int32) (r11 : Int32) (r12 : Int32) (r13 : Int32) (r14 : Int32) (r15 : Int32) (r16 : Int32) (r17 : Int32) (r18 : Int32) (r19 : Int32) (h0 : Heap) (n0 : Nat) (Z0 : n0 ≤ h0.size) (E_a1 : Exa Z h0 a1 KS) (F_hashes_a1 : Fld Z h0 a1 KS "hashes" "[I" (.ref aH)) (F_records_a1 : Fld Z h0 a1 KS "records" "[[I" (.ref aR)) (F_subjects_a1 : Fld Z h0 a1 KS "subjects" "[Ljava/lang/String;" (.ref aS)) (E_a2 : Exa Z h0 a2 KK) (F_hash_a2 : Fld Z h0 a2 KK "hash" "I" (.int hu)) (F_first_a2 : Fld Z h0 a2 KK "first" "J" (.long k1)) (F_second_a2 : Fld Z h0 a2 KK "second" "J" (.long 0)) (F_third_a2 : Fld Z h0 a2 KK "third" "J" (.long 0)) (V_aH : Arh Z h0 aH kH .int (16 : Int32) [((hu &&& (15 : Int32)), (.int hu))] [] (.int 0)) (V_aR : Arh Z h0 aR kR (.array .int) (16 : Int32) [((hu &&& (15 : Int32)), (.ref rc))] [] .null) (V_rc : Arv Z h0 rc kr .int (20 : Int32) [(.int r0), (.int r1), (.int (k1.toInt32)), (.int (((k1.toUInt64 >>> ((32 : Int32) &&& 0x3f).toInt64.toUInt64).toInt64).toInt32)), (.int 0), (.int 0), (.int 0), (.int 0), (.int r8), (.int r9), (.int r10), (.int r11), (.int r12), (.int r13), (.int r14), (.int r15), (.int r16), (.int r17), (.int r18), (.int r19)] (.int 0)) (hk : ¬ (k1 = (255 : Int64))) :
    MetFree l (⟨KS, "slotOf", "(Lcom/example/explicit_grants/explicitgrants/Interner$Key;)I"⟩ : MethodName) (head1 (Jvm.Cond.code (⟨KS, "slotOf", "(Lcom/example/explicit_grants/explicitgrants/Interner$Key;)I"⟩ : MethodName) prog_18_method_11_code 4 (some .int) :: ws) R_slO) (fun a U => a = #[(.ref a1), (.ref a2)] ∧ Z.Warmed39 U.vm ∧ U.heap = h0) (fun _ _ _ _ _ => True) (fun _ U o U' => ∃ v L, o = .returned v ∧ QslO Z a1 a2 hu k1 aH aR aS kH kR rc kr r0 r1 r8 r9 r10 r11 r12 r13 r14 r15 r16 r17 r18 r19 h0 n0 v U'.heap L ∧ FrameEnd U o U' L R_slO.cells R_slO.slots) := by
  refine MetFree.of_bodySF (plainFor_of_name pn_386) hisR ?_
  intro p e s m args below meth c s₁ Bd hml0 hP hK
  obtain ⟨rfl, hZ, hh⟩ := hP
  have hx := Bd.exec
  have hby := Bd.bytes
  have hml : c.maxLocals = 4 := hml0
  have hown : s.vm.findClass KS = some m.cls := findClass_of_methodNamed Bd.named
  have hnm := (name_of_methodNamed Bd.named Bd.method).1
  have X0 : Stand p l e R_slO s m #[(.ref a1), (.ref a2)] below meth c s₁ [] 0 0 := Stand.of_body Bd
  have e0 : s₁.heap = h0 := by rw [← hh, Bd.state]; rfl
  have N0 := Fr.nil n0
  have pre0 : ∀ t, Steps p.tables e below (s₁.setTop (mkF m 0 #[.val (.ref a1), .val (.ref a2), .unset, .unset] [])) t → Steps p.tables e below (s₁.setTop (entryFrame m #[(.ref a1), (.ref a2)] 4)) t := fun t k => castTop (ef_slO m a1 a2) k
  obtain ⟨T1, X1, e1, st1⟩ := getF X0 hx hZ hown (host := "") (Or.inl (own_w hw (i := 42) rfl)) Via.refl e0 F_records_a1 (g := (mkF m 1 #[.val (.ref a1), .val (.ref a2), .unset, .unset] [(.ref a1)])) rfl rfl (hb hby d29_1)
  obtain ⟨car2, Aar2, qar2, Sar2, Nar2, Har2, Gar2⟩ := id V_aR
  -- pc 9: Interner$Key.hash by rmgh
  obtain ⟨cq3, kq3, q3a, q3b, q3c⟩ := isOf hZ e1 E_a2
  obtain ⟨_, _, ⟨T3, L3, ck3, cn3⟩, -, X3, ⟨Lc3, hQ3, l3, y3, z3⟩, st3⟩ := X1.virtualBack hx (y := (⟨KK, "hash", "()I"⟩ : MethodName)) (z := (⟨KK, "hash", "()I"⟩ : MethodName)) hown (mvT hZ (own_w hw (i := 142) rfl)) (mvT hZ (own_w hw (i := 143) rfl)) (notFace_of_selects (args := #[]) (mvT hZ (own_w hw (i := 145) rfl))) (mvT hZ (own_w hw (i := 145) rfl)) (mvT hZ (own_w hw (i := 144) rfl)) (by decide) (backOf (W := 0) (rmgh l Z a0 hw [] a2 hu h0 n0 Z0 F_hash_a2) hZ (own_w hw (i := 146) rfl) (own_w hw (i := 55) rfl) (by decide) (by decide)) q3a q3c (g := (mkF m 9 #[.val (.ref a1), .val (.ref a2), .val (.int 15), .unset] [(.ref a2)])) rfl (by rw [hml]; rfl) (Steps.refl _) (argsL := []) (rest := []) (lenOf pd_230 rfl) rfl (by show 2 * 0 + _ ≤ _; exact Nat.le_of_eq rfl) (hb hby d29_9) (fun _ _ => ⟨rfl, e1, (by decide : 0 + 0 ≤ _), (by decide : 0 + 0 ≤ _)⟩)
  dsimp only [Pt.U, Pt.locs, Pt.cells, Pt.slots] at X3 l3 y3 z3 st3 hQ3
  subst y3 z3
  obtain ⟨rfl, N3q, e3⟩ := hQ3
  have N4 : Fr n0 L3 := by rw [l3]; exact Fr.app N0 N3q
  obtain ⟨T5, X5, e5, st5⟩ := getF X3 hx hZ hown (host := "") (Or.inl (own_w hw (i := 42) rfl)) Via.refl e3 F_records_a1 (g := (mkF m 16 #[.val (.ref a1), .val (.ref a2), .val (.int 15), .val (.int (hu &&& (15 : Int32)))] [(.ref a1)])) rfl rfl (hb hby d29_16)
  obtain ⟨car6, Aar6, qar6, Sar6, Nar6, Har6, Gar6⟩ := id V_aR
  have hinar6 : ¬ ((hu &&& (15 : Int32)) < 0 ∨ car6.slots.size ≤ ((hu &&& (15 : Int32))).toNatClampNeg) := inb_of Sar6 (own_sl _)
  have hatar6 : car6.slots[((hu &&& (15 : Int32))).toNatClampNeg]? = some (.ref rc) := atH (hs := [((hu &&& (15 : Int32)), (.ref rc))]) (vs := []) (dv := .null) Har6 hinar6 (getH_hit (own_sl _).1 rfl)
  obtain ⟨T7, X7, e7, st7⟩ := getF X5 hx hZ hown (host := "") (Or.inl (own_w hw (i := 38) rfl)) Via.refl e5 F_hashes_a1 (g := (mkF m 25 #[.val (.ref a1), .val (.ref a2), .val (.int 15), .val (.int (hu &&& (15 : Int32)))] [(.ref a1)])) rfl rfl (hb hby d29_25)
  obtain ⟨car8, Aar8, qar8, Sar8, Nar8, Har8, Gar8⟩ := id V_aH
  have hinar8 : ¬ ((hu &&& (15 : Int32)) < 0 ∨ car8.slots.size ≤ ((hu &&& (15 : Int32))).toNatClampNeg) := inb_of Sar8 (own_sl _)
  have hatar8 : car8.slots[((hu &&& (15 : Int32))).toNatClampNeg]? = some (.int hu) := atH (hs := [((hu &&& (15 : Int32)), (.int hu))]) (vs := []) (dv := (.int 0)) Har8 hinar8 (getH_hit (own_sl _).1 rfl)
  -- pc 31: Interner$Key.hash by rmgh
  obtain ⟨cq9, kq9, q9a, q9b, q9c⟩ := isOf hZ e7 E_a2
  obtain ⟨_, _, ⟨T9, L9, ck9, cn9⟩, -, X9, ⟨Lc9, hQ9, l9, y9, z9⟩, st9⟩ := X7.virtualBack hx (y := (⟨KK, "hash", "()I"⟩ : MethodName)) (z := (⟨KK, "hash", "()I"⟩ : MethodName)) hown (mvT hZ (own_w hw (i := 142) rfl)) (mvT hZ (own_w hw (i := 143) rfl)) (notFace_of_selects (args := #[]) (mvT hZ (own_w hw (i := 145) rfl))) (mvT hZ (own_w hw (i := 145) rfl)) (mvT hZ (own_w hw (i := 144) rfl)) (by decide) (backOf (W := 1) (rmgh l Z a0 hw [] a2 hu h0 n0 Z0 F_hash_a2) hZ (own_w hw (i := 146) rfl) (own_w hw (i := 55) rfl) (by decide) (by decide)) q9a q9c (g := (mkF m 31 #[.val (.ref a1), .val (.ref a2), .val (.int 15), .val (.int (hu &&& (15 : Int32)))] [(.ref a2), (.int hu)])) rfl (by rw [hml]; rfl) (Steps.refl _) (argsL := []) (rest := [(.int hu)]) (lenOf pd_230 rfl) rfl (by show 2 * 0 + _ ≤ _; exact Nat.le_of_eq rfl) (hb hby d29_31) (fun _ _ => ⟨rfl, e7, (by decide : 0 + 0 ≤ _), (by decide : 0 + 0 ≤ _)⟩)
  dsimp only [Pt.U, Pt.locs, Pt.cells, Pt.slots] at X9 l9 y9 z9 st9 hQ9
  subst y9 z9
  obtain ⟨rfl, N9q, e9⟩ := hQ9
  have N10 : Fr n0 L9 := by rw [l9]; exact Fr.app N4 N9q
  obtain ⟨T11, X11, e11, st11⟩ := getF X9 hx hZ hown (host := "") (Or.inl (own_w hw (i := 42) rfl)) Via.refl e9 F_records_a1 (g := (mkF m 39 #[.val (.ref a1), .val (.ref a2), .val (.int 15), .val (.int (hu &&& (15 : Int32)))] [(.ref a1), (.ref a1)])) rfl rfl (hb hby d29_39)
  obtain ⟨car12, Aar12, qar12, Sar12, Nar12, Har12, Gar12⟩ := id V_aR
  have hinar12 : ¬ ((hu &&& (15 : Int32)) < 0 ∨ car12.slots.size ≤ ((hu &&& (15 : Int32))).toNatClampNeg) := inb_of Sar12 (own_sl _)
  have hatar12 : car12.slots[((hu &&& (15 : Int32))).toNatClampNeg]? = some (.ref rc) := atH (hs := [((hu &&& (15 : Int32)), (.ref rc))]) (vs := []) (dv := .null) Har12 hinar12 (getH_hit (own_sl _).1 rfl)
  -- pc 46: SubjectLines.holds by rmho
  obtain ⟨cq13, qc13, qc13'⟩ := E_a1.cell
  obtain ⟨_, _, ⟨T13, L13, ck13, cn13⟩, -, X13, ⟨Lc13, hQ13, l13, y13, z13⟩, st13⟩ := X11.privateBack hx (y := (⟨KS, "holds", "([IILcom/example/explicit_grants/explicitgrants/Interner$Key;)Z"⟩ : MethodName)) hown (mvT hZ (own_w hw (i := 196) rfl)) (mvT hZ (own_w hw (i := 197) rfl)) (own_sel (y := (⟨KS, "holds", "([IILcom/example/explicit_grants/explicitgrants/Interner$Key;)Z"⟩ : MethodName)) (mvT hZ (own_w hw (i := 31) rfl)) (Cond.privateMethod_at (mvP hZ (own_w hw (i := 198) rfl) (args := #[]))) (mvT hZ (own_w hw (i := 197) rfl)) (by decide)) (Cond.privateMethod_at (mvP hZ (own_w hw (i := 198) rfl) (args := #[]))) (mvT hZ (own_w hw (i := 199) rfl)) (by decide) (backOf (W := 0) (rmho l Z a0 hw [] a1 rc (hu &&& (15 : Int32)) a2 hu k1 kr r0 r1 r8 r9 r10 r11 r12 r13 r14 r15 r16 r17 r18 r19 h0 n0 Z0 E_a2 F_hash_a2 F_first_a2 F_second_a2 F_third_a2 V_rc hk) hZ (own_w hw (i := 199) rfl) (own_w hw (i := 32) rfl) (by decide) (by decide)) (g := (mkF m 46 #[.val (.ref a1), .val (.ref a2), .val (.int 15), .val (.int (hu &&& (15 : Int32)))] [(.ref a2), (.int (hu &&& (15 : Int32))), (.ref rc), (.ref a1)])) rfl (by rw [hml]; rfl) (Steps.refl _) (a := a1) (by rw [e11]; exact qc13) qc13' (argsL := [(.ref rc), (.int (hu &&& (15 : Int32))), (.ref a2)]) (rest := []) (lenOf pd_523 rfl) rfl (by show 2 * 0 + _ ≤ _; exact Nat.le_of_eq rfl) (hb hby d29_46) (fun _ _ => ⟨rfl, e11, (by decide : 0 + 0 ≤ _), (by decide : 0 + 0 ≤ _)⟩)
  dsimp only [Pt.U, Pt.locs, Pt.cells, Pt.slots] at X13 l13 y13 z13 st13 hQ13
  subst y13 z13
  obtain ⟨rfl, N13q, e13⟩ := hQ13
  have N14 : Fr n0 L13 := by rw [l13]; exact Fr.app N10 N13q
  obtain ⟨fs, hr, hrun, hended, hW, hsame⟩ := X13.leave (v := some (.int (hu &&& (15 : Int32)))) (fun h => by rw [Bd.returns] at h; cases h) Bd.notSynchronized
  refine ⟨_, _, pre0 _ ?_, hrun, hended, _, _, rfl, ?_, ⟨_, rfl⟩, hW, hsame.mono (by decide) (by decide)⟩
  · show Steps p.tables e below (s₁.setTop (mkF m 0 #[.val (.ref a1), .val (.ref a2), .unset, .unset] [])) _
    refine XS.aloadN X0.here hx rfl (hb hby d29_0) rfl rfl ?_
    refine st1 _ ?_
    refine X1.arraylength hx (by rw [e1]; exact Aar2.1) (State.isArrayOf_alike hZ.alike Aar2.2.1) (g := (mkF m 4 #[.val (.ref a1), .val (.ref a2), .unset, .unset] [(.ref aR)])) rfl rfl (hb hby d29_4) _ ?_
    rw [len_of Sar2 Nar2]
    refine XS.iconst X1.here hx rfl (hb hby d29_5) ?_
    refine XS.isub X1.here hx rfl (hb hby d29_6) rfl ?_
    refine XS.istoreN X1.here hx rfl (hb hby d29_7) rfl (l' := #[.val (.ref a1), .val (.ref a2), .val (.int 15), .unset]) rfl ?_
    refine XS.aloadN X1.here hx rfl (hb hby d29_8) rfl rfl ?_
    refine st3.trans ?_
    show Steps p.tables e below (T3.setTop (mkF m 12 #[.val (.ref a1), .val (.ref a2), .val (.int 15), .unset] [(.int hu)])) _
    refine XS.iloadN X3.here hx rfl (hb hby d29_12) rfl ?_
    refine XS.iand X3.here hx rfl (hb hby d29_13) rfl ?_
    refine XS.istoreN X3.here hx rfl (hb hby d29_14) rfl (l' := #[.val (.ref a1), .val (.ref a2), .val (.int 15), .val (.int (hu &&& (15 : Int32)))]) rfl ?_
    refine XS.aloadN X3.here hx rfl (hb hby d29_15) rfl rfl ?_
    refine st5 _ ?_
    refine XS.iloadN X5.here hx rfl (hb hby d29_19) rfl ?_
    refine X5.aaload hx (j := (hu &&& (15 : Int32))) (v := (.ref rc)) (by rw [e5]; exact Aar6.1) (State.isArrayOf_alike hZ.alike Aar6.2.1) rfl Aar6.2.2 hinar6 hatar6 (g := (mkF m 20 #[.val (.ref a1), .val (.ref a2), .val (.int 15), .val (.int (hu &&& (15 : Int32)))] [(.int (hu &&& (15 : Int32))), (.ref aR)])) rfl rfl (hb hby d29_20) _ ?_
    refine XS.ifnullNo X5.here hx rfl (hb hby d29_21) rfl ?_
    show Steps p.tables e below (T5.setTop (mkF m 24 #[.val (.ref a1), .val (.ref a2), .val (.int 15), .val (.int (hu &&& (15 : Int32)))] [])) _
    refine XS.aloadN X5.here hx rfl (hb hby d29_24) rfl rfl ?_
    refine st7 _ ?_
    refine XS.iloadN X7.here hx rfl (hb hby d29_28) rfl ?_
    refine X7.iaload hx (j := (hu &&& (15 : Int32))) (v := (.int hu)) (by rw [e7]; exact Aar8.1) (State.isArrayOf_alike hZ.alike Aar8.2.1) Aar8.2.2 hinar8 hatar8 (g := (mkF m 29 #[.val (.ref a1), .val (.ref a2), .val (.int 15), .val (.int (hu &&& (15 : Int32)))] [(.int (hu &&& (15 : Int32))), (.ref aH)])) rfl rfl (hb hby d29_29) _ ?_
    refine XS.aloadN X7.here hx rfl (hb hby d29_30) rfl rfl ?_
    refine st9.trans ?_
    show Steps p.tables e below (T9.setTop (mkF m 34 #[.val (.ref a1), .val (.ref a2), .val (.int 15), .val (.int (hu &&& (15 : Int32)))] [(.int hu), (.int hu)])) _
    refine XS.icmpNo X9.here hx rfl (hb hby d29_34) rfl (teq (rfl : hu = hu)).2 ?_
    refine XS.aloadN X9.here hx rfl (hb hby d29_37) rfl rfl ?_
    show Steps p.tables e below (T9.setTop (mkF m 38 #[.val (.ref a1), .val (.ref a2), .val (.int 15), .val (.int (hu &&& (15 : Int32)))] [(.ref a1)])) _
    refine XS.aloadN X9.here hx rfl (hb hby d29_38) rfl rfl ?_
    refine st11 _ ?_
    refine XS.iloadN X11.here hx rfl (hb hby d29_42) rfl ?_
    refine X11.aaload hx (j := (hu &&& (15 : Int32))) (v := (.ref rc)) (by rw [e11]; exact Aar12.1) (State.isArrayOf_alike hZ.alike Aar12.2.1) rfl Aar12.2.2 hinar12 hatar12 (g := (mkF m 43 #[.val (.ref a1), .val (.ref a2), .val (.int 15), .val (.int (hu &&& (15 : Int32)))] [(.int (hu &&& (15 : Int32))), (.ref aR), (.ref a1)])) rfl rfl (hb hby d29_43) _ ?_
    refine XS.iloadN X11.here hx rfl (hb hby d29_44) rfl ?_
    refine XS.aloadN X11.here hx rfl (hb hby d29_45) rfl rfl ?_
    refine st13.trans ?_
    show Steps p.tables e below (T13.setTop (mkF m 49 #[.val (.ref a1), .val (.ref a2), .val (.int 15), .val (.int (hu &&& (15 : Int32)))] [(.int 1)])) _
    refine XS.ifYes X13.here hx rfl (pc0 := 49) (pc' := 61) rfl (hb hby d29_49) rfl ((if0 _ _).trans (feq (by decide : ¬ ((1 : Int32) = (0 : Int32)))).2) (by decide) (by decide) ?_
    show Steps p.tables e below (T13.setTop (mkF m 61 #[.val (.ref a1), .val (.ref a2), .val (.int 15), .val (.int (hu &&& (15 : Int32)))] [])) _
    refine XS.iloadN X13.here hx rfl (hb hby d29_61) rfl ?_
    exact retI X13 hx Bd.returns (hb hby d29_62) hr
  · show QslO Z a1 a2 hu k1 aH aR aS kH kR rc kr r0 r1 r8 r9 r10 r11 r12 r13 r14 r15 r16 r17 r18 r19 h0 n0 _ T13.heap _
    rw [e13]
    exact ⟨rfl, N14, rfl⟩
theorem d24_0 : decode prog_18_method_2_code 0 = .ok (.aload_n 0, 1) := by decide +kernel
theorem d24_1 : decode prog_18_method_2_code 1 = .ok (.getfield 14, 3) := by decide +kernel
theorem d24_4 : decode prog_18_method_2_code 4 = .ok (.arraylength, 1) := by decide +kernel
theorem d24_5 : decode prog_18_method_2_code 5 = .ok (.iconst 1, 1) := by decide +kernel
theorem d24_6 : decode prog_18_method_2_code 6 = .ok (.isub, 1) := by decide +kernel
theorem d24_7 : decode prog_18_method_2_code 7 = .ok (.istore_n 2, 1) := by decide +kernel
theorem d24_8 : decode prog_18_method_2_code 8 = .ok (.aload_n 1, 1) := by decide +kernel
theorem d24_9 : decode prog_18_method_2_code 9 = .ok (.invokevirtual 24, 3) := by decide +kernel
theorem d24_12 : decode prog_18_method_2_code 12 = .ok (.iload_n 2, 1) := by decide +kernel
theorem d24_13 : decode prog_18_method_2_code 13 = .ok (.iand, 1) := by decide +kernel
theorem d24_14 : decode prog_18_method_2_code 14 = .ok (.istore_n 3, 1) := by decide +kernel
theorem d24_15 : decode prog_18_method_2_code 15 = .ok (.aload_n 0, 1) := by decide +kernel
theorem d24_16 : decode prog_18_method_2_code 16 = .ok (.getfield 14, 3) := by decide +kernel
theorem d24_19 : decode prog_18_method_2_code 19 = .ok (.iload_n 3, 1) := by decide +kernel
theorem d24_20 : decode prog_18_method_2_code 20 = .ok (.aaload, 1) := by decide +kernel
theorem d24_21 : decode prog_18_method_2_code 21 = .ok (.astore 4, 2) := by decide +kernel
theorem d24_23 : decode prog_18_method_2_code 23 = .ok (.aload 4, 2) := by decide +kernel
theorem d24_25 : decode prog_18_method_2_code 25 = .ok (.ifnull 44, 3) := by decide +kernel
theorem d24_69 : decode prog_18_method_2_code 69 = .ok (.aload 4, 2) := by decide +kernel
theorem d24_71 : decode prog_18_method_2_code 71 = .ok (.areturn, 1) := by decide +kernel
theorem ef_ofE (m : MethodId) (x0 : Addr) (x1 : Addr) : entryFrame m #[(.ref x0), (.ref x1)] 5 = mkF m 0 #[.val (.ref x0), .val (.ref x1), .unset, .unset, .unset] [] := by first | (simp [entryFrame, mkF, argsToLocals, Value.category]; done) | rfl
abbrev R_ofE : Room := { frames := 1, cells := 0, slots := 0, locals := 12 }
def QofE (Z : State) (a1 : Addr) (a2 : Addr) (hu : Int32) (aH : Addr) (aR : Addr) (aS : Addr) (kR : ClassId) (h0 : Heap) (n0 : Nat) (v : Option Value) (h : Heap) (L : List Loc) : Prop := v = some .null ∧ Fr n0 L ∧ h = h0
set_option maxRecDepth 65536 in
set_option maxHeartbeats 40000000 in
theorem rmofE (l : Launch) (Z : State) (a0 : Array Value) (hw : ∀ d ∈ tables_1, d.before a0 Z = true) (ws : List Jvm.Cond) (a1 : Addr) (a2 : Addr) (hu : Int32) (aH : Addr) (aR : Addr) (aS : Addr) (kR : ClassId) (h0 : Heap) (n0 : Nat) (Z0 : n0 ≤ h0.size) (E_a1 : Exa Z h0 a1 KS) (F_hashes_a1 : Fld Z h0 a1 KS "hashes" "[I" (.ref aH)) (F_records_a1 : Fld Z h0 a1 KS "records" "[[I" (.ref aR)) (F_subjects_a1 : Fld Z h0 a1 KS "subjects" "[Ljava/lang/String;" (.ref aS)) (E_a2 : Exa Z h0 a2 KK) (F_hash_a2 : Fld Z h0 a2 KK "hash" "I" (.int hu)) (V_aR : Arh Z h0 aR kR (.array .int) (16 : Int32) [] [] .null) :
    MetFree l (⟨KS, "of", "(Lcom/example/explicit_grants/explicitgrants/Interner$Key;)[I"⟩ : MethodName) (head1 (Jvm.Cond.code (⟨KS, "of", "(Lcom/example/explicit_grants/explicitgrants/Interner$Key;)[I"⟩ : MethodName) prog_18_method_2_code 5 (some (.array .int)) :: ws) R_ofE) (fun a U => a = #[(.ref a1), (.ref a2)] ∧ Z.Warmed39 U.vm ∧ U.heap = h0) (fun _ _ _ _ _ => True) (fun _ U o U' => ∃ v L, o = .returned v ∧ QofE Z a1 a2 hu aH aR aS kR h0 n0 v U'.heap L ∧ FrameEnd U o U' L R_ofE.cells R_ofE.slots) := by
  refine MetFree.of_bodySF (plainFor_of_name pn_386) hisR ?_
  intro p e s m args below meth c s₁ Bd hml0 hP hK
  obtain ⟨rfl, hZ, hh⟩ := hP
  have hx := Bd.exec
  have hby := Bd.bytes
  have hml : c.maxLocals = 5 := hml0
  have hown : s.vm.findClass KS = some m.cls := findClass_of_methodNamed Bd.named
  have hnm := (name_of_methodNamed Bd.named Bd.method).1
  have X0 : Stand p l e R_ofE s m #[(.ref a1), (.ref a2)] below meth c s₁ [] 0 0 := Stand.of_body Bd
  have e0 : s₁.heap = h0 := by rw [← hh, Bd.state]; rfl
  have N0 := Fr.nil n0
  have pre0 : ∀ t, Steps p.tables e below (s₁.setTop (mkF m 0 #[.val (.ref a1), .val (.ref a2), .unset, .unset, .unset] [])) t → Steps p.tables e below (s₁.setTop (entryFrame m #[(.ref a1), (.ref a2)] 5)) t := fun t k => castTop (ef_ofE m a1 a2) k
  obtain ⟨T1, X1, e1, st1⟩ := getF X0 hx hZ hown (host := "") (Or.inl (own_w hw (i := 42) rfl)) Via.refl e0 F_records_a1 (g := (mkF m 1 #[.val (.ref a1), .val (.ref a2), .unset, .unset, .unset] [(.ref a1)])) rfl rfl (hb hby d24_1)
  obtain ⟨car2, Aar2, qar2, Sar2, Nar2, Har2, Gar2⟩ := id V_aR
  -- pc 9: Interner$Key.hash by rmgh
  obtain ⟨cq3, kq3, q3a, q3b, q3c⟩ := isOf hZ e1 E_a2
  obtain ⟨_, _, ⟨T3, L3, ck3, cn3⟩, -, X3, ⟨Lc3, hQ3, l3, y3, z3⟩, st3⟩ := X1.virtualBack hx (y := (⟨KK, "hash", "()I"⟩ : MethodName)) (z := (⟨KK, "hash", "()I"⟩ : MethodName)) hown (mvT hZ (own_w hw (i := 142) rfl)) (mvT hZ (own_w hw (i := 143) rfl)) (notFace_of_selects (args := #[]) (mvT hZ (own_w hw (i := 145) rfl))) (mvT hZ (own_w hw (i := 145) rfl)) (mvT hZ (own_w hw (i := 144) rfl)) (by decide) (backOf (W := 0) (rmgh l Z a0 hw [] a2 hu h0 n0 Z0 F_hash_a2) hZ (own_w hw (i := 146) rfl) (own_w hw (i := 55) rfl) (by decide) (by decide)) q3a q3c (g := (mkF m 9 #[.val (.ref a1), .val (.ref a2), .val (.int 15), .unset, .unset] [(.ref a2)])) rfl (by rw [hml]; rfl) (Steps.refl _) (argsL := []) (rest := []) (lenOf pd_230 rfl) rfl (by show 2 * 0 + _ ≤ _; exact Nat.le_of_eq rfl) (hb hby d24_9) (fun _ _ => ⟨rfl, e1, (by decide : 0 + 0 ≤ _), (by decide : 0 + 0 ≤ _)⟩)
  dsimp only [Pt.U, Pt.locs, Pt.cells, Pt.slots] at X3 l3 y3 z3 st3 hQ3
  subst y3 z3
  obtain ⟨rfl, N3q, e3⟩ := hQ3
  have N4 : Fr n0 L3 := by rw [l3]; exact Fr.app N0 N3q
  obtain ⟨T5, X5, e5, st5⟩ := getF X3 hx hZ hown (host := "") (Or.inl (own_w hw (i := 42) rfl)) Via.refl e3 F_records_a1 (g := (mkF m 16 #[.val (.ref a1), .val (.ref a2), .val (.int 15), .val (.int (hu &&& (15 : Int32))), .unset] [(.ref a1)])) rfl rfl (hb hby d24_16)
  obtain ⟨car6, Aar6, qar6, Sar6, Nar6, Har6, Gar6⟩ := id V_aR
  have hinar6 : ¬ ((hu &&& (15 : Int32)) < 0 ∨ car6.slots.size ≤ ((hu &&& (15 : Int32))).toNatClampNeg) := inb_of Sar6 (own_sl _)
  have hatar6 : car6.slots[((hu &&& (15 : Int32))).toNatClampNeg]? = some .null := atH (hs := []) (vs := []) (dv := .null) Har6 hinar6 rfl
  obtain ⟨fs, hr, hrun, hended, hW, hsame⟩ := X5.leave (v := some .null) (fun h => by rw [Bd.returns] at h; cases h) Bd.notSynchronized
  refine ⟨_, _, pre0 _ ?_, hrun, hended, _, _, rfl, ?_, ⟨_, rfl⟩, hW, hsame.mono (by decide) (by decide)⟩
  · show Steps p.tables e below (s₁.setTop (mkF m 0 #[.val (.ref a1), .val (.ref a2), .unset, .unset, .unset] [])) _
    refine XS.aloadN X0.here hx rfl (hb hby d24_0) rfl rfl ?_
    refine st1 _ ?_
    refine X1.arraylength hx (by rw [e1]; exact Aar2.1) (State.isArrayOf_alike hZ.alike Aar2.2.1) (g := (mkF m 4 #[.val (.ref a1), .val (.ref a2), .unset, .unset, .unset] [(.ref aR)])) rfl rfl (hb hby d24_4) _ ?_
    rw [len_of Sar2 Nar2]
    refine XS.iconst X1.here hx rfl (hb hby d24_5) ?_
    refine XS.isub X1.here hx rfl (hb hby d24_6) rfl ?_
    refine XS.istoreN X1.here hx rfl (hb hby d24_7) rfl (l' := #[.val (.ref a1), .val (.ref a2), .val (.int 15), .unset, .unset]) rfl ?_
    refine XS.aloadN X1.here hx rfl (hb hby d24_8) rfl rfl ?_
    refine st3.trans ?_
    show Steps p.tables e below (T3.setTop (mkF m 12 #[.val (.ref a1), .val (.ref a2), .val (.int 15), .unset, .unset] [(.int hu)])) _
    refine XS.iloadN X3.here hx rfl (hb hby d24_12) rfl ?_
    refine XS.iand X3.here hx rfl (hb hby d24_13) rfl ?_
    refine XS.istoreN X3.here hx rfl (hb hby d24_14) rfl (l' := #[.val (.ref a1), .val (.ref a2), .val (.int 15), .val (.int (hu &&& (15 : Int32))), .unset]) rfl ?_
    refine XS.aloadN X3.here hx rfl (hb hby d24_15) rfl rfl ?_
    refine st5 _ ?_
    refine XS.iloadN X5.here hx rfl (hb hby d24_19) rfl ?_
    refine X5.aaload hx (j := (hu &&& (15 : Int32))) (v := .null) (by rw [e5]; exact Aar6.1) (State.isArrayOf_alike hZ.alike Aar6.2.1) rfl Aar6.2.2 hinar6 hatar6 (g := (mkF m 20 #[.val (.ref a1), .val (.ref a2), .val (.int 15), .val (.int (hu &&& (15 : Int32))), .unset] [(.int (hu &&& (15 : Int32))), (.ref aR)])) rfl rfl (hb hby d24_20) _ ?_
    refine XS.astore X5.here hx rfl (hb hby d24_21) rfl rfl (l' := #[.val (.ref a1), .val (.ref a2), .val (.int 15), .val (.int (hu &&& (15 : Int32))), .val .null]) rfl ?_
    show Steps p.tables e below (T5.setTop (mkF m 23 #[.val (.ref a1), .val (.ref a2), .val (.int 15), .val (.int (hu &&& (15 : Int32))), .val .null] [])) _
    refine XS.aload X5.here hx rfl (hb hby d24_23) rfl rfl ?_
    refine XS.ifnullYes X5.here hx rfl (pc0 := 25) (pc' := 69) rfl (hb hby d24_25) rfl (by decide) (by decide) ?_
    refine XS.aload X5.here hx rfl (hb hby d24_69) rfl rfl ?_
    exact retOut X5 hx (t := (.array .int)) Bd.returns rfl (Or.inr (Or.inr (Or.inr (Or.inr ⟨rfl, rfl, rfl⟩)))) (hb hby d24_71) hr
  · show QofE Z a1 a2 hu aH aR aS kR h0 n0 _ T5.heap _
    rw [e5]
    exact ⟨rfl, N4, rfl⟩
theorem d24_28 : decode prog_18_method_2_code 28 = .ok (.aload_n 0, 1) := by decide +kernel
theorem d24_29 : decode prog_18_method_2_code 29 = .ok (.getfield 9, 3) := by decide +kernel
theorem d24_32 : decode prog_18_method_2_code 32 = .ok (.iload_n 3, 1) := by decide +kernel
theorem d24_33 : decode prog_18_method_2_code 33 = .ok (.iaload, 1) := by decide +kernel
theorem d24_34 : decode prog_18_method_2_code 34 = .ok (.aload_n 1, 1) := by decide +kernel
theorem d24_35 : decode prog_18_method_2_code 35 = .ok (.invokevirtual 24, 3) := by decide +kernel
theorem d24_38 : decode prog_18_method_2_code 38 = .ok (.if_icmp .ne 14, 3) := by decide +kernel
theorem d24_41 : decode prog_18_method_2_code 41 = .ok (.aload_n 0, 1) := by decide +kernel
theorem d24_42 : decode prog_18_method_2_code 42 = .ok (.aload 4, 2) := by decide +kernel
theorem d24_44 : decode prog_18_method_2_code 44 = .ok (.iload_n 3, 1) := by decide +kernel
theorem d24_45 : decode prog_18_method_2_code 45 = .ok (.aload_n 1, 1) := by decide +kernel
theorem d24_46 : decode prog_18_method_2_code 46 = .ok (.invokevirtual 30, 3) := by decide +kernel
theorem d24_49 : decode prog_18_method_2_code 49 = .ok (.ifCond .ne 20, 3) := by decide +kernel
theorem ef_ofO (m : MethodId) (x0 : Addr) (x1 : Addr) : entryFrame m #[(.ref x0), (.ref x1)] 5 = mkF m 0 #[.val (.ref x0), .val (.ref x1), .unset, .unset, .unset] [] := by first | (simp [entryFrame, mkF, argsToLocals, Value.category]; done) | rfl
abbrev R_ofO : Room := { frames := 2, cells := 0, slots := 0, locals := 28 }
def QofO (Z : State) (a1 : Addr) (a2 : Addr) (hu : Int32) (k1 : Int64) (aH : Addr) (aR : Addr) (aS : Addr) (kH : ClassId) (kR : ClassId) (rc : Addr) (kr : ClassId) (r0 : Int32) (r1 : Int32) (r8 : Int32) (r9 : Int32) (r10 : Int32) (r11 : Int32) (r12 : Int32) (r13 : Int32) (r14 : Int32) (r15 : Int32) (r16 : Int32) (r17 : Int32) (r18 : Int32) (r19 : Int32) (h0 : Heap) (n0 : Nat) (v : Option Value) (h : Heap) (L : List Loc) : Prop := v = some (.ref rc) ∧ Fr n0 L ∧ h = h0
set_option maxRecDepth 65536 in
set_option maxHeartbeats 40000000 in
theorem rmofO (l : Launch) (Z : State) (a0 : Array Value) (hw : ∀ d ∈ tables_1, d.before a0 Z = true) (ws : List Jvm.Cond) (a1 : Addr) (a2 : Addr) (hu : Int32) (k1 : Int64) (aH : Addr) (aR : Addr) (aS : Addr) (kH : ClassId) (kR : ClassId) (rc : Addr) (kr : ClassId) (r0 : Int32) (r1 : Int32) (r8 : Int32) (r9 : Int32) (r10 : Int32) (r11 : Int32) (r12 : Int32) (r13 : Int32) (r14 : Int32) (r15 : Int32) (r16 : Int32) (r17 : Int32) (r18 : Int32) (r19 : Int32) (h0 : Heap) (n0 : Nat) (Z0 : n0 ≤ h0.size) (E_a1 : Exa Z h0 a1 KS) (F_hashes_a1 : Fld Z h0 a1 KS "hashes" "[I" (.ref aH)) (F_records_a1 : Fld Z h0 a1 KS "records" "[[I" (.ref aR)) (F_subjects_a1 : Fld Z h0 a1 KS "subjects" "[Ljava/lang/String;" (.ref aS)) (E_a2 : Exa Z h0 a2 KK) (F_hash_a2 : Fld Z h0 a2 KK "hash" "I" (.int hu)) (F_first_a2 : Fld Z h0 a2 KK "first" "J" (.long k1)) (F_second_a2 : Fld Z h0 a2 KK "second" "J" (.long 0)) (F_third_a2 : Fld Z h0 a2 KK "third" "J" (.long 0)) (V_aH : Arh Z h0 aH kH .int (16 : Int32) [((hu &&& (15 : Int32)), (.int hu))] [] (.int 0)) (V_aR : Arh Z h0 aR kR (.array .int) (16 : Int32) [((hu &&& (15 : Int32)), (.ref rc))] [] .null) (V_rc : Arv Z h0 rc kr .int (20 : Int32) [(.int r0), (.int r1), (.int (k1.toInt32)), (.int (((k1.toUInt64 >>> ((32 : Int32) &&& 0x3f).toInt64.toUInt64).toInt64).toInt32)), (.int 0), (.int 0), (.int 0), (.int 0), (.int r8), (.int r9), (.int r10), (.int r11), (.int r12), (.int r13), (.int r14), (.int r15), (.int r16), (.int r17), (.int r18), (.int r19)] (.int 0)) (hk : ¬ (k1 = (255 : Int64))) :
    MetFree l (⟨KS, "of", "(Lcom/example/explicit_grants/explicitgrants/Interner$Key;)[I"⟩ : MethodName) (head1 (Jvm.Cond.code (⟨KS, "of", "(Lcom/example/explicit_grants/explicitgrants/Interner$Key;)[I"⟩ : MethodName) prog_18_method_2_code 5 (some (.array .int)) :: ws) R_ofO) (fun a U => a = #[(.ref a1), (.ref a2)] ∧ Z.Warmed39 U.vm ∧ U.heap = h0) (fun _ _ _ _ _ => True) (fun _ U o U' => ∃ v L, o = .returned v ∧ QofO Z a1 a2 hu k1 aH aR aS kH kR rc kr r0 r1 r8 r9 r10 r11 r12 r13 r14 r15 r16 r17 r18 r19 h0 n0 v U'.heap L ∧ FrameEnd U o U' L R_ofO.cells R_ofO.slots) := by
  refine MetFree.of_bodySF (plainFor_of_name pn_386) hisR ?_
  intro p e s m args below meth c s₁ Bd hml0 hP hK
  obtain ⟨rfl, hZ, hh⟩ := hP
  have hx := Bd.exec
  have hby := Bd.bytes
  have hml : c.maxLocals = 5 := hml0
  have hown : s.vm.findClass KS = some m.cls := findClass_of_methodNamed Bd.named
  have hnm := (name_of_methodNamed Bd.named Bd.method).1
  have X0 : Stand p l e R_ofO s m #[(.ref a1), (.ref a2)] below meth c s₁ [] 0 0 := Stand.of_body Bd
  have e0 : s₁.heap = h0 := by rw [← hh, Bd.state]; rfl
  have N0 := Fr.nil n0
  have pre0 : ∀ t, Steps p.tables e below (s₁.setTop (mkF m 0 #[.val (.ref a1), .val (.ref a2), .unset, .unset, .unset] [])) t → Steps p.tables e below (s₁.setTop (entryFrame m #[(.ref a1), (.ref a2)] 5)) t := fun t k => castTop (ef_ofO m a1 a2) k
  obtain ⟨T1, X1, e1, st1⟩ := getF X0 hx hZ hown (host := "") (Or.inl (own_w hw (i := 42) rfl)) Via.refl e0 F_records_a1 (g := (mkF m 1 #[.val (.ref a1), .val (.ref a2), .unset, .unset, .unset] [(.ref a1)])) rfl rfl (hb hby d24_1)
  obtain ⟨car2, Aar2, qar2, Sar2, Nar2, Har2, Gar2⟩ := id V_aR
  -- pc 9: Interner$Key.hash by rmgh
  obtain ⟨cq3, kq3, q3a, q3b, q3c⟩ := isOf hZ e1 E_a2
  obtain ⟨_, _, ⟨T3, L3, ck3, cn3⟩, -, X3, ⟨Lc3, hQ3, l3, y3, z3⟩, st3⟩ := X1.virtualBack hx (y := (⟨KK, "hash", "()I"⟩ : MethodName)) (z := (⟨KK, "hash", "()I"⟩ : MethodName)) hown (mvT hZ (own_w hw (i := 142) rfl)) (mvT hZ (own_w hw (i := 143) rfl)) (notFace_of_selects (args := #[]) (mvT hZ (own_w hw (i := 145) rfl))) (mvT hZ (own_w hw (i := 145) rfl)) (mvT hZ (own_w hw (i := 144) rfl)) (by decide) (backOf (W := 0) (rmgh l Z a0 hw [] a2 hu h0 n0 Z0 F_hash_a2) hZ (own_w hw (i := 146) rfl) (own_w hw (i := 55) rfl) (by decide) (by decide)) q3a q3c (g := (mkF m 9 #[.val (.ref a1), .val (.ref a2), .val (.int 15), .unset, .unset] [(.ref a2)])) rfl (by rw [hml]; rfl) (Steps.refl _) (argsL := []) (rest := []) (lenOf pd_230 rfl) rfl (by show 2 * 0 + _ ≤ _; exact Nat.le_of_eq rfl) (hb hby d24_9) (fun _ _ => ⟨rfl, e1, (by decide : 0 + 0 ≤ _), (by decide : 0 + 0 ≤ _)⟩)
  dsimp only [Pt.U, Pt.locs, Pt.cells, Pt.slots] at X3 l3 y3 z3 st3 hQ3
  subst y3 z3
  obtain ⟨rfl, N3q, e3⟩ := hQ3
  have N4 : Fr n0 L3 := by rw [l3]; exact Fr.app N0 N3q
  obtain ⟨T5, X5, e5, st5⟩ := getF X3 hx hZ hown (host := "") (Or.inl (own_w hw (i := 42) rfl)) Via.refl e3 F_records_a1 (g := (mkF m 16 #[.val (.ref a1), .val (.ref a2), .val (.int 15), .val (.int (hu &&& (15 : Int32))), .unset] [(.ref a1)])) rfl rfl (hb hby d24_16)
  obtain ⟨car6, Aar6, qar6, Sar6, Nar6, Har6, Gar6⟩ := id V_aR
  have hinar6 : ¬ ((hu &&& (15 : Int32)) < 0 ∨ car6.slots.size ≤ ((hu &&& (15 : Int32))).toNatClampNeg) := inb_of Sar6 (own_sl _)
  have hatar6 : car6.slots[((hu &&& (15 : Int32))).toNatClampNeg]? = some (.ref rc) := atH (hs := [((hu &&& (15 : Int32)), (.ref rc))]) (vs := []) (dv := .null) Har6 hinar6 (getH_hit (own_sl _).1 rfl)
  obtain ⟨T7, X7, e7, st7⟩ := getF X5 hx hZ hown (host := "") (Or.inl (own_w hw (i := 38) rfl)) Via.refl e5 F_hashes_a1 (g := (mkF m 29 #[.val (.ref a1), .val (.ref a2), .val (.int 15), .val (.int (hu &&& (15 : Int32))), .val (.ref rc)] [(.ref a1)])) rfl rfl (hb hby d24_29)
  obtain ⟨car8, Aar8, qar8, Sar8, Nar8, Har8, Gar8⟩ := id V_aH
  have hinar8 : ¬ ((hu &&& (15 : Int32)) < 0 ∨ car8.slots.size ≤ ((hu &&& (15 : Int32))).toNatClampNeg) := inb_of Sar8 (own_sl _)
  have hatar8 : car8.slots[((hu &&& (15 : Int32))).toNatClampNeg]? = some (.int hu) := atH (hs := [((hu &&& (15 : Int32)), (.int hu))]) (vs := []) (dv := (.int 0)) Har8 hinar8 (getH_hit (own_sl _).1 rfl)
  -- pc 35: Interner$Key.hash by rmgh
  obtain ⟨cq9, kq9, q9a, q9b, q9c⟩ := isOf hZ e7 E_a2
  obtain ⟨_, _, ⟨T9, L9, ck9, cn9⟩, -, X9, ⟨Lc9, hQ9, l9, y9, z9⟩, st9⟩ := X7.virtualBack hx (y := (⟨KK, "hash", "()I"⟩ : MethodName)) (z := (⟨KK, "hash", "()I"⟩ : MethodName)) hown (mvT hZ (own_w hw (i := 142) rfl)) (mvT hZ (own_w hw (i := 143) rfl)) (notFace_of_selects (args := #[]) (mvT hZ (own_w hw (i := 145) rfl))) (mvT hZ (own_w hw (i := 145) rfl)) (mvT hZ (own_w hw (i := 144) rfl)) (by decide) (backOf (W := 1) (rmgh l Z a0 hw [] a2 hu h0 n0 Z0 F_hash_a2) hZ (own_w hw (i := 146) rfl) (own_w hw (i := 55) rfl) (by decide) (by decide)) q9a q9c (g := (mkF m 35 #[.val (.ref a1), .val (.ref a2), .val (.int 15), .val (.int (hu &&& (15 : Int32))), .val (.ref rc)] [(.ref a2), (.int hu)])) rfl (by rw [hml]; rfl) (Steps.refl _) (argsL := []) (rest := [(.int hu)]) (lenOf pd_230 rfl) rfl (by show 2 * 0 + _ ≤ _; exact Nat.le_of_eq rfl) (hb hby d24_35) (fun _ _ => ⟨rfl, e7, (by decide : 0 + 0 ≤ _), (by decide : 0 + 0 ≤ _)⟩)
  dsimp only [Pt.U, Pt.locs, Pt.cells, Pt.slots] at X9 l9 y9 z9 st9 hQ9
  subst y9 z9
  obtain ⟨rfl, N9q, e9⟩ := hQ9
  have N10 : Fr n0 L9 := by rw [l9]; exact Fr.app N4 N9q
  -- pc 46: SubjectLines.holds by rmho
  obtain ⟨cq11, qc11, qc11'⟩ := E_a1.cell
  obtain ⟨_, _, ⟨T11, L11, ck11, cn11⟩, -, X11, ⟨Lc11, hQ11, l11, y11, z11⟩, st11⟩ := X9.privateBack hx (y := (⟨KS, "holds", "([IILcom/example/explicit_grants/explicitgrants/Interner$Key;)Z"⟩ : MethodName)) hown (mvT hZ (own_w hw (i := 196) rfl)) (mvT hZ (own_w hw (i := 197) rfl)) (own_sel (y := (⟨KS, "holds", "([IILcom/example/explicit_grants/explicitgrants/Interner$Key;)Z"⟩ : MethodName)) (mvT hZ (own_w hw (i := 31) rfl)) (Cond.privateMethod_at (mvP hZ (own_w hw (i := 198) rfl) (args := #[]))) (mvT hZ (own_w hw (i := 197) rfl)) (by decide)) (Cond.privateMethod_at (mvP hZ (own_w hw (i := 198) rfl) (args := #[]))) (mvT hZ (own_w hw (i := 199) rfl)) (by decide) (backOf (W := 0) (rmho l Z a0 hw [] a1 rc (hu &&& (15 : Int32)) a2 hu k1 kr r0 r1 r8 r9 r10 r11 r12 r13 r14 r15 r16 r17 r18 r19 h0 n0 Z0 E_a2 F_hash_a2 F_first_a2 F_second_a2 F_third_a2 V_rc hk) hZ (own_w hw (i := 199) rfl) (own_w hw (i := 32) rfl) (by decide) (by decide)) (g := (mkF m 46 #[.val (.ref a1), .val (.ref a2), .val (.int 15), .val (.int (hu &&& (15 : Int32))), .val (.ref rc)] [(.ref a2), (.int (hu &&& (15 : Int32))), (.ref rc), (.ref a1)])) rfl (by rw [hml]; rfl) (Steps.refl _) (a := a1) (by rw [e9]; exact qc11) qc11' (argsL := [(.ref rc), (.int (hu &&& (15 : Int32))), (.ref a2)]) (rest := []) (lenOf pd_523 rfl) rfl (by show 2 * 0 + _ ≤ _; exact Nat.le_of_eq rfl) (hb hby d24_46) (fun _ _ => ⟨rfl, e9, (by decide : 0 + 0 ≤ _), (by decide : 0 + 0 ≤ _)⟩)
  dsimp only [Pt.U, Pt.locs, Pt.cells, Pt.slots] at X11 l11 y11 z11 st11 hQ11
  subst y11 z11
  obtain ⟨rfl, N11q, e11⟩ := hQ11
  have N12 : Fr n0 L11 := by rw [l11]; exact Fr.app N10 N11q
  obtain ⟨fs, hr, hrun, hended, hW, hsame⟩ := X11.leave (v := some (.ref rc)) (fun h => by rw [Bd.returns] at h; cases h) Bd.notSynchronized
  refine ⟨_, _, pre0 _ ?_, hrun, hended, _, _, rfl, ?_, ⟨_, rfl⟩, hW, hsame.mono (by decide) (by decide)⟩
  · show Steps p.tables e below (s₁.setTop (mkF m 0 #[.val (.ref a1), .val (.ref a2), .unset, .unset, .unset] [])) _
    refine XS.aloadN X0.here hx rfl (hb hby d24_0) rfl rfl ?_
    refine st1 _ ?_
    refine X1.arraylength hx (by rw [e1]; exact Aar2.1) (State.isArrayOf_alike hZ.alike Aar2.2.1) (g := (mkF m 4 #[.val (.ref a1), .val (.ref a2), .unset, .unset, .unset] [(.ref aR)])) rfl rfl (hb hby d24_4) _ ?_
    rw [len_of Sar2 Nar2]
    refine XS.iconst X1.here hx rfl (hb hby d24_5) ?_
    refine XS.isub X1.here hx rfl (hb hby d24_6) rfl ?_
    refine XS.istoreN X1.here hx rfl (hb hby d24_7) rfl (l' := #[.val (.ref a1), .val (.ref a2), .val (.int 15), .unset, .unset]) rfl ?_
    refine XS.aloadN X1.here hx rfl (hb hby d24_8) rfl rfl ?_
    refine st3.trans ?_
    show Steps p.tables e below (T3.setTop (mkF m 12 #[.val (.ref a1), .val (.ref a2), .val (.int 15), .unset, .unset] [(.int hu)])) _
    refine XS.iloadN X3.here hx rfl (hb hby d24_12) rfl ?_
    refine XS.iand X3.here hx rfl (hb hby d24_13) rfl ?_
    refine XS.istoreN X3.here hx rfl (hb hby d24_14) rfl (l' := #[.val (.ref a1), .val (.ref a2), .val (.int 15), .val (.int (hu &&& (15 : Int32))), .unset]) rfl ?_
    refine XS.aloadN X3.here hx rfl (hb hby d24_15) rfl rfl ?_
    refine st5 _ ?_
    refine XS.iloadN X5.here hx rfl (hb hby d24_19) rfl ?_
    refine X5.aaload hx (j := (hu &&& (15 : Int32))) (v := (.ref rc)) (by rw [e5]; exact Aar6.1) (State.isArrayOf_alike hZ.alike Aar6.2.1) rfl Aar6.2.2 hinar6 hatar6 (g := (mkF m 20 #[.val (.ref a1), .val (.ref a2), .val (.int 15), .val (.int (hu &&& (15 : Int32))), .unset] [(.int (hu &&& (15 : Int32))), (.ref aR)])) rfl rfl (hb hby d24_20) _ ?_
    refine XS.astore X5.here hx rfl (hb hby d24_21) rfl rfl (l' := #[.val (.ref a1), .val (.ref a2), .val (.int 15), .val (.int (hu &&& (15 : Int32))), .val (.ref rc)]) rfl ?_
    show Steps p.tables e below (T5.setTop (mkF m 23 #[.val (.ref a1), .val (.ref a2), .val (.int 15), .val (.int (hu &&& (15 : Int32))), .val (.ref rc)] [])) _
    refine XS.aload X5.here hx rfl (hb hby d24_23) rfl rfl ?_
    refine XS.ifnullNo X5.here hx rfl (hb hby d24_25) rfl ?_
    refine XS.aloadN X5.here hx rfl (hb hby d24_28) rfl rfl ?_
    refine st7 _ ?_
    refine XS.iloadN X7.here hx rfl (hb hby d24_32) rfl ?_
    refine X7.iaload hx (j := (hu &&& (15 : Int32))) (v := (.int hu)) (by rw [e7]; exact Aar8.1) (State.isArrayOf_alike hZ.alike Aar8.2.1) Aar8.2.2 hinar8 hatar8 (g := (mkF m 33 #[.val (.ref a1), .val (.ref a2), .val (.int 15), .val (.int (hu &&& (15 : Int32))), .val (.ref rc)] [(.int (hu &&& (15 : Int32))), (.ref aH)])) rfl rfl (hb hby d24_33) _ ?_
    refine XS.aloadN X7.here hx rfl (hb hby d24_34) rfl rfl ?_
    refine st9.trans ?_
    show Steps p.tables e below (T9.setTop (mkF m 38 #[.val (.ref a1), .val (.ref a2), .val (.int 15), .val (.int (hu &&& (15 : Int32))), .val (.ref rc)] [(.int hu), (.int hu)])) _
    refine XS.icmpNo X9.here hx rfl (hb hby d24_38) rfl (teq (rfl : hu = hu)).2 ?_
    refine XS.aloadN X9.here hx rfl (hb hby d24_41) rfl rfl ?_
    refine XS.aload X9.here hx rfl (hb hby d24_42) rfl rfl ?_
    refine XS.iloadN X9.here hx rfl (hb hby d24_44) rfl ?_
    refine XS.aloadN X9.here hx rfl (hb hby d24_45) rfl rfl ?_
    refine st11.trans ?_
    show Steps p.tables e below (T11.setTop (mkF m 49 #[.val (.ref a1), .val (.ref a2), .val (.int 15), .val (.int (hu &&& (15 : Int32))), .val (.ref rc)] [(.int 1)])) _
    refine XS.ifYes X11.here hx rfl (pc0 := 49) (pc' := 69) rfl (hb hby d24_49) rfl ((if0 _ _).trans (feq (by decide : ¬ ((1 : Int32) = (0 : Int32)))).2) (by decide) (by decide) ?_
    refine XS.aload X11.here hx rfl (hb hby d24_69) rfl rfl ?_
    show Steps p.tables e below (T11.setTop (mkF m 71 #[.val (.ref a1), .val (.ref a2), .val (.int 15), .val (.int (hu &&& (15 : Int32))), .val (.ref rc)] [(.ref rc)])) _
    exact retOut X11 hx (t := (.array .int)) Bd.returns rfl (Or.inr (Or.inr (Or.inr (Or.inr ⟨rfl, rfl, rfl⟩)))) (hb hby d24_71) hr
  · show QofO Z a1 a2 hu k1 aH aR aS kH kR rc kr r0 r1 r8 r9 r10 r11 r12 r13 r14 r15 r16 r17 r18 r19 h0 n0 _ T11.heap _
    rw [e11]
    exact ⟨rfl, N12, rfl⟩
theorem d7_0 : decode prog_18_method_1_code 0 = .ok (.aload_n 0, 1) := by decide +kernel
theorem d7_1 : decode prog_18_method_1_code 1 = .ok (.invokespecial 3, 3) := by decide +kernel
theorem d7_4 : decode prog_18_method_1_code 4 = .ok (.aload_n 0, 1) := by decide +kernel
theorem d7_5 : decode prog_18_method_1_code 5 = .ok (.bipush 16, 2) := by decide +kernel
theorem d7_7 : decode prog_18_method_1_code 7 = .ok (.newarray .int, 2) := by decide +kernel
theorem d7_9 : decode prog_18_method_1_code 9 = .ok (.putfield 9, 3) := by decide +kernel
theorem sn_564 {Z : State} {a0 : Array Value} (hw : ∀ d ∈ tables_1, d.before a0 Z = true) : Jvm.RoadKit.slotOf Z KS "records" "[[I" ≠ Jvm.RoadKit.slotOf Z KS "hashes" "[I" := slot_ne (Or.inl (own_w hw (i := 43) rfl)) (Or.inl (own_w hw (i := 39) rfl)) (by decide) (t := (.array (.array .int))) (t' := (.array .int)) (by decide) (by decide)
theorem sn_565 {Z : State} {a0 : Array Value} (hw : ∀ d ∈ tables_1, d.before a0 Z = true) : Jvm.RoadKit.slotOf Z KS "subjects" "[Ljava/lang/String;" ≠ Jvm.RoadKit.slotOf Z KS "hashes" "[I" := slot_ne (Or.inl (own_w hw (i := 47) rfl)) (Or.inl (own_w hw (i := 39) rfl)) (by decide) (t := (.array (.object KJ))) (t' := (.array .int)) (by decide) (by decide)
theorem sn_566 {Z : State} {a0 : Array Value} (hw : ∀ d ∈ tables_1, d.before a0 Z = true) : Jvm.RoadKit.slotOf Z KS "size" "I" ≠ Jvm.RoadKit.slotOf Z KS "hashes" "[I" := slot_ne (Or.inl (own_w hw (i := 166) rfl)) (Or.inl (own_w hw (i := 39) rfl)) (by decide) (t := .int) (t' := (.array .int)) (by decide) (by decide)
theorem d7_12 : decode prog_18_method_1_code 12 = .ok (.aload_n 0, 1) := by decide +kernel
theorem d7_13 : decode prog_18_method_1_code 13 = .ok (.bipush 16, 2) := by decide +kernel
theorem d7_15 : decode prog_18_method_1_code 15 = .ok (.anewarray 13, 3) := by decide +kernel
theorem d7_18 : decode prog_18_method_1_code 18 = .ok (.putfield 14, 3) := by decide +kernel
theorem sn_571 {Z : State} {a0 : Array Value} (hw : ∀ d ∈ tables_1, d.before a0 Z = true) : Jvm.RoadKit.slotOf Z KS "hashes" "[I" ≠ Jvm.RoadKit.slotOf Z KS "records" "[[I" := slot_ne (Or.inl (own_w hw (i := 39) rfl)) (Or.inl (own_w hw (i := 43) rfl)) (by decide) (t := (.array .int)) (t' := (.array (.array .int))) (by decide) (by decide)
theorem sn_572 {Z : State} {a0 : Array Value} (hw : ∀ d ∈ tables_1, d.before a0 Z = true) : Jvm.RoadKit.slotOf Z KS "subjects" "[Ljava/lang/String;" ≠ Jvm.RoadKit.slotOf Z KS "records" "[[I" := slot_ne (Or.inl (own_w hw (i := 47) rfl)) (Or.inl (own_w hw (i := 43) rfl)) (by decide) (t := (.array (.object KJ))) (t' := (.array (.array .int))) (by decide) (by decide)
theorem sn_573 {Z : State} {a0 : Array Value} (hw : ∀ d ∈ tables_1, d.before a0 Z = true) : Jvm.RoadKit.slotOf Z KS "size" "I" ≠ Jvm.RoadKit.slotOf Z KS "records" "[[I" := slot_ne (Or.inl (own_w hw (i := 166) rfl)) (Or.inl (own_w hw (i := 43) rfl)) (by decide) (t := .int) (t' := (.array (.array .int))) (by decide) (by decide)
theorem d7_21 : decode prog_18_method_1_code 21 = .ok (.aload_n 0, 1) := by decide +kernel
theorem d7_22 : decode prog_18_method_1_code 22 = .ok (.bipush 16, 2) := by decide +kernel
theorem d7_24 : decode prog_18_method_1_code 24 = .ok (.anewarray 18, 3) := by decide +kernel
theorem d7_27 : decode prog_18_method_1_code 27 = .ok (.putfield 20, 3) := by decide +kernel
theorem sn_578 {Z : State} {a0 : Array Value} (hw : ∀ d ∈ tables_1, d.before a0 Z = true) : Jvm.RoadKit.slotOf Z KS "hashes" "[I" ≠ Jvm.RoadKit.slotOf Z KS "subjects" "[Ljava/lang/String;" := slot_ne (Or.inl (own_w hw (i := 39) rfl)) (Or.inl (own_w hw (i := 47) rfl)) (by decide) (t := (.array .int)) (t' := (.array (.object KJ))) (by decide) (by decide)
theorem sn_579 {Z : State} {a0 : Array Value} (hw : ∀ d ∈ tables_1, d.before a0 Z = true) : Jvm.RoadKit.slotOf Z KS "records" "[[I" ≠ Jvm.RoadKit.slotOf Z KS "subjects" "[Ljava/lang/String;" := slot_ne (Or.inl (own_w hw (i := 43) rfl)) (Or.inl (own_w hw (i := 47) rfl)) (by decide) (t := (.array (.array .int))) (t' := (.array (.object KJ))) (by decide) (by decide)
theorem sn_580 {Z : State} {a0 : Array Value} (hw : ∀ d ∈ tables_1, d.before a0 Z = true) : Jvm.RoadKit.slotOf Z KS "size" "I" ≠ Jvm.RoadKit.slotOf Z KS "subjects" "[Ljava/lang/String;" := slot_ne (Or.inl (own_w hw (i := 166) rfl)) (Or.inl (own_w hw (i := 47) rfl)) (by decide) (t := .int) (t' := (.array (.object KJ))) (by decide) (by decide)
theorem d7_30 : decode prog_18_method_1_code 30 = .ok (.return_, 1) := by decide +kernel
theorem ef_si (m : MethodId) (x0 : Addr) : entryFrame m #[(.ref x0)] 1 = mkF m 0 #[.val (.ref x0)] [] := by first | (simp [entryFrame, mkF, argsToLocals, Value.category]; done) | rfl
abbrev R_si : Room := { frames := 1, cells := 3, slots := 48, locals := 12 }
def Qsi (Z : State) (a1 : Addr) (s0 : Int32) (h0 : Heap) (n0 : Nat) (v : Option Value) (h : Heap) (L : List Loc) : Prop := ∃ (n1 : Addr) (kn1 : ClassId) (n2 : Addr) (kn2 : ClassId) (n3 : Addr) (kn3 : ClassId), v = none ∧ Fr n0 L ∧ Keep h0 h [a1] ∧ n0 ≤ n1 ∧ n0 ≤ n2 ∧ n0 ≤ n3 ∧ h0.size ≤ n1 ∧ h0.size ≤ n2 ∧ h0.size ≤ n3 ∧ n2 ≠ n1 ∧ n3 ≠ n1 ∧ n3 ≠ n2 ∧ Exa Z h a1 KS ∧ Fld Z h a1 KS "hashes" "[I" (.ref n1) ∧ Fld Z h a1 KS "records" "[[I" (.ref n2) ∧ Fld Z h a1 KS "subjects" "[Ljava/lang/String;" (.ref n3) ∧ Fld Z h a1 KS "size" "I" (.int s0) ∧ Arv Z h n1 kn1 .int (16 : Int32) [] (.int 0) ∧ Arv Z h n2 kn2 (.array .int) (16 : Int32) [] .null ∧ Arv Z h n3 kn3 (.object KJ) (16 : Int32) [] .null ∧ OvrA Z kn2 .int "[I" ∧ Ovr Z kn3 KJ
set_option maxRecDepth 65536 in
set_option maxHeartbeats 40000000 in
theorem rmsi (l : Launch) (Z : State) (a0 : Array Value) (hw : ∀ d ∈ tables_1, d.before a0 Z = true) (ws : List Jvm.Cond) (a1 : Addr) (s0 : Int32) (h0 : Heap) (n0 : Nat) (Z0 : n0 ≤ h0.size) (E_a1 : Exa Z h0 a1 KS) (F_hashes_a1 : Fld Z h0 a1 KS "hashes" "[I" .null) (F_records_a1 : Fld Z h0 a1 KS "records" "[[I" .null) (F_subjects_a1 : Fld Z h0 a1 KS "subjects" "[Ljava/lang/String;" .null) (F_size_a1 : Fld Z h0 a1 KS "size" "I" (.int s0)) (g_a1 : n0 ≤ a1) :
    MetFree l (⟨KS, "<init>", "()V"⟩ : MethodName) (head1 (Jvm.Cond.code (⟨KS, "<init>", "()V"⟩ : MethodName) prog_18_method_1_code 1 none :: ws) R_si) (fun a U => a = #[(.ref a1)] ∧ Z.Warmed39 U.vm ∧ U.heap = h0) (fun _ _ _ _ _ => True) (fun _ U o U' => ∃ v L, o = .returned v ∧ Qsi Z a1 s0 h0 n0 v U'.heap L ∧ FrameEnd U o U' L R_si.cells R_si.slots) := by
  refine MetFree.of_bodySF (plainFor_of_name pn_386) hisR ?_
  intro p e s m args below meth c s₁ Bd hml0 hP hK
  obtain ⟨rfl, hZ, hh⟩ := hP
  have hx := Bd.exec
  have hby := Bd.bytes
  have hml : c.maxLocals = 1 := hml0
  have hown : s.vm.findClass KS = some m.cls := findClass_of_methodNamed Bd.named
  have hnm := (name_of_methodNamed Bd.named Bd.method).1
  have X0 : Stand p l e R_si s m #[(.ref a1)] below meth c s₁ [] 0 0 := Stand.of_body Bd
  have e0 : s₁.heap = h0 := by rw [← hh, Bd.state]; rfl
  have N0 := Fr.nil n0
  have pre0 : ∀ t, Steps p.tables e below (s₁.setTop (mkF m 0 #[.val (.ref a1)] [])) t → Steps p.tables e below (s₁.setTop (entryFrame m #[(.ref a1)] 1)) t := fun t k => castTop (ef_si m a1) k
  obtain ⟨T1, X1, e1, st1⟩ := initO X0 hx hZ hown (own_w hw (i := 36) rfl) (own_w hw (i := 12) rfl) (own_w hw (i := 13) rfl) e0 (g := (mkF m 1 #[.val (.ref a1)] [(.ref a1)])) rfl (by rw [hml]; rfl) rfl (hb hby d7_1) (by decide) (W := 0) (by show 2 * 0 + _ ≤ _; exact Nat.le_of_eq rfl) (by decide)
  obtain ⟨T2, h2, ka2, X2, e2, E2, A2, st2⟩ := newP X1 hx hZ (own_w hw (i := 37) rfl) e1 (g := (mkF m 7 #[.val (.ref a1)] [(.int 16), (.ref a1)])) rfl (hb hby d7_7) rfl (by decide) (cap := 16) (by decide) (by decide) (by decide) (by decide)
  obtain ⟨bx2, g2⟩ : ∃ z, z = h0.size := ⟨_, rfl⟩
  rw [← g2] at A2 st2
  have g_bx2 : n0 ≤ bx2 := Nat.le_trans Z0 (Nat.le_of_eq g2.symm)
  have sz_bx2 : h0.size ≤ bx2 := Nat.le_trans (Keep.refl h0 [a1]).1 (Nat.le_of_eq g2.symm)
  have ne3 : a1 ≠ bx2 := Nat.ne_of_lt (Nat.lt_of_lt_of_le E_a1.lt (Nat.le_of_eq g2.symm))
  have f4 := E_a1.ext E2
  have f5 := F_hashes_a1.ext E2
  have f6 := F_records_a1.ext E2
  have f7 := F_subjects_a1.ext E2
  have f8 := F_size_a1.ext E2
  have zs9 : n0 ≤ h2.size := Nat.le_trans Z0 E2.1
  have K10 := (Keep.refl h0 [a1]).ext E2
  have V_bx2 : Arv Z h2 bx2 ka2 .int (16 : Int32) [] (.int 0) := Arv.new A2 (by decide)
  obtain ⟨T11, h11, X11, e11, W11, st11⟩ := putF X2 hx hZ hown (host := "") (Or.inl (own_w hw (i := 38) rfl)) Via.refl e2 f5 f4 (Or.inl (own_w hw (i := 39) rfl)) (own_w hw (i := 31) rfl) (ty := (.array .int)) (by decide) rfl rfl (g := (mkF m 9 #[.val (.ref a1)] [(.ref bx2), (.ref a1)])) rfl rfl (hb hby d7_9)
  have f12 := f4.wr W11
  have f13 := f5.same W11
  have f14 := f6.other W11 (Or.inr (sn_564 hw))
  have f15 := f7.other W11 (Or.inr (sn_565 hw))
  have f16 := f8.other W11 (Or.inr (sn_566 hw))
  have f17 := V_bx2.other W11 (Ne.symm ne3)
  have K18 := K10.wr W11 (Or.inl (List.mem_of_getElem? (i := 0) rfl))
  have zs19 : n0 ≤ h11.size := Nat.le_trans zs9 (Keep.of_wr W11).1
  have N20 := Fr.snoc X11 N0 g_a1
  obtain ⟨T21, h21, ka21, X21, e21, E21, A21, -, O21, st21⟩ := newRA X11 hx hZ hown (by decide) (own_w hw (i := 40) rfl) (own_w hw (i := 41) rfl) e11 (g := (mkF m 15 #[.val (.ref a1)] [(.int 16), (.ref a1)])) rfl (hb hby d7_15) rfl (by decide) (cap := 16) (by decide) (by decide) (by decide) (by decide) (ad := "[[I") (by decide)
  obtain ⟨bx21, g21⟩ : ∃ z, z = h11.size := ⟨_, rfl⟩
  rw [← g21] at A21 st21
  have g_bx21 : n0 ≤ bx21 := Nat.le_trans zs19 (Nat.le_of_eq g21.symm)
  have sz_bx21 : h0.size ≤ bx21 := Nat.le_trans K18.1 (Nat.le_of_eq g21.symm)
  have ne22 : a1 ≠ bx21 := Nat.ne_of_lt (Nat.lt_of_lt_of_le f12.lt (Nat.le_of_eq g21.symm))
  have ne23 : bx2 ≠ bx21 := Nat.ne_of_lt (Nat.lt_of_lt_of_le f17.lt (Nat.le_of_eq g21.symm))
  have f24 := f12.ext E21
  have f25 := f13.ext E21
  have f26 := f14.ext E21
  have f27 := f15.ext E21
  have f28 := f16.ext E21
  have f29 := f17.ext E21
  have zs30 : n0 ≤ h21.size := Nat.le_trans zs19 E21.1
  have K31 := K18.ext E21
  have V_bx21 : Arv Z h21 bx21 ka21 (.array .int) (16 : Int32) [] .null := Arv.new A21 (by decide)
  obtain ⟨T32, h32, X32, e32, W32, st32⟩ := putF X21 hx hZ hown (host := "") (Or.inl (own_w hw (i := 42) rfl)) Via.refl e21 f26 f24 (Or.inl (own_w hw (i := 43) rfl)) (own_w hw (i := 31) rfl) (ty := (.array (.array .int))) (by decide) rfl rfl (g := (mkF m 18 #[.val (.ref a1)] [(.ref bx21), (.ref a1)])) rfl rfl (hb hby d7_18)
  have f33 := f24.wr W32
  have f34 := f25.other W32 (Or.inr (sn_571 hw))
  have f35 := f26.same W32
  have f36 := f27.other W32 (Or.inr (sn_572 hw))
  have f37 := f28.other W32 (Or.inr (sn_573 hw))
  have f38 := f29.other W32 (Ne.symm ne3)
  have f39 := V_bx21.other W32 (Ne.symm ne22)
  have K40 := K31.wr W32 (Or.inl (List.mem_of_getElem? (i := 0) rfl))
  have zs41 : n0 ≤ h32.size := Nat.le_trans zs30 (Keep.of_wr W32).1
  have N42 := Fr.snoc X32 N20 g_a1
  obtain ⟨T43, h43, ka43, X43, e43, E43, A43, O43, st43⟩ := newR X32 hx hZ hown (own_w hw (i := 44) rfl) (own_w hw (i := 45) rfl) e32 (g := (mkF m 24 #[.val (.ref a1)] [(.int 16), (.ref a1)])) rfl (hb hby d7_24) rfl (by decide) (cap := 16) (by decide) (by decide) (by decide) (by decide)
  obtain ⟨bx43, g43⟩ : ∃ z, z = h32.size := ⟨_, rfl⟩
  rw [← g43] at A43 st43
  have g_bx43 : n0 ≤ bx43 := Nat.le_trans zs41 (Nat.le_of_eq g43.symm)
  have sz_bx43 : h0.size ≤ bx43 := Nat.le_trans K40.1 (Nat.le_of_eq g43.symm)
  have ne44 : a1 ≠ bx43 := Nat.ne_of_lt (Nat.lt_of_lt_of_le f33.lt (Nat.le_of_eq g43.symm))
  have ne45 : bx2 ≠ bx43 := Nat.ne_of_lt (Nat.lt_of_lt_of_le f38.lt (Nat.le_of_eq g43.symm))
  have ne46 : bx21 ≠ bx43 := Nat.ne_of_lt (Nat.lt_of_lt_of_le f39.lt (Nat.le_of_eq g43.symm))
  have f47 := f33.ext E43
  have f48 := f34.ext E43
  have f49 := f35.ext E43
  have f50 := f36.ext E43
  have f51 := f37.ext E43
  have f52 := f38.ext E43
  have f53 := f39.ext E43
  have K55 := K40.ext E43
  have V_bx43 : Arv Z h43 bx43 ka43 (.object KJ) (16 : Int32) [] .null := Arv.new A43 (by decide)
  obtain ⟨T56, h56, X56, e56, W56, st56⟩ := putF X43 hx hZ hown (host := "") (Or.inl (own_w hw (i := 46) rfl)) Via.refl e43 f50 f47 (Or.inl (own_w hw (i := 47) rfl)) (own_w hw (i := 31) rfl) (ty := (.array (.object KJ))) (by decide) rfl rfl (g := (mkF m 27 #[.val (.ref a1)] [(.ref bx43), (.ref a1)])) rfl rfl (hb hby d7_27)
  have f57 := f47.wr W56
  have f58 := f48.other W56 (Or.inr (sn_578 hw))
  have f59 := f49.other W56 (Or.inr (sn_579 hw))
  have f60 := f50.same W56
  have f61 := f51.other W56 (Or.inr (sn_580 hw))
  have f62 := f52.other W56 (Ne.symm ne3)
  have f63 := f53.other W56 (Ne.symm ne22)
  have f64 := V_bx43.other W56 (Ne.symm ne44)
  have K65 := K55.wr W56 (Or.inl (List.mem_of_getElem? (i := 0) rfl))
  have N67 := Fr.snoc X56 N42 g_a1
  obtain ⟨fs, hr, hrun, hended, hW, hsame⟩ := X56.leave (v := none) (fun _ => rfl) Bd.notSynchronized
  refine ⟨_, _, pre0 _ ?_, hrun, hended, _, _, rfl, ?_, ⟨_, rfl⟩, hW, hsame.mono (by decide) (by decide)⟩
  · show Steps p.tables e below (s₁.setTop (mkF m 0 #[.val (.ref a1)] [])) _
    refine XS.aloadN X0.here hx rfl (hb hby d7_0) rfl rfl ?_
    refine st1 _ ?_
    refine XS.aloadN X1.here hx rfl (hb hby d7_4) rfl rfl ?_
    refine XS.bipush X1.here hx rfl (hb hby d7_5) ?_
    refine st2 _ ?_
    refine st11 _ ?_
    refine XS.aloadN X11.here hx rfl (hb hby d7_12) rfl rfl ?_
    refine XS.bipush X11.here hx rfl (hb hby d7_13) ?_
    show Steps p.tables e below (T11.setTop (mkF m 15 #[.val (.ref a1)] [(.int 16), (.ref a1)])) _
    refine st21 _ ?_
    refine st32 _ ?_
    refine XS.aloadN X32.here hx rfl (hb hby d7_21) rfl rfl ?_
    refine XS.bipush X32.here hx rfl (hb hby d7_22) ?_
    refine st43 _ ?_
    refine st56 _ ?_
    exact X56.returnOut hx Bd.returns (hb hby d7_30) hr
  · show Qsi Z a1 s0 h0 n0 _ T56.heap _
    rw [e56]
    exact ⟨bx2, ka2, bx21, ka21, bx43, ka43, rfl, N67, K65, g_bx2, g_bx21, g_bx43, sz_bx2, sz_bx21, sz_bx43, (Ne.symm ne23), (Ne.symm ne45), (Ne.symm ne46), f57, f58, f59, f60, f61, f62, f63, f64, O21, O43⟩
theorem d28_0 : decode prog_18_method_10_code 0 = .ok (.aload_n 1, 1) := by decide +kernel
theorem d28_1 : decode prog_18_method_10_code 1 = .ok (.invokestatic 72, 3) := by decide +kernel
theorem pd_584 : parseMethodDescriptor "(Ljava/lang/String;)Lcom/example/explicit_grants/explicitgrants/Interner$Key;" = some ⟨[(.object KJ)], some (.object KK)⟩ := by decide +kernel
theorem d28_4 : decode prog_18_method_10_code 4 = .ok (.astore_n 2, 1) := by decide +kernel
theorem d28_5 : decode prog_18_method_10_code 5 = .ok (.aload_n 0, 1) := by decide +kernel
theorem d28_6 : decode prog_18_method_10_code 6 = .ok (.aload_n 2, 1) := by decide +kernel
theorem d28_7 : decode prog_18_method_10_code 7 = .ok (.invokevirtual 76, 3) := by decide +kernel
theorem pd_589 : parseMethodDescriptor "(Lcom/example/explicit_grants/explicitgrants/Interner$Key;)I" = some ⟨[(.object KK)], some .int⟩ := by decide +kernel
theorem d28_10 : decode prog_18_method_10_code 10 = .ok (.istore_n 3, 1) := by decide +kernel
theorem d28_11 : decode prog_18_method_10_code 11 = .ok (.aload_n 0, 1) := by decide +kernel
theorem d28_12 : decode prog_18_method_10_code 12 = .ok (.getfield 14, 3) := by decide +kernel
theorem d28_15 : decode prog_18_method_10_code 15 = .ok (.iload_n 3, 1) := by decide +kernel
theorem d28_16 : decode prog_18_method_10_code 16 = .ok (.aaload, 1) := by decide +kernel
theorem d28_17 : decode prog_18_method_10_code 17 = .ok (.ifnonnull 155, 3) := by decide +kernel
theorem d28_20 : decode prog_18_method_10_code 20 = .ok (.iconst 2, 1) := by decide +kernel
theorem d28_21 : decode prog_18_method_10_code 21 = .ok (.aload_n 0, 1) := by decide +kernel
theorem d28_22 : decode prog_18_method_10_code 22 = .ok (.getfield 88, 3) := by decide +kernel
theorem d28_25 : decode prog_18_method_10_code 25 = .ok (.iconst 1, 1) := by decide +kernel
theorem d28_26 : decode prog_18_method_10_code 26 = .ok (.iadd, 1) := by decide +kernel
theorem d28_27 : decode prog_18_method_10_code 27 = .ok (.imul, 1) := by decide +kernel
theorem d28_28 : decode prog_18_method_10_code 28 = .ok (.aload_n 0, 1) := by decide +kernel
theorem d28_29 : decode prog_18_method_10_code 29 = .ok (.getfield 14, 3) := by decide +kernel
theorem d28_32 : decode prog_18_method_10_code 32 = .ok (.arraylength, 1) := by decide +kernel
theorem d28_33 : decode prog_18_method_10_code 33 = .ok (.if_icmp .le 20, 3) := by decide +kernel
theorem d28_53 : decode prog_18_method_10_code 53 = .ok (.bipush 20, 2) := by decide +kernel
theorem d28_55 : decode prog_18_method_10_code 55 = .ok (.newarray .int, 2) := by decide +kernel
theorem d28_57 : decode prog_18_method_10_code 57 = .ok (.astore 4, 2) := by decide +kernel
theorem d28_59 : decode prog_18_method_10_code 59 = .ok (.iconst 3, 1) := by decide +kernel
theorem d28_60 : decode prog_18_method_10_code 60 = .ok (.newarray .long, 2) := by decide +kernel
theorem d28_62 : decode prog_18_method_10_code 62 = .ok (.dup, 1) := by decide +kernel
theorem d28_63 : decode prog_18_method_10_code 63 = .ok (.iconst 0, 1) := by decide +kernel
theorem d28_64 : decode prog_18_method_10_code 64 = .ok (.aload_n 2, 1) := by decide +kernel
theorem d28_65 : decode prog_18_method_10_code 65 = .ok (.invokevirtual 95, 3) := by decide +kernel
theorem d28_68 : decode prog_18_method_10_code 68 = .ok (.lastore, 1) := by decide +kernel
theorem d28_69 : decode prog_18_method_10_code 69 = .ok (.dup, 1) := by decide +kernel
theorem d28_70 : decode prog_18_method_10_code 70 = .ok (.iconst 1, 1) := by decide +kernel
theorem d28_71 : decode prog_18_method_10_code 71 = .ok (.aload_n 2, 1) := by decide +kernel
theorem d28_72 : decode prog_18_method_10_code 72 = .ok (.invokevirtual 99, 3) := by decide +kernel
theorem d28_75 : decode prog_18_method_10_code 75 = .ok (.lastore, 1) := by decide +kernel
theorem d28_76 : decode prog_18_method_10_code 76 = .ok (.dup, 1) := by decide +kernel
theorem d28_77 : decode prog_18_method_10_code 77 = .ok (.iconst 2, 1) := by decide +kernel
theorem d28_78 : decode prog_18_method_10_code 78 = .ok (.aload_n 2, 1) := by decide +kernel
theorem d28_79 : decode prog_18_method_10_code 79 = .ok (.invokevirtual 102, 3) := by decide +kernel
theorem d28_82 : decode prog_18_method_10_code 82 = .ok (.lastore, 1) := by decide +kernel
theorem d28_83 : decode prog_18_method_10_code 83 = .ok (.astore 5, 2) := by decide +kernel
theorem d28_85 : decode prog_18_method_10_code 85 = .ok (.iconst 0, 1) := by decide +kernel
theorem d28_86 : decode prog_18_method_10_code 86 = .ok (.istore 6, 2) := by decide +kernel
theorem d28_88 : decode prog_18_method_10_code 88 = .ok (.iload 6, 2) := by decide +kernel
theorem d28_90 : decode prog_18_method_10_code 90 = .ok (.aload 5, 2) := by decide +kernel
theorem d28_92 : decode prog_18_method_10_code 92 = .ok (.arraylength, 1) := by decide +kernel
theorem d28_93 : decode prog_18_method_10_code 93 = .ok (.if_icmp .ge 44, 3) := by decide +kernel
theorem d28_96 : decode prog_18_method_10_code 96 = .ok (.aload 4, 2) := by decide +kernel
theorem d28_98 : decode prog_18_method_10_code 98 = .ok (.iconst 2, 1) := by decide +kernel
theorem d28_99 : decode prog_18_method_10_code 99 = .ok (.iconst 2, 1) := by decide +kernel
theorem d28_100 : decode prog_18_method_10_code 100 = .ok (.iload 6, 2) := by decide +kernel
theorem d28_102 : decode prog_18_method_10_code 102 = .ok (.imul, 1) := by decide +kernel
theorem d28_103 : decode prog_18_method_10_code 103 = .ok (.iadd, 1) := by decide +kernel
theorem d28_104 : decode prog_18_method_10_code 104 = .ok (.aload 5, 2) := by decide +kernel
theorem d28_106 : decode prog_18_method_10_code 106 = .ok (.iload 6, 2) := by decide +kernel
theorem d28_108 : decode prog_18_method_10_code 108 = .ok (.laload, 1) := by decide +kernel
theorem d28_109 : decode prog_18_method_10_code 109 = .ok (.l2i, 1) := by decide +kernel
theorem d28_110 : decode prog_18_method_10_code 110 = .ok (.iastore, 1) := by decide +kernel
theorem d28_111 : decode prog_18_method_10_code 111 = .ok (.aload 4, 2) := by decide +kernel
theorem d28_113 : decode prog_18_method_10_code 113 = .ok (.iconst 2, 1) := by decide +kernel
theorem d28_114 : decode prog_18_method_10_code 114 = .ok (.iconst 2, 1) := by decide +kernel
theorem d28_115 : decode prog_18_method_10_code 115 = .ok (.iload 6, 2) := by decide +kernel
theorem d28_117 : decode prog_18_method_10_code 117 = .ok (.imul, 1) := by decide +kernel
theorem d28_118 : decode prog_18_method_10_code 118 = .ok (.iadd, 1) := by decide +kernel
theorem d28_119 : decode prog_18_method_10_code 119 = .ok (.iconst 1, 1) := by decide +kernel
theorem d28_120 : decode prog_18_method_10_code 120 = .ok (.iadd, 1) := by decide +kernel
theorem d28_121 : decode prog_18_method_10_code 121 = .ok (.aload 5, 2) := by decide +kernel
theorem d28_123 : decode prog_18_method_10_code 123 = .ok (.iload 6, 2) := by decide +kernel
theorem d28_125 : decode prog_18_method_10_code 125 = .ok (.laload, 1) := by decide +kernel
theorem d28_126 : decode prog_18_method_10_code 126 = .ok (.bipush 32, 2) := by decide +kernel
theorem d28_128 : decode prog_18_method_10_code 128 = .ok (.lushr, 1) := by decide +kernel
theorem d28_129 : decode prog_18_method_10_code 129 = .ok (.l2i, 1) := by decide +kernel
theorem d28_130 : decode prog_18_method_10_code 130 = .ok (.iastore, 1) := by decide +kernel
theorem d28_131 : decode prog_18_method_10_code 131 = .ok (.iinc 6 1, 3) := by decide +kernel
theorem d28_134 : decode prog_18_method_10_code 134 = .ok (.goto (-46), 3) := by decide +kernel
theorem d28_137 : decode prog_18_method_10_code 137 = .ok (.aload_n 0, 1) := by decide +kernel
theorem d28_138 : decode prog_18_method_10_code 138 = .ok (.getfield 9, 3) := by decide +kernel
theorem d28_141 : decode prog_18_method_10_code 141 = .ok (.iload_n 3, 1) := by decide +kernel
theorem d28_142 : decode prog_18_method_10_code 142 = .ok (.aload_n 2, 1) := by decide +kernel
theorem d28_143 : decode prog_18_method_10_code 143 = .ok (.invokevirtual 24, 3) := by decide +kernel
theorem d28_146 : decode prog_18_method_10_code 146 = .ok (.iastore, 1) := by decide +kernel
theorem d28_147 : decode prog_18_method_10_code 147 = .ok (.aload_n 0, 1) := by decide +kernel
theorem d28_148 : decode prog_18_method_10_code 148 = .ok (.getfield 14, 3) := by decide +kernel
theorem d28_151 : decode prog_18_method_10_code 151 = .ok (.iload_n 3, 1) := by decide +kernel
theorem d28_152 : decode prog_18_method_10_code 152 = .ok (.aload 4, 2) := by decide +kernel
theorem d28_154 : decode prog_18_method_10_code 154 = .ok (.aastore, 1) := by decide +kernel
theorem d28_155 : decode prog_18_method_10_code 155 = .ok (.aload_n 0, 1) := by decide +kernel
theorem d28_156 : decode prog_18_method_10_code 156 = .ok (.getfield 20, 3) := by decide +kernel
theorem d28_159 : decode prog_18_method_10_code 159 = .ok (.iload_n 3, 1) := by decide +kernel
theorem d28_160 : decode prog_18_method_10_code 160 = .ok (.aload_n 1, 1) := by decide +kernel
theorem d28_161 : decode prog_18_method_10_code 161 = .ok (.aastore, 1) := by decide +kernel
theorem d28_162 : decode prog_18_method_10_code 162 = .ok (.aload_n 0, 1) := by decide +kernel
theorem d28_163 : decode prog_18_method_10_code 163 = .ok (.dup, 1) := by decide +kernel
theorem d28_164 : decode prog_18_method_10_code 164 = .ok (.getfield 88, 3) := by decide +kernel
theorem d28_167 : decode prog_18_method_10_code 167 = .ok (.iconst 1, 1) := by decide +kernel
theorem d28_168 : decode prog_18_method_10_code 168 = .ok (.iadd, 1) := by decide +kernel
theorem d28_169 : decode prog_18_method_10_code 169 = .ok (.putfield 88, 3) := by decide +kernel
theorem sn_683 {Z : State} {a0 : Array Value} (hw : ∀ d ∈ tables_1, d.before a0 Z = true) : Jvm.RoadKit.slotOf Z KS "hashes" "[I" ≠ Jvm.RoadKit.slotOf Z KS "size" "I" := slot_ne (Or.inl (own_w hw (i := 39) rfl)) (Or.inl (own_w hw (i := 166) rfl)) (by decide) (t := (.array .int)) (t' := .int) (by decide) (by decide)
theorem sn_684 {Z : State} {a0 : Array Value} (hw : ∀ d ∈ tables_1, d.before a0 Z = true) : Jvm.RoadKit.slotOf Z KS "records" "[[I" ≠ Jvm.RoadKit.slotOf Z KS "size" "I" := slot_ne (Or.inl (own_w hw (i := 43) rfl)) (Or.inl (own_w hw (i := 166) rfl)) (by decide) (t := (.array (.array .int))) (t' := .int) (by decide) (by decide)
theorem sn_685 {Z : State} {a0 : Array Value} (hw : ∀ d ∈ tables_1, d.before a0 Z = true) : Jvm.RoadKit.slotOf Z KS "subjects" "[Ljava/lang/String;" ≠ Jvm.RoadKit.slotOf Z KS "size" "I" := slot_ne (Or.inl (own_w hw (i := 47) rfl)) (Or.inl (own_w hw (i := 166) rfl)) (by decide) (t := (.array (.object KJ))) (t' := .int) (by decide) (by decide)
theorem d28_172 : decode prog_18_method_10_code 172 = .ok (.iload_n 3, 1) := by decide +kernel
theorem d28_173 : decode prog_18_method_10_code 173 = .ok (.ireturn, 1) := by decide +kernel
theorem ef_hE (m : MethodId) (x0 : Addr) (x1 : Addr) : entryFrame m #[(.ref x0), (.ref x1)] 7 = mkF m 0 #[.val (.ref x0), .val (.ref x1), .unset, .unset, .unset, .unset, .unset] [] := by first | (simp [entryFrame, mkF, argsToLocals, Value.category]; done) | rfl
abbrev R_hE : Room := { frames := 6, cells := 3, slots := 28, locals := 98 }
def QhE (Z : State) (a1 : Addr) (a2 : Addr) (aH : Addr) (aR : Addr) (aS : Addr) (kH : ClassId) (kR : ClassId) (kS : ClassId) (bv : Addr) (kb : ClassId) (b0 : Int32) (b1 : Int32) (hv : Int32) (zv : Int32) (cz : Int32) (fmt : Value) (h0 : Heap) (n0 : Nat) (v : Option Value) (h : Heap) (L : List Loc) : Prop := ∃ (n1 : Addr) (kn1 : ClassId), v = some (.int ((own_hh b0 b1) &&& (15 : Int32))) ∧ Fr n0 L ∧ Keep h0 h [a1, a2, aH, aR, aS] ∧ n0 ≤ n1 ∧ h0.size ≤ n1 ∧ Exa Z h a1 KS ∧ Fld Z h a1 KS "hashes" "[I" (.ref aH) ∧ Fld Z h a1 KS "records" "[[I" (.ref aR) ∧ Fld Z h a1 KS "subjects" "[Ljava/lang/String;" (.ref aS) ∧ Fld Z h a1 KS "size" "I" (.int 1) ∧ Exa Z h a2 KJ ∧ Fld Z h a2 KJ "value" "[B" (.ref bv) ∧ Fld Z h a2 KJ "coder" "B" (.int 0) ∧ Fld Z h a2 KJ "hash" "I" (.int (own_hc b0 b1)) ∧ Fld Z h a2 KJ "hashIsZero" "Z" (.int (fhc_hashIsZero b0 b1 hv zv)) ∧ Arh Z h aH kH .int (16 : Int32) [(((own_hh b0 b1) &&& (15 : Int32)), (.int (own_hh b0 b1)))] [] (.int 0) ∧ Arh Z h aR kR (.array .int) (16 : Int32) [(((own_hh b0 b1) &&& (15 : Int32)), (.ref n1))] [] .null ∧ Arh Z h aS kS (.object KJ) (16 : Int32) [(((own_hh b0 b1) &&& (15 : Int32)), (.ref a2))] [] .null ∧ Arv Z h n1 kn1 .int (20 : Int32) [(.int 0), (.int 0), (.int ((own_k1 b0 b1).toInt32)), (.int ((((own_k1 b0 b1).toUInt64 >>> ((32 : Int32) &&& 0x3f).toInt64.toUInt64).toInt64).toInt32)), (.int 0), (.int 0), (.int 0), (.int 0), (.int 0), (.int 0), (.int 0), (.int 0), (.int 0), (.int 0), (.int 0), (.int 0), (.int 0), (.int 0), (.int 0), (.int 0)] (.int 0) ∧ Exa Z h n1 "[I"
set_option maxRecDepth 65536 in
set_option maxHeartbeats 40000000 in
theorem rmhE (l : Launch) (Z : State) (a0 : Array Value) (hw : ∀ d ∈ tables_1, d.before a0 Z = true) (ws : List Jvm.Cond) (a1 : Addr) (a2 : Addr) (aH : Addr) (aR : Addr) (aS : Addr) (kH : ClassId) (kR : ClassId) (kS : ClassId) (bv : Addr) (kb : ClassId) (b0 : Int32) (b1 : Int32) (hv : Int32) (zv : Int32) (cz : Int32) (fmt : Value) (h0 : Heap) (n0 : Nat) (Z0 : n0 ≤ h0.size) (E_a1 : Exa Z h0 a1 KS) (F_hashes_a1 : Fld Z h0 a1 KS "hashes" "[I" (.ref aH)) (F_records_a1 : Fld Z h0 a1 KS "records" "[[I" (.ref aR)) (F_subjects_a1 : Fld Z h0 a1 KS "subjects" "[Ljava/lang/String;" (.ref aS)) (F_size_a1 : Fld Z h0 a1 KS "size" "I" (.int 0)) (O0 : Old Z n0 h0) (S_COMPACT_STRINGS : Sta Z Z.heap KJ "COMPACT_STRINGS" "Z" (.int cz)) (hcz : ¬ (cz = (0 : Int32))) (S_SIOOBE_FORMATTER : Sta Z Z.heap "jdk/internal/util/Preconditions" "SIOOBE_FORMATTER" "Ljava/util/function/BiFunction;" fmt) (hfmt : fmt = .null ∨ ∃ a, fmt = .ref a) (E_a2 : Exa Z h0 a2 KJ) (F_value_a2 : Fld Z h0 a2 KJ "value" "[B" (.ref bv)) (F_coder_a2 : Fld Z h0 a2 KJ "coder" "B" (.int 0)) (V_bv : Arv Z h0 bv kb .byte (2 : Int32) [(.int b0), (.int b1)] (.int 0)) (E_bv : Exa Z h0 bv "[B") (F_hash_a2 : Fld Z h0 a2 KJ "hash" "I" (.int hv)) (F_hashIsZero_a2 : Fld Z h0 a2 KJ "hashIsZero" "Z" (.int zv)) (hinv : hv = (own_hc b0 b1) ∨ (hv = (0 : Int32) ∧ zv = (0 : Int32))) (V_aH : Arh Z h0 aH kH .int (16 : Int32) [] [] (.int 0)) (V_aR : Arh Z h0 aR kR (.array .int) (16 : Int32) [] [] .null) (V_aS : Arh Z h0 aS kS (.object KJ) (16 : Int32) [] [] .null) (OV_aR : OvrA Z kR .int "[I") (OV_aS : Ovr Z kS KJ) (g_a1 : n0 ≤ a1) (g_a2 : n0 ≤ a2) (g_aH : n0 ≤ aH) (g_aR : n0 ≤ aR) (g_aS : n0 ≤ aS) (ne_a1_a2 : a1 ≠ a2) (ne_a1_aH : a1 ≠ aH) (ne_a1_aR : a1 ≠ aR) (ne_a1_aS : a1 ≠ aS) (ne_a1_bv : a1 ≠ bv) (ne_a2_aH : a2 ≠ aH) (ne_a2_aR : a2 ≠ aR) (ne_a2_aS : a2 ≠ aS) (ne_a2_bv : a2 ≠ bv) (ne_aH_aR : aH ≠ aR) (ne_aH_aS : aH ≠ aS) (ne_aH_bv : aH ≠ bv) (ne_aR_aS : aR ≠ aS) (ne_aR_bv : aR ≠ bv) (ne_aS_bv : aS ≠ bv) :
    MetFree l (⟨KS, "held", "(Ljava/lang/String;)I"⟩ : MethodName) (head1 (Jvm.Cond.code (⟨KS, "held", "(Ljava/lang/String;)I"⟩ : MethodName) prog_18_method_10_code 7 (some .int) :: ws) R_hE) (fun a U => a = #[(.ref a1), (.ref a2)] ∧ Z.Warmed39 U.vm ∧ U.heap = h0) (fun _ _ _ _ _ => True) (fun _ U o U' => ∃ v L, o = .returned v ∧ QhE Z a1 a2 aH aR aS kH kR kS bv kb b0 b1 hv zv cz fmt h0 n0 v U'.heap L ∧ FrameEnd U o U' L R_hE.cells R_hE.slots) := by
  refine MetFree.of_bodySF (plainFor_of_name pn_386) hisR ?_
  intro p e s m args below meth c s₁ Bd hml0 hP hK
  obtain ⟨rfl, hZ, hh⟩ := hP
  have hx := Bd.exec
  have hby := Bd.bytes
  have hml : c.maxLocals = 7 := hml0
  have hown : s.vm.findClass KS = some m.cls := findClass_of_methodNamed Bd.named
  have hnm := (name_of_methodNamed Bd.named Bd.method).1
  have X0 : Stand p l e R_hE s m #[(.ref a1), (.ref a2)] below meth c s₁ [] 0 0 := Stand.of_body Bd
  have e0 : s₁.heap = h0 := by rw [← hh, Bd.state]; rfl
  have N0 := Fr.nil n0
  have pre0 : ∀ t, Steps p.tables e below (s₁.setTop (mkF m 0 #[.val (.ref a1), .val (.ref a2), .unset, .unset, .unset, .unset, .unset] [])) t → Steps p.tables e below (s₁.setTop (entryFrame m #[(.ref a1), (.ref a2)] 7)) t := fun t k => castTop (ef_hE m a1 a2) k
  -- pc 1: Interner$Key.of by rmko
  obtain ⟨_, _, ⟨T1, L1, ck1, cn1⟩, -, X1, ⟨Lc1, hQ1, l1, y1, z1⟩, st1⟩ := Jvm.LawKit.callS X0 hx (y := (⟨KK, "of", "(Ljava/lang/String;)Lcom/example/explicit_grants/explicitgrants/Interner$Key;"⟩ : MethodName)) hown (mvT hZ (own_w hw (i := 160) rfl)) (mvT hZ (own_w hw (i := 54) rfl)) (mvT hZ (own_w hw (i := 55) rfl)) (mvT hZ (own_w hw (i := 56) rfl)) (by decide) (backOf (W := 0) (rmko l Z a0 hw [] a2 bv kb b0 b1 hv zv cz fmt h0 n0 Z0 O0 S_COMPACT_STRINGS hcz E_a2 F_value_a2 F_coder_a2 V_bv E_bv F_hash_a2 F_hashIsZero_a2 hinv g_a2 ne_a2_bv S_SIOOBE_FORMATTER hfmt) hZ (own_w hw (i := 56) rfl) (own_w hw (i := 55) rfl) (by decide) (by decide)) (g := (mkF m 1 #[.val (.ref a1), .val (.ref a2), .unset, .unset, .unset, .unset, .unset] [(.ref a2)])) rfl (by rw [hml]; rfl) (argsL := [(.ref a2)]) (rest := []) (lenOf pd_584 rfl) rfl (by show 2 * 0 + _ ≤ _; exact Nat.le_of_eq rfl) (hb hby d28_1) (fun _ _ => ⟨rfl, e0, (by decide : 0 + 1 ≤ _), (by decide : 0 + 5 ≤ _)⟩)
  dsimp only [Pt.U, Pt.locs, Pt.cells, Pt.slots] at X1 l1 y1 z1 st1 hQ1
  subst y1 z1
  obtain ⟨n1_1, kn1_1, rfl, N1q, K1q, gq1_0, sq1_0, o1_0, o1_1, o1_2, o1_3, o1_4, o1_5, o1_6, o1_7, o1_8, o1_9⟩ := hQ1
  have N2 : Fr n0 L1 := by rw [l1]; exact Fr.app N0 N1q
  have f9 := E_a1.keep K1q
  have f10 := F_hashes_a1.keep K1q (ninS ne_a1_a2 nin0)
  have f11 := F_records_a1.keep K1q (ninS ne_a1_a2 nin0)
  have f12 := F_subjects_a1.keep K1q (ninS ne_a1_a2 nin0)
  have f13 := F_size_a1.keep K1q (ninS ne_a1_a2 nin0)
  have f22 := V_aH.keep K1q (ninS (Ne.symm ne_a2_aH) nin0)
  have f23 := V_aR.keep K1q (ninS (Ne.symm ne_a2_aR) nin0)
  have f24 := V_aS.keep K1q (ninS (Ne.symm ne_a2_aS) nin0)
  have zs25 : n0 ≤ T1.heap.size := Nat.le_trans Z0 K1q.1
  have K26 := (Keep.refl h0 [a1, a2, aH, aR, aS]).trans K1q (allS (Or.inl (List.mem_of_getElem? (i := 1) rfl)) all0)
  -- pc 7: SubjectLines.slotOf by rmslE
  obtain ⟨cq27, qc27, qc27'⟩ := f9.cell
  obtain ⟨_, _, ⟨T27, L27, ck27, cn27⟩, -, X27, ⟨Lc27, hQ27, l27, y27, z27⟩, st27⟩ := X1.privateBack hx (y := (⟨KS, "slotOf", "(Lcom/example/explicit_grants/explicitgrants/Interner$Key;)I"⟩ : MethodName)) hown (mvT hZ (own_w hw (i := 161) rfl)) (mvT hZ (own_w hw (i := 162) rfl)) (own_sel (y := (⟨KS, "slotOf", "(Lcom/example/explicit_grants/explicitgrants/Interner$Key;)I"⟩ : MethodName)) (mvT hZ (own_w hw (i := 31) rfl)) (Cond.privateMethod_at (mvP hZ (own_w hw (i := 163) rfl) (args := #[]))) (mvT hZ (own_w hw (i := 162) rfl)) (by decide)) (Cond.privateMethod_at (mvP hZ (own_w hw (i := 163) rfl) (args := #[]))) (mvT hZ (own_w hw (i := 164) rfl)) (by decide) (backOf (W := 0) (rmslE l Z a0 hw [] a1 n1_1 (own_hh b0 b1) aH aR aS kR T1.heap n0 zs25 f9 f10 f11 f12 o1_5 o1_6 f23) hZ (own_w hw (i := 164) rfl) (own_w hw (i := 32) rfl) (by decide) (by decide)) (g := (mkF m 7 #[.val (.ref a1), .val (.ref a2), .val (.ref n1_1), .unset, .unset, .unset, .unset] [(.ref n1_1), (.ref a1)])) rfl (by rw [hml]; rfl) (Steps.refl _) (a := a1) qc27 qc27' (argsL := [(.ref n1_1)]) (rest := []) (lenOf pd_589 rfl) rfl (by show 2 * 0 + _ ≤ _; exact Nat.le_of_eq rfl) (hb hby d28_7) (fun _ _ => ⟨rfl, rfl, (by decide : 1 + 0 ≤ _), (by decide : 5 + 0 ≤ _)⟩)
  dsimp only [Pt.U, Pt.locs, Pt.cells, Pt.slots] at X27 l27 y27 z27 st27 hQ27
  subst y27 z27
  obtain ⟨rfl, N27q, e27⟩ := hQ27
  have N28 : Fr n0 L27 := by rw [l27]; exact Fr.app N2 N27q
  obtain ⟨T29, X29, e29, st29⟩ := getF X27 hx hZ hown (host := "") (Or.inl (own_w hw (i := 42) rfl)) Via.refl e27 f11 (g := (mkF m 12 #[.val (.ref a1), .val (.ref a2), .val (.ref n1_1), .val (.int ((own_hh b0 b1) &&& (15 : Int32))), .unset, .unset, .unset] [(.ref a1)])) rfl rfl (hb hby d28_12)
  obtain ⟨car30, Aar30, qar30, Sar30, Nar30, Har30, Gar30⟩ := id f23
  have hinar30 : ¬ (((own_hh b0 b1) &&& (15 : Int32)) < 0 ∨ car30.slots.size ≤ (((own_hh b0 b1) &&& (15 : Int32))).toNatClampNeg) := inb_of Sar30 (own_sl _)
  have hatar30 : car30.slots[(((own_hh b0 b1) &&& (15 : Int32))).toNatClampNeg]? = some .null := atH (hs := []) (vs := []) (dv := .null) Har30 hinar30 rfl
  obtain ⟨T31, X31, e31, st31⟩ := getF X29 hx hZ hown (host := "") (Or.inl (own_w hw (i := 165) rfl)) Via.refl e29 f13 (g := (mkF m 22 #[.val (.ref a1), .val (.ref a2), .val (.ref n1_1), .val (.int ((own_hh b0 b1) &&& (15 : Int32))), .unset, .unset, .unset] [(.ref a1), (.int 2)])) rfl rfl (hb hby d28_22)
  obtain ⟨T32, X32, e32, st32⟩ := getF X31 hx hZ hown (host := "") (Or.inl (own_w hw (i := 42) rfl)) Via.refl e31 f11 (g := (mkF m 29 #[.val (.ref a1), .val (.ref a2), .val (.ref n1_1), .val (.int ((own_hh b0 b1) &&& (15 : Int32))), .unset, .unset, .unset] [(.ref a1), (.int 2)])) rfl rfl (hb hby d28_29)
  obtain ⟨car33, Aar33, qar33, Sar33, Nar33, Har33, Gar33⟩ := id f23
  obtain ⟨T34, h34, ka34, X34, e34, E34, A34, B34, st34⟩ := newPE X32 hx hZ (own_w hw (i := 37) rfl) e32 (g := (mkF m 55 #[.val (.ref a1), .val (.ref a2), .val (.ref n1_1), .val (.int ((own_hh b0 b1) &&& (15 : Int32))), .unset, .unset, .unset] [(.int 20)])) rfl (hb hby d28_55) rfl (by decide) (cap := 20) (by decide) (by decide) (by decide) (by decide) (ad := "[I") (by decide)
  obtain ⟨bx34, g34⟩ : ∃ z, z = T1.heap.size := ⟨_, rfl⟩
  rw [← g34] at A34 B34 st34
  have g_bx34 : n0 ≤ bx34 := Nat.le_trans zs25 (Nat.le_of_eq g34.symm)
  have sz_bx34 : h0.size ≤ bx34 := Nat.le_trans K26.1 (Nat.le_of_eq g34.symm)
  have ne35 : a1 ≠ bx34 := Nat.ne_of_lt (Nat.lt_of_lt_of_le f9.lt (Nat.le_of_eq g34.symm))
  have ne36 : a2 ≠ bx34 := Nat.ne_of_lt (Nat.lt_of_lt_of_le o1_0.lt (Nat.le_of_eq g34.symm))
  have ne38 : aH ≠ bx34 := Nat.ne_of_lt (Nat.lt_of_lt_of_le f22.lt (Nat.le_of_eq g34.symm))
  have ne39 : aR ≠ bx34 := Nat.ne_of_lt (Nat.lt_of_lt_of_le f23.lt (Nat.le_of_eq g34.symm))
  have ne40 : aS ≠ bx34 := Nat.ne_of_lt (Nat.lt_of_lt_of_le f24.lt (Nat.le_of_eq g34.symm))
  have ne41 : n1_1 ≠ bx34 := Nat.ne_of_lt (Nat.lt_of_lt_of_le o1_5.lt (Nat.le_of_eq g34.symm))
  have f42 := f9.ext E34
  have f43 := f10.ext E34
  have f44 := f11.ext E34
  have f45 := f12.ext E34
  have f46 := f13.ext E34
  have f48 := o1_0.ext E34
  have f51 := f22.ext E34
  have f52 := f23.ext E34
  have f53 := f24.ext E34
  have f54 := o1_1.ext E34
  have f55 := o1_2.ext E34
  have f56 := o1_3.ext E34
  have f57 := o1_4.ext E34
  have f58 := o1_5.ext E34
  have f59 := o1_6.ext E34
  have f60 := o1_7.ext E34
  have f61 := o1_8.ext E34
  have f62 := o1_9.ext E34
  have zs63 : n0 ≤ h34.size := Nat.le_trans zs25 E34.1
  have K64 := K26.ext E34
  have V_bx34 : Arv Z h34 bx34 ka34 .int (20 : Int32) [(.int 0), (.int 0), (.int 0), (.int 0), (.int 0), (.int 0), (.int 0), (.int 0), (.int 0), (.int 0), (.int 0), (.int 0), (.int 0), (.int 0), (.int 0), (.int 0), (.int 0), (.int 0), (.int 0), (.int 0)] (.int 0) := (Arv.new A34 (by decide)).pad (pad_rep [] (.int 0) 20)
  obtain ⟨T65, h65, ka65, X65, e65, E65, A65, B65, st65⟩ := newPE X34 hx hZ (own_w hw (i := 167) rfl) e34 (g := (mkF m 60 #[.val (.ref a1), .val (.ref a2), .val (.ref n1_1), .val (.int ((own_hh b0 b1) &&& (15 : Int32))), .val (.ref bx34), .unset, .unset] [(.int 3)])) rfl (hb hby d28_60) rfl (by decide) (cap := 3) (by decide) (by decide) (by decide) (by decide) (ad := "[J") (by decide)
  obtain ⟨bx65, g65⟩ : ∃ z, z = h34.size := ⟨_, rfl⟩
  rw [← g65] at A65 B65 st65
  have g_bx65 : n0 ≤ bx65 := Nat.le_trans zs63 (Nat.le_of_eq g65.symm)
  have sz_bx65 : h0.size ≤ bx65 := Nat.le_trans K64.1 (Nat.le_of_eq g65.symm)
  have ne66 : a1 ≠ bx65 := Nat.ne_of_lt (Nat.lt_of_lt_of_le f42.lt (Nat.le_of_eq g65.symm))
  have ne67 : a2 ≠ bx65 := Nat.ne_of_lt (Nat.lt_of_lt_of_le f48.lt (Nat.le_of_eq g65.symm))
  have ne69 : aH ≠ bx65 := Nat.ne_of_lt (Nat.lt_of_lt_of_le f51.lt (Nat.le_of_eq g65.symm))
  have ne70 : aR ≠ bx65 := Nat.ne_of_lt (Nat.lt_of_lt_of_le f52.lt (Nat.le_of_eq g65.symm))
  have ne71 : aS ≠ bx65 := Nat.ne_of_lt (Nat.lt_of_lt_of_le f53.lt (Nat.le_of_eq g65.symm))
  have ne72 : n1_1 ≠ bx65 := Nat.ne_of_lt (Nat.lt_of_lt_of_le f58.lt (Nat.le_of_eq g65.symm))
  have ne73 : bx34 ≠ bx65 := Nat.ne_of_lt (Nat.lt_of_lt_of_le B34.lt (Nat.le_of_eq g65.symm))
  have f74 := f42.ext E65
  have f75 := f43.ext E65
  have f76 := f44.ext E65
  have f77 := f45.ext E65
  have f78 := f46.ext E65
  have f80 := f48.ext E65
  have f83 := f51.ext E65
  have f84 := f52.ext E65
  have f85 := f53.ext E65
  have f86 := f54.ext E65
  have f87 := f55.ext E65
  have f88 := f56.ext E65
  have f89 := f57.ext E65
  have f90 := f58.ext E65
  have f91 := f59.ext E65
  have f92 := f60.ext E65
  have f93 := f61.ext E65
  have f94 := f62.ext E65
  have f95 := B34.ext E65
  have f96 := V_bx34.ext E65
  have zs97 : n0 ≤ h65.size := Nat.le_trans zs63 E65.1
  have K98 := K64.ext E65
  have V_bx65 : Arv Z h65 bx65 ka65 .long (3 : Int32) [(.long 0), (.long 0), (.long 0)] (.long 0) := (Arv.new A65 (by decide)).pad (pad_rep [] (.long 0) 3)
  -- pc 65: Interner$Key.first by rmgk1
  obtain ⟨cq99, kq99, q99a, q99b, q99c⟩ := isOf hZ e65 f90
  obtain ⟨_, _, ⟨T99, L99, ck99, cn99⟩, -, X99, ⟨Lc99, hQ99, l99, y99, z99⟩, st99⟩ := X65.virtualBack hx (y := (⟨KK, "first", "()J"⟩ : MethodName)) (z := (⟨KK, "first", "()J"⟩ : MethodName)) hown (mvT hZ (own_w hw (i := 168) rfl)) (mvT hZ (own_w hw (i := 169) rfl)) (notFace_of_selects (args := #[]) (mvT hZ (own_w hw (i := 171) rfl))) (mvT hZ (own_w hw (i := 171) rfl)) (mvT hZ (own_w hw (i := 170) rfl)) (by decide) (backOf (W := 3) (rmgk1 l Z a0 hw [] n1_1 (own_k1 b0 b1) h65 n0 zs97 f92) hZ (own_w hw (i := 172) rfl) (own_w hw (i := 55) rfl) (by decide) (by decide)) q99a q99c (g := (mkF m 65 #[.val (.ref a1), .val (.ref a2), .val (.ref n1_1), .val (.int ((own_hh b0 b1) &&& (15 : Int32))), .val (.ref bx34), .unset, .unset] [(.ref n1_1), (.int 0), (.ref bx65), (.ref bx65)])) rfl (by rw [hml]; rfl) (Steps.refl _) (argsL := []) (rest := [(.int 0), (.ref bx65), (.ref bx65)]) (lenOf pd_440 rfl) rfl (by show 2 * 0 + _ ≤ _; exact Nat.le_of_eq rfl) (hb hby d28_65) (fun _ _ => ⟨rfl, e65, (by decide : 3 + 0 ≤ _), (by decide : 28 + 0 ≤ _)⟩)
  dsimp only [Pt.U, Pt.locs, Pt.cells, Pt.slots] at X99 l99 y99 z99 st99 hQ99
  subst y99 z99
  obtain ⟨rfl, N99q, e99⟩ := hQ99
  have N100 : Fr n0 L99 := by rw [l99]; exact Fr.app N28 N99q
  obtain ⟨car101, Aar101, qar101, Sar101, Nar101, Har101, Gar101⟩ := id V_bx65
  have hinar101 : ¬ ((0 : Int32) < 0 ∨ car101.slots.size ≤ ((0 : Int32)).toNatClampNeg) := inb_of Sar101 ⟨by decide, by decide⟩
  obtain ⟨T102, h102, X102, e102, W102, st102⟩ := stJ X99 hx hZ e99 Aar101 (j := (0 : Int32)) hinar101 (g := (mkF m 68 #[.val (.ref a1), .val (.ref a2), .val (.ref n1_1), .val (.int ((own_hh b0 b1) &&& (15 : Int32))), .val (.ref bx34), .unset, .unset] [(.long (own_k1 b0 b1)), (.int 0), (.ref bx65), (.ref bx65)])) rfl rfl (hb hby d28_68)
  have V102 : Arv Z h102 bx65 ka65 .long (3 : Int32) [(.long (own_k1 b0 b1)), (.long 0), (.long 0)] (.long 0) := Arv.set Aar101 qar101 Sar101 Nar101 Har101 Gar101 rfl W102 0 rfl (Nat.le_of_ble_eq_true rfl)
  have f103 := f74.wr W102
  have f104 := f75.other W102 (Or.inl ne66)
  have f105 := f76.other W102 (Or.inl ne66)
  have f106 := f77.other W102 (Or.inl ne66)
  have f107 := f78.other W102 (Or.inl ne66)
  have f109 := f80.wr W102
  have f112 := f83.other W102 ne69
  have f113 := f84.other W102 ne70
  have f114 := f85.other W102 ne71
  have f115 := f86.other W102 (Or.inl ne67)
  have f116 := f87.other W102 (Or.inl ne67)
  have f117 := f88.other W102 (Or.inl ne67)
  have f118 := f89.other W102 (Or.inl ne67)
  have f119 := f90.wr W102
  have f120 := f91.other W102 (Or.inl ne72)
  have f122 := f93.other W102 (Or.inl ne72)
  have f123 := f94.other W102 (Or.inl ne72)
  have f124 := f95.wr W102
  have f125 := f96.other W102 ne73
  have K128 := K98.wr W102 (Or.inr sz_bx65)
  have zs129 : n0 ≤ h102.size := Nat.le_trans zs97 (Keep.of_wr W102).1
  have N130 := Fr.snoc X102 N100 g_bx65
  -- pc 72: Interner$Key.second by rmgk2
  obtain ⟨cq131, kq131, q131a, q131b, q131c⟩ := isOf hZ e102 f119
  obtain ⟨_, _, ⟨T131, L131, ck131, cn131⟩, -, X131, ⟨Lc131, hQ131, l131, y131, z131⟩, st131⟩ := X102.virtualBack hx (y := (⟨KK, "second", "()J"⟩ : MethodName)) (z := (⟨KK, "second", "()J"⟩ : MethodName)) hown (mvT hZ (own_w hw (i := 173) rfl)) (mvT hZ (own_w hw (i := 174) rfl)) (notFace_of_selects (args := #[]) (mvT hZ (own_w hw (i := 176) rfl))) (mvT hZ (own_w hw (i := 176) rfl)) (mvT hZ (own_w hw (i := 175) rfl)) (by decide) (backOf (W := 3) (rmgk2 l Z a0 hw [] n1_1 (0 : Int64) h102 n0 zs129 f122) hZ (own_w hw (i := 177) rfl) (own_w hw (i := 55) rfl) (by decide) (by decide)) q131a q131c (g := (mkF m 72 #[.val (.ref a1), .val (.ref a2), .val (.ref n1_1), .val (.int ((own_hh b0 b1) &&& (15 : Int32))), .val (.ref bx34), .unset, .unset] [(.ref n1_1), (.int 1), (.ref bx65), (.ref bx65)])) rfl (by rw [hml]; rfl) (Steps.refl _) (argsL := []) (rest := [(.int 1), (.ref bx65), (.ref bx65)]) (lenOf pd_440 rfl) rfl (by show 2 * 0 + _ ≤ _; exact Nat.le_of_eq rfl) (hb hby d28_72) (fun _ _ => ⟨rfl, e102, (by decide : 3 + 0 ≤ _), (by decide : 28 + 0 ≤ _)⟩)
  dsimp only [Pt.U, Pt.locs, Pt.cells, Pt.slots] at X131 l131 y131 z131 st131 hQ131
  subst y131 z131
  obtain ⟨rfl, N131q, e131⟩ := hQ131
  have N132 : Fr n0 L131 := by rw [l131]; exact Fr.app N130 N131q
  obtain ⟨car133, Aar133, qar133, Sar133, Nar133, Har133, Gar133⟩ := id V102
  have hinar133 : ¬ ((1 : Int32) < 0 ∨ car133.slots.size ≤ ((1 : Int32)).toNatClampNeg) := inb_of Sar133 ⟨by decide, by decide⟩
  obtain ⟨T134, h134, X134, e134, W134, st134⟩ := stJ X131 hx hZ e131 Aar133 (j := (1 : Int32)) hinar133 (g := (mkF m 75 #[.val (.ref a1), .val (.ref a2), .val (.ref n1_1), .val (.int ((own_hh b0 b1) &&& (15 : Int32))), .val (.ref bx34), .unset, .unset] [(.long 0), (.int 1), (.ref bx65), (.ref bx65)])) rfl rfl (hb hby d28_75)
  have V134 : Arv Z h134 bx65 ka65 .long (3 : Int32) [(.long (own_k1 b0 b1)), (.long 0), (.long 0)] (.long 0) := Arv.set Aar133 qar133 Sar133 Nar133 Har133 Gar133 rfl W134 1 rfl (Nat.le_of_ble_eq_true rfl)
  have f135 := f103.wr W134
  have f136 := f104.other W134 (Or.inl ne66)
  have f137 := f105.other W134 (Or.inl ne66)
  have f138 := f106.other W134 (Or.inl ne66)
  have f139 := f107.other W134 (Or.inl ne66)
  have f141 := f109.wr W134
  have f144 := f112.other W134 ne69
  have f145 := f113.other W134 ne70
  have f146 := f114.other W134 ne71
  have f147 := f115.other W134 (Or.inl ne67)
  have f148 := f116.other W134 (Or.inl ne67)
  have f149 := f117.other W134 (Or.inl ne67)
  have f150 := f118.other W134 (Or.inl ne67)
  have f151 := f119.wr W134
  have f152 := f120.other W134 (Or.inl ne72)
  have f155 := f123.other W134 (Or.inl ne72)
  have f156 := f124.wr W134
  have f157 := f125.other W134 ne73
  have K160 := K128.wr W134 (Or.inr sz_bx65)
  have zs161 : n0 ≤ h134.size := Nat.le_trans zs129 (Keep.of_wr W134).1
  have N162 := Fr.snoc X134 N132 g_bx65
  -- pc 79: Interner$Key.third by rmgk3
  obtain ⟨cq163, kq163, q163a, q163b, q163c⟩ := isOf hZ e134 f151
  obtain ⟨_, _, ⟨T163, L163, ck163, cn163⟩, -, X163, ⟨Lc163, hQ163, l163, y163, z163⟩, st163⟩ := X134.virtualBack hx (y := (⟨KK, "third", "()J"⟩ : MethodName)) (z := (⟨KK, "third", "()J"⟩ : MethodName)) hown (mvT hZ (own_w hw (i := 178) rfl)) (mvT hZ (own_w hw (i := 179) rfl)) (notFace_of_selects (args := #[]) (mvT hZ (own_w hw (i := 181) rfl))) (mvT hZ (own_w hw (i := 181) rfl)) (mvT hZ (own_w hw (i := 180) rfl)) (by decide) (backOf (W := 3) (rmgk3 l Z a0 hw [] n1_1 (0 : Int64) h134 n0 zs161 f155) hZ (own_w hw (i := 182) rfl) (own_w hw (i := 55) rfl) (by decide) (by decide)) q163a q163c (g := (mkF m 79 #[.val (.ref a1), .val (.ref a2), .val (.ref n1_1), .val (.int ((own_hh b0 b1) &&& (15 : Int32))), .val (.ref bx34), .unset, .unset] [(.ref n1_1), (.int 2), (.ref bx65), (.ref bx65)])) rfl (by rw [hml]; rfl) (Steps.refl _) (argsL := []) (rest := [(.int 2), (.ref bx65), (.ref bx65)]) (lenOf pd_440 rfl) rfl (by show 2 * 0 + _ ≤ _; exact Nat.le_of_eq rfl) (hb hby d28_79) (fun _ _ => ⟨rfl, e134, (by decide : 3 + 0 ≤ _), (by decide : 28 + 0 ≤ _)⟩)
  dsimp only [Pt.U, Pt.locs, Pt.cells, Pt.slots] at X163 l163 y163 z163 st163 hQ163
  subst y163 z163
  obtain ⟨rfl, N163q, e163⟩ := hQ163
  have N164 : Fr n0 L163 := by rw [l163]; exact Fr.app N162 N163q
  obtain ⟨car165, Aar165, qar165, Sar165, Nar165, Har165, Gar165⟩ := id V134
  have hinar165 : ¬ ((2 : Int32) < 0 ∨ car165.slots.size ≤ ((2 : Int32)).toNatClampNeg) := inb_of Sar165 ⟨by decide, by decide⟩
  obtain ⟨T166, h166, X166, e166, W166, st166⟩ := stJ X163 hx hZ e163 Aar165 (j := (2 : Int32)) hinar165 (g := (mkF m 82 #[.val (.ref a1), .val (.ref a2), .val (.ref n1_1), .val (.int ((own_hh b0 b1) &&& (15 : Int32))), .val (.ref bx34), .unset, .unset] [(.long 0), (.int 2), (.ref bx65), (.ref bx65)])) rfl rfl (hb hby d28_82)
  have V166 : Arv Z h166 bx65 ka65 .long (3 : Int32) [(.long (own_k1 b0 b1)), (.long 0), (.long 0)] (.long 0) := Arv.set Aar165 qar165 Sar165 Nar165 Har165 Gar165 rfl W166 2 rfl (Nat.le_of_ble_eq_true rfl)
  have f167 := f135.wr W166
  have f168 := f136.other W166 (Or.inl ne66)
  have f169 := f137.other W166 (Or.inl ne66)
  have f170 := f138.other W166 (Or.inl ne66)
  have f171 := f139.other W166 (Or.inl ne66)
  have f173 := f141.wr W166
  have f176 := f144.other W166 ne69
  have f177 := f145.other W166 ne70
  have f178 := f146.other W166 ne71
  have f179 := f147.other W166 (Or.inl ne67)
  have f180 := f148.other W166 (Or.inl ne67)
  have f181 := f149.other W166 (Or.inl ne67)
  have f182 := f150.other W166 (Or.inl ne67)
  have f183 := f151.wr W166
  have f184 := f152.other W166 (Or.inl ne72)
  have f188 := f156.wr W166
  have f189 := f157.other W166 ne73
  have K192 := K160.wr W166 (Or.inr sz_bx65)
  have zs193 : n0 ≤ h166.size := Nat.le_trans zs161 (Keep.of_wr W166).1
  have N194 := Fr.snoc X166 N164 g_bx65
  obtain ⟨car195, Aar195, qar195, Sar195, Nar195, Har195, Gar195⟩ := id V166
  obtain ⟨car196, Aar196, qar196, Sar196, Nar196, Har196, Gar196⟩ := id V166
  have hinar196 : ¬ ((0 : Int32) < 0 ∨ car196.slots.size ≤ ((0 : Int32)).toNatClampNeg) := inb_of Sar196 ⟨by decide, by decide⟩
  have hatar196 : car196.slots[((0 : Int32)).toNatClampNeg]? = some (.long (own_k1 b0 b1)) := Har196.at hinar196 rfl
  obtain ⟨car197, Aar197, qar197, Sar197, Nar197, Har197, Gar197⟩ := id f189
  have hinar197 : ¬ ((2 : Int32) < 0 ∨ car197.slots.size ≤ ((2 : Int32)).toNatClampNeg) := inb_of Sar197 ⟨by decide, by decide⟩
  obtain ⟨T198, h198, X198, e198, W198, st198⟩ := stI X166 hx hZ e166 Aar197 (j := (2 : Int32)) hinar197 (g := (mkF m 110 #[.val (.ref a1), .val (.ref a2), .val (.ref n1_1), .val (.int ((own_hh b0 b1) &&& (15 : Int32))), .val (.ref bx34), .val (.ref bx65), .val (.int 0)] [(.int ((own_k1 b0 b1).toInt32)), (.int 2), (.ref bx34)])) rfl rfl (hb hby d28_110)
  have V198 : Arv Z h198 bx34 ka34 .int (20 : Int32) [(.int 0), (.int 0), (.int ((own_k1 b0 b1).toInt32)), (.int 0), (.int 0), (.int 0), (.int 0), (.int 0), (.int 0), (.int 0), (.int 0), (.int 0), (.int 0), (.int 0), (.int 0), (.int 0), (.int 0), (.int 0), (.int 0), (.int 0)] (.int 0) := Arv.set Aar197 qar197 Sar197 Nar197 Har197 Gar197 rfl W198 2 rfl (Nat.le_of_ble_eq_true rfl)
  have f199 := f167.wr W198
  have f200 := f168.other W198 (Or.inl ne35)
  have f201 := f169.other W198 (Or.inl ne35)
  have f202 := f170.other W198 (Or.inl ne35)
  have f203 := f171.other W198 (Or.inl ne35)
  have f205 := f173.wr W198
  have f208 := f176.other W198 ne38
  have f209 := f177.other W198 ne39
  have f210 := f178.other W198 ne40
  have f211 := f179.other W198 (Or.inl ne36)
  have f212 := f180.other W198 (Or.inl ne36)
  have f213 := f181.other W198 (Or.inl ne36)
  have f214 := f182.other W198 (Or.inl ne36)
  have f215 := f183.wr W198
  have f216 := f184.other W198 (Or.inl ne41)
  have f220 := f188.wr W198
  have f223 := V166.other W198 (Ne.symm ne73)
  have K224 := K192.wr W198 (Or.inr sz_bx34)
  have zs225 : n0 ≤ h198.size := Nat.le_trans zs193 (Keep.of_wr W198).1
  have N226 := Fr.snoc X198 N194 g_bx34
  obtain ⟨car227, Aar227, qar227, Sar227, Nar227, Har227, Gar227⟩ := id f223
  have hinar227 : ¬ ((0 : Int32) < 0 ∨ car227.slots.size ≤ ((0 : Int32)).toNatClampNeg) := inb_of Sar227 ⟨by decide, by decide⟩
  have hatar227 : car227.slots[((0 : Int32)).toNatClampNeg]? = some (.long (own_k1 b0 b1)) := Har227.at hinar227 rfl
  obtain ⟨car228, Aar228, qar228, Sar228, Nar228, Har228, Gar228⟩ := id V198
  have hinar228 : ¬ ((3 : Int32) < 0 ∨ car228.slots.size ≤ ((3 : Int32)).toNatClampNeg) := inb_of Sar228 ⟨by decide, by decide⟩
  obtain ⟨T229, h229, X229, e229, W229, st229⟩ := stI X198 hx hZ e198 Aar228 (j := (3 : Int32)) hinar228 (g := (mkF m 130 #[.val (.ref a1), .val (.ref a2), .val (.ref n1_1), .val (.int ((own_hh b0 b1) &&& (15 : Int32))), .val (.ref bx34), .val (.ref bx65), .val (.int 0)] [(.int ((((own_k1 b0 b1).toUInt64 >>> ((32 : Int32) &&& 0x3f).toInt64.toUInt64).toInt64).toInt32)), (.int 3), (.ref bx34)])) rfl rfl (hb hby d28_130)
  have V229 : Arv Z h229 bx34 ka34 .int (20 : Int32) [(.int 0), (.int 0), (.int ((own_k1 b0 b1).toInt32)), (.int ((((own_k1 b0 b1).toUInt64 >>> ((32 : Int32) &&& 0x3f).toInt64.toUInt64).toInt64).toInt32)), (.int 0), (.int 0), (.int 0), (.int 0), (.int 0), (.int 0), (.int 0), (.int 0), (.int 0), (.int 0), (.int 0), (.int 0), (.int 0), (.int 0), (.int 0), (.int 0)] (.int 0) := Arv.set Aar228 qar228 Sar228 Nar228 Har228 Gar228 rfl W229 3 rfl (Nat.le_of_ble_eq_true rfl)
  have f230 := f199.wr W229
  have f231 := f200.other W229 (Or.inl ne35)
  have f232 := f201.other W229 (Or.inl ne35)
  have f233 := f202.other W229 (Or.inl ne35)
  have f234 := f203.other W229 (Or.inl ne35)
  have f236 := f205.wr W229
  have f239 := f208.other W229 ne38
  have f240 := f209.other W229 ne39
  have f241 := f210.other W229 ne40
  have f242 := f211.other W229 (Or.inl ne36)
  have f243 := f212.other W229 (Or.inl ne36)
  have f244 := f213.other W229 (Or.inl ne36)
  have f245 := f214.other W229 (Or.inl ne36)
  have f246 := f215.wr W229
  have f247 := f216.other W229 (Or.inl ne41)
  have f251 := f220.wr W229
  have f253 := f223.other W229 (Ne.symm ne73)
  have K255 := K224.wr W229 (Or.inr sz_bx34)
  have zs256 : n0 ≤ h229.size := Nat.le_trans zs225 (Keep.of_wr W229).1
  have N257 := Fr.snoc X229 N226 g_bx34
  obtain ⟨car258, Aar258, qar258, Sar258, Nar258, Har258, Gar258⟩ := id f253
  obtain ⟨car259, Aar259, qar259, Sar259, Nar259, Har259, Gar259⟩ := id f253
  have hinar259 : ¬ ((1 : Int32) < 0 ∨ car259.slots.size ≤ ((1 : Int32)).toNatClampNeg) := inb_of Sar259 ⟨by decide, by decide⟩
  have hatar259 : car259.slots[((1 : Int32)).toNatClampNeg]? = some (.long 0) := Har259.at hinar259 rfl
  obtain ⟨car260, Aar260, qar260, Sar260, Nar260, Har260, Gar260⟩ := id V229
  have hinar260 : ¬ ((4 : Int32) < 0 ∨ car260.slots.size ≤ ((4 : Int32)).toNatClampNeg) := inb_of Sar260 ⟨by decide, by decide⟩
  obtain ⟨T261, h261, X261, e261, W261, st261⟩ := stI X229 hx hZ e229 Aar260 (j := (4 : Int32)) hinar260 (g := (mkF m 110 #[.val (.ref a1), .val (.ref a2), .val (.ref n1_1), .val (.int ((own_hh b0 b1) &&& (15 : Int32))), .val (.ref bx34), .val (.ref bx65), .val (.int 1)] [(.int 0), (.int 4), (.ref bx34)])) rfl rfl (hb hby d28_110)
  have V261 : Arv Z h261 bx34 ka34 .int (20 : Int32) [(.int 0), (.int 0), (.int ((own_k1 b0 b1).toInt32)), (.int ((((own_k1 b0 b1).toUInt64 >>> ((32 : Int32) &&& 0x3f).toInt64.toUInt64).toInt64).toInt32)), (.int 0), (.int 0), (.int 0), (.int 0), (.int 0), (.int 0), (.int 0), (.int 0), (.int 0), (.int 0), (.int 0), (.int 0), (.int 0), (.int 0), (.int 0), (.int 0)] (.int 0) := Arv.set Aar260 qar260 Sar260 Nar260 Har260 Gar260 rfl W261 4 rfl (Nat.le_of_ble_eq_true rfl)
  have f262 := f230.wr W261
  have f263 := f231.other W261 (Or.inl ne35)
  have f264 := f232.other W261 (Or.inl ne35)
  have f265 := f233.other W261 (Or.inl ne35)
  have f266 := f234.other W261 (Or.inl ne35)
  have f268 := f236.wr W261
  have f271 := f239.other W261 ne38
  have f272 := f240.other W261 ne39
  have f273 := f241.other W261 ne40
  have f274 := f242.other W261 (Or.inl ne36)
  have f275 := f243.other W261 (Or.inl ne36)
  have f276 := f244.other W261 (Or.inl ne36)
  have f277 := f245.other W261 (Or.inl ne36)
  have f278 := f246.wr W261
  have f279 := f247.other W261 (Or.inl ne41)
  have f283 := f251.wr W261
  have f285 := f253.other W261 (Ne.symm ne73)
  have K287 := K255.wr W261 (Or.inr sz_bx34)
  have zs288 : n0 ≤ h261.size := Nat.le_trans zs256 (Keep.of_wr W261).1
  have N289 := Fr.snoc X261 N257 g_bx34
  obtain ⟨car290, Aar290, qar290, Sar290, Nar290, Har290, Gar290⟩ := id f285
  have hinar290 : ¬ ((1 : Int32) < 0 ∨ car290.slots.size ≤ ((1 : Int32)).toNatClampNeg) := inb_of Sar290 ⟨by decide, by decide⟩
  have hatar290 : car290.slots[((1 : Int32)).toNatClampNeg]? = some (.long 0) := Har290.at hinar290 rfl
  obtain ⟨car291, Aar291, qar291, Sar291, Nar291, Har291, Gar291⟩ := id V261
  have hinar291 : ¬ ((5 : Int32) < 0 ∨ car291.slots.size ≤ ((5 : Int32)).toNatClampNeg) := inb_of Sar291 ⟨by decide, by decide⟩
  obtain ⟨T292, h292, X292, e292, W292, st292⟩ := stI X261 hx hZ e261 Aar291 (j := (5 : Int32)) hinar291 (g := (mkF m 130 #[.val (.ref a1), .val (.ref a2), .val (.ref n1_1), .val (.int ((own_hh b0 b1) &&& (15 : Int32))), .val (.ref bx34), .val (.ref bx65), .val (.int 1)] [(.int 0), (.int 5), (.ref bx34)])) rfl rfl (hb hby d28_130)
  have V292 : Arv Z h292 bx34 ka34 .int (20 : Int32) [(.int 0), (.int 0), (.int ((own_k1 b0 b1).toInt32)), (.int ((((own_k1 b0 b1).toUInt64 >>> ((32 : Int32) &&& 0x3f).toInt64.toUInt64).toInt64).toInt32)), (.int 0), (.int 0), (.int 0), (.int 0), (.int 0), (.int 0), (.int 0), (.int 0), (.int 0), (.int 0), (.int 0), (.int 0), (.int 0), (.int 0), (.int 0), (.int 0)] (.int 0) := Arv.set Aar291 qar291 Sar291 Nar291 Har291 Gar291 rfl W292 5 rfl (Nat.le_of_ble_eq_true rfl)
  have f293 := f262.wr W292
  have f294 := f263.other W292 (Or.inl ne35)
  have f295 := f264.other W292 (Or.inl ne35)
  have f296 := f265.other W292 (Or.inl ne35)
  have f297 := f266.other W292 (Or.inl ne35)
  have f299 := f268.wr W292
  have f302 := f271.other W292 ne38
  have f303 := f272.other W292 ne39
  have f304 := f273.other W292 ne40
  have f305 := f274.other W292 (Or.inl ne36)
  have f306 := f275.other W292 (Or.inl ne36)
  have f307 := f276.other W292 (Or.inl ne36)
  have f308 := f277.other W292 (Or.inl ne36)
  have f309 := f278.wr W292
  have f310 := f279.other W292 (Or.inl ne41)
  have f314 := f283.wr W292
  have f316 := f285.other W292 (Ne.symm ne73)
  have K318 := K287.wr W292 (Or.inr sz_bx34)
  have zs319 : n0 ≤ h292.size := Nat.le_trans zs288 (Keep.of_wr W292).1
  have N320 := Fr.snoc X292 N289 g_bx34
  obtain ⟨car321, Aar321, qar321, Sar321, Nar321, Har321, Gar321⟩ := id f316
  obtain ⟨car322, Aar322, qar322, Sar322, Nar322, Har322, Gar322⟩ := id f316
  have hinar322 : ¬ ((2 : Int32) < 0 ∨ car322.slots.size ≤ ((2 : Int32)).toNatClampNeg) := inb_of Sar322 ⟨by decide, by decide⟩
  have hatar322 : car322.slots[((2 : Int32)).toNatClampNeg]? = some (.long 0) := Har322.at hinar322 rfl
  obtain ⟨car323, Aar323, qar323, Sar323, Nar323, Har323, Gar323⟩ := id V292
  have hinar323 : ¬ ((6 : Int32) < 0 ∨ car323.slots.size ≤ ((6 : Int32)).toNatClampNeg) := inb_of Sar323 ⟨by decide, by decide⟩
  obtain ⟨T324, h324, X324, e324, W324, st324⟩ := stI X292 hx hZ e292 Aar323 (j := (6 : Int32)) hinar323 (g := (mkF m 110 #[.val (.ref a1), .val (.ref a2), .val (.ref n1_1), .val (.int ((own_hh b0 b1) &&& (15 : Int32))), .val (.ref bx34), .val (.ref bx65), .val (.int 2)] [(.int 0), (.int 6), (.ref bx34)])) rfl rfl (hb hby d28_110)
  have V324 : Arv Z h324 bx34 ka34 .int (20 : Int32) [(.int 0), (.int 0), (.int ((own_k1 b0 b1).toInt32)), (.int ((((own_k1 b0 b1).toUInt64 >>> ((32 : Int32) &&& 0x3f).toInt64.toUInt64).toInt64).toInt32)), (.int 0), (.int 0), (.int 0), (.int 0), (.int 0), (.int 0), (.int 0), (.int 0), (.int 0), (.int 0), (.int 0), (.int 0), (.int 0), (.int 0), (.int 0), (.int 0)] (.int 0) := Arv.set Aar323 qar323 Sar323 Nar323 Har323 Gar323 rfl W324 6 rfl (Nat.le_of_ble_eq_true rfl)
  have f325 := f293.wr W324
  have f326 := f294.other W324 (Or.inl ne35)
  have f327 := f295.other W324 (Or.inl ne35)
  have f328 := f296.other W324 (Or.inl ne35)
  have f329 := f297.other W324 (Or.inl ne35)
  have f331 := f299.wr W324
  have f334 := f302.other W324 ne38
  have f335 := f303.other W324 ne39
  have f336 := f304.other W324 ne40
  have f337 := f305.other W324 (Or.inl ne36)
  have f338 := f306.other W324 (Or.inl ne36)
  have f339 := f307.other W324 (Or.inl ne36)
  have f340 := f308.other W324 (Or.inl ne36)
  have f341 := f309.wr W324
  have f342 := f310.other W324 (Or.inl ne41)
  have f346 := f314.wr W324
  have f348 := f316.other W324 (Ne.symm ne73)
  have K350 := K318.wr W324 (Or.inr sz_bx34)
  have zs351 : n0 ≤ h324.size := Nat.le_trans zs319 (Keep.of_wr W324).1
  have N352 := Fr.snoc X324 N320 g_bx34
  obtain ⟨car353, Aar353, qar353, Sar353, Nar353, Har353, Gar353⟩ := id f348
  have hinar353 : ¬ ((2 : Int32) < 0 ∨ car353.slots.size ≤ ((2 : Int32)).toNatClampNeg) := inb_of Sar353 ⟨by decide, by decide⟩
  have hatar353 : car353.slots[((2 : Int32)).toNatClampNeg]? = some (.long 0) := Har353.at hinar353 rfl
  obtain ⟨car354, Aar354, qar354, Sar354, Nar354, Har354, Gar354⟩ := id V324
  have hinar354 : ¬ ((7 : Int32) < 0 ∨ car354.slots.size ≤ ((7 : Int32)).toNatClampNeg) := inb_of Sar354 ⟨by decide, by decide⟩
  obtain ⟨T355, h355, X355, e355, W355, st355⟩ := stI X324 hx hZ e324 Aar354 (j := (7 : Int32)) hinar354 (g := (mkF m 130 #[.val (.ref a1), .val (.ref a2), .val (.ref n1_1), .val (.int ((own_hh b0 b1) &&& (15 : Int32))), .val (.ref bx34), .val (.ref bx65), .val (.int 2)] [(.int 0), (.int 7), (.ref bx34)])) rfl rfl (hb hby d28_130)
  have V355 : Arv Z h355 bx34 ka34 .int (20 : Int32) [(.int 0), (.int 0), (.int ((own_k1 b0 b1).toInt32)), (.int ((((own_k1 b0 b1).toUInt64 >>> ((32 : Int32) &&& 0x3f).toInt64.toUInt64).toInt64).toInt32)), (.int 0), (.int 0), (.int 0), (.int 0), (.int 0), (.int 0), (.int 0), (.int 0), (.int 0), (.int 0), (.int 0), (.int 0), (.int 0), (.int 0), (.int 0), (.int 0)] (.int 0) := Arv.set Aar354 qar354 Sar354 Nar354 Har354 Gar354 rfl W355 7 rfl (Nat.le_of_ble_eq_true rfl)
  have f356 := f325.wr W355
  have f357 := f326.other W355 (Or.inl ne35)
  have f358 := f327.other W355 (Or.inl ne35)
  have f359 := f328.other W355 (Or.inl ne35)
  have f360 := f329.other W355 (Or.inl ne35)
  have f362 := f331.wr W355
  have f365 := f334.other W355 ne38
  have f366 := f335.other W355 ne39
  have f367 := f336.other W355 ne40
  have f368 := f337.other W355 (Or.inl ne36)
  have f369 := f338.other W355 (Or.inl ne36)
  have f370 := f339.other W355 (Or.inl ne36)
  have f371 := f340.other W355 (Or.inl ne36)
  have f372 := f341.wr W355
  have f373 := f342.other W355 (Or.inl ne41)
  have f377 := f346.wr W355
  have f379 := f348.other W355 (Ne.symm ne73)
  have K381 := K350.wr W355 (Or.inr sz_bx34)
  have zs382 : n0 ≤ h355.size := Nat.le_trans zs351 (Keep.of_wr W355).1
  have N383 := Fr.snoc X355 N352 g_bx34
  obtain ⟨car384, Aar384, qar384, Sar384, Nar384, Har384, Gar384⟩ := id f379
  obtain ⟨T385, X385, e385, st385⟩ := getF X355 hx hZ hown (host := "") (Or.inl (own_w hw (i := 38) rfl)) Via.refl e355 f357 (g := (mkF m 138 #[.val (.ref a1), .val (.ref a2), .val (.ref n1_1), .val (.int ((own_hh b0 b1) &&& (15 : Int32))), .val (.ref bx34), .val (.ref bx65), .val (.int 3)] [(.ref a1)])) rfl rfl (hb hby d28_138)
  -- pc 143: Interner$Key.hash by rmgh
  obtain ⟨cq386, kq386, q386a, q386b, q386c⟩ := isOf hZ e385 f372
  obtain ⟨_, _, ⟨T386, L386, ck386, cn386⟩, -, X386, ⟨Lc386, hQ386, l386, y386, z386⟩, st386⟩ := X385.virtualBack hx (y := (⟨KK, "hash", "()I"⟩ : MethodName)) (z := (⟨KK, "hash", "()I"⟩ : MethodName)) hown (mvT hZ (own_w hw (i := 142) rfl)) (mvT hZ (own_w hw (i := 143) rfl)) (notFace_of_selects (args := #[]) (mvT hZ (own_w hw (i := 145) rfl))) (mvT hZ (own_w hw (i := 145) rfl)) (mvT hZ (own_w hw (i := 144) rfl)) (by decide) (backOf (W := 2) (rmgh l Z a0 hw [] n1_1 (own_hh b0 b1) h355 n0 zs382 f373) hZ (own_w hw (i := 146) rfl) (own_w hw (i := 55) rfl) (by decide) (by decide)) q386a q386c (g := (mkF m 143 #[.val (.ref a1), .val (.ref a2), .val (.ref n1_1), .val (.int ((own_hh b0 b1) &&& (15 : Int32))), .val (.ref bx34), .val (.ref bx65), .val (.int 3)] [(.ref n1_1), (.int ((own_hh b0 b1) &&& (15 : Int32))), (.ref aH)])) rfl (by rw [hml]; rfl) (Steps.refl _) (argsL := []) (rest := [(.int ((own_hh b0 b1) &&& (15 : Int32))), (.ref aH)]) (lenOf pd_230 rfl) rfl (by show 2 * 0 + _ ≤ _; exact Nat.le_of_eq rfl) (hb hby d28_143) (fun _ _ => ⟨rfl, e385, (by decide : 3 + 0 ≤ _), (by decide : 28 + 0 ≤ _)⟩)
  dsimp only [Pt.U, Pt.locs, Pt.cells, Pt.slots] at X386 l386 y386 z386 st386 hQ386
  subst y386 z386
  obtain ⟨rfl, N386q, e386⟩ := hQ386
  have N387 : Fr n0 L386 := by rw [l386]; exact Fr.app N383 N386q
  obtain ⟨car388, Aar388, qar388, Sar388, Nar388, Har388, Gar388⟩ := id f365
  have hinar388 : ¬ (((own_hh b0 b1) &&& (15 : Int32)) < 0 ∨ car388.slots.size ≤ (((own_hh b0 b1) &&& (15 : Int32))).toNatClampNeg) := inb_of Sar388 (own_sl _)
  obtain ⟨T389, h389, X389, e389, W389, st389⟩ := stI X386 hx hZ e386 Aar388 (j := ((own_hh b0 b1) &&& (15 : Int32))) hinar388 (g := (mkF m 146 #[.val (.ref a1), .val (.ref a2), .val (.ref n1_1), .val (.int ((own_hh b0 b1) &&& (15 : Int32))), .val (.ref bx34), .val (.ref bx65), .val (.int 3)] [(.int (own_hh b0 b1)), (.int ((own_hh b0 b1) &&& (15 : Int32))), (.ref aH)])) rfl rfl (hb hby d28_146)
  have V389 : Arh Z h389 aH kH .int (16 : Int32) [(((own_hh b0 b1) &&& (15 : Int32)), (.int (own_hh b0 b1)))] [] (.int 0) := Arh.push Aar388 qar388 Sar388 Nar388 Har388 Gar388 rfl W389 hinar388
  have f390 := f356.wr W389
  have f391 := f357.other W389 (Or.inl ne_a1_aH)
  have f392 := f358.other W389 (Or.inl ne_a1_aH)
  have f393 := f359.other W389 (Or.inl ne_a1_aH)
  have f394 := f360.other W389 (Or.inl ne_a1_aH)
  have f396 := f362.wr W389
  have f400 := f366.other W389 (Ne.symm ne_aH_aR)
  have f401 := f367.other W389 (Ne.symm ne_aH_aS)
  have f402 := f368.other W389 (Or.inl ne_a2_aH)
  have f403 := f369.other W389 (Or.inl ne_a2_aH)
  have f404 := f370.other W389 (Or.inl ne_a2_aH)
  have f405 := f371.other W389 (Or.inl ne_a2_aH)
  have f411 := f377.wr W389
  have f414 := V355.other W389 (Ne.symm ne38)
  have K415 := K381.wr W389 (Or.inl (List.mem_of_getElem? (i := 2) rfl))
  have N417 := Fr.snoc X389 N387 g_aH
  obtain ⟨T418, X418, e418, st418⟩ := getF X389 hx hZ hown (host := "") (Or.inl (own_w hw (i := 42) rfl)) Via.refl e389 f392 (g := (mkF m 148 #[.val (.ref a1), .val (.ref a2), .val (.ref n1_1), .val (.int ((own_hh b0 b1) &&& (15 : Int32))), .val (.ref bx34), .val (.ref bx65), .val (.int 3)] [(.ref a1)])) rfl rfl (hb hby d28_148)
  obtain ⟨car419, Aar419, qar419, Sar419, Nar419, Har419, Gar419⟩ := id f400
  have hinar419 : ¬ (((own_hh b0 b1) &&& (15 : Int32)) < 0 ∨ car419.slots.size ≤ (((own_hh b0 b1) &&& (15 : Int32))).toNatClampNeg) := inb_of Sar419 (own_sl _)
  obtain ⟨T420, h420, X420, e420, W420, st420⟩ := stR X418 hx hZ e418 Aar419 (j := ((own_hh b0 b1) &&& (15 : Int32))) hinar419 rfl (Sto.ofVA Aar419 qar419 OV_aR (Ins.self f411)) (g := (mkF m 154 #[.val (.ref a1), .val (.ref a2), .val (.ref n1_1), .val (.int ((own_hh b0 b1) &&& (15 : Int32))), .val (.ref bx34), .val (.ref bx65), .val (.int 3)] [(.ref bx34), (.int ((own_hh b0 b1) &&& (15 : Int32))), (.ref aR)])) rfl rfl (hb hby d28_154)
  have V420 : Arh Z h420 aR kR (.array .int) (16 : Int32) [(((own_hh b0 b1) &&& (15 : Int32)), (.ref bx34))] [] .null := Arh.push Aar419 qar419 Sar419 Nar419 Har419 Gar419 rfl W420 hinar419
  have f421 := f390.wr W420
  have f422 := f391.other W420 (Or.inl ne_a1_aR)
  have f423 := f392.other W420 (Or.inl ne_a1_aR)
  have f424 := f393.other W420 (Or.inl ne_a1_aR)
  have f425 := f394.other W420 (Or.inl ne_a1_aR)
  have f427 := f396.wr W420
  have f431 := f401.other W420 (Ne.symm ne_aR_aS)
  have f432 := f402.other W420 (Or.inl ne_a2_aR)
  have f433 := f403.other W420 (Or.inl ne_a2_aR)
  have f434 := f404.other W420 (Or.inl ne_a2_aR)
  have f435 := f405.other W420 (Or.inl ne_a2_aR)
  have f441 := f411.wr W420
  have f444 := f414.other W420 (Ne.symm ne39)
  have f445 := V389.other W420 ne_aH_aR
  have K446 := K415.wr W420 (Or.inl (List.mem_of_getElem? (i := 3) rfl))
  have N448 := Fr.snoc X420 N417 g_aR
  obtain ⟨T449, X449, e449, st449⟩ := getF X420 hx hZ hown (host := "") (Or.inl (own_w hw (i := 46) rfl)) Via.refl e420 f424 (g := (mkF m 156 #[.val (.ref a1), .val (.ref a2), .val (.ref n1_1), .val (.int ((own_hh b0 b1) &&& (15 : Int32))), .val (.ref bx34), .val (.ref bx65), .val (.int 3)] [(.ref a1)])) rfl rfl (hb hby d28_156)
  obtain ⟨car450, Aar450, qar450, Sar450, Nar450, Har450, Gar450⟩ := id f431
  have hinar450 : ¬ (((own_hh b0 b1) &&& (15 : Int32)) < 0 ∨ car450.slots.size ≤ (((own_hh b0 b1) &&& (15 : Int32))).toNatClampNeg) := inb_of Sar450 (own_sl _)
  obtain ⟨T451, h451, X451, e451, W451, st451⟩ := stR X449 hx hZ e449 Aar450 (j := ((own_hh b0 b1) &&& (15 : Int32))) hinar450 rfl (Sto.ofV Aar450 qar450 OV_aS (Ins.self f427)) (g := (mkF m 161 #[.val (.ref a1), .val (.ref a2), .val (.ref n1_1), .val (.int ((own_hh b0 b1) &&& (15 : Int32))), .val (.ref bx34), .val (.ref bx65), .val (.int 3)] [(.ref a2), (.int ((own_hh b0 b1) &&& (15 : Int32))), (.ref aS)])) rfl rfl (hb hby d28_161)
  have V451 : Arh Z h451 aS kS (.object KJ) (16 : Int32) [(((own_hh b0 b1) &&& (15 : Int32)), (.ref a2))] [] .null := Arh.push Aar450 qar450 Sar450 Nar450 Har450 Gar450 rfl W451 hinar450
  have f452 := f421.wr W451
  have f453 := f422.other W451 (Or.inl ne_a1_aS)
  have f454 := f423.other W451 (Or.inl ne_a1_aS)
  have f455 := f424.other W451 (Or.inl ne_a1_aS)
  have f456 := f425.other W451 (Or.inl ne_a1_aS)
  have f458 := f427.wr W451
  have f462 := f432.other W451 (Or.inl ne_a2_aS)
  have f463 := f433.other W451 (Or.inl ne_a2_aS)
  have f464 := f434.other W451 (Or.inl ne_a2_aS)
  have f465 := f435.other W451 (Or.inl ne_a2_aS)
  have f471 := f441.wr W451
  have f474 := f444.other W451 (Ne.symm ne40)
  have f475 := f445.other W451 ne_aH_aS
  have f476 := V420.other W451 ne_aR_aS
  have K477 := K446.wr W451 (Or.inl (List.mem_of_getElem? (i := 4) rfl))
  have N479 := Fr.snoc X451 N448 g_aS
  obtain ⟨T480, X480, e480, st480⟩ := getF X451 hx hZ hown (host := "") (Or.inl (own_w hw (i := 165) rfl)) Via.refl e451 f456 (g := (mkF m 164 #[.val (.ref a1), .val (.ref a2), .val (.ref n1_1), .val (.int ((own_hh b0 b1) &&& (15 : Int32))), .val (.ref bx34), .val (.ref bx65), .val (.int 3)] [(.ref a1), (.ref a1)])) rfl rfl (hb hby d28_164)
  obtain ⟨T481, h481, X481, e481, W481, st481⟩ := putF X480 hx hZ hown (host := "") (Or.inl (own_w hw (i := 165) rfl)) Via.refl e480 f456 f452 (Or.inl (own_w hw (i := 166) rfl)) (own_w hw (i := 31) rfl) (ty := .int) (by decide) rfl rfl (g := (mkF m 169 #[.val (.ref a1), .val (.ref a2), .val (.ref n1_1), .val (.int ((own_hh b0 b1) &&& (15 : Int32))), .val (.ref bx34), .val (.ref bx65), .val (.int 3)] [(.int 1), (.ref a1)])) rfl rfl (hb hby d28_169)
  have f482 := f452.wr W481
  have f483 := f453.other W481 (Or.inr (sn_683 hw))
  have f484 := f454.other W481 (Or.inr (sn_684 hw))
  have f485 := f455.other W481 (Or.inr (sn_685 hw))
  have f486 := f456.same W481
  have f488 := f458.wr W481
  have f491 := f462.other W481 (Or.inl (Ne.symm ne_a1_a2))
  have f492 := f463.other W481 (Or.inl (Ne.symm ne_a1_a2))
  have f493 := f464.other W481 (Or.inl (Ne.symm ne_a1_a2))
  have f494 := f465.other W481 (Or.inl (Ne.symm ne_a1_a2))
  have f500 := f471.wr W481
  have f503 := f474.other W481 (Ne.symm ne35)
  have f504 := f475.other W481 (Ne.symm ne_a1_aH)
  have f505 := f476.other W481 (Ne.symm ne_a1_aR)
  have f506 := V451.other W481 (Ne.symm ne_a1_aS)
  have K507 := K477.wr W481 (Or.inl (List.mem_of_getElem? (i := 0) rfl))
  have N509 := Fr.snoc X481 N479 g_a1
  obtain ⟨fs, hr, hrun, hended, hW, hsame⟩ := X481.leave (v := some (.int ((own_hh b0 b1) &&& (15 : Int32)))) (fun h => by rw [Bd.returns] at h; cases h) Bd.notSynchronized
  refine ⟨_, _, pre0 _ ?_, hrun, hended, _, _, rfl, ?_, ⟨_, rfl⟩, hW, hsame.mono (by decide) (by decide)⟩
  · show Steps p.tables e below (s₁.setTop (mkF m 0 #[.val (.ref a1), .val (.ref a2), .unset, .unset, .unset, .unset, .unset] [])) _
    refine XS.aloadN X0.here hx rfl (hb hby d28_0) rfl rfl ?_
    refine st1 _ ?_
    refine XS.astoreN X1.here hx rfl (hb hby d28_4) rfl rfl (l' := #[.val (.ref a1), .val (.ref a2), .val (.ref n1_1), .unset, .unset, .unset, .unset]) rfl ?_
    refine XS.aloadN X1.here hx rfl (hb hby d28_5) rfl rfl ?_
    refine XS.aloadN X1.here hx rfl (hb hby d28_6) rfl rfl ?_
    refine st27.trans ?_
    refine XS.istoreN X27.here hx rfl (hb hby d28_10) rfl (l' := #[.val (.ref a1), .val (.ref a2), .val (.ref n1_1), .val (.int ((own_hh b0 b1) &&& (15 : Int32))), .unset, .unset, .unset]) rfl ?_
    refine XS.aloadN X27.here hx rfl (hb hby d28_11) rfl rfl ?_
    show Steps p.tables e below (T27.setTop (mkF m 12 #[.val (.ref a1), .val (.ref a2), .val (.ref n1_1), .val (.int ((own_hh b0 b1) &&& (15 : Int32))), .unset, .unset, .unset] [(.ref a1)])) _
    refine st29 _ ?_
    refine XS.iloadN X29.here hx rfl (hb hby d28_15) rfl ?_
    refine X29.aaload hx (j := ((own_hh b0 b1) &&& (15 : Int32))) (v := .null) (by rw [e29]; exact Aar30.1) (State.isArrayOf_alike hZ.alike Aar30.2.1) rfl Aar30.2.2 hinar30 hatar30 (g := (mkF m 16 #[.val (.ref a1), .val (.ref a2), .val (.ref n1_1), .val (.int ((own_hh b0 b1) &&& (15 : Int32))), .unset, .unset, .unset] [(.int ((own_hh b0 b1) &&& (15 : Int32))), (.ref aR)])) rfl rfl (hb hby d28_16) _ ?_
    refine XS.ifnonnullNo X29.here hx rfl (hb hby d28_17) rfl ?_
    refine XS.iconst X29.here hx rfl (hb hby d28_20) ?_
    refine XS.aloadN X29.here hx rfl (hb hby d28_21) rfl rfl ?_
    refine st31 _ ?_
    refine XS.iconst X31.here hx rfl (hb hby d28_25) ?_
    show Steps p.tables e below (T31.setTop (mkF m 26 #[.val (.ref a1), .val (.ref a2), .val (.ref n1_1), .val (.int ((own_hh b0 b1) &&& (15 : Int32))), .unset, .unset, .unset] [(.int 1), (.int 0), (.int 2)])) _
    refine XS.iadd X31.here hx rfl (hb hby d28_26) rfl ?_
    refine XS.imul X31.here hx rfl (hb hby d28_27) rfl ?_
    refine XS.aloadN X31.here hx rfl (hb hby d28_28) rfl rfl ?_
    refine st32 _ ?_
    refine X32.arraylength hx (by rw [e32]; exact Aar33.1) (State.isArrayOf_alike hZ.alike Aar33.2.1) (g := (mkF m 32 #[.val (.ref a1), .val (.ref a2), .val (.ref n1_1), .val (.int ((own_hh b0 b1) &&& (15 : Int32))), .unset, .unset, .unset] [(.ref aR), (.int 2)])) rfl rfl (hb hby d28_32) _ ?_
    rw [len_of Sar33 Nar33]
    show Steps p.tables e below (T32.setTop (mkF m 33 #[.val (.ref a1), .val (.ref a2), .val (.ref n1_1), .val (.int ((own_hh b0 b1) &&& (15 : Int32))), .unset, .unset, .unset] [(.int 16), (.int 2)])) _
    refine XS.icmpYes X32.here hx rfl (pc0 := 33) (pc' := 53) rfl (hb hby d28_33) rfl (flt (by decide : ¬ ((16 : Int32) < (2 : Int32)))).2.2.2 (by decide) (by decide) ?_
    refine XS.bipush X32.here hx rfl (hb hby d28_53) ?_
    refine st34 _ ?_
    show Steps p.tables e below (T34.setTop (mkF m 57 #[.val (.ref a1), .val (.ref a2), .val (.ref n1_1), .val (.int ((own_hh b0 b1) &&& (15 : Int32))), .unset, .unset, .unset] [(.ref bx34)])) _
    refine XS.astore X34.here hx rfl (hb hby d28_57) rfl rfl (l' := #[.val (.ref a1), .val (.ref a2), .val (.ref n1_1), .val (.int ((own_hh b0 b1) &&& (15 : Int32))), .val (.ref bx34), .unset, .unset]) rfl ?_
    refine XS.iconst X34.here hx rfl (hb hby d28_59) ?_
    refine st65 _ ?_
    refine XS.dup X65.here hx rfl (hb hby d28_62) rfl rfl ?_
    refine XS.iconst X65.here hx rfl (hb hby d28_63) ?_
    refine XS.aloadN X65.here hx rfl (hb hby d28_64) rfl rfl ?_
    refine st99.trans ?_
    refine st102 _ ?_
    show Steps p.tables e below (T102.setTop (mkF m 69 #[.val (.ref a1), .val (.ref a2), .val (.ref n1_1), .val (.int ((own_hh b0 b1) &&& (15 : Int32))), .val (.ref bx34), .unset, .unset] [(.ref bx65)])) _
    refine XS.dup X102.here hx rfl (hb hby d28_69) rfl rfl ?_
    refine XS.iconst X102.here hx rfl (hb hby d28_70) ?_
    refine XS.aloadN X102.here hx rfl (hb hby d28_71) rfl rfl ?_
    refine st131.trans ?_
    refine st134 _ ?_
    refine XS.dup X134.here hx rfl (hb hby d28_76) rfl rfl ?_
    refine XS.iconst X134.here hx rfl (hb hby d28_77) ?_
    refine XS.aloadN X134.here hx rfl (hb hby d28_78) rfl rfl ?_
    show Steps p.tables e below (T134.setTop (mkF m 79 #[.val (.ref a1), .val (.ref a2), .val (.ref n1_1), .val (.int ((own_hh b0 b1) &&& (15 : Int32))), .val (.ref bx34), .unset, .unset] [(.ref n1_1), (.int 2), (.ref bx65), (.ref bx65)])) _
    refine st163.trans ?_
    refine st166 _ ?_
    refine XS.astore X166.here hx rfl (hb hby d28_83) rfl rfl (l' := #[.val (.ref a1), .val (.ref a2), .val (.ref n1_1), .val (.int ((own_hh b0 b1) &&& (15 : Int32))), .val (.ref bx34), .val (.ref bx65), .unset]) rfl ?_
    refine XS.iconst X166.here hx rfl (hb hby d28_85) ?_
    refine XS.istore X166.here hx rfl (hb hby d28_86) rfl (l' := #[.val (.ref a1), .val (.ref a2), .val (.ref n1_1), .val (.int ((own_hh b0 b1) &&& (15 : Int32))), .val (.ref bx34), .val (.ref bx65), .val (.int 0)]) rfl ?_
    refine XS.iload X166.here hx rfl (hb hby d28_88) rfl ?_
    refine XS.aload X166.here hx rfl (hb hby d28_90) rfl rfl ?_
    refine X166.arraylength hx (by rw [e166]; exact Aar195.1) (State.isArrayOf_alike hZ.alike Aar195.2.1) (g := (mkF m 92 #[.val (.ref a1), .val (.ref a2), .val (.ref n1_1), .val (.int ((own_hh b0 b1) &&& (15 : Int32))), .val (.ref bx34), .val (.ref bx65), .val (.int 0)] [(.ref bx65), (.int 0)])) rfl rfl (hb hby d28_92) _ ?_
    rw [len_of Sar195 Nar195]
    show Steps p.tables e below (T166.setTop (mkF m 93 #[.val (.ref a1), .val (.ref a2), .val (.ref n1_1), .val (.int ((own_hh b0 b1) &&& (15 : Int32))), .val (.ref bx34), .val (.ref bx65), .val (.int 0)] [(.int 3), (.int 0)])) _
    refine XS.icmpNo X166.here hx rfl (hb hby d28_93) rfl (tlt (by decide : (0 : Int32) < (3 : Int32))).2.1 ?_
    refine XS.aload X166.here hx rfl (hb hby d28_96) rfl rfl ?_
    refine XS.iconst X166.here hx rfl (hb hby d28_98) ?_
    refine XS.iconst X166.here hx rfl (hb hby d28_99) ?_
    refine XS.iload X166.here hx rfl (hb hby d28_100) rfl ?_
    refine XS.imul X166.here hx rfl (hb hby d28_102) rfl ?_
    refine XS.iadd X166.here hx rfl (hb hby d28_103) rfl ?_
    refine XS.aload X166.here hx rfl (hb hby d28_104) rfl rfl ?_
    show Steps p.tables e below (T166.setTop (mkF m 106 #[.val (.ref a1), .val (.ref a2), .val (.ref n1_1), .val (.int ((own_hh b0 b1) &&& (15 : Int32))), .val (.ref bx34), .val (.ref bx65), .val (.int 0)] [(.ref bx65), (.int 2), (.ref bx34)])) _
    refine XS.iload X166.here hx rfl (hb hby d28_106) rfl ?_
    refine X166.laload hx (j := (0 : Int32)) (v := (.long (own_k1 b0 b1))) (by rw [e166]; exact Aar196.1) (State.isArrayOf_alike hZ.alike Aar196.2.1) Aar196.2.2 hinar196 hatar196 (g := (mkF m 108 #[.val (.ref a1), .val (.ref a2), .val (.ref n1_1), .val (.int ((own_hh b0 b1) &&& (15 : Int32))), .val (.ref bx34), .val (.ref bx65), .val (.int 0)] [(.int 0), (.ref bx65), (.int 2), (.ref bx34)])) rfl rfl (hb hby d28_108) _ ?_
    refine XS.l2i X166.here hx rfl (hb hby d28_109) rfl ?_
    refine st198 _ ?_
    refine XS.aload X198.here hx rfl (hb hby d28_111) rfl rfl ?_
    refine XS.iconst X198.here hx rfl (hb hby d28_113) ?_
    refine XS.iconst X198.here hx rfl (hb hby d28_114) ?_
    refine XS.iload X198.here hx rfl (hb hby d28_115) rfl ?_
    show Steps p.tables e below (T198.setTop (mkF m 117 #[.val (.ref a1), .val (.ref a2), .val (.ref n1_1), .val (.int ((own_hh b0 b1) &&& (15 : Int32))), .val (.ref bx34), .val (.ref bx65), .val (.int 0)] [(.int 0), (.int 2), (.int 2), (.ref bx34)])) _
    refine XS.imul X198.here hx rfl (hb hby d28_117) rfl ?_
    refine XS.iadd X198.here hx rfl (hb hby d28_118) rfl ?_
    refine XS.iconst X198.here hx rfl (hb hby d28_119) ?_
    refine XS.iadd X198.here hx rfl (hb hby d28_120) rfl ?_
    refine XS.aload X198.here hx rfl (hb hby d28_121) rfl rfl ?_
    refine XS.iload X198.here hx rfl (hb hby d28_123) rfl ?_
    refine X198.laload hx (j := (0 : Int32)) (v := (.long (own_k1 b0 b1))) (by rw [e198]; exact Aar227.1) (State.isArrayOf_alike hZ.alike Aar227.2.1) Aar227.2.2 hinar227 hatar227 (g := (mkF m 125 #[.val (.ref a1), .val (.ref a2), .val (.ref n1_1), .val (.int ((own_hh b0 b1) &&& (15 : Int32))), .val (.ref bx34), .val (.ref bx65), .val (.int 0)] [(.int 0), (.ref bx65), (.int 3), (.ref bx34)])) rfl rfl (hb hby d28_125) _ ?_
    refine XS.bipush X198.here hx rfl (hb hby d28_126) ?_
    show Steps p.tables e below (T198.setTop (mkF m 128 #[.val (.ref a1), .val (.ref a2), .val (.ref n1_1), .val (.int ((own_hh b0 b1) &&& (15 : Int32))), .val (.ref bx34), .val (.ref bx65), .val (.int 0)] [(.int 32), (.long (own_k1 b0 b1)), (.int 3), (.ref bx34)])) _
    refine XS.lushr X198.here hx rfl (hb hby d28_128) rfl ?_
    refine XS.l2i X198.here hx rfl (hb hby d28_129) rfl ?_
    refine st229 _ ?_
    refine XS.iinc X229.here hx rfl (hb hby d28_131) rfl (l' := #[.val (.ref a1), .val (.ref a2), .val (.ref n1_1), .val (.int ((own_hh b0 b1) &&& (15 : Int32))), .val (.ref bx34), .val (.ref bx65), .val (.int 1)]) rfl ?_
    refine XS.goto X229.here hx rfl (pc0 := 134) (pc' := 88) rfl (hb hby d28_134) (by decide) (by decide) ?_
    refine XS.iload X229.here hx rfl (hb hby d28_88) rfl ?_
    refine XS.aload X229.here hx rfl (hb hby d28_90) rfl rfl ?_
    refine X229.arraylength hx (by rw [e229]; exact Aar258.1) (State.isArrayOf_alike hZ.alike Aar258.2.1) (g := (mkF m 92 #[.val (.ref a1), .val (.ref a2), .val (.ref n1_1), .val (.int ((own_hh b0 b1) &&& (15 : Int32))), .val (.ref bx34), .val (.ref bx65), .val (.int 1)] [(.ref bx65), (.int 1)])) rfl rfl (hb hby d28_92) _ ?_
    rw [len_of Sar258 Nar258]
    show Steps p.tables e below (T229.setTop (mkF m 93 #[.val (.ref a1), .val (.ref a2), .val (.ref n1_1), .val (.int ((own_hh b0 b1) &&& (15 : Int32))), .val (.ref bx34), .val (.ref bx65), .val (.int 1)] [(.int 3), (.int 1)])) _
    refine XS.icmpNo X229.here hx rfl (hb hby d28_93) rfl (tlt (by decide : (1 : Int32) < (3 : Int32))).2.1 ?_
    refine XS.aload X229.here hx rfl (hb hby d28_96) rfl rfl ?_
    refine XS.iconst X229.here hx rfl (hb hby d28_98) ?_
    refine XS.iconst X229.here hx rfl (hb hby d28_99) ?_
    refine XS.iload X229.here hx rfl (hb hby d28_100) rfl ?_
    refine XS.imul X229.here hx rfl (hb hby d28_102) rfl ?_
    refine XS.iadd X229.here hx rfl (hb hby d28_103) rfl ?_
    refine XS.aload X229.here hx rfl (hb hby d28_104) rfl rfl ?_
    show Steps p.tables e below (T229.setTop (mkF m 106 #[.val (.ref a1), .val (.ref a2), .val (.ref n1_1), .val (.int ((own_hh b0 b1) &&& (15 : Int32))), .val (.ref bx34), .val (.ref bx65), .val (.int 1)] [(.ref bx65), (.int 4), (.ref bx34)])) _
    refine XS.iload X229.here hx rfl (hb hby d28_106) rfl ?_
    refine X229.laload hx (j := (1 : Int32)) (v := (.long 0)) (by rw [e229]; exact Aar259.1) (State.isArrayOf_alike hZ.alike Aar259.2.1) Aar259.2.2 hinar259 hatar259 (g := (mkF m 108 #[.val (.ref a1), .val (.ref a2), .val (.ref n1_1), .val (.int ((own_hh b0 b1) &&& (15 : Int32))), .val (.ref bx34), .val (.ref bx65), .val (.int 1)] [(.int 1), (.ref bx65), (.int 4), (.ref bx34)])) rfl rfl (hb hby d28_108) _ ?_
    refine XS.l2i X229.here hx rfl (hb hby d28_109) rfl ?_
    refine st261 _ ?_
    refine XS.aload X261.here hx rfl (hb hby d28_111) rfl rfl ?_
    refine XS.iconst X261.here hx rfl (hb hby d28_113) ?_
    refine XS.iconst X261.here hx rfl (hb hby d28_114) ?_
    refine XS.iload X261.here hx rfl (hb hby d28_115) rfl ?_
    show Steps p.tables e below (T261.setTop (mkF m 117 #[.val (.ref a1), .val (.ref a2), .val (.ref n1_1), .val (.int ((own_hh b0 b1) &&& (15 : Int32))), .val (.ref bx34), .val (.ref bx65), .val (.int 1)] [(.int 1), (.int 2), (.int 2), (.ref bx34)])) _
    refine XS.imul X261.here hx rfl (hb hby d28_117) rfl ?_
    refine XS.iadd X261.here hx rfl (hb hby d28_118) rfl ?_
    refine XS.iconst X261.here hx rfl (hb hby d28_119) ?_
    refine XS.iadd X261.here hx rfl (hb hby d28_120) rfl ?_
    refine XS.aload X261.here hx rfl (hb hby d28_121) rfl rfl ?_
    refine XS.iload X261.here hx rfl (hb hby d28_123) rfl ?_
    refine X261.laload hx (j := (1 : Int32)) (v := (.long 0)) (by rw [e261]; exact Aar290.1) (State.isArrayOf_alike hZ.alike Aar290.2.1) Aar290.2.2 hinar290 hatar290 (g := (mkF m 125 #[.val (.ref a1), .val (.ref a2), .val (.ref n1_1), .val (.int ((own_hh b0 b1) &&& (15 : Int32))), .val (.ref bx34), .val (.ref bx65), .val (.int 1)] [(.int 1), (.ref bx65), (.int 5), (.ref bx34)])) rfl rfl (hb hby d28_125) _ ?_
    refine XS.bipush X261.here hx rfl (hb hby d28_126) ?_
    show Steps p.tables e below (T261.setTop (mkF m 128 #[.val (.ref a1), .val (.ref a2), .val (.ref n1_1), .val (.int ((own_hh b0 b1) &&& (15 : Int32))), .val (.ref bx34), .val (.ref bx65), .val (.int 1)] [(.int 32), (.long 0), (.int 5), (.ref bx34)])) _
    refine XS.lushr X261.here hx rfl (hb hby d28_128) rfl ?_
    refine XS.l2i X261.here hx rfl (hb hby d28_129) rfl ?_
    refine st292 _ ?_
    refine XS.iinc X292.here hx rfl (hb hby d28_131) rfl (l' := #[.val (.ref a1), .val (.ref a2), .val (.ref n1_1), .val (.int ((own_hh b0 b1) &&& (15 : Int32))), .val (.ref bx34), .val (.ref bx65), .val (.int 2)]) rfl ?_
    refine XS.goto X292.here hx rfl (pc0 := 134) (pc' := 88) rfl (hb hby d28_134) (by decide) (by decide) ?_
    refine XS.iload X292.here hx rfl (hb hby d28_88) rfl ?_
    refine XS.aload X292.here hx rfl (hb hby d28_90) rfl rfl ?_
    refine X292.arraylength hx (by rw [e292]; exact Aar321.1) (State.isArrayOf_alike hZ.alike Aar321.2.1) (g := (mkF m 92 #[.val (.ref a1), .val (.ref a2), .val (.ref n1_1), .val (.int ((own_hh b0 b1) &&& (15 : Int32))), .val (.ref bx34), .val (.ref bx65), .val (.int 2)] [(.ref bx65), (.int 2)])) rfl rfl (hb hby d28_92) _ ?_
    rw [len_of Sar321 Nar321]
    show Steps p.tables e below (T292.setTop (mkF m 93 #[.val (.ref a1), .val (.ref a2), .val (.ref n1_1), .val (.int ((own_hh b0 b1) &&& (15 : Int32))), .val (.ref bx34), .val (.ref bx65), .val (.int 2)] [(.int 3), (.int 2)])) _
    refine XS.icmpNo X292.here hx rfl (hb hby d28_93) rfl (tlt (by decide : (2 : Int32) < (3 : Int32))).2.1 ?_
    refine XS.aload X292.here hx rfl (hb hby d28_96) rfl rfl ?_
    refine XS.iconst X292.here hx rfl (hb hby d28_98) ?_
    refine XS.iconst X292.here hx rfl (hb hby d28_99) ?_
    refine XS.iload X292.here hx rfl (hb hby d28_100) rfl ?_
    refine XS.imul X292.here hx rfl (hb hby d28_102) rfl ?_
    refine XS.iadd X292.here hx rfl (hb hby d28_103) rfl ?_
    refine XS.aload X292.here hx rfl (hb hby d28_104) rfl rfl ?_
    show Steps p.tables e below (T292.setTop (mkF m 106 #[.val (.ref a1), .val (.ref a2), .val (.ref n1_1), .val (.int ((own_hh b0 b1) &&& (15 : Int32))), .val (.ref bx34), .val (.ref bx65), .val (.int 2)] [(.ref bx65), (.int 6), (.ref bx34)])) _
    refine XS.iload X292.here hx rfl (hb hby d28_106) rfl ?_
    refine X292.laload hx (j := (2 : Int32)) (v := (.long 0)) (by rw [e292]; exact Aar322.1) (State.isArrayOf_alike hZ.alike Aar322.2.1) Aar322.2.2 hinar322 hatar322 (g := (mkF m 108 #[.val (.ref a1), .val (.ref a2), .val (.ref n1_1), .val (.int ((own_hh b0 b1) &&& (15 : Int32))), .val (.ref bx34), .val (.ref bx65), .val (.int 2)] [(.int 2), (.ref bx65), (.int 6), (.ref bx34)])) rfl rfl (hb hby d28_108) _ ?_
    refine XS.l2i X292.here hx rfl (hb hby d28_109) rfl ?_
    refine st324 _ ?_
    refine XS.aload X324.here hx rfl (hb hby d28_111) rfl rfl ?_
    refine XS.iconst X324.here hx rfl (hb hby d28_113) ?_
    refine XS.iconst X324.here hx rfl (hb hby d28_114) ?_
    refine XS.iload X324.here hx rfl (hb hby d28_115) rfl ?_
    show Steps p.tables e below (T324.setTop (mkF m 117 #[.val (.ref a1), .val (.ref a2), .val (.ref n1_1), .val (.int ((own_hh b0 b1) &&& (15 : Int32))), .val (.ref bx34), .val (.ref bx65), .val (.int 2)] [(.int 2), (.int 2), (.int 2), (.ref bx34)])) _
    refine XS.imul X324.here hx rfl (hb hby d28_117) rfl ?_
    refine XS.iadd X324.here hx rfl (hb hby d28_118) rfl ?_
    refine XS.iconst X324.here hx rfl (hb hby d28_119) ?_
    refine XS.iadd X324.here hx rfl (hb hby d28_120) rfl ?_
    refine XS.aload X324.here hx rfl (hb hby d28_121) rfl rfl ?_
    refine XS.iload X324.here hx rfl (hb hby d28_123) rfl ?_
    refine X324.laload hx (j := (2 : Int32)) (v := (.long 0)) (by rw [e324]; exact Aar353.1) (State.isArrayOf_alike hZ.alike Aar353.2.1) Aar353.2.2 hinar353 hatar353 (g := (mkF m 125 #[.val (.ref a1), .val (.ref a2), .val (.ref n1_1), .val (.int ((own_hh b0 b1) &&& (15 : Int32))), .val (.ref bx34), .val (.ref bx65), .val (.int 2)] [(.int 2), (.ref bx65), (.int 7), (.ref bx34)])) rfl rfl (hb hby d28_125) _ ?_
    refine XS.bipush X324.here hx rfl (hb hby d28_126) ?_
    show Steps p.tables e below (T324.setTop (mkF m 128 #[.val (.ref a1), .val (.ref a2), .val (.ref n1_1), .val (.int ((own_hh b0 b1) &&& (15 : Int32))), .val (.ref bx34), .val (.ref bx65), .val (.int 2)] [(.int 32), (.long 0), (.int 7), (.ref bx34)])) _
    refine XS.lushr X324.here hx rfl (hb hby d28_128) rfl ?_
    refine XS.l2i X324.here hx rfl (hb hby d28_129) rfl ?_
    refine st355 _ ?_
    refine XS.iinc X355.here hx rfl (hb hby d28_131) rfl (l' := #[.val (.ref a1), .val (.ref a2), .val (.ref n1_1), .val (.int ((own_hh b0 b1) &&& (15 : Int32))), .val (.ref bx34), .val (.ref bx65), .val (.int 3)]) rfl ?_
    refine XS.goto X355.here hx rfl (pc0 := 134) (pc' := 88) rfl (hb hby d28_134) (by decide) (by decide) ?_
    refine XS.iload X355.here hx rfl (hb hby d28_88) rfl ?_
    refine XS.aload X355.here hx rfl (hb hby d28_90) rfl rfl ?_
    refine X355.arraylength hx (by rw [e355]; exact Aar384.1) (State.isArrayOf_alike hZ.alike Aar384.2.1) (g := (mkF m 92 #[.val (.ref a1), .val (.ref a2), .val (.ref n1_1), .val (.int ((own_hh b0 b1) &&& (15 : Int32))), .val (.ref bx34), .val (.ref bx65), .val (.int 3)] [(.ref bx65), (.int 3)])) rfl rfl (hb hby d28_92) _ ?_
    rw [len_of Sar384 Nar384]
    show Steps p.tables e below (T355.setTop (mkF m 93 #[.val (.ref a1), .val (.ref a2), .val (.ref n1_1), .val (.int ((own_hh b0 b1) &&& (15 : Int32))), .val (.ref bx34), .val (.ref bx65), .val (.int 3)] [(.int 3), (.int 3)])) _
    refine XS.icmpYes X355.here hx rfl (pc0 := 93) (pc' := 137) rfl (hb hby d28_93) rfl (flt (by decide : ¬ ((3 : Int32) < (3 : Int32)))).2.1 (by decide) (by decide) ?_
    refine XS.aloadN X355.here hx rfl (hb hby d28_137) rfl rfl ?_
    refine st385 _ ?_
    refine XS.iloadN X385.here hx rfl (hb hby d28_141) rfl ?_
    refine XS.aloadN X385.here hx rfl (hb hby d28_142) rfl rfl ?_
    refine st386.trans ?_
    refine st389 _ ?_
    refine XS.aloadN X389.here hx rfl (hb hby d28_147) rfl rfl ?_
    show Steps p.tables e below (T389.setTop (mkF m 148 #[.val (.ref a1), .val (.ref a2), .val (.ref n1_1), .val (.int ((own_hh b0 b1) &&& (15 : Int32))), .val (.ref bx34), .val (.ref bx65), .val (.int 3)] [(.ref a1)])) _
    refine st418 _ ?_
    refine XS.iloadN X418.here hx rfl (hb hby d28_151) rfl ?_
    refine XS.aload X418.here hx rfl (hb hby d28_152) rfl rfl ?_
    refine st420 _ ?_
    refine XS.aloadN X420.here hx rfl (hb hby d28_155) rfl rfl ?_
    refine st449 _ ?_
    refine XS.iloadN X449.here hx rfl (hb hby d28_159) rfl ?_
    refine XS.aloadN X449.here hx rfl (hb hby d28_160) rfl rfl ?_
    show Steps p.tables e below (T449.setTop (mkF m 161 #[.val (.ref a1), .val (.ref a2), .val (.ref n1_1), .val (.int ((own_hh b0 b1) &&& (15 : Int32))), .val (.ref bx34), .val (.ref bx65), .val (.int 3)] [(.ref a2), (.int ((own_hh b0 b1) &&& (15 : Int32))), (.ref aS)])) _
    refine st451 _ ?_
    refine XS.aloadN X451.here hx rfl (hb hby d28_162) rfl rfl ?_
    refine XS.dup X451.here hx rfl (hb hby d28_163) rfl rfl ?_
    refine st480 _ ?_
    refine XS.iconst X480.here hx rfl (hb hby d28_167) ?_
    refine XS.iadd X480.here hx rfl (hb hby d28_168) rfl ?_
    refine st481 _ ?_
    refine XS.iloadN X481.here hx rfl (hb hby d28_172) rfl ?_
    show Steps p.tables e below (T481.setTop (mkF m 173 #[.val (.ref a1), .val (.ref a2), .val (.ref n1_1), .val (.int ((own_hh b0 b1) &&& (15 : Int32))), .val (.ref bx34), .val (.ref bx65), .val (.int 3)] [(.int ((own_hh b0 b1) &&& (15 : Int32)))])) _
    exact retI X481 hx Bd.returns (hb hby d28_173) hr
  · show QhE Z a1 a2 aH aR aS kH kR kS bv kb b0 b1 hv zv cz fmt h0 n0 _ T481.heap _
    rw [e481]
    exact ⟨bx34, ka34, rfl, N509, K507, g_bx34, sz_bx34, f482, f483, f484, f485, f486, f488, f491, f492, f493, f494, f504, f505, f506, f503, f500⟩
theorem ef_hO (m : MethodId) (x0 : Addr) (x1 : Addr) : entryFrame m #[(.ref x0), (.ref x1)] 7 = mkF m 0 #[.val (.ref x0), .val (.ref x1), .unset, .unset, .unset, .unset, .unset] [] := by first | (simp [entryFrame, mkF, argsToLocals, Value.category]; done) | rfl
abbrev R_hO : Room := { frames := 6, cells := 1, slots := 5, locals := 98 }
def QhO (Z : State) (a1 : Addr) (a2 : Addr) (aH : Addr) (aR : Addr) (aS : Addr) (kH : ClassId) (kR : ClassId) (bv : Addr) (kb : ClassId) (b0 : Int32) (b1 : Int32) (hv : Int32) (zv : Int32) (cz : Int32) (fmt : Value) (rc : Addr) (kr : ClassId) (r0 : Int32) (r1 : Int32) (r8 : Int32) (r9 : Int32) (r10 : Int32) (r11 : Int32) (r12 : Int32) (r13 : Int32) (r14 : Int32) (r15 : Int32) (r16 : Int32) (r17 : Int32) (r18 : Int32) (r19 : Int32) (h0 : Heap) (n0 : Nat) (v : Option Value) (h : Heap) (L : List Loc) : Prop := v = some (.int ((own_hh b0 b1) &&& (15 : Int32))) ∧ Fr n0 L ∧ Keep h0 h [a2] ∧ Exa Z h a2 KJ ∧ Fld Z h a2 KJ "value" "[B" (.ref bv) ∧ Fld Z h a2 KJ "coder" "B" (.int 0) ∧ Fld Z h a2 KJ "hash" "I" (.int (own_hc b0 b1)) ∧ Fld Z h a2 KJ "hashIsZero" "Z" (.int (fhc_hashIsZero b0 b1 hv zv))
set_option maxRecDepth 65536 in
set_option maxHeartbeats 40000000 in
theorem rmhO (l : Launch) (Z : State) (a0 : Array Value) (hw : ∀ d ∈ tables_1, d.before a0 Z = true) (ws : List Jvm.Cond) (a1 : Addr) (a2 : Addr) (aH : Addr) (aR : Addr) (aS : Addr) (kH : ClassId) (kR : ClassId) (bv : Addr) (kb : ClassId) (b0 : Int32) (b1 : Int32) (hv : Int32) (zv : Int32) (cz : Int32) (fmt : Value) (rc : Addr) (kr : ClassId) (r0 : Int32) (r1 : Int32) (r8 : Int32) (r9 : Int32) (r10 : Int32) (r11 : Int32) (r12 : Int32) (r13 : Int32) (r14 : Int32) (r15 : Int32) (r16 : Int32) (r17 : Int32) (r18 : Int32) (r19 : Int32) (h0 : Heap) (n0 : Nat) (Z0 : n0 ≤ h0.size) (E_a1 : Exa Z h0 a1 KS) (F_hashes_a1 : Fld Z h0 a1 KS "hashes" "[I" (.ref aH)) (F_records_a1 : Fld Z h0 a1 KS "records" "[[I" (.ref aR)) (F_subjects_a1 : Fld Z h0 a1 KS "subjects" "[Ljava/lang/String;" (.ref aS)) (O0 : Old Z n0 h0) (S_COMPACT_STRINGS : Sta Z Z.heap KJ "COMPACT_STRINGS" "Z" (.int cz)) (hcz : ¬ (cz = (0 : Int32))) (S_SIOOBE_FORMATTER : Sta Z Z.heap "jdk/internal/util/Preconditions" "SIOOBE_FORMATTER" "Ljava/util/function/BiFunction;" fmt) (hfmt : fmt = .null ∨ ∃ a, fmt = .ref a) (E_a2 : Exa Z h0 a2 KJ) (F_value_a2 : Fld Z h0 a2 KJ "value" "[B" (.ref bv)) (F_coder_a2 : Fld Z h0 a2 KJ "coder" "B" (.int 0)) (V_bv : Arv Z h0 bv kb .byte (2 : Int32) [(.int b0), (.int b1)] (.int 0)) (E_bv : Exa Z h0 bv "[B") (F_hash_a2 : Fld Z h0 a2 KJ "hash" "I" (.int hv)) (F_hashIsZero_a2 : Fld Z h0 a2 KJ "hashIsZero" "Z" (.int zv)) (hinv : hv = (own_hc b0 b1) ∨ (hv = (0 : Int32) ∧ zv = (0 : Int32))) (V_aH : Arh Z h0 aH kH .int (16 : Int32) [(((own_hh b0 b1) &&& (15 : Int32)), (.int (own_hh b0 b1)))] [] (.int 0)) (V_aR : Arh Z h0 aR kR (.array .int) (16 : Int32) [(((own_hh b0 b1) &&& (15 : Int32)), (.ref rc))] [] .null) (V_rc : Arv Z h0 rc kr .int (20 : Int32) [(.int r0), (.int r1), (.int ((own_k1 b0 b1).toInt32)), (.int ((((own_k1 b0 b1).toUInt64 >>> ((32 : Int32) &&& 0x3f).toInt64.toUInt64).toInt64).toInt32)), (.int 0), (.int 0), (.int 0), (.int 0), (.int r8), (.int r9), (.int r10), (.int r11), (.int r12), (.int r13), (.int r14), (.int r15), (.int r16), (.int r17), (.int r18), (.int r19)] (.int 0)) (g_a2 : n0 ≤ a2) (ne_a2_a1 : a2 ≠ a1) (ne_a2_aH : a2 ≠ aH) (ne_a2_aR : a2 ≠ aR) (ne_a2_bv : a2 ≠ bv) (ne_a2_rc : a2 ≠ rc) :
    MetFree l (⟨KS, "held", "(Ljava/lang/String;)I"⟩ : MethodName) (head1 (Jvm.Cond.code (⟨KS, "held", "(Ljava/lang/String;)I"⟩ : MethodName) prog_18_method_10_code 7 (some .int) :: ws) R_hO) (fun a U => a = #[(.ref a1), (.ref a2)] ∧ Z.Warmed39 U.vm ∧ U.heap = h0) (fun _ _ _ _ _ => True) (fun _ U o U' => ∃ v L, o = .returned v ∧ QhO Z a1 a2 aH aR aS kH kR bv kb b0 b1 hv zv cz fmt rc kr r0 r1 r8 r9 r10 r11 r12 r13 r14 r15 r16 r17 r18 r19 h0 n0 v U'.heap L ∧ FrameEnd U o U' L R_hO.cells R_hO.slots) := by
  refine MetFree.of_bodySF (plainFor_of_name pn_386) hisR ?_
  intro p e s m args below meth c s₁ Bd hml0 hP hK
  obtain ⟨rfl, hZ, hh⟩ := hP
  have hx := Bd.exec
  have hby := Bd.bytes
  have hml : c.maxLocals = 7 := hml0
  have hown : s.vm.findClass KS = some m.cls := findClass_of_methodNamed Bd.named
  have hnm := (name_of_methodNamed Bd.named Bd.method).1
  have X0 : Stand p l e R_hO s m #[(.ref a1), (.ref a2)] below meth c s₁ [] 0 0 := Stand.of_body Bd
  have e0 : s₁.heap = h0 := by rw [← hh, Bd.state]; rfl
  have N0 := Fr.nil n0
  have pre0 : ∀ t, Steps p.tables e below (s₁.setTop (mkF m 0 #[.val (.ref a1), .val (.ref a2), .unset, .unset, .unset, .unset, .unset] [])) t → Steps p.tables e below (s₁.setTop (entryFrame m #[(.ref a1), (.ref a2)] 7)) t := fun t k => castTop (ef_hO m a1 a2) k
  -- pc 1: Interner$Key.of by rmko
  obtain ⟨_, _, ⟨T1, L1, ck1, cn1⟩, -, X1, ⟨Lc1, hQ1, l1, y1, z1⟩, st1⟩ := Jvm.LawKit.callS X0 hx (y := (⟨KK, "of", "(Ljava/lang/String;)Lcom/example/explicit_grants/explicitgrants/Interner$Key;"⟩ : MethodName)) hown (mvT hZ (own_w hw (i := 160) rfl)) (mvT hZ (own_w hw (i := 54) rfl)) (mvT hZ (own_w hw (i := 55) rfl)) (mvT hZ (own_w hw (i := 56) rfl)) (by decide) (backOf (W := 0) (rmko l Z a0 hw [] a2 bv kb b0 b1 hv zv cz fmt h0 n0 Z0 O0 S_COMPACT_STRINGS hcz E_a2 F_value_a2 F_coder_a2 V_bv E_bv F_hash_a2 F_hashIsZero_a2 hinv g_a2 ne_a2_bv S_SIOOBE_FORMATTER hfmt) hZ (own_w hw (i := 56) rfl) (own_w hw (i := 55) rfl) (by decide) (by decide)) (g := (mkF m 1 #[.val (.ref a1), .val (.ref a2), .unset, .unset, .unset, .unset, .unset] [(.ref a2)])) rfl (by rw [hml]; rfl) (argsL := [(.ref a2)]) (rest := []) (lenOf pd_584 rfl) rfl (by show 2 * 0 + _ ≤ _; exact Nat.le_of_eq rfl) (hb hby d28_1) (fun _ _ => ⟨rfl, e0, (by decide : 0 + 1 ≤ _), (by decide : 0 + 5 ≤ _)⟩)
  dsimp only [Pt.U, Pt.locs, Pt.cells, Pt.slots] at X1 l1 y1 z1 st1 hQ1
  subst y1 z1
  obtain ⟨n1_1, kn1_1, rfl, N1q, K1q, gq1_0, sq1_0, o1_0, o1_1, o1_2, o1_3, o1_4, o1_5, o1_6, o1_7, o1_8, o1_9⟩ := hQ1
  have N2 : Fr n0 L1 := by rw [l1]; exact Fr.app N0 N1q
  have f9 := E_a1.keep K1q
  have f10 := F_hashes_a1.keep K1q (ninS (Ne.symm ne_a2_a1) nin0)
  have f11 := F_records_a1.keep K1q (ninS (Ne.symm ne_a2_a1) nin0)
  have f12 := F_subjects_a1.keep K1q (ninS (Ne.symm ne_a2_a1) nin0)
  have f21 := V_aH.keep K1q (ninS (Ne.symm ne_a2_aH) nin0)
  have f22 := V_aR.keep K1q (ninS (Ne.symm ne_a2_aR) nin0)
  have f23 := V_rc.keep K1q (ninS (Ne.symm ne_a2_rc) nin0)
  have zs24 : n0 ≤ T1.heap.size := Nat.le_trans Z0 K1q.1
  have K25 := (Keep.refl h0 [a2]).trans K1q (allS (Or.inl (List.mem_of_getElem? (i := 0) rfl)) all0)
  -- pc 7: SubjectLines.slotOf by rmslO
  obtain ⟨cq26, qc26, qc26'⟩ := f9.cell
  obtain ⟨_, _, ⟨T26, L26, ck26, cn26⟩, -, X26, ⟨Lc26, hQ26, l26, y26, z26⟩, st26⟩ := X1.privateBack hx (y := (⟨KS, "slotOf", "(Lcom/example/explicit_grants/explicitgrants/Interner$Key;)I"⟩ : MethodName)) hown (mvT hZ (own_w hw (i := 161) rfl)) (mvT hZ (own_w hw (i := 162) rfl)) (own_sel (y := (⟨KS, "slotOf", "(Lcom/example/explicit_grants/explicitgrants/Interner$Key;)I"⟩ : MethodName)) (mvT hZ (own_w hw (i := 31) rfl)) (Cond.privateMethod_at (mvP hZ (own_w hw (i := 163) rfl) (args := #[]))) (mvT hZ (own_w hw (i := 162) rfl)) (by decide)) (Cond.privateMethod_at (mvP hZ (own_w hw (i := 163) rfl) (args := #[]))) (mvT hZ (own_w hw (i := 164) rfl)) (by decide) (backOf (W := 0) (rmslO l Z a0 hw [] a1 n1_1 (own_hh b0 b1) (own_k1 b0 b1) aH aR aS kH kR rc kr r0 r1 r8 r9 r10 r11 r12 r13 r14 r15 r16 r17 r18 r19 T1.heap n0 zs24 f9 f10 f11 f12 o1_5 o1_6 o1_7 o1_8 o1_9 f21 f22 f23 (own_k1ne _ _)) hZ (own_w hw (i := 164) rfl) (own_w hw (i := 32) rfl) (by decide) (by decide)) (g := (mkF m 7 #[.val (.ref a1), .val (.ref a2), .val (.ref n1_1), .unset, .unset, .unset, .unset] [(.ref n1_1), (.ref a1)])) rfl (by rw [hml]; rfl) (Steps.refl _) (a := a1) qc26 qc26' (argsL := [(.ref n1_1)]) (rest := []) (lenOf pd_589 rfl) rfl (by show 2 * 0 + _ ≤ _; exact Nat.le_of_eq rfl) (hb hby d28_7) (fun _ _ => ⟨rfl, rfl, (by decide : 1 + 0 ≤ _), (by decide : 5 + 0 ≤ _)⟩)
  dsimp only [Pt.U, Pt.locs, Pt.cells, Pt.slots] at X26 l26 y26 z26 st26 hQ26
  subst y26 z26
  obtain ⟨rfl, N26q, e26⟩ := hQ26
  have N27 : Fr n0 L26 := by rw [l26]; exact Fr.app N2 N26q
  obtain ⟨T28, X28, e28, st28⟩ := getF X26 hx hZ hown (host := "") (Or.inl (own_w hw (i := 42) rfl)) Via.refl e26 f11 (g := (mkF m 12 #[.val (.ref a1), .val (.ref a2), .val (.ref n1_1), .val (.int ((own_hh b0 b1) &&& (15 : Int32))), .unset, .unset, .unset] [(.ref a1)])) rfl rfl (hb hby d28_12)
  obtain ⟨car29, Aar29, qar29, Sar29, Nar29, Har29, Gar29⟩ := id f22
  have hinar29 : ¬ (((own_hh b0 b1) &&& (15 : Int32)) < 0 ∨ car29.slots.size ≤ (((own_hh b0 b1) &&& (15 : Int32))).toNatClampNeg) := inb_of Sar29 (own_sl _)
  have hatar29 : car29.slots[(((own_hh b0 b1) &&& (15 : Int32))).toNatClampNeg]? = some (.ref rc) := atH (hs := [(((own_hh b0 b1) &&& (15 : Int32)), (.ref rc))]) (vs := []) (dv := .null) Har29 hinar29 (getH_hit (own_sl _).1 rfl)
  obtain ⟨fs, hr, hrun, hended, hW, hsame⟩ := X28.leave (v := some (.int ((own_hh b0 b1) &&& (15 : Int32)))) (fun h => by rw [Bd.returns] at h; cases h) Bd.notSynchronized
  refine ⟨_, _, pre0 _ ?_, hrun, hended, _, _, rfl, ?_, ⟨_, rfl⟩, hW, hsame.mono (by decide) (by decide)⟩
  · show Steps p.tables e below (s₁.setTop (mkF m 0 #[.val (.ref a1), .val (.ref a2), .unset, .unset, .unset, .unset, .unset] [])) _
    refine XS.aloadN X0.here hx rfl (hb hby d28_0) rfl rfl ?_
    refine st1 _ ?_
    refine XS.astoreN X1.here hx rfl (hb hby d28_4) rfl rfl (l' := #[.val (.ref a1), .val (.ref a2), .val (.ref n1_1), .unset, .unset, .unset, .unset]) rfl ?_
    refine XS.aloadN X1.here hx rfl (hb hby d28_5) rfl rfl ?_
    refine XS.aloadN X1.here hx rfl (hb hby d28_6) rfl rfl ?_
    refine st26.trans ?_
    refine XS.istoreN X26.here hx rfl (hb hby d28_10) rfl (l' := #[.val (.ref a1), .val (.ref a2), .val (.ref n1_1), .val (.int ((own_hh b0 b1) &&& (15 : Int32))), .unset, .unset, .unset]) rfl ?_
    refine XS.aloadN X26.here hx rfl (hb hby d28_11) rfl rfl ?_
    show Steps p.tables e below (T26.setTop (mkF m 12 #[.val (.ref a1), .val (.ref a2), .val (.ref n1_1), .val (.int ((own_hh b0 b1) &&& (15 : Int32))), .unset, .unset, .unset] [(.ref a1)])) _
    refine st28 _ ?_
    refine XS.iloadN X28.here hx rfl (hb hby d28_15) rfl ?_
    refine X28.aaload hx (j := ((own_hh b0 b1) &&& (15 : Int32))) (v := (.ref rc)) (by rw [e28]; exact Aar29.1) (State.isArrayOf_alike hZ.alike Aar29.2.1) rfl Aar29.2.2 hinar29 hatar29 (g := (mkF m 16 #[.val (.ref a1), .val (.ref a2), .val (.ref n1_1), .val (.int ((own_hh b0 b1) &&& (15 : Int32))), .unset, .unset, .unset] [(.int ((own_hh b0 b1) &&& (15 : Int32))), (.ref aR)])) rfl rfl (hb hby d28_16) _ ?_
    refine XS.ifnonnullYes X28.here hx rfl (pc0 := 17) (pc' := 172) rfl (hb hby d28_17) rfl (by decide) (by decide) ?_
    refine XS.iloadN X28.here hx rfl (hb hby d28_172) rfl ?_
    exact retI X28 hx Bd.returns (hb hby d28_173) hr
  · show QhO Z a1 a2 aH aR aS kH kR bv kb b0 b1 hv zv cz fmt rc kr r0 r1 r8 r9 r10 r11 r12 r13 r14 r15 r16 r17 r18 r19 h0 n0 _ T28.heap _
    rw [e28]
    exact ⟨rfl, N27, K25, o1_0, o1_1, o1_2, o1_3, o1_4⟩
theorem d27_0 : decode prog_18_method_8_code 0 = .ok (.aload_n 0, 1) := by decide +kernel
theorem d27_1 : decode prog_18_method_8_code 1 = .ok (.aload_n 1, 1) := by decide +kernel
theorem d27_2 : decode prog_18_method_8_code 2 = .ok (.invokevirtual 57, 3) := by decide +kernel
theorem d27_5 : decode prog_18_method_8_code 5 = .ok (.istore 7, 2) := by decide +kernel
theorem d27_7 : decode prog_18_method_8_code 7 = .ok (.aload_n 0, 1) := by decide +kernel
theorem d27_8 : decode prog_18_method_8_code 8 = .ok (.getfield 14, 3) := by decide +kernel
theorem d27_11 : decode prog_18_method_8_code 11 = .ok (.iload 7, 2) := by decide +kernel
theorem d27_13 : decode prog_18_method_8_code 13 = .ok (.aaload, 1) := by decide +kernel
theorem d27_14 : decode prog_18_method_8_code 14 = .ok (.astore 8, 2) := by decide +kernel
theorem d27_16 : decode prog_18_method_8_code 16 = .ok (.aload 8, 2) := by decide +kernel
theorem d27_18 : decode prog_18_method_8_code 18 = .ok (.iload_n 2, 1) := by decide +kernel
theorem d27_19 : decode prog_18_method_8_code 19 = .ok (.iload_n 3, 1) := by decide +kernel
theorem d27_20 : decode prog_18_method_8_code 20 = .ok (.iload 4, 2) := by decide +kernel
theorem d27_22 : decode prog_18_method_8_code 22 = .ok (.iload 5, 2) := by decide +kernel
theorem d27_24 : decode prog_18_method_8_code 24 = .ok (.iload 6, 2) := by decide +kernel
theorem d27_26 : decode prog_18_method_8_code 26 = .ok (.invokestatic 61, 3) := by decide +kernel
theorem pd_704 : parseMethodDescriptor "([IIIIII)I" = some ⟨[(.array .int), .int, .int, .int, .int, .int], some .int⟩ := by decide +kernel
theorem d27_29 : decode prog_18_method_8_code 29 = .ok (.istore 9, 2) := by decide +kernel
theorem d27_31 : decode prog_18_method_8_code 31 = .ok (.iload 9, 2) := by decide +kernel
theorem d27_33 : decode prog_18_method_8_code 33 = .ok (.aload 8, 2) := by decide +kernel
theorem d27_35 : decode prog_18_method_8_code 35 = .ok (.arraylength, 1) := by decide +kernel
theorem d27_36 : decode prog_18_method_8_code 36 = .ok (.if_icmp .eq 11, 3) := by decide +kernel
theorem d27_39 : decode prog_18_method_8_code 39 = .ok (.aload 8, 2) := by decide +kernel
theorem d27_41 : decode prog_18_method_8_code 41 = .ok (.iload 9, 2) := by decide +kernel
theorem d27_43 : decode prog_18_method_8_code 43 = .ok (.iaload, 1) := by decide +kernel
theorem d27_44 : decode prog_18_method_8_code 44 = .ok (.ifCond .ne 128, 3) := by decide +kernel
theorem d27_47 : decode prog_18_method_8_code 47 = .ok (.aload 8, 2) := by decide +kernel
theorem d27_49 : decode prog_18_method_8_code 49 = .ok (.invokestatic 34, 3) := by decide +kernel
theorem d27_52 : decode prog_18_method_8_code 52 = .ok (.ifCond .eq 18, 3) := by decide +kernel
theorem d27_55 : decode prog_18_method_8_code 55 = .ok (.aload 8, 2) := by decide +kernel
theorem d27_57 : decode prog_18_method_8_code 57 = .ok (.iconst 0, 1) := by decide +kernel
theorem d27_58 : decode prog_18_method_8_code 58 = .ok (.iaload, 1) := by decide +kernel
theorem d27_59 : decode prog_18_method_8_code 59 = .ok (.aload 8, 2) := by decide +kernel
theorem d27_61 : decode prog_18_method_8_code 61 = .ok (.invokestatic 65, 3) := by decide +kernel
theorem d27_64 : decode prog_18_method_8_code 64 = .ok (.if_icmp .ne 55, 3) := by decide +kernel
theorem d27_119 : decode prog_18_method_8_code 119 = .ok (.aload 8, 2) := by decide +kernel
theorem d27_121 : decode prog_18_method_8_code 121 = .ok (.iload 9, 2) := by decide +kernel
theorem d27_123 : decode prog_18_method_8_code 123 = .ok (.iload_n 2, 1) := by decide +kernel
theorem d27_124 : decode prog_18_method_8_code 124 = .ok (.iastore, 1) := by decide +kernel
theorem d27_125 : decode prog_18_method_8_code 125 = .ok (.aload 8, 2) := by decide +kernel
theorem d27_127 : decode prog_18_method_8_code 127 = .ok (.iload 9, 2) := by decide +kernel
theorem d27_129 : decode prog_18_method_8_code 129 = .ok (.iconst 1, 1) := by decide +kernel
theorem d27_130 : decode prog_18_method_8_code 130 = .ok (.iadd, 1) := by decide +kernel
theorem d27_131 : decode prog_18_method_8_code 131 = .ok (.iload_n 3, 1) := by decide +kernel
theorem d27_132 : decode prog_18_method_8_code 132 = .ok (.iastore, 1) := by decide +kernel
theorem d27_133 : decode prog_18_method_8_code 133 = .ok (.aload 8, 2) := by decide +kernel
theorem d27_135 : decode prog_18_method_8_code 135 = .ok (.iload 9, 2) := by decide +kernel
theorem d27_137 : decode prog_18_method_8_code 137 = .ok (.iconst 2, 1) := by decide +kernel
theorem d27_138 : decode prog_18_method_8_code 138 = .ok (.iadd, 1) := by decide +kernel
theorem d27_139 : decode prog_18_method_8_code 139 = .ok (.iload 4, 2) := by decide +kernel
theorem d27_141 : decode prog_18_method_8_code 141 = .ok (.iastore, 1) := by decide +kernel
theorem d27_142 : decode prog_18_method_8_code 142 = .ok (.aload 8, 2) := by decide +kernel
theorem d27_144 : decode prog_18_method_8_code 144 = .ok (.iload 9, 2) := by decide +kernel
theorem d27_146 : decode prog_18_method_8_code 146 = .ok (.iconst 2, 1) := by decide +kernel
theorem d27_147 : decode prog_18_method_8_code 147 = .ok (.iadd, 1) := by decide +kernel
theorem d27_148 : decode prog_18_method_8_code 148 = .ok (.iconst 1, 1) := by decide +kernel
theorem d27_149 : decode prog_18_method_8_code 149 = .ok (.iadd, 1) := by decide +kernel
theorem d27_150 : decode prog_18_method_8_code 150 = .ok (.iload 5, 2) := by decide +kernel
theorem d27_152 : decode prog_18_method_8_code 152 = .ok (.iastore, 1) := by decide +kernel
theorem d27_153 : decode prog_18_method_8_code 153 = .ok (.aload 8, 2) := by decide +kernel
theorem d27_155 : decode prog_18_method_8_code 155 = .ok (.iload 9, 2) := by decide +kernel
theorem d27_157 : decode prog_18_method_8_code 157 = .ok (.iconst 2, 1) := by decide +kernel
theorem d27_158 : decode prog_18_method_8_code 158 = .ok (.iadd, 1) := by decide +kernel
theorem d27_159 : decode prog_18_method_8_code 159 = .ok (.iconst 2, 1) := by decide +kernel
theorem d27_160 : decode prog_18_method_8_code 160 = .ok (.iadd, 1) := by decide +kernel
theorem d27_161 : decode prog_18_method_8_code 161 = .ok (.iload 6, 2) := by decide +kernel
theorem d27_163 : decode prog_18_method_8_code 163 = .ok (.iastore, 1) := by decide +kernel
theorem d27_164 : decode prog_18_method_8_code 164 = .ok (.aload 8, 2) := by decide +kernel
theorem d27_166 : decode prog_18_method_8_code 166 = .ok (.iconst 0, 1) := by decide +kernel
theorem d27_167 : decode prog_18_method_8_code 167 = .ok (.dup2, 1) := by decide +kernel
theorem d27_168 : decode prog_18_method_8_code 168 = .ok (.iaload, 1) := by decide +kernel
theorem d27_169 : decode prog_18_method_8_code 169 = .ok (.iconst 1, 1) := by decide +kernel
theorem d27_170 : decode prog_18_method_8_code 170 = .ok (.iadd, 1) := by decide +kernel
theorem d27_171 : decode prog_18_method_8_code 171 = .ok (.iastore, 1) := by decide +kernel
theorem d27_172 : decode prog_18_method_8_code 172 = .ok (.aload 8, 2) := by decide +kernel
theorem d27_174 : decode prog_18_method_8_code 174 = .ok (.iload 9, 2) := by decide +kernel
theorem d27_176 : decode prog_18_method_8_code 176 = .ok (.iconst 5, 1) := by decide +kernel
theorem d27_177 : decode prog_18_method_8_code 177 = .ok (.iadd, 1) := by decide +kernel
theorem d27_178 : decode prog_18_method_8_code 178 = .ok (.dup2, 1) := by decide +kernel
theorem d27_179 : decode prog_18_method_8_code 179 = .ok (.iaload, 1) := by decide +kernel
theorem d27_180 : decode prog_18_method_8_code 180 = .ok (.iconst 1, 1) := by decide +kernel
theorem d27_181 : decode prog_18_method_8_code 181 = .ok (.iadd, 1) := by decide +kernel
theorem d27_182 : decode prog_18_method_8_code 182 = .ok (.iastore, 1) := by decide +kernel
theorem d27_183 : decode prog_18_method_8_code 183 = .ok (.return_, 1) := by decide +kernel
theorem ef_ad (m : MethodId) (x0 : Addr) (x1 : Addr) (x2 : Int32) (x3 : Int32) (x4 : Int32) (x5 : Int32) (x6 : Int32) : entryFrame m #[(.ref x0), (.ref x1), (.int x2), (.int x3), (.int x4), (.int x5), (.int x6)] 10 = mkF m 0 #[.val (.ref x0), .val (.ref x1), .val (.int x2), .val (.int x3), .val (.int x4), .val (.int x5), .val (.int x6), .unset, .unset, .unset] [] := by first | (simp [entryFrame, mkF, argsToLocals, Value.category]; done) | rfl
abbrev R_ad : Room := { frames := 7, cells := 3, slots := 28, locals := 116 }
def Qad (Z : State) (a1 : Addr) (a2 : Addr) (p3 : Int32) (p4 : Int32) (p5 : Int32) (p6 : Int32) (p7 : Int32) (aH : Addr) (aR : Addr) (aS : Addr) (kH : ClassId) (kR : ClassId) (kS : ClassId) (bv : Addr) (kb : ClassId) (b0 : Int32) (b1 : Int32) (hv : Int32) (zv : Int32) (cz : Int32) (fmt : Value) (h0 : Heap) (n0 : Nat) (v : Option Value) (h : Heap) (L : List Loc) : Prop := ∃ (n1 : Addr) (kn1 : ClassId), v = none ∧ Fr n0 L ∧ Keep h0 h [a1, a2, aH, aR, aS] ∧ n0 ≤ n1 ∧ h0.size ≤ n1 ∧ Exa Z h a1 KS ∧ Fld Z h a1 KS "hashes" "[I" (.ref aH) ∧ Fld Z h a1 KS "records" "[[I" (.ref aR) ∧ Fld Z h a1 KS "subjects" "[Ljava/lang/String;" (.ref aS) ∧ Fld Z h a1 KS "size" "I" (.int 1) ∧ Exa Z h a2 KJ ∧ Fld Z h a2 KJ "value" "[B" (.ref bv) ∧ Fld Z h a2 KJ "coder" "B" (.int 0) ∧ Fld Z h a2 KJ "hash" "I" (.int (own_hc b0 b1)) ∧ Fld Z h a2 KJ "hashIsZero" "Z" (.int (fhc_hashIsZero b0 b1 hv zv)) ∧ Arh Z h aH kH .int (16 : Int32) [(((own_hh b0 b1) &&& (15 : Int32)), (.int (own_hh b0 b1)))] [] (.int 0) ∧ Arh Z h aR kR (.array .int) (16 : Int32) [(((own_hh b0 b1) &&& (15 : Int32)), (.ref n1))] [] .null ∧ Arh Z h aS kS (.object KJ) (16 : Int32) [(((own_hh b0 b1) &&& (15 : Int32)), (.ref a2))] [] .null ∧ Arv Z h n1 kn1 .int (20 : Int32) [(.int 1), (.int 0), (.int ((own_k1 b0 b1).toInt32)), (.int ((((own_k1 b0 b1).toUInt64 >>> ((32 : Int32) &&& 0x3f).toInt64.toUInt64).toInt64).toInt32)), (.int 0), (.int 0), (.int 0), (.int 0), (.int p3), (.int p4), (.int p5), (.int p6), (.int p7), (.int 1), (.int 0), (.int 0), (.int 0), (.int 0), (.int 0), (.int 0)] (.int 0) ∧ Exa Z h n1 "[I"
set_option maxRecDepth 65536 in
set_option maxHeartbeats 40000000 in
theorem rmad (l : Launch) (Z : State) (a0 : Array Value) (hw : ∀ d ∈ tables_1, d.before a0 Z = true) (ws : List Jvm.Cond) (a1 : Addr) (a2 : Addr) (p3 : Int32) (p4 : Int32) (p5 : Int32) (p6 : Int32) (p7 : Int32) (aH : Addr) (aR : Addr) (aS : Addr) (kH : ClassId) (kR : ClassId) (kS : ClassId) (bv : Addr) (kb : ClassId) (b0 : Int32) (b1 : Int32) (hv : Int32) (zv : Int32) (cz : Int32) (fmt : Value) (h0 : Heap) (n0 : Nat) (Z0 : n0 ≤ h0.size) (E_a1 : Exa Z h0 a1 KS) (F_hashes_a1 : Fld Z h0 a1 KS "hashes" "[I" (.ref aH)) (F_records_a1 : Fld Z h0 a1 KS "records" "[[I" (.ref aR)) (F_subjects_a1 : Fld Z h0 a1 KS "subjects" "[Ljava/lang/String;" (.ref aS)) (F_size_a1 : Fld Z h0 a1 KS "size" "I" (.int 0)) (O0 : Old Z n0 h0) (S_COMPACT_STRINGS : Sta Z Z.heap KJ "COMPACT_STRINGS" "Z" (.int cz)) (hcz : ¬ (cz = (0 : Int32))) (S_SIOOBE_FORMATTER : Sta Z Z.heap "jdk/internal/util/Preconditions" "SIOOBE_FORMATTER" "Ljava/util/function/BiFunction;" fmt) (hfmt : fmt = .null ∨ ∃ a, fmt = .ref a) (E_a2 : Exa Z h0 a2 KJ) (F_value_a2 : Fld Z h0 a2 KJ "value" "[B" (.ref bv)) (F_coder_a2 : Fld Z h0 a2 KJ "coder" "B" (.int 0)) (V_bv : Arv Z h0 bv kb .byte (2 : Int32) [(.int b0), (.int b1)] (.int 0)) (E_bv : Exa Z h0 bv "[B") (F_hash_a2 : Fld Z h0 a2 KJ "hash" "I" (.int hv)) (F_hashIsZero_a2 : Fld Z h0 a2 KJ "hashIsZero" "Z" (.int zv)) (hinv : hv = (own_hc b0 b1) ∨ (hv = (0 : Int32) ∧ zv = (0 : Int32))) (V_aH : Arh Z h0 aH kH .int (16 : Int32) [] [] (.int 0)) (V_aR : Arh Z h0 aR kR (.array .int) (16 : Int32) [] [] .null) (V_aS : Arh Z h0 aS kS (.object KJ) (16 : Int32) [] [] .null) (OV_aR : OvrA Z kR .int "[I") (OV_aS : Ovr Z kS KJ) (g_a1 : n0 ≤ a1) (g_a2 : n0 ≤ a2) (g_aH : n0 ≤ aH) (g_aR : n0 ≤ aR) (g_aS : n0 ≤ aS) (ne_a1_a2 : a1 ≠ a2) (ne_a1_aH : a1 ≠ aH) (ne_a1_aR : a1 ≠ aR) (ne_a1_aS : a1 ≠ aS) (ne_a1_bv : a1 ≠ bv) (ne_a2_aH : a2 ≠ aH) (ne_a2_aR : a2 ≠ aR) (ne_a2_aS : a2 ≠ aS) (ne_a2_bv : a2 ≠ bv) (ne_aH_aR : aH ≠ aR) (ne_aH_aS : aH ≠ aS) (ne_aH_bv : aH ≠ bv) (ne_aR_aS : aR ≠ aS) (ne_aR_bv : aR ≠ bv) (ne_aS_bv : aS ≠ bv) :
    MetFree l (⟨KS, "add", "(Ljava/lang/String;IIIII)V"⟩ : MethodName) (head1 (Jvm.Cond.code (⟨KS, "add", "(Ljava/lang/String;IIIII)V"⟩ : MethodName) prog_18_method_8_code 10 none :: ws) R_ad) (fun a U => a = #[(.ref a1), (.ref a2), (.int p3), (.int p4), (.int p5), (.int p6), (.int p7)] ∧ Z.Warmed39 U.vm ∧ U.heap = h0) (fun _ _ _ _ _ => True) (fun _ U o U' => ∃ v L, o = .returned v ∧ Qad Z a1 a2 p3 p4 p5 p6 p7 aH aR aS kH kR kS bv kb b0 b1 hv zv cz fmt h0 n0 v U'.heap L ∧ FrameEnd U o U' L R_ad.cells R_ad.slots) := by
  refine MetFree.of_bodySF (plainFor_of_name pn_386) hisR ?_
  intro p e s m args below meth c s₁ Bd hml0 hP hK
  obtain ⟨rfl, hZ, hh⟩ := hP
  have hx := Bd.exec
  have hby := Bd.bytes
  have hml : c.maxLocals = 10 := hml0
  have hown : s.vm.findClass KS = some m.cls := findClass_of_methodNamed Bd.named
  have hnm := (name_of_methodNamed Bd.named Bd.method).1
  have X0 : Stand p l e R_ad s m #[(.ref a1), (.ref a2), (.int p3), (.int p4), (.int p5), (.int p6), (.int p7)] below meth c s₁ [] 0 0 := Stand.of_body Bd
  have e0 : s₁.heap = h0 := by rw [← hh, Bd.state]; rfl
  have N0 := Fr.nil n0
  have pre0 : ∀ t, Steps p.tables e below (s₁.setTop (mkF m 0 #[.val (.ref a1), .val (.ref a2), .val (.int p3), .val (.int p4), .val (.int p5), .val (.int p6), .val (.int p7), .unset, .unset, .unset] [])) t → Steps p.tables e below (s₁.setTop (entryFrame m #[(.ref a1), (.ref a2), (.int p3), (.int p4), (.int p5), (.int p6), (.int p7)] 10)) t := fun t k => castTop (ef_ad m a1 a2 p3 p4 p5 p6 p7) k
  -- pc 2: SubjectLines.held by rmhE
  obtain ⟨cq1, qc1, qc1'⟩ := E_a1.cell
  obtain ⟨_, _, ⟨T1, L1, ck1, cn1⟩, -, X1, ⟨Lc1, hQ1, l1, y1, z1⟩, st1⟩ := X0.privateBack hx (y := (⟨KS, "held", "(Ljava/lang/String;)I"⟩ : MethodName)) hown (mvT hZ (own_w hw (i := 156) rfl)) (mvT hZ (own_w hw (i := 157) rfl)) (own_sel (y := (⟨KS, "held", "(Ljava/lang/String;)I"⟩ : MethodName)) (mvT hZ (own_w hw (i := 31) rfl)) (Cond.privateMethod_at (mvP hZ (own_w hw (i := 158) rfl) (args := #[]))) (mvT hZ (own_w hw (i := 157) rfl)) (by decide)) (Cond.privateMethod_at (mvP hZ (own_w hw (i := 158) rfl) (args := #[]))) (mvT hZ (own_w hw (i := 159) rfl)) (by decide) (backOf (W := 0) (rmhE l Z a0 hw [] a1 a2 aH aR aS kH kR kS bv kb b0 b1 hv zv cz fmt h0 n0 Z0 E_a1 F_hashes_a1 F_records_a1 F_subjects_a1 F_size_a1 O0 S_COMPACT_STRINGS hcz S_SIOOBE_FORMATTER hfmt E_a2 F_value_a2 F_coder_a2 V_bv E_bv F_hash_a2 F_hashIsZero_a2 hinv V_aH V_aR V_aS OV_aR OV_aS g_a1 g_a2 g_aH g_aR g_aS ne_a1_a2 ne_a1_aH ne_a1_aR ne_a1_aS ne_a1_bv ne_a2_aH ne_a2_aR ne_a2_aS ne_a2_bv ne_aH_aR ne_aH_aS ne_aH_bv ne_aR_aS ne_aR_bv ne_aS_bv) hZ (own_w hw (i := 159) rfl) (own_w hw (i := 32) rfl) (by decide) (by decide)) (g := (mkF m 2 #[.val (.ref a1), .val (.ref a2), .val (.int p3), .val (.int p4), .val (.int p5), .val (.int p6), .val (.int p7), .unset, .unset, .unset] [(.ref a2), (.ref a1)])) rfl (by rw [hml]; rfl) (Steps.refl _) (a := a1) (by rw [e0]; exact qc1) qc1' (argsL := [(.ref a2)]) (rest := []) (lenOf pd_358 rfl) rfl (by show 2 * 0 + _ ≤ _; exact Nat.le_of_eq rfl) (hb hby d27_2) (fun _ _ => ⟨rfl, e0, (by decide : 0 + 3 ≤ _), (by decide : 0 + 28 ≤ _)⟩)
  dsimp only [Pt.U, Pt.locs, Pt.cells, Pt.slots] at X1 l1 y1 z1 st1 hQ1
  subst y1 z1
  obtain ⟨n1_1, kn1_1, rfl, N1q, K1q, gq1_0, sq1_0, o1_0, o1_1, o1_2, o1_3, o1_4, o1_5, o1_6, o1_7, o1_8, o1_9, o1_10, o1_11, o1_12, o1_13, o1_14⟩ := hQ1
  have N2 : Fr n0 L1 := by rw [l1]; exact Fr.app N0 N1q
  have ne3 : a1 ≠ n1_1 := Nat.ne_of_lt (Nat.lt_of_lt_of_le E_a1.lt sq1_0)
  have ne4 : a2 ≠ n1_1 := Nat.ne_of_lt (Nat.lt_of_lt_of_le E_a2.lt sq1_0)
  have ne6 : aH ≠ n1_1 := Nat.ne_of_lt (Nat.lt_of_lt_of_le V_aH.lt sq1_0)
  have ne7 : aR ≠ n1_1 := Nat.ne_of_lt (Nat.lt_of_lt_of_le V_aR.lt sq1_0)
  have ne8 : aS ≠ n1_1 := Nat.ne_of_lt (Nat.lt_of_lt_of_le V_aS.lt sq1_0)
  have sz_n1_1 : h0.size ≤ n1_1 := Nat.le_trans (Keep.refl h0 [a1, a2, aH, aR, aS]).1 sq1_0
  have zs25 : n0 ≤ T1.heap.size := Nat.le_trans Z0 K1q.1
  have K26 := (Keep.refl h0 [a1, a2, aH, aR, aS]).trans K1q (allS (Or.inl (List.mem_of_getElem? (i := 0) rfl)) (allS (Or.inl (List.mem_of_getElem? (i := 1) rfl)) (allS (Or.inl (List.mem_of_getElem? (i := 2) rfl)) (allS (Or.inl (List.mem_of_getElem? (i := 3) rfl)) (allS (Or.inl (List.mem_of_getElem? (i := 4) rfl)) all0)))))
  obtain ⟨T27, X27, e27, st27⟩ := getF X1 hx hZ hown (host := "") (Or.inl (own_w hw (i := 42) rfl)) Via.refl rfl o1_2 (g := (mkF m 8 #[.val (.ref a1), .val (.ref a2), .val (.int p3), .val (.int p4), .val (.int p5), .val (.int p6), .val (.int p7), .val (.int ((own_hh b0 b1) &&& (15 : Int32))), .unset, .unset] [(.ref a1)])) rfl rfl (hb hby d27_8)
  obtain ⟨car28, Aar28, qar28, Sar28, Nar28, Har28, Gar28⟩ := id o1_11
  have hinar28 : ¬ (((own_hh b0 b1) &&& (15 : Int32)) < 0 ∨ car28.slots.size ≤ (((own_hh b0 b1) &&& (15 : Int32))).toNatClampNeg) := inb_of Sar28 (own_sl _)
  have hatar28 : car28.slots[(((own_hh b0 b1) &&& (15 : Int32))).toNatClampNeg]? = some (.ref n1_1) := atH (hs := [(((own_hh b0 b1) &&& (15 : Int32)), (.ref n1_1))]) (vs := []) (dv := .null) Har28 hinar28 (getH_hit (own_sl _).1 rfl)
  -- pc 26: SubjectLines.place by rmpl
  obtain ⟨_, _, ⟨T29, L29, ck29, cn29⟩, -, X29, ⟨Lc29, hQ29, l29, y29, z29⟩, st29⟩ := Jvm.LawKit.callS X27 hx (y := (⟨KS, "place", "([IIIIII)I"⟩ : MethodName)) hown (mvT hZ (own_w hw (i := 184) rfl)) (mvT hZ (own_w hw (i := 185) rfl)) (mvT hZ (own_w hw (i := 32) rfl)) (mvT hZ (own_w hw (i := 186) rfl)) (by decide) (backOf (W := 0) (rmpl l Z a0 hw [] n1_1 p3 p4 p5 p6 p7 kn1_1 (0 : Int32) (0 : Int32) ((own_k1 b0 b1).toInt32) ((((own_k1 b0 b1).toUInt64 >>> ((32 : Int32) &&& 0x3f).toInt64.toUInt64).toInt64).toInt32) (0 : Int32) (0 : Int32) (0 : Int32) (0 : Int32) (0 : Int32) (0 : Int32) (0 : Int32) (0 : Int32) (0 : Int32) (0 : Int32) (0 : Int32) (0 : Int32) (0 : Int32) (0 : Int32) (0 : Int32) T1.heap n0 zs25 o1_13) hZ (own_w hw (i := 186) rfl) (own_w hw (i := 32) rfl) (by decide) (by decide)) (g := (mkF m 26 #[.val (.ref a1), .val (.ref a2), .val (.int p3), .val (.int p4), .val (.int p5), .val (.int p6), .val (.int p7), .val (.int ((own_hh b0 b1) &&& (15 : Int32))), .val (.ref n1_1), .unset] [(.int p7), (.int p6), (.int p5), (.int p4), (.int p3), (.ref n1_1)])) rfl (by rw [hml]; rfl) (argsL := [(.ref n1_1), (.int p3), (.int p4), (.int p5), (.int p6), (.int p7)]) (rest := []) (lenOf pd_704 rfl) rfl (by show 2 * 0 + _ ≤ _; exact Nat.le_of_eq rfl) (hb hby d27_26) (fun _ _ => ⟨rfl, e27, (by decide : 3 + 0 ≤ _), (by decide : 28 + 0 ≤ _)⟩)
  dsimp only [Pt.U, Pt.locs, Pt.cells, Pt.slots] at X29 l29 y29 z29 st29 hQ29
  subst y29 z29
  obtain ⟨rfl, N29q, e29⟩ := hQ29
  have N30 : Fr n0 L29 := by rw [l29]; exact Fr.app N2 N29q
  obtain ⟨car31, Aar31, qar31, Sar31, Nar31, Har31, Gar31⟩ := id o1_13
  obtain ⟨car32, Aar32, qar32, Sar32, Nar32, Har32, Gar32⟩ := id o1_13
  have hinar32 : ¬ ((8 : Int32) < 0 ∨ car32.slots.size ≤ ((8 : Int32)).toNatClampNeg) := inb_of Sar32 ⟨by decide, by decide⟩
  have hatar32 : car32.slots[((8 : Int32)).toNatClampNeg]? = some (.int 0) := Har32.at hinar32 rfl
  -- pc 49: SubjectLines.isDense by rmden
  obtain ⟨_, _, ⟨T33, L33, ck33, cn33⟩, -, X33, ⟨Lc33, hQ33, l33, y33, z33⟩, st33⟩ := Jvm.LawKit.callS X29 hx (y := (⟨KS, "isDense", "([I)Z"⟩ : MethodName)) hown (mvT hZ (own_w hw (i := 187) rfl)) (mvT hZ (own_w hw (i := 188) rfl)) (mvT hZ (own_w hw (i := 32) rfl)) (mvT hZ (own_w hw (i := 189) rfl)) (by decide) (backOf (W := 0) (rmden l Z a0 hw [] n1_1 kn1_1 (0 : Int32) (0 : Int32) ((own_k1 b0 b1).toInt32) ((((own_k1 b0 b1).toUInt64 >>> ((32 : Int32) &&& 0x3f).toInt64.toUInt64).toInt64).toInt32) (0 : Int32) (0 : Int32) (0 : Int32) (0 : Int32) (0 : Int32) (0 : Int32) (0 : Int32) (0 : Int32) (0 : Int32) (0 : Int32) (0 : Int32) (0 : Int32) (0 : Int32) (0 : Int32) (0 : Int32) (0 : Int32) T1.heap n0 zs25 o1_13) hZ (own_w hw (i := 189) rfl) (own_w hw (i := 32) rfl) (by decide) (by decide)) (g := (mkF m 49 #[.val (.ref a1), .val (.ref a2), .val (.int p3), .val (.int p4), .val (.int p5), .val (.int p6), .val (.int p7), .val (.int ((own_hh b0 b1) &&& (15 : Int32))), .val (.ref n1_1), .val (.int 8)] [(.ref n1_1)])) rfl (by rw [hml]; rfl) (argsL := [(.ref n1_1)]) (rest := []) (lenOf pd_409 rfl) rfl (by show 2 * 0 + _ ≤ _; exact Nat.le_of_eq rfl) (hb hby d27_49) (fun _ _ => ⟨rfl, e29, (by decide : 3 + 0 ≤ _), (by decide : 28 + 0 ≤ _)⟩)
  dsimp only [Pt.U, Pt.locs, Pt.cells, Pt.slots] at X33 l33 y33 z33 st33 hQ33
  subst y33 z33
  obtain ⟨rfl, N33q, e33⟩ := hQ33
  have N34 : Fr n0 L33 := by rw [l33]; exact Fr.app N30 N33q
  obtain ⟨car35, Aar35, qar35, Sar35, Nar35, Har35, Gar35⟩ := id o1_13
  have hinar35 : ¬ ((0 : Int32) < 0 ∨ car35.slots.size ≤ ((0 : Int32)).toNatClampNeg) := inb_of Sar35 ⟨by decide, by decide⟩
  have hatar35 : car35.slots[((0 : Int32)).toNatClampNeg]? = some (.int 0) := Har35.at hinar35 rfl
  -- pc 61: SubjectLines.capacity by rmcap
  obtain ⟨_, _, ⟨T36, L36, ck36, cn36⟩, -, X36, ⟨Lc36, hQ36, l36, y36, z36⟩, st36⟩ := Jvm.LawKit.callS X33 hx (y := (⟨KS, "capacity", "([I)I"⟩ : MethodName)) hown (mvT hZ (own_w hw (i := 190) rfl)) (mvT hZ (own_w hw (i := 191) rfl)) (mvT hZ (own_w hw (i := 32) rfl)) (mvT hZ (own_w hw (i := 192) rfl)) (by decide) (backOf (W := 1) (rmcap l Z a0 hw [] n1_1 kn1_1 (0 : Int32) (0 : Int32) ((own_k1 b0 b1).toInt32) ((((own_k1 b0 b1).toUInt64 >>> ((32 : Int32) &&& 0x3f).toInt64.toUInt64).toInt64).toInt32) (0 : Int32) (0 : Int32) (0 : Int32) (0 : Int32) (0 : Int32) (0 : Int32) (0 : Int32) (0 : Int32) (0 : Int32) (0 : Int32) (0 : Int32) (0 : Int32) (0 : Int32) (0 : Int32) (0 : Int32) (0 : Int32) T1.heap n0 zs25 o1_13) hZ (own_w hw (i := 192) rfl) (own_w hw (i := 32) rfl) (by decide) (by decide)) (g := (mkF m 61 #[.val (.ref a1), .val (.ref a2), .val (.int p3), .val (.int p4), .val (.int p5), .val (.int p6), .val (.int p7), .val (.int ((own_hh b0 b1) &&& (15 : Int32))), .val (.ref n1_1), .val (.int 8)] [(.ref n1_1), (.int 0)])) rfl (by rw [hml]; rfl) (argsL := [(.ref n1_1)]) (rest := [(.int 0)]) (lenOf pd_396 rfl) rfl (by show 2 * 0 + _ ≤ _; exact Nat.le_of_eq rfl) (hb hby d27_61) (fun _ _ => ⟨rfl, e33, (by decide : 3 + 0 ≤ _), (by decide : 28 + 0 ≤ _)⟩)
  dsimp only [Pt.U, Pt.locs, Pt.cells, Pt.slots] at X36 l36 y36 z36 st36 hQ36
  subst y36 z36
  obtain ⟨rfl, N36q, e36⟩ := hQ36
  have N37 : Fr n0 L36 := by rw [l36]; exact Fr.app N34 N36q
  obtain ⟨car38, Aar38, qar38, Sar38, Nar38, Har38, Gar38⟩ := id o1_13
  have hinar38 : ¬ ((8 : Int32) < 0 ∨ car38.slots.size ≤ ((8 : Int32)).toNatClampNeg) := inb_of Sar38 ⟨by decide, by decide⟩
  obtain ⟨T39, h39, X39, e39, W39, st39⟩ := stI X36 hx hZ e36 Aar38 (j := (8 : Int32)) hinar38 (g := (mkF m 124 #[.val (.ref a1), .val (.ref a2), .val (.int p3), .val (.int p4), .val (.int p5), .val (.int p6), .val (.int p7), .val (.int ((own_hh b0 b1) &&& (15 : Int32))), .val (.ref n1_1), .val (.int 8)] [(.int p3), (.int 8), (.ref n1_1)])) rfl rfl (hb hby d27_124)
  have V39 : Arv Z h39 n1_1 kn1_1 .int (20 : Int32) [(.int 0), (.int 0), (.int ((own_k1 b0 b1).toInt32)), (.int ((((own_k1 b0 b1).toUInt64 >>> ((32 : Int32) &&& 0x3f).toInt64.toUInt64).toInt64).toInt32)), (.int 0), (.int 0), (.int 0), (.int 0), (.int p3), (.int 0), (.int 0), (.int 0), (.int 0), (.int 0), (.int 0), (.int 0), (.int 0), (.int 0), (.int 0), (.int 0)] (.int 0) := Arv.set Aar38 qar38 Sar38 Nar38 Har38 Gar38 rfl W39 8 rfl (Nat.le_of_ble_eq_true rfl)
  have f40 := o1_0.wr W39
  have f42 := o1_5.wr W39
  have f45 := o1_1.other W39 (Or.inl ne3)
  have f46 := o1_2.other W39 (Or.inl ne3)
  have f47 := o1_3.other W39 (Or.inl ne3)
  have f48 := o1_4.other W39 (Or.inl ne3)
  have f49 := o1_6.other W39 (Or.inl ne4)
  have f50 := o1_7.other W39 (Or.inl ne4)
  have f51 := o1_8.other W39 (Or.inl ne4)
  have f52 := o1_9.other W39 (Or.inl ne4)
  have f53 := o1_10.other W39 ne6
  have f54 := o1_11.other W39 ne7
  have f55 := o1_12.other W39 ne8
  have f57 := o1_14.wr W39
  have K58 := K26.wr W39 (Or.inr sz_n1_1)
  have N60 := Fr.snoc X39 N37 gq1_0
  obtain ⟨car61, Aar61, qar61, Sar61, Nar61, Har61, Gar61⟩ := id V39
  have hinar61 : ¬ ((9 : Int32) < 0 ∨ car61.slots.size ≤ ((9 : Int32)).toNatClampNeg) := inb_of Sar61 ⟨by decide, by decide⟩
  obtain ⟨T62, h62, X62, e62, W62, st62⟩ := stI X39 hx hZ e39 Aar61 (j := (9 : Int32)) hinar61 (g := (mkF m 132 #[.val (.ref a1), .val (.ref a2), .val (.int p3), .val (.int p4), .val (.int p5), .val (.int p6), .val (.int p7), .val (.int ((own_hh b0 b1) &&& (15 : Int32))), .val (.ref n1_1), .val (.int 8)] [(.int p4), (.int 9), (.ref n1_1)])) rfl rfl (hb hby d27_132)
  have V62 : Arv Z h62 n1_1 kn1_1 .int (20 : Int32) [(.int 0), (.int 0), (.int ((own_k1 b0 b1).toInt32)), (.int ((((own_k1 b0 b1).toUInt64 >>> ((32 : Int32) &&& 0x3f).toInt64.toUInt64).toInt64).toInt32)), (.int 0), (.int 0), (.int 0), (.int 0), (.int p3), (.int p4), (.int 0), (.int 0), (.int 0), (.int 0), (.int 0), (.int 0), (.int 0), (.int 0), (.int 0), (.int 0)] (.int 0) := Arv.set Aar61 qar61 Sar61 Nar61 Har61 Gar61 rfl W62 9 rfl (Nat.le_of_ble_eq_true rfl)
  have f63 := f40.wr W62
  have f65 := f42.wr W62
  have f68 := f45.other W62 (Or.inl ne3)
  have f69 := f46.other W62 (Or.inl ne3)
  have f70 := f47.other W62 (Or.inl ne3)
  have f71 := f48.other W62 (Or.inl ne3)
  have f72 := f49.other W62 (Or.inl ne4)
  have f73 := f50.other W62 (Or.inl ne4)
  have f74 := f51.other W62 (Or.inl ne4)
  have f75 := f52.other W62 (Or.inl ne4)
  have f76 := f53.other W62 ne6
  have f77 := f54.other W62 ne7
  have f78 := f55.other W62 ne8
  have f79 := f57.wr W62
  have K81 := K58.wr W62 (Or.inr sz_n1_1)
  have N83 := Fr.snoc X62 N60 gq1_0
  obtain ⟨car84, Aar84, qar84, Sar84, Nar84, Har84, Gar84⟩ := id V62
  have hinar84 : ¬ ((10 : Int32) < 0 ∨ car84.slots.size ≤ ((10 : Int32)).toNatClampNeg) := inb_of Sar84 ⟨by decide, by decide⟩
  obtain ⟨T85, h85, X85, e85, W85, st85⟩ := stI X62 hx hZ e62 Aar84 (j := (10 : Int32)) hinar84 (g := (mkF m 141 #[.val (.ref a1), .val (.ref a2), .val (.int p3), .val (.int p4), .val (.int p5), .val (.int p6), .val (.int p7), .val (.int ((own_hh b0 b1) &&& (15 : Int32))), .val (.ref n1_1), .val (.int 8)] [(.int p5), (.int 10), (.ref n1_1)])) rfl rfl (hb hby d27_141)
  have V85 : Arv Z h85 n1_1 kn1_1 .int (20 : Int32) [(.int 0), (.int 0), (.int ((own_k1 b0 b1).toInt32)), (.int ((((own_k1 b0 b1).toUInt64 >>> ((32 : Int32) &&& 0x3f).toInt64.toUInt64).toInt64).toInt32)), (.int 0), (.int 0), (.int 0), (.int 0), (.int p3), (.int p4), (.int p5), (.int 0), (.int 0), (.int 0), (.int 0), (.int 0), (.int 0), (.int 0), (.int 0), (.int 0)] (.int 0) := Arv.set Aar84 qar84 Sar84 Nar84 Har84 Gar84 rfl W85 10 rfl (Nat.le_of_ble_eq_true rfl)
  have f86 := f63.wr W85
  have f88 := f65.wr W85
  have f91 := f68.other W85 (Or.inl ne3)
  have f92 := f69.other W85 (Or.inl ne3)
  have f93 := f70.other W85 (Or.inl ne3)
  have f94 := f71.other W85 (Or.inl ne3)
  have f95 := f72.other W85 (Or.inl ne4)
  have f96 := f73.other W85 (Or.inl ne4)
  have f97 := f74.other W85 (Or.inl ne4)
  have f98 := f75.other W85 (Or.inl ne4)
  have f99 := f76.other W85 ne6
  have f100 := f77.other W85 ne7
  have f101 := f78.other W85 ne8
  have f102 := f79.wr W85
  have K104 := K81.wr W85 (Or.inr sz_n1_1)
  have N106 := Fr.snoc X85 N83 gq1_0
  obtain ⟨car107, Aar107, qar107, Sar107, Nar107, Har107, Gar107⟩ := id V85
  have hinar107 : ¬ ((11 : Int32) < 0 ∨ car107.slots.size ≤ ((11 : Int32)).toNatClampNeg) := inb_of Sar107 ⟨by decide, by decide⟩
  obtain ⟨T108, h108, X108, e108, W108, st108⟩ := stI X85 hx hZ e85 Aar107 (j := (11 : Int32)) hinar107 (g := (mkF m 152 #[.val (.ref a1), .val (.ref a2), .val (.int p3), .val (.int p4), .val (.int p5), .val (.int p6), .val (.int p7), .val (.int ((own_hh b0 b1) &&& (15 : Int32))), .val (.ref n1_1), .val (.int 8)] [(.int p6), (.int 11), (.ref n1_1)])) rfl rfl (hb hby d27_152)
  have V108 : Arv Z h108 n1_1 kn1_1 .int (20 : Int32) [(.int 0), (.int 0), (.int ((own_k1 b0 b1).toInt32)), (.int ((((own_k1 b0 b1).toUInt64 >>> ((32 : Int32) &&& 0x3f).toInt64.toUInt64).toInt64).toInt32)), (.int 0), (.int 0), (.int 0), (.int 0), (.int p3), (.int p4), (.int p5), (.int p6), (.int 0), (.int 0), (.int 0), (.int 0), (.int 0), (.int 0), (.int 0), (.int 0)] (.int 0) := Arv.set Aar107 qar107 Sar107 Nar107 Har107 Gar107 rfl W108 11 rfl (Nat.le_of_ble_eq_true rfl)
  have f109 := f86.wr W108
  have f111 := f88.wr W108
  have f114 := f91.other W108 (Or.inl ne3)
  have f115 := f92.other W108 (Or.inl ne3)
  have f116 := f93.other W108 (Or.inl ne3)
  have f117 := f94.other W108 (Or.inl ne3)
  have f118 := f95.other W108 (Or.inl ne4)
  have f119 := f96.other W108 (Or.inl ne4)
  have f120 := f97.other W108 (Or.inl ne4)
  have f121 := f98.other W108 (Or.inl ne4)
  have f122 := f99.other W108 ne6
  have f123 := f100.other W108 ne7
  have f124 := f101.other W108 ne8
  have f125 := f102.wr W108
  have K127 := K104.wr W108 (Or.inr sz_n1_1)
  have N129 := Fr.snoc X108 N106 gq1_0
  obtain ⟨car130, Aar130, qar130, Sar130, Nar130, Har130, Gar130⟩ := id V108
  have hinar130 : ¬ ((12 : Int32) < 0 ∨ car130.slots.size ≤ ((12 : Int32)).toNatClampNeg) := inb_of Sar130 ⟨by decide, by decide⟩
  obtain ⟨T131, h131, X131, e131, W131, st131⟩ := stI X108 hx hZ e108 Aar130 (j := (12 : Int32)) hinar130 (g := (mkF m 163 #[.val (.ref a1), .val (.ref a2), .val (.int p3), .val (.int p4), .val (.int p5), .val (.int p6), .val (.int p7), .val (.int ((own_hh b0 b1) &&& (15 : Int32))), .val (.ref n1_1), .val (.int 8)] [(.int p7), (.int 12), (.ref n1_1)])) rfl rfl (hb hby d27_163)
  have V131 : Arv Z h131 n1_1 kn1_1 .int (20 : Int32) [(.int 0), (.int 0), (.int ((own_k1 b0 b1).toInt32)), (.int ((((own_k1 b0 b1).toUInt64 >>> ((32 : Int32) &&& 0x3f).toInt64.toUInt64).toInt64).toInt32)), (.int 0), (.int 0), (.int 0), (.int 0), (.int p3), (.int p4), (.int p5), (.int p6), (.int p7), (.int 0), (.int 0), (.int 0), (.int 0), (.int 0), (.int 0), (.int 0)] (.int 0) := Arv.set Aar130 qar130 Sar130 Nar130 Har130 Gar130 rfl W131 12 rfl (Nat.le_of_ble_eq_true rfl)
  have f132 := f109.wr W131
  have f134 := f111.wr W131
  have f137 := f114.other W131 (Or.inl ne3)
  have f138 := f115.other W131 (Or.inl ne3)
  have f139 := f116.other W131 (Or.inl ne3)
  have f140 := f117.other W131 (Or.inl ne3)
  have f141 := f118.other W131 (Or.inl ne4)
  have f142 := f119.other W131 (Or.inl ne4)
  have f143 := f120.other W131 (Or.inl ne4)
  have f144 := f121.other W131 (Or.inl ne4)
  have f145 := f122.other W131 ne6
  have f146 := f123.other W131 ne7
  have f147 := f124.other W131 ne8
  have f148 := f125.wr W131
  have K150 := K127.wr W131 (Or.inr sz_n1_1)
  have N152 := Fr.snoc X131 N129 gq1_0
  obtain ⟨car153, Aar153, qar153, Sar153, Nar153, Har153, Gar153⟩ := id V131
  have hinar153 : ¬ ((0 : Int32) < 0 ∨ car153.slots.size ≤ ((0 : Int32)).toNatClampNeg) := inb_of Sar153 ⟨by decide, by decide⟩
  have hatar153 : car153.slots[((0 : Int32)).toNatClampNeg]? = some (.int 0) := Har153.at hinar153 rfl
  obtain ⟨car154, Aar154, qar154, Sar154, Nar154, Har154, Gar154⟩ := id V131
  have hinar154 : ¬ ((0 : Int32) < 0 ∨ car154.slots.size ≤ ((0 : Int32)).toNatClampNeg) := inb_of Sar154 ⟨by decide, by decide⟩
  obtain ⟨T155, h155, X155, e155, W155, st155⟩ := stI X131 hx hZ e131 Aar154 (j := (0 : Int32)) hinar154 (g := (mkF m 171 #[.val (.ref a1), .val (.ref a2), .val (.int p3), .val (.int p4), .val (.int p5), .val (.int p6), .val (.int p7), .val (.int ((own_hh b0 b1) &&& (15 : Int32))), .val (.ref n1_1), .val (.int 8)] [(.int 1), (.int 0), (.ref n1_1)])) rfl rfl (hb hby d27_171)
  have V155 : Arv Z h155 n1_1 kn1_1 .int (20 : Int32) [(.int 1), (.int 0), (.int ((own_k1 b0 b1).toInt32)), (.int ((((own_k1 b0 b1).toUInt64 >>> ((32 : Int32) &&& 0x3f).toInt64.toUInt64).toInt64).toInt32)), (.int 0), (.int 0), (.int 0), (.int 0), (.int p3), (.int p4), (.int p5), (.int p6), (.int p7), (.int 0), (.int 0), (.int 0), (.int 0), (.int 0), (.int 0), (.int 0)] (.int 0) := Arv.set Aar154 qar154 Sar154 Nar154 Har154 Gar154 rfl W155 0 rfl (Nat.le_of_ble_eq_true rfl)
  have f156 := f132.wr W155
  have f158 := f134.wr W155
  have f161 := f137.other W155 (Or.inl ne3)
  have f162 := f138.other W155 (Or.inl ne3)
  have f163 := f139.other W155 (Or.inl ne3)
  have f164 := f140.other W155 (Or.inl ne3)
  have f165 := f141.other W155 (Or.inl ne4)
  have f166 := f142.other W155 (Or.inl ne4)
  have f167 := f143.other W155 (Or.inl ne4)
  have f168 := f144.other W155 (Or.inl ne4)
  have f169 := f145.other W155 ne6
  have f170 := f146.other W155 ne7
  have f171 := f147.other W155 ne8
  have f172 := f148.wr W155
  have K174 := K150.wr W155 (Or.inr sz_n1_1)
  have N176 := Fr.snoc X155 N152 gq1_0
  obtain ⟨car177, Aar177, qar177, Sar177, Nar177, Har177, Gar177⟩ := id V155
  have hinar177 : ¬ ((13 : Int32) < 0 ∨ car177.slots.size ≤ ((13 : Int32)).toNatClampNeg) := inb_of Sar177 ⟨by decide, by decide⟩
  have hatar177 : car177.slots[((13 : Int32)).toNatClampNeg]? = some (.int 0) := Har177.at hinar177 rfl
  obtain ⟨car178, Aar178, qar178, Sar178, Nar178, Har178, Gar178⟩ := id V155
  have hinar178 : ¬ ((13 : Int32) < 0 ∨ car178.slots.size ≤ ((13 : Int32)).toNatClampNeg) := inb_of Sar178 ⟨by decide, by decide⟩
  obtain ⟨T179, h179, X179, e179, W179, st179⟩ := stI X155 hx hZ e155 Aar178 (j := (13 : Int32)) hinar178 (g := (mkF m 182 #[.val (.ref a1), .val (.ref a2), .val (.int p3), .val (.int p4), .val (.int p5), .val (.int p6), .val (.int p7), .val (.int ((own_hh b0 b1) &&& (15 : Int32))), .val (.ref n1_1), .val (.int 8)] [(.int 1), (.int 13), (.ref n1_1)])) rfl rfl (hb hby d27_182)
  have V179 : Arv Z h179 n1_1 kn1_1 .int (20 : Int32) [(.int 1), (.int 0), (.int ((own_k1 b0 b1).toInt32)), (.int ((((own_k1 b0 b1).toUInt64 >>> ((32 : Int32) &&& 0x3f).toInt64.toUInt64).toInt64).toInt32)), (.int 0), (.int 0), (.int 0), (.int 0), (.int p3), (.int p4), (.int p5), (.int p6), (.int p7), (.int 1), (.int 0), (.int 0), (.int 0), (.int 0), (.int 0), (.int 0)] (.int 0) := Arv.set Aar178 qar178 Sar178 Nar178 Har178 Gar178 rfl W179 13 rfl (Nat.le_of_ble_eq_true rfl)
  have f180 := f156.wr W179
  have f182 := f158.wr W179
  have f185 := f161.other W179 (Or.inl ne3)
  have f186 := f162.other W179 (Or.inl ne3)
  have f187 := f163.other W179 (Or.inl ne3)
  have f188 := f164.other W179 (Or.inl ne3)
  have f189 := f165.other W179 (Or.inl ne4)
  have f190 := f166.other W179 (Or.inl ne4)
  have f191 := f167.other W179 (Or.inl ne4)
  have f192 := f168.other W179 (Or.inl ne4)
  have f193 := f169.other W179 ne6
  have f194 := f170.other W179 ne7
  have f195 := f171.other W179 ne8
  have f196 := f172.wr W179
  have K198 := K174.wr W179 (Or.inr sz_n1_1)
  have N200 := Fr.snoc X179 N176 gq1_0
  obtain ⟨fs, hr, hrun, hended, hW, hsame⟩ := X179.leave (v := none) (fun _ => rfl) Bd.notSynchronized
  refine ⟨_, _, pre0 _ ?_, hrun, hended, _, _, rfl, ?_, ⟨_, rfl⟩, hW, hsame.mono (by decide) (by decide)⟩
  · show Steps p.tables e below (s₁.setTop (mkF m 0 #[.val (.ref a1), .val (.ref a2), .val (.int p3), .val (.int p4), .val (.int p5), .val (.int p6), .val (.int p7), .unset, .unset, .unset] [])) _
    refine XS.aloadN X0.here hx rfl (hb hby d27_0) rfl rfl ?_
    refine XS.aloadN X0.here hx rfl (hb hby d27_1) rfl rfl ?_
    refine st1.trans ?_
    refine XS.istore X1.here hx rfl (hb hby d27_5) rfl (l' := #[.val (.ref a1), .val (.ref a2), .val (.int p3), .val (.int p4), .val (.int p5), .val (.int p6), .val (.int p7), .val (.int ((own_hh b0 b1) &&& (15 : Int32))), .unset, .unset]) rfl ?_
    refine XS.aloadN X1.here hx rfl (hb hby d27_7) rfl rfl ?_
    refine st27 _ ?_
    refine XS.iload X27.here hx rfl (hb hby d27_11) rfl ?_
    refine X27.aaload hx (j := ((own_hh b0 b1) &&& (15 : Int32))) (v := (.ref n1_1)) (by rw [e27]; exact Aar28.1) (State.isArrayOf_alike hZ.alike Aar28.2.1) rfl Aar28.2.2 hinar28 hatar28 (g := (mkF m 13 #[.val (.ref a1), .val (.ref a2), .val (.int p3), .val (.int p4), .val (.int p5), .val (.int p6), .val (.int p7), .val (.int ((own_hh b0 b1) &&& (15 : Int32))), .unset, .unset] [(.int ((own_hh b0 b1) &&& (15 : Int32))), (.ref aR)])) rfl rfl (hb hby d27_13) _ ?_
    show Steps p.tables e below (T27.setTop (mkF m 14 #[.val (.ref a1), .val (.ref a2), .val (.int p3), .val (.int p4), .val (.int p5), .val (.int p6), .val (.int p7), .val (.int ((own_hh b0 b1) &&& (15 : Int32))), .unset, .unset] [(.ref n1_1)])) _
    refine XS.astore X27.here hx rfl (hb hby d27_14) rfl rfl (l' := #[.val (.ref a1), .val (.ref a2), .val (.int p3), .val (.int p4), .val (.int p5), .val (.int p6), .val (.int p7), .val (.int ((own_hh b0 b1) &&& (15 : Int32))), .val (.ref n1_1), .unset]) rfl ?_
    refine XS.aload X27.here hx rfl (hb hby d27_16) rfl rfl ?_
    refine XS.iloadN X27.here hx rfl (hb hby d27_18) rfl ?_
    refine XS.iloadN X27.here hx rfl (hb hby d27_19) rfl ?_
    refine XS.iload X27.here hx rfl (hb hby d27_20) rfl ?_
    refine XS.iload X27.here hx rfl (hb hby d27_22) rfl ?_
    refine XS.iload X27.here hx rfl (hb hby d27_24) rfl ?_
    refine st29 _ ?_
    show Steps p.tables e below (T29.setTop (mkF m 29 #[.val (.ref a1), .val (.ref a2), .val (.int p3), .val (.int p4), .val (.int p5), .val (.int p6), .val (.int p7), .val (.int ((own_hh b0 b1) &&& (15 : Int32))), .val (.ref n1_1), .unset] [(.int 8)])) _
    refine XS.istore X29.here hx rfl (hb hby d27_29) rfl (l' := #[.val (.ref a1), .val (.ref a2), .val (.int p3), .val (.int p4), .val (.int p5), .val (.int p6), .val (.int p7), .val (.int ((own_hh b0 b1) &&& (15 : Int32))), .val (.ref n1_1), .val (.int 8)]) rfl ?_
    refine XS.iload X29.here hx rfl (hb hby d27_31) rfl ?_
    refine XS.aload X29.here hx rfl (hb hby d27_33) rfl rfl ?_
    refine X29.arraylength hx (by rw [e29]; exact Aar31.1) (State.isArrayOf_alike hZ.alike Aar31.2.1) (g := (mkF m 35 #[.val (.ref a1), .val (.ref a2), .val (.int p3), .val (.int p4), .val (.int p5), .val (.int p6), .val (.int p7), .val (.int ((own_hh b0 b1) &&& (15 : Int32))), .val (.ref n1_1), .val (.int 8)] [(.ref n1_1), (.int 8)])) rfl rfl (hb hby d27_35) _ ?_
    rw [len_of Sar31 Nar31]
    show Steps p.tables e below (T29.setTop (mkF m 36 #[.val (.ref a1), .val (.ref a2), .val (.int p3), .val (.int p4), .val (.int p5), .val (.int p6), .val (.int p7), .val (.int ((own_hh b0 b1) &&& (15 : Int32))), .val (.ref n1_1), .val (.int 8)] [(.int 20), (.int 8)])) _
    refine XS.icmpNo X29.here hx rfl (hb hby d27_36) rfl (feq (by decide : ¬ ((8 : Int32) = (20 : Int32)))).1 ?_
    refine XS.aload X29.here hx rfl (hb hby d27_39) rfl rfl ?_
    refine XS.iload X29.here hx rfl (hb hby d27_41) rfl ?_
    refine X29.iaload hx (j := (8 : Int32)) (v := (.int 0)) (by rw [e29]; exact Aar32.1) (State.isArrayOf_alike hZ.alike Aar32.2.1) Aar32.2.2 hinar32 hatar32 (g := (mkF m 43 #[.val (.ref a1), .val (.ref a2), .val (.int p3), .val (.int p4), .val (.int p5), .val (.int p6), .val (.int p7), .val (.int ((own_hh b0 b1) &&& (15 : Int32))), .val (.ref n1_1), .val (.int 8)] [(.int 8), (.ref n1_1)])) rfl rfl (hb hby d27_43) _ ?_
    show Steps p.tables e below (T29.setTop (mkF m 44 #[.val (.ref a1), .val (.ref a2), .val (.int p3), .val (.int p4), .val (.int p5), .val (.int p6), .val (.int p7), .val (.int ((own_hh b0 b1) &&& (15 : Int32))), .val (.ref n1_1), .val (.int 8)] [(.int 0)])) _
    refine XS.ifNo X29.here hx rfl (hb hby d27_44) rfl ((if0 _ _).trans (teq (by decide : (0 : Int32) = (0 : Int32))).2) ?_
    refine XS.aload X29.here hx rfl (hb hby d27_47) rfl rfl ?_
    refine st33 _ ?_
    show Steps p.tables e below (T33.setTop (mkF m 52 #[.val (.ref a1), .val (.ref a2), .val (.int p3), .val (.int p4), .val (.int p5), .val (.int p6), .val (.int p7), .val (.int ((own_hh b0 b1) &&& (15 : Int32))), .val (.ref n1_1), .val (.int 8)] [(.int 1)])) _
    refine XS.ifNo X33.here hx rfl (hb hby d27_52) rfl ((if0 _ _).trans (feq (by decide : ¬ ((1 : Int32) = (0 : Int32)))).1) ?_
    refine XS.aload X33.here hx rfl (hb hby d27_55) rfl rfl ?_
    refine XS.iconst X33.here hx rfl (hb hby d27_57) ?_
    refine X33.iaload hx (j := (0 : Int32)) (v := (.int 0)) (by rw [e33]; exact Aar35.1) (State.isArrayOf_alike hZ.alike Aar35.2.1) Aar35.2.2 hinar35 hatar35 (g := (mkF m 58 #[.val (.ref a1), .val (.ref a2), .val (.int p3), .val (.int p4), .val (.int p5), .val (.int p6), .val (.int p7), .val (.int ((own_hh b0 b1) &&& (15 : Int32))), .val (.ref n1_1), .val (.int 8)] [(.int 0), (.ref n1_1)])) rfl rfl (hb hby d27_58) _ ?_
    refine XS.aload X33.here hx rfl (hb hby d27_59) rfl rfl ?_
    show Steps p.tables e below (T33.setTop (mkF m 61 #[.val (.ref a1), .val (.ref a2), .val (.int p3), .val (.int p4), .val (.int p5), .val (.int p6), .val (.int p7), .val (.int ((own_hh b0 b1) &&& (15 : Int32))), .val (.ref n1_1), .val (.int 8)] [(.ref n1_1), (.int 0)])) _
    refine st36 _ ?_
    show Steps p.tables e below (T36.setTop (mkF m 64 #[.val (.ref a1), .val (.ref a2), .val (.int p3), .val (.int p4), .val (.int p5), .val (.int p6), .val (.int p7), .val (.int ((own_hh b0 b1) &&& (15 : Int32))), .val (.ref n1_1), .val (.int 8)] [(.int 2), (.int 0)])) _
    refine XS.icmpYes X36.here hx rfl (pc0 := 64) (pc' := 119) rfl (hb hby d27_64) rfl (feq (by decide : ¬ ((0 : Int32) = (2 : Int32)))).2 (by decide) (by decide) ?_
    refine XS.aload X36.here hx rfl (hb hby d27_119) rfl rfl ?_
    refine XS.iload X36.here hx rfl (hb hby d27_121) rfl ?_
    refine XS.iloadN X36.here hx rfl (hb hby d27_123) rfl ?_
    refine st39 _ ?_
    refine XS.aload X39.here hx rfl (hb hby d27_125) rfl rfl ?_
    refine XS.iload X39.here hx rfl (hb hby d27_127) rfl ?_
    show Steps p.tables e below (T39.setTop (mkF m 129 #[.val (.ref a1), .val (.ref a2), .val (.int p3), .val (.int p4), .val (.int p5), .val (.int p6), .val (.int p7), .val (.int ((own_hh b0 b1) &&& (15 : Int32))), .val (.ref n1_1), .val (.int 8)] [(.int 8), (.ref n1_1)])) _
    refine XS.iconst X39.here hx rfl (hb hby d27_129) ?_
    refine XS.iadd X39.here hx rfl (hb hby d27_130) rfl ?_
    refine XS.iloadN X39.here hx rfl (hb hby d27_131) rfl ?_
    refine st62 _ ?_
    refine XS.aload X62.here hx rfl (hb hby d27_133) rfl rfl ?_
    refine XS.iload X62.here hx rfl (hb hby d27_135) rfl ?_
    refine XS.iconst X62.here hx rfl (hb hby d27_137) ?_
    refine XS.iadd X62.here hx rfl (hb hby d27_138) rfl ?_
    show Steps p.tables e below (T62.setTop (mkF m 139 #[.val (.ref a1), .val (.ref a2), .val (.int p3), .val (.int p4), .val (.int p5), .val (.int p6), .val (.int p7), .val (.int ((own_hh b0 b1) &&& (15 : Int32))), .val (.ref n1_1), .val (.int 8)] [(.int 10), (.ref n1_1)])) _
    refine XS.iload X62.here hx rfl (hb hby d27_139) rfl ?_
    refine st85 _ ?_
    refine XS.aload X85.here hx rfl (hb hby d27_142) rfl rfl ?_
    refine XS.iload X85.here hx rfl (hb hby d27_144) rfl ?_
    refine XS.iconst X85.here hx rfl (hb hby d27_146) ?_
    refine XS.iadd X85.here hx rfl (hb hby d27_147) rfl ?_
    refine XS.iconst X85.here hx rfl (hb hby d27_148) ?_
    refine XS.iadd X85.here hx rfl (hb hby d27_149) rfl ?_
    show Steps p.tables e below (T85.setTop (mkF m 150 #[.val (.ref a1), .val (.ref a2), .val (.int p3), .val (.int p4), .val (.int p5), .val (.int p6), .val (.int p7), .val (.int ((own_hh b0 b1) &&& (15 : Int32))), .val (.ref n1_1), .val (.int 8)] [(.int 11), (.ref n1_1)])) _
    refine XS.iload X85.here hx rfl (hb hby d27_150) rfl ?_
    refine st108 _ ?_
    refine XS.aload X108.here hx rfl (hb hby d27_153) rfl rfl ?_
    refine XS.iload X108.here hx rfl (hb hby d27_155) rfl ?_
    refine XS.iconst X108.here hx rfl (hb hby d27_157) ?_
    refine XS.iadd X108.here hx rfl (hb hby d27_158) rfl ?_
    refine XS.iconst X108.here hx rfl (hb hby d27_159) ?_
    refine XS.iadd X108.here hx rfl (hb hby d27_160) rfl ?_
    show Steps p.tables e below (T108.setTop (mkF m 161 #[.val (.ref a1), .val (.ref a2), .val (.int p3), .val (.int p4), .val (.int p5), .val (.int p6), .val (.int p7), .val (.int ((own_hh b0 b1) &&& (15 : Int32))), .val (.ref n1_1), .val (.int 8)] [(.int 12), (.ref n1_1)])) _
    refine XS.iload X108.here hx rfl (hb hby d27_161) rfl ?_
    refine st131 _ ?_
    refine XS.aload X131.here hx rfl (hb hby d27_164) rfl rfl ?_
    refine XS.iconst X131.here hx rfl (hb hby d27_166) ?_
    refine Jvm.Free.XT.dup2 X131.here hx rfl (hb hby d27_167) rfl rfl rfl ?_
    refine X131.iaload hx (j := (0 : Int32)) (v := (.int 0)) (by rw [e131]; exact Aar153.1) (State.isArrayOf_alike hZ.alike Aar153.2.1) Aar153.2.2 hinar153 hatar153 (g := (mkF m 168 #[.val (.ref a1), .val (.ref a2), .val (.int p3), .val (.int p4), .val (.int p5), .val (.int p6), .val (.int p7), .val (.int ((own_hh b0 b1) &&& (15 : Int32))), .val (.ref n1_1), .val (.int 8)] [(.int 0), (.ref n1_1), (.int 0), (.ref n1_1)])) rfl rfl (hb hby d27_168) _ ?_
    refine XS.iconst X131.here hx rfl (hb hby d27_169) ?_
    refine XS.iadd X131.here hx rfl (hb hby d27_170) rfl ?_
    show Steps p.tables e below (T131.setTop (mkF m 171 #[.val (.ref a1), .val (.ref a2), .val (.int p3), .val (.int p4), .val (.int p5), .val (.int p6), .val (.int p7), .val (.int ((own_hh b0 b1) &&& (15 : Int32))), .val (.ref n1_1), .val (.int 8)] [(.int 1), (.int 0), (.ref n1_1)])) _
    refine st155 _ ?_
    refine XS.aload X155.here hx rfl (hb hby d27_172) rfl rfl ?_
    refine XS.iload X155.here hx rfl (hb hby d27_174) rfl ?_
    refine XS.iconst X155.here hx rfl (hb hby d27_176) ?_
    refine XS.iadd X155.here hx rfl (hb hby d27_177) rfl ?_
    refine Jvm.Free.XT.dup2 X155.here hx rfl (hb hby d27_178) rfl rfl rfl ?_
    refine X155.iaload hx (j := (13 : Int32)) (v := (.int 0)) (by rw [e155]; exact Aar177.1) (State.isArrayOf_alike hZ.alike Aar177.2.1) Aar177.2.2 hinar177 hatar177 (g := (mkF m 179 #[.val (.ref a1), .val (.ref a2), .val (.int p3), .val (.int p4), .val (.int p5), .val (.int p6), .val (.int p7), .val (.int ((own_hh b0 b1) &&& (15 : Int32))), .val (.ref n1_1), .val (.int 8)] [(.int 13), (.ref n1_1), (.int 13), (.ref n1_1)])) rfl rfl (hb hby d27_179) _ ?_
    refine XS.iconst X155.here hx rfl (hb hby d27_180) ?_
    show Steps p.tables e below (T155.setTop (mkF m 181 #[.val (.ref a1), .val (.ref a2), .val (.int p3), .val (.int p4), .val (.int p5), .val (.int p6), .val (.int p7), .val (.int ((own_hh b0 b1) &&& (15 : Int32))), .val (.ref n1_1), .val (.int 8)] [(.int 1), (.int 0), (.int 13), (.ref n1_1)])) _
    refine XS.iadd X155.here hx rfl (hb hby d27_181) rfl ?_
    refine st179 _ ?_
    exact X179.returnOut hx Bd.returns (hb hby d27_183) hr
  · show Qad Z a1 a2 p3 p4 p5 p6 p7 aH aR aS kH kR kS bv kb b0 b1 hv zv cz fmt h0 n0 _ T179.heap _
    rw [e179]
    exact ⟨n1_1, kn1_1, rfl, N200, K198, gq1_0, sz_n1_1, f180, f185, f186, f187, f188, f182, f189, f190, f191, f192, f193, f194, f195, V179, f196⟩
theorem d8_0 : decode prog_18_method_7_code 0 = .ok (.iload_n 2, 1) := by decide +kernel
theorem d8_1 : decode prog_18_method_7_code 1 = .ok (.ifCond .eq 7, 3) := by decide +kernel
theorem d8_8 : decode prog_18_method_7_code 8 = .ok (.iconst 0, 1) := by decide +kernel
theorem d8_9 : decode prog_18_method_7_code 9 = .ok (.iload_n 3, 1) := by decide +kernel
theorem d8_10 : decode prog_18_method_7_code 10 = .ok (.ifCond .eq 7, 3) := by decide +kernel
theorem d8_17 : decode prog_18_method_7_code 17 = .ok (.iconst 1, 1) := by decide +kernel
theorem d8_18 : decode prog_18_method_7_code 18 = .ok (.ior, 1) := by decide +kernel
theorem d8_19 : decode prog_18_method_7_code 19 = .ok (.istore 4, 2) := by decide +kernel
theorem d8_21 : decode prog_18_method_7_code 21 = .ok (.iload 4, 2) := by decide +kernel
theorem d8_23 : decode prog_18_method_7_code 23 = .ok (.ifCond .eq 21, 3) := by decide +kernel
theorem d8_26 : decode prog_18_method_7_code 26 = .ok (.aload_n 0, 1) := by decide +kernel
theorem d8_27 : decode prog_18_method_7_code 27 = .ok (.aload_n 1, 1) := by decide +kernel
theorem d8_28 : decode prog_18_method_7_code 28 = .ok (.invokevirtual 57, 3) := by decide +kernel
theorem d8_31 : decode prog_18_method_7_code 31 = .ok (.istore 5, 2) := by decide +kernel
theorem d8_33 : decode prog_18_method_7_code 33 = .ok (.aload_n 0, 1) := by decide +kernel
theorem d8_34 : decode prog_18_method_7_code 34 = .ok (.getfield 14, 3) := by decide +kernel
theorem d8_37 : decode prog_18_method_7_code 37 = .ok (.iload 5, 2) := by decide +kernel
theorem d8_39 : decode prog_18_method_7_code 39 = .ok (.aaload, 1) := by decide +kernel
theorem d8_40 : decode prog_18_method_7_code 40 = .ok (.iconst 1, 1) := by decide +kernel
theorem d8_41 : decode prog_18_method_7_code 41 = .ok (.iload 4, 2) := by decide +kernel
theorem d8_43 : decode prog_18_method_7_code 43 = .ok (.iastore, 1) := by decide +kernel
theorem d8_44 : decode prog_18_method_7_code 44 = .ok (.return_, 1) := by decide +kernel
theorem ef_sE00 (m : MethodId) (x0 : Addr) (x1 : Addr) (x2 : Int32) (x3 : Int32) : entryFrame m #[(.ref x0), (.ref x1), (.int x2), (.int x3)] 6 = mkF m 0 #[.val (.ref x0), .val (.ref x1), .val (.int x2), .val (.int x3), .unset, .unset] [] := by first | (simp [entryFrame, mkF, argsToLocals, Value.category]; done) | rfl
abbrev R_sE00 : Room := { frames := 7, cells := 3, slots := 28, locals := 116 }
def QsE00 (Z : State) (a1 : Addr) (a2 : Addr) (aH : Addr) (aR : Addr) (aS : Addr) (kH : ClassId) (kR : ClassId) (kS : ClassId) (bv : Addr) (kb : ClassId) (b0 : Int32) (b1 : Int32) (hv : Int32) (zv : Int32) (cz : Int32) (fmt : Value) (h0 : Heap) (n0 : Nat) (v : Option Value) (h : Heap) (L : List Loc) : Prop := ∃ (n1 : Addr) (kn1 : ClassId), v = none ∧ Fr n0 L ∧ Keep h0 h [a1, a2, aH, aR, aS] ∧ n0 ≤ n1 ∧ h0.size ≤ n1 ∧ Exa Z h a1 KS ∧ Fld Z h a1 KS "hashes" "[I" (.ref aH) ∧ Fld Z h a1 KS "records" "[[I" (.ref aR) ∧ Fld Z h a1 KS "subjects" "[Ljava/lang/String;" (.ref aS) ∧ Fld Z h a1 KS "size" "I" (.int 1) ∧ Exa Z h a2 KJ ∧ Fld Z h a2 KJ "value" "[B" (.ref bv) ∧ Fld Z h a2 KJ "coder" "B" (.int 0) ∧ Fld Z h a2 KJ "hash" "I" (.int (own_hc b0 b1)) ∧ Fld Z h a2 KJ "hashIsZero" "Z" (.int (fhc_hashIsZero b0 b1 hv zv)) ∧ Arh Z h aH kH .int (16 : Int32) [(((own_hh b0 b1) &&& (15 : Int32)), (.int (own_hh b0 b1)))] [] (.int 0) ∧ Arh Z h aR kR (.array .int) (16 : Int32) [(((own_hh b0 b1) &&& (15 : Int32)), (.ref n1))] [] .null ∧ Arh Z h aS kS (.object KJ) (16 : Int32) [(((own_hh b0 b1) &&& (15 : Int32)), (.ref a2))] [] .null ∧ Arv Z h n1 kn1 .int (20 : Int32) [(.int 0), (.int 1), (.int ((own_k1 b0 b1).toInt32)), (.int ((((own_k1 b0 b1).toUInt64 >>> ((32 : Int32) &&& 0x3f).toInt64.toUInt64).toInt64).toInt32)), (.int 0), (.int 0), (.int 0), (.int 0), (.int 0), (.int 0), (.int 0), (.int 0), (.int 0), (.int 0), (.int 0), (.int 0), (.int 0), (.int 0), (.int 0), (.int 0)] (.int 0) ∧ Exa Z h n1 "[I"
set_option maxRecDepth 65536 in
set_option maxHeartbeats 40000000 in
theorem rmsE00 (l : Launch) (Z : State) (a0 : Array Value) (hw : ∀ d ∈ tables_1, d.before a0 Z = true) (ws : List Jvm.Cond) (a1 : Addr) (a2 : Addr) (aH : Addr) (aR : Addr) (aS : Addr) (kH : ClassId) (kR : ClassId) (kS : ClassId) (bv : Addr) (kb : ClassId) (b0 : Int32) (b1 : Int32) (hv : Int32) (zv : Int32) (cz : Int32) (fmt : Value) (h0 : Heap) (n0 : Nat) (Z0 : n0 ≤ h0.size) (E_a1 : Exa Z h0 a1 KS) (F_hashes_a1 : Fld Z h0 a1 KS "hashes" "[I" (.ref aH)) (F_records_a1 : Fld Z h0 a1 KS "records" "[[I" (.ref aR)) (F_subjects_a1 : Fld Z h0 a1 KS "subjects" "[Ljava/lang/String;" (.ref aS)) (F_size_a1 : Fld Z h0 a1 KS "size" "I" (.int 0)) (O0 : Old Z n0 h0) (S_COMPACT_STRINGS : Sta Z Z.heap KJ "COMPACT_STRINGS" "Z" (.int cz)) (hcz : ¬ (cz = (0 : Int32))) (S_SIOOBE_FORMATTER : Sta Z Z.heap "jdk/internal/util/Preconditions" "SIOOBE_FORMATTER" "Ljava/util/function/BiFunction;" fmt) (hfmt : fmt = .null ∨ ∃ a, fmt = .ref a) (E_a2 : Exa Z h0 a2 KJ) (F_value_a2 : Fld Z h0 a2 KJ "value" "[B" (.ref bv)) (F_coder_a2 : Fld Z h0 a2 KJ "coder" "B" (.int 0)) (V_bv : Arv Z h0 bv kb .byte (2 : Int32) [(.int b0), (.int b1)] (.int 0)) (E_bv : Exa Z h0 bv "[B") (F_hash_a2 : Fld Z h0 a2 KJ "hash" "I" (.int hv)) (F_hashIsZero_a2 : Fld Z h0 a2 KJ "hashIsZero" "Z" (.int zv)) (hinv : hv = (own_hc b0 b1) ∨ (hv = (0 : Int32) ∧ zv = (0 : Int32))) (V_aH : Arh Z h0 aH kH .int (16 : Int32) [] [] (.int 0)) (V_aR : Arh Z h0 aR kR (.array .int) (16 : Int32) [] [] .null) (V_aS : Arh Z h0 aS kS (.object KJ) (16 : Int32) [] [] .null) (OV_aR : OvrA Z kR .int "[I") (OV_aS : Ovr Z kS KJ) (g_a1 : n0 ≤ a1) (g_a2 : n0 ≤ a2) (g_aH : n0 ≤ aH) (g_aR : n0 ≤ aR) (g_aS : n0 ≤ aS) (ne_a1_a2 : a1 ≠ a2) (ne_a1_aH : a1 ≠ aH) (ne_a1_aR : a1 ≠ aR) (ne_a1_aS : a1 ≠ aS) (ne_a1_bv : a1 ≠ bv) (ne_a2_aH : a2 ≠ aH) (ne_a2_aR : a2 ≠ aR) (ne_a2_aS : a2 ≠ aS) (ne_a2_bv : a2 ≠ bv) (ne_aH_aR : aH ≠ aR) (ne_aH_aS : aH ≠ aS) (ne_aH_bv : aH ≠ bv) (ne_aR_aS : aR ≠ aS) (ne_aR_bv : aR ≠ bv) (ne_aS_bv : aS ≠ bv) :
    MetFree l (⟨KS, "setStatus", "(Ljava/lang/String;ZZ)V"⟩ : MethodName) (head1 (Jvm.Cond.code (⟨KS, "setStatus", "(Ljava/lang/String;ZZ)V"⟩ : MethodName) prog_18_method_7_code 6 none :: ws) R_sE00) (fun a U => a = #[(.ref a1), (.ref a2), (.int 0), (.int 0)] ∧ Z.Warmed39 U.vm ∧ U.heap = h0) (fun _ _ _ _ _ => True) (fun _ U o U' => ∃ v L, o = .returned v ∧ QsE00 Z a1 a2 aH aR aS kH kR kS bv kb b0 b1 hv zv cz fmt h0 n0 v U'.heap L ∧ FrameEnd U o U' L R_sE00.cells R_sE00.slots) := by
  refine MetFree.of_bodySF (plainFor_of_name pn_386) hisR ?_
  intro p e s m args below meth c s₁ Bd hml0 hP hK
  obtain ⟨rfl, hZ, hh⟩ := hP
  have hx := Bd.exec
  have hby := Bd.bytes
  have hml : c.maxLocals = 6 := hml0
  have hown : s.vm.findClass KS = some m.cls := findClass_of_methodNamed Bd.named
  have hnm := (name_of_methodNamed Bd.named Bd.method).1
  have X0 : Stand p l e R_sE00 s m #[(.ref a1), (.ref a2), (.int 0), (.int 0)] below meth c s₁ [] 0 0 := Stand.of_body Bd
  have e0 : s₁.heap = h0 := by rw [← hh, Bd.state]; rfl
  have N0 := Fr.nil n0
  have pre0 : ∀ t, Steps p.tables e below (s₁.setTop (mkF m 0 #[.val (.ref a1), .val (.ref a2), .val (.int 0), .val (.int 0), .unset, .unset] [])) t → Steps p.tables e below (s₁.setTop (entryFrame m #[(.ref a1), (.ref a2), (.int 0), (.int 0)] 6)) t := fun t k => castTop (ef_sE00 m a1 a2 (0 : Int32) (0 : Int32)) k
  -- pc 28: SubjectLines.held by rmhE
  obtain ⟨cq1, qc1, qc1'⟩ := E_a1.cell
  obtain ⟨_, _, ⟨T1, L1, ck1, cn1⟩, -, X1, ⟨Lc1, hQ1, l1, y1, z1⟩, st1⟩ := X0.privateBack hx (y := (⟨KS, "held", "(Ljava/lang/String;)I"⟩ : MethodName)) hown (mvT hZ (own_w hw (i := 156) rfl)) (mvT hZ (own_w hw (i := 157) rfl)) (own_sel (y := (⟨KS, "held", "(Ljava/lang/String;)I"⟩ : MethodName)) (mvT hZ (own_w hw (i := 31) rfl)) (Cond.privateMethod_at (mvP hZ (own_w hw (i := 158) rfl) (args := #[]))) (mvT hZ (own_w hw (i := 157) rfl)) (by decide)) (Cond.privateMethod_at (mvP hZ (own_w hw (i := 158) rfl) (args := #[]))) (mvT hZ (own_w hw (i := 159) rfl)) (by decide) (backOf (W := 0) (rmhE l Z a0 hw [] a1 a2 aH aR aS kH kR kS bv kb b0 b1 hv zv cz fmt h0 n0 Z0 E_a1 F_hashes_a1 F_records_a1 F_subjects_a1 F_size_a1 O0 S_COMPACT_STRINGS hcz S_SIOOBE_FORMATTER hfmt E_a2 F_value_a2 F_coder_a2 V_bv E_bv F_hash_a2 F_hashIsZero_a2 hinv V_aH V_aR V_aS OV_aR OV_aS g_a1 g_a2 g_aH g_aR g_aS ne_a1_a2 ne_a1_aH ne_a1_aR ne_a1_aS ne_a1_bv ne_a2_aH ne_a2_aR ne_a2_aS ne_a2_bv ne_aH_aR ne_aH_aS ne_aH_bv ne_aR_aS ne_aR_bv ne_aS_bv) hZ (own_w hw (i := 159) rfl) (own_w hw (i := 32) rfl) (by decide) (by decide)) (g := (mkF m 28 #[.val (.ref a1), .val (.ref a2), .val (.int 0), .val (.int 0), .val (.int 1), .unset] [(.ref a2), (.ref a1)])) rfl (by rw [hml]; rfl) (Steps.refl _) (a := a1) (by rw [e0]; exact qc1) qc1' (argsL := [(.ref a2)]) (rest := []) (lenOf pd_358 rfl) rfl (by show 2 * 0 + _ ≤ _; exact Nat.le_of_eq rfl) (hb hby d8_28) (fun _ _ => ⟨rfl, e0, (by decide : 0 + 3 ≤ _), (by decide : 0 + 28 ≤ _)⟩)
  dsimp only [Pt.U, Pt.locs, Pt.cells, Pt.slots] at X1 l1 y1 z1 st1 hQ1
  subst y1 z1
  obtain ⟨n1_1, kn1_1, rfl, N1q, K1q, gq1_0, sq1_0, o1_0, o1_1, o1_2, o1_3, o1_4, o1_5, o1_6, o1_7, o1_8, o1_9, o1_10, o1_11, o1_12, o1_13, o1_14⟩ := hQ1
  have N2 : Fr n0 L1 := by rw [l1]; exact Fr.app N0 N1q
  have ne3 : a1 ≠ n1_1 := Nat.ne_of_lt (Nat.lt_of_lt_of_le E_a1.lt sq1_0)
  have ne4 : a2 ≠ n1_1 := Nat.ne_of_lt (Nat.lt_of_lt_of_le E_a2.lt sq1_0)
  have ne6 : aH ≠ n1_1 := Nat.ne_of_lt (Nat.lt_of_lt_of_le V_aH.lt sq1_0)
  have ne7 : aR ≠ n1_1 := Nat.ne_of_lt (Nat.lt_of_lt_of_le V_aR.lt sq1_0)
  have ne8 : aS ≠ n1_1 := Nat.ne_of_lt (Nat.lt_of_lt_of_le V_aS.lt sq1_0)
  have sz_n1_1 : h0.size ≤ n1_1 := Nat.le_trans (Keep.refl h0 [a1, a2, aH, aR, aS]).1 sq1_0
  have K26 := (Keep.refl h0 [a1, a2, aH, aR, aS]).trans K1q (allS (Or.inl (List.mem_of_getElem? (i := 0) rfl)) (allS (Or.inl (List.mem_of_getElem? (i := 1) rfl)) (allS (Or.inl (List.mem_of_getElem? (i := 2) rfl)) (allS (Or.inl (List.mem_of_getElem? (i := 3) rfl)) (allS (Or.inl (List.mem_of_getElem? (i := 4) rfl)) all0)))))
  obtain ⟨T27, X27, e27, st27⟩ := getF X1 hx hZ hown (host := "") (Or.inl (own_w hw (i := 42) rfl)) Via.refl rfl o1_2 (g := (mkF m 34 #[.val (.ref a1), .val (.ref a2), .val (.int 0), .val (.int 0), .val (.int 1), .val (.int ((own_hh b0 b1) &&& (15 : Int32)))] [(.ref a1)])) rfl rfl (hb hby d8_34)
  obtain ⟨car28, Aar28, qar28, Sar28, Nar28, Har28, Gar28⟩ := id o1_11
  have hinar28 : ¬ (((own_hh b0 b1) &&& (15 : Int32)) < 0 ∨ car28.slots.size ≤ (((own_hh b0 b1) &&& (15 : Int32))).toNatClampNeg) := inb_of Sar28 (own_sl _)
  have hatar28 : car28.slots[(((own_hh b0 b1) &&& (15 : Int32))).toNatClampNeg]? = some (.ref n1_1) := atH (hs := [(((own_hh b0 b1) &&& (15 : Int32)), (.ref n1_1))]) (vs := []) (dv := .null) Har28 hinar28 (getH_hit (own_sl _).1 rfl)
  obtain ⟨car29, Aar29, qar29, Sar29, Nar29, Har29, Gar29⟩ := id o1_13
  have hinar29 : ¬ ((1 : Int32) < 0 ∨ car29.slots.size ≤ ((1 : Int32)).toNatClampNeg) := inb_of Sar29 ⟨by decide, by decide⟩
  obtain ⟨T30, h30, X30, e30, W30, st30⟩ := stI X27 hx hZ e27 Aar29 (j := (1 : Int32)) hinar29 (g := (mkF m 43 #[.val (.ref a1), .val (.ref a2), .val (.int 0), .val (.int 0), .val (.int 1), .val (.int ((own_hh b0 b1) &&& (15 : Int32)))] [(.int 1), (.int 1), (.ref n1_1)])) rfl rfl (hb hby d8_43)
  have V30 : Arv Z h30 n1_1 kn1_1 .int (20 : Int32) [(.int 0), (.int 1), (.int ((own_k1 b0 b1).toInt32)), (.int ((((own_k1 b0 b1).toUInt64 >>> ((32 : Int32) &&& 0x3f).toInt64.toUInt64).toInt64).toInt32)), (.int 0), (.int 0), (.int 0), (.int 0), (.int 0), (.int 0), (.int 0), (.int 0), (.int 0), (.int 0), (.int 0), (.int 0), (.int 0), (.int 0), (.int 0), (.int 0)] (.int 0) := Arv.set Aar29 qar29 Sar29 Nar29 Har29 Gar29 rfl W30 1 rfl (Nat.le_of_ble_eq_true rfl)
  have f31 := o1_0.wr W30
  have f33 := o1_5.wr W30
  have f36 := o1_1.other W30 (Or.inl ne3)
  have f37 := o1_2.other W30 (Or.inl ne3)
  have f38 := o1_3.other W30 (Or.inl ne3)
  have f39 := o1_4.other W30 (Or.inl ne3)
  have f40 := o1_6.other W30 (Or.inl ne4)
  have f41 := o1_7.other W30 (Or.inl ne4)
  have f42 := o1_8.other W30 (Or.inl ne4)
  have f43 := o1_9.other W30 (Or.inl ne4)
  have f44 := o1_10.other W30 ne6
  have f45 := o1_11.other W30 ne7
  have f46 := o1_12.other W30 ne8
  have f48 := o1_14.wr W30
  have K49 := K26.wr W30 (Or.inr sz_n1_1)
  have N51 := Fr.snoc X30 N2 gq1_0
  obtain ⟨fs, hr, hrun, hended, hW, hsame⟩ := X30.leave (v := none) (fun _ => rfl) Bd.notSynchronized
  refine ⟨_, _, pre0 _ ?_, hrun, hended, _, _, rfl, ?_, ⟨_, rfl⟩, hW, hsame.mono (by decide) (by decide)⟩
  · show Steps p.tables e below (s₁.setTop (mkF m 0 #[.val (.ref a1), .val (.ref a2), .val (.int 0), .val (.int 0), .unset, .unset] [])) _
    refine XS.iloadN X0.here hx rfl (hb hby d8_0) rfl ?_
    show Steps p.tables e below (s₁.setTop (mkF m 1 #[.val (.ref a1), .val (.ref a2), .val (.int 0), .val (.int 0), .unset, .unset] [(.int 0)])) _
    refine XS.ifYes X0.here hx rfl (pc0 := 1) (pc' := 8) rfl (hb hby d8_1) rfl ((if0 _ _).trans (teq (by decide : (0 : Int32) = (0 : Int32))).1) (by decide) (by decide) ?_
    refine XS.iconst X0.here hx rfl (hb hby d8_8) ?_
    refine XS.iloadN X0.here hx rfl (hb hby d8_9) rfl ?_
    show Steps p.tables e below (s₁.setTop (mkF m 10 #[.val (.ref a1), .val (.ref a2), .val (.int 0), .val (.int 0), .unset, .unset] [(.int 0), (.int 0)])) _
    refine XS.ifYes X0.here hx rfl (pc0 := 10) (pc' := 17) rfl (hb hby d8_10) rfl ((if0 _ _).trans (teq (by decide : (0 : Int32) = (0 : Int32))).1) (by decide) (by decide) ?_
    refine XS.iconst X0.here hx rfl (hb hby d8_17) ?_
    refine XS.ior X0.here hx rfl (hb hby d8_18) rfl ?_
    refine XS.istore X0.here hx rfl (hb hby d8_19) rfl (l' := #[.val (.ref a1), .val (.ref a2), .val (.int 0), .val (.int 0), .val (.int 1), .unset]) rfl ?_
    show Steps p.tables e below (s₁.setTop (mkF m 21 #[.val (.ref a1), .val (.ref a2), .val (.int 0), .val (.int 0), .val (.int 1), .unset] [])) _
    refine XS.iload X0.here hx rfl (hb hby d8_21) rfl ?_
    show Steps p.tables e below (s₁.setTop (mkF m 23 #[.val (.ref a1), .val (.ref a2), .val (.int 0), .val (.int 0), .val (.int 1), .unset] [(.int 1)])) _
    refine XS.ifNo X0.here hx rfl (hb hby d8_23) rfl ((if0 _ _).trans (feq (by decide : ¬ ((1 : Int32) = (0 : Int32)))).1) ?_
    refine XS.aloadN X0.here hx rfl (hb hby d8_26) rfl rfl ?_
    refine XS.aloadN X0.here hx rfl (hb hby d8_27) rfl rfl ?_
    refine st1.trans ?_
    refine XS.istore X1.here hx rfl (hb hby d8_31) rfl (l' := #[.val (.ref a1), .val (.ref a2), .val (.int 0), .val (.int 0), .val (.int 1), .val (.int ((own_hh b0 b1) &&& (15 : Int32)))]) rfl ?_
    refine XS.aloadN X1.here hx rfl (hb hby d8_33) rfl rfl ?_
    refine st27 _ ?_
    show Steps p.tables e below (T27.setTop (mkF m 37 #[.val (.ref a1), .val (.ref a2), .val (.int 0), .val (.int 0), .val (.int 1), .val (.int ((own_hh b0 b1) &&& (15 : Int32)))] [(.ref aR)])) _
    refine XS.iload X27.here hx rfl (hb hby d8_37) rfl ?_
    refine X27.aaload hx (j := ((own_hh b0 b1) &&& (15 : Int32))) (v := (.ref n1_1)) (by rw [e27]; exact Aar28.1) (State.isArrayOf_alike hZ.alike Aar28.2.1) rfl Aar28.2.2 hinar28 hatar28 (g := (mkF m 39 #[.val (.ref a1), .val (.ref a2), .val (.int 0), .val (.int 0), .val (.int 1), .val (.int ((own_hh b0 b1) &&& (15 : Int32)))] [(.int ((own_hh b0 b1) &&& (15 : Int32))), (.ref aR)])) rfl rfl (hb hby d8_39) _ ?_
    refine XS.iconst X27.here hx rfl (hb hby d8_40) ?_
    refine XS.iload X27.here hx rfl (hb hby d8_41) rfl ?_
    refine st30 _ ?_
    exact X30.returnOut hx Bd.returns (hb hby d8_44) hr
  · show QsE00 Z a1 a2 aH aR aS kH kR kS bv kb b0 b1 hv zv cz fmt h0 n0 _ T30.heap _
    rw [e30]
    exact ⟨n1_1, kn1_1, rfl, N51, K49, gq1_0, sz_n1_1, f31, f36, f37, f38, f39, f33, f40, f41, f42, f43, f44, f45, f46, V30, f48⟩
theorem ef_sO00 (m : MethodId) (x0 : Addr) (x1 : Addr) (x2 : Int32) (x3 : Int32) : entryFrame m #[(.ref x0), (.ref x1), (.int x2), (.int x3)] 6 = mkF m 0 #[.val (.ref x0), .val (.ref x1), .val (.int x2), .val (.int x3), .unset, .unset] [] := by first | (simp [entryFrame, mkF, argsToLocals, Value.category]; done) | rfl
abbrev R_sO00 : Room := { frames := 7, cells := 1, slots := 5, locals := 116 }
def QsO00 (Z : State) (a1 : Addr) (a2 : Addr) (aH : Addr) (aR : Addr) (aS : Addr) (kH : ClassId) (kR : ClassId) (bv : Addr) (kb : ClassId) (b0 : Int32) (b1 : Int32) (hv : Int32) (zv : Int32) (cz : Int32) (fmt : Value) (rc : Addr) (kr : ClassId) (r0 : Int32) (r1 : Int32) (r8 : Int32) (r9 : Int32) (r10 : Int32) (r11 : Int32) (r12 : Int32) (r13 : Int32) (r14 : Int32) (r15 : Int32) (r16 : Int32) (r17 : Int32) (r18 : Int32) (r19 : Int32) (h0 : Heap) (n0 : Nat) (v : Option Value) (h : Heap) (L : List Loc) : Prop := v = none ∧ Fr n0 L ∧ Keep h0 h [a2, rc] ∧ Exa Z h a2 KJ ∧ Fld Z h a2 KJ "value" "[B" (.ref bv) ∧ Fld Z h a2 KJ "coder" "B" (.int 0) ∧ Fld Z h a2 KJ "hash" "I" (.int (own_hc b0 b1)) ∧ Fld Z h a2 KJ "hashIsZero" "Z" (.int (fhc_hashIsZero b0 b1 hv zv)) ∧ Arv Z h rc kr .int (20 : Int32) [(.int r0), (.int 1), (.int ((own_k1 b0 b1).toInt32)), (.int ((((own_k1 b0 b1).toUInt64 >>> ((32 : Int32) &&& 0x3f).toInt64.toUInt64).toInt64).toInt32)), (.int 0), (.int 0), (.int 0), (.int 0), (.int r8), (.int r9), (.int r10), (.int r11), (.int r12), (.int r13), (.int r14), (.int r15), (.int r16), (.int r17), (.int r18), (.int r19)] (.int 0)
set_option maxRecDepth 65536 in
set_option maxHeartbeats 40000000 in
theorem rmsO00 (l : Launch) (Z : State) (a0 : Array Value) (hw : ∀ d ∈ tables_1, d.before a0 Z = true) (ws : List Jvm.Cond) (a1 : Addr) (a2 : Addr) (aH : Addr) (aR : Addr) (aS : Addr) (kH : ClassId) (kR : ClassId) (bv : Addr) (kb : ClassId) (b0 : Int32) (b1 : Int32) (hv : Int32) (zv : Int32) (cz : Int32) (fmt : Value) (rc : Addr) (kr : ClassId) (r0 : Int32) (r1 : Int32) (r8 : Int32) (r9 : Int32) (r10 : Int32) (r11 : Int32) (r12 : Int32) (r13 : Int32) (r14 : Int32) (r15 : Int32) (r16 : Int32) (r17 : Int32) (r18 : Int32) (r19 : Int32) (h0 : Heap) (n0 : Nat) (Z0 : n0 ≤ h0.size) (E_a1 : Exa Z h0 a1 KS) (F_hashes_a1 : Fld Z h0 a1 KS "hashes" "[I" (.ref aH)) (F_records_a1 : Fld Z h0 a1 KS "records" "[[I" (.ref aR)) (F_subjects_a1 : Fld Z h0 a1 KS "subjects" "[Ljava/lang/String;" (.ref aS)) (O0 : Old Z n0 h0) (S_COMPACT_STRINGS : Sta Z Z.heap KJ "COMPACT_STRINGS" "Z" (.int cz)) (hcz : ¬ (cz = (0 : Int32))) (S_SIOOBE_FORMATTER : Sta Z Z.heap "jdk/internal/util/Preconditions" "SIOOBE_FORMATTER" "Ljava/util/function/BiFunction;" fmt) (hfmt : fmt = .null ∨ ∃ a, fmt = .ref a) (E_a2 : Exa Z h0 a2 KJ) (F_value_a2 : Fld Z h0 a2 KJ "value" "[B" (.ref bv)) (F_coder_a2 : Fld Z h0 a2 KJ "coder" "B" (.int 0)) (V_bv : Arv Z h0 bv kb .byte (2 : Int32) [(.int b0), (.int b1)] (.int 0)) (E_bv : Exa Z h0 bv "[B") (F_hash_a2 : Fld Z h0 a2 KJ "hash" "I" (.int hv)) (F_hashIsZero_a2 : Fld Z h0 a2 KJ "hashIsZero" "Z" (.int zv)) (hinv : hv = (own_hc b0 b1) ∨ (hv = (0 : Int32) ∧ zv = (0 : Int32))) (V_aH : Arh Z h0 aH kH .int (16 : Int32) [(((own_hh b0 b1) &&& (15 : Int32)), (.int (own_hh b0 b1)))] [] (.int 0)) (V_aR : Arh Z h0 aR kR (.array .int) (16 : Int32) [(((own_hh b0 b1) &&& (15 : Int32)), (.ref rc))] [] .null) (V_rc : Arv Z h0 rc kr .int (20 : Int32) [(.int r0), (.int r1), (.int ((own_k1 b0 b1).toInt32)), (.int ((((own_k1 b0 b1).toUInt64 >>> ((32 : Int32) &&& 0x3f).toInt64.toUInt64).toInt64).toInt32)), (.int 0), (.int 0), (.int 0), (.int 0), (.int r8), (.int r9), (.int r10), (.int r11), (.int r12), (.int r13), (.int r14), (.int r15), (.int r16), (.int r17), (.int r18), (.int r19)] (.int 0)) (g_a2 : n0 ≤ a2) (ne_a2_a1 : a2 ≠ a1) (ne_a2_aH : a2 ≠ aH) (ne_a2_aR : a2 ≠ aR) (ne_a2_bv : a2 ≠ bv) (ne_a2_rc : a2 ≠ rc) (g_rc : n0 ≤ rc) (ne_rc_a1 : rc ≠ a1) (ne_rc_aH : rc ≠ aH) (ne_rc_aR : rc ≠ aR) (ne_rc_bv : rc ≠ bv) :
    MetFree l (⟨KS, "setStatus", "(Ljava/lang/String;ZZ)V"⟩ : MethodName) (head1 (Jvm.Cond.code (⟨KS, "setStatus", "(Ljava/lang/String;ZZ)V"⟩ : MethodName) prog_18_method_7_code 6 none :: ws) R_sO00) (fun a U => a = #[(.ref a1), (.ref a2), (.int 0), (.int 0)] ∧ Z.Warmed39 U.vm ∧ U.heap = h0) (fun _ _ _ _ _ => True) (fun _ U o U' => ∃ v L, o = .returned v ∧ QsO00 Z a1 a2 aH aR aS kH kR bv kb b0 b1 hv zv cz fmt rc kr r0 r1 r8 r9 r10 r11 r12 r13 r14 r15 r16 r17 r18 r19 h0 n0 v U'.heap L ∧ FrameEnd U o U' L R_sO00.cells R_sO00.slots) := by
  refine MetFree.of_bodySF (plainFor_of_name pn_386) hisR ?_
  intro p e s m args below meth c s₁ Bd hml0 hP hK
  obtain ⟨rfl, hZ, hh⟩ := hP
  have hx := Bd.exec
  have hby := Bd.bytes
  have hml : c.maxLocals = 6 := hml0
  have hown : s.vm.findClass KS = some m.cls := findClass_of_methodNamed Bd.named
  have hnm := (name_of_methodNamed Bd.named Bd.method).1
  have X0 : Stand p l e R_sO00 s m #[(.ref a1), (.ref a2), (.int 0), (.int 0)] below meth c s₁ [] 0 0 := Stand.of_body Bd
  have e0 : s₁.heap = h0 := by rw [← hh, Bd.state]; rfl
  have N0 := Fr.nil n0
  have pre0 : ∀ t, Steps p.tables e below (s₁.setTop (mkF m 0 #[.val (.ref a1), .val (.ref a2), .val (.int 0), .val (.int 0), .unset, .unset] [])) t → Steps p.tables e below (s₁.setTop (entryFrame m #[(.ref a1), (.ref a2), (.int 0), (.int 0)] 6)) t := fun t k => castTop (ef_sO00 m a1 a2 (0 : Int32) (0 : Int32)) k
  -- pc 28: SubjectLines.held by rmhO
  obtain ⟨cq1, qc1, qc1'⟩ := E_a1.cell
  obtain ⟨_, _, ⟨T1, L1, ck1, cn1⟩, -, X1, ⟨Lc1, hQ1, l1, y1, z1⟩, st1⟩ := X0.privateBack hx (y := (⟨KS, "held", "(Ljava/lang/String;)I"⟩ : MethodName)) hown (mvT hZ (own_w hw (i := 156) rfl)) (mvT hZ (own_w hw (i := 157) rfl)) (own_sel (y := (⟨KS, "held", "(Ljava/lang/String;)I"⟩ : MethodName)) (mvT hZ (own_w hw (i := 31) rfl)) (Cond.privateMethod_at (mvP hZ (own_w hw (i := 158) rfl) (args := #[]))) (mvT hZ (own_w hw (i := 157) rfl)) (by decide)) (Cond.privateMethod_at (mvP hZ (own_w hw (i := 158) rfl) (args := #[]))) (mvT hZ (own_w hw (i := 159) rfl)) (by decide) (backOf (W := 0) (rmhO l Z a0 hw [] a1 a2 aH aR aS kH kR bv kb b0 b1 hv zv cz fmt rc kr r0 r1 r8 r9 r10 r11 r12 r13 r14 r15 r16 r17 r18 r19 h0 n0 Z0 E_a1 F_hashes_a1 F_records_a1 F_subjects_a1 O0 S_COMPACT_STRINGS hcz S_SIOOBE_FORMATTER hfmt E_a2 F_value_a2 F_coder_a2 V_bv E_bv F_hash_a2 F_hashIsZero_a2 hinv V_aH V_aR V_rc g_a2 ne_a2_a1 ne_a2_aH ne_a2_aR ne_a2_bv ne_a2_rc) hZ (own_w hw (i := 159) rfl) (own_w hw (i := 32) rfl) (by decide) (by decide)) (g := (mkF m 28 #[.val (.ref a1), .val (.ref a2), .val (.int 0), .val (.int 0), .val (.int 1), .unset] [(.ref a2), (.ref a1)])) rfl (by rw [hml]; rfl) (Steps.refl _) (a := a1) (by rw [e0]; exact qc1) qc1' (argsL := [(.ref a2)]) (rest := []) (lenOf pd_358 rfl) rfl (by show 2 * 0 + _ ≤ _; exact Nat.le_of_eq rfl) (hb hby d8_28) (fun _ _ => ⟨rfl, e0, (by decide : 0 + 1 ≤ _), (by decide : 0 + 5 ≤ _)⟩)
  dsimp only [Pt.U, Pt.locs, Pt.cells, Pt.slots] at X1 l1 y1 z1 st1 hQ1
  subst y1 z1
  obtain ⟨rfl, N1q, K1q, o1_0, o1_1, o1_2, o1_3, o1_4⟩ := hQ1
  have N2 : Fr n0 L1 := by rw [l1]; exact Fr.app N0 N1q
  have f5 := F_records_a1.keep K1q (ninS (Ne.symm ne_a2_a1) nin0)
  have f16 := V_aR.keep K1q (ninS (Ne.symm ne_a2_aR) nin0)
  have f17 := V_rc.keep K1q (ninS (Ne.symm ne_a2_rc) nin0)
  have K19 := (Keep.refl h0 [a2, rc]).trans K1q (allS (Or.inl (List.mem_of_getElem? (i := 0) rfl)) all0)
  obtain ⟨T20, X20, e20, st20⟩ := getF X1 hx hZ hown (host := "") (Or.inl (own_w hw (i := 42) rfl)) Via.refl rfl f5 (g := (mkF m 34 #[.val (.ref a1), .val (.ref a2), .val (.int 0), .val (.int 0), .val (.int 1), .val (.int ((own_hh b0 b1) &&& (15 : Int32)))] [(.ref a1)])) rfl rfl (hb hby d8_34)
  obtain ⟨car21, Aar21, qar21, Sar21, Nar21, Har21, Gar21⟩ := id f16
  have hinar21 : ¬ (((own_hh b0 b1) &&& (15 : Int32)) < 0 ∨ car21.slots.size ≤ (((own_hh b0 b1) &&& (15 : Int32))).toNatClampNeg) := inb_of Sar21 (own_sl _)
  have hatar21 : car21.slots[(((own_hh b0 b1) &&& (15 : Int32))).toNatClampNeg]? = some (.ref rc) := atH (hs := [(((own_hh b0 b1) &&& (15 : Int32)), (.ref rc))]) (vs := []) (dv := .null) Har21 hinar21 (getH_hit (own_sl _).1 rfl)
  obtain ⟨car22, Aar22, qar22, Sar22, Nar22, Har22, Gar22⟩ := id f17
  have hinar22 : ¬ ((1 : Int32) < 0 ∨ car22.slots.size ≤ ((1 : Int32)).toNatClampNeg) := inb_of Sar22 ⟨by decide, by decide⟩
  obtain ⟨T23, h23, X23, e23, W23, st23⟩ := stI X20 hx hZ e20 Aar22 (j := (1 : Int32)) hinar22 (g := (mkF m 43 #[.val (.ref a1), .val (.ref a2), .val (.int 0), .val (.int 0), .val (.int 1), .val (.int ((own_hh b0 b1) &&& (15 : Int32)))] [(.int 1), (.int 1), (.ref rc)])) rfl rfl (hb hby d8_43)
  have V23 : Arv Z h23 rc kr .int (20 : Int32) [(.int r0), (.int 1), (.int ((own_k1 b0 b1).toInt32)), (.int ((((own_k1 b0 b1).toUInt64 >>> ((32 : Int32) &&& 0x3f).toInt64.toUInt64).toInt64).toInt32)), (.int 0), (.int 0), (.int 0), (.int 0), (.int r8), (.int r9), (.int r10), (.int r11), (.int r12), (.int r13), (.int r14), (.int r15), (.int r16), (.int r17), (.int r18), (.int r19)] (.int 0) := Arv.set Aar22 qar22 Sar22 Nar22 Har22 Gar22 rfl W23 1 rfl (Nat.le_of_ble_eq_true rfl)
  have f29 := o1_0.wr W23
  have f35 := o1_1.other W23 (Or.inl ne_a2_rc)
  have f36 := o1_2.other W23 (Or.inl ne_a2_rc)
  have f37 := o1_3.other W23 (Or.inl ne_a2_rc)
  have f38 := o1_4.other W23 (Or.inl ne_a2_rc)
  have K39 := K19.wr W23 (Or.inl (List.mem_of_getElem? (i := 1) rfl))
  have N41 := Fr.snoc X23 N2 g_rc
  obtain ⟨fs, hr, hrun, hended, hW, hsame⟩ := X23.leave (v := none) (fun _ => rfl) Bd.notSynchronized
  refine ⟨_, _, pre0 _ ?_, hrun, hended, _, _, rfl, ?_, ⟨_, rfl⟩, hW, hsame.mono (by decide) (by decide)⟩
  · show Steps p.tables e below (s₁.setTop (mkF m 0 #[.val (.ref a1), .val (.ref a2), .val (.int 0), .val (.int 0), .unset, .unset] [])) _
    refine XS.iloadN X0.here hx rfl (hb hby d8_0) rfl ?_
    show Steps p.tables e below (s₁.setTop (mkF m 1 #[.val (.ref a1), .val (.ref a2), .val (.int 0), .val (.int 0), .unset, .unset] [(.int 0)])) _
    refine XS.ifYes X0.here hx rfl (pc0 := 1) (pc' := 8) rfl (hb hby d8_1) rfl ((if0 _ _).trans (teq (by decide : (0 : Int32) = (0 : Int32))).1) (by decide) (by decide) ?_
    refine XS.iconst X0.here hx rfl (hb hby d8_8) ?_
    refine XS.iloadN X0.here hx rfl (hb hby d8_9) rfl ?_
    show Steps p.tables e below (s₁.setTop (mkF m 10 #[.val (.ref a1), .val (.ref a2), .val (.int 0), .val (.int 0), .unset, .unset] [(.int 0), (.int 0)])) _
    refine XS.ifYes X0.here hx rfl (pc0 := 10) (pc' := 17) rfl (hb hby d8_10) rfl ((if0 _ _).trans (teq (by decide : (0 : Int32) = (0 : Int32))).1) (by decide) (by decide) ?_
    refine XS.iconst X0.here hx rfl (hb hby d8_17) ?_
    refine XS.ior X0.here hx rfl (hb hby d8_18) rfl ?_
    refine XS.istore X0.here hx rfl (hb hby d8_19) rfl (l' := #[.val (.ref a1), .val (.ref a2), .val (.int 0), .val (.int 0), .val (.int 1), .unset]) rfl ?_
    show Steps p.tables e below (s₁.setTop (mkF m 21 #[.val (.ref a1), .val (.ref a2), .val (.int 0), .val (.int 0), .val (.int 1), .unset] [])) _
    refine XS.iload X0.here hx rfl (hb hby d8_21) rfl ?_
    show Steps p.tables e below (s₁.setTop (mkF m 23 #[.val (.ref a1), .val (.ref a2), .val (.int 0), .val (.int 0), .val (.int 1), .unset] [(.int 1)])) _
    refine XS.ifNo X0.here hx rfl (hb hby d8_23) rfl ((if0 _ _).trans (feq (by decide : ¬ ((1 : Int32) = (0 : Int32)))).1) ?_
    refine XS.aloadN X0.here hx rfl (hb hby d8_26) rfl rfl ?_
    refine XS.aloadN X0.here hx rfl (hb hby d8_27) rfl rfl ?_
    refine st1.trans ?_
    refine XS.istore X1.here hx rfl (hb hby d8_31) rfl (l' := #[.val (.ref a1), .val (.ref a2), .val (.int 0), .val (.int 0), .val (.int 1), .val (.int ((own_hh b0 b1) &&& (15 : Int32)))]) rfl ?_
    refine XS.aloadN X1.here hx rfl (hb hby d8_33) rfl rfl ?_
    refine st20 _ ?_
    show Steps p.tables e below (T20.setTop (mkF m 37 #[.val (.ref a1), .val (.ref a2), .val (.int 0), .val (.int 0), .val (.int 1), .val (.int ((own_hh b0 b1) &&& (15 : Int32)))] [(.ref aR)])) _
    refine XS.iload X20.here hx rfl (hb hby d8_37) rfl ?_
    refine X20.aaload hx (j := ((own_hh b0 b1) &&& (15 : Int32))) (v := (.ref rc)) (by rw [e20]; exact Aar21.1) (State.isArrayOf_alike hZ.alike Aar21.2.1) rfl Aar21.2.2 hinar21 hatar21 (g := (mkF m 39 #[.val (.ref a1), .val (.ref a2), .val (.int 0), .val (.int 0), .val (.int 1), .val (.int ((own_hh b0 b1) &&& (15 : Int32)))] [(.int ((own_hh b0 b1) &&& (15 : Int32))), (.ref aR)])) rfl rfl (hb hby d8_39) _ ?_
    refine XS.iconst X20.here hx rfl (hb hby d8_40) ?_
    refine XS.iload X20.here hx rfl (hb hby d8_41) rfl ?_
    refine st23 _ ?_
    exact X23.returnOut hx Bd.returns (hb hby d8_44) hr
  · show QsO00 Z a1 a2 aH aR aS kH kR bv kb b0 b1 hv zv cz fmt rc kr r0 r1 r8 r9 r10 r11 r12 r13 r14 r15 r16 r17 r18 r19 h0 n0 _ T23.heap _
    rw [e23]
    exact ⟨rfl, N41, K39, f29, f35, f36, f37, f38, V23⟩
theorem d8_13 : decode prog_18_method_7_code 13 = .ok (.iconst 0, 1) := by decide +kernel
theorem d8_14 : decode prog_18_method_7_code 14 = .ok (.goto 4, 3) := by decide +kernel
theorem ef_ss01 (m : MethodId) (x0 : Addr) (x1 : Addr) (x2 : Int32) (x3 : Int32) : entryFrame m #[(.ref x0), (.ref x1), (.int x2), (.int x3)] 6 = mkF m 0 #[.val (.ref x0), .val (.ref x1), .val (.int x2), .val (.int x3), .unset, .unset] [] := by first | (simp [entryFrame, mkF, argsToLocals, Value.category]; done) | rfl
abbrev R_ss01 : Room := { frames := 0, cells := 0, slots := 0, locals := 0 }
def Qss01 (Z : State) (a1 : Addr) (a2 : Addr) (h0 : Heap) (n0 : Nat) (v : Option Value) (h : Heap) (L : List Loc) : Prop := v = none ∧ Fr n0 L ∧ h = h0
set_option maxRecDepth 65536 in
set_option maxHeartbeats 40000000 in
theorem rmss01 (l : Launch) (Z : State) (a0 : Array Value) (hw : ∀ d ∈ tables_1, d.before a0 Z = true) (ws : List Jvm.Cond) (a1 : Addr) (a2 : Addr) (h0 : Heap) (n0 : Nat) (Z0 : n0 ≤ h0.size) :
    MetFree l (⟨KS, "setStatus", "(Ljava/lang/String;ZZ)V"⟩ : MethodName) (head1 (Jvm.Cond.code (⟨KS, "setStatus", "(Ljava/lang/String;ZZ)V"⟩ : MethodName) prog_18_method_7_code 6 none :: ws) R_ss01) (fun a U => a = #[(.ref a1), (.ref a2), (.int 0), (.int 1)] ∧ Z.Warmed39 U.vm ∧ U.heap = h0) (fun _ _ _ _ _ => True) (fun _ U o U' => ∃ v L, o = .returned v ∧ Qss01 Z a1 a2 h0 n0 v U'.heap L ∧ FrameEnd U o U' L R_ss01.cells R_ss01.slots) := by
  refine MetFree.of_bodySF (plainFor_of_name pn_386) hisR ?_
  intro p e s m args below meth c s₁ Bd hml0 hP hK
  obtain ⟨rfl, hZ, hh⟩ := hP
  have hx := Bd.exec
  have hby := Bd.bytes
  have hml : c.maxLocals = 6 := hml0
  have hown : s.vm.findClass KS = some m.cls := findClass_of_methodNamed Bd.named
  have hnm := (name_of_methodNamed Bd.named Bd.method).1
  have X0 : Stand p l e R_ss01 s m #[(.ref a1), (.ref a2), (.int 0), (.int 1)] below meth c s₁ [] 0 0 := Stand.of_body Bd
  have e0 : s₁.heap = h0 := by rw [← hh, Bd.state]; rfl
  have N0 := Fr.nil n0
  have pre0 : ∀ t, Steps p.tables e below (s₁.setTop (mkF m 0 #[.val (.ref a1), .val (.ref a2), .val (.int 0), .val (.int 1), .unset, .unset] [])) t → Steps p.tables e below (s₁.setTop (entryFrame m #[(.ref a1), (.ref a2), (.int 0), (.int 1)] 6)) t := fun t k => castTop (ef_ss01 m a1 a2 (0 : Int32) (1 : Int32)) k
  obtain ⟨fs, hr, hrun, hended, hW, hsame⟩ := X0.leave (v := none) (fun _ => rfl) Bd.notSynchronized
  refine ⟨_, _, pre0 _ ?_, hrun, hended, _, _, rfl, ?_, ⟨_, rfl⟩, hW, hsame.mono (by decide) (by decide)⟩
  · show Steps p.tables e below (s₁.setTop (mkF m 0 #[.val (.ref a1), .val (.ref a2), .val (.int 0), .val (.int 1), .unset, .unset] [])) _
    refine XS.iloadN X0.here hx rfl (hb hby d8_0) rfl ?_
    show Steps p.tables e below (s₁.setTop (mkF m 1 #[.val (.ref a1), .val (.ref a2), .val (.int 0), .val (.int 1), .unset, .unset] [(.int 0)])) _
    refine XS.ifYes X0.here hx rfl (pc0 := 1) (pc' := 8) rfl (hb hby d8_1) rfl ((if0 _ _).trans (teq (by decide : (0 : Int32) = (0 : Int32))).1) (by decide) (by decide) ?_
    refine XS.iconst X0.here hx rfl (hb hby d8_8) ?_
    refine XS.iloadN X0.here hx rfl (hb hby d8_9) rfl ?_
    show Steps p.tables e below (s₁.setTop (mkF m 10 #[.val (.ref a1), .val (.ref a2), .val (.int 0), .val (.int 1), .unset, .unset] [(.int 1), (.int 0)])) _
    refine XS.ifNo X0.here hx rfl (hb hby d8_10) rfl ((if0 _ _).trans (feq (by decide : ¬ ((1 : Int32) = (0 : Int32)))).1) ?_
    refine XS.iconst X0.here hx rfl (hb hby d8_13) ?_
    refine XS.goto X0.here hx rfl (pc0 := 14) (pc' := 18) rfl (hb hby d8_14) (by decide) (by decide) ?_
    refine XS.ior X0.here hx rfl (hb hby d8_18) rfl ?_
    show Steps p.tables e below (s₁.setTop (mkF m 19 #[.val (.ref a1), .val (.ref a2), .val (.int 0), .val (.int 1), .unset, .unset] [(.int 0)])) _
    refine XS.istore X0.here hx rfl (hb hby d8_19) rfl (l' := #[.val (.ref a1), .val (.ref a2), .val (.int 0), .val (.int 1), .val (.int 0), .unset]) rfl ?_
    refine XS.iload X0.here hx rfl (hb hby d8_21) rfl ?_
    show Steps p.tables e below (s₁.setTop (mkF m 23 #[.val (.ref a1), .val (.ref a2), .val (.int 0), .val (.int 1), .val (.int 0), .unset] [(.int 0)])) _
    refine XS.ifYes X0.here hx rfl (pc0 := 23) (pc' := 44) rfl (hb hby d8_23) rfl ((if0 _ _).trans (teq (by decide : (0 : Int32) = (0 : Int32))).1) (by decide) (by decide) ?_
    exact X0.returnOut hx Bd.returns (hb hby d8_44) hr
  · show Qss01 Z a1 a2 h0 n0 _ s₁.heap _
    rw [e0]
    exact ⟨rfl, N0, rfl⟩
theorem d8_4 : decode prog_18_method_7_code 4 = .ok (.iconst 2, 1) := by decide +kernel
theorem d8_5 : decode prog_18_method_7_code 5 = .ok (.goto 4, 3) := by decide +kernel
theorem ef_sE10 (m : MethodId) (x0 : Addr) (x1 : Addr) (x2 : Int32) (x3 : Int32) : entryFrame m #[(.ref x0), (.ref x1), (.int x2), (.int x3)] 6 = mkF m 0 #[.val (.ref x0), .val (.ref x1), .val (.int x2), .val (.int x3), .unset, .unset] [] := by first | (simp [entryFrame, mkF, argsToLocals, Value.category]; done) | rfl
abbrev R_sE10 : Room := { frames := 7, cells := 3, slots := 28, locals := 116 }
def QsE10 (Z : State) (a1 : Addr) (a2 : Addr) (aH : Addr) (aR : Addr) (aS : Addr) (kH : ClassId) (kR : ClassId) (kS : ClassId) (bv : Addr) (kb : ClassId) (b0 : Int32) (b1 : Int32) (hv : Int32) (zv : Int32) (cz : Int32) (fmt : Value) (h0 : Heap) (n0 : Nat) (v : Option Value) (h : Heap) (L : List Loc) : Prop := ∃ (n1 : Addr) (kn1 : ClassId), v = none ∧ Fr n0 L ∧ Keep h0 h [a1, a2, aH, aR, aS] ∧ n0 ≤ n1 ∧ h0.size ≤ n1 ∧ Exa Z h a1 KS ∧ Fld Z h a1 KS "hashes" "[I" (.ref aH) ∧ Fld Z h a1 KS "records" "[[I" (.ref aR) ∧ Fld Z h a1 KS "subjects" "[Ljava/lang/String;" (.ref aS) ∧ Fld Z h a1 KS "size" "I" (.int 1) ∧ Exa Z h a2 KJ ∧ Fld Z h a2 KJ "value" "[B" (.ref bv) ∧ Fld Z h a2 KJ "coder" "B" (.int 0) ∧ Fld Z h a2 KJ "hash" "I" (.int (own_hc b0 b1)) ∧ Fld Z h a2 KJ "hashIsZero" "Z" (.int (fhc_hashIsZero b0 b1 hv zv)) ∧ Arh Z h aH kH .int (16 : Int32) [(((own_hh b0 b1) &&& (15 : Int32)), (.int (own_hh b0 b1)))] [] (.int 0) ∧ Arh Z h aR kR (.array .int) (16 : Int32) [(((own_hh b0 b1) &&& (15 : Int32)), (.ref n1))] [] .null ∧ Arh Z h aS kS (.object KJ) (16 : Int32) [(((own_hh b0 b1) &&& (15 : Int32)), (.ref a2))] [] .null ∧ Arv Z h n1 kn1 .int (20 : Int32) [(.int 0), (.int 3), (.int ((own_k1 b0 b1).toInt32)), (.int ((((own_k1 b0 b1).toUInt64 >>> ((32 : Int32) &&& 0x3f).toInt64.toUInt64).toInt64).toInt32)), (.int 0), (.int 0), (.int 0), (.int 0), (.int 0), (.int 0), (.int 0), (.int 0), (.int 0), (.int 0), (.int 0), (.int 0), (.int 0), (.int 0), (.int 0), (.int 0)] (.int 0) ∧ Exa Z h n1 "[I"
set_option maxRecDepth 65536 in
set_option maxHeartbeats 40000000 in
theorem rmsE10 (l : Launch) (Z : State) (a0 : Array Value) (hw : ∀ d ∈ tables_1, d.before a0 Z = true) (ws : List Jvm.Cond) (a1 : Addr) (a2 : Addr) (aH : Addr) (aR : Addr) (aS : Addr) (kH : ClassId) (kR : ClassId) (kS : ClassId) (bv : Addr) (kb : ClassId) (b0 : Int32) (b1 : Int32) (hv : Int32) (zv : Int32) (cz : Int32) (fmt : Value) (h0 : Heap) (n0 : Nat) (Z0 : n0 ≤ h0.size) (E_a1 : Exa Z h0 a1 KS) (F_hashes_a1 : Fld Z h0 a1 KS "hashes" "[I" (.ref aH)) (F_records_a1 : Fld Z h0 a1 KS "records" "[[I" (.ref aR)) (F_subjects_a1 : Fld Z h0 a1 KS "subjects" "[Ljava/lang/String;" (.ref aS)) (F_size_a1 : Fld Z h0 a1 KS "size" "I" (.int 0)) (O0 : Old Z n0 h0) (S_COMPACT_STRINGS : Sta Z Z.heap KJ "COMPACT_STRINGS" "Z" (.int cz)) (hcz : ¬ (cz = (0 : Int32))) (S_SIOOBE_FORMATTER : Sta Z Z.heap "jdk/internal/util/Preconditions" "SIOOBE_FORMATTER" "Ljava/util/function/BiFunction;" fmt) (hfmt : fmt = .null ∨ ∃ a, fmt = .ref a) (E_a2 : Exa Z h0 a2 KJ) (F_value_a2 : Fld Z h0 a2 KJ "value" "[B" (.ref bv)) (F_coder_a2 : Fld Z h0 a2 KJ "coder" "B" (.int 0)) (V_bv : Arv Z h0 bv kb .byte (2 : Int32) [(.int b0), (.int b1)] (.int 0)) (E_bv : Exa Z h0 bv "[B") (F_hash_a2 : Fld Z h0 a2 KJ "hash" "I" (.int hv)) (F_hashIsZero_a2 : Fld Z h0 a2 KJ "hashIsZero" "Z" (.int zv)) (hinv : hv = (own_hc b0 b1) ∨ (hv = (0 : Int32) ∧ zv = (0 : Int32))) (V_aH : Arh Z h0 aH kH .int (16 : Int32) [] [] (.int 0)) (V_aR : Arh Z h0 aR kR (.array .int) (16 : Int32) [] [] .null) (V_aS : Arh Z h0 aS kS (.object KJ) (16 : Int32) [] [] .null) (OV_aR : OvrA Z kR .int "[I") (OV_aS : Ovr Z kS KJ) (g_a1 : n0 ≤ a1) (g_a2 : n0 ≤ a2) (g_aH : n0 ≤ aH) (g_aR : n0 ≤ aR) (g_aS : n0 ≤ aS) (ne_a1_a2 : a1 ≠ a2) (ne_a1_aH : a1 ≠ aH) (ne_a1_aR : a1 ≠ aR) (ne_a1_aS : a1 ≠ aS) (ne_a1_bv : a1 ≠ bv) (ne_a2_aH : a2 ≠ aH) (ne_a2_aR : a2 ≠ aR) (ne_a2_aS : a2 ≠ aS) (ne_a2_bv : a2 ≠ bv) (ne_aH_aR : aH ≠ aR) (ne_aH_aS : aH ≠ aS) (ne_aH_bv : aH ≠ bv) (ne_aR_aS : aR ≠ aS) (ne_aR_bv : aR ≠ bv) (ne_aS_bv : aS ≠ bv) :
    MetFree l (⟨KS, "setStatus", "(Ljava/lang/String;ZZ)V"⟩ : MethodName) (head1 (Jvm.Cond.code (⟨KS, "setStatus", "(Ljava/lang/String;ZZ)V"⟩ : MethodName) prog_18_method_7_code 6 none :: ws) R_sE10) (fun a U => a = #[(.ref a1), (.ref a2), (.int 1), (.int 0)] ∧ Z.Warmed39 U.vm ∧ U.heap = h0) (fun _ _ _ _ _ => True) (fun _ U o U' => ∃ v L, o = .returned v ∧ QsE10 Z a1 a2 aH aR aS kH kR kS bv kb b0 b1 hv zv cz fmt h0 n0 v U'.heap L ∧ FrameEnd U o U' L R_sE10.cells R_sE10.slots) := by
  refine MetFree.of_bodySF (plainFor_of_name pn_386) hisR ?_
  intro p e s m args below meth c s₁ Bd hml0 hP hK
  obtain ⟨rfl, hZ, hh⟩ := hP
  have hx := Bd.exec
  have hby := Bd.bytes
  have hml : c.maxLocals = 6 := hml0
  have hown : s.vm.findClass KS = some m.cls := findClass_of_methodNamed Bd.named
  have hnm := (name_of_methodNamed Bd.named Bd.method).1
  have X0 : Stand p l e R_sE10 s m #[(.ref a1), (.ref a2), (.int 1), (.int 0)] below meth c s₁ [] 0 0 := Stand.of_body Bd
  have e0 : s₁.heap = h0 := by rw [← hh, Bd.state]; rfl
  have N0 := Fr.nil n0
  have pre0 : ∀ t, Steps p.tables e below (s₁.setTop (mkF m 0 #[.val (.ref a1), .val (.ref a2), .val (.int 1), .val (.int 0), .unset, .unset] [])) t → Steps p.tables e below (s₁.setTop (entryFrame m #[(.ref a1), (.ref a2), (.int 1), (.int 0)] 6)) t := fun t k => castTop (ef_sE10 m a1 a2 (1 : Int32) (0 : Int32)) k
  -- pc 28: SubjectLines.held by rmhE
  obtain ⟨cq1, qc1, qc1'⟩ := E_a1.cell
  obtain ⟨_, _, ⟨T1, L1, ck1, cn1⟩, -, X1, ⟨Lc1, hQ1, l1, y1, z1⟩, st1⟩ := X0.privateBack hx (y := (⟨KS, "held", "(Ljava/lang/String;)I"⟩ : MethodName)) hown (mvT hZ (own_w hw (i := 156) rfl)) (mvT hZ (own_w hw (i := 157) rfl)) (own_sel (y := (⟨KS, "held", "(Ljava/lang/String;)I"⟩ : MethodName)) (mvT hZ (own_w hw (i := 31) rfl)) (Cond.privateMethod_at (mvP hZ (own_w hw (i := 158) rfl) (args := #[]))) (mvT hZ (own_w hw (i := 157) rfl)) (by decide)) (Cond.privateMethod_at (mvP hZ (own_w hw (i := 158) rfl) (args := #[]))) (mvT hZ (own_w hw (i := 159) rfl)) (by decide) (backOf (W := 0) (rmhE l Z a0 hw [] a1 a2 aH aR aS kH kR kS bv kb b0 b1 hv zv cz fmt h0 n0 Z0 E_a1 F_hashes_a1 F_records_a1 F_subjects_a1 F_size_a1 O0 S_COMPACT_STRINGS hcz S_SIOOBE_FORMATTER hfmt E_a2 F_value_a2 F_coder_a2 V_bv E_bv F_hash_a2 F_hashIsZero_a2 hinv V_aH V_aR V_aS OV_aR OV_aS g_a1 g_a2 g_aH g_aR g_aS ne_a1_a2 ne_a1_aH ne_a1_aR ne_a1_aS ne_a1_bv ne_a2_aH ne_a2_aR ne_a2_aS ne_a2_bv ne_aH_aR ne_aH_aS ne_aH_bv ne_aR_aS ne_aR_bv ne_aS_bv) hZ (own_w hw (i := 159) rfl) (own_w hw (i := 32) rfl) (by decide) (by decide)) (g := (mkF m 28 #[.val (.ref a1), .val (.ref a2), .val (.int 1), .val (.int 0), .val (.int 3), .unset] [(.ref a2), (.ref a1)])) rfl (by rw [hml]; rfl) (Steps.refl _) (a := a1) (by rw [e0]; exact qc1) qc1' (argsL := [(.ref a2)]) (rest := []) (lenOf pd_358 rfl) rfl (by show 2 * 0 + _ ≤ _; exact Nat.le_of_eq rfl) (hb hby d8_28) (fun _ _ => ⟨rfl, e0, (by decide : 0 + 3 ≤ _), (by decide : 0 + 28 ≤ _)⟩)
  dsimp only [Pt.U, Pt.locs, Pt.cells, Pt.slots] at X1 l1 y1 z1 st1 hQ1
  subst y1 z1
  obtain ⟨n1_1, kn1_1, rfl, N1q, K1q, gq1_0, sq1_0, o1_0, o1_1, o1_2, o1_3, o1_4, o1_5, o1_6, o1_7, o1_8, o1_9, o1_10, o1_11, o1_12, o1_13, o1_14⟩ := hQ1
  have N2 : Fr n0 L1 := by rw [l1]; exact Fr.app N0 N1q
  have ne3 : a1 ≠ n1_1 := Nat.ne_of_lt (Nat.lt_of_lt_of_le E_a1.lt sq1_0)
  have ne4 : a2 ≠ n1_1 := Nat.ne_of_lt (Nat.lt_of_lt_of_le E_a2.lt sq1_0)
  have ne6 : aH ≠ n1_1 := Nat.ne_of_lt (Nat.lt_of_lt_of_le V_aH.lt sq1_0)
  have ne7 : aR ≠ n1_1 := Nat.ne_of_lt (Nat.lt_of_lt_of_le V_aR.lt sq1_0)
  have ne8 : aS ≠ n1_1 := Nat.ne_of_lt (Nat.lt_of_lt_of_le V_aS.lt sq1_0)
  have sz_n1_1 : h0.size ≤ n1_1 := Nat.le_trans (Keep.refl h0 [a1, a2, aH, aR, aS]).1 sq1_0
  have K26 := (Keep.refl h0 [a1, a2, aH, aR, aS]).trans K1q (allS (Or.inl (List.mem_of_getElem? (i := 0) rfl)) (allS (Or.inl (List.mem_of_getElem? (i := 1) rfl)) (allS (Or.inl (List.mem_of_getElem? (i := 2) rfl)) (allS (Or.inl (List.mem_of_getElem? (i := 3) rfl)) (allS (Or.inl (List.mem_of_getElem? (i := 4) rfl)) all0)))))
  obtain ⟨T27, X27, e27, st27⟩ := getF X1 hx hZ hown (host := "") (Or.inl (own_w hw (i := 42) rfl)) Via.refl rfl o1_2 (g := (mkF m 34 #[.val (.ref a1), .val (.ref a2), .val (.int 1), .val (.int 0), .val (.int 3), .val (.int ((own_hh b0 b1) &&& (15 : Int32)))] [(.ref a1)])) rfl rfl (hb hby d8_34)
  obtain ⟨car28, Aar28, qar28, Sar28, Nar28, Har28, Gar28⟩ := id o1_11
  have hinar28 : ¬ (((own_hh b0 b1) &&& (15 : Int32)) < 0 ∨ car28.slots.size ≤ (((own_hh b0 b1) &&& (15 : Int32))).toNatClampNeg) := inb_of Sar28 (own_sl _)
  have hatar28 : car28.slots[(((own_hh b0 b1) &&& (15 : Int32))).toNatClampNeg]? = some (.ref n1_1) := atH (hs := [(((own_hh b0 b1) &&& (15 : Int32)), (.ref n1_1))]) (vs := []) (dv := .null) Har28 hinar28 (getH_hit (own_sl _).1 rfl)
  obtain ⟨car29, Aar29, qar29, Sar29, Nar29, Har29, Gar29⟩ := id o1_13
  have hinar29 : ¬ ((1 : Int32) < 0 ∨ car29.slots.size ≤ ((1 : Int32)).toNatClampNeg) := inb_of Sar29 ⟨by decide, by decide⟩
  obtain ⟨T30, h30, X30, e30, W30, st30⟩ := stI X27 hx hZ e27 Aar29 (j := (1 : Int32)) hinar29 (g := (mkF m 43 #[.val (.ref a1), .val (.ref a2), .val (.int 1), .val (.int 0), .val (.int 3), .val (.int ((own_hh b0 b1) &&& (15 : Int32)))] [(.int 3), (.int 1), (.ref n1_1)])) rfl rfl (hb hby d8_43)
  have V30 : Arv Z h30 n1_1 kn1_1 .int (20 : Int32) [(.int 0), (.int 3), (.int ((own_k1 b0 b1).toInt32)), (.int ((((own_k1 b0 b1).toUInt64 >>> ((32 : Int32) &&& 0x3f).toInt64.toUInt64).toInt64).toInt32)), (.int 0), (.int 0), (.int 0), (.int 0), (.int 0), (.int 0), (.int 0), (.int 0), (.int 0), (.int 0), (.int 0), (.int 0), (.int 0), (.int 0), (.int 0), (.int 0)] (.int 0) := Arv.set Aar29 qar29 Sar29 Nar29 Har29 Gar29 rfl W30 1 rfl (Nat.le_of_ble_eq_true rfl)
  have f31 := o1_0.wr W30
  have f33 := o1_5.wr W30
  have f36 := o1_1.other W30 (Or.inl ne3)
  have f37 := o1_2.other W30 (Or.inl ne3)
  have f38 := o1_3.other W30 (Or.inl ne3)
  have f39 := o1_4.other W30 (Or.inl ne3)
  have f40 := o1_6.other W30 (Or.inl ne4)
  have f41 := o1_7.other W30 (Or.inl ne4)
  have f42 := o1_8.other W30 (Or.inl ne4)
  have f43 := o1_9.other W30 (Or.inl ne4)
  have f44 := o1_10.other W30 ne6
  have f45 := o1_11.other W30 ne7
  have f46 := o1_12.other W30 ne8
  have f48 := o1_14.wr W30
  have K49 := K26.wr W30 (Or.inr sz_n1_1)
  have N51 := Fr.snoc X30 N2 gq1_0
  obtain ⟨fs, hr, hrun, hended, hW, hsame⟩ := X30.leave (v := none) (fun _ => rfl) Bd.notSynchronized
  refine ⟨_, _, pre0 _ ?_, hrun, hended, _, _, rfl, ?_, ⟨_, rfl⟩, hW, hsame.mono (by decide) (by decide)⟩
  · show Steps p.tables e below (s₁.setTop (mkF m 0 #[.val (.ref a1), .val (.ref a2), .val (.int 1), .val (.int 0), .unset, .unset] [])) _
    refine XS.iloadN X0.here hx rfl (hb hby d8_0) rfl ?_
    show Steps p.tables e below (s₁.setTop (mkF m 1 #[.val (.ref a1), .val (.ref a2), .val (.int 1), .val (.int 0), .unset, .unset] [(.int 1)])) _
    refine XS.ifNo X0.here hx rfl (hb hby d8_1) rfl ((if0 _ _).trans (feq (by decide : ¬ ((1 : Int32) = (0 : Int32)))).1) ?_
    refine XS.iconst X0.here hx rfl (hb hby d8_4) ?_
    refine XS.goto X0.here hx rfl (pc0 := 5) (pc' := 9) rfl (hb hby d8_5) (by decide) (by decide) ?_
    refine XS.iloadN X0.here hx rfl (hb hby d8_9) rfl ?_
    show Steps p.tables e below (s₁.setTop (mkF m 10 #[.val (.ref a1), .val (.ref a2), .val (.int 1), .val (.int 0), .unset, .unset] [(.int 0), (.int 2)])) _
    refine XS.ifYes X0.here hx rfl (pc0 := 10) (pc' := 17) rfl (hb hby d8_10) rfl ((if0 _ _).trans (teq (by decide : (0 : Int32) = (0 : Int32))).1) (by decide) (by decide) ?_
    refine XS.iconst X0.here hx rfl (hb hby d8_17) ?_
    refine XS.ior X0.here hx rfl (hb hby d8_18) rfl ?_
    show Steps p.tables e below (s₁.setTop (mkF m 19 #[.val (.ref a1), .val (.ref a2), .val (.int 1), .val (.int 0), .unset, .unset] [(.int 3)])) _
    refine XS.istore X0.here hx rfl (hb hby d8_19) rfl (l' := #[.val (.ref a1), .val (.ref a2), .val (.int 1), .val (.int 0), .val (.int 3), .unset]) rfl ?_
    refine XS.iload X0.here hx rfl (hb hby d8_21) rfl ?_
    show Steps p.tables e below (s₁.setTop (mkF m 23 #[.val (.ref a1), .val (.ref a2), .val (.int 1), .val (.int 0), .val (.int 3), .unset] [(.int 3)])) _
    refine XS.ifNo X0.here hx rfl (hb hby d8_23) rfl ((if0 _ _).trans (feq (by decide : ¬ ((3 : Int32) = (0 : Int32)))).1) ?_
    refine XS.aloadN X0.here hx rfl (hb hby d8_26) rfl rfl ?_
    refine XS.aloadN X0.here hx rfl (hb hby d8_27) rfl rfl ?_
    refine st1.trans ?_
    refine XS.istore X1.here hx rfl (hb hby d8_31) rfl (l' := #[.val (.ref a1), .val (.ref a2), .val (.int 1), .val (.int 0), .val (.int 3), .val (.int ((own_hh b0 b1) &&& (15 : Int32)))]) rfl ?_
    refine XS.aloadN X1.here hx rfl (hb hby d8_33) rfl rfl ?_
    show Steps p.tables e below (T1.setTop (mkF m 34 #[.val (.ref a1), .val (.ref a2), .val (.int 1), .val (.int 0), .val (.int 3), .val (.int ((own_hh b0 b1) &&& (15 : Int32)))] [(.ref a1)])) _
    refine st27 _ ?_
    refine XS.iload X27.here hx rfl (hb hby d8_37) rfl ?_
    refine X27.aaload hx (j := ((own_hh b0 b1) &&& (15 : Int32))) (v := (.ref n1_1)) (by rw [e27]; exact Aar28.1) (State.isArrayOf_alike hZ.alike Aar28.2.1) rfl Aar28.2.2 hinar28 hatar28 (g := (mkF m 39 #[.val (.ref a1), .val (.ref a2), .val (.int 1), .val (.int 0), .val (.int 3), .val (.int ((own_hh b0 b1) &&& (15 : Int32)))] [(.int ((own_hh b0 b1) &&& (15 : Int32))), (.ref aR)])) rfl rfl (hb hby d8_39) _ ?_
    refine XS.iconst X27.here hx rfl (hb hby d8_40) ?_
    refine XS.iload X27.here hx rfl (hb hby d8_41) rfl ?_
    refine st30 _ ?_
    exact X30.returnOut hx Bd.returns (hb hby d8_44) hr
  · show QsE10 Z a1 a2 aH aR aS kH kR kS bv kb b0 b1 hv zv cz fmt h0 n0 _ T30.heap _
    rw [e30]
    exact ⟨n1_1, kn1_1, rfl, N51, K49, gq1_0, sz_n1_1, f31, f36, f37, f38, f39, f33, f40, f41, f42, f43, f44, f45, f46, V30, f48⟩
theorem ef_sO10 (m : MethodId) (x0 : Addr) (x1 : Addr) (x2 : Int32) (x3 : Int32) : entryFrame m #[(.ref x0), (.ref x1), (.int x2), (.int x3)] 6 = mkF m 0 #[.val (.ref x0), .val (.ref x1), .val (.int x2), .val (.int x3), .unset, .unset] [] := by first | (simp [entryFrame, mkF, argsToLocals, Value.category]; done) | rfl
abbrev R_sO10 : Room := { frames := 7, cells := 1, slots := 5, locals := 116 }
def QsO10 (Z : State) (a1 : Addr) (a2 : Addr) (aH : Addr) (aR : Addr) (aS : Addr) (kH : ClassId) (kR : ClassId) (bv : Addr) (kb : ClassId) (b0 : Int32) (b1 : Int32) (hv : Int32) (zv : Int32) (cz : Int32) (fmt : Value) (rc : Addr) (kr : ClassId) (r0 : Int32) (r1 : Int32) (r8 : Int32) (r9 : Int32) (r10 : Int32) (r11 : Int32) (r12 : Int32) (r13 : Int32) (r14 : Int32) (r15 : Int32) (r16 : Int32) (r17 : Int32) (r18 : Int32) (r19 : Int32) (h0 : Heap) (n0 : Nat) (v : Option Value) (h : Heap) (L : List Loc) : Prop := v = none ∧ Fr n0 L ∧ Keep h0 h [a2, rc] ∧ Exa Z h a2 KJ ∧ Fld Z h a2 KJ "value" "[B" (.ref bv) ∧ Fld Z h a2 KJ "coder" "B" (.int 0) ∧ Fld Z h a2 KJ "hash" "I" (.int (own_hc b0 b1)) ∧ Fld Z h a2 KJ "hashIsZero" "Z" (.int (fhc_hashIsZero b0 b1 hv zv)) ∧ Arv Z h rc kr .int (20 : Int32) [(.int r0), (.int 3), (.int ((own_k1 b0 b1).toInt32)), (.int ((((own_k1 b0 b1).toUInt64 >>> ((32 : Int32) &&& 0x3f).toInt64.toUInt64).toInt64).toInt32)), (.int 0), (.int 0), (.int 0), (.int 0), (.int r8), (.int r9), (.int r10), (.int r11), (.int r12), (.int r13), (.int r14), (.int r15), (.int r16), (.int r17), (.int r18), (.int r19)] (.int 0)
set_option maxRecDepth 65536 in
set_option maxHeartbeats 40000000 in
theorem rmsO10 (l : Launch) (Z : State) (a0 : Array Value) (hw : ∀ d ∈ tables_1, d.before a0 Z = true) (ws : List Jvm.Cond) (a1 : Addr) (a2 : Addr) (aH : Addr) (aR : Addr) (aS : Addr) (kH : ClassId) (kR : ClassId) (bv : Addr) (kb : ClassId) (b0 : Int32) (b1 : Int32) (hv : Int32) (zv : Int32) (cz : Int32) (fmt : Value) (rc : Addr) (kr : ClassId) (r0 : Int32) (r1 : Int32) (r8 : Int32) (r9 : Int32) (r10 : Int32) (r11 : Int32) (r12 : Int32) (r13 : Int32) (r14 : Int32) (r15 : Int32) (r16 : Int32) (r17 : Int32) (r18 : Int32) (r19 : Int32) (h0 : Heap) (n0 : Nat) (Z0 : n0 ≤ h0.size) (E_a1 : Exa Z h0 a1 KS) (F_hashes_a1 : Fld Z h0 a1 KS "hashes" "[I" (.ref aH)) (F_records_a1 : Fld Z h0 a1 KS "records" "[[I" (.ref aR)) (F_subjects_a1 : Fld Z h0 a1 KS "subjects" "[Ljava/lang/String;" (.ref aS)) (O0 : Old Z n0 h0) (S_COMPACT_STRINGS : Sta Z Z.heap KJ "COMPACT_STRINGS" "Z" (.int cz)) (hcz : ¬ (cz = (0 : Int32))) (S_SIOOBE_FORMATTER : Sta Z Z.heap "jdk/internal/util/Preconditions" "SIOOBE_FORMATTER" "Ljava/util/function/BiFunction;" fmt) (hfmt : fmt = .null ∨ ∃ a, fmt = .ref a) (E_a2 : Exa Z h0 a2 KJ) (F_value_a2 : Fld Z h0 a2 KJ "value" "[B" (.ref bv)) (F_coder_a2 : Fld Z h0 a2 KJ "coder" "B" (.int 0)) (V_bv : Arv Z h0 bv kb .byte (2 : Int32) [(.int b0), (.int b1)] (.int 0)) (E_bv : Exa Z h0 bv "[B") (F_hash_a2 : Fld Z h0 a2 KJ "hash" "I" (.int hv)) (F_hashIsZero_a2 : Fld Z h0 a2 KJ "hashIsZero" "Z" (.int zv)) (hinv : hv = (own_hc b0 b1) ∨ (hv = (0 : Int32) ∧ zv = (0 : Int32))) (V_aH : Arh Z h0 aH kH .int (16 : Int32) [(((own_hh b0 b1) &&& (15 : Int32)), (.int (own_hh b0 b1)))] [] (.int 0)) (V_aR : Arh Z h0 aR kR (.array .int) (16 : Int32) [(((own_hh b0 b1) &&& (15 : Int32)), (.ref rc))] [] .null) (V_rc : Arv Z h0 rc kr .int (20 : Int32) [(.int r0), (.int r1), (.int ((own_k1 b0 b1).toInt32)), (.int ((((own_k1 b0 b1).toUInt64 >>> ((32 : Int32) &&& 0x3f).toInt64.toUInt64).toInt64).toInt32)), (.int 0), (.int 0), (.int 0), (.int 0), (.int r8), (.int r9), (.int r10), (.int r11), (.int r12), (.int r13), (.int r14), (.int r15), (.int r16), (.int r17), (.int r18), (.int r19)] (.int 0)) (g_a2 : n0 ≤ a2) (ne_a2_a1 : a2 ≠ a1) (ne_a2_aH : a2 ≠ aH) (ne_a2_aR : a2 ≠ aR) (ne_a2_bv : a2 ≠ bv) (ne_a2_rc : a2 ≠ rc) (g_rc : n0 ≤ rc) (ne_rc_a1 : rc ≠ a1) (ne_rc_aH : rc ≠ aH) (ne_rc_aR : rc ≠ aR) (ne_rc_bv : rc ≠ bv) :
    MetFree l (⟨KS, "setStatus", "(Ljava/lang/String;ZZ)V"⟩ : MethodName) (head1 (Jvm.Cond.code (⟨KS, "setStatus", "(Ljava/lang/String;ZZ)V"⟩ : MethodName) prog_18_method_7_code 6 none :: ws) R_sO10) (fun a U => a = #[(.ref a1), (.ref a2), (.int 1), (.int 0)] ∧ Z.Warmed39 U.vm ∧ U.heap = h0) (fun _ _ _ _ _ => True) (fun _ U o U' => ∃ v L, o = .returned v ∧ QsO10 Z a1 a2 aH aR aS kH kR bv kb b0 b1 hv zv cz fmt rc kr r0 r1 r8 r9 r10 r11 r12 r13 r14 r15 r16 r17 r18 r19 h0 n0 v U'.heap L ∧ FrameEnd U o U' L R_sO10.cells R_sO10.slots) := by
  refine MetFree.of_bodySF (plainFor_of_name pn_386) hisR ?_
  intro p e s m args below meth c s₁ Bd hml0 hP hK
  obtain ⟨rfl, hZ, hh⟩ := hP
  have hx := Bd.exec
  have hby := Bd.bytes
  have hml : c.maxLocals = 6 := hml0
  have hown : s.vm.findClass KS = some m.cls := findClass_of_methodNamed Bd.named
  have hnm := (name_of_methodNamed Bd.named Bd.method).1
  have X0 : Stand p l e R_sO10 s m #[(.ref a1), (.ref a2), (.int 1), (.int 0)] below meth c s₁ [] 0 0 := Stand.of_body Bd
  have e0 : s₁.heap = h0 := by rw [← hh, Bd.state]; rfl
  have N0 := Fr.nil n0
  have pre0 : ∀ t, Steps p.tables e below (s₁.setTop (mkF m 0 #[.val (.ref a1), .val (.ref a2), .val (.int 1), .val (.int 0), .unset, .unset] [])) t → Steps p.tables e below (s₁.setTop (entryFrame m #[(.ref a1), (.ref a2), (.int 1), (.int 0)] 6)) t := fun t k => castTop (ef_sO10 m a1 a2 (1 : Int32) (0 : Int32)) k
  -- pc 28: SubjectLines.held by rmhO
  obtain ⟨cq1, qc1, qc1'⟩ := E_a1.cell
  obtain ⟨_, _, ⟨T1, L1, ck1, cn1⟩, -, X1, ⟨Lc1, hQ1, l1, y1, z1⟩, st1⟩ := X0.privateBack hx (y := (⟨KS, "held", "(Ljava/lang/String;)I"⟩ : MethodName)) hown (mvT hZ (own_w hw (i := 156) rfl)) (mvT hZ (own_w hw (i := 157) rfl)) (own_sel (y := (⟨KS, "held", "(Ljava/lang/String;)I"⟩ : MethodName)) (mvT hZ (own_w hw (i := 31) rfl)) (Cond.privateMethod_at (mvP hZ (own_w hw (i := 158) rfl) (args := #[]))) (mvT hZ (own_w hw (i := 157) rfl)) (by decide)) (Cond.privateMethod_at (mvP hZ (own_w hw (i := 158) rfl) (args := #[]))) (mvT hZ (own_w hw (i := 159) rfl)) (by decide) (backOf (W := 0) (rmhO l Z a0 hw [] a1 a2 aH aR aS kH kR bv kb b0 b1 hv zv cz fmt rc kr r0 r1 r8 r9 r10 r11 r12 r13 r14 r15 r16 r17 r18 r19 h0 n0 Z0 E_a1 F_hashes_a1 F_records_a1 F_subjects_a1 O0 S_COMPACT_STRINGS hcz S_SIOOBE_FORMATTER hfmt E_a2 F_value_a2 F_coder_a2 V_bv E_bv F_hash_a2 F_hashIsZero_a2 hinv V_aH V_aR V_rc g_a2 ne_a2_a1 ne_a2_aH ne_a2_aR ne_a2_bv ne_a2_rc) hZ (own_w hw (i := 159) rfl) (own_w hw (i := 32) rfl) (by decide) (by decide)) (g := (mkF m 28 #[.val (.ref a1), .val (.ref a2), .val (.int 1), .val (.int 0), .val (.int 3), .unset] [(.ref a2), (.ref a1)])) rfl (by rw [hml]; rfl) (Steps.refl _) (a := a1) (by rw [e0]; exact qc1) qc1' (argsL := [(.ref a2)]) (rest := []) (lenOf pd_358 rfl) rfl (by show 2 * 0 + _ ≤ _; exact Nat.le_of_eq rfl) (hb hby d8_28) (fun _ _ => ⟨rfl, e0, (by decide : 0 + 1 ≤ _), (by decide : 0 + 5 ≤ _)⟩)
  dsimp only [Pt.U, Pt.locs, Pt.cells, Pt.slots] at X1 l1 y1 z1 st1 hQ1
  subst y1 z1
  obtain ⟨rfl, N1q, K1q, o1_0, o1_1, o1_2, o1_3, o1_4⟩ := hQ1
  have N2 : Fr n0 L1 := by rw [l1]; exact Fr.app N0 N1q
  have f5 := F_records_a1.keep K1q (ninS (Ne.symm ne_a2_a1) nin0)
  have f16 := V_aR.keep K1q (ninS (Ne.symm ne_a2_aR) nin0)
  have f17 := V_rc.keep K1q (ninS (Ne.symm ne_a2_rc) nin0)
  have K19 := (Keep.refl h0 [a2, rc]).trans K1q (allS (Or.inl (List.mem_of_getElem? (i := 0) rfl)) all0)
  obtain ⟨T20, X20, e20, st20⟩ := getF X1 hx hZ hown (host := "") (Or.inl (own_w hw (i := 42) rfl)) Via.refl rfl f5 (g := (mkF m 34 #[.val (.ref a1), .val (.ref a2), .val (.int 1), .val (.int 0), .val (.int 3), .val (.int ((own_hh b0 b1) &&& (15 : Int32)))] [(.ref a1)])) rfl rfl (hb hby d8_34)
  obtain ⟨car21, Aar21, qar21, Sar21, Nar21, Har21, Gar21⟩ := id f16
  have hinar21 : ¬ (((own_hh b0 b1) &&& (15 : Int32)) < 0 ∨ car21.slots.size ≤ (((own_hh b0 b1) &&& (15 : Int32))).toNatClampNeg) := inb_of Sar21 (own_sl _)
  have hatar21 : car21.slots[(((own_hh b0 b1) &&& (15 : Int32))).toNatClampNeg]? = some (.ref rc) := atH (hs := [(((own_hh b0 b1) &&& (15 : Int32)), (.ref rc))]) (vs := []) (dv := .null) Har21 hinar21 (getH_hit (own_sl _).1 rfl)
  obtain ⟨car22, Aar22, qar22, Sar22, Nar22, Har22, Gar22⟩ := id f17
  have hinar22 : ¬ ((1 : Int32) < 0 ∨ car22.slots.size ≤ ((1 : Int32)).toNatClampNeg) := inb_of Sar22 ⟨by decide, by decide⟩
  obtain ⟨T23, h23, X23, e23, W23, st23⟩ := stI X20 hx hZ e20 Aar22 (j := (1 : Int32)) hinar22 (g := (mkF m 43 #[.val (.ref a1), .val (.ref a2), .val (.int 1), .val (.int 0), .val (.int 3), .val (.int ((own_hh b0 b1) &&& (15 : Int32)))] [(.int 3), (.int 1), (.ref rc)])) rfl rfl (hb hby d8_43)
  have V23 : Arv Z h23 rc kr .int (20 : Int32) [(.int r0), (.int 3), (.int ((own_k1 b0 b1).toInt32)), (.int ((((own_k1 b0 b1).toUInt64 >>> ((32 : Int32) &&& 0x3f).toInt64.toUInt64).toInt64).toInt32)), (.int 0), (.int 0), (.int 0), (.int 0), (.int r8), (.int r9), (.int r10), (.int r11), (.int r12), (.int r13), (.int r14), (.int r15), (.int r16), (.int r17), (.int r18), (.int r19)] (.int 0) := Arv.set Aar22 qar22 Sar22 Nar22 Har22 Gar22 rfl W23 1 rfl (Nat.le_of_ble_eq_true rfl)
  have f29 := o1_0.wr W23
  have f35 := o1_1.other W23 (Or.inl ne_a2_rc)
  have f36 := o1_2.other W23 (Or.inl ne_a2_rc)
  have f37 := o1_3.other W23 (Or.inl ne_a2_rc)
  have f38 := o1_4.other W23 (Or.inl ne_a2_rc)
  have K39 := K19.wr W23 (Or.inl (List.mem_of_getElem? (i := 1) rfl))
  have N41 := Fr.snoc X23 N2 g_rc
  obtain ⟨fs, hr, hrun, hended, hW, hsame⟩ := X23.leave (v := none) (fun _ => rfl) Bd.notSynchronized
  refine ⟨_, _, pre0 _ ?_, hrun, hended, _, _, rfl, ?_, ⟨_, rfl⟩, hW, hsame.mono (by decide) (by decide)⟩
  · show Steps p.tables e below (s₁.setTop (mkF m 0 #[.val (.ref a1), .val (.ref a2), .val (.int 1), .val (.int 0), .unset, .unset] [])) _
    refine XS.iloadN X0.here hx rfl (hb hby d8_0) rfl ?_
    show Steps p.tables e below (s₁.setTop (mkF m 1 #[.val (.ref a1), .val (.ref a2), .val (.int 1), .val (.int 0), .unset, .unset] [(.int 1)])) _
    refine XS.ifNo X0.here hx rfl (hb hby d8_1) rfl ((if0 _ _).trans (feq (by decide : ¬ ((1 : Int32) = (0 : Int32)))).1) ?_
    refine XS.iconst X0.here hx rfl (hb hby d8_4) ?_
    refine XS.goto X0.here hx rfl (pc0 := 5) (pc' := 9) rfl (hb hby d8_5) (by decide) (by decide) ?_
    refine XS.iloadN X0.here hx rfl (hb hby d8_9) rfl ?_
    show Steps p.tables e below (s₁.setTop (mkF m 10 #[.val (.ref a1), .val (.ref a2), .val (.int 1), .val (.int 0), .unset, .unset] [(.int 0), (.int 2)])) _
    refine XS.ifYes X0.here hx rfl (pc0 := 10) (pc' := 17) rfl (hb hby d8_10) rfl ((if0 _ _).trans (teq (by decide : (0 : Int32) = (0 : Int32))).1) (by decide) (by decide) ?_
    refine XS.iconst X0.here hx rfl (hb hby d8_17) ?_
    refine XS.ior X0.here hx rfl (hb hby d8_18) rfl ?_
    show Steps p.tables e below (s₁.setTop (mkF m 19 #[.val (.ref a1), .val (.ref a2), .val (.int 1), .val (.int 0), .unset, .unset] [(.int 3)])) _
    refine XS.istore X0.here hx rfl (hb hby d8_19) rfl (l' := #[.val (.ref a1), .val (.ref a2), .val (.int 1), .val (.int 0), .val (.int 3), .unset]) rfl ?_
    refine XS.iload X0.here hx rfl (hb hby d8_21) rfl ?_
    show Steps p.tables e below (s₁.setTop (mkF m 23 #[.val (.ref a1), .val (.ref a2), .val (.int 1), .val (.int 0), .val (.int 3), .unset] [(.int 3)])) _
    refine XS.ifNo X0.here hx rfl (hb hby d8_23) rfl ((if0 _ _).trans (feq (by decide : ¬ ((3 : Int32) = (0 : Int32)))).1) ?_
    refine XS.aloadN X0.here hx rfl (hb hby d8_26) rfl rfl ?_
    refine XS.aloadN X0.here hx rfl (hb hby d8_27) rfl rfl ?_
    refine st1.trans ?_
    refine XS.istore X1.here hx rfl (hb hby d8_31) rfl (l' := #[.val (.ref a1), .val (.ref a2), .val (.int 1), .val (.int 0), .val (.int 3), .val (.int ((own_hh b0 b1) &&& (15 : Int32)))]) rfl ?_
    refine XS.aloadN X1.here hx rfl (hb hby d8_33) rfl rfl ?_
    show Steps p.tables e below (T1.setTop (mkF m 34 #[.val (.ref a1), .val (.ref a2), .val (.int 1), .val (.int 0), .val (.int 3), .val (.int ((own_hh b0 b1) &&& (15 : Int32)))] [(.ref a1)])) _
    refine st20 _ ?_
    refine XS.iload X20.here hx rfl (hb hby d8_37) rfl ?_
    refine X20.aaload hx (j := ((own_hh b0 b1) &&& (15 : Int32))) (v := (.ref rc)) (by rw [e20]; exact Aar21.1) (State.isArrayOf_alike hZ.alike Aar21.2.1) rfl Aar21.2.2 hinar21 hatar21 (g := (mkF m 39 #[.val (.ref a1), .val (.ref a2), .val (.int 1), .val (.int 0), .val (.int 3), .val (.int ((own_hh b0 b1) &&& (15 : Int32)))] [(.int ((own_hh b0 b1) &&& (15 : Int32))), (.ref aR)])) rfl rfl (hb hby d8_39) _ ?_
    refine XS.iconst X20.here hx rfl (hb hby d8_40) ?_
    refine XS.iload X20.here hx rfl (hb hby d8_41) rfl ?_
    refine st23 _ ?_
    exact X23.returnOut hx Bd.returns (hb hby d8_44) hr
  · show QsO10 Z a1 a2 aH aR aS kH kR bv kb b0 b1 hv zv cz fmt rc kr r0 r1 r8 r9 r10 r11 r12 r13 r14 r15 r16 r17 r18 r19 h0 n0 _ T23.heap _
    rw [e23]
    exact ⟨rfl, N41, K39, f29, f35, f36, f37, f38, V23⟩
theorem ef_sE11 (m : MethodId) (x0 : Addr) (x1 : Addr) (x2 : Int32) (x3 : Int32) : entryFrame m #[(.ref x0), (.ref x1), (.int x2), (.int x3)] 6 = mkF m 0 #[.val (.ref x0), .val (.ref x1), .val (.int x2), .val (.int x3), .unset, .unset] [] := by first | (simp [entryFrame, mkF, argsToLocals, Value.category]; done) | rfl
abbrev R_sE11 : Room := { frames := 7, cells := 3, slots := 28, locals := 116 }
def QsE11 (Z : State) (a1 : Addr) (a2 : Addr) (aH : Addr) (aR : Addr) (aS : Addr) (kH : ClassId) (kR : ClassId) (kS : ClassId) (bv : Addr) (kb : ClassId) (b0 : Int32) (b1 : Int32) (hv : Int32) (zv : Int32) (cz : Int32) (fmt : Value) (h0 : Heap) (n0 : Nat) (v : Option Value) (h : Heap) (L : List Loc) : Prop := ∃ (n1 : Addr) (kn1 : ClassId), v = none ∧ Fr n0 L ∧ Keep h0 h [a1, a2, aH, aR, aS] ∧ n0 ≤ n1 ∧ h0.size ≤ n1 ∧ Exa Z h a1 KS ∧ Fld Z h a1 KS "hashes" "[I" (.ref aH) ∧ Fld Z h a1 KS "records" "[[I" (.ref aR) ∧ Fld Z h a1 KS "subjects" "[Ljava/lang/String;" (.ref aS) ∧ Fld Z h a1 KS "size" "I" (.int 1) ∧ Exa Z h a2 KJ ∧ Fld Z h a2 KJ "value" "[B" (.ref bv) ∧ Fld Z h a2 KJ "coder" "B" (.int 0) ∧ Fld Z h a2 KJ "hash" "I" (.int (own_hc b0 b1)) ∧ Fld Z h a2 KJ "hashIsZero" "Z" (.int (fhc_hashIsZero b0 b1 hv zv)) ∧ Arh Z h aH kH .int (16 : Int32) [(((own_hh b0 b1) &&& (15 : Int32)), (.int (own_hh b0 b1)))] [] (.int 0) ∧ Arh Z h aR kR (.array .int) (16 : Int32) [(((own_hh b0 b1) &&& (15 : Int32)), (.ref n1))] [] .null ∧ Arh Z h aS kS (.object KJ) (16 : Int32) [(((own_hh b0 b1) &&& (15 : Int32)), (.ref a2))] [] .null ∧ Arv Z h n1 kn1 .int (20 : Int32) [(.int 0), (.int 2), (.int ((own_k1 b0 b1).toInt32)), (.int ((((own_k1 b0 b1).toUInt64 >>> ((32 : Int32) &&& 0x3f).toInt64.toUInt64).toInt64).toInt32)), (.int 0), (.int 0), (.int 0), (.int 0), (.int 0), (.int 0), (.int 0), (.int 0), (.int 0), (.int 0), (.int 0), (.int 0), (.int 0), (.int 0), (.int 0), (.int 0)] (.int 0) ∧ Exa Z h n1 "[I"
set_option maxRecDepth 65536 in
set_option maxHeartbeats 40000000 in
theorem rmsE11 (l : Launch) (Z : State) (a0 : Array Value) (hw : ∀ d ∈ tables_1, d.before a0 Z = true) (ws : List Jvm.Cond) (a1 : Addr) (a2 : Addr) (aH : Addr) (aR : Addr) (aS : Addr) (kH : ClassId) (kR : ClassId) (kS : ClassId) (bv : Addr) (kb : ClassId) (b0 : Int32) (b1 : Int32) (hv : Int32) (zv : Int32) (cz : Int32) (fmt : Value) (h0 : Heap) (n0 : Nat) (Z0 : n0 ≤ h0.size) (E_a1 : Exa Z h0 a1 KS) (F_hashes_a1 : Fld Z h0 a1 KS "hashes" "[I" (.ref aH)) (F_records_a1 : Fld Z h0 a1 KS "records" "[[I" (.ref aR)) (F_subjects_a1 : Fld Z h0 a1 KS "subjects" "[Ljava/lang/String;" (.ref aS)) (F_size_a1 : Fld Z h0 a1 KS "size" "I" (.int 0)) (O0 : Old Z n0 h0) (S_COMPACT_STRINGS : Sta Z Z.heap KJ "COMPACT_STRINGS" "Z" (.int cz)) (hcz : ¬ (cz = (0 : Int32))) (S_SIOOBE_FORMATTER : Sta Z Z.heap "jdk/internal/util/Preconditions" "SIOOBE_FORMATTER" "Ljava/util/function/BiFunction;" fmt) (hfmt : fmt = .null ∨ ∃ a, fmt = .ref a) (E_a2 : Exa Z h0 a2 KJ) (F_value_a2 : Fld Z h0 a2 KJ "value" "[B" (.ref bv)) (F_coder_a2 : Fld Z h0 a2 KJ "coder" "B" (.int 0)) (V_bv : Arv Z h0 bv kb .byte (2 : Int32) [(.int b0), (.int b1)] (.int 0)) (E_bv : Exa Z h0 bv "[B") (F_hash_a2 : Fld Z h0 a2 KJ "hash" "I" (.int hv)) (F_hashIsZero_a2 : Fld Z h0 a2 KJ "hashIsZero" "Z" (.int zv)) (hinv : hv = (own_hc b0 b1) ∨ (hv = (0 : Int32) ∧ zv = (0 : Int32))) (V_aH : Arh Z h0 aH kH .int (16 : Int32) [] [] (.int 0)) (V_aR : Arh Z h0 aR kR (.array .int) (16 : Int32) [] [] .null) (V_aS : Arh Z h0 aS kS (.object KJ) (16 : Int32) [] [] .null) (OV_aR : OvrA Z kR .int "[I") (OV_aS : Ovr Z kS KJ) (g_a1 : n0 ≤ a1) (g_a2 : n0 ≤ a2) (g_aH : n0 ≤ aH) (g_aR : n0 ≤ aR) (g_aS : n0 ≤ aS) (ne_a1_a2 : a1 ≠ a2) (ne_a1_aH : a1 ≠ aH) (ne_a1_aR : a1 ≠ aR) (ne_a1_aS : a1 ≠ aS) (ne_a1_bv : a1 ≠ bv) (ne_a2_aH : a2 ≠ aH) (ne_a2_aR : a2 ≠ aR) (ne_a2_aS : a2 ≠ aS) (ne_a2_bv : a2 ≠ bv) (ne_aH_aR : aH ≠ aR) (ne_aH_aS : aH ≠ aS) (ne_aH_bv : aH ≠ bv) (ne_aR_aS : aR ≠ aS) (ne_aR_bv : aR ≠ bv) (ne_aS_bv : aS ≠ bv) :
    MetFree l (⟨KS, "setStatus", "(Ljava/lang/String;ZZ)V"⟩ : MethodName) (head1 (Jvm.Cond.code (⟨KS, "setStatus", "(Ljava/lang/String;ZZ)V"⟩ : MethodName) prog_18_method_7_code 6 none :: ws) R_sE11) (fun a U => a = #[(.ref a1), (.ref a2), (.int 1), (.int 1)] ∧ Z.Warmed39 U.vm ∧ U.heap = h0) (fun _ _ _ _ _ => True) (fun _ U o U' => ∃ v L, o = .returned v ∧ QsE11 Z a1 a2 aH aR aS kH kR kS bv kb b0 b1 hv zv cz fmt h0 n0 v U'.heap L ∧ FrameEnd U o U' L R_sE11.cells R_sE11.slots) := by
  refine MetFree.of_bodySF (plainFor_of_name pn_386) hisR ?_
  intro p e s m args below meth c s₁ Bd hml0 hP hK
  obtain ⟨rfl, hZ, hh⟩ := hP
  have hx := Bd.exec
  have hby := Bd.bytes
  have hml : c.maxLocals = 6 := hml0
  have hown : s.vm.findClass KS = some m.cls := findClass_of_methodNamed Bd.named
  have hnm := (name_of_methodNamed Bd.named Bd.method).1
  have X0 : Stand p l e R_sE11 s m #[(.ref a1), (.ref a2), (.int 1), (.int 1)] below meth c s₁ [] 0 0 := Stand.of_body Bd
  have e0 : s₁.heap = h0 := by rw [← hh, Bd.state]; rfl
  have N0 := Fr.nil n0
  have pre0 : ∀ t, Steps p.tables e below (s₁.setTop (mkF m 0 #[.val (.ref a1), .val (.ref a2), .val (.int 1), .val (.int 1), .unset, .unset] [])) t → Steps p.tables e below (s₁.setTop (entryFrame m #[(.ref a1), (.ref a2), (.int 1), (.int 1)] 6)) t := fun t k => castTop (ef_sE11 m a1 a2 (1 : Int32) (1 : Int32)) k
  -- pc 28: SubjectLines.held by rmhE
  obtain ⟨cq1, qc1, qc1'⟩ := E_a1.cell
  obtain ⟨_, _, ⟨T1, L1, ck1, cn1⟩, -, X1, ⟨Lc1, hQ1, l1, y1, z1⟩, st1⟩ := X0.privateBack hx (y := (⟨KS, "held", "(Ljava/lang/String;)I"⟩ : MethodName)) hown (mvT hZ (own_w hw (i := 156) rfl)) (mvT hZ (own_w hw (i := 157) rfl)) (own_sel (y := (⟨KS, "held", "(Ljava/lang/String;)I"⟩ : MethodName)) (mvT hZ (own_w hw (i := 31) rfl)) (Cond.privateMethod_at (mvP hZ (own_w hw (i := 158) rfl) (args := #[]))) (mvT hZ (own_w hw (i := 157) rfl)) (by decide)) (Cond.privateMethod_at (mvP hZ (own_w hw (i := 158) rfl) (args := #[]))) (mvT hZ (own_w hw (i := 159) rfl)) (by decide) (backOf (W := 0) (rmhE l Z a0 hw [] a1 a2 aH aR aS kH kR kS bv kb b0 b1 hv zv cz fmt h0 n0 Z0 E_a1 F_hashes_a1 F_records_a1 F_subjects_a1 F_size_a1 O0 S_COMPACT_STRINGS hcz S_SIOOBE_FORMATTER hfmt E_a2 F_value_a2 F_coder_a2 V_bv E_bv F_hash_a2 F_hashIsZero_a2 hinv V_aH V_aR V_aS OV_aR OV_aS g_a1 g_a2 g_aH g_aR g_aS ne_a1_a2 ne_a1_aH ne_a1_aR ne_a1_aS ne_a1_bv ne_a2_aH ne_a2_aR ne_a2_aS ne_a2_bv ne_aH_aR ne_aH_aS ne_aH_bv ne_aR_aS ne_aR_bv ne_aS_bv) hZ (own_w hw (i := 159) rfl) (own_w hw (i := 32) rfl) (by decide) (by decide)) (g := (mkF m 28 #[.val (.ref a1), .val (.ref a2), .val (.int 1), .val (.int 1), .val (.int 2), .unset] [(.ref a2), (.ref a1)])) rfl (by rw [hml]; rfl) (Steps.refl _) (a := a1) (by rw [e0]; exact qc1) qc1' (argsL := [(.ref a2)]) (rest := []) (lenOf pd_358 rfl) rfl (by show 2 * 0 + _ ≤ _; exact Nat.le_of_eq rfl) (hb hby d8_28) (fun _ _ => ⟨rfl, e0, (by decide : 0 + 3 ≤ _), (by decide : 0 + 28 ≤ _)⟩)
  dsimp only [Pt.U, Pt.locs, Pt.cells, Pt.slots] at X1 l1 y1 z1 st1 hQ1
  subst y1 z1
  obtain ⟨n1_1, kn1_1, rfl, N1q, K1q, gq1_0, sq1_0, o1_0, o1_1, o1_2, o1_3, o1_4, o1_5, o1_6, o1_7, o1_8, o1_9, o1_10, o1_11, o1_12, o1_13, o1_14⟩ := hQ1
  have N2 : Fr n0 L1 := by rw [l1]; exact Fr.app N0 N1q
  have ne3 : a1 ≠ n1_1 := Nat.ne_of_lt (Nat.lt_of_lt_of_le E_a1.lt sq1_0)
  have ne4 : a2 ≠ n1_1 := Nat.ne_of_lt (Nat.lt_of_lt_of_le E_a2.lt sq1_0)
  have ne6 : aH ≠ n1_1 := Nat.ne_of_lt (Nat.lt_of_lt_of_le V_aH.lt sq1_0)
  have ne7 : aR ≠ n1_1 := Nat.ne_of_lt (Nat.lt_of_lt_of_le V_aR.lt sq1_0)
  have ne8 : aS ≠ n1_1 := Nat.ne_of_lt (Nat.lt_of_lt_of_le V_aS.lt sq1_0)
  have sz_n1_1 : h0.size ≤ n1_1 := Nat.le_trans (Keep.refl h0 [a1, a2, aH, aR, aS]).1 sq1_0
  have K26 := (Keep.refl h0 [a1, a2, aH, aR, aS]).trans K1q (allS (Or.inl (List.mem_of_getElem? (i := 0) rfl)) (allS (Or.inl (List.mem_of_getElem? (i := 1) rfl)) (allS (Or.inl (List.mem_of_getElem? (i := 2) rfl)) (allS (Or.inl (List.mem_of_getElem? (i := 3) rfl)) (allS (Or.inl (List.mem_of_getElem? (i := 4) rfl)) all0)))))
  obtain ⟨T27, X27, e27, st27⟩ := getF X1 hx hZ hown (host := "") (Or.inl (own_w hw (i := 42) rfl)) Via.refl rfl o1_2 (g := (mkF m 34 #[.val (.ref a1), .val (.ref a2), .val (.int 1), .val (.int 1), .val (.int 2), .val (.int ((own_hh b0 b1) &&& (15 : Int32)))] [(.ref a1)])) rfl rfl (hb hby d8_34)
  obtain ⟨car28, Aar28, qar28, Sar28, Nar28, Har28, Gar28⟩ := id o1_11
  have hinar28 : ¬ (((own_hh b0 b1) &&& (15 : Int32)) < 0 ∨ car28.slots.size ≤ (((own_hh b0 b1) &&& (15 : Int32))).toNatClampNeg) := inb_of Sar28 (own_sl _)
  have hatar28 : car28.slots[(((own_hh b0 b1) &&& (15 : Int32))).toNatClampNeg]? = some (.ref n1_1) := atH (hs := [(((own_hh b0 b1) &&& (15 : Int32)), (.ref n1_1))]) (vs := []) (dv := .null) Har28 hinar28 (getH_hit (own_sl _).1 rfl)
  obtain ⟨car29, Aar29, qar29, Sar29, Nar29, Har29, Gar29⟩ := id o1_13
  have hinar29 : ¬ ((1 : Int32) < 0 ∨ car29.slots.size ≤ ((1 : Int32)).toNatClampNeg) := inb_of Sar29 ⟨by decide, by decide⟩
  obtain ⟨T30, h30, X30, e30, W30, st30⟩ := stI X27 hx hZ e27 Aar29 (j := (1 : Int32)) hinar29 (g := (mkF m 43 #[.val (.ref a1), .val (.ref a2), .val (.int 1), .val (.int 1), .val (.int 2), .val (.int ((own_hh b0 b1) &&& (15 : Int32)))] [(.int 2), (.int 1), (.ref n1_1)])) rfl rfl (hb hby d8_43)
  have V30 : Arv Z h30 n1_1 kn1_1 .int (20 : Int32) [(.int 0), (.int 2), (.int ((own_k1 b0 b1).toInt32)), (.int ((((own_k1 b0 b1).toUInt64 >>> ((32 : Int32) &&& 0x3f).toInt64.toUInt64).toInt64).toInt32)), (.int 0), (.int 0), (.int 0), (.int 0), (.int 0), (.int 0), (.int 0), (.int 0), (.int 0), (.int 0), (.int 0), (.int 0), (.int 0), (.int 0), (.int 0), (.int 0)] (.int 0) := Arv.set Aar29 qar29 Sar29 Nar29 Har29 Gar29 rfl W30 1 rfl (Nat.le_of_ble_eq_true rfl)
  have f31 := o1_0.wr W30
  have f33 := o1_5.wr W30
  have f36 := o1_1.other W30 (Or.inl ne3)
  have f37 := o1_2.other W30 (Or.inl ne3)
  have f38 := o1_3.other W30 (Or.inl ne3)
  have f39 := o1_4.other W30 (Or.inl ne3)
  have f40 := o1_6.other W30 (Or.inl ne4)
  have f41 := o1_7.other W30 (Or.inl ne4)
  have f42 := o1_8.other W30 (Or.inl ne4)
  have f43 := o1_9.other W30 (Or.inl ne4)
  have f44 := o1_10.other W30 ne6
  have f45 := o1_11.other W30 ne7
  have f46 := o1_12.other W30 ne8
  have f48 := o1_14.wr W30
  have K49 := K26.wr W30 (Or.inr sz_n1_1)
  have N51 := Fr.snoc X30 N2 gq1_0
  obtain ⟨fs, hr, hrun, hended, hW, hsame⟩ := X30.leave (v := none) (fun _ => rfl) Bd.notSynchronized
  refine ⟨_, _, pre0 _ ?_, hrun, hended, _, _, rfl, ?_, ⟨_, rfl⟩, hW, hsame.mono (by decide) (by decide)⟩
  · show Steps p.tables e below (s₁.setTop (mkF m 0 #[.val (.ref a1), .val (.ref a2), .val (.int 1), .val (.int 1), .unset, .unset] [])) _
    refine XS.iloadN X0.here hx rfl (hb hby d8_0) rfl ?_
    show Steps p.tables e below (s₁.setTop (mkF m 1 #[.val (.ref a1), .val (.ref a2), .val (.int 1), .val (.int 1), .unset, .unset] [(.int 1)])) _
    refine XS.ifNo X0.here hx rfl (hb hby d8_1) rfl ((if0 _ _).trans (feq (by decide : ¬ ((1 : Int32) = (0 : Int32)))).1) ?_
    refine XS.iconst X0.here hx rfl (hb hby d8_4) ?_
    refine XS.goto X0.here hx rfl (pc0 := 5) (pc' := 9) rfl (hb hby d8_5) (by decide) (by decide) ?_
    refine XS.iloadN X0.here hx rfl (hb hby d8_9) rfl ?_
    show Steps p.tables e below (s₁.setTop (mkF m 10 #[.val (.ref a1), .val (.ref a2), .val (.int 1), .val (.int 1), .unset, .unset] [(.int 1), (.int 2)])) _
    refine XS.ifNo X0.here hx rfl (hb hby d8_10) rfl ((if0 _ _).trans (feq (by decide : ¬ ((1 : Int32) = (0 : Int32)))).1) ?_
    refine XS.iconst X0.here hx rfl (hb hby d8_13) ?_
    refine XS.goto X0.here hx rfl (pc0 := 14) (pc' := 18) rfl (hb hby d8_14) (by decide) (by decide) ?_
    show Steps p.tables e below (s₁.setTop (mkF m 18 #[.val (.ref a1), .val (.ref a2), .val (.int 1), .val (.int 1), .unset, .unset] [(.int 0), (.int 2)])) _
    refine XS.ior X0.here hx rfl (hb hby d8_18) rfl ?_
    refine XS.istore X0.here hx rfl (hb hby d8_19) rfl (l' := #[.val (.ref a1), .val (.ref a2), .val (.int 1), .val (.int 1), .val (.int 2), .unset]) rfl ?_
    refine XS.iload X0.here hx rfl (hb hby d8_21) rfl ?_
    show Steps p.tables e below (s₁.setTop (mkF m 23 #[.val (.ref a1), .val (.ref a2), .val (.int 1), .val (.int 1), .val (.int 2), .unset] [(.int 2)])) _
    refine XS.ifNo X0.here hx rfl (hb hby d8_23) rfl ((if0 _ _).trans (feq (by decide : ¬ ((2 : Int32) = (0 : Int32)))).1) ?_
    refine XS.aloadN X0.here hx rfl (hb hby d8_26) rfl rfl ?_
    refine XS.aloadN X0.here hx rfl (hb hby d8_27) rfl rfl ?_
    refine st1.trans ?_
    refine XS.istore X1.here hx rfl (hb hby d8_31) rfl (l' := #[.val (.ref a1), .val (.ref a2), .val (.int 1), .val (.int 1), .val (.int 2), .val (.int ((own_hh b0 b1) &&& (15 : Int32)))]) rfl ?_
    show Steps p.tables e below (T1.setTop (mkF m 33 #[.val (.ref a1), .val (.ref a2), .val (.int 1), .val (.int 1), .val (.int 2), .val (.int ((own_hh b0 b1) &&& (15 : Int32)))] [])) _
    refine XS.aloadN X1.here hx rfl (hb hby d8_33) rfl rfl ?_
    refine st27 _ ?_
    refine XS.iload X27.here hx rfl (hb hby d8_37) rfl ?_
    refine X27.aaload hx (j := ((own_hh b0 b1) &&& (15 : Int32))) (v := (.ref n1_1)) (by rw [e27]; exact Aar28.1) (State.isArrayOf_alike hZ.alike Aar28.2.1) rfl Aar28.2.2 hinar28 hatar28 (g := (mkF m 39 #[.val (.ref a1), .val (.ref a2), .val (.int 1), .val (.int 1), .val (.int 2), .val (.int ((own_hh b0 b1) &&& (15 : Int32)))] [(.int ((own_hh b0 b1) &&& (15 : Int32))), (.ref aR)])) rfl rfl (hb hby d8_39) _ ?_
    refine XS.iconst X27.here hx rfl (hb hby d8_40) ?_
    refine XS.iload X27.here hx rfl (hb hby d8_41) rfl ?_
    refine st30 _ ?_
    exact X30.returnOut hx Bd.returns (hb hby d8_44) hr
  · show QsE11 Z a1 a2 aH aR aS kH kR kS bv kb b0 b1 hv zv cz fmt h0 n0 _ T30.heap _
    rw [e30]
    exact ⟨n1_1, kn1_1, rfl, N51, K49, gq1_0, sz_n1_1, f31, f36, f37, f38, f39, f33, f40, f41, f42, f43, f44, f45, f46, V30, f48⟩
theorem ef_sO11 (m : MethodId) (x0 : Addr) (x1 : Addr) (x2 : Int32) (x3 : Int32) : entryFrame m #[(.ref x0), (.ref x1), (.int x2), (.int x3)] 6 = mkF m 0 #[.val (.ref x0), .val (.ref x1), .val (.int x2), .val (.int x3), .unset, .unset] [] := by first | (simp [entryFrame, mkF, argsToLocals, Value.category]; done) | rfl
abbrev R_sO11 : Room := { frames := 7, cells := 1, slots := 5, locals := 116 }
def QsO11 (Z : State) (a1 : Addr) (a2 : Addr) (aH : Addr) (aR : Addr) (aS : Addr) (kH : ClassId) (kR : ClassId) (bv : Addr) (kb : ClassId) (b0 : Int32) (b1 : Int32) (hv : Int32) (zv : Int32) (cz : Int32) (fmt : Value) (rc : Addr) (kr : ClassId) (r0 : Int32) (r1 : Int32) (r8 : Int32) (r9 : Int32) (r10 : Int32) (r11 : Int32) (r12 : Int32) (r13 : Int32) (r14 : Int32) (r15 : Int32) (r16 : Int32) (r17 : Int32) (r18 : Int32) (r19 : Int32) (h0 : Heap) (n0 : Nat) (v : Option Value) (h : Heap) (L : List Loc) : Prop := v = none ∧ Fr n0 L ∧ Keep h0 h [a2, rc] ∧ Exa Z h a2 KJ ∧ Fld Z h a2 KJ "value" "[B" (.ref bv) ∧ Fld Z h a2 KJ "coder" "B" (.int 0) ∧ Fld Z h a2 KJ "hash" "I" (.int (own_hc b0 b1)) ∧ Fld Z h a2 KJ "hashIsZero" "Z" (.int (fhc_hashIsZero b0 b1 hv zv)) ∧ Arv Z h rc kr .int (20 : Int32) [(.int r0), (.int 2), (.int ((own_k1 b0 b1).toInt32)), (.int ((((own_k1 b0 b1).toUInt64 >>> ((32 : Int32) &&& 0x3f).toInt64.toUInt64).toInt64).toInt32)), (.int 0), (.int 0), (.int 0), (.int 0), (.int r8), (.int r9), (.int r10), (.int r11), (.int r12), (.int r13), (.int r14), (.int r15), (.int r16), (.int r17), (.int r18), (.int r19)] (.int 0)
set_option maxRecDepth 65536 in
set_option maxHeartbeats 40000000 in
theorem rmsO11 (l : Launch) (Z : State) (a0 : Array Value) (hw : ∀ d ∈ tables_1, d.before a0 Z = true) (ws : List Jvm.Cond) (a1 : Addr) (a2 : Addr) (aH : Addr) (aR : Addr) (aS : Addr) (kH : ClassId) (kR : ClassId) (bv : Addr) (kb : ClassId) (b0 : Int32) (b1 : Int32) (hv : Int32) (zv : Int32) (cz : Int32) (fmt : Value) (rc : Addr) (kr : ClassId) (r0 : Int32) (r1 : Int32) (r8 : Int32) (r9 : Int32) (r10 : Int32) (r11 : Int32) (r12 : Int32) (r13 : Int32) (r14 : Int32) (r15 : Int32) (r16 : Int32) (r17 : Int32) (r18 : Int32) (r19 : Int32) (h0 : Heap) (n0 : Nat) (Z0 : n0 ≤ h0.size) (E_a1 : Exa Z h0 a1 KS) (F_hashes_a1 : Fld Z h0 a1 KS "hashes" "[I" (.ref aH)) (F_records_a1 : Fld Z h0 a1 KS "records" "[[I" (.ref aR)) (F_subjects_a1 : Fld Z h0 a1 KS "subjects" "[Ljava/lang/String;" (.ref aS)) (O0 : Old Z n0 h0) (S_COMPACT_STRINGS : Sta Z Z.heap KJ "COMPACT_STRINGS" "Z" (.int cz)) (hcz : ¬ (cz = (0 : Int32))) (S_SIOOBE_FORMATTER : Sta Z Z.heap "jdk/internal/util/Preconditions" "SIOOBE_FORMATTER" "Ljava/util/function/BiFunction;" fmt) (hfmt : fmt = .null ∨ ∃ a, fmt = .ref a) (E_a2 : Exa Z h0 a2 KJ) (F_value_a2 : Fld Z h0 a2 KJ "value" "[B" (.ref bv)) (F_coder_a2 : Fld Z h0 a2 KJ "coder" "B" (.int 0)) (V_bv : Arv Z h0 bv kb .byte (2 : Int32) [(.int b0), (.int b1)] (.int 0)) (E_bv : Exa Z h0 bv "[B") (F_hash_a2 : Fld Z h0 a2 KJ "hash" "I" (.int hv)) (F_hashIsZero_a2 : Fld Z h0 a2 KJ "hashIsZero" "Z" (.int zv)) (hinv : hv = (own_hc b0 b1) ∨ (hv = (0 : Int32) ∧ zv = (0 : Int32))) (V_aH : Arh Z h0 aH kH .int (16 : Int32) [(((own_hh b0 b1) &&& (15 : Int32)), (.int (own_hh b0 b1)))] [] (.int 0)) (V_aR : Arh Z h0 aR kR (.array .int) (16 : Int32) [(((own_hh b0 b1) &&& (15 : Int32)), (.ref rc))] [] .null) (V_rc : Arv Z h0 rc kr .int (20 : Int32) [(.int r0), (.int r1), (.int ((own_k1 b0 b1).toInt32)), (.int ((((own_k1 b0 b1).toUInt64 >>> ((32 : Int32) &&& 0x3f).toInt64.toUInt64).toInt64).toInt32)), (.int 0), (.int 0), (.int 0), (.int 0), (.int r8), (.int r9), (.int r10), (.int r11), (.int r12), (.int r13), (.int r14), (.int r15), (.int r16), (.int r17), (.int r18), (.int r19)] (.int 0)) (g_a2 : n0 ≤ a2) (ne_a2_a1 : a2 ≠ a1) (ne_a2_aH : a2 ≠ aH) (ne_a2_aR : a2 ≠ aR) (ne_a2_bv : a2 ≠ bv) (ne_a2_rc : a2 ≠ rc) (g_rc : n0 ≤ rc) (ne_rc_a1 : rc ≠ a1) (ne_rc_aH : rc ≠ aH) (ne_rc_aR : rc ≠ aR) (ne_rc_bv : rc ≠ bv) :
    MetFree l (⟨KS, "setStatus", "(Ljava/lang/String;ZZ)V"⟩ : MethodName) (head1 (Jvm.Cond.code (⟨KS, "setStatus", "(Ljava/lang/String;ZZ)V"⟩ : MethodName) prog_18_method_7_code 6 none :: ws) R_sO11) (fun a U => a = #[(.ref a1), (.ref a2), (.int 1), (.int 1)] ∧ Z.Warmed39 U.vm ∧ U.heap = h0) (fun _ _ _ _ _ => True) (fun _ U o U' => ∃ v L, o = .returned v ∧ QsO11 Z a1 a2 aH aR aS kH kR bv kb b0 b1 hv zv cz fmt rc kr r0 r1 r8 r9 r10 r11 r12 r13 r14 r15 r16 r17 r18 r19 h0 n0 v U'.heap L ∧ FrameEnd U o U' L R_sO11.cells R_sO11.slots) := by
  refine MetFree.of_bodySF (plainFor_of_name pn_386) hisR ?_
  intro p e s m args below meth c s₁ Bd hml0 hP hK
  obtain ⟨rfl, hZ, hh⟩ := hP
  have hx := Bd.exec
  have hby := Bd.bytes
  have hml : c.maxLocals = 6 := hml0
  have hown : s.vm.findClass KS = some m.cls := findClass_of_methodNamed Bd.named
  have hnm := (name_of_methodNamed Bd.named Bd.method).1
  have X0 : Stand p l e R_sO11 s m #[(.ref a1), (.ref a2), (.int 1), (.int 1)] below meth c s₁ [] 0 0 := Stand.of_body Bd
  have e0 : s₁.heap = h0 := by rw [← hh, Bd.state]; rfl
  have N0 := Fr.nil n0
  have pre0 : ∀ t, Steps p.tables e below (s₁.setTop (mkF m 0 #[.val (.ref a1), .val (.ref a2), .val (.int 1), .val (.int 1), .unset, .unset] [])) t → Steps p.tables e below (s₁.setTop (entryFrame m #[(.ref a1), (.ref a2), (.int 1), (.int 1)] 6)) t := fun t k => castTop (ef_sO11 m a1 a2 (1 : Int32) (1 : Int32)) k
  -- pc 28: SubjectLines.held by rmhO
  obtain ⟨cq1, qc1, qc1'⟩ := E_a1.cell
  obtain ⟨_, _, ⟨T1, L1, ck1, cn1⟩, -, X1, ⟨Lc1, hQ1, l1, y1, z1⟩, st1⟩ := X0.privateBack hx (y := (⟨KS, "held", "(Ljava/lang/String;)I"⟩ : MethodName)) hown (mvT hZ (own_w hw (i := 156) rfl)) (mvT hZ (own_w hw (i := 157) rfl)) (own_sel (y := (⟨KS, "held", "(Ljava/lang/String;)I"⟩ : MethodName)) (mvT hZ (own_w hw (i := 31) rfl)) (Cond.privateMethod_at (mvP hZ (own_w hw (i := 158) rfl) (args := #[]))) (mvT hZ (own_w hw (i := 157) rfl)) (by decide)) (Cond.privateMethod_at (mvP hZ (own_w hw (i := 158) rfl) (args := #[]))) (mvT hZ (own_w hw (i := 159) rfl)) (by decide) (backOf (W := 0) (rmhO l Z a0 hw [] a1 a2 aH aR aS kH kR bv kb b0 b1 hv zv cz fmt rc kr r0 r1 r8 r9 r10 r11 r12 r13 r14 r15 r16 r17 r18 r19 h0 n0 Z0 E_a1 F_hashes_a1 F_records_a1 F_subjects_a1 O0 S_COMPACT_STRINGS hcz S_SIOOBE_FORMATTER hfmt E_a2 F_value_a2 F_coder_a2 V_bv E_bv F_hash_a2 F_hashIsZero_a2 hinv V_aH V_aR V_rc g_a2 ne_a2_a1 ne_a2_aH ne_a2_aR ne_a2_bv ne_a2_rc) hZ (own_w hw (i := 159) rfl) (own_w hw (i := 32) rfl) (by decide) (by decide)) (g := (mkF m 28 #[.val (.ref a1), .val (.ref a2), .val (.int 1), .val (.int 1), .val (.int 2), .unset] [(.ref a2), (.ref a1)])) rfl (by rw [hml]; rfl) (Steps.refl _) (a := a1) (by rw [e0]; exact qc1) qc1' (argsL := [(.ref a2)]) (rest := []) (lenOf pd_358 rfl) rfl (by show 2 * 0 + _ ≤ _; exact Nat.le_of_eq rfl) (hb hby d8_28) (fun _ _ => ⟨rfl, e0, (by decide : 0 + 1 ≤ _), (by decide : 0 + 5 ≤ _)⟩)
  dsimp only [Pt.U, Pt.locs, Pt.cells, Pt.slots] at X1 l1 y1 z1 st1 hQ1
  subst y1 z1
  obtain ⟨rfl, N1q, K1q, o1_0, o1_1, o1_2, o1_3, o1_4⟩ := hQ1
  have N2 : Fr n0 L1 := by rw [l1]; exact Fr.app N0 N1q
  have f5 := F_records_a1.keep K1q (ninS (Ne.symm ne_a2_a1) nin0)
  have f16 := V_aR.keep K1q (ninS (Ne.symm ne_a2_aR) nin0)
  have f17 := V_rc.keep K1q (ninS (Ne.symm ne_a2_rc) nin0)
  have K19 := (Keep.refl h0 [a2, rc]).trans K1q (allS (Or.inl (List.mem_of_getElem? (i := 0) rfl)) all0)
  obtain ⟨T20, X20, e20, st20⟩ := getF X1 hx hZ hown (host := "") (Or.inl (own_w hw (i := 42) rfl)) Via.refl rfl f5 (g := (mkF m 34 #[.val (.ref a1), .val (.ref a2), .val (.int 1), .val (.int 1), .val (.int 2), .val (.int ((own_hh b0 b1) &&& (15 : Int32)))] [(.ref a1)])) rfl rfl (hb hby d8_34)
  obtain ⟨car21, Aar21, qar21, Sar21, Nar21, Har21, Gar21⟩ := id f16
  have hinar21 : ¬ (((own_hh b0 b1) &&& (15 : Int32)) < 0 ∨ car21.slots.size ≤ (((own_hh b0 b1) &&& (15 : Int32))).toNatClampNeg) := inb_of Sar21 (own_sl _)
  have hatar21 : car21.slots[(((own_hh b0 b1) &&& (15 : Int32))).toNatClampNeg]? = some (.ref rc) := atH (hs := [(((own_hh b0 b1) &&& (15 : Int32)), (.ref rc))]) (vs := []) (dv := .null) Har21 hinar21 (getH_hit (own_sl _).1 rfl)
  obtain ⟨car22, Aar22, qar22, Sar22, Nar22, Har22, Gar22⟩ := id f17
  have hinar22 : ¬ ((1 : Int32) < 0 ∨ car22.slots.size ≤ ((1 : Int32)).toNatClampNeg) := inb_of Sar22 ⟨by decide, by decide⟩
  obtain ⟨T23, h23, X23, e23, W23, st23⟩ := stI X20 hx hZ e20 Aar22 (j := (1 : Int32)) hinar22 (g := (mkF m 43 #[.val (.ref a1), .val (.ref a2), .val (.int 1), .val (.int 1), .val (.int 2), .val (.int ((own_hh b0 b1) &&& (15 : Int32)))] [(.int 2), (.int 1), (.ref rc)])) rfl rfl (hb hby d8_43)
  have V23 : Arv Z h23 rc kr .int (20 : Int32) [(.int r0), (.int 2), (.int ((own_k1 b0 b1).toInt32)), (.int ((((own_k1 b0 b1).toUInt64 >>> ((32 : Int32) &&& 0x3f).toInt64.toUInt64).toInt64).toInt32)), (.int 0), (.int 0), (.int 0), (.int 0), (.int r8), (.int r9), (.int r10), (.int r11), (.int r12), (.int r13), (.int r14), (.int r15), (.int r16), (.int r17), (.int r18), (.int r19)] (.int 0) := Arv.set Aar22 qar22 Sar22 Nar22 Har22 Gar22 rfl W23 1 rfl (Nat.le_of_ble_eq_true rfl)
  have f29 := o1_0.wr W23
  have f35 := o1_1.other W23 (Or.inl ne_a2_rc)
  have f36 := o1_2.other W23 (Or.inl ne_a2_rc)
  have f37 := o1_3.other W23 (Or.inl ne_a2_rc)
  have f38 := o1_4.other W23 (Or.inl ne_a2_rc)
  have K39 := K19.wr W23 (Or.inl (List.mem_of_getElem? (i := 1) rfl))
  have N41 := Fr.snoc X23 N2 g_rc
  obtain ⟨fs, hr, hrun, hended, hW, hsame⟩ := X23.leave (v := none) (fun _ => rfl) Bd.notSynchronized
  refine ⟨_, _, pre0 _ ?_, hrun, hended, _, _, rfl, ?_, ⟨_, rfl⟩, hW, hsame.mono (by decide) (by decide)⟩
  · show Steps p.tables e below (s₁.setTop (mkF m 0 #[.val (.ref a1), .val (.ref a2), .val (.int 1), .val (.int 1), .unset, .unset] [])) _
    refine XS.iloadN X0.here hx rfl (hb hby d8_0) rfl ?_
    show Steps p.tables e below (s₁.setTop (mkF m 1 #[.val (.ref a1), .val (.ref a2), .val (.int 1), .val (.int 1), .unset, .unset] [(.int 1)])) _
    refine XS.ifNo X0.here hx rfl (hb hby d8_1) rfl ((if0 _ _).trans (feq (by decide : ¬ ((1 : Int32) = (0 : Int32)))).1) ?_
    refine XS.iconst X0.here hx rfl (hb hby d8_4) ?_
    refine XS.goto X0.here hx rfl (pc0 := 5) (pc' := 9) rfl (hb hby d8_5) (by decide) (by decide) ?_
    refine XS.iloadN X0.here hx rfl (hb hby d8_9) rfl ?_
    show Steps p.tables e below (s₁.setTop (mkF m 10 #[.val (.ref a1), .val (.ref a2), .val (.int 1), .val (.int 1), .unset, .unset] [(.int 1), (.int 2)])) _
    refine XS.ifNo X0.here hx rfl (hb hby d8_10) rfl ((if0 _ _).trans (feq (by decide : ¬ ((1 : Int32) = (0 : Int32)))).1) ?_
    refine XS.iconst X0.here hx rfl (hb hby d8_13) ?_
    refine XS.goto X0.here hx rfl (pc0 := 14) (pc' := 18) rfl (hb hby d8_14) (by decide) (by decide) ?_
    show Steps p.tables e below (s₁.setTop (mkF m 18 #[.val (.ref a1), .val (.ref a2), .val (.int 1), .val (.int 1), .unset, .unset] [(.int 0), (.int 2)])) _
    refine XS.ior X0.here hx rfl (hb hby d8_18) rfl ?_
    refine XS.istore X0.here hx rfl (hb hby d8_19) rfl (l' := #[.val (.ref a1), .val (.ref a2), .val (.int 1), .val (.int 1), .val (.int 2), .unset]) rfl ?_
    refine XS.iload X0.here hx rfl (hb hby d8_21) rfl ?_
    show Steps p.tables e below (s₁.setTop (mkF m 23 #[.val (.ref a1), .val (.ref a2), .val (.int 1), .val (.int 1), .val (.int 2), .unset] [(.int 2)])) _
    refine XS.ifNo X0.here hx rfl (hb hby d8_23) rfl ((if0 _ _).trans (feq (by decide : ¬ ((2 : Int32) = (0 : Int32)))).1) ?_
    refine XS.aloadN X0.here hx rfl (hb hby d8_26) rfl rfl ?_
    refine XS.aloadN X0.here hx rfl (hb hby d8_27) rfl rfl ?_
    refine st1.trans ?_
    refine XS.istore X1.here hx rfl (hb hby d8_31) rfl (l' := #[.val (.ref a1), .val (.ref a2), .val (.int 1), .val (.int 1), .val (.int 2), .val (.int ((own_hh b0 b1) &&& (15 : Int32)))]) rfl ?_
    show Steps p.tables e below (T1.setTop (mkF m 33 #[.val (.ref a1), .val (.ref a2), .val (.int 1), .val (.int 1), .val (.int 2), .val (.int ((own_hh b0 b1) &&& (15 : Int32)))] [])) _
    refine XS.aloadN X1.here hx rfl (hb hby d8_33) rfl rfl ?_
    refine st20 _ ?_
    refine XS.iload X20.here hx rfl (hb hby d8_37) rfl ?_
    refine X20.aaload hx (j := ((own_hh b0 b1) &&& (15 : Int32))) (v := (.ref rc)) (by rw [e20]; exact Aar21.1) (State.isArrayOf_alike hZ.alike Aar21.2.1) rfl Aar21.2.2 hinar21 hatar21 (g := (mkF m 39 #[.val (.ref a1), .val (.ref a2), .val (.int 1), .val (.int 1), .val (.int 2), .val (.int ((own_hh b0 b1) &&& (15 : Int32)))] [(.int ((own_hh b0 b1) &&& (15 : Int32))), (.ref aR)])) rfl rfl (hb hby d8_39) _ ?_
    refine XS.iconst X20.here hx rfl (hb hby d8_40) ?_
    refine XS.iload X20.here hx rfl (hb hby d8_41) rfl ?_
    refine st23 _ ?_
    exact X23.returnOut hx Bd.returns (hb hby d8_44) hr
  · show QsO11 Z a1 a2 aH aR aS kH kR bv kb b0 b1 hv zv cz fmt rc kr r0 r1 r8 r9 r10 r11 r12 r13 r14 r15 r16 r17 r18 r19 h0 n0 _ T23.heap _
    rw [e23]
    exact ⟨rfl, N41, K39, f29, f35, f36, f37, f38, V23⟩
theorem d26_0 : decode prog_18_method_4_code 0 = .ok (.aload_n 0, 1) := by decide +kernel
theorem d26_1 : decode prog_18_method_4_code 1 = .ok (.ifnull 15, 3) := by decide +kernel
theorem d26_16 : decode prog_18_method_4_code 16 = .ok (.iconst 0, 1) := by decide +kernel
theorem d26_17 : decode prog_18_method_4_code 17 = .ok (.ireturn, 1) := by decide +kernel
theorem ef_iaN (m : MethodId)  : entryFrame m #[.null] 1 = mkF m 0 #[.val .null] [] := by first | (simp [entryFrame, mkF, argsToLocals, Value.category]; done) | rfl
abbrev R_iaN : Room := { frames := 0, cells := 0, slots := 0, locals := 0 }
def QiaN (Z : State)  (h0 : Heap) (n0 : Nat) (v : Option Value) (h : Heap) (L : List Loc) : Prop := v = some (.int 0) ∧ Fr n0 L ∧ h = h0
set_option maxRecDepth 65536 in
set_option maxHeartbeats 40000000 in
theorem rmiaN (l : Launch) (Z : State) (a0 : Array Value) (hw : ∀ d ∈ tables_1, d.before a0 Z = true) (ws : List Jvm.Cond)  (h0 : Heap) (n0 : Nat) (Z0 : n0 ≤ h0.size) :
    MetFree l (⟨KS, "isAdministrator", "([I)Z"⟩ : MethodName) (head1 (Jvm.Cond.code (⟨KS, "isAdministrator", "([I)Z"⟩ : MethodName) prog_18_method_4_code 1 (some .boolean) :: ws) R_iaN) (fun a U => a = #[.null] ∧ Z.Warmed39 U.vm ∧ U.heap = h0) (fun _ _ _ _ _ => True) (fun _ U o U' => ∃ v L, o = .returned v ∧ QiaN Z  h0 n0 v U'.heap L ∧ FrameEnd U o U' L R_iaN.cells R_iaN.slots) := by
  refine MetFree.of_bodySF (plainFor_of_name pn_386) hisR ?_
  intro p e s m args below meth c s₁ Bd hml0 hP hK
  obtain ⟨rfl, hZ, hh⟩ := hP
  have hx := Bd.exec
  have hby := Bd.bytes
  have hml : c.maxLocals = 1 := hml0
  have hown : s.vm.findClass KS = some m.cls := findClass_of_methodNamed Bd.named
  have hnm := (name_of_methodNamed Bd.named Bd.method).1
  have X0 : Stand p l e R_iaN s m #[.null] below meth c s₁ [] 0 0 := Stand.of_body Bd
  have e0 : s₁.heap = h0 := by rw [← hh, Bd.state]; rfl
  have N0 := Fr.nil n0
  have pre0 : ∀ t, Steps p.tables e below (s₁.setTop (mkF m 0 #[.val .null] [])) t → Steps p.tables e below (s₁.setTop (entryFrame m #[.null] 1)) t := fun t k => castTop (ef_iaN m ) k
  obtain ⟨fs, hr, hrun, hended, hW, hsame⟩ := X0.leave (v := some (.int 0)) (fun h => by rw [Bd.returns] at h; cases h) Bd.notSynchronized
  refine ⟨_, _, pre0 _ ?_, hrun, hended, _, _, rfl, ?_, ⟨_, rfl⟩, hW, hsame.mono (by decide) (by decide)⟩
  · show Steps p.tables e below (s₁.setTop (mkF m 0 #[.val .null] [])) _
    refine XS.aloadN X0.here hx rfl (hb hby d26_0) rfl rfl ?_
    refine XS.ifnullYes X0.here hx rfl (pc0 := 1) (pc' := 16) rfl (hb hby d26_1) rfl (by decide) (by decide) ?_
    refine XS.iconst X0.here hx rfl (hb hby d26_16) ?_
    exact retN X0 hx (t := .boolean) Bd.returns (by simp) (hb hby d26_17) hr
  · show QiaN Z  h0 n0 _ s₁.heap _
    rw [e0]
    exact ⟨rfl, N0, rfl⟩
theorem d26_4 : decode prog_18_method_4_code 4 = .ok (.aload_n 0, 1) := by decide +kernel
theorem d26_5 : decode prog_18_method_4_code 5 = .ok (.iconst 1, 1) := by decide +kernel
theorem d26_6 : decode prog_18_method_4_code 6 = .ok (.iaload, 1) := by decide +kernel
theorem d26_7 : decode prog_18_method_4_code 7 = .ok (.iconst 2, 1) := by decide +kernel
theorem d26_8 : decode prog_18_method_4_code 8 = .ok (.iand, 1) := by decide +kernel
theorem d26_9 : decode prog_18_method_4_code 9 = .ok (.ifCond .eq 7, 3) := by decide +kernel
theorem ef_ia0 (m : MethodId) (x0 : Addr) : entryFrame m #[(.ref x0)] 1 = mkF m 0 #[.val (.ref x0)] [] := by first | (simp [entryFrame, mkF, argsToLocals, Value.category]; done) | rfl
abbrev R_ia0 : Room := { frames := 0, cells := 0, slots := 0, locals := 0 }
def Qia0 (Z : State) (a1 : Addr) (kr : ClassId) (r0 : Int32) (r2 : Int32) (r3 : Int32) (r4 : Int32) (r5 : Int32) (r6 : Int32) (r7 : Int32) (r8 : Int32) (r9 : Int32) (r10 : Int32) (r11 : Int32) (r12 : Int32) (r13 : Int32) (r14 : Int32) (r15 : Int32) (r16 : Int32) (r17 : Int32) (r18 : Int32) (r19 : Int32) (h0 : Heap) (n0 : Nat) (v : Option Value) (h : Heap) (L : List Loc) : Prop := v = some (.int 0) ∧ Fr n0 L ∧ h = h0
set_option maxRecDepth 65536 in
set_option maxHeartbeats 40000000 in
theorem rmia0 (l : Launch) (Z : State) (a0 : Array Value) (hw : ∀ d ∈ tables_1, d.before a0 Z = true) (ws : List Jvm.Cond) (a1 : Addr) (kr : ClassId) (r0 : Int32) (r2 : Int32) (r3 : Int32) (r4 : Int32) (r5 : Int32) (r6 : Int32) (r7 : Int32) (r8 : Int32) (r9 : Int32) (r10 : Int32) (r11 : Int32) (r12 : Int32) (r13 : Int32) (r14 : Int32) (r15 : Int32) (r16 : Int32) (r17 : Int32) (r18 : Int32) (r19 : Int32) (h0 : Heap) (n0 : Nat) (Z0 : n0 ≤ h0.size) (V_a1 : Arv Z h0 a1 kr .int (20 : Int32) [(.int r0), (.int 0), (.int r2), (.int r3), (.int r4), (.int r5), (.int r6), (.int r7), (.int r8), (.int r9), (.int r10), (.int r11), (.int r12), (.int r13), (.int r14), (.int r15), (.int r16), (.int r17), (.int r18), (.int r19)] (.int 0)) :
    MetFree l (⟨KS, "isAdministrator", "([I)Z"⟩ : MethodName) (head1 (Jvm.Cond.code (⟨KS, "isAdministrator", "([I)Z"⟩ : MethodName) prog_18_method_4_code 1 (some .boolean) :: ws) R_ia0) (fun a U => a = #[(.ref a1)] ∧ Z.Warmed39 U.vm ∧ U.heap = h0) (fun _ _ _ _ _ => True) (fun _ U o U' => ∃ v L, o = .returned v ∧ Qia0 Z a1 kr r0 r2 r3 r4 r5 r6 r7 r8 r9 r10 r11 r12 r13 r14 r15 r16 r17 r18 r19 h0 n0 v U'.heap L ∧ FrameEnd U o U' L R_ia0.cells R_ia0.slots) := by
  refine MetFree.of_bodySF (plainFor_of_name pn_386) hisR ?_
  intro p e s m args below meth c s₁ Bd hml0 hP hK
  obtain ⟨rfl, hZ, hh⟩ := hP
  have hx := Bd.exec
  have hby := Bd.bytes
  have hml : c.maxLocals = 1 := hml0
  have hown : s.vm.findClass KS = some m.cls := findClass_of_methodNamed Bd.named
  have hnm := (name_of_methodNamed Bd.named Bd.method).1
  have X0 : Stand p l e R_ia0 s m #[(.ref a1)] below meth c s₁ [] 0 0 := Stand.of_body Bd
  have e0 : s₁.heap = h0 := by rw [← hh, Bd.state]; rfl
  have N0 := Fr.nil n0
  have pre0 : ∀ t, Steps p.tables e below (s₁.setTop (mkF m 0 #[.val (.ref a1)] [])) t → Steps p.tables e below (s₁.setTop (entryFrame m #[(.ref a1)] 1)) t := fun t k => castTop (ef_ia0 m a1) k
  obtain ⟨car1, Aar1, qar1, Sar1, Nar1, Har1, Gar1⟩ := id V_a1
  have hinar1 : ¬ ((1 : Int32) < 0 ∨ car1.slots.size ≤ ((1 : Int32)).toNatClampNeg) := inb_of Sar1 ⟨by decide, by decide⟩
  have hatar1 : car1.slots[((1 : Int32)).toNatClampNeg]? = some (.int 0) := Har1.at hinar1 rfl
  obtain ⟨fs, hr, hrun, hended, hW, hsame⟩ := X0.leave (v := some (.int 0)) (fun h => by rw [Bd.returns] at h; cases h) Bd.notSynchronized
  refine ⟨_, _, pre0 _ ?_, hrun, hended, _, _, rfl, ?_, ⟨_, rfl⟩, hW, hsame.mono (by decide) (by decide)⟩
  · show Steps p.tables e below (s₁.setTop (mkF m 0 #[.val (.ref a1)] [])) _
    refine XS.aloadN X0.here hx rfl (hb hby d26_0) rfl rfl ?_
    refine XS.ifnullNo X0.here hx rfl (hb hby d26_1) rfl ?_
    refine XS.aloadN X0.here hx rfl (hb hby d26_4) rfl rfl ?_
    refine XS.iconst X0.here hx rfl (hb hby d26_5) ?_
    refine X0.iaload hx (j := (1 : Int32)) (v := (.int 0)) (by rw [e0]; exact Aar1.1) (State.isArrayOf_alike hZ.alike Aar1.2.1) Aar1.2.2 hinar1 hatar1 (g := (mkF m 6 #[.val (.ref a1)] [(.int 1), (.ref a1)])) rfl rfl (hb hby d26_6) _ ?_
    refine XS.iconst X0.here hx rfl (hb hby d26_7) ?_
    refine XS.iand X0.here hx rfl (hb hby d26_8) rfl ?_
    show Steps p.tables e below (s₁.setTop (mkF m 9 #[.val (.ref a1)] [(.int 0)])) _
    refine XS.ifYes X0.here hx rfl (pc0 := 9) (pc' := 16) rfl (hb hby d26_9) rfl ((if0 _ _).trans (teq (by decide : (0 : Int32) = (0 : Int32))).1) (by decide) (by decide) ?_
    show Steps p.tables e below (s₁.setTop (mkF m 16 #[.val (.ref a1)] [])) _
    refine XS.iconst X0.here hx rfl (hb hby d26_16) ?_
    exact retN X0 hx (t := .boolean) Bd.returns (by simp) (hb hby d26_17) hr
  · show Qia0 Z a1 kr r0 r2 r3 r4 r5 r6 r7 r8 r9 r10 r11 r12 r13 r14 r15 r16 r17 r18 r19 h0 n0 _ s₁.heap _
    rw [e0]
    exact ⟨rfl, N0, rfl⟩
theorem ef_ia1 (m : MethodId) (x0 : Addr) : entryFrame m #[(.ref x0)] 1 = mkF m 0 #[.val (.ref x0)] [] := by first | (simp [entryFrame, mkF, argsToLocals, Value.category]; done) | rfl
abbrev R_ia1 : Room := { frames := 0, cells := 0, slots := 0, locals := 0 }
def Qia1 (Z : State) (a1 : Addr) (kr : ClassId) (r0 : Int32) (r2 : Int32) (r3 : Int32) (r4 : Int32) (r5 : Int32) (r6 : Int32) (r7 : Int32) (r8 : Int32) (r9 : Int32) (r10 : Int32) (r11 : Int32) (r12 : Int32) (r13 : Int32) (r14 : Int32) (r15 : Int32) (r16 : Int32) (r17 : Int32) (r18 : Int32) (r19 : Int32) (h0 : Heap) (n0 : Nat) (v : Option Value) (h : Heap) (L : List Loc) : Prop := v = some (.int 0) ∧ Fr n0 L ∧ h = h0
set_option maxRecDepth 65536 in
set_option maxHeartbeats 40000000 in
theorem rmia1 (l : Launch) (Z : State) (a0 : Array Value) (hw : ∀ d ∈ tables_1, d.before a0 Z = true) (ws : List Jvm.Cond) (a1 : Addr) (kr : ClassId) (r0 : Int32) (r2 : Int32) (r3 : Int32) (r4 : Int32) (r5 : Int32) (r6 : Int32) (r7 : Int32) (r8 : Int32) (r9 : Int32) (r10 : Int32) (r11 : Int32) (r12 : Int32) (r13 : Int32) (r14 : Int32) (r15 : Int32) (r16 : Int32) (r17 : Int32) (r18 : Int32) (r19 : Int32) (h0 : Heap) (n0 : Nat) (Z0 : n0 ≤ h0.size) (V_a1 : Arv Z h0 a1 kr .int (20 : Int32) [(.int r0), (.int 1), (.int r2), (.int r3), (.int r4), (.int r5), (.int r6), (.int r7), (.int r8), (.int r9), (.int r10), (.int r11), (.int r12), (.int r13), (.int r14), (.int r15), (.int r16), (.int r17), (.int r18), (.int r19)] (.int 0)) :
    MetFree l (⟨KS, "isAdministrator", "([I)Z"⟩ : MethodName) (head1 (Jvm.Cond.code (⟨KS, "isAdministrator", "([I)Z"⟩ : MethodName) prog_18_method_4_code 1 (some .boolean) :: ws) R_ia1) (fun a U => a = #[(.ref a1)] ∧ Z.Warmed39 U.vm ∧ U.heap = h0) (fun _ _ _ _ _ => True) (fun _ U o U' => ∃ v L, o = .returned v ∧ Qia1 Z a1 kr r0 r2 r3 r4 r5 r6 r7 r8 r9 r10 r11 r12 r13 r14 r15 r16 r17 r18 r19 h0 n0 v U'.heap L ∧ FrameEnd U o U' L R_ia1.cells R_ia1.slots) := by
  refine MetFree.of_bodySF (plainFor_of_name pn_386) hisR ?_
  intro p e s m args below meth c s₁ Bd hml0 hP hK
  obtain ⟨rfl, hZ, hh⟩ := hP
  have hx := Bd.exec
  have hby := Bd.bytes
  have hml : c.maxLocals = 1 := hml0
  have hown : s.vm.findClass KS = some m.cls := findClass_of_methodNamed Bd.named
  have hnm := (name_of_methodNamed Bd.named Bd.method).1
  have X0 : Stand p l e R_ia1 s m #[(.ref a1)] below meth c s₁ [] 0 0 := Stand.of_body Bd
  have e0 : s₁.heap = h0 := by rw [← hh, Bd.state]; rfl
  have N0 := Fr.nil n0
  have pre0 : ∀ t, Steps p.tables e below (s₁.setTop (mkF m 0 #[.val (.ref a1)] [])) t → Steps p.tables e below (s₁.setTop (entryFrame m #[(.ref a1)] 1)) t := fun t k => castTop (ef_ia1 m a1) k
  obtain ⟨car1, Aar1, qar1, Sar1, Nar1, Har1, Gar1⟩ := id V_a1
  have hinar1 : ¬ ((1 : Int32) < 0 ∨ car1.slots.size ≤ ((1 : Int32)).toNatClampNeg) := inb_of Sar1 ⟨by decide, by decide⟩
  have hatar1 : car1.slots[((1 : Int32)).toNatClampNeg]? = some (.int 1) := Har1.at hinar1 rfl
  obtain ⟨fs, hr, hrun, hended, hW, hsame⟩ := X0.leave (v := some (.int 0)) (fun h => by rw [Bd.returns] at h; cases h) Bd.notSynchronized
  refine ⟨_, _, pre0 _ ?_, hrun, hended, _, _, rfl, ?_, ⟨_, rfl⟩, hW, hsame.mono (by decide) (by decide)⟩
  · show Steps p.tables e below (s₁.setTop (mkF m 0 #[.val (.ref a1)] [])) _
    refine XS.aloadN X0.here hx rfl (hb hby d26_0) rfl rfl ?_
    refine XS.ifnullNo X0.here hx rfl (hb hby d26_1) rfl ?_
    refine XS.aloadN X0.here hx rfl (hb hby d26_4) rfl rfl ?_
    refine XS.iconst X0.here hx rfl (hb hby d26_5) ?_
    refine X0.iaload hx (j := (1 : Int32)) (v := (.int 1)) (by rw [e0]; exact Aar1.1) (State.isArrayOf_alike hZ.alike Aar1.2.1) Aar1.2.2 hinar1 hatar1 (g := (mkF m 6 #[.val (.ref a1)] [(.int 1), (.ref a1)])) rfl rfl (hb hby d26_6) _ ?_
    refine XS.iconst X0.here hx rfl (hb hby d26_7) ?_
    refine XS.iand X0.here hx rfl (hb hby d26_8) rfl ?_
    show Steps p.tables e below (s₁.setTop (mkF m 9 #[.val (.ref a1)] [(.int 0)])) _
    refine XS.ifYes X0.here hx rfl (pc0 := 9) (pc' := 16) rfl (hb hby d26_9) rfl ((if0 _ _).trans (teq (by decide : (0 : Int32) = (0 : Int32))).1) (by decide) (by decide) ?_
    show Steps p.tables e below (s₁.setTop (mkF m 16 #[.val (.ref a1)] [])) _
    refine XS.iconst X0.here hx rfl (hb hby d26_16) ?_
    exact retN X0 hx (t := .boolean) Bd.returns (by simp) (hb hby d26_17) hr
  · show Qia1 Z a1 kr r0 r2 r3 r4 r5 r6 r7 r8 r9 r10 r11 r12 r13 r14 r15 r16 r17 r18 r19 h0 n0 _ s₁.heap _
    rw [e0]
    exact ⟨rfl, N0, rfl⟩
theorem d26_12 : decode prog_18_method_4_code 12 = .ok (.iconst 1, 1) := by decide +kernel
theorem d26_13 : decode prog_18_method_4_code 13 = .ok (.goto 4, 3) := by decide +kernel
theorem ef_ia2 (m : MethodId) (x0 : Addr) : entryFrame m #[(.ref x0)] 1 = mkF m 0 #[.val (.ref x0)] [] := by first | (simp [entryFrame, mkF, argsToLocals, Value.category]; done) | rfl
abbrev R_ia2 : Room := { frames := 0, cells := 0, slots := 0, locals := 0 }
def Qia2 (Z : State) (a1 : Addr) (kr : ClassId) (r0 : Int32) (r2 : Int32) (r3 : Int32) (r4 : Int32) (r5 : Int32) (r6 : Int32) (r7 : Int32) (r8 : Int32) (r9 : Int32) (r10 : Int32) (r11 : Int32) (r12 : Int32) (r13 : Int32) (r14 : Int32) (r15 : Int32) (r16 : Int32) (r17 : Int32) (r18 : Int32) (r19 : Int32) (h0 : Heap) (n0 : Nat) (v : Option Value) (h : Heap) (L : List Loc) : Prop := v = some (.int 1) ∧ Fr n0 L ∧ h = h0
set_option maxRecDepth 65536 in
set_option maxHeartbeats 40000000 in
theorem rmia2 (l : Launch) (Z : State) (a0 : Array Value) (hw : ∀ d ∈ tables_1, d.before a0 Z = true) (ws : List Jvm.Cond) (a1 : Addr) (kr : ClassId) (r0 : Int32) (r2 : Int32) (r3 : Int32) (r4 : Int32) (r5 : Int32) (r6 : Int32) (r7 : Int32) (r8 : Int32) (r9 : Int32) (r10 : Int32) (r11 : Int32) (r12 : Int32) (r13 : Int32) (r14 : Int32) (r15 : Int32) (r16 : Int32) (r17 : Int32) (r18 : Int32) (r19 : Int32) (h0 : Heap) (n0 : Nat) (Z0 : n0 ≤ h0.size) (V_a1 : Arv Z h0 a1 kr .int (20 : Int32) [(.int r0), (.int 2), (.int r2), (.int r3), (.int r4), (.int r5), (.int r6), (.int r7), (.int r8), (.int r9), (.int r10), (.int r11), (.int r12), (.int r13), (.int r14), (.int r15), (.int r16), (.int r17), (.int r18), (.int r19)] (.int 0)) :
    MetFree l (⟨KS, "isAdministrator", "([I)Z"⟩ : MethodName) (head1 (Jvm.Cond.code (⟨KS, "isAdministrator", "([I)Z"⟩ : MethodName) prog_18_method_4_code 1 (some .boolean) :: ws) R_ia2) (fun a U => a = #[(.ref a1)] ∧ Z.Warmed39 U.vm ∧ U.heap = h0) (fun _ _ _ _ _ => True) (fun _ U o U' => ∃ v L, o = .returned v ∧ Qia2 Z a1 kr r0 r2 r3 r4 r5 r6 r7 r8 r9 r10 r11 r12 r13 r14 r15 r16 r17 r18 r19 h0 n0 v U'.heap L ∧ FrameEnd U o U' L R_ia2.cells R_ia2.slots) := by
  refine MetFree.of_bodySF (plainFor_of_name pn_386) hisR ?_
  intro p e s m args below meth c s₁ Bd hml0 hP hK
  obtain ⟨rfl, hZ, hh⟩ := hP
  have hx := Bd.exec
  have hby := Bd.bytes
  have hml : c.maxLocals = 1 := hml0
  have hown : s.vm.findClass KS = some m.cls := findClass_of_methodNamed Bd.named
  have hnm := (name_of_methodNamed Bd.named Bd.method).1
  have X0 : Stand p l e R_ia2 s m #[(.ref a1)] below meth c s₁ [] 0 0 := Stand.of_body Bd
  have e0 : s₁.heap = h0 := by rw [← hh, Bd.state]; rfl
  have N0 := Fr.nil n0
  have pre0 : ∀ t, Steps p.tables e below (s₁.setTop (mkF m 0 #[.val (.ref a1)] [])) t → Steps p.tables e below (s₁.setTop (entryFrame m #[(.ref a1)] 1)) t := fun t k => castTop (ef_ia2 m a1) k
  obtain ⟨car1, Aar1, qar1, Sar1, Nar1, Har1, Gar1⟩ := id V_a1
  have hinar1 : ¬ ((1 : Int32) < 0 ∨ car1.slots.size ≤ ((1 : Int32)).toNatClampNeg) := inb_of Sar1 ⟨by decide, by decide⟩
  have hatar1 : car1.slots[((1 : Int32)).toNatClampNeg]? = some (.int 2) := Har1.at hinar1 rfl
  obtain ⟨fs, hr, hrun, hended, hW, hsame⟩ := X0.leave (v := some (.int 1)) (fun h => by rw [Bd.returns] at h; cases h) Bd.notSynchronized
  refine ⟨_, _, pre0 _ ?_, hrun, hended, _, _, rfl, ?_, ⟨_, rfl⟩, hW, hsame.mono (by decide) (by decide)⟩
  · show Steps p.tables e below (s₁.setTop (mkF m 0 #[.val (.ref a1)] [])) _
    refine XS.aloadN X0.here hx rfl (hb hby d26_0) rfl rfl ?_
    refine XS.ifnullNo X0.here hx rfl (hb hby d26_1) rfl ?_
    refine XS.aloadN X0.here hx rfl (hb hby d26_4) rfl rfl ?_
    refine XS.iconst X0.here hx rfl (hb hby d26_5) ?_
    refine X0.iaload hx (j := (1 : Int32)) (v := (.int 2)) (by rw [e0]; exact Aar1.1) (State.isArrayOf_alike hZ.alike Aar1.2.1) Aar1.2.2 hinar1 hatar1 (g := (mkF m 6 #[.val (.ref a1)] [(.int 1), (.ref a1)])) rfl rfl (hb hby d26_6) _ ?_
    refine XS.iconst X0.here hx rfl (hb hby d26_7) ?_
    refine XS.iand X0.here hx rfl (hb hby d26_8) rfl ?_
    show Steps p.tables e below (s₁.setTop (mkF m 9 #[.val (.ref a1)] [(.int 2)])) _
    refine XS.ifNo X0.here hx rfl (hb hby d26_9) rfl ((if0 _ _).trans (feq (by decide : ¬ ((2 : Int32) = (0 : Int32)))).1) ?_
    show Steps p.tables e below (s₁.setTop (mkF m 12 #[.val (.ref a1)] [])) _
    refine XS.iconst X0.here hx rfl (hb hby d26_12) ?_
    refine XS.goto X0.here hx rfl (pc0 := 13) (pc' := 17) rfl (hb hby d26_13) (by decide) (by decide) ?_
    exact retN X0 hx (t := .boolean) Bd.returns (by simp) (hb hby d26_17) hr
  · show Qia2 Z a1 kr r0 r2 r3 r4 r5 r6 r7 r8 r9 r10 r11 r12 r13 r14 r15 r16 r17 r18 r19 h0 n0 _ s₁.heap _
    rw [e0]
    exact ⟨rfl, N0, rfl⟩
theorem ef_ia3 (m : MethodId) (x0 : Addr) : entryFrame m #[(.ref x0)] 1 = mkF m 0 #[.val (.ref x0)] [] := by first | (simp [entryFrame, mkF, argsToLocals, Value.category]; done) | rfl
abbrev R_ia3 : Room := { frames := 0, cells := 0, slots := 0, locals := 0 }
def Qia3 (Z : State) (a1 : Addr) (kr : ClassId) (r0 : Int32) (r2 : Int32) (r3 : Int32) (r4 : Int32) (r5 : Int32) (r6 : Int32) (r7 : Int32) (r8 : Int32) (r9 : Int32) (r10 : Int32) (r11 : Int32) (r12 : Int32) (r13 : Int32) (r14 : Int32) (r15 : Int32) (r16 : Int32) (r17 : Int32) (r18 : Int32) (r19 : Int32) (h0 : Heap) (n0 : Nat) (v : Option Value) (h : Heap) (L : List Loc) : Prop := v = some (.int 1) ∧ Fr n0 L ∧ h = h0
set_option maxRecDepth 65536 in
set_option maxHeartbeats 40000000 in
theorem rmia3 (l : Launch) (Z : State) (a0 : Array Value) (hw : ∀ d ∈ tables_1, d.before a0 Z = true) (ws : List Jvm.Cond) (a1 : Addr) (kr : ClassId) (r0 : Int32) (r2 : Int32) (r3 : Int32) (r4 : Int32) (r5 : Int32) (r6 : Int32) (r7 : Int32) (r8 : Int32) (r9 : Int32) (r10 : Int32) (r11 : Int32) (r12 : Int32) (r13 : Int32) (r14 : Int32) (r15 : Int32) (r16 : Int32) (r17 : Int32) (r18 : Int32) (r19 : Int32) (h0 : Heap) (n0 : Nat) (Z0 : n0 ≤ h0.size) (V_a1 : Arv Z h0 a1 kr .int (20 : Int32) [(.int r0), (.int 3), (.int r2), (.int r3), (.int r4), (.int r5), (.int r6), (.int r7), (.int r8), (.int r9), (.int r10), (.int r11), (.int r12), (.int r13), (.int r14), (.int r15), (.int r16), (.int r17), (.int r18), (.int r19)] (.int 0)) :
    MetFree l (⟨KS, "isAdministrator", "([I)Z"⟩ : MethodName) (head1 (Jvm.Cond.code (⟨KS, "isAdministrator", "([I)Z"⟩ : MethodName) prog_18_method_4_code 1 (some .boolean) :: ws) R_ia3) (fun a U => a = #[(.ref a1)] ∧ Z.Warmed39 U.vm ∧ U.heap = h0) (fun _ _ _ _ _ => True) (fun _ U o U' => ∃ v L, o = .returned v ∧ Qia3 Z a1 kr r0 r2 r3 r4 r5 r6 r7 r8 r9 r10 r11 r12 r13 r14 r15 r16 r17 r18 r19 h0 n0 v U'.heap L ∧ FrameEnd U o U' L R_ia3.cells R_ia3.slots) := by
  refine MetFree.of_bodySF (plainFor_of_name pn_386) hisR ?_
  intro p e s m args below meth c s₁ Bd hml0 hP hK
  obtain ⟨rfl, hZ, hh⟩ := hP
  have hx := Bd.exec
  have hby := Bd.bytes
  have hml : c.maxLocals = 1 := hml0
  have hown : s.vm.findClass KS = some m.cls := findClass_of_methodNamed Bd.named
  have hnm := (name_of_methodNamed Bd.named Bd.method).1
  have X0 : Stand p l e R_ia3 s m #[(.ref a1)] below meth c s₁ [] 0 0 := Stand.of_body Bd
  have e0 : s₁.heap = h0 := by rw [← hh, Bd.state]; rfl
  have N0 := Fr.nil n0
  have pre0 : ∀ t, Steps p.tables e below (s₁.setTop (mkF m 0 #[.val (.ref a1)] [])) t → Steps p.tables e below (s₁.setTop (entryFrame m #[(.ref a1)] 1)) t := fun t k => castTop (ef_ia3 m a1) k
  obtain ⟨car1, Aar1, qar1, Sar1, Nar1, Har1, Gar1⟩ := id V_a1
  have hinar1 : ¬ ((1 : Int32) < 0 ∨ car1.slots.size ≤ ((1 : Int32)).toNatClampNeg) := inb_of Sar1 ⟨by decide, by decide⟩
  have hatar1 : car1.slots[((1 : Int32)).toNatClampNeg]? = some (.int 3) := Har1.at hinar1 rfl
  obtain ⟨fs, hr, hrun, hended, hW, hsame⟩ := X0.leave (v := some (.int 1)) (fun h => by rw [Bd.returns] at h; cases h) Bd.notSynchronized
  refine ⟨_, _, pre0 _ ?_, hrun, hended, _, _, rfl, ?_, ⟨_, rfl⟩, hW, hsame.mono (by decide) (by decide)⟩
  · show Steps p.tables e below (s₁.setTop (mkF m 0 #[.val (.ref a1)] [])) _
    refine XS.aloadN X0.here hx rfl (hb hby d26_0) rfl rfl ?_
    refine XS.ifnullNo X0.here hx rfl (hb hby d26_1) rfl ?_
    refine XS.aloadN X0.here hx rfl (hb hby d26_4) rfl rfl ?_
    refine XS.iconst X0.here hx rfl (hb hby d26_5) ?_
    refine X0.iaload hx (j := (1 : Int32)) (v := (.int 3)) (by rw [e0]; exact Aar1.1) (State.isArrayOf_alike hZ.alike Aar1.2.1) Aar1.2.2 hinar1 hatar1 (g := (mkF m 6 #[.val (.ref a1)] [(.int 1), (.ref a1)])) rfl rfl (hb hby d26_6) _ ?_
    refine XS.iconst X0.here hx rfl (hb hby d26_7) ?_
    refine XS.iand X0.here hx rfl (hb hby d26_8) rfl ?_
    show Steps p.tables e below (s₁.setTop (mkF m 9 #[.val (.ref a1)] [(.int 2)])) _
    refine XS.ifNo X0.here hx rfl (hb hby d26_9) rfl ((if0 _ _).trans (feq (by decide : ¬ ((2 : Int32) = (0 : Int32)))).1) ?_
    show Steps p.tables e below (s₁.setTop (mkF m 12 #[.val (.ref a1)] [])) _
    refine XS.iconst X0.here hx rfl (hb hby d26_12) ?_
    refine XS.goto X0.here hx rfl (pc0 := 13) (pc' := 17) rfl (hb hby d26_13) (by decide) (by decide) ?_
    exact retN X0 hx (t := .boolean) Bd.returns (by simp) (hb hby d26_17) hr
  · show Qia3 Z a1 kr r0 r2 r3 r4 r5 r6 r7 r8 r9 r10 r11 r12 r13 r14 r15 r16 r17 r18 r19 h0 n0 _ s₁.heap _
    rw [e0]
    exact ⟨rfl, N0, rfl⟩
theorem pn_810 : plainName KL = true := by first | (simp [plainName, overriddenIn]; done) | decide +kernel
theorem pd_811 : parseMethodDescriptor "([C)V" = some ⟨[(.array .char)], none⟩ := by decide +kernel
theorem pd_812 : parseMethodDescriptor "(Ljava/lang/String;ZZ)V" = some ⟨[(.object KJ), .boolean, .boolean], none⟩ := by decide +kernel
theorem pd_813 : parseMethodDescriptor "(Lcom/example/explicit_grants/explicitgrants/Interner$Key;)[I" = some ⟨[(.object KK)], some (.array .int)⟩ := by decide +kernel
theorem pd_814 : parseMethodDescriptor "(Ljava/lang/String;IIIII)V" = some ⟨[(.object KJ), .int, .int, .int, .int, .int], none⟩ := by decide +kernel
theorem ef_0 (m : MethodId) (x0 : Int32) (x1 : Int32) (x2 : Int32) (x3 : Int32) (x4 : Int32) : entryFrame m #[(.int x0), (.int x1), (.int x2), (.int x3), (.int x4)] maxLocals = mkF m 0 #[.val (.int x0), .val (.int x1), .val (.int x2), .val (.int x3), .val (.int x4), .unset, .unset, .unset, .unset, .unset, .unset, .unset, .unset] [] := by first | (simp [entryFrame, mkF, argsToLocals, Value.category, maxLocals]; done) | rfl
def Q0 (Z : State) (p1 : Int32) (p2 : Int32) (p3 : Int32) (p4 : Int32) (p5 : Int32) (cz : Int32) (fmt : Value) (h0 : Heap) (n0 : Nat) (v : Option Value) (h : Heap) (L : List Loc) : Prop := v = some (.int 1) ∧ Fr n0 L
set_option maxRecDepth 65536 in
set_option maxHeartbeats 40000000 in
theorem rm0 (l : Launch) (Z : State) (a0 : Array Value) (hw : ∀ d ∈ tables_1, d.before a0 Z = true) (ws : List Jvm.Cond) (p1 : Int32) (p2 : Int32) (p3 : Int32) (p4 : Int32) (p5 : Int32) (cz : Int32) (fmt : Value) (h0 : Heap) (n0 : Nat) (Z0 : n0 ≤ h0.size) (O0 : Old Z n0 h0) (S_COMPACT_STRINGS : Sta Z Z.heap KJ "COMPACT_STRINGS" "Z" (.int cz)) (hcz : ¬ (cz = (0 : Int32))) (S_SIOOBE_FORMATTER : Sta Z Z.heap "jdk/internal/util/Preconditions" "SIOOBE_FORMATTER" "Ljava/util/function/BiFunction;" fmt) (hfmt : fmt = .null ∨ ∃ a, fmt = .ref a) :
    MetFree l x (head1 (Jvm.Cond.code x code maxLocals ret :: ws) room_1) (fun a U => a = #[(.int p1), (.int p2), (.int p3), (.int p4), (.int p5)] ∧ Z.Warmed39 U.vm ∧ U.heap = h0) (fun _ _ _ _ _ => True) (fun _ U o U' => ∃ v L, o = .returned v ∧ Q0 Z p1 p2 p3 p4 p5 cz fmt h0 n0 v U'.heap L ∧ FrameEnd U o U' L room_1.cells room_1.slots) := by
  refine MetFree.of_bodySF (plainFor_of_name pn_810) hisR ?_
  intro p e s m args below meth c s₁ Bd hml0 hP hK
  obtain ⟨rfl, hZ, hh⟩ := hP
  have hx := Bd.exec
  have hby := Bd.bytes
  have hml : c.maxLocals = 13 := hml0
  have hown : s.vm.findClass KL = some m.cls := findClass_of_methodNamed Bd.named
  have hnm := (name_of_methodNamed Bd.named Bd.method).1
  have X0 : Stand p l e room_1 s m #[(.int p1), (.int p2), (.int p3), (.int p4), (.int p5)] below meth c s₁ [] 0 0 := Stand.of_body Bd
  have e0 : s₁.heap = h0 := by rw [← hh, Bd.state]; rfl
  have N0 := Fr.nil n0
  have pre0 : ∀ t, Steps p.tables e below (s₁.setTop (mkF m 0 #[.val (.int p1), .val (.int p2), .val (.int p3), .val (.int p4), .val (.int p5), .unset, .unset, .unset, .unset, .unset, .unset, .unset, .unset] [])) t → Steps p.tables e below (s₁.setTop (entryFrame m #[(.int p1), (.int p2), (.int p3), (.int p4), (.int p5)] maxLocals)) t := fun t k => castTop (ef_0 m p1 p2 p3 p4 p5) k
  have pre1 : ∀ t, Steps p.tables e below (s₁.setTop (mkF m 3 #[.val (.int p1), .val (.int p2), .val (.int p3), .val (.int p4), .val (.int p5), .unset, .unset, .unset, .unset, .unset, .unset, .unset, .unset] [(.int (p3 &&& (1 : Int32)))])) t → Steps p.tables e below (s₁.setTop (entryFrame m #[(.int p1), (.int p2), (.int p3), (.int p4), (.int p5)] maxLocals)) t := fun t k => pre0 t (by
    show Steps p.tables e below (s₁.setTop (mkF m 0 #[.val (.int p1), .val (.int p2), .val (.int p3), .val (.int p4), .val (.int p5), .unset, .unset, .unset, .unset, .unset, .unset, .unset, .unset] [])) _
    refine XS.iloadN X0.here hx rfl (hb hby at_0) rfl ?_
    refine XS.iconst X0.here hx rfl (hb hby at_1) ?_
    refine XS.iand X0.here hx rfl (hb hby at_2) rfl ?_
    exact k)
  refine cps (A := ∃ (ad : Int32) (lcj2 : List Loc) (Tj2 : State), (ad = (0 : Int32) ∨ ad = (1 : Int32)) ∧ Fr n0 lcj2 ∧ Stand p l e room_1 s m #[(.int p1), (.int p2), (.int p3), (.int p4), (.int p5)] below meth c Tj2 lcj2 0 0 ∧ Tj2.heap = h0 ∧ (∀ t, Steps p.tables e below (Tj2.setTop (mkF m 13 #[.val (.int p1), .val (.int p2), .val (.int p3), .val (.int p4), .val (.int p5), .val (.int ad), .unset, .unset, .unset, .unset, .unset, .unset, .unset] [])) t → Steps p.tables e below (s₁.setTop (entryFrame m #[(.int p1), (.int p2), (.int p3), (.int p4), (.int p5)] maxLocals)) t)) (fun kj => ?_) ?_
  ·  -- to the meeting at pc 13
    by_cases hc3 : (p3 &&& (1 : Int32)) = (0 : Int32)
    ·  -- pc 3: (p3 &&& (1 : Int32)) = (0 : Int32)
      have pre4 : ∀ t, Steps p.tables e below (s₁.setTop (mkF m 13 #[.val (.int p1), .val (.int p2), .val (.int p3), .val (.int p4), .val (.int p5), .val (.int 0), .unset, .unset, .unset, .unset, .unset, .unset, .unset] [])) t → Steps p.tables e below (s₁.setTop (entryFrame m #[(.int p1), (.int p2), (.int p3), (.int p4), (.int p5)] maxLocals)) t := fun t k => pre1 t (by
        show Steps p.tables e below (s₁.setTop (mkF m 3 #[.val (.int p1), .val (.int p2), .val (.int p3), .val (.int p4), .val (.int p5), .unset, .unset, .unset, .unset, .unset, .unset, .unset, .unset] [(.int (p3 &&& (1 : Int32)))])) _
        refine XS.ifYes X0.here hx rfl (pc0 := 3) (pc' := 10) rfl (hb hby at_3) rfl ((if0 _ _).trans (teq hc3).1) (by decide) (by decide) ?_
        refine XS.iconst X0.here hx rfl (hb hby at_10) ?_
        refine XS.istore X0.here hx rfl (hb hby at_11) rfl (l' := #[.val (.int p1), .val (.int p2), .val (.int p3), .val (.int p4), .val (.int p5), .val (.int 0), .unset, .unset, .unset, .unset, .unset, .unset, .unset]) rfl ?_
        exact k)
      exact kj ⟨(0 : Int32), _, s₁, (Or.inl rfl), N0, X0, e0, pre4⟩
    ·  -- pc 3: not (p3 &&& (1 : Int32)) = (0 : Int32)
      have pre5 : ∀ t, Steps p.tables e below (s₁.setTop (mkF m 13 #[.val (.int p1), .val (.int p2), .val (.int p3), .val (.int p4), .val (.int p5), .val (.int 1), .unset, .unset, .unset, .unset, .unset, .unset, .unset] [])) t → Steps p.tables e below (s₁.setTop (entryFrame m #[(.int p1), (.int p2), (.int p3), (.int p4), (.int p5)] maxLocals)) t := fun t k => pre1 t (by
        show Steps p.tables e below (s₁.setTop (mkF m 3 #[.val (.int p1), .val (.int p2), .val (.int p3), .val (.int p4), .val (.int p5), .unset, .unset, .unset, .unset, .unset, .unset, .unset, .unset] [(.int (p3 &&& (1 : Int32)))])) _
        refine XS.ifNo X0.here hx rfl (hb hby at_3) rfl ((if0 _ _).trans (feq hc3).1) ?_
        refine XS.iconst X0.here hx rfl (hb hby at_6) ?_
        refine XS.goto X0.here hx rfl (pc0 := 7) (pc' := 11) rfl (hb hby at_7) (by decide) (by decide) ?_
        refine XS.istore X0.here hx rfl (hb hby at_11) rfl (l' := #[.val (.int p1), .val (.int p2), .val (.int p3), .val (.int p4), .val (.int p5), .val (.int 1), .unset, .unset, .unset, .unset, .unset, .unset, .unset]) rfl ?_
        exact k)
      exact kj ⟨(1 : Int32), _, s₁, (Or.inr rfl), N0, X0, e0, pre5⟩
  ·  -- from the meeting at pc 13
    rintro ⟨ad, lcj2, Tj2, had, Nj2, Xj2, ej2, prej2⟩
    have pre6 : ∀ t, Steps p.tables e below (Tj2.setTop (mkF m 16 #[.val (.int p1), .val (.int p2), .val (.int p3), .val (.int p4), .val (.int p5), .val (.int ad), .unset, .unset, .unset, .unset, .unset, .unset, .unset] [(.int (p3 &&& (2 : Int32)))])) t → Steps p.tables e below (s₁.setTop (entryFrame m #[(.int p1), (.int p2), (.int p3), (.int p4), (.int p5)] maxLocals)) t := fun t k => prej2 t (by
      show Steps p.tables e below (Tj2.setTop (mkF m 13 #[.val (.int p1), .val (.int p2), .val (.int p3), .val (.int p4), .val (.int p5), .val (.int ad), .unset, .unset, .unset, .unset, .unset, .unset, .unset] [])) _
      refine XS.iloadN Xj2.here hx rfl (hb hby at_13) rfl ?_
      refine XS.iconst Xj2.here hx rfl (hb hby at_14) ?_
      refine XS.iand Xj2.here hx rfl (hb hby at_15) rfl ?_
      exact k)
    refine cps (A := ∃ (en : Int32) (lcj7 : List Loc) (Tj7 : State), (en = (0 : Int32) ∨ en = (1 : Int32)) ∧ Fr n0 lcj7 ∧ Stand p l e room_1 s m #[(.int p1), (.int p2), (.int p3), (.int p4), (.int p5)] below meth c Tj7 lcj7 0 0 ∧ Tj7.heap = h0 ∧ (∀ t, Steps p.tables e below (Tj7.setTop (mkF m 26 #[.val (.int p1), .val (.int p2), .val (.int p3), .val (.int p4), .val (.int p5), .val (.int ad), .val (.int en), .unset, .unset, .unset, .unset, .unset, .unset] [])) t → Steps p.tables e below (s₁.setTop (entryFrame m #[(.int p1), (.int p2), (.int p3), (.int p4), (.int p5)] maxLocals)) t)) (fun kj => ?_) ?_
    ·  -- to the meeting at pc 26
      by_cases hc8 : (p3 &&& (2 : Int32)) = (0 : Int32)
      ·  -- pc 16: (p3 &&& (2 : Int32)) = (0 : Int32)
        have pre9 : ∀ t, Steps p.tables e below (Tj2.setTop (mkF m 26 #[.val (.int p1), .val (.int p2), .val (.int p3), .val (.int p4), .val (.int p5), .val (.int ad), .val (.int 0), .unset, .unset, .unset, .unset, .unset, .unset] [])) t → Steps p.tables e below (s₁.setTop (entryFrame m #[(.int p1), (.int p2), (.int p3), (.int p4), (.int p5)] maxLocals)) t := fun t k => pre6 t (by
          show Steps p.tables e below (Tj2.setTop (mkF m 16 #[.val (.int p1), .val (.int p2), .val (.int p3), .val (.int p4), .val (.int p5), .val (.int ad), .unset, .unset, .unset, .unset, .unset, .unset, .unset] [(.int (p3 &&& (2 : Int32)))])) _
          refine XS.ifYes Xj2.here hx rfl (pc0 := 16) (pc' := 23) rfl (hb hby at_16) rfl ((if0 _ _).trans (teq hc8).1) (by decide) (by decide) ?_
          refine XS.iconst Xj2.here hx rfl (hb hby at_23) ?_
          refine XS.istore Xj2.here hx rfl (hb hby at_24) rfl (l' := #[.val (.int p1), .val (.int p2), .val (.int p3), .val (.int p4), .val (.int p5), .val (.int ad), .val (.int 0), .unset, .unset, .unset, .unset, .unset, .unset]) rfl ?_
          exact k)
        exact kj ⟨(0 : Int32), _, Tj2, (Or.inl rfl), Nj2, Xj2, ej2, pre9⟩
      ·  -- pc 16: not (p3 &&& (2 : Int32)) = (0 : Int32)
        have pre10 : ∀ t, Steps p.tables e below (Tj2.setTop (mkF m 26 #[.val (.int p1), .val (.int p2), .val (.int p3), .val (.int p4), .val (.int p5), .val (.int ad), .val (.int 1), .unset, .unset, .unset, .unset, .unset, .unset] [])) t → Steps p.tables e below (s₁.setTop (entryFrame m #[(.int p1), (.int p2), (.int p3), (.int p4), (.int p5)] maxLocals)) t := fun t k => pre6 t (by
          show Steps p.tables e below (Tj2.setTop (mkF m 16 #[.val (.int p1), .val (.int p2), .val (.int p3), .val (.int p4), .val (.int p5), .val (.int ad), .unset, .unset, .unset, .unset, .unset, .unset, .unset] [(.int (p3 &&& (2 : Int32)))])) _
          refine XS.ifNo Xj2.here hx rfl (hb hby at_16) rfl ((if0 _ _).trans (feq hc8).1) ?_
          refine XS.iconst Xj2.here hx rfl (hb hby at_19) ?_
          refine XS.goto Xj2.here hx rfl (pc0 := 20) (pc' := 24) rfl (hb hby at_20) (by decide) (by decide) ?_
          refine XS.istore Xj2.here hx rfl (hb hby at_24) rfl (l' := #[.val (.int p1), .val (.int p2), .val (.int p3), .val (.int p4), .val (.int p5), .val (.int ad), .val (.int 1), .unset, .unset, .unset, .unset, .unset, .unset]) rfl ?_
          exact k)
        exact kj ⟨(1 : Int32), _, Tj2, (Or.inr rfl), Nj2, Xj2, ej2, pre10⟩
    ·  -- from the meeting at pc 26
      rintro ⟨en, lcj7, Tj7, hen, Nj7, Xj7, ej7, prej7⟩
      have pre11 : ∀ t, Steps p.tables e below (Tj7.setTop (mkF m 29 #[.val (.int p1), .val (.int p2), .val (.int p3), .val (.int p4), .val (.int p5), .val (.int ad), .val (.int en), .unset, .unset, .unset, .unset, .unset, .unset] [(.int (p3 &&& (4 : Int32)))])) t → Steps p.tables e below (s₁.setTop (entryFrame m #[(.int p1), (.int p2), (.int p3), (.int p4), (.int p5)] maxLocals)) t := fun t k => prej7 t (by
        show Steps p.tables e below (Tj7.setTop (mkF m 26 #[.val (.int p1), .val (.int p2), .val (.int p3), .val (.int p4), .val (.int p5), .val (.int ad), .val (.int en), .unset, .unset, .unset, .unset, .unset, .unset] [])) _
        refine XS.iloadN Xj7.here hx rfl (hb hby at_26) rfl ?_
        refine XS.iconst Xj7.here hx rfl (hb hby at_27) ?_
        refine XS.iand Xj7.here hx rfl (hb hby at_28) rfl ?_
        exact k)
      refine cps (A := ∃ (li : Int32) (lcj12 : List Loc) (Tj12 : State), (li = (0 : Int32) ∨ li = (1 : Int32)) ∧ Fr n0 lcj12 ∧ Stand p l e room_1 s m #[(.int p1), (.int p2), (.int p3), (.int p4), (.int p5)] below meth c Tj12 lcj12 0 0 ∧ Tj12.heap = h0 ∧ (∀ t, Steps p.tables e below (Tj12.setTop (mkF m 39 #[.val (.int p1), .val (.int p2), .val (.int p3), .val (.int p4), .val (.int p5), .val (.int ad), .val (.int en), .val (.int li), .unset, .unset, .unset, .unset, .unset] [])) t → Steps p.tables e below (s₁.setTop (entryFrame m #[(.int p1), (.int p2), (.int p3), (.int p4), (.int p5)] maxLocals)) t)) (fun kj => ?_) ?_
      ·  -- to the meeting at pc 39
        by_cases hc13 : (p3 &&& (4 : Int32)) = (0 : Int32)
        ·  -- pc 29: (p3 &&& (4 : Int32)) = (0 : Int32)
          have pre14 : ∀ t, Steps p.tables e below (Tj7.setTop (mkF m 39 #[.val (.int p1), .val (.int p2), .val (.int p3), .val (.int p4), .val (.int p5), .val (.int ad), .val (.int en), .val (.int 0), .unset, .unset, .unset, .unset, .unset] [])) t → Steps p.tables e below (s₁.setTop (entryFrame m #[(.int p1), (.int p2), (.int p3), (.int p4), (.int p5)] maxLocals)) t := fun t k => pre11 t (by
            show Steps p.tables e below (Tj7.setTop (mkF m 29 #[.val (.int p1), .val (.int p2), .val (.int p3), .val (.int p4), .val (.int p5), .val (.int ad), .val (.int en), .unset, .unset, .unset, .unset, .unset, .unset] [(.int (p3 &&& (4 : Int32)))])) _
            refine XS.ifYes Xj7.here hx rfl (pc0 := 29) (pc' := 36) rfl (hb hby at_29) rfl ((if0 _ _).trans (teq hc13).1) (by decide) (by decide) ?_
            refine XS.iconst Xj7.here hx rfl (hb hby at_36) ?_
            refine XS.istore Xj7.here hx rfl (hb hby at_37) rfl (l' := #[.val (.int p1), .val (.int p2), .val (.int p3), .val (.int p4), .val (.int p5), .val (.int ad), .val (.int en), .val (.int 0), .unset, .unset, .unset, .unset, .unset]) rfl ?_
            exact k)
          exact kj ⟨(0 : Int32), _, Tj7, (Or.inl rfl), Nj7, Xj7, ej7, pre14⟩
        ·  -- pc 29: not (p3 &&& (4 : Int32)) = (0 : Int32)
          have pre15 : ∀ t, Steps p.tables e below (Tj7.setTop (mkF m 39 #[.val (.int p1), .val (.int p2), .val (.int p3), .val (.int p4), .val (.int p5), .val (.int ad), .val (.int en), .val (.int 1), .unset, .unset, .unset, .unset, .unset] [])) t → Steps p.tables e below (s₁.setTop (entryFrame m #[(.int p1), (.int p2), (.int p3), (.int p4), (.int p5)] maxLocals)) t := fun t k => pre11 t (by
            show Steps p.tables e below (Tj7.setTop (mkF m 29 #[.val (.int p1), .val (.int p2), .val (.int p3), .val (.int p4), .val (.int p5), .val (.int ad), .val (.int en), .unset, .unset, .unset, .unset, .unset, .unset] [(.int (p3 &&& (4 : Int32)))])) _
            refine XS.ifNo Xj7.here hx rfl (hb hby at_29) rfl ((if0 _ _).trans (feq hc13).1) ?_
            refine XS.iconst Xj7.here hx rfl (hb hby at_32) ?_
            refine XS.goto Xj7.here hx rfl (pc0 := 33) (pc' := 37) rfl (hb hby at_33) (by decide) (by decide) ?_
            refine XS.istore Xj7.here hx rfl (hb hby at_37) rfl (l' := #[.val (.int p1), .val (.int p2), .val (.int p3), .val (.int p4), .val (.int p5), .val (.int ad), .val (.int en), .val (.int 1), .unset, .unset, .unset, .unset, .unset]) rfl ?_
            exact k)
          exact kj ⟨(1 : Int32), _, Tj7, (Or.inr rfl), Nj7, Xj7, ej7, pre15⟩
      ·  -- from the meeting at pc 39
        rintro ⟨li, lcj12, Tj12, hli, Nj12, Xj12, ej12, prej12⟩
        obtain ⟨T16, h16, ka16, X16, e16, E16, A16, st16⟩ := newP Xj12 hx hZ (own_w hw (i := 0) rfl) ej12 (g := (mkF m 40 #[.val (.int p1), .val (.int p2), .val (.int p3), .val (.int p4), .val (.int p5), .val (.int ad), .val (.int en), .val (.int li), .unset, .unset, .unset, .unset, .unset] [(.int 2)])) rfl (hb hby at_40) rfl (by decide) (cap := 2) (by decide) (by decide) (by decide) (by decide)
        obtain ⟨bx16, g16⟩ : ∃ z, z = h0.size := ⟨_, rfl⟩
        rw [← g16] at A16 st16
        have g_bx16 : n0 ≤ bx16 := Nat.le_trans Z0 (Nat.le_of_eq g16.symm)
        have f17 := O0.ext E16
        have zs18 : n0 ≤ h16.size := Nat.le_trans Z0 E16.1
        have V_bx16 : Arv Z h16 bx16 ka16 .char (2 : Int32) [(.int 0), (.int 0)] (.int 0) := (Arv.new A16 (by decide)).pad (pad_rep [] (.int 0) 2)
        obtain ⟨car19, Aar19, qar19, Sar19, Nar19, Har19, Gar19⟩ := id V_bx16
        have hinar19 : ¬ ((0 : Int32) < 0 ∨ car19.slots.size ≤ ((0 : Int32)).toNatClampNeg) := inb_of Sar19 ⟨by decide, by decide⟩
        obtain ⟨T20, h20, X20, e20, W20, st20⟩ := stC X16 hx hZ e16 Aar19 (j := (0 : Int32)) hinar19 (g := (mkF m 53 #[.val (.int p1), .val (.int p2), .val (.int p3), .val (.int p4), .val (.int p5), .val (.int ad), .val (.int en), .val (.int li), .val (.ref bx16), .unset, .unset, .unset, .unset] [(.int ((p1 &&& (255 : Int32)).toUInt32.toUInt16.toUInt32.toInt32)), (.int 0), (.ref bx16)])) rfl rfl (hb hby at_53)
        have V20 : Arv Z h20 bx16 ka16 .char (2 : Int32) [(.int (nar .char ((p1 &&& (255 : Int32)).toUInt32.toUInt16.toUInt32.toInt32))), (.int 0)] (.int 0) := Arv.set Aar19 qar19 Sar19 Nar19 Har19 Gar19 (fits_nar_char _) W20 0 rfl (Nat.le_of_ble_eq_true rfl)
        have f21 := f17.wr W20 g_bx16
        have zs23 : n0 ≤ h20.size := Nat.le_trans zs18 (Keep.of_wr W20).1
        have N24 := Fr.snoc X20 Nj12 g_bx16
        obtain ⟨car25, Aar25, qar25, Sar25, Nar25, Har25, Gar25⟩ := id V20
        have hinar25 : ¬ ((1 : Int32) < 0 ∨ car25.slots.size ≤ ((1 : Int32)).toNatClampNeg) := inb_of Sar25 ⟨by decide, by decide⟩
        obtain ⟨T26, h26, X26, e26, W26, st26⟩ := stC X20 hx hZ e20 Aar25 (j := (1 : Int32)) hinar25 (g := (mkF m 63 #[.val (.int p1), .val (.int p2), .val (.int p3), .val (.int p4), .val (.int p5), .val (.int ad), .val (.int en), .val (.int li), .val (.ref bx16), .unset, .unset, .unset, .unset] [(.int ((p2 &&& (255 : Int32)).toUInt32.toUInt16.toUInt32.toInt32)), (.int 1), (.ref bx16)])) rfl rfl (hb hby at_63)
        have V26 : Arv Z h26 bx16 ka16 .char (2 : Int32) [(.int (nar .char ((p1 &&& (255 : Int32)).toUInt32.toUInt16.toUInt32.toInt32))), (.int (nar .char ((p2 &&& (255 : Int32)).toUInt32.toUInt16.toUInt32.toInt32)))] (.int 0) := Arv.set Aar25 qar25 Sar25 Nar25 Har25 Gar25 (fits_nar_char _) W26 1 rfl (Nat.le_of_ble_eq_true rfl)
        have f27 := f21.wr W26 g_bx16
        have zs29 : n0 ≤ h26.size := Nat.le_trans zs23 (Keep.of_wr W26).1
        have N30 := Fr.snoc X26 N24 g_bx16
        obtain ⟨T31, h31, X31, e31, E31, A31, D31, -, st31⟩ := newO X26 hx hZ hown (own_w hw (i := 1) rfl) (own_w hw (i := 2) rfl) (own_w hw (i := 3) rfl) e26 (g := (mkF m 64 #[.val (.int p1), .val (.int p2), .val (.int p3), .val (.int p4), .val (.int p5), .val (.int ad), .val (.int en), .val (.int li), .val (.ref bx16), .unset, .unset, .unset, .unset] [])) rfl (hb hby at_64) (by decide) (by decide)
        obtain ⟨bx31, g31⟩ : ∃ z, z = h26.size := ⟨_, rfl⟩
        rw [← g31] at A31 D31 st31
        have g_bx31 : n0 ≤ bx31 := Nat.le_trans zs29 (Nat.le_of_eq g31.symm)
        have ne32 : bx16 ≠ bx31 := Nat.ne_of_lt (Nat.lt_of_lt_of_le V26.lt (Nat.le_of_eq g31.symm))
        have f33 := f27.ext E31
        have f34 := V26.ext E31
        have zs35 : n0 ≤ h31.size := Nat.le_trans zs29 E31.1
        have F_coder_bx31 : Fld Z h31 bx31 KJ "coder" "B" (.int 0) := D31 (Or.inr (own_w hw (i := 27) rfl)) (ty := .byte) (by decide)
        have F_value_bx31 : Fld Z h31 bx31 KJ "value" "[B" .null := D31 (Or.inr (own_w hw (i := 29) rfl)) (ty := (.array .byte)) (by decide)
        have F_hash_bx31 : Fld Z h31 bx31 KJ "hash" "I" (.int 0) := D31 (Or.inl (own_w hw (i := 101) rfl)) (ty := .int) (by decide)
        have F_hashIsZero_bx31 : Fld Z h31 bx31 KJ "hashIsZero" "Z" (.int 0) := D31 (Or.inl (own_w hw (i := 103) rfl)) (ty := .boolean) (by decide)
        -- pc 70: String.<init> by rmin1
        obtain ⟨_, _, ⟨T36, L36, ck36, cn36⟩, -, X36, ⟨Lc36, hQ36, l36, y36, z36⟩, st36⟩ := X31.specialBack hx (y := (⟨KJ, "<init>", "([C)V"⟩ : MethodName)) rfl hown (mvT hZ (own_w hw (i := 4) rfl)) (mvT hZ (own_w hw (i := 5) rfl)) (mvT hZ (own_w hw (i := 6) rfl)) (by decide) (backOf (W := 1) (rmin1 l Z a0 hw [] bx31 bx16 ka16 (nar .char ((p1 &&& (255 : Int32)).toUInt32.toUInt16.toUInt32.toInt32)) (nar .char ((p2 &&& (255 : Int32)).toUInt32.toUInt16.toUInt32.toInt32)) (0 : Int32) (0 : Int32) (0 : Int32) cz h31 n0 zs35 f33 S_COMPACT_STRINGS hcz A31 F_value_bx31 F_coder_bx31 F_hash_bx31 F_hashIsZero_bx31 g_bx31 (Ne.symm ne32) f34 (own_c8 _) (own_c8 _)) hZ (own_w hw (i := 6) rfl) (own_w hw (i := 3) rfl) (by decide) (by decide)) (g := (mkF m 70 #[.val (.int p1), .val (.int p2), .val (.int p3), .val (.int p4), .val (.int p5), .val (.int ad), .val (.int en), .val (.int li), .val (.ref bx16), .unset, .unset, .unset, .unset] [(.ref bx16), (.ref bx31), (.ref bx31)])) rfl (by rw [hml]; rfl) (Steps.refl _) (a := bx31) (argsL := [(.ref bx16)]) (rest := [(.ref bx31)]) (lenOf pd_811 rfl) rfl (by show 2 * 0 + _ ≤ _; exact Nat.le_of_eq rfl) (hb hby at_70) (fun _ _ => ⟨rfl, e31, (by decide : 2 + 1 ≤ _), (by decide : 6 + 2 ≤ _)⟩)
        dsimp only [Pt.U, Pt.locs, Pt.cells, Pt.slots] at X36 l36 y36 z36 st36 hQ36
        subst y36 z36
        obtain ⟨n1_36, kn1_36, rfl, N36q, K36q, gq36_0, sq36_0, o36_0, o36_1, o36_2, o36_3, o36_4, o36_5, o36_6⟩ := hQ36
        have N37 : Fr n0 L36 := by rw [l36]; exact Fr.app N30 N36q
        have ne39 : bx31 ≠ n1_36 := Nat.ne_of_lt (Nat.lt_of_lt_of_le A31.lt sq36_0)
        have f40 := f33.keep K36q (allS g_bx31 all0)
        have zs47 : n0 ≤ T36.heap.size := Nat.le_trans zs35 K36q.1
        obtain ⟨b0, hb0⟩ : ∃ z, z = (nar .byte ((nar .char ((p1 &&& (255 : Int32)).toUInt32.toUInt16.toUInt32.toInt32)).toInt8.toInt32)) := ⟨_, rfl⟩
        obtain ⟨b1, hb1⟩ : ∃ z, z = (nar .byte ((nar .char ((p2 &&& (255 : Int32)).toUInt32.toUInt16.toUInt32.toInt32)).toInt8.toInt32)) := ⟨_, rfl⟩
        have Vb48 : Arv Z T36.heap n1_36 kn1_36 .byte (2 : Int32) [(.int b0), (.int b1)] (.int 0) := by rw [hb0, hb1]; exact o36_5
        obtain ⟨T49, h49, X49, e49, E49, A49, D49, -, st49⟩ := newO X36 hx hZ hown (own_w hw (i := 30) rfl) (own_w hw (i := 31) rfl) (own_w hw (i := 32) rfl) rfl (g := (mkF m 75 #[.val (.int p1), .val (.int p2), .val (.int p3), .val (.int p4), .val (.int p5), .val (.int ad), .val (.int en), .val (.int li), .val (.ref bx16), .val (.ref bx31), .unset, .unset, .unset] [])) rfl (hb hby at_75) (by decide) (by decide)
        obtain ⟨bx49, g49⟩ : ∃ z, z = T36.heap.size := ⟨_, rfl⟩
        rw [← g49] at A49 D49 st49
        have g_bx49 : n0 ≤ bx49 := Nat.le_trans zs47 (Nat.le_of_eq g49.symm)
        have ne51 : bx31 ≠ bx49 := Nat.ne_of_lt (Nat.lt_of_lt_of_le o36_0.lt (Nat.le_of_eq g49.symm))
        have ne52 : n1_36 ≠ bx49 := Nat.ne_of_lt (Nat.lt_of_lt_of_le Vb48.lt (Nat.le_of_eq g49.symm))
        have f53 := f40.ext E49
        have f55 := o36_0.ext E49
        have f56 := o36_1.ext E49
        have f57 := o36_2.ext E49
        have f58 := o36_3.ext E49
        have f59 := o36_4.ext E49
        have f60 := Vb48.ext E49
        have f61 := o36_6.ext E49
        have zs62 : n0 ≤ h49.size := Nat.le_trans zs47 E49.1
        have F_hashes_bx49 : Fld Z h49 bx49 KS "hashes" "[I" .null := D49 (Or.inl (own_w hw (i := 39) rfl)) (ty := (.array .int)) (by decide)
        have F_records_bx49 : Fld Z h49 bx49 KS "records" "[[I" .null := D49 (Or.inl (own_w hw (i := 43) rfl)) (ty := (.array (.array .int))) (by decide)
        have F_subjects_bx49 : Fld Z h49 bx49 KS "subjects" "[Ljava/lang/String;" .null := D49 (Or.inl (own_w hw (i := 47) rfl)) (ty := (.array (.object KJ))) (by decide)
        have F_size_bx49 : Fld Z h49 bx49 KS "size" "I" (.int 0) := D49 (Or.inl (own_w hw (i := 166) rfl)) (ty := .int) (by decide)
        -- pc 79: SubjectLines.<init> by rmsi
        obtain ⟨_, _, ⟨T63, L63, ck63, cn63⟩, -, X63, ⟨Lc63, hQ63, l63, y63, z63⟩, st63⟩ := X49.specialBack hx (y := (⟨KS, "<init>", "()V"⟩ : MethodName)) rfl hown (mvT hZ (own_w hw (i := 33) rfl)) (mvT hZ (own_w hw (i := 34) rfl)) (mvT hZ (own_w hw (i := 35) rfl)) (by decide) (backOf (W := 1) (rmsi l Z a0 hw [] bx49 (0 : Int32) h49 n0 zs62 A49 F_hashes_bx49 F_records_bx49 F_subjects_bx49 F_size_bx49 g_bx49) hZ (own_w hw (i := 35) rfl) (own_w hw (i := 32) rfl) (by decide) (by decide)) (g := (mkF m 79 #[.val (.int p1), .val (.int p2), .val (.int p3), .val (.int p4), .val (.int p5), .val (.int ad), .val (.int en), .val (.int li), .val (.ref bx16), .val (.ref bx31), .unset, .unset, .unset] [(.ref bx49), (.ref bx49)])) rfl (by rw [hml]; rfl) (Steps.refl _) (a := bx49) (argsL := []) (rest := [(.ref bx49)]) (lenOf pd_260 rfl) rfl (by show 2 * 0 + _ ≤ _; exact Nat.le_of_eq rfl) (hb hby at_79) (fun _ _ => ⟨rfl, e49, (by decide : 4 + 3 ≤ _), (by decide : 12 + 48 ≤ _)⟩)
        dsimp only [Pt.U, Pt.locs, Pt.cells, Pt.slots] at X63 l63 y63 z63 st63 hQ63
        subst y63 z63
        obtain ⟨n1_63, kn1_63, n2_63, kn2_63, n3_63, kn3_63, rfl, N63q, K63q, gq63_0, gq63_1, gq63_2, sq63_0, sq63_1, sq63_2, nq63_1_0, nq63_2_0, nq63_2_1, o63_0, o63_1, o63_2, o63_3, o63_4, o63_5, o63_6, o63_7, o63_8, o63_9⟩ := hQ63
        have N64 : Fr n0 L63 := by rw [l63]; exact Fr.app N37 N63q
        have ne66 : bx31 ≠ n1_63 := Nat.ne_of_lt (Nat.lt_of_lt_of_le f55.lt sq63_0)
        have ne67 : n1_36 ≠ n1_63 := Nat.ne_of_lt (Nat.lt_of_lt_of_le f60.lt sq63_0)
        have ne68 : bx49 ≠ n1_63 := Nat.ne_of_lt (Nat.lt_of_lt_of_le A49.lt sq63_0)
        have ne70 : bx31 ≠ n2_63 := Nat.ne_of_lt (Nat.lt_of_lt_of_le f55.lt sq63_1)
        have ne71 : n1_36 ≠ n2_63 := Nat.ne_of_lt (Nat.lt_of_lt_of_le f60.lt sq63_1)
        have ne72 : bx49 ≠ n2_63 := Nat.ne_of_lt (Nat.lt_of_lt_of_le A49.lt sq63_1)
        have ne74 : bx31 ≠ n3_63 := Nat.ne_of_lt (Nat.lt_of_lt_of_le f55.lt sq63_2)
        have ne75 : n1_36 ≠ n3_63 := Nat.ne_of_lt (Nat.lt_of_lt_of_le f60.lt sq63_2)
        have ne76 : bx49 ≠ n3_63 := Nat.ne_of_lt (Nat.lt_of_lt_of_le A49.lt sq63_2)
        have f77 := f53.keep K63q (allS g_bx49 all0)
        have f79 := f55.keep K63q
        have f80 := f56.keep K63q (ninS ne51 nin0)
        have f81 := f57.keep K63q (ninS ne51 nin0)
        have f82 := f58.keep K63q (ninS ne51 nin0)
        have f83 := f59.keep K63q (ninS ne51 nin0)
        have f84 := f60.keep K63q (ninS ne52 nin0)
        have f85 := f61.keep K63q
        have zs91 : n0 ≤ T63.heap.size := Nat.le_trans zs62 K63q.1
        have pre92 : ∀ t, Steps p.tables e below (T63.setTop (mkF m 84 #[.val (.int p1), .val (.int p2), .val (.int p3), .val (.int p4), .val (.int p5), .val (.int ad), .val (.int en), .val (.int li), .val (.ref bx16), .val (.ref bx31), .val (.ref bx49), .unset, .unset] [])) t → Steps p.tables e below (s₁.setTop (entryFrame m #[(.int p1), (.int p2), (.int p3), (.int p4), (.int p5)] maxLocals)) t := fun t k => prej12 t (by
          show Steps p.tables e below (Tj12.setTop (mkF m 39 #[.val (.int p1), .val (.int p2), .val (.int p3), .val (.int p4), .val (.int p5), .val (.int ad), .val (.int en), .val (.int li), .unset, .unset, .unset, .unset, .unset] [])) _
          refine XS.iconst Xj12.here hx rfl (hb hby at_39) ?_
          refine st16 _ ?_
          refine XS.astore X16.here hx rfl (hb hby at_42) rfl rfl (l' := #[.val (.int p1), .val (.int p2), .val (.int p3), .val (.int p4), .val (.int p5), .val (.int ad), .val (.int en), .val (.int li), .val (.ref bx16), .unset, .unset, .unset, .unset]) rfl ?_
          refine XS.aload X16.here hx rfl (hb hby at_44) rfl rfl ?_
          refine XS.iconst X16.here hx rfl (hb hby at_46) ?_
          refine XS.iloadN X16.here hx rfl (hb hby at_47) rfl ?_
          refine XS.sipush X16.here hx rfl (hb hby at_48) ?_
          refine XS.iand X16.here hx rfl (hb hby at_51) rfl ?_
          show Steps p.tables e below (T16.setTop (mkF m 52 #[.val (.int p1), .val (.int p2), .val (.int p3), .val (.int p4), .val (.int p5), .val (.int ad), .val (.int en), .val (.int li), .val (.ref bx16), .unset, .unset, .unset, .unset] [(.int (p1 &&& (255 : Int32))), (.int 0), (.ref bx16)])) _
          refine XS.i2c X16.here hx rfl (hb hby at_52) rfl ?_
          refine st20 _ ?_
          refine XS.aload X20.here hx rfl (hb hby at_54) rfl rfl ?_
          refine XS.iconst X20.here hx rfl (hb hby at_56) ?_
          refine XS.iloadN X20.here hx rfl (hb hby at_57) rfl ?_
          refine XS.sipush X20.here hx rfl (hb hby at_58) ?_
          refine XS.iand X20.here hx rfl (hb hby at_61) rfl ?_
          refine XS.i2c X20.here hx rfl (hb hby at_62) rfl ?_
          show Steps p.tables e below (T20.setTop (mkF m 63 #[.val (.int p1), .val (.int p2), .val (.int p3), .val (.int p4), .val (.int p5), .val (.int ad), .val (.int en), .val (.int li), .val (.ref bx16), .unset, .unset, .unset, .unset] [(.int ((p2 &&& (255 : Int32)).toUInt32.toUInt16.toUInt32.toInt32)), (.int 1), (.ref bx16)])) _
          refine st26 _ ?_
          refine st31 _ ?_
          refine XS.dup X31.here hx rfl (hb hby at_67) rfl rfl ?_
          refine XS.aload X31.here hx rfl (hb hby at_68) rfl rfl ?_
          refine st36.trans ?_
          refine XS.astore X36.here hx rfl (hb hby at_73) rfl rfl (l' := #[.val (.int p1), .val (.int p2), .val (.int p3), .val (.int p4), .val (.int p5), .val (.int ad), .val (.int en), .val (.int li), .val (.ref bx16), .val (.ref bx31), .unset, .unset, .unset]) rfl ?_
          refine st49 _ ?_
          refine XS.dup X49.here hx rfl (hb hby at_78) rfl rfl ?_
          show Steps p.tables e below (T49.setTop (mkF m 79 #[.val (.int p1), .val (.int p2), .val (.int p3), .val (.int p4), .val (.int p5), .val (.int ad), .val (.int en), .val (.int li), .val (.ref bx16), .val (.ref bx31), .unset, .unset, .unset] [(.ref bx49), (.ref bx49)])) _
          refine st63.trans ?_
          refine XS.astore X63.here hx rfl (hb hby at_82) rfl rfl (l' := #[.val (.int p1), .val (.int p2), .val (.int p3), .val (.int p4), .val (.int p5), .val (.int ad), .val (.int en), .val (.int li), .val (.ref bx16), .val (.ref bx31), .val (.ref bx49), .unset, .unset]) rfl ?_
          exact k)
        rcases hli with rfl | rfl
        ·  -- li = 0
          rcases had with rfl | rfl
          ·  -- ad = 0
            rcases hen with rfl | rfl
            ·  -- en = 0
              -- pc 115: SubjectLines.setStatus by rmsE00
              obtain ⟨cq93, kq93, q93a, q93b, q93c⟩ := isOf hZ rfl o63_0
              obtain ⟨_, _, ⟨T93, L93, ck93, cn93⟩, -, X93, ⟨Lc93, hQ93, l93, y93, z93⟩, st93⟩ := X63.virtualBack hx (y := (⟨KS, "setStatus", "(Ljava/lang/String;ZZ)V"⟩ : MethodName)) (z := (⟨KS, "setStatus", "(Ljava/lang/String;ZZ)V"⟩ : MethodName)) hown (mvT hZ (own_w hw (i := 48) rfl)) (mvT hZ (own_w hw (i := 49) rfl)) (notFace_of_selects (args := #[]) (mvT hZ (own_w hw (i := 51) rfl))) (mvT hZ (own_w hw (i := 51) rfl)) (mvT hZ (own_w hw (i := 50) rfl)) (by decide) (backOf (W := 0) (rmsE00 l Z a0 hw [] bx49 bx31 n1_63 n2_63 n3_63 kn1_63 kn2_63 kn3_63 n1_36 kn1_36 b0 b1 (0 : Int32) (0 : Int32) cz fmt T63.heap n0 zs91 o63_0 o63_1 o63_2 o63_3 o63_4 f77 S_COMPACT_STRINGS hcz S_SIOOBE_FORMATTER hfmt f79 f80 f81 f84 f85 f82 f83 (Or.inr ⟨rfl, rfl⟩) (Arv.arh o63_5) (Arv.arh o63_6) (Arv.arh o63_7) o63_8 o63_9 g_bx49 g_bx31 gq63_0 gq63_1 gq63_2 (Ne.symm ne51) ne68 ne72 ne76 (Ne.symm ne52) ne66 ne70 ne74 ne39 (Ne.symm nq63_1_0) (Ne.symm nq63_2_0) (Ne.symm ne67) (Ne.symm nq63_2_1) (Ne.symm ne71) (Ne.symm ne75)) hZ (own_w hw (i := 52) rfl) (own_w hw (i := 32) rfl) (by decide) (by decide)) q93a q93c (g := (mkF m 115 #[.val (.int p1), .val (.int p2), .val (.int p3), .val (.int p4), .val (.int p5), .val (.int 0), .val (.int 0), .val (.int 0), .val (.ref bx16), .val (.ref bx31), .val (.ref bx49), .unset, .unset] [(.int 0), (.int 0), (.ref bx31), (.ref bx49)])) rfl (by rw [hml]; rfl) (Steps.refl _) (argsL := [(.ref bx31), (.int 0), (.int 0)]) (rest := []) (lenOf pd_812 rfl) rfl (by show 2 * 0 + _ ≤ _; exact Nat.le_of_eq rfl) (hb hby at_115) (fun _ _ => ⟨rfl, rfl, (by decide : 7 + 3 ≤ _), (by decide : 60 + 28 ≤ _)⟩)
              dsimp only [Pt.U, Pt.locs, Pt.cells, Pt.slots] at X93 l93 y93 z93 st93 hQ93
              subst y93 z93
              obtain ⟨n1_93, kn1_93, rfl, N93q, K93q, gq93_0, sq93_0, o93_0, o93_1, o93_2, o93_3, o93_4, o93_5, o93_6, o93_7, o93_8, o93_9, o93_10, o93_11, o93_12, o93_13, o93_14⟩ := hQ93
              have N94 : Fr n0 L93 := by rw [l93]; exact Fr.app N64 N93q
              have ne96 : bx31 ≠ n1_93 := Nat.ne_of_lt (Nat.lt_of_lt_of_le f79.lt sq93_0)
              have f102 := f77.keep K93q (allS g_bx49 (allS g_bx31 (allS gq63_0 (allS gq63_1 (allS gq63_2 all0)))))
              have f109 := f84.keep K93q (ninS ne52 (ninS (Ne.symm ne39) (ninS ne67 (ninS ne71 (ninS ne75 nin0)))))
              have f110 := f85.keep K93q
              have zs119 : n0 ≤ T93.heap.size := Nat.le_trans zs91 K93q.1
              -- pc 122: Interner$Key.of by rmko
              obtain ⟨_, _, ⟨T120, L120, ck120, cn120⟩, -, X120, ⟨Lc120, hQ120, l120, y120, z120⟩, st120⟩ := Jvm.LawKit.callS X93 hx (y := (⟨KK, "of", "(Ljava/lang/String;)Lcom/example/explicit_grants/explicitgrants/Interner$Key;"⟩ : MethodName)) hown (mvT hZ (own_w hw (i := 53) rfl)) (mvT hZ (own_w hw (i := 54) rfl)) (mvT hZ (own_w hw (i := 55) rfl)) (mvT hZ (own_w hw (i := 56) rfl)) (by decide) (backOf (W := 1) (rmko l Z a0 hw [] bx31 n1_36 kn1_36 b0 b1 (own_hc b0 b1) (fhc_hashIsZero b0 b1 (0 : Int32) (0 : Int32)) cz fmt T93.heap n0 zs119 f102 S_COMPACT_STRINGS hcz o93_5 o93_6 o93_7 f109 f110 o93_8 o93_9 (Or.inl rfl) g_bx31 ne39 S_SIOOBE_FORMATTER hfmt) hZ (own_w hw (i := 56) rfl) (own_w hw (i := 55) rfl) (by decide) (by decide)) (g := (mkF m 122 #[.val (.int p1), .val (.int p2), .val (.int p3), .val (.int p4), .val (.int p5), .val (.int 0), .val (.int 0), .val (.int 0), .val (.ref bx16), .val (.ref bx31), .val (.ref bx49), .unset, .unset] [(.ref bx31), (.ref bx49)])) rfl (by rw [hml]; rfl) (argsL := [(.ref bx31)]) (rest := [(.ref bx49)]) (lenOf pd_584 rfl) rfl (by show 2 * 0 + _ ≤ _; exact Nat.le_of_eq rfl) (hb hby at_122) (fun _ _ => ⟨rfl, rfl, (by decide : 10 + 1 ≤ _), (by decide : 88 + 5 ≤ _)⟩)
              dsimp only [Pt.U, Pt.locs, Pt.cells, Pt.slots] at X120 l120 y120 z120 st120 hQ120
              subst y120 z120
              obtain ⟨n1_120, kn1_120, rfl, N120q, K120q, gq120_0, sq120_0, o120_0, o120_1, o120_2, o120_3, o120_4, o120_5, o120_6, o120_7, o120_8, o120_9⟩ := hQ120
              have N121 : Fr n0 L120 := by rw [l120]; exact Fr.app N94 N120q
              have f135 := o93_0.keep K120q
              have f136 := o93_1.keep K120q (ninS (Ne.symm ne51) nin0)
              have f137 := o93_2.keep K120q (ninS (Ne.symm ne51) nin0)
              have f138 := o93_3.keep K120q (ninS (Ne.symm ne51) nin0)
              have f144 := o93_10.keep K120q (ninS (Ne.symm ne66) nin0)
              have f145 := o93_11.keep K120q (ninS (Ne.symm ne70) nin0)
              have f147 := o93_13.keep K120q (ninS (Ne.symm ne96) nin0)
              have zs149 : n0 ≤ T120.heap.size := Nat.le_trans zs119 K120q.1
              -- pc 125: SubjectLines.of by rmofO
              obtain ⟨cq150, kq150, q150a, q150b, q150c⟩ := isOf hZ rfl f135
              obtain ⟨_, _, ⟨T150, L150, ck150, cn150⟩, -, X150, ⟨Lc150, hQ150, l150, y150, z150⟩, st150⟩ := X120.virtualBack hx (y := (⟨KS, "of", "(Lcom/example/explicit_grants/explicitgrants/Interner$Key;)[I"⟩ : MethodName)) (z := (⟨KS, "of", "(Lcom/example/explicit_grants/explicitgrants/Interner$Key;)[I"⟩ : MethodName)) hown (mvT hZ (own_w hw (i := 137) rfl)) (mvT hZ (own_w hw (i := 138) rfl)) (notFace_of_selects (args := #[]) (mvT hZ (own_w hw (i := 140) rfl))) (mvT hZ (own_w hw (i := 140) rfl)) (mvT hZ (own_w hw (i := 139) rfl)) (by decide) (backOf (W := 0) (rmofO l Z a0 hw [] bx49 n1_120 (own_hh b0 b1) (own_k1 b0 b1) n1_63 n2_63 n3_63 kn1_63 kn2_63 n1_93 kn1_93 (0 : Int32) (1 : Int32) (0 : Int32) (0 : Int32) (0 : Int32) (0 : Int32) (0 : Int32) (0 : Int32) (0 : Int32) (0 : Int32) (0 : Int32) (0 : Int32) (0 : Int32) (0 : Int32) T120.heap n0 zs149 f135 f136 f137 f138 o120_5 o120_6 o120_7 o120_8 o120_9 f144 f145 f147 (own_k1ne _ _)) hZ (own_w hw (i := 141) rfl) (own_w hw (i := 32) rfl) (by decide) (by decide)) q150a q150c (g := (mkF m 125 #[.val (.int p1), .val (.int p2), .val (.int p3), .val (.int p4), .val (.int p5), .val (.int 0), .val (.int 0), .val (.int 0), .val (.ref bx16), .val (.ref bx31), .val (.ref bx49), .unset, .unset] [(.ref n1_120), (.ref bx49)])) rfl (by rw [hml]; rfl) (Steps.refl _) (argsL := [(.ref n1_120)]) (rest := []) (lenOf pd_813 rfl) rfl (by show 2 * 0 + _ ≤ _; exact Nat.le_of_eq rfl) (hb hby at_125) (fun _ _ => ⟨rfl, rfl, (by decide : 11 + 0 ≤ _), (by decide : 93 + 0 ≤ _)⟩)
              dsimp only [Pt.U, Pt.locs, Pt.cells, Pt.slots] at X150 l150 y150 z150 st150 hQ150
              subst y150 z150
              obtain ⟨rfl, N150q, e150⟩ := hQ150
              have N151 : Fr n0 L150 := by rw [l150]; exact Fr.app N121 N150q
              -- pc 169: SubjectLines.isAdministrator by rmia1
              obtain ⟨_, _, ⟨T152, L152, ck152, cn152⟩, -, X152, ⟨Lc152, hQ152, l152, y152, z152⟩, st152⟩ := Jvm.LawKit.callS X150 hx (y := (⟨KS, "isAdministrator", "([I)Z"⟩ : MethodName)) hown (mvT hZ (own_w hw (i := 147) rfl)) (mvT hZ (own_w hw (i := 148) rfl)) (mvT hZ (own_w hw (i := 32) rfl)) (mvT hZ (own_w hw (i := 149) rfl)) (by decide) (backOf (W := 0) (rmia1 l Z a0 hw [] n1_93 kn1_93 (0 : Int32) ((own_k1 b0 b1).toInt32) ((((own_k1 b0 b1).toUInt64 >>> ((32 : Int32) &&& 0x3f).toInt64.toUInt64).toInt64).toInt32) (0 : Int32) (0 : Int32) (0 : Int32) (0 : Int32) (0 : Int32) (0 : Int32) (0 : Int32) (0 : Int32) (0 : Int32) (0 : Int32) (0 : Int32) (0 : Int32) (0 : Int32) (0 : Int32) (0 : Int32) (0 : Int32) T120.heap n0 zs149 f147) hZ (own_w hw (i := 149) rfl) (own_w hw (i := 32) rfl) (by decide) (by decide)) (g := (mkF m 169 #[.val (.int p1), .val (.int p2), .val (.int p3), .val (.int p4), .val (.int p5), .val (.int 0), .val (.int 0), .val (.int 0), .val (.ref bx16), .val (.ref bx31), .val (.ref bx49), .val (.ref n1_93), .val (.int 1)] [(.ref n1_93)])) rfl (by rw [hml]; rfl) (argsL := [(.ref n1_93)]) (rest := []) (lenOf pd_409 rfl) rfl (by show 2 * 0 + _ ≤ _; exact Nat.le_of_eq rfl) (hb hby at_169) (fun _ _ => ⟨rfl, e150, (by decide : 11 + 0 ≤ _), (by decide : 93 + 0 ≤ _)⟩)
              dsimp only [Pt.U, Pt.locs, Pt.cells, Pt.slots] at X152 l152 y152 z152 st152 hQ152
              subst y152 z152
              obtain ⟨rfl, N152q, e152⟩ := hQ152
              have N153 : Fr n0 L152 := by rw [l152]; exact Fr.app N151 N152q
              -- pc 178: SubjectLines.isAdministrator by rmiaN
              obtain ⟨_, _, ⟨T154, L154, ck154, cn154⟩, -, X154, ⟨Lc154, hQ154, l154, y154, z154⟩, st154⟩ := Jvm.LawKit.callS X152 hx (y := (⟨KS, "isAdministrator", "([I)Z"⟩ : MethodName)) hown (mvT hZ (own_w hw (i := 147) rfl)) (mvT hZ (own_w hw (i := 148) rfl)) (mvT hZ (own_w hw (i := 32) rfl)) (mvT hZ (own_w hw (i := 149) rfl)) (by decide) (backOf (W := 0) (rmiaN l Z a0 hw []  T120.heap n0 zs149 ) hZ (own_w hw (i := 149) rfl) (own_w hw (i := 32) rfl) (by decide) (by decide)) (g := (mkF m 178 #[.val (.int p1), .val (.int p2), .val (.int p3), .val (.int p4), .val (.int p5), .val (.int 0), .val (.int 0), .val (.int 0), .val (.ref bx16), .val (.ref bx31), .val (.ref bx49), .val (.ref n1_93), .val (.int 1)] [.null])) rfl (by rw [hml]; rfl) (argsL := [.null]) (rest := []) (lenOf pd_409 rfl) rfl (by show 2 * 0 + _ ≤ _; exact Nat.le_of_eq rfl) (hb hby at_178) (fun _ _ => ⟨rfl, e152, (by decide : 11 + 0 ≤ _), (by decide : 93 + 0 ≤ _)⟩)
              dsimp only [Pt.U, Pt.locs, Pt.cells, Pt.slots] at X154 l154 y154 z154 st154 hQ154
              subst y154 z154
              obtain ⟨rfl, N154q, e154⟩ := hQ154
              have N155 : Fr n0 L154 := by rw [l154]; exact Fr.app N153 N154q
              obtain ⟨fs, hr, hrun, hended, hW, hsame⟩ := X154.leave (v := some (.int 1)) (fun h => by rw [Bd.returns] at h; cases h) Bd.notSynchronized
              refine ⟨_, _, pre92 _ ?_, hrun, hended, _, _, rfl, ?_, ⟨_, rfl⟩, hW, hsame.mono (by decide) (by decide)⟩
              · show Steps p.tables e below (T63.setTop (mkF m 84 #[.val (.int p1), .val (.int p2), .val (.int p3), .val (.int p4), .val (.int p5), .val (.int 0), .val (.int 0), .val (.int 0), .val (.ref bx16), .val (.ref bx31), .val (.ref bx49), .unset, .unset] [])) _
                refine XS.iload X63.here hx rfl (hb hby at_84) rfl ?_
                show Steps p.tables e below (T63.setTop (mkF m 86 #[.val (.int p1), .val (.int p2), .val (.int p3), .val (.int p4), .val (.int p5), .val (.int 0), .val (.int 0), .val (.int 0), .val (.ref bx16), .val (.ref bx31), .val (.ref bx49), .unset, .unset] [(.int 0)])) _
                refine XS.ifYes X63.here hx rfl (pc0 := 86) (pc' := 107) rfl (hb hby at_86) rfl ((if0 _ _).trans (teq (by decide : (0 : Int32) = (0 : Int32))).1) (by decide) (by decide) ?_
                refine XS.aload X63.here hx rfl (hb hby at_107) rfl rfl ?_
                refine XS.aload X63.here hx rfl (hb hby at_109) rfl rfl ?_
                refine XS.iload X63.here hx rfl (hb hby at_111) rfl ?_
                refine XS.iload X63.here hx rfl (hb hby at_113) rfl ?_
                refine st93.trans ?_
                refine XS.aload X93.here hx rfl (hb hby at_118) rfl rfl ?_
                show Steps p.tables e below (T93.setTop (mkF m 120 #[.val (.int p1), .val (.int p2), .val (.int p3), .val (.int p4), .val (.int p5), .val (.int 0), .val (.int 0), .val (.int 0), .val (.ref bx16), .val (.ref bx31), .val (.ref bx49), .unset, .unset] [(.ref bx49)])) _
                refine XS.aload X93.here hx rfl (hb hby at_120) rfl rfl ?_
                refine st120 _ ?_
                refine st150.trans ?_
                refine XS.astore X150.here hx rfl (hb hby at_128) rfl rfl (l' := #[.val (.int p1), .val (.int p2), .val (.int p3), .val (.int p4), .val (.int p5), .val (.int 0), .val (.int 0), .val (.int 0), .val (.ref bx16), .val (.ref bx31), .val (.ref bx49), .val (.ref n1_93), .unset]) rfl ?_
                refine XS.iload X150.here hx rfl (hb hby at_130) rfl ?_
                show Steps p.tables e below (T150.setTop (mkF m 132 #[.val (.int p1), .val (.int p2), .val (.int p3), .val (.int p4), .val (.int p5), .val (.int 0), .val (.int 0), .val (.int 0), .val (.ref bx16), .val (.ref bx31), .val (.ref bx49), .val (.ref n1_93), .unset] [(.int 0)])) _
                refine XS.ifNo X150.here hx rfl (hb hby at_132) rfl ((if0 _ _).trans (teq (by decide : (0 : Int32) = (0 : Int32))).2) ?_
                refine XS.iload X150.here hx rfl (hb hby at_135) rfl ?_
                show Steps p.tables e below (T150.setTop (mkF m 137 #[.val (.int p1), .val (.int p2), .val (.int p3), .val (.int p4), .val (.int p5), .val (.int 0), .val (.int 0), .val (.int 0), .val (.ref bx16), .val (.ref bx31), .val (.ref bx49), .val (.ref n1_93), .unset] [(.int 0)])) _
                refine XS.ifNo X150.here hx rfl (hb hby at_137) rfl ((if0 _ _).trans (teq (by decide : (0 : Int32) = (0 : Int32))).2) ?_
                show Steps p.tables e below (T150.setTop (mkF m 140 #[.val (.int p1), .val (.int p2), .val (.int p3), .val (.int p4), .val (.int p5), .val (.int 0), .val (.int 0), .val (.int 0), .val (.ref bx16), .val (.ref bx31), .val (.ref bx49), .val (.ref n1_93), .unset] [])) _
                refine XS.iload X150.here hx rfl (hb hby at_140) rfl ?_
                show Steps p.tables e below (T150.setTop (mkF m 142 #[.val (.int p1), .val (.int p2), .val (.int p3), .val (.int p4), .val (.int p5), .val (.int 0), .val (.int 0), .val (.int 0), .val (.ref bx16), .val (.ref bx31), .val (.ref bx49), .val (.ref n1_93), .unset] [(.int 0)])) _
                refine XS.ifNo X150.here hx rfl (hb hby at_142) rfl ((if0 _ _).trans (teq (by decide : (0 : Int32) = (0 : Int32))).2) ?_
                refine XS.iconst X150.here hx rfl (hb hby at_145) ?_
                refine XS.goto X150.here hx rfl (pc0 := 146) (pc' := 150) rfl (hb hby at_146) (by decide) (by decide) ?_
                refine XS.istore X150.here hx rfl (hb hby at_150) rfl (l' := #[.val (.int p1), .val (.int p2), .val (.int p3), .val (.int p4), .val (.int p5), .val (.int 0), .val (.int 0), .val (.int 0), .val (.ref bx16), .val (.ref bx31), .val (.ref bx49), .val (.ref n1_93), .val (.int 1)]) rfl ?_
                refine XS.aload X150.here hx rfl (hb hby at_152) rfl rfl ?_
                refine XS.ifnullNo X150.here hx rfl (hb hby at_154) rfl ?_
                refine XS.iconst X150.here hx rfl (hb hby at_157) ?_
                show Steps p.tables e below (T150.setTop (mkF m 158 #[.val (.int p1), .val (.int p2), .val (.int p3), .val (.int p4), .val (.int p5), .val (.int 0), .val (.int 0), .val (.int 0), .val (.ref bx16), .val (.ref bx31), .val (.ref bx49), .val (.ref n1_93), .val (.int 1)] [(.int 1)])) _
                refine XS.goto X150.here hx rfl (pc0 := 158) (pc' := 162) rfl (hb hby at_158) (by decide) (by decide) ?_
                refine XS.iload X150.here hx rfl (hb hby at_162) rfl ?_
                show Steps p.tables e below (T150.setTop (mkF m 164 #[.val (.int p1), .val (.int p2), .val (.int p3), .val (.int p4), .val (.int p5), .val (.int 0), .val (.int 0), .val (.int 0), .val (.ref bx16), .val (.ref bx31), .val (.ref bx49), .val (.ref n1_93), .val (.int 1)] [(.int 1), (.int 1)])) _
                refine XS.icmpNo X150.here hx rfl (hb hby at_164) rfl (teq (by decide : (1 : Int32) = (1 : Int32))).2 ?_
                refine XS.aload X150.here hx rfl (hb hby at_167) rfl rfl ?_
                refine st152 _ ?_
                refine XS.iload X152.here hx rfl (hb hby at_172) rfl ?_
                show Steps p.tables e below (T152.setTop (mkF m 174 #[.val (.int p1), .val (.int p2), .val (.int p3), .val (.int p4), .val (.int p5), .val (.int 0), .val (.int 0), .val (.int 0), .val (.ref bx16), .val (.ref bx31), .val (.ref bx49), .val (.ref n1_93), .val (.int 1)] [(.int 0), (.int 0)])) _
                refine XS.icmpNo X152.here hx rfl (hb hby at_174) rfl (teq (by decide : (0 : Int32) = (0 : Int32))).2 ?_
                refine XS.aconstNull X152.here hx rfl (hb hby at_177) ?_
                show Steps p.tables e below (T152.setTop (mkF m 178 #[.val (.int p1), .val (.int p2), .val (.int p3), .val (.int p4), .val (.int p5), .val (.int 0), .val (.int 0), .val (.int 0), .val (.ref bx16), .val (.ref bx31), .val (.ref bx49), .val (.ref n1_93), .val (.int 1)] [.null])) _
                refine st154 _ ?_
                show Steps p.tables e below (T154.setTop (mkF m 181 #[.val (.int p1), .val (.int p2), .val (.int p3), .val (.int p4), .val (.int p5), .val (.int 0), .val (.int 0), .val (.int 0), .val (.ref bx16), .val (.ref bx31), .val (.ref bx49), .val (.ref n1_93), .val (.int 1)] [(.int 0)])) _
                refine XS.ifNo X154.here hx rfl (hb hby at_181) rfl ((if0 _ _).trans (teq (by decide : (0 : Int32) = (0 : Int32))).2) ?_
                refine XS.iconst X154.here hx rfl (hb hby at_184) ?_
                refine XS.goto X154.here hx rfl (pc0 := 185) (pc' := 189) rfl (hb hby at_185) (by decide) (by decide) ?_
                exact retN X154 hx (t := .boolean) Bd.returns (by simp) (hb hby at_189) hr
              · show Q0 Z p1 p2 p3 p4 p5 cz fmt h0 n0 _ T154.heap _
                rw [e154]
                exact ⟨rfl, N155⟩
            ·  -- en = 1
              -- pc 115: SubjectLines.setStatus by rmss01
              obtain ⟨cq156, kq156, q156a, q156b, q156c⟩ := isOf hZ rfl o63_0
              obtain ⟨_, _, ⟨T156, L156, ck156, cn156⟩, -, X156, ⟨Lc156, hQ156, l156, y156, z156⟩, st156⟩ := X63.virtualBack hx (y := (⟨KS, "setStatus", "(Ljava/lang/String;ZZ)V"⟩ : MethodName)) (z := (⟨KS, "setStatus", "(Ljava/lang/String;ZZ)V"⟩ : MethodName)) hown (mvT hZ (own_w hw (i := 48) rfl)) (mvT hZ (own_w hw (i := 49) rfl)) (notFace_of_selects (args := #[]) (mvT hZ (own_w hw (i := 51) rfl))) (mvT hZ (own_w hw (i := 51) rfl)) (mvT hZ (own_w hw (i := 50) rfl)) (by decide) (backOf (W := 0) (rmss01 l Z a0 hw [] bx49 bx31 T63.heap n0 zs91 ) hZ (own_w hw (i := 52) rfl) (own_w hw (i := 32) rfl) (by decide) (by decide)) q156a q156c (g := (mkF m 115 #[.val (.int p1), .val (.int p2), .val (.int p3), .val (.int p4), .val (.int p5), .val (.int 0), .val (.int 1), .val (.int 0), .val (.ref bx16), .val (.ref bx31), .val (.ref bx49), .unset, .unset] [(.int 1), (.int 0), (.ref bx31), (.ref bx49)])) rfl (by rw [hml]; rfl) (Steps.refl _) (argsL := [(.ref bx31), (.int 0), (.int 1)]) (rest := []) (lenOf pd_812 rfl) rfl (by show 2 * 0 + _ ≤ _; exact Nat.le_of_eq rfl) (hb hby at_115) (fun _ _ => ⟨rfl, rfl, (by decide : 7 + 0 ≤ _), (by decide : 60 + 0 ≤ _)⟩)
              dsimp only [Pt.U, Pt.locs, Pt.cells, Pt.slots] at X156 l156 y156 z156 st156 hQ156
              subst y156 z156
              obtain ⟨rfl, N156q, e156⟩ := hQ156
              have N157 : Fr n0 L156 := by rw [l156]; exact Fr.app N64 N156q
              -- pc 122: Interner$Key.of by rmko
              obtain ⟨_, _, ⟨T158, L158, ck158, cn158⟩, -, X158, ⟨Lc158, hQ158, l158, y158, z158⟩, st158⟩ := Jvm.LawKit.callS X156 hx (y := (⟨KK, "of", "(Ljava/lang/String;)Lcom/example/explicit_grants/explicitgrants/Interner$Key;"⟩ : MethodName)) hown (mvT hZ (own_w hw (i := 53) rfl)) (mvT hZ (own_w hw (i := 54) rfl)) (mvT hZ (own_w hw (i := 55) rfl)) (mvT hZ (own_w hw (i := 56) rfl)) (by decide) (backOf (W := 1) (rmko l Z a0 hw [] bx31 n1_36 kn1_36 b0 b1 (0 : Int32) (0 : Int32) cz fmt T63.heap n0 zs91 f77 S_COMPACT_STRINGS hcz f79 f80 f81 f84 f85 f82 f83 (Or.inr ⟨rfl, rfl⟩) g_bx31 ne39 S_SIOOBE_FORMATTER hfmt) hZ (own_w hw (i := 56) rfl) (own_w hw (i := 55) rfl) (by decide) (by decide)) (g := (mkF m 122 #[.val (.int p1), .val (.int p2), .val (.int p3), .val (.int p4), .val (.int p5), .val (.int 0), .val (.int 1), .val (.int 0), .val (.ref bx16), .val (.ref bx31), .val (.ref bx49), .unset, .unset] [(.ref bx31), (.ref bx49)])) rfl (by rw [hml]; rfl) (argsL := [(.ref bx31)]) (rest := [(.ref bx49)]) (lenOf pd_584 rfl) rfl (by show 2 * 0 + _ ≤ _; exact Nat.le_of_eq rfl) (hb hby at_122) (fun _ _ => ⟨rfl, e156, (by decide : 7 + 1 ≤ _), (by decide : 60 + 5 ≤ _)⟩)
              dsimp only [Pt.U, Pt.locs, Pt.cells, Pt.slots] at X158 l158 y158 z158 st158 hQ158
              subst y158 z158
              obtain ⟨n1_158, kn1_158, rfl, N158q, K158q, gq158_0, sq158_0, o158_0, o158_1, o158_2, o158_3, o158_4, o158_5, o158_6, o158_7, o158_8, o158_9⟩ := hQ158
              have N159 : Fr n0 L158 := by rw [l158]; exact Fr.app N157 N158q
              have f176 := o63_0.keep K158q
              have f177 := o63_1.keep K158q (ninS (Ne.symm ne51) nin0)
              have f178 := o63_2.keep K158q (ninS (Ne.symm ne51) nin0)
              have f179 := o63_3.keep K158q (ninS (Ne.symm ne51) nin0)
              have f182 := o63_6.keep K158q (ninS (Ne.symm ne70) nin0)
              have zs184 : n0 ≤ T158.heap.size := Nat.le_trans zs91 K158q.1
              -- pc 125: SubjectLines.of by rmofE
              obtain ⟨cq185, kq185, q185a, q185b, q185c⟩ := isOf hZ rfl f176
              obtain ⟨_, _, ⟨T185, L185, ck185, cn185⟩, -, X185, ⟨Lc185, hQ185, l185, y185, z185⟩, st185⟩ := X158.virtualBack hx (y := (⟨KS, "of", "(Lcom/example/explicit_grants/explicitgrants/Interner$Key;)[I"⟩ : MethodName)) (z := (⟨KS, "of", "(Lcom/example/explicit_grants/explicitgrants/Interner$Key;)[I"⟩ : MethodName)) hown (mvT hZ (own_w hw (i := 137) rfl)) (mvT hZ (own_w hw (i := 138) rfl)) (notFace_of_selects (args := #[]) (mvT hZ (own_w hw (i := 140) rfl))) (mvT hZ (own_w hw (i := 140) rfl)) (mvT hZ (own_w hw (i := 139) rfl)) (by decide) (backOf (W := 0) (rmofE l Z a0 hw [] bx49 n1_158 (own_hh b0 b1) n1_63 n2_63 n3_63 kn2_63 T158.heap n0 zs184 f176 f177 f178 f179 o158_5 o158_6 (Arv.arh f182)) hZ (own_w hw (i := 141) rfl) (own_w hw (i := 32) rfl) (by decide) (by decide)) q185a q185c (g := (mkF m 125 #[.val (.int p1), .val (.int p2), .val (.int p3), .val (.int p4), .val (.int p5), .val (.int 0), .val (.int 1), .val (.int 0), .val (.ref bx16), .val (.ref bx31), .val (.ref bx49), .unset, .unset] [(.ref n1_158), (.ref bx49)])) rfl (by rw [hml]; rfl) (Steps.refl _) (argsL := [(.ref n1_158)]) (rest := []) (lenOf pd_813 rfl) rfl (by show 2 * 0 + _ ≤ _; exact Nat.le_of_eq rfl) (hb hby at_125) (fun _ _ => ⟨rfl, rfl, (by decide : 8 + 0 ≤ _), (by decide : 65 + 0 ≤ _)⟩)
              dsimp only [Pt.U, Pt.locs, Pt.cells, Pt.slots] at X185 l185 y185 z185 st185 hQ185
              subst y185 z185
              obtain ⟨rfl, N185q, e185⟩ := hQ185
              have N186 : Fr n0 L185 := by rw [l185]; exact Fr.app N159 N185q
              -- pc 169: SubjectLines.isAdministrator by rmiaN
              obtain ⟨_, _, ⟨T187, L187, ck187, cn187⟩, -, X187, ⟨Lc187, hQ187, l187, y187, z187⟩, st187⟩ := Jvm.LawKit.callS X185 hx (y := (⟨KS, "isAdministrator", "([I)Z"⟩ : MethodName)) hown (mvT hZ (own_w hw (i := 147) rfl)) (mvT hZ (own_w hw (i := 148) rfl)) (mvT hZ (own_w hw (i := 32) rfl)) (mvT hZ (own_w hw (i := 149) rfl)) (by decide) (backOf (W := 0) (rmiaN l Z a0 hw []  T158.heap n0 zs184 ) hZ (own_w hw (i := 149) rfl) (own_w hw (i := 32) rfl) (by decide) (by decide)) (g := (mkF m 169 #[.val (.int p1), .val (.int p2), .val (.int p3), .val (.int p4), .val (.int p5), .val (.int 0), .val (.int 1), .val (.int 0), .val (.ref bx16), .val (.ref bx31), .val (.ref bx49), .val .null, .val (.int 0)] [.null])) rfl (by rw [hml]; rfl) (argsL := [.null]) (rest := []) (lenOf pd_409 rfl) rfl (by show 2 * 0 + _ ≤ _; exact Nat.le_of_eq rfl) (hb hby at_169) (fun _ _ => ⟨rfl, e185, (by decide : 8 + 0 ≤ _), (by decide : 65 + 0 ≤ _)⟩)
              dsimp only [Pt.U, Pt.locs, Pt.cells, Pt.slots] at X187 l187 y187 z187 st187 hQ187
              subst y187 z187
              obtain ⟨rfl, N187q, e187⟩ := hQ187
              have N188 : Fr n0 L187 := by rw [l187]; exact Fr.app N186 N187q
              -- pc 178: SubjectLines.isAdministrator by rmiaN
              obtain ⟨_, _, ⟨T189, L189, ck189, cn189⟩, -, X189, ⟨Lc189, hQ189, l189, y189, z189⟩, st189⟩ := Jvm.LawKit.callS X187 hx (y := (⟨KS, "isAdministrator", "([I)Z"⟩ : MethodName)) hown (mvT hZ (own_w hw (i := 147) rfl)) (mvT hZ (own_w hw (i := 148) rfl)) (mvT hZ (own_w hw (i := 32) rfl)) (mvT hZ (own_w hw (i := 149) rfl)) (by decide) (backOf (W := 0) (rmiaN l Z a0 hw []  T158.heap n0 zs184 ) hZ (own_w hw (i := 149) rfl) (own_w hw (i := 32) rfl) (by decide) (by decide)) (g := (mkF m 178 #[.val (.int p1), .val (.int p2), .val (.int p3), .val (.int p4), .val (.int p5), .val (.int 0), .val (.int 1), .val (.int 0), .val (.ref bx16), .val (.ref bx31), .val (.ref bx49), .val .null, .val (.int 0)] [.null])) rfl (by rw [hml]; rfl) (argsL := [.null]) (rest := []) (lenOf pd_409 rfl) rfl (by show 2 * 0 + _ ≤ _; exact Nat.le_of_eq rfl) (hb hby at_178) (fun _ _ => ⟨rfl, e187, (by decide : 8 + 0 ≤ _), (by decide : 65 + 0 ≤ _)⟩)
              dsimp only [Pt.U, Pt.locs, Pt.cells, Pt.slots] at X189 l189 y189 z189 st189 hQ189
              subst y189 z189
              obtain ⟨rfl, N189q, e189⟩ := hQ189
              have N190 : Fr n0 L189 := by rw [l189]; exact Fr.app N188 N189q
              obtain ⟨fs, hr, hrun, hended, hW, hsame⟩ := X189.leave (v := some (.int 1)) (fun h => by rw [Bd.returns] at h; cases h) Bd.notSynchronized
              refine ⟨_, _, pre92 _ ?_, hrun, hended, _, _, rfl, ?_, ⟨_, rfl⟩, hW, hsame.mono (by decide) (by decide)⟩
              · show Steps p.tables e below (T63.setTop (mkF m 84 #[.val (.int p1), .val (.int p2), .val (.int p3), .val (.int p4), .val (.int p5), .val (.int 0), .val (.int 1), .val (.int 0), .val (.ref bx16), .val (.ref bx31), .val (.ref bx49), .unset, .unset] [])) _
                refine XS.iload X63.here hx rfl (hb hby at_84) rfl ?_
                show Steps p.tables e below (T63.setTop (mkF m 86 #[.val (.int p1), .val (.int p2), .val (.int p3), .val (.int p4), .val (.int p5), .val (.int 0), .val (.int 1), .val (.int 0), .val (.ref bx16), .val (.ref bx31), .val (.ref bx49), .unset, .unset] [(.int 0)])) _
                refine XS.ifYes X63.here hx rfl (pc0 := 86) (pc' := 107) rfl (hb hby at_86) rfl ((if0 _ _).trans (teq (by decide : (0 : Int32) = (0 : Int32))).1) (by decide) (by decide) ?_
                refine XS.aload X63.here hx rfl (hb hby at_107) rfl rfl ?_
                refine XS.aload X63.here hx rfl (hb hby at_109) rfl rfl ?_
                refine XS.iload X63.here hx rfl (hb hby at_111) rfl ?_
                refine XS.iload X63.here hx rfl (hb hby at_113) rfl ?_
                refine st156.trans ?_
                refine XS.aload X156.here hx rfl (hb hby at_118) rfl rfl ?_
                show Steps p.tables e below (T156.setTop (mkF m 120 #[.val (.int p1), .val (.int p2), .val (.int p3), .val (.int p4), .val (.int p5), .val (.int 0), .val (.int 1), .val (.int 0), .val (.ref bx16), .val (.ref bx31), .val (.ref bx49), .unset, .unset] [(.ref bx49)])) _
                refine XS.aload X156.here hx rfl (hb hby at_120) rfl rfl ?_
                refine st158 _ ?_
                refine st185.trans ?_
                refine XS.astore X185.here hx rfl (hb hby at_128) rfl rfl (l' := #[.val (.int p1), .val (.int p2), .val (.int p3), .val (.int p4), .val (.int p5), .val (.int 0), .val (.int 1), .val (.int 0), .val (.ref bx16), .val (.ref bx31), .val (.ref bx49), .val .null, .unset]) rfl ?_
                refine XS.iload X185.here hx rfl (hb hby at_130) rfl ?_
                show Steps p.tables e below (T185.setTop (mkF m 132 #[.val (.int p1), .val (.int p2), .val (.int p3), .val (.int p4), .val (.int p5), .val (.int 0), .val (.int 1), .val (.int 0), .val (.ref bx16), .val (.ref bx31), .val (.ref bx49), .val .null, .unset] [(.int 0)])) _
                refine XS.ifNo X185.here hx rfl (hb hby at_132) rfl ((if0 _ _).trans (teq (by decide : (0 : Int32) = (0 : Int32))).2) ?_
                refine XS.iload X185.here hx rfl (hb hby at_135) rfl ?_
                show Steps p.tables e below (T185.setTop (mkF m 137 #[.val (.int p1), .val (.int p2), .val (.int p3), .val (.int p4), .val (.int p5), .val (.int 0), .val (.int 1), .val (.int 0), .val (.ref bx16), .val (.ref bx31), .val (.ref bx49), .val .null, .unset] [(.int 0)])) _
                refine XS.ifNo X185.here hx rfl (hb hby at_137) rfl ((if0 _ _).trans (teq (by decide : (0 : Int32) = (0 : Int32))).2) ?_
                show Steps p.tables e below (T185.setTop (mkF m 140 #[.val (.int p1), .val (.int p2), .val (.int p3), .val (.int p4), .val (.int p5), .val (.int 0), .val (.int 1), .val (.int 0), .val (.ref bx16), .val (.ref bx31), .val (.ref bx49), .val .null, .unset] [])) _
                refine XS.iload X185.here hx rfl (hb hby at_140) rfl ?_
                show Steps p.tables e below (T185.setTop (mkF m 142 #[.val (.int p1), .val (.int p2), .val (.int p3), .val (.int p4), .val (.int p5), .val (.int 0), .val (.int 1), .val (.int 0), .val (.ref bx16), .val (.ref bx31), .val (.ref bx49), .val .null, .unset] [(.int 1)])) _
                refine XS.ifYes X185.here hx rfl (pc0 := 142) (pc' := 149) rfl (hb hby at_142) rfl ((if0 _ _).trans (feq (by decide : ¬ ((1 : Int32) = (0 : Int32)))).2) (by decide) (by decide) ?_
                refine XS.iconst X185.here hx rfl (hb hby at_149) ?_
                refine XS.istore X185.here hx rfl (hb hby at_150) rfl (l' := #[.val (.int p1), .val (.int p2), .val (.int p3), .val (.int p4), .val (.int p5), .val (.int 0), .val (.int 1), .val (.int 0), .val (.ref bx16), .val (.ref bx31), .val (.ref bx49), .val .null, .val (.int 0)]) rfl ?_
                refine XS.aload X185.here hx rfl (hb hby at_152) rfl rfl ?_
                refine XS.ifnullYes X185.here hx rfl (pc0 := 154) (pc' := 161) rfl (hb hby at_154) rfl (by decide) (by decide) ?_
                refine XS.iconst X185.here hx rfl (hb hby at_161) ?_
                refine XS.iload X185.here hx rfl (hb hby at_162) rfl ?_
                show Steps p.tables e below (T185.setTop (mkF m 164 #[.val (.int p1), .val (.int p2), .val (.int p3), .val (.int p4), .val (.int p5), .val (.int 0), .val (.int 1), .val (.int 0), .val (.ref bx16), .val (.ref bx31), .val (.ref bx49), .val .null, .val (.int 0)] [(.int 0), (.int 0)])) _
                refine XS.icmpNo X185.here hx rfl (hb hby at_164) rfl (teq (by decide : (0 : Int32) = (0 : Int32))).2 ?_
                refine XS.aload X185.here hx rfl (hb hby at_167) rfl rfl ?_
                refine st187 _ ?_
                refine XS.iload X187.here hx rfl (hb hby at_172) rfl ?_
                show Steps p.tables e below (T187.setTop (mkF m 174 #[.val (.int p1), .val (.int p2), .val (.int p3), .val (.int p4), .val (.int p5), .val (.int 0), .val (.int 1), .val (.int 0), .val (.ref bx16), .val (.ref bx31), .val (.ref bx49), .val .null, .val (.int 0)] [(.int 0), (.int 0)])) _
                refine XS.icmpNo X187.here hx rfl (hb hby at_174) rfl (teq (by decide : (0 : Int32) = (0 : Int32))).2 ?_
                refine XS.aconstNull X187.here hx rfl (hb hby at_177) ?_
                refine st189 _ ?_
                show Steps p.tables e below (T189.setTop (mkF m 181 #[.val (.int p1), .val (.int p2), .val (.int p3), .val (.int p4), .val (.int p5), .val (.int 0), .val (.int 1), .val (.int 0), .val (.ref bx16), .val (.ref bx31), .val (.ref bx49), .val .null, .val (.int 0)] [(.int 0)])) _
                refine XS.ifNo X189.here hx rfl (hb hby at_181) rfl ((if0 _ _).trans (teq (by decide : (0 : Int32) = (0 : Int32))).2) ?_
                show Steps p.tables e below (T189.setTop (mkF m 184 #[.val (.int p1), .val (.int p2), .val (.int p3), .val (.int p4), .val (.int p5), .val (.int 0), .val (.int 1), .val (.int 0), .val (.ref bx16), .val (.ref bx31), .val (.ref bx49), .val .null, .val (.int 0)] [])) _
                refine XS.iconst X189.here hx rfl (hb hby at_184) ?_
                refine XS.goto X189.here hx rfl (pc0 := 185) (pc' := 189) rfl (hb hby at_185) (by decide) (by decide) ?_
                exact retN X189 hx (t := .boolean) Bd.returns (by simp) (hb hby at_189) hr
              · show Q0 Z p1 p2 p3 p4 p5 cz fmt h0 n0 _ T189.heap _
                rw [e189]
                exact ⟨rfl, N190⟩
          ·  -- ad = 1
            rcases hen with rfl | rfl
            ·  -- en = 0
              -- pc 115: SubjectLines.setStatus by rmsE10
              obtain ⟨cq191, kq191, q191a, q191b, q191c⟩ := isOf hZ rfl o63_0
              obtain ⟨_, _, ⟨T191, L191, ck191, cn191⟩, -, X191, ⟨Lc191, hQ191, l191, y191, z191⟩, st191⟩ := X63.virtualBack hx (y := (⟨KS, "setStatus", "(Ljava/lang/String;ZZ)V"⟩ : MethodName)) (z := (⟨KS, "setStatus", "(Ljava/lang/String;ZZ)V"⟩ : MethodName)) hown (mvT hZ (own_w hw (i := 48) rfl)) (mvT hZ (own_w hw (i := 49) rfl)) (notFace_of_selects (args := #[]) (mvT hZ (own_w hw (i := 51) rfl))) (mvT hZ (own_w hw (i := 51) rfl)) (mvT hZ (own_w hw (i := 50) rfl)) (by decide) (backOf (W := 0) (rmsE10 l Z a0 hw [] bx49 bx31 n1_63 n2_63 n3_63 kn1_63 kn2_63 kn3_63 n1_36 kn1_36 b0 b1 (0 : Int32) (0 : Int32) cz fmt T63.heap n0 zs91 o63_0 o63_1 o63_2 o63_3 o63_4 f77 S_COMPACT_STRINGS hcz S_SIOOBE_FORMATTER hfmt f79 f80 f81 f84 f85 f82 f83 (Or.inr ⟨rfl, rfl⟩) (Arv.arh o63_5) (Arv.arh o63_6) (Arv.arh o63_7) o63_8 o63_9 g_bx49 g_bx31 gq63_0 gq63_1 gq63_2 (Ne.symm ne51) ne68 ne72 ne76 (Ne.symm ne52) ne66 ne70 ne74 ne39 (Ne.symm nq63_1_0) (Ne.symm nq63_2_0) (Ne.symm ne67) (Ne.symm nq63_2_1) (Ne.symm ne71) (Ne.symm ne75)) hZ (own_w hw (i := 52) rfl) (own_w hw (i := 32) rfl) (by decide) (by decide)) q191a q191c (g := (mkF m 115 #[.val (.int p1), .val (.int p2), .val (.int p3), .val (.int p4), .val (.int p5), .val (.int 1), .val (.int 0), .val (.int 0), .val (.ref bx16), .val (.ref bx31), .val (.ref bx49), .unset, .unset] [(.int 0), (.int 1), (.ref bx31), (.ref bx49)])) rfl (by rw [hml]; rfl) (Steps.refl _) (argsL := [(.ref bx31), (.int 1), (.int 0)]) (rest := []) (lenOf pd_812 rfl) rfl (by show 2 * 0 + _ ≤ _; exact Nat.le_of_eq rfl) (hb hby at_115) (fun _ _ => ⟨rfl, rfl, (by decide : 7 + 3 ≤ _), (by decide : 60 + 28 ≤ _)⟩)
              dsimp only [Pt.U, Pt.locs, Pt.cells, Pt.slots] at X191 l191 y191 z191 st191 hQ191
              subst y191 z191
              obtain ⟨n1_191, kn1_191, rfl, N191q, K191q, gq191_0, sq191_0, o191_0, o191_1, o191_2, o191_3, o191_4, o191_5, o191_6, o191_7, o191_8, o191_9, o191_10, o191_11, o191_12, o191_13, o191_14⟩ := hQ191
              have N192 : Fr n0 L191 := by rw [l191]; exact Fr.app N64 N191q
              have ne194 : bx31 ≠ n1_191 := Nat.ne_of_lt (Nat.lt_of_lt_of_le f79.lt sq191_0)
              have f200 := f77.keep K191q (allS g_bx49 (allS g_bx31 (allS gq63_0 (allS gq63_1 (allS gq63_2 all0)))))
              have f207 := f84.keep K191q (ninS ne52 (ninS (Ne.symm ne39) (ninS ne67 (ninS ne71 (ninS ne75 nin0)))))
              have f208 := f85.keep K191q
              have zs217 : n0 ≤ T191.heap.size := Nat.le_trans zs91 K191q.1
              -- pc 122: Interner$Key.of by rmko
              obtain ⟨_, _, ⟨T218, L218, ck218, cn218⟩, -, X218, ⟨Lc218, hQ218, l218, y218, z218⟩, st218⟩ := Jvm.LawKit.callS X191 hx (y := (⟨KK, "of", "(Ljava/lang/String;)Lcom/example/explicit_grants/explicitgrants/Interner$Key;"⟩ : MethodName)) hown (mvT hZ (own_w hw (i := 53) rfl)) (mvT hZ (own_w hw (i := 54) rfl)) (mvT hZ (own_w hw (i := 55) rfl)) (mvT hZ (own_w hw (i := 56) rfl)) (by decide) (backOf (W := 1) (rmko l Z a0 hw [] bx31 n1_36 kn1_36 b0 b1 (own_hc b0 b1) (fhc_hashIsZero b0 b1 (0 : Int32) (0 : Int32)) cz fmt T191.heap n0 zs217 f200 S_COMPACT_STRINGS hcz o191_5 o191_6 o191_7 f207 f208 o191_8 o191_9 (Or.inl rfl) g_bx31 ne39 S_SIOOBE_FORMATTER hfmt) hZ (own_w hw (i := 56) rfl) (own_w hw (i := 55) rfl) (by decide) (by decide)) (g := (mkF m 122 #[.val (.int p1), .val (.int p2), .val (.int p3), .val (.int p4), .val (.int p5), .val (.int 1), .val (.int 0), .val (.int 0), .val (.ref bx16), .val (.ref bx31), .val (.ref bx49), .unset, .unset] [(.ref bx31), (.ref bx49)])) rfl (by rw [hml]; rfl) (argsL := [(.ref bx31)]) (rest := [(.ref bx49)]) (lenOf pd_584 rfl) rfl (by show 2 * 0 + _ ≤ _; exact Nat.le_of_eq rfl) (hb hby at_122) (fun _ _ => ⟨rfl, rfl, (by decide : 10 + 1 ≤ _), (by decide : 88 + 5 ≤ _)⟩)
              dsimp only [Pt.U, Pt.locs, Pt.cells, Pt.slots] at X218 l218 y218 z218 st218 hQ218
              subst y218 z218
              obtain ⟨n1_218, kn1_218, rfl, N218q, K218q, gq218_0, sq218_0, o218_0, o218_1, o218_2, o218_3, o218_4, o218_5, o218_6, o218_7, o218_8, o218_9⟩ := hQ218
              have N219 : Fr n0 L218 := by rw [l218]; exact Fr.app N192 N218q
              have f233 := o191_0.keep K218q
              have f234 := o191_1.keep K218q (ninS (Ne.symm ne51) nin0)
              have f235 := o191_2.keep K218q (ninS (Ne.symm ne51) nin0)
              have f236 := o191_3.keep K218q (ninS (Ne.symm ne51) nin0)
              have f242 := o191_10.keep K218q (ninS (Ne.symm ne66) nin0)
              have f243 := o191_11.keep K218q (ninS (Ne.symm ne70) nin0)
              have f245 := o191_13.keep K218q (ninS (Ne.symm ne194) nin0)
              have zs247 : n0 ≤ T218.heap.size := Nat.le_trans zs217 K218q.1
              -- pc 125: SubjectLines.of by rmofO
              obtain ⟨cq248, kq248, q248a, q248b, q248c⟩ := isOf hZ rfl f233
              obtain ⟨_, _, ⟨T248, L248, ck248, cn248⟩, -, X248, ⟨Lc248, hQ248, l248, y248, z248⟩, st248⟩ := X218.virtualBack hx (y := (⟨KS, "of", "(Lcom/example/explicit_grants/explicitgrants/Interner$Key;)[I"⟩ : MethodName)) (z := (⟨KS, "of", "(Lcom/example/explicit_grants/explicitgrants/Interner$Key;)[I"⟩ : MethodName)) hown (mvT hZ (own_w hw (i := 137) rfl)) (mvT hZ (own_w hw (i := 138) rfl)) (notFace_of_selects (args := #[]) (mvT hZ (own_w hw (i := 140) rfl))) (mvT hZ (own_w hw (i := 140) rfl)) (mvT hZ (own_w hw (i := 139) rfl)) (by decide) (backOf (W := 0) (rmofO l Z a0 hw [] bx49 n1_218 (own_hh b0 b1) (own_k1 b0 b1) n1_63 n2_63 n3_63 kn1_63 kn2_63 n1_191 kn1_191 (0 : Int32) (3 : Int32) (0 : Int32) (0 : Int32) (0 : Int32) (0 : Int32) (0 : Int32) (0 : Int32) (0 : Int32) (0 : Int32) (0 : Int32) (0 : Int32) (0 : Int32) (0 : Int32) T218.heap n0 zs247 f233 f234 f235 f236 o218_5 o218_6 o218_7 o218_8 o218_9 f242 f243 f245 (own_k1ne _ _)) hZ (own_w hw (i := 141) rfl) (own_w hw (i := 32) rfl) (by decide) (by decide)) q248a q248c (g := (mkF m 125 #[.val (.int p1), .val (.int p2), .val (.int p3), .val (.int p4), .val (.int p5), .val (.int 1), .val (.int 0), .val (.int 0), .val (.ref bx16), .val (.ref bx31), .val (.ref bx49), .unset, .unset] [(.ref n1_218), (.ref bx49)])) rfl (by rw [hml]; rfl) (Steps.refl _) (argsL := [(.ref n1_218)]) (rest := []) (lenOf pd_813 rfl) rfl (by show 2 * 0 + _ ≤ _; exact Nat.le_of_eq rfl) (hb hby at_125) (fun _ _ => ⟨rfl, rfl, (by decide : 11 + 0 ≤ _), (by decide : 93 + 0 ≤ _)⟩)
              dsimp only [Pt.U, Pt.locs, Pt.cells, Pt.slots] at X248 l248 y248 z248 st248 hQ248
              subst y248 z248
              obtain ⟨rfl, N248q, e248⟩ := hQ248
              have N249 : Fr n0 L248 := by rw [l248]; exact Fr.app N219 N248q
              -- pc 169: SubjectLines.isAdministrator by rmia3
              obtain ⟨_, _, ⟨T250, L250, ck250, cn250⟩, -, X250, ⟨Lc250, hQ250, l250, y250, z250⟩, st250⟩ := Jvm.LawKit.callS X248 hx (y := (⟨KS, "isAdministrator", "([I)Z"⟩ : MethodName)) hown (mvT hZ (own_w hw (i := 147) rfl)) (mvT hZ (own_w hw (i := 148) rfl)) (mvT hZ (own_w hw (i := 32) rfl)) (mvT hZ (own_w hw (i := 149) rfl)) (by decide) (backOf (W := 0) (rmia3 l Z a0 hw [] n1_191 kn1_191 (0 : Int32) ((own_k1 b0 b1).toInt32) ((((own_k1 b0 b1).toUInt64 >>> ((32 : Int32) &&& 0x3f).toInt64.toUInt64).toInt64).toInt32) (0 : Int32) (0 : Int32) (0 : Int32) (0 : Int32) (0 : Int32) (0 : Int32) (0 : Int32) (0 : Int32) (0 : Int32) (0 : Int32) (0 : Int32) (0 : Int32) (0 : Int32) (0 : Int32) (0 : Int32) (0 : Int32) T218.heap n0 zs247 f245) hZ (own_w hw (i := 149) rfl) (own_w hw (i := 32) rfl) (by decide) (by decide)) (g := (mkF m 169 #[.val (.int p1), .val (.int p2), .val (.int p3), .val (.int p4), .val (.int p5), .val (.int 1), .val (.int 0), .val (.int 0), .val (.ref bx16), .val (.ref bx31), .val (.ref bx49), .val (.ref n1_191), .val (.int 1)] [(.ref n1_191)])) rfl (by rw [hml]; rfl) (argsL := [(.ref n1_191)]) (rest := []) (lenOf pd_409 rfl) rfl (by show 2 * 0 + _ ≤ _; exact Nat.le_of_eq rfl) (hb hby at_169) (fun _ _ => ⟨rfl, e248, (by decide : 11 + 0 ≤ _), (by decide : 93 + 0 ≤ _)⟩)
              dsimp only [Pt.U, Pt.locs, Pt.cells, Pt.slots] at X250 l250 y250 z250 st250 hQ250
              subst y250 z250
              obtain ⟨rfl, N250q, e250⟩ := hQ250
              have N251 : Fr n0 L250 := by rw [l250]; exact Fr.app N249 N250q
              -- pc 178: SubjectLines.isAdministrator by rmiaN
              obtain ⟨_, _, ⟨T252, L252, ck252, cn252⟩, -, X252, ⟨Lc252, hQ252, l252, y252, z252⟩, st252⟩ := Jvm.LawKit.callS X250 hx (y := (⟨KS, "isAdministrator", "([I)Z"⟩ : MethodName)) hown (mvT hZ (own_w hw (i := 147) rfl)) (mvT hZ (own_w hw (i := 148) rfl)) (mvT hZ (own_w hw (i := 32) rfl)) (mvT hZ (own_w hw (i := 149) rfl)) (by decide) (backOf (W := 0) (rmiaN l Z a0 hw []  T218.heap n0 zs247 ) hZ (own_w hw (i := 149) rfl) (own_w hw (i := 32) rfl) (by decide) (by decide)) (g := (mkF m 178 #[.val (.int p1), .val (.int p2), .val (.int p3), .val (.int p4), .val (.int p5), .val (.int 1), .val (.int 0), .val (.int 0), .val (.ref bx16), .val (.ref bx31), .val (.ref bx49), .val (.ref n1_191), .val (.int 1)] [.null])) rfl (by rw [hml]; rfl) (argsL := [.null]) (rest := []) (lenOf pd_409 rfl) rfl (by show 2 * 0 + _ ≤ _; exact Nat.le_of_eq rfl) (hb hby at_178) (fun _ _ => ⟨rfl, e250, (by decide : 11 + 0 ≤ _), (by decide : 93 + 0 ≤ _)⟩)
              dsimp only [Pt.U, Pt.locs, Pt.cells, Pt.slots] at X252 l252 y252 z252 st252 hQ252
              subst y252 z252
              obtain ⟨rfl, N252q, e252⟩ := hQ252
              have N253 : Fr n0 L252 := by rw [l252]; exact Fr.app N251 N252q
              obtain ⟨fs, hr, hrun, hended, hW, hsame⟩ := X252.leave (v := some (.int 1)) (fun h => by rw [Bd.returns] at h; cases h) Bd.notSynchronized
              refine ⟨_, _, pre92 _ ?_, hrun, hended, _, _, rfl, ?_, ⟨_, rfl⟩, hW, hsame.mono (by decide) (by decide)⟩
              · show Steps p.tables e below (T63.setTop (mkF m 84 #[.val (.int p1), .val (.int p2), .val (.int p3), .val (.int p4), .val (.int p5), .val (.int 1), .val (.int 0), .val (.int 0), .val (.ref bx16), .val (.ref bx31), .val (.ref bx49), .unset, .unset] [])) _
                refine XS.iload X63.here hx rfl (hb hby at_84) rfl ?_
                show Steps p.tables e below (T63.setTop (mkF m 86 #[.val (.int p1), .val (.int p2), .val (.int p3), .val (.int p4), .val (.int p5), .val (.int 1), .val (.int 0), .val (.int 0), .val (.ref bx16), .val (.ref bx31), .val (.ref bx49), .unset, .unset] [(.int 0)])) _
                refine XS.ifYes X63.here hx rfl (pc0 := 86) (pc' := 107) rfl (hb hby at_86) rfl ((if0 _ _).trans (teq (by decide : (0 : Int32) = (0 : Int32))).1) (by decide) (by decide) ?_
                refine XS.aload X63.here hx rfl (hb hby at_107) rfl rfl ?_
                refine XS.aload X63.here hx rfl (hb hby at_109) rfl rfl ?_
                refine XS.iload X63.here hx rfl (hb hby at_111) rfl ?_
                refine XS.iload X63.here hx rfl (hb hby at_113) rfl ?_
                refine st191.trans ?_
                refine XS.aload X191.here hx rfl (hb hby at_118) rfl rfl ?_
                show Steps p.tables e below (T191.setTop (mkF m 120 #[.val (.int p1), .val (.int p2), .val (.int p3), .val (.int p4), .val (.int p5), .val (.int 1), .val (.int 0), .val (.int 0), .val (.ref bx16), .val (.ref bx31), .val (.ref bx49), .unset, .unset] [(.ref bx49)])) _
                refine XS.aload X191.here hx rfl (hb hby at_120) rfl rfl ?_
                refine st218 _ ?_
                refine st248.trans ?_
                refine XS.astore X248.here hx rfl (hb hby at_128) rfl rfl (l' := #[.val (.int p1), .val (.int p2), .val (.int p3), .val (.int p4), .val (.int p5), .val (.int 1), .val (.int 0), .val (.int 0), .val (.ref bx16), .val (.ref bx31), .val (.ref bx49), .val (.ref n1_191), .unset]) rfl ?_
                refine XS.iload X248.here hx rfl (hb hby at_130) rfl ?_
                show Steps p.tables e below (T248.setTop (mkF m 132 #[.val (.int p1), .val (.int p2), .val (.int p3), .val (.int p4), .val (.int p5), .val (.int 1), .val (.int 0), .val (.int 0), .val (.ref bx16), .val (.ref bx31), .val (.ref bx49), .val (.ref n1_191), .unset] [(.int 0)])) _
                refine XS.ifNo X248.here hx rfl (hb hby at_132) rfl ((if0 _ _).trans (teq (by decide : (0 : Int32) = (0 : Int32))).2) ?_
                refine XS.iload X248.here hx rfl (hb hby at_135) rfl ?_
                show Steps p.tables e below (T248.setTop (mkF m 137 #[.val (.int p1), .val (.int p2), .val (.int p3), .val (.int p4), .val (.int p5), .val (.int 1), .val (.int 0), .val (.int 0), .val (.ref bx16), .val (.ref bx31), .val (.ref bx49), .val (.ref n1_191), .unset] [(.int 1)])) _
                refine XS.ifYes X248.here hx rfl (pc0 := 137) (pc' := 145) rfl (hb hby at_137) rfl ((if0 _ _).trans (feq (by decide : ¬ ((1 : Int32) = (0 : Int32)))).2) (by decide) (by decide) ?_
                show Steps p.tables e below (T248.setTop (mkF m 145 #[.val (.int p1), .val (.int p2), .val (.int p3), .val (.int p4), .val (.int p5), .val (.int 1), .val (.int 0), .val (.int 0), .val (.ref bx16), .val (.ref bx31), .val (.ref bx49), .val (.ref n1_191), .unset] [])) _
                refine XS.iconst X248.here hx rfl (hb hby at_145) ?_
                refine XS.goto X248.here hx rfl (pc0 := 146) (pc' := 150) rfl (hb hby at_146) (by decide) (by decide) ?_
                refine XS.istore X248.here hx rfl (hb hby at_150) rfl (l' := #[.val (.int p1), .val (.int p2), .val (.int p3), .val (.int p4), .val (.int p5), .val (.int 1), .val (.int 0), .val (.int 0), .val (.ref bx16), .val (.ref bx31), .val (.ref bx49), .val (.ref n1_191), .val (.int 1)]) rfl ?_
                refine XS.aload X248.here hx rfl (hb hby at_152) rfl rfl ?_
                refine XS.ifnullNo X248.here hx rfl (hb hby at_154) rfl ?_
                refine XS.iconst X248.here hx rfl (hb hby at_157) ?_
                refine XS.goto X248.here hx rfl (pc0 := 158) (pc' := 162) rfl (hb hby at_158) (by decide) (by decide) ?_
                refine XS.iload X248.here hx rfl (hb hby at_162) rfl ?_
                show Steps p.tables e below (T248.setTop (mkF m 164 #[.val (.int p1), .val (.int p2), .val (.int p3), .val (.int p4), .val (.int p5), .val (.int 1), .val (.int 0), .val (.int 0), .val (.ref bx16), .val (.ref bx31), .val (.ref bx49), .val (.ref n1_191), .val (.int 1)] [(.int 1), (.int 1)])) _
                refine XS.icmpNo X248.here hx rfl (hb hby at_164) rfl (teq (by decide : (1 : Int32) = (1 : Int32))).2 ?_
                refine XS.aload X248.here hx rfl (hb hby at_167) rfl rfl ?_
                refine st250 _ ?_
                refine XS.iload X250.here hx rfl (hb hby at_172) rfl ?_
                show Steps p.tables e below (T250.setTop (mkF m 174 #[.val (.int p1), .val (.int p2), .val (.int p3), .val (.int p4), .val (.int p5), .val (.int 1), .val (.int 0), .val (.int 0), .val (.ref bx16), .val (.ref bx31), .val (.ref bx49), .val (.ref n1_191), .val (.int 1)] [(.int 1), (.int 1)])) _
                refine XS.icmpNo X250.here hx rfl (hb hby at_174) rfl (teq (by decide : (1 : Int32) = (1 : Int32))).2 ?_
                refine XS.aconstNull X250.here hx rfl (hb hby at_177) ?_
                refine st252 _ ?_
                show Steps p.tables e below (T252.setTop (mkF m 181 #[.val (.int p1), .val (.int p2), .val (.int p3), .val (.int p4), .val (.int p5), .val (.int 1), .val (.int 0), .val (.int 0), .val (.ref bx16), .val (.ref bx31), .val (.ref bx49), .val (.ref n1_191), .val (.int 1)] [(.int 0)])) _
                refine XS.ifNo X252.here hx rfl (hb hby at_181) rfl ((if0 _ _).trans (teq (by decide : (0 : Int32) = (0 : Int32))).2) ?_
                show Steps p.tables e below (T252.setTop (mkF m 184 #[.val (.int p1), .val (.int p2), .val (.int p3), .val (.int p4), .val (.int p5), .val (.int 1), .val (.int 0), .val (.int 0), .val (.ref bx16), .val (.ref bx31), .val (.ref bx49), .val (.ref n1_191), .val (.int 1)] [])) _
                refine XS.iconst X252.here hx rfl (hb hby at_184) ?_
                refine XS.goto X252.here hx rfl (pc0 := 185) (pc' := 189) rfl (hb hby at_185) (by decide) (by decide) ?_
                exact retN X252 hx (t := .boolean) Bd.returns (by simp) (hb hby at_189) hr
              · show Q0 Z p1 p2 p3 p4 p5 cz fmt h0 n0 _ T252.heap _
                rw [e252]
                exact ⟨rfl, N253⟩
            ·  -- en = 1
              -- pc 115: SubjectLines.setStatus by rmsE11
              obtain ⟨cq254, kq254, q254a, q254b, q254c⟩ := isOf hZ rfl o63_0
              obtain ⟨_, _, ⟨T254, L254, ck254, cn254⟩, -, X254, ⟨Lc254, hQ254, l254, y254, z254⟩, st254⟩ := X63.virtualBack hx (y := (⟨KS, "setStatus", "(Ljava/lang/String;ZZ)V"⟩ : MethodName)) (z := (⟨KS, "setStatus", "(Ljava/lang/String;ZZ)V"⟩ : MethodName)) hown (mvT hZ (own_w hw (i := 48) rfl)) (mvT hZ (own_w hw (i := 49) rfl)) (notFace_of_selects (args := #[]) (mvT hZ (own_w hw (i := 51) rfl))) (mvT hZ (own_w hw (i := 51) rfl)) (mvT hZ (own_w hw (i := 50) rfl)) (by decide) (backOf (W := 0) (rmsE11 l Z a0 hw [] bx49 bx31 n1_63 n2_63 n3_63 kn1_63 kn2_63 kn3_63 n1_36 kn1_36 b0 b1 (0 : Int32) (0 : Int32) cz fmt T63.heap n0 zs91 o63_0 o63_1 o63_2 o63_3 o63_4 f77 S_COMPACT_STRINGS hcz S_SIOOBE_FORMATTER hfmt f79 f80 f81 f84 f85 f82 f83 (Or.inr ⟨rfl, rfl⟩) (Arv.arh o63_5) (Arv.arh o63_6) (Arv.arh o63_7) o63_8 o63_9 g_bx49 g_bx31 gq63_0 gq63_1 gq63_2 (Ne.symm ne51) ne68 ne72 ne76 (Ne.symm ne52) ne66 ne70 ne74 ne39 (Ne.symm nq63_1_0) (Ne.symm nq63_2_0) (Ne.symm ne67) (Ne.symm nq63_2_1) (Ne.symm ne71) (Ne.symm ne75)) hZ (own_w hw (i := 52) rfl) (own_w hw (i := 32) rfl) (by decide) (by decide)) q254a q254c (g := (mkF m 115 #[.val (.int p1), .val (.int p2), .val (.int p3), .val (.int p4), .val (.int p5), .val (.int 1), .val (.int 1), .val (.int 0), .val (.ref bx16), .val (.ref bx31), .val (.ref bx49), .unset, .unset] [(.int 1), (.int 1), (.ref bx31), (.ref bx49)])) rfl (by rw [hml]; rfl) (Steps.refl _) (argsL := [(.ref bx31), (.int 1), (.int 1)]) (rest := []) (lenOf pd_812 rfl) rfl (by show 2 * 0 + _ ≤ _; exact Nat.le_of_eq rfl) (hb hby at_115) (fun _ _ => ⟨rfl, rfl, (by decide : 7 + 3 ≤ _), (by decide : 60 + 28 ≤ _)⟩)
              dsimp only [Pt.U, Pt.locs, Pt.cells, Pt.slots] at X254 l254 y254 z254 st254 hQ254
              subst y254 z254
              obtain ⟨n1_254, kn1_254, rfl, N254q, K254q, gq254_0, sq254_0, o254_0, o254_1, o254_2, o254_3, o254_4, o254_5, o254_6, o254_7, o254_8, o254_9, o254_10, o254_11, o254_12, o254_13, o254_14⟩ := hQ254
              have N255 : Fr n0 L254 := by rw [l254]; exact Fr.app N64 N254q
              have ne257 : bx31 ≠ n1_254 := Nat.ne_of_lt (Nat.lt_of_lt_of_le f79.lt sq254_0)
              have f263 := f77.keep K254q (allS g_bx49 (allS g_bx31 (allS gq63_0 (allS gq63_1 (allS gq63_2 all0)))))
              have f270 := f84.keep K254q (ninS ne52 (ninS (Ne.symm ne39) (ninS ne67 (ninS ne71 (ninS ne75 nin0)))))
              have f271 := f85.keep K254q
              have zs280 : n0 ≤ T254.heap.size := Nat.le_trans zs91 K254q.1
              -- pc 122: Interner$Key.of by rmko
              obtain ⟨_, _, ⟨T281, L281, ck281, cn281⟩, -, X281, ⟨Lc281, hQ281, l281, y281, z281⟩, st281⟩ := Jvm.LawKit.callS X254 hx (y := (⟨KK, "of", "(Ljava/lang/String;)Lcom/example/explicit_grants/explicitgrants/Interner$Key;"⟩ : MethodName)) hown (mvT hZ (own_w hw (i := 53) rfl)) (mvT hZ (own_w hw (i := 54) rfl)) (mvT hZ (own_w hw (i := 55) rfl)) (mvT hZ (own_w hw (i := 56) rfl)) (by decide) (backOf (W := 1) (rmko l Z a0 hw [] bx31 n1_36 kn1_36 b0 b1 (own_hc b0 b1) (fhc_hashIsZero b0 b1 (0 : Int32) (0 : Int32)) cz fmt T254.heap n0 zs280 f263 S_COMPACT_STRINGS hcz o254_5 o254_6 o254_7 f270 f271 o254_8 o254_9 (Or.inl rfl) g_bx31 ne39 S_SIOOBE_FORMATTER hfmt) hZ (own_w hw (i := 56) rfl) (own_w hw (i := 55) rfl) (by decide) (by decide)) (g := (mkF m 122 #[.val (.int p1), .val (.int p2), .val (.int p3), .val (.int p4), .val (.int p5), .val (.int 1), .val (.int 1), .val (.int 0), .val (.ref bx16), .val (.ref bx31), .val (.ref bx49), .unset, .unset] [(.ref bx31), (.ref bx49)])) rfl (by rw [hml]; rfl) (argsL := [(.ref bx31)]) (rest := [(.ref bx49)]) (lenOf pd_584 rfl) rfl (by show 2 * 0 + _ ≤ _; exact Nat.le_of_eq rfl) (hb hby at_122) (fun _ _ => ⟨rfl, rfl, (by decide : 10 + 1 ≤ _), (by decide : 88 + 5 ≤ _)⟩)
              dsimp only [Pt.U, Pt.locs, Pt.cells, Pt.slots] at X281 l281 y281 z281 st281 hQ281
              subst y281 z281
              obtain ⟨n1_281, kn1_281, rfl, N281q, K281q, gq281_0, sq281_0, o281_0, o281_1, o281_2, o281_3, o281_4, o281_5, o281_6, o281_7, o281_8, o281_9⟩ := hQ281
              have N282 : Fr n0 L281 := by rw [l281]; exact Fr.app N255 N281q
              have f296 := o254_0.keep K281q
              have f297 := o254_1.keep K281q (ninS (Ne.symm ne51) nin0)
              have f298 := o254_2.keep K281q (ninS (Ne.symm ne51) nin0)
              have f299 := o254_3.keep K281q (ninS (Ne.symm ne51) nin0)
              have f305 := o254_10.keep K281q (ninS (Ne.symm ne66) nin0)
              have f306 := o254_11.keep K281q (ninS (Ne.symm ne70) nin0)
              have f308 := o254_13.keep K281q (ninS (Ne.symm ne257) nin0)
              have zs310 : n0 ≤ T281.heap.size := Nat.le_trans zs280 K281q.1
              -- pc 125: SubjectLines.of by rmofO
              obtain ⟨cq311, kq311, q311a, q311b, q311c⟩ := isOf hZ rfl f296
              obtain ⟨_, _, ⟨T311, L311, ck311, cn311⟩, -, X311, ⟨Lc311, hQ311, l311, y311, z311⟩, st311⟩ := X281.virtualBack hx (y := (⟨KS, "of", "(Lcom/example/explicit_grants/explicitgrants/Interner$Key;)[I"⟩ : MethodName)) (z := (⟨KS, "of", "(Lcom/example/explicit_grants/explicitgrants/Interner$Key;)[I"⟩ : MethodName)) hown (mvT hZ (own_w hw (i := 137) rfl)) (mvT hZ (own_w hw (i := 138) rfl)) (notFace_of_selects (args := #[]) (mvT hZ (own_w hw (i := 140) rfl))) (mvT hZ (own_w hw (i := 140) rfl)) (mvT hZ (own_w hw (i := 139) rfl)) (by decide) (backOf (W := 0) (rmofO l Z a0 hw [] bx49 n1_281 (own_hh b0 b1) (own_k1 b0 b1) n1_63 n2_63 n3_63 kn1_63 kn2_63 n1_254 kn1_254 (0 : Int32) (2 : Int32) (0 : Int32) (0 : Int32) (0 : Int32) (0 : Int32) (0 : Int32) (0 : Int32) (0 : Int32) (0 : Int32) (0 : Int32) (0 : Int32) (0 : Int32) (0 : Int32) T281.heap n0 zs310 f296 f297 f298 f299 o281_5 o281_6 o281_7 o281_8 o281_9 f305 f306 f308 (own_k1ne _ _)) hZ (own_w hw (i := 141) rfl) (own_w hw (i := 32) rfl) (by decide) (by decide)) q311a q311c (g := (mkF m 125 #[.val (.int p1), .val (.int p2), .val (.int p3), .val (.int p4), .val (.int p5), .val (.int 1), .val (.int 1), .val (.int 0), .val (.ref bx16), .val (.ref bx31), .val (.ref bx49), .unset, .unset] [(.ref n1_281), (.ref bx49)])) rfl (by rw [hml]; rfl) (Steps.refl _) (argsL := [(.ref n1_281)]) (rest := []) (lenOf pd_813 rfl) rfl (by show 2 * 0 + _ ≤ _; exact Nat.le_of_eq rfl) (hb hby at_125) (fun _ _ => ⟨rfl, rfl, (by decide : 11 + 0 ≤ _), (by decide : 93 + 0 ≤ _)⟩)
              dsimp only [Pt.U, Pt.locs, Pt.cells, Pt.slots] at X311 l311 y311 z311 st311 hQ311
              subst y311 z311
              obtain ⟨rfl, N311q, e311⟩ := hQ311
              have N312 : Fr n0 L311 := by rw [l311]; exact Fr.app N282 N311q
              -- pc 169: SubjectLines.isAdministrator by rmia2
              obtain ⟨_, _, ⟨T313, L313, ck313, cn313⟩, -, X313, ⟨Lc313, hQ313, l313, y313, z313⟩, st313⟩ := Jvm.LawKit.callS X311 hx (y := (⟨KS, "isAdministrator", "([I)Z"⟩ : MethodName)) hown (mvT hZ (own_w hw (i := 147) rfl)) (mvT hZ (own_w hw (i := 148) rfl)) (mvT hZ (own_w hw (i := 32) rfl)) (mvT hZ (own_w hw (i := 149) rfl)) (by decide) (backOf (W := 0) (rmia2 l Z a0 hw [] n1_254 kn1_254 (0 : Int32) ((own_k1 b0 b1).toInt32) ((((own_k1 b0 b1).toUInt64 >>> ((32 : Int32) &&& 0x3f).toInt64.toUInt64).toInt64).toInt32) (0 : Int32) (0 : Int32) (0 : Int32) (0 : Int32) (0 : Int32) (0 : Int32) (0 : Int32) (0 : Int32) (0 : Int32) (0 : Int32) (0 : Int32) (0 : Int32) (0 : Int32) (0 : Int32) (0 : Int32) (0 : Int32) T281.heap n0 zs310 f308) hZ (own_w hw (i := 149) rfl) (own_w hw (i := 32) rfl) (by decide) (by decide)) (g := (mkF m 169 #[.val (.int p1), .val (.int p2), .val (.int p3), .val (.int p4), .val (.int p5), .val (.int 1), .val (.int 1), .val (.int 0), .val (.ref bx16), .val (.ref bx31), .val (.ref bx49), .val (.ref n1_254), .val (.int 1)] [(.ref n1_254)])) rfl (by rw [hml]; rfl) (argsL := [(.ref n1_254)]) (rest := []) (lenOf pd_409 rfl) rfl (by show 2 * 0 + _ ≤ _; exact Nat.le_of_eq rfl) (hb hby at_169) (fun _ _ => ⟨rfl, e311, (by decide : 11 + 0 ≤ _), (by decide : 93 + 0 ≤ _)⟩)
              dsimp only [Pt.U, Pt.locs, Pt.cells, Pt.slots] at X313 l313 y313 z313 st313 hQ313
              subst y313 z313
              obtain ⟨rfl, N313q, e313⟩ := hQ313
              have N314 : Fr n0 L313 := by rw [l313]; exact Fr.app N312 N313q
              -- pc 178: SubjectLines.isAdministrator by rmiaN
              obtain ⟨_, _, ⟨T315, L315, ck315, cn315⟩, -, X315, ⟨Lc315, hQ315, l315, y315, z315⟩, st315⟩ := Jvm.LawKit.callS X313 hx (y := (⟨KS, "isAdministrator", "([I)Z"⟩ : MethodName)) hown (mvT hZ (own_w hw (i := 147) rfl)) (mvT hZ (own_w hw (i := 148) rfl)) (mvT hZ (own_w hw (i := 32) rfl)) (mvT hZ (own_w hw (i := 149) rfl)) (by decide) (backOf (W := 0) (rmiaN l Z a0 hw []  T281.heap n0 zs310 ) hZ (own_w hw (i := 149) rfl) (own_w hw (i := 32) rfl) (by decide) (by decide)) (g := (mkF m 178 #[.val (.int p1), .val (.int p2), .val (.int p3), .val (.int p4), .val (.int p5), .val (.int 1), .val (.int 1), .val (.int 0), .val (.ref bx16), .val (.ref bx31), .val (.ref bx49), .val (.ref n1_254), .val (.int 1)] [.null])) rfl (by rw [hml]; rfl) (argsL := [.null]) (rest := []) (lenOf pd_409 rfl) rfl (by show 2 * 0 + _ ≤ _; exact Nat.le_of_eq rfl) (hb hby at_178) (fun _ _ => ⟨rfl, e313, (by decide : 11 + 0 ≤ _), (by decide : 93 + 0 ≤ _)⟩)
              dsimp only [Pt.U, Pt.locs, Pt.cells, Pt.slots] at X315 l315 y315 z315 st315 hQ315
              subst y315 z315
              obtain ⟨rfl, N315q, e315⟩ := hQ315
              have N316 : Fr n0 L315 := by rw [l315]; exact Fr.app N314 N315q
              obtain ⟨fs, hr, hrun, hended, hW, hsame⟩ := X315.leave (v := some (.int 1)) (fun h => by rw [Bd.returns] at h; cases h) Bd.notSynchronized
              refine ⟨_, _, pre92 _ ?_, hrun, hended, _, _, rfl, ?_, ⟨_, rfl⟩, hW, hsame.mono (by decide) (by decide)⟩
              · show Steps p.tables e below (T63.setTop (mkF m 84 #[.val (.int p1), .val (.int p2), .val (.int p3), .val (.int p4), .val (.int p5), .val (.int 1), .val (.int 1), .val (.int 0), .val (.ref bx16), .val (.ref bx31), .val (.ref bx49), .unset, .unset] [])) _
                refine XS.iload X63.here hx rfl (hb hby at_84) rfl ?_
                show Steps p.tables e below (T63.setTop (mkF m 86 #[.val (.int p1), .val (.int p2), .val (.int p3), .val (.int p4), .val (.int p5), .val (.int 1), .val (.int 1), .val (.int 0), .val (.ref bx16), .val (.ref bx31), .val (.ref bx49), .unset, .unset] [(.int 0)])) _
                refine XS.ifYes X63.here hx rfl (pc0 := 86) (pc' := 107) rfl (hb hby at_86) rfl ((if0 _ _).trans (teq (by decide : (0 : Int32) = (0 : Int32))).1) (by decide) (by decide) ?_
                refine XS.aload X63.here hx rfl (hb hby at_107) rfl rfl ?_
                refine XS.aload X63.here hx rfl (hb hby at_109) rfl rfl ?_
                refine XS.iload X63.here hx rfl (hb hby at_111) rfl ?_
                refine XS.iload X63.here hx rfl (hb hby at_113) rfl ?_
                refine st254.trans ?_
                refine XS.aload X254.here hx rfl (hb hby at_118) rfl rfl ?_
                show Steps p.tables e below (T254.setTop (mkF m 120 #[.val (.int p1), .val (.int p2), .val (.int p3), .val (.int p4), .val (.int p5), .val (.int 1), .val (.int 1), .val (.int 0), .val (.ref bx16), .val (.ref bx31), .val (.ref bx49), .unset, .unset] [(.ref bx49)])) _
                refine XS.aload X254.here hx rfl (hb hby at_120) rfl rfl ?_
                refine st281 _ ?_
                refine st311.trans ?_
                refine XS.astore X311.here hx rfl (hb hby at_128) rfl rfl (l' := #[.val (.int p1), .val (.int p2), .val (.int p3), .val (.int p4), .val (.int p5), .val (.int 1), .val (.int 1), .val (.int 0), .val (.ref bx16), .val (.ref bx31), .val (.ref bx49), .val (.ref n1_254), .unset]) rfl ?_
                refine XS.iload X311.here hx rfl (hb hby at_130) rfl ?_
                show Steps p.tables e below (T311.setTop (mkF m 132 #[.val (.int p1), .val (.int p2), .val (.int p3), .val (.int p4), .val (.int p5), .val (.int 1), .val (.int 1), .val (.int 0), .val (.ref bx16), .val (.ref bx31), .val (.ref bx49), .val (.ref n1_254), .unset] [(.int 0)])) _
                refine XS.ifNo X311.here hx rfl (hb hby at_132) rfl ((if0 _ _).trans (teq (by decide : (0 : Int32) = (0 : Int32))).2) ?_
                refine XS.iload X311.here hx rfl (hb hby at_135) rfl ?_
                show Steps p.tables e below (T311.setTop (mkF m 137 #[.val (.int p1), .val (.int p2), .val (.int p3), .val (.int p4), .val (.int p5), .val (.int 1), .val (.int 1), .val (.int 0), .val (.ref bx16), .val (.ref bx31), .val (.ref bx49), .val (.ref n1_254), .unset] [(.int 1)])) _
                refine XS.ifYes X311.here hx rfl (pc0 := 137) (pc' := 145) rfl (hb hby at_137) rfl ((if0 _ _).trans (feq (by decide : ¬ ((1 : Int32) = (0 : Int32)))).2) (by decide) (by decide) ?_
                show Steps p.tables e below (T311.setTop (mkF m 145 #[.val (.int p1), .val (.int p2), .val (.int p3), .val (.int p4), .val (.int p5), .val (.int 1), .val (.int 1), .val (.int 0), .val (.ref bx16), .val (.ref bx31), .val (.ref bx49), .val (.ref n1_254), .unset] [])) _
                refine XS.iconst X311.here hx rfl (hb hby at_145) ?_
                refine XS.goto X311.here hx rfl (pc0 := 146) (pc' := 150) rfl (hb hby at_146) (by decide) (by decide) ?_
                refine XS.istore X311.here hx rfl (hb hby at_150) rfl (l' := #[.val (.int p1), .val (.int p2), .val (.int p3), .val (.int p4), .val (.int p5), .val (.int 1), .val (.int 1), .val (.int 0), .val (.ref bx16), .val (.ref bx31), .val (.ref bx49), .val (.ref n1_254), .val (.int 1)]) rfl ?_
                refine XS.aload X311.here hx rfl (hb hby at_152) rfl rfl ?_
                refine XS.ifnullNo X311.here hx rfl (hb hby at_154) rfl ?_
                refine XS.iconst X311.here hx rfl (hb hby at_157) ?_
                refine XS.goto X311.here hx rfl (pc0 := 158) (pc' := 162) rfl (hb hby at_158) (by decide) (by decide) ?_
                refine XS.iload X311.here hx rfl (hb hby at_162) rfl ?_
                show Steps p.tables e below (T311.setTop (mkF m 164 #[.val (.int p1), .val (.int p2), .val (.int p3), .val (.int p4), .val (.int p5), .val (.int 1), .val (.int 1), .val (.int 0), .val (.ref bx16), .val (.ref bx31), .val (.ref bx49), .val (.ref n1_254), .val (.int 1)] [(.int 1), (.int 1)])) _
                refine XS.icmpNo X311.here hx rfl (hb hby at_164) rfl (teq (by decide : (1 : Int32) = (1 : Int32))).2 ?_
                refine XS.aload X311.here hx rfl (hb hby at_167) rfl rfl ?_
                refine st313 _ ?_
                refine XS.iload X313.here hx rfl (hb hby at_172) rfl ?_
                show Steps p.tables e below (T313.setTop (mkF m 174 #[.val (.int p1), .val (.int p2), .val (.int p3), .val (.int p4), .val (.int p5), .val (.int 1), .val (.int 1), .val (.int 0), .val (.ref bx16), .val (.ref bx31), .val (.ref bx49), .val (.ref n1_254), .val (.int 1)] [(.int 1), (.int 1)])) _
                refine XS.icmpNo X313.here hx rfl (hb hby at_174) rfl (teq (by decide : (1 : Int32) = (1 : Int32))).2 ?_
                refine XS.aconstNull X313.here hx rfl (hb hby at_177) ?_
                refine st315 _ ?_
                show Steps p.tables e below (T315.setTop (mkF m 181 #[.val (.int p1), .val (.int p2), .val (.int p3), .val (.int p4), .val (.int p5), .val (.int 1), .val (.int 1), .val (.int 0), .val (.ref bx16), .val (.ref bx31), .val (.ref bx49), .val (.ref n1_254), .val (.int 1)] [(.int 0)])) _
                refine XS.ifNo X315.here hx rfl (hb hby at_181) rfl ((if0 _ _).trans (teq (by decide : (0 : Int32) = (0 : Int32))).2) ?_
                show Steps p.tables e below (T315.setTop (mkF m 184 #[.val (.int p1), .val (.int p2), .val (.int p3), .val (.int p4), .val (.int p5), .val (.int 1), .val (.int 1), .val (.int 0), .val (.ref bx16), .val (.ref bx31), .val (.ref bx49), .val (.ref n1_254), .val (.int 1)] [])) _
                refine XS.iconst X315.here hx rfl (hb hby at_184) ?_
                refine XS.goto X315.here hx rfl (pc0 := 185) (pc' := 189) rfl (hb hby at_185) (by decide) (by decide) ?_
                exact retN X315 hx (t := .boolean) Bd.returns (by simp) (hb hby at_189) hr
              · show Q0 Z p1 p2 p3 p4 p5 cz fmt h0 n0 _ T315.heap _
                rw [e315]
                exact ⟨rfl, N316⟩
        ·  -- li = 1
          rcases had with rfl | rfl
          ·  -- ad = 0
            rcases hen with rfl | rfl
            ·  -- en = 0
              -- pc 104: SubjectLines.add by rmad
              obtain ⟨cq317, kq317, q317a, q317b, q317c⟩ := isOf hZ rfl o63_0
              obtain ⟨_, _, ⟨T317, L317, ck317, cn317⟩, -, X317, ⟨Lc317, hQ317, l317, y317, z317⟩, st317⟩ := X63.virtualBack hx (y := (⟨KS, "add", "(Ljava/lang/String;IIIII)V"⟩ : MethodName)) (z := (⟨KS, "add", "(Ljava/lang/String;IIIII)V"⟩ : MethodName)) hown (mvT hZ (own_w hw (i := 151) rfl)) (mvT hZ (own_w hw (i := 152) rfl)) (notFace_of_selects (args := #[]) (mvT hZ (own_w hw (i := 154) rfl))) (mvT hZ (own_w hw (i := 154) rfl)) (mvT hZ (own_w hw (i := 153) rfl)) (by decide) (backOf (W := 0) (rmad l Z a0 hw [] bx49 bx31 ((p4 &&& (1073741823 : Int32)) + (1 : Int32)) p5 p1 p2 p3 n1_63 n2_63 n3_63 kn1_63 kn2_63 kn3_63 n1_36 kn1_36 b0 b1 (0 : Int32) (0 : Int32) cz fmt T63.heap n0 zs91 o63_0 o63_1 o63_2 o63_3 o63_4 f77 S_COMPACT_STRINGS hcz S_SIOOBE_FORMATTER hfmt f79 f80 f81 f84 f85 f82 f83 (Or.inr ⟨rfl, rfl⟩) (Arv.arh o63_5) (Arv.arh o63_6) (Arv.arh o63_7) o63_8 o63_9 g_bx49 g_bx31 gq63_0 gq63_1 gq63_2 (Ne.symm ne51) ne68 ne72 ne76 (Ne.symm ne52) ne66 ne70 ne74 ne39 (Ne.symm nq63_1_0) (Ne.symm nq63_2_0) (Ne.symm ne67) (Ne.symm nq63_2_1) (Ne.symm ne71) (Ne.symm ne75)) hZ (own_w hw (i := 155) rfl) (own_w hw (i := 32) rfl) (by decide) (by decide)) q317a q317c (g := (mkF m 104 #[.val (.int p1), .val (.int p2), .val (.int p3), .val (.int p4), .val (.int p5), .val (.int 0), .val (.int 0), .val (.int 1), .val (.ref bx16), .val (.ref bx31), .val (.ref bx49), .unset, .unset] [(.int p3), (.int p2), (.int p1), (.int p5), (.int ((p4 &&& (1073741823 : Int32)) + (1 : Int32))), (.ref bx31), (.ref bx49)])) rfl (by rw [hml]; rfl) (Steps.refl _) (argsL := [(.ref bx31), (.int ((p4 &&& (1073741823 : Int32)) + (1 : Int32))), (.int p5), (.int p1), (.int p2), (.int p3)]) (rest := []) (lenOf pd_814 rfl) rfl (by show 2 * 0 + _ ≤ _; exact Nat.le_of_eq rfl) (hb hby at_104) (fun _ _ => ⟨rfl, rfl, (by decide : 7 + 3 ≤ _), (by decide : 60 + 28 ≤ _)⟩)
              dsimp only [Pt.U, Pt.locs, Pt.cells, Pt.slots] at X317 l317 y317 z317 st317 hQ317
              subst y317 z317
              obtain ⟨n1_317, kn1_317, rfl, N317q, K317q, gq317_0, sq317_0, o317_0, o317_1, o317_2, o317_3, o317_4, o317_5, o317_6, o317_7, o317_8, o317_9, o317_10, o317_11, o317_12, o317_13, o317_14⟩ := hQ317
              have N318 : Fr n0 L317 := by rw [l317]; exact Fr.app N64 N317q
              have ne320 : bx31 ≠ n1_317 := Nat.ne_of_lt (Nat.lt_of_lt_of_le f79.lt sq317_0)
              have ne321 : n1_36 ≠ n1_317 := Nat.ne_of_lt (Nat.lt_of_lt_of_le f84.lt sq317_0)
              have ne322 : bx49 ≠ n1_317 := Nat.ne_of_lt (Nat.lt_of_lt_of_le o63_0.lt sq317_0)
              have ne323 : n1_63 ≠ n1_317 := Nat.ne_of_lt (Nat.lt_of_lt_of_le o63_5.lt sq317_0)
              have ne324 : n2_63 ≠ n1_317 := Nat.ne_of_lt (Nat.lt_of_lt_of_le o63_6.lt sq317_0)
              have f326 := f77.keep K317q (allS g_bx49 (allS g_bx31 (allS gq63_0 (allS gq63_1 (allS gq63_2 all0)))))
              have f333 := f84.keep K317q (ninS ne52 (ninS (Ne.symm ne39) (ninS ne67 (ninS ne71 (ninS ne75 nin0)))))
              have f334 := f85.keep K317q
              have zs343 : n0 ≤ T317.heap.size := Nat.le_trans zs91 K317q.1
              -- pc 115: SubjectLines.setStatus by rmsO00
              obtain ⟨cq344, kq344, q344a, q344b, q344c⟩ := isOf hZ rfl o317_0
              obtain ⟨_, _, ⟨T344, L344, ck344, cn344⟩, -, X344, ⟨Lc344, hQ344, l344, y344, z344⟩, st344⟩ := X317.virtualBack hx (y := (⟨KS, "setStatus", "(Ljava/lang/String;ZZ)V"⟩ : MethodName)) (z := (⟨KS, "setStatus", "(Ljava/lang/String;ZZ)V"⟩ : MethodName)) hown (mvT hZ (own_w hw (i := 48) rfl)) (mvT hZ (own_w hw (i := 49) rfl)) (notFace_of_selects (args := #[]) (mvT hZ (own_w hw (i := 51) rfl))) (mvT hZ (own_w hw (i := 51) rfl)) (mvT hZ (own_w hw (i := 50) rfl)) (by decide) (backOf (W := 0) (rmsO00 l Z a0 hw [] bx49 bx31 n1_63 n2_63 n3_63 kn1_63 kn2_63 n1_36 kn1_36 b0 b1 (own_hc b0 b1) (fhc_hashIsZero b0 b1 (0 : Int32) (0 : Int32)) cz fmt n1_317 kn1_317 (1 : Int32) (0 : Int32) ((p4 &&& (1073741823 : Int32)) + (1 : Int32)) p5 p1 p2 p3 (1 : Int32) (0 : Int32) (0 : Int32) (0 : Int32) (0 : Int32) (0 : Int32) (0 : Int32) T317.heap n0 zs343 o317_0 o317_1 o317_2 o317_3 f326 S_COMPACT_STRINGS hcz S_SIOOBE_FORMATTER hfmt o317_5 o317_6 o317_7 f333 f334 o317_8 o317_9 (Or.inl rfl) o317_10 o317_11 o317_13 g_bx31 ne51 ne66 ne70 ne39 ne320 gq317_0 (Ne.symm ne322) (Ne.symm ne323) (Ne.symm ne324) (Ne.symm ne321)) hZ (own_w hw (i := 52) rfl) (own_w hw (i := 32) rfl) (by decide) (by decide)) q344a q344c (g := (mkF m 115 #[.val (.int p1), .val (.int p2), .val (.int p3), .val (.int p4), .val (.int p5), .val (.int 0), .val (.int 0), .val (.int 1), .val (.ref bx16), .val (.ref bx31), .val (.ref bx49), .unset, .unset] [(.int 0), (.int 0), (.ref bx31), (.ref bx49)])) rfl (by rw [hml]; rfl) (Steps.refl _) (argsL := [(.ref bx31), (.int 0), (.int 0)]) (rest := []) (lenOf pd_812 rfl) rfl (by show 2 * 0 + _ ≤ _; exact Nat.le_of_eq rfl) (hb hby at_115) (fun _ _ => ⟨rfl, rfl, (by decide : 10 + 1 ≤ _), (by decide : 88 + 5 ≤ _)⟩)
              dsimp only [Pt.U, Pt.locs, Pt.cells, Pt.slots] at X344 l344 y344 z344 st344 hQ344
              subst y344 z344
              obtain ⟨rfl, N344q, K344q, o344_0, o344_1, o344_2, o344_3, o344_4, o344_5⟩ := hQ344
              have N345 : Fr n0 L344 := by rw [l344]; exact Fr.app N318 N344q
              have f346 := f326.keep K344q (allS g_bx31 (allS gq317_0 all0))
              have f349 := f333.keep K344q (ninS (Ne.symm ne39) (ninS ne321 nin0))
              have f350 := f334.keep K344q
              have f351 := o317_0.keep K344q
              have f352 := o317_1.keep K344q (ninS (Ne.symm ne51) (ninS ne322 nin0))
              have f353 := o317_2.keep K344q (ninS (Ne.symm ne51) (ninS ne322 nin0))
              have f354 := o317_3.keep K344q (ninS (Ne.symm ne51) (ninS ne322 nin0))
              have f360 := o317_10.keep K344q (ninS (Ne.symm ne66) (ninS ne323 nin0))
              have f361 := o317_11.keep K344q (ninS (Ne.symm ne70) (ninS ne324 nin0))
              have zs365 : n0 ≤ T344.heap.size := Nat.le_trans zs343 K344q.1
              -- pc 122: Interner$Key.of by rmko
              obtain ⟨_, _, ⟨T366, L366, ck366, cn366⟩, -, X366, ⟨Lc366, hQ366, l366, y366, z366⟩, st366⟩ := Jvm.LawKit.callS X344 hx (y := (⟨KK, "of", "(Ljava/lang/String;)Lcom/example/explicit_grants/explicitgrants/Interner$Key;"⟩ : MethodName)) hown (mvT hZ (own_w hw (i := 53) rfl)) (mvT hZ (own_w hw (i := 54) rfl)) (mvT hZ (own_w hw (i := 55) rfl)) (mvT hZ (own_w hw (i := 56) rfl)) (by decide) (backOf (W := 1) (rmko l Z a0 hw [] bx31 n1_36 kn1_36 b0 b1 (own_hc b0 b1) (fhc_hashIsZero b0 b1 (own_hc b0 b1) (fhc_hashIsZero b0 b1 (0 : Int32) (0 : Int32))) cz fmt T344.heap n0 zs365 f346 S_COMPACT_STRINGS hcz o344_0 o344_1 o344_2 f349 f350 o344_3 o344_4 (Or.inl rfl) g_bx31 ne39 S_SIOOBE_FORMATTER hfmt) hZ (own_w hw (i := 56) rfl) (own_w hw (i := 55) rfl) (by decide) (by decide)) (g := (mkF m 122 #[.val (.int p1), .val (.int p2), .val (.int p3), .val (.int p4), .val (.int p5), .val (.int 0), .val (.int 0), .val (.int 1), .val (.ref bx16), .val (.ref bx31), .val (.ref bx49), .unset, .unset] [(.ref bx31), (.ref bx49)])) rfl (by rw [hml]; rfl) (argsL := [(.ref bx31)]) (rest := [(.ref bx49)]) (lenOf pd_584 rfl) rfl (by show 2 * 0 + _ ≤ _; exact Nat.le_of_eq rfl) (hb hby at_122) (fun _ _ => ⟨rfl, rfl, (by decide : 11 + 1 ≤ _), (by decide : 93 + 5 ≤ _)⟩)
              dsimp only [Pt.U, Pt.locs, Pt.cells, Pt.slots] at X366 l366 y366 z366 st366 hQ366
              subst y366 z366
              obtain ⟨n1_366, kn1_366, rfl, N366q, K366q, gq366_0, sq366_0, o366_0, o366_1, o366_2, o366_3, o366_4, o366_5, o366_6, o366_7, o366_8, o366_9⟩ := hQ366
              have N367 : Fr n0 L366 := by rw [l366]; exact Fr.app N345 N366q
              have f381 := f351.keep K366q
              have f382 := f352.keep K366q (ninS (Ne.symm ne51) nin0)
              have f383 := f353.keep K366q (ninS (Ne.symm ne51) nin0)
              have f384 := f354.keep K366q (ninS (Ne.symm ne51) nin0)
              have f386 := f360.keep K366q (ninS (Ne.symm ne66) nin0)
              have f387 := f361.keep K366q (ninS (Ne.symm ne70) nin0)
              have f394 := o344_5.keep K366q (ninS (Ne.symm ne320) nin0)
              have zs395 : n0 ≤ T366.heap.size := Nat.le_trans zs365 K366q.1
              -- pc 125: SubjectLines.of by rmofO
              obtain ⟨cq396, kq396, q396a, q396b, q396c⟩ := isOf hZ rfl f381
              obtain ⟨_, _, ⟨T396, L396, ck396, cn396⟩, -, X396, ⟨Lc396, hQ396, l396, y396, z396⟩, st396⟩ := X366.virtualBack hx (y := (⟨KS, "of", "(Lcom/example/explicit_grants/explicitgrants/Interner$Key;)[I"⟩ : MethodName)) (z := (⟨KS, "of", "(Lcom/example/explicit_grants/explicitgrants/Interner$Key;)[I"⟩ : MethodName)) hown (mvT hZ (own_w hw (i := 137) rfl)) (mvT hZ (own_w hw (i := 138) rfl)) (notFace_of_selects (args := #[]) (mvT hZ (own_w hw (i := 140) rfl))) (mvT hZ (own_w hw (i := 140) rfl)) (mvT hZ (own_w hw (i := 139) rfl)) (by decide) (backOf (W := 0) (rmofO l Z a0 hw [] bx49 n1_366 (own_hh b0 b1) (own_k1 b0 b1) n1_63 n2_63 n3_63 kn1_63 kn2_63 n1_317 kn1_317 (1 : Int32) (1 : Int32) ((p4 &&& (1073741823 : Int32)) + (1 : Int32)) p5 p1 p2 p3 (1 : Int32) (0 : Int32) (0 : Int32) (0 : Int32) (0 : Int32) (0 : Int32) (0 : Int32) T366.heap n0 zs395 f381 f382 f383 f384 o366_5 o366_6 o366_7 o366_8 o366_9 f386 f387 f394 (own_k1ne _ _)) hZ (own_w hw (i := 141) rfl) (own_w hw (i := 32) rfl) (by decide) (by decide)) q396a q396c (g := (mkF m 125 #[.val (.int p1), .val (.int p2), .val (.int p3), .val (.int p4), .val (.int p5), .val (.int 0), .val (.int 0), .val (.int 1), .val (.ref bx16), .val (.ref bx31), .val (.ref bx49), .unset, .unset] [(.ref n1_366), (.ref bx49)])) rfl (by rw [hml]; rfl) (Steps.refl _) (argsL := [(.ref n1_366)]) (rest := []) (lenOf pd_813 rfl) rfl (by show 2 * 0 + _ ≤ _; exact Nat.le_of_eq rfl) (hb hby at_125) (fun _ _ => ⟨rfl, rfl, (by decide : 12 + 0 ≤ _), (by decide : 98 + 0 ≤ _)⟩)
              dsimp only [Pt.U, Pt.locs, Pt.cells, Pt.slots] at X396 l396 y396 z396 st396 hQ396
              subst y396 z396
              obtain ⟨rfl, N396q, e396⟩ := hQ396
              have N397 : Fr n0 L396 := by rw [l396]; exact Fr.app N367 N396q
              -- pc 169: SubjectLines.isAdministrator by rmia1
              obtain ⟨_, _, ⟨T398, L398, ck398, cn398⟩, -, X398, ⟨Lc398, hQ398, l398, y398, z398⟩, st398⟩ := Jvm.LawKit.callS X396 hx (y := (⟨KS, "isAdministrator", "([I)Z"⟩ : MethodName)) hown (mvT hZ (own_w hw (i := 147) rfl)) (mvT hZ (own_w hw (i := 148) rfl)) (mvT hZ (own_w hw (i := 32) rfl)) (mvT hZ (own_w hw (i := 149) rfl)) (by decide) (backOf (W := 0) (rmia1 l Z a0 hw [] n1_317 kn1_317 (1 : Int32) ((own_k1 b0 b1).toInt32) ((((own_k1 b0 b1).toUInt64 >>> ((32 : Int32) &&& 0x3f).toInt64.toUInt64).toInt64).toInt32) (0 : Int32) (0 : Int32) (0 : Int32) (0 : Int32) ((p4 &&& (1073741823 : Int32)) + (1 : Int32)) p5 p1 p2 p3 (1 : Int32) (0 : Int32) (0 : Int32) (0 : Int32) (0 : Int32) (0 : Int32) (0 : Int32) T366.heap n0 zs395 f394) hZ (own_w hw (i := 149) rfl) (own_w hw (i := 32) rfl) (by decide) (by decide)) (g := (mkF m 169 #[.val (.int p1), .val (.int p2), .val (.int p3), .val (.int p4), .val (.int p5), .val (.int 0), .val (.int 0), .val (.int 1), .val (.ref bx16), .val (.ref bx31), .val (.ref bx49), .val (.ref n1_317), .val (.int 1)] [(.ref n1_317)])) rfl (by rw [hml]; rfl) (argsL := [(.ref n1_317)]) (rest := []) (lenOf pd_409 rfl) rfl (by show 2 * 0 + _ ≤ _; exact Nat.le_of_eq rfl) (hb hby at_169) (fun _ _ => ⟨rfl, e396, (by decide : 12 + 0 ≤ _), (by decide : 98 + 0 ≤ _)⟩)
              dsimp only [Pt.U, Pt.locs, Pt.cells, Pt.slots] at X398 l398 y398 z398 st398 hQ398
              subst y398 z398
              obtain ⟨rfl, N398q, e398⟩ := hQ398
              have N399 : Fr n0 L398 := by rw [l398]; exact Fr.app N397 N398q
              -- pc 178: SubjectLines.isAdministrator by rmiaN
              obtain ⟨_, _, ⟨T400, L400, ck400, cn400⟩, -, X400, ⟨Lc400, hQ400, l400, y400, z400⟩, st400⟩ := Jvm.LawKit.callS X398 hx (y := (⟨KS, "isAdministrator", "([I)Z"⟩ : MethodName)) hown (mvT hZ (own_w hw (i := 147) rfl)) (mvT hZ (own_w hw (i := 148) rfl)) (mvT hZ (own_w hw (i := 32) rfl)) (mvT hZ (own_w hw (i := 149) rfl)) (by decide) (backOf (W := 0) (rmiaN l Z a0 hw []  T366.heap n0 zs395 ) hZ (own_w hw (i := 149) rfl) (own_w hw (i := 32) rfl) (by decide) (by decide)) (g := (mkF m 178 #[.val (.int p1), .val (.int p2), .val (.int p3), .val (.int p4), .val (.int p5), .val (.int 0), .val (.int 0), .val (.int 1), .val (.ref bx16), .val (.ref bx31), .val (.ref bx49), .val (.ref n1_317), .val (.int 1)] [.null])) rfl (by rw [hml]; rfl) (argsL := [.null]) (rest := []) (lenOf pd_409 rfl) rfl (by show 2 * 0 + _ ≤ _; exact Nat.le_of_eq rfl) (hb hby at_178) (fun _ _ => ⟨rfl, e398, (by decide : 12 + 0 ≤ _), (by decide : 98 + 0 ≤ _)⟩)
              dsimp only [Pt.U, Pt.locs, Pt.cells, Pt.slots] at X400 l400 y400 z400 st400 hQ400
              subst y400 z400
              obtain ⟨rfl, N400q, e400⟩ := hQ400
              have N401 : Fr n0 L400 := by rw [l400]; exact Fr.app N399 N400q
              obtain ⟨fs, hr, hrun, hended, hW, hsame⟩ := X400.leave (v := some (.int 1)) (fun h => by rw [Bd.returns] at h; cases h) Bd.notSynchronized
              refine ⟨_, _, pre92 _ ?_, hrun, hended, _, _, rfl, ?_, ⟨_, rfl⟩, hW, hsame.mono (by decide) (by decide)⟩
              · show Steps p.tables e below (T63.setTop (mkF m 84 #[.val (.int p1), .val (.int p2), .val (.int p3), .val (.int p4), .val (.int p5), .val (.int 0), .val (.int 0), .val (.int 1), .val (.ref bx16), .val (.ref bx31), .val (.ref bx49), .unset, .unset] [])) _
                refine XS.iload X63.here hx rfl (hb hby at_84) rfl ?_
                show Steps p.tables e below (T63.setTop (mkF m 86 #[.val (.int p1), .val (.int p2), .val (.int p3), .val (.int p4), .val (.int p5), .val (.int 0), .val (.int 0), .val (.int 1), .val (.ref bx16), .val (.ref bx31), .val (.ref bx49), .unset, .unset] [(.int 1)])) _
                refine XS.ifNo X63.here hx rfl (hb hby at_86) rfl ((if0 _ _).trans (feq (by decide : ¬ ((1 : Int32) = (0 : Int32)))).1) ?_
                refine XS.aload X63.here hx rfl (hb hby at_89) rfl rfl ?_
                refine XS.aload X63.here hx rfl (hb hby at_91) rfl rfl ?_
                refine XS.iloadN X63.here hx rfl (hb hby at_93) rfl ?_
                refine X63.ldcInt hx hown (mvT hZ (own_w hw (i := 150) rfl)) (g := (mkF m 94 #[.val (.int p1), .val (.int p2), .val (.int p3), .val (.int p4), .val (.int p5), .val (.int 0), .val (.int 0), .val (.int 1), .val (.ref bx16), .val (.ref bx31), .val (.ref bx49), .unset, .unset] [(.int p4), (.ref bx31), (.ref bx49)])) rfl (hb hby at_94) _ ?_
                refine XS.iand X63.here hx rfl (hb hby at_96) rfl ?_
                refine XS.iconst X63.here hx rfl (hb hby at_97) ?_
                show Steps p.tables e below (T63.setTop (mkF m 98 #[.val (.int p1), .val (.int p2), .val (.int p3), .val (.int p4), .val (.int p5), .val (.int 0), .val (.int 0), .val (.int 1), .val (.ref bx16), .val (.ref bx31), .val (.ref bx49), .unset, .unset] [(.int 1), (.int (p4 &&& (1073741823 : Int32))), (.ref bx31), (.ref bx49)])) _
                refine XS.iadd X63.here hx rfl (hb hby at_98) rfl ?_
                refine XS.iload X63.here hx rfl (hb hby at_99) rfl ?_
                refine XS.iloadN X63.here hx rfl (hb hby at_101) rfl ?_
                refine XS.iloadN X63.here hx rfl (hb hby at_102) rfl ?_
                refine XS.iloadN X63.here hx rfl (hb hby at_103) rfl ?_
                refine st317.trans ?_
                refine XS.aload X317.here hx rfl (hb hby at_107) rfl rfl ?_
                refine XS.aload X317.here hx rfl (hb hby at_109) rfl rfl ?_
                show Steps p.tables e below (T317.setTop (mkF m 111 #[.val (.int p1), .val (.int p2), .val (.int p3), .val (.int p4), .val (.int p5), .val (.int 0), .val (.int 0), .val (.int 1), .val (.ref bx16), .val (.ref bx31), .val (.ref bx49), .unset, .unset] [(.ref bx31), (.ref bx49)])) _
                refine XS.iload X317.here hx rfl (hb hby at_111) rfl ?_
                refine XS.iload X317.here hx rfl (hb hby at_113) rfl ?_
                refine st344.trans ?_
                refine XS.aload X344.here hx rfl (hb hby at_118) rfl rfl ?_
                refine XS.aload X344.here hx rfl (hb hby at_120) rfl rfl ?_
                refine st366 _ ?_
                refine st396.trans ?_
                refine XS.astore X396.here hx rfl (hb hby at_128) rfl rfl (l' := #[.val (.int p1), .val (.int p2), .val (.int p3), .val (.int p4), .val (.int p5), .val (.int 0), .val (.int 0), .val (.int 1), .val (.ref bx16), .val (.ref bx31), .val (.ref bx49), .val (.ref n1_317), .unset]) rfl ?_
                show Steps p.tables e below (T396.setTop (mkF m 130 #[.val (.int p1), .val (.int p2), .val (.int p3), .val (.int p4), .val (.int p5), .val (.int 0), .val (.int 0), .val (.int 1), .val (.ref bx16), .val (.ref bx31), .val (.ref bx49), .val (.ref n1_317), .unset] [])) _
                refine XS.iload X396.here hx rfl (hb hby at_130) rfl ?_
                show Steps p.tables e below (T396.setTop (mkF m 132 #[.val (.int p1), .val (.int p2), .val (.int p3), .val (.int p4), .val (.int p5), .val (.int 0), .val (.int 0), .val (.int 1), .val (.ref bx16), .val (.ref bx31), .val (.ref bx49), .val (.ref n1_317), .unset] [(.int 1)])) _
                refine XS.ifYes X396.here hx rfl (pc0 := 132) (pc' := 145) rfl (hb hby at_132) rfl ((if0 _ _).trans (feq (by decide : ¬ ((1 : Int32) = (0 : Int32)))).2) (by decide) (by decide) ?_
                refine XS.iconst X396.here hx rfl (hb hby at_145) ?_
                refine XS.goto X396.here hx rfl (pc0 := 146) (pc' := 150) rfl (hb hby at_146) (by decide) (by decide) ?_
                refine XS.istore X396.here hx rfl (hb hby at_150) rfl (l' := #[.val (.int p1), .val (.int p2), .val (.int p3), .val (.int p4), .val (.int p5), .val (.int 0), .val (.int 0), .val (.int 1), .val (.ref bx16), .val (.ref bx31), .val (.ref bx49), .val (.ref n1_317), .val (.int 1)]) rfl ?_
                refine XS.aload X396.here hx rfl (hb hby at_152) rfl rfl ?_
                refine XS.ifnullNo X396.here hx rfl (hb hby at_154) rfl ?_
                refine XS.iconst X396.here hx rfl (hb hby at_157) ?_
                show Steps p.tables e below (T396.setTop (mkF m 158 #[.val (.int p1), .val (.int p2), .val (.int p3), .val (.int p4), .val (.int p5), .val (.int 0), .val (.int 0), .val (.int 1), .val (.ref bx16), .val (.ref bx31), .val (.ref bx49), .val (.ref n1_317), .val (.int 1)] [(.int 1)])) _
                refine XS.goto X396.here hx rfl (pc0 := 158) (pc' := 162) rfl (hb hby at_158) (by decide) (by decide) ?_
                refine XS.iload X396.here hx rfl (hb hby at_162) rfl ?_
                show Steps p.tables e below (T396.setTop (mkF m 164 #[.val (.int p1), .val (.int p2), .val (.int p3), .val (.int p4), .val (.int p5), .val (.int 0), .val (.int 0), .val (.int 1), .val (.ref bx16), .val (.ref bx31), .val (.ref bx49), .val (.ref n1_317), .val (.int 1)] [(.int 1), (.int 1)])) _
                refine XS.icmpNo X396.here hx rfl (hb hby at_164) rfl (teq (by decide : (1 : Int32) = (1 : Int32))).2 ?_
                refine XS.aload X396.here hx rfl (hb hby at_167) rfl rfl ?_
                refine st398 _ ?_
                refine XS.iload X398.here hx rfl (hb hby at_172) rfl ?_
                show Steps p.tables e below (T398.setTop (mkF m 174 #[.val (.int p1), .val (.int p2), .val (.int p3), .val (.int p4), .val (.int p5), .val (.int 0), .val (.int 0), .val (.int 1), .val (.ref bx16), .val (.ref bx31), .val (.ref bx49), .val (.ref n1_317), .val (.int 1)] [(.int 0), (.int 0)])) _
                refine XS.icmpNo X398.here hx rfl (hb hby at_174) rfl (teq (by decide : (0 : Int32) = (0 : Int32))).2 ?_
                refine XS.aconstNull X398.here hx rfl (hb hby at_177) ?_
                show Steps p.tables e below (T398.setTop (mkF m 178 #[.val (.int p1), .val (.int p2), .val (.int p3), .val (.int p4), .val (.int p5), .val (.int 0), .val (.int 0), .val (.int 1), .val (.ref bx16), .val (.ref bx31), .val (.ref bx49), .val (.ref n1_317), .val (.int 1)] [.null])) _
                refine st400 _ ?_
                show Steps p.tables e below (T400.setTop (mkF m 181 #[.val (.int p1), .val (.int p2), .val (.int p3), .val (.int p4), .val (.int p5), .val (.int 0), .val (.int 0), .val (.int 1), .val (.ref bx16), .val (.ref bx31), .val (.ref bx49), .val (.ref n1_317), .val (.int 1)] [(.int 0)])) _
                refine XS.ifNo X400.here hx rfl (hb hby at_181) rfl ((if0 _ _).trans (teq (by decide : (0 : Int32) = (0 : Int32))).2) ?_
                refine XS.iconst X400.here hx rfl (hb hby at_184) ?_
                refine XS.goto X400.here hx rfl (pc0 := 185) (pc' := 189) rfl (hb hby at_185) (by decide) (by decide) ?_
                exact retN X400 hx (t := .boolean) Bd.returns (by simp) (hb hby at_189) hr
              · show Q0 Z p1 p2 p3 p4 p5 cz fmt h0 n0 _ T400.heap _
                rw [e400]
                exact ⟨rfl, N401⟩
            ·  -- en = 1
              -- pc 104: SubjectLines.add by rmad
              obtain ⟨cq402, kq402, q402a, q402b, q402c⟩ := isOf hZ rfl o63_0
              obtain ⟨_, _, ⟨T402, L402, ck402, cn402⟩, -, X402, ⟨Lc402, hQ402, l402, y402, z402⟩, st402⟩ := X63.virtualBack hx (y := (⟨KS, "add", "(Ljava/lang/String;IIIII)V"⟩ : MethodName)) (z := (⟨KS, "add", "(Ljava/lang/String;IIIII)V"⟩ : MethodName)) hown (mvT hZ (own_w hw (i := 151) rfl)) (mvT hZ (own_w hw (i := 152) rfl)) (notFace_of_selects (args := #[]) (mvT hZ (own_w hw (i := 154) rfl))) (mvT hZ (own_w hw (i := 154) rfl)) (mvT hZ (own_w hw (i := 153) rfl)) (by decide) (backOf (W := 0) (rmad l Z a0 hw [] bx49 bx31 ((p4 &&& (1073741823 : Int32)) + (1 : Int32)) p5 p1 p2 p3 n1_63 n2_63 n3_63 kn1_63 kn2_63 kn3_63 n1_36 kn1_36 b0 b1 (0 : Int32) (0 : Int32) cz fmt T63.heap n0 zs91 o63_0 o63_1 o63_2 o63_3 o63_4 f77 S_COMPACT_STRINGS hcz S_SIOOBE_FORMATTER hfmt f79 f80 f81 f84 f85 f82 f83 (Or.inr ⟨rfl, rfl⟩) (Arv.arh o63_5) (Arv.arh o63_6) (Arv.arh o63_7) o63_8 o63_9 g_bx49 g_bx31 gq63_0 gq63_1 gq63_2 (Ne.symm ne51) ne68 ne72 ne76 (Ne.symm ne52) ne66 ne70 ne74 ne39 (Ne.symm nq63_1_0) (Ne.symm nq63_2_0) (Ne.symm ne67) (Ne.symm nq63_2_1) (Ne.symm ne71) (Ne.symm ne75)) hZ (own_w hw (i := 155) rfl) (own_w hw (i := 32) rfl) (by decide) (by decide)) q402a q402c (g := (mkF m 104 #[.val (.int p1), .val (.int p2), .val (.int p3), .val (.int p4), .val (.int p5), .val (.int 0), .val (.int 1), .val (.int 1), .val (.ref bx16), .val (.ref bx31), .val (.ref bx49), .unset, .unset] [(.int p3), (.int p2), (.int p1), (.int p5), (.int ((p4 &&& (1073741823 : Int32)) + (1 : Int32))), (.ref bx31), (.ref bx49)])) rfl (by rw [hml]; rfl) (Steps.refl _) (argsL := [(.ref bx31), (.int ((p4 &&& (1073741823 : Int32)) + (1 : Int32))), (.int p5), (.int p1), (.int p2), (.int p3)]) (rest := []) (lenOf pd_814 rfl) rfl (by show 2 * 0 + _ ≤ _; exact Nat.le_of_eq rfl) (hb hby at_104) (fun _ _ => ⟨rfl, rfl, (by decide : 7 + 3 ≤ _), (by decide : 60 + 28 ≤ _)⟩)
              dsimp only [Pt.U, Pt.locs, Pt.cells, Pt.slots] at X402 l402 y402 z402 st402 hQ402
              subst y402 z402
              obtain ⟨n1_402, kn1_402, rfl, N402q, K402q, gq402_0, sq402_0, o402_0, o402_1, o402_2, o402_3, o402_4, o402_5, o402_6, o402_7, o402_8, o402_9, o402_10, o402_11, o402_12, o402_13, o402_14⟩ := hQ402
              have N403 : Fr n0 L402 := by rw [l402]; exact Fr.app N64 N402q
              have ne405 : bx31 ≠ n1_402 := Nat.ne_of_lt (Nat.lt_of_lt_of_le f79.lt sq402_0)
              have f411 := f77.keep K402q (allS g_bx49 (allS g_bx31 (allS gq63_0 (allS gq63_1 (allS gq63_2 all0)))))
              have f418 := f84.keep K402q (ninS ne52 (ninS (Ne.symm ne39) (ninS ne67 (ninS ne71 (ninS ne75 nin0)))))
              have f419 := f85.keep K402q
              have zs428 : n0 ≤ T402.heap.size := Nat.le_trans zs91 K402q.1
              -- pc 115: SubjectLines.setStatus by rmss01
              obtain ⟨cq429, kq429, q429a, q429b, q429c⟩ := isOf hZ rfl o402_0
              obtain ⟨_, _, ⟨T429, L429, ck429, cn429⟩, -, X429, ⟨Lc429, hQ429, l429, y429, z429⟩, st429⟩ := X402.virtualBack hx (y := (⟨KS, "setStatus", "(Ljava/lang/String;ZZ)V"⟩ : MethodName)) (z := (⟨KS, "setStatus", "(Ljava/lang/String;ZZ)V"⟩ : MethodName)) hown (mvT hZ (own_w hw (i := 48) rfl)) (mvT hZ (own_w hw (i := 49) rfl)) (notFace_of_selects (args := #[]) (mvT hZ (own_w hw (i := 51) rfl))) (mvT hZ (own_w hw (i := 51) rfl)) (mvT hZ (own_w hw (i := 50) rfl)) (by decide) (backOf (W := 0) (rmss01 l Z a0 hw [] bx49 bx31 T402.heap n0 zs428 ) hZ (own_w hw (i := 52) rfl) (own_w hw (i := 32) rfl) (by decide) (by decide)) q429a q429c (g := (mkF m 115 #[.val (.int p1), .val (.int p2), .val (.int p3), .val (.int p4), .val (.int p5), .val (.int 0), .val (.int 1), .val (.int 1), .val (.ref bx16), .val (.ref bx31), .val (.ref bx49), .unset, .unset] [(.int 1), (.int 0), (.ref bx31), (.ref bx49)])) rfl (by rw [hml]; rfl) (Steps.refl _) (argsL := [(.ref bx31), (.int 0), (.int 1)]) (rest := []) (lenOf pd_812 rfl) rfl (by show 2 * 0 + _ ≤ _; exact Nat.le_of_eq rfl) (hb hby at_115) (fun _ _ => ⟨rfl, rfl, (by decide : 10 + 0 ≤ _), (by decide : 88 + 0 ≤ _)⟩)
              dsimp only [Pt.U, Pt.locs, Pt.cells, Pt.slots] at X429 l429 y429 z429 st429 hQ429
              subst y429 z429
              obtain ⟨rfl, N429q, e429⟩ := hQ429
              have N430 : Fr n0 L429 := by rw [l429]; exact Fr.app N403 N429q
              -- pc 122: Interner$Key.of by rmko
              obtain ⟨_, _, ⟨T431, L431, ck431, cn431⟩, -, X431, ⟨Lc431, hQ431, l431, y431, z431⟩, st431⟩ := Jvm.LawKit.callS X429 hx (y := (⟨KK, "of", "(Ljava/lang/String;)Lcom/example/explicit_grants/explicitgrants/Interner$Key;"⟩ : MethodName)) hown (mvT hZ (own_w hw (i := 53) rfl)) (mvT hZ (own_w hw (i := 54) rfl)) (mvT hZ (own_w hw (i := 55) rfl)) (mvT hZ (own_w hw (i := 56) rfl)) (by decide) (backOf (W := 1) (rmko l Z a0 hw [] bx31 n1_36 kn1_36 b0 b1 (own_hc b0 b1) (fhc_hashIsZero b0 b1 (0 : Int32) (0 : Int32)) cz fmt T402.heap n0 zs428 f411 S_COMPACT_STRINGS hcz o402_5 o402_6 o402_7 f418 f419 o402_8 o402_9 (Or.inl rfl) g_bx31 ne39 S_SIOOBE_FORMATTER hfmt) hZ (own_w hw (i := 56) rfl) (own_w hw (i := 55) rfl) (by decide) (by decide)) (g := (mkF m 122 #[.val (.int p1), .val (.int p2), .val (.int p3), .val (.int p4), .val (.int p5), .val (.int 0), .val (.int 1), .val (.int 1), .val (.ref bx16), .val (.ref bx31), .val (.ref bx49), .unset, .unset] [(.ref bx31), (.ref bx49)])) rfl (by rw [hml]; rfl) (argsL := [(.ref bx31)]) (rest := [(.ref bx49)]) (lenOf pd_584 rfl) rfl (by show 2 * 0 + _ ≤ _; exact Nat.le_of_eq rfl) (hb hby at_122) (fun _ _ => ⟨rfl, e429, (by decide : 10 + 1 ≤ _), (by decide : 88 + 5 ≤ _)⟩)
              dsimp only [Pt.U, Pt.locs, Pt.cells, Pt.slots] at X431 l431 y431 z431 st431 hQ431
              subst y431 z431
              obtain ⟨n1_431, kn1_431, rfl, N431q, K431q, gq431_0, sq431_0, o431_0, o431_1, o431_2, o431_3, o431_4, o431_5, o431_6, o431_7, o431_8, o431_9⟩ := hQ431
              have N432 : Fr n0 L431 := by rw [l431]; exact Fr.app N430 N431q
              have f446 := o402_0.keep K431q
              have f447 := o402_1.keep K431q (ninS (Ne.symm ne51) nin0)
              have f448 := o402_2.keep K431q (ninS (Ne.symm ne51) nin0)
              have f449 := o402_3.keep K431q (ninS (Ne.symm ne51) nin0)
              have f455 := o402_10.keep K431q (ninS (Ne.symm ne66) nin0)
              have f456 := o402_11.keep K431q (ninS (Ne.symm ne70) nin0)
              have f458 := o402_13.keep K431q (ninS (Ne.symm ne405) nin0)
              have zs460 : n0 ≤ T431.heap.size := Nat.le_trans zs428 K431q.1
              -- pc 125: SubjectLines.of by rmofO
              obtain ⟨cq461, kq461, q461a, q461b, q461c⟩ := isOf hZ rfl f446
              obtain ⟨_, _, ⟨T461, L461, ck461, cn461⟩, -, X461, ⟨Lc461, hQ461, l461, y461, z461⟩, st461⟩ := X431.virtualBack hx (y := (⟨KS, "of", "(Lcom/example/explicit_grants/explicitgrants/Interner$Key;)[I"⟩ : MethodName)) (z := (⟨KS, "of", "(Lcom/example/explicit_grants/explicitgrants/Interner$Key;)[I"⟩ : MethodName)) hown (mvT hZ (own_w hw (i := 137) rfl)) (mvT hZ (own_w hw (i := 138) rfl)) (notFace_of_selects (args := #[]) (mvT hZ (own_w hw (i := 140) rfl))) (mvT hZ (own_w hw (i := 140) rfl)) (mvT hZ (own_w hw (i := 139) rfl)) (by decide) (backOf (W := 0) (rmofO l Z a0 hw [] bx49 n1_431 (own_hh b0 b1) (own_k1 b0 b1) n1_63 n2_63 n3_63 kn1_63 kn2_63 n1_402 kn1_402 (1 : Int32) (0 : Int32) ((p4 &&& (1073741823 : Int32)) + (1 : Int32)) p5 p1 p2 p3 (1 : Int32) (0 : Int32) (0 : Int32) (0 : Int32) (0 : Int32) (0 : Int32) (0 : Int32) T431.heap n0 zs460 f446 f447 f448 f449 o431_5 o431_6 o431_7 o431_8 o431_9 f455 f456 f458 (own_k1ne _ _)) hZ (own_w hw (i := 141) rfl) (own_w hw (i := 32) rfl) (by decide) (by decide)) q461a q461c (g := (mkF m 125 #[.val (.int p1), .val (.int p2), .val (.int p3), .val (.int p4), .val (.int p5), .val (.int 0), .val (.int 1), .val (.int 1), .val (.ref bx16), .val (.ref bx31), .val (.ref bx49), .unset, .unset] [(.ref n1_431), (.ref bx49)])) rfl (by rw [hml]; rfl) (Steps.refl _) (argsL := [(.ref n1_431)]) (rest := []) (lenOf pd_813 rfl) rfl (by show 2 * 0 + _ ≤ _; exact Nat.le_of_eq rfl) (hb hby at_125) (fun _ _ => ⟨rfl, rfl, (by decide : 11 + 0 ≤ _), (by decide : 93 + 0 ≤ _)⟩)
              dsimp only [Pt.U, Pt.locs, Pt.cells, Pt.slots] at X461 l461 y461 z461 st461 hQ461
              subst y461 z461
              obtain ⟨rfl, N461q, e461⟩ := hQ461
              have N462 : Fr n0 L461 := by rw [l461]; exact Fr.app N432 N461q
              -- pc 169: SubjectLines.isAdministrator by rmia0
              obtain ⟨_, _, ⟨T463, L463, ck463, cn463⟩, -, X463, ⟨Lc463, hQ463, l463, y463, z463⟩, st463⟩ := Jvm.LawKit.callS X461 hx (y := (⟨KS, "isAdministrator", "([I)Z"⟩ : MethodName)) hown (mvT hZ (own_w hw (i := 147) rfl)) (mvT hZ (own_w hw (i := 148) rfl)) (mvT hZ (own_w hw (i := 32) rfl)) (mvT hZ (own_w hw (i := 149) rfl)) (by decide) (backOf (W := 0) (rmia0 l Z a0 hw [] n1_402 kn1_402 (1 : Int32) ((own_k1 b0 b1).toInt32) ((((own_k1 b0 b1).toUInt64 >>> ((32 : Int32) &&& 0x3f).toInt64.toUInt64).toInt64).toInt32) (0 : Int32) (0 : Int32) (0 : Int32) (0 : Int32) ((p4 &&& (1073741823 : Int32)) + (1 : Int32)) p5 p1 p2 p3 (1 : Int32) (0 : Int32) (0 : Int32) (0 : Int32) (0 : Int32) (0 : Int32) (0 : Int32) T431.heap n0 zs460 f458) hZ (own_w hw (i := 149) rfl) (own_w hw (i := 32) rfl) (by decide) (by decide)) (g := (mkF m 169 #[.val (.int p1), .val (.int p2), .val (.int p3), .val (.int p4), .val (.int p5), .val (.int 0), .val (.int 1), .val (.int 1), .val (.ref bx16), .val (.ref bx31), .val (.ref bx49), .val (.ref n1_402), .val (.int 1)] [(.ref n1_402)])) rfl (by rw [hml]; rfl) (argsL := [(.ref n1_402)]) (rest := []) (lenOf pd_409 rfl) rfl (by show 2 * 0 + _ ≤ _; exact Nat.le_of_eq rfl) (hb hby at_169) (fun _ _ => ⟨rfl, e461, (by decide : 11 + 0 ≤ _), (by decide : 93 + 0 ≤ _)⟩)
              dsimp only [Pt.U, Pt.locs, Pt.cells, Pt.slots] at X463 l463 y463 z463 st463 hQ463
              subst y463 z463
              obtain ⟨rfl, N463q, e463⟩ := hQ463
              have N464 : Fr n0 L463 := by rw [l463]; exact Fr.app N462 N463q
              -- pc 178: SubjectLines.isAdministrator by rmiaN
              obtain ⟨_, _, ⟨T465, L465, ck465, cn465⟩, -, X465, ⟨Lc465, hQ465, l465, y465, z465⟩, st465⟩ := Jvm.LawKit.callS X463 hx (y := (⟨KS, "isAdministrator", "([I)Z"⟩ : MethodName)) hown (mvT hZ (own_w hw (i := 147) rfl)) (mvT hZ (own_w hw (i := 148) rfl)) (mvT hZ (own_w hw (i := 32) rfl)) (mvT hZ (own_w hw (i := 149) rfl)) (by decide) (backOf (W := 0) (rmiaN l Z a0 hw []  T431.heap n0 zs460 ) hZ (own_w hw (i := 149) rfl) (own_w hw (i := 32) rfl) (by decide) (by decide)) (g := (mkF m 178 #[.val (.int p1), .val (.int p2), .val (.int p3), .val (.int p4), .val (.int p5), .val (.int 0), .val (.int 1), .val (.int 1), .val (.ref bx16), .val (.ref bx31), .val (.ref bx49), .val (.ref n1_402), .val (.int 1)] [.null])) rfl (by rw [hml]; rfl) (argsL := [.null]) (rest := []) (lenOf pd_409 rfl) rfl (by show 2 * 0 + _ ≤ _; exact Nat.le_of_eq rfl) (hb hby at_178) (fun _ _ => ⟨rfl, e463, (by decide : 11 + 0 ≤ _), (by decide : 93 + 0 ≤ _)⟩)
              dsimp only [Pt.U, Pt.locs, Pt.cells, Pt.slots] at X465 l465 y465 z465 st465 hQ465
              subst y465 z465
              obtain ⟨rfl, N465q, e465⟩ := hQ465
              have N466 : Fr n0 L465 := by rw [l465]; exact Fr.app N464 N465q
              obtain ⟨fs, hr, hrun, hended, hW, hsame⟩ := X465.leave (v := some (.int 1)) (fun h => by rw [Bd.returns] at h; cases h) Bd.notSynchronized
              refine ⟨_, _, pre92 _ ?_, hrun, hended, _, _, rfl, ?_, ⟨_, rfl⟩, hW, hsame.mono (by decide) (by decide)⟩
              · show Steps p.tables e below (T63.setTop (mkF m 84 #[.val (.int p1), .val (.int p2), .val (.int p3), .val (.int p4), .val (.int p5), .val (.int 0), .val (.int 1), .val (.int 1), .val (.ref bx16), .val (.ref bx31), .val (.ref bx49), .unset, .unset] [])) _
                refine XS.iload X63.here hx rfl (hb hby at_84) rfl ?_
                show Steps p.tables e below (T63.setTop (mkF m 86 #[.val (.int p1), .val (.int p2), .val (.int p3), .val (.int p4), .val (.int p5), .val (.int 0), .val (.int 1), .val (.int 1), .val (.ref bx16), .val (.ref bx31), .val (.ref bx49), .unset, .unset] [(.int 1)])) _
                refine XS.ifNo X63.here hx rfl (hb hby at_86) rfl ((if0 _ _).trans (feq (by decide : ¬ ((1 : Int32) = (0 : Int32)))).1) ?_
                refine XS.aload X63.here hx rfl (hb hby at_89) rfl rfl ?_
                refine XS.aload X63.here hx rfl (hb hby at_91) rfl rfl ?_
                refine XS.iloadN X63.here hx rfl (hb hby at_93) rfl ?_
                refine X63.ldcInt hx hown (mvT hZ (own_w hw (i := 150) rfl)) (g := (mkF m 94 #[.val (.int p1), .val (.int p2), .val (.int p3), .val (.int p4), .val (.int p5), .val (.int 0), .val (.int 1), .val (.int 1), .val (.ref bx16), .val (.ref bx31), .val (.ref bx49), .unset, .unset] [(.int p4), (.ref bx31), (.ref bx49)])) rfl (hb hby at_94) _ ?_
                refine XS.iand X63.here hx rfl (hb hby at_96) rfl ?_
                refine XS.iconst X63.here hx rfl (hb hby at_97) ?_
                show Steps p.tables e below (T63.setTop (mkF m 98 #[.val (.int p1), .val (.int p2), .val (.int p3), .val (.int p4), .val (.int p5), .val (.int 0), .val (.int 1), .val (.int 1), .val (.ref bx16), .val (.ref bx31), .val (.ref bx49), .unset, .unset] [(.int 1), (.int (p4 &&& (1073741823 : Int32))), (.ref bx31), (.ref bx49)])) _
                refine XS.iadd X63.here hx rfl (hb hby at_98) rfl ?_
                refine XS.iload X63.here hx rfl (hb hby at_99) rfl ?_
                refine XS.iloadN X63.here hx rfl (hb hby at_101) rfl ?_
                refine XS.iloadN X63.here hx rfl (hb hby at_102) rfl ?_
                refine XS.iloadN X63.here hx rfl (hb hby at_103) rfl ?_
                refine st402.trans ?_
                refine XS.aload X402.here hx rfl (hb hby at_107) rfl rfl ?_
                refine XS.aload X402.here hx rfl (hb hby at_109) rfl rfl ?_
                show Steps p.tables e below (T402.setTop (mkF m 111 #[.val (.int p1), .val (.int p2), .val (.int p3), .val (.int p4), .val (.int p5), .val (.int 0), .val (.int 1), .val (.int 1), .val (.ref bx16), .val (.ref bx31), .val (.ref bx49), .unset, .unset] [(.ref bx31), (.ref bx49)])) _
                refine XS.iload X402.here hx rfl (hb hby at_111) rfl ?_
                refine XS.iload X402.here hx rfl (hb hby at_113) rfl ?_
                refine st429.trans ?_
                refine XS.aload X429.here hx rfl (hb hby at_118) rfl rfl ?_
                refine XS.aload X429.here hx rfl (hb hby at_120) rfl rfl ?_
                refine st431 _ ?_
                refine st461.trans ?_
                refine XS.astore X461.here hx rfl (hb hby at_128) rfl rfl (l' := #[.val (.int p1), .val (.int p2), .val (.int p3), .val (.int p4), .val (.int p5), .val (.int 0), .val (.int 1), .val (.int 1), .val (.ref bx16), .val (.ref bx31), .val (.ref bx49), .val (.ref n1_402), .unset]) rfl ?_
                show Steps p.tables e below (T461.setTop (mkF m 130 #[.val (.int p1), .val (.int p2), .val (.int p3), .val (.int p4), .val (.int p5), .val (.int 0), .val (.int 1), .val (.int 1), .val (.ref bx16), .val (.ref bx31), .val (.ref bx49), .val (.ref n1_402), .unset] [])) _
                refine XS.iload X461.here hx rfl (hb hby at_130) rfl ?_
                show Steps p.tables e below (T461.setTop (mkF m 132 #[.val (.int p1), .val (.int p2), .val (.int p3), .val (.int p4), .val (.int p5), .val (.int 0), .val (.int 1), .val (.int 1), .val (.ref bx16), .val (.ref bx31), .val (.ref bx49), .val (.ref n1_402), .unset] [(.int 1)])) _
                refine XS.ifYes X461.here hx rfl (pc0 := 132) (pc' := 145) rfl (hb hby at_132) rfl ((if0 _ _).trans (feq (by decide : ¬ ((1 : Int32) = (0 : Int32)))).2) (by decide) (by decide) ?_
                refine XS.iconst X461.here hx rfl (hb hby at_145) ?_
                refine XS.goto X461.here hx rfl (pc0 := 146) (pc' := 150) rfl (hb hby at_146) (by decide) (by decide) ?_
                refine XS.istore X461.here hx rfl (hb hby at_150) rfl (l' := #[.val (.int p1), .val (.int p2), .val (.int p3), .val (.int p4), .val (.int p5), .val (.int 0), .val (.int 1), .val (.int 1), .val (.ref bx16), .val (.ref bx31), .val (.ref bx49), .val (.ref n1_402), .val (.int 1)]) rfl ?_
                refine XS.aload X461.here hx rfl (hb hby at_152) rfl rfl ?_
                refine XS.ifnullNo X461.here hx rfl (hb hby at_154) rfl ?_
                refine XS.iconst X461.here hx rfl (hb hby at_157) ?_
                show Steps p.tables e below (T461.setTop (mkF m 158 #[.val (.int p1), .val (.int p2), .val (.int p3), .val (.int p4), .val (.int p5), .val (.int 0), .val (.int 1), .val (.int 1), .val (.ref bx16), .val (.ref bx31), .val (.ref bx49), .val (.ref n1_402), .val (.int 1)] [(.int 1)])) _
                refine XS.goto X461.here hx rfl (pc0 := 158) (pc' := 162) rfl (hb hby at_158) (by decide) (by decide) ?_
                refine XS.iload X461.here hx rfl (hb hby at_162) rfl ?_
                show Steps p.tables e below (T461.setTop (mkF m 164 #[.val (.int p1), .val (.int p2), .val (.int p3), .val (.int p4), .val (.int p5), .val (.int 0), .val (.int 1), .val (.int 1), .val (.ref bx16), .val (.ref bx31), .val (.ref bx49), .val (.ref n1_402), .val (.int 1)] [(.int 1), (.int 1)])) _
                refine XS.icmpNo X461.here hx rfl (hb hby at_164) rfl (teq (by decide : (1 : Int32) = (1 : Int32))).2 ?_
                refine XS.aload X461.here hx rfl (hb hby at_167) rfl rfl ?_
                refine st463 _ ?_
                refine XS.iload X463.here hx rfl (hb hby at_172) rfl ?_
                show Steps p.tables e below (T463.setTop (mkF m 174 #[.val (.int p1), .val (.int p2), .val (.int p3), .val (.int p4), .val (.int p5), .val (.int 0), .val (.int 1), .val (.int 1), .val (.ref bx16), .val (.ref bx31), .val (.ref bx49), .val (.ref n1_402), .val (.int 1)] [(.int 0), (.int 0)])) _
                refine XS.icmpNo X463.here hx rfl (hb hby at_174) rfl (teq (by decide : (0 : Int32) = (0 : Int32))).2 ?_
                refine XS.aconstNull X463.here hx rfl (hb hby at_177) ?_
                show Steps p.tables e below (T463.setTop (mkF m 178 #[.val (.int p1), .val (.int p2), .val (.int p3), .val (.int p4), .val (.int p5), .val (.int 0), .val (.int 1), .val (.int 1), .val (.ref bx16), .val (.ref bx31), .val (.ref bx49), .val (.ref n1_402), .val (.int 1)] [.null])) _
                refine st465 _ ?_
                show Steps p.tables e below (T465.setTop (mkF m 181 #[.val (.int p1), .val (.int p2), .val (.int p3), .val (.int p4), .val (.int p5), .val (.int 0), .val (.int 1), .val (.int 1), .val (.ref bx16), .val (.ref bx31), .val (.ref bx49), .val (.ref n1_402), .val (.int 1)] [(.int 0)])) _
                refine XS.ifNo X465.here hx rfl (hb hby at_181) rfl ((if0 _ _).trans (teq (by decide : (0 : Int32) = (0 : Int32))).2) ?_
                refine XS.iconst X465.here hx rfl (hb hby at_184) ?_
                refine XS.goto X465.here hx rfl (pc0 := 185) (pc' := 189) rfl (hb hby at_185) (by decide) (by decide) ?_
                exact retN X465 hx (t := .boolean) Bd.returns (by simp) (hb hby at_189) hr
              · show Q0 Z p1 p2 p3 p4 p5 cz fmt h0 n0 _ T465.heap _
                rw [e465]
                exact ⟨rfl, N466⟩
          ·  -- ad = 1
            rcases hen with rfl | rfl
            ·  -- en = 0
              -- pc 104: SubjectLines.add by rmad
              obtain ⟨cq467, kq467, q467a, q467b, q467c⟩ := isOf hZ rfl o63_0
              obtain ⟨_, _, ⟨T467, L467, ck467, cn467⟩, -, X467, ⟨Lc467, hQ467, l467, y467, z467⟩, st467⟩ := X63.virtualBack hx (y := (⟨KS, "add", "(Ljava/lang/String;IIIII)V"⟩ : MethodName)) (z := (⟨KS, "add", "(Ljava/lang/String;IIIII)V"⟩ : MethodName)) hown (mvT hZ (own_w hw (i := 151) rfl)) (mvT hZ (own_w hw (i := 152) rfl)) (notFace_of_selects (args := #[]) (mvT hZ (own_w hw (i := 154) rfl))) (mvT hZ (own_w hw (i := 154) rfl)) (mvT hZ (own_w hw (i := 153) rfl)) (by decide) (backOf (W := 0) (rmad l Z a0 hw [] bx49 bx31 ((p4 &&& (1073741823 : Int32)) + (1 : Int32)) p5 p1 p2 p3 n1_63 n2_63 n3_63 kn1_63 kn2_63 kn3_63 n1_36 kn1_36 b0 b1 (0 : Int32) (0 : Int32) cz fmt T63.heap n0 zs91 o63_0 o63_1 o63_2 o63_3 o63_4 f77 S_COMPACT_STRINGS hcz S_SIOOBE_FORMATTER hfmt f79 f80 f81 f84 f85 f82 f83 (Or.inr ⟨rfl, rfl⟩) (Arv.arh o63_5) (Arv.arh o63_6) (Arv.arh o63_7) o63_8 o63_9 g_bx49 g_bx31 gq63_0 gq63_1 gq63_2 (Ne.symm ne51) ne68 ne72 ne76 (Ne.symm ne52) ne66 ne70 ne74 ne39 (Ne.symm nq63_1_0) (Ne.symm nq63_2_0) (Ne.symm ne67) (Ne.symm nq63_2_1) (Ne.symm ne71) (Ne.symm ne75)) hZ (own_w hw (i := 155) rfl) (own_w hw (i := 32) rfl) (by decide) (by decide)) q467a q467c (g := (mkF m 104 #[.val (.int p1), .val (.int p2), .val (.int p3), .val (.int p4), .val (.int p5), .val (.int 1), .val (.int 0), .val (.int 1), .val (.ref bx16), .val (.ref bx31), .val (.ref bx49), .unset, .unset] [(.int p3), (.int p2), (.int p1), (.int p5), (.int ((p4 &&& (1073741823 : Int32)) + (1 : Int32))), (.ref bx31), (.ref bx49)])) rfl (by rw [hml]; rfl) (Steps.refl _) (argsL := [(.ref bx31), (.int ((p4 &&& (1073741823 : Int32)) + (1 : Int32))), (.int p5), (.int p1), (.int p2), (.int p3)]) (rest := []) (lenOf pd_814 rfl) rfl (by show 2 * 0 + _ ≤ _; exact Nat.le_of_eq rfl) (hb hby at_104) (fun _ _ => ⟨rfl, rfl, (by decide : 7 + 3 ≤ _), (by decide : 60 + 28 ≤ _)⟩)
              dsimp only [Pt.U, Pt.locs, Pt.cells, Pt.slots] at X467 l467 y467 z467 st467 hQ467
              subst y467 z467
              obtain ⟨n1_467, kn1_467, rfl, N467q, K467q, gq467_0, sq467_0, o467_0, o467_1, o467_2, o467_3, o467_4, o467_5, o467_6, o467_7, o467_8, o467_9, o467_10, o467_11, o467_12, o467_13, o467_14⟩ := hQ467
              have N468 : Fr n0 L467 := by rw [l467]; exact Fr.app N64 N467q
              have ne470 : bx31 ≠ n1_467 := Nat.ne_of_lt (Nat.lt_of_lt_of_le f79.lt sq467_0)
              have ne471 : n1_36 ≠ n1_467 := Nat.ne_of_lt (Nat.lt_of_lt_of_le f84.lt sq467_0)
              have ne472 : bx49 ≠ n1_467 := Nat.ne_of_lt (Nat.lt_of_lt_of_le o63_0.lt sq467_0)
              have ne473 : n1_63 ≠ n1_467 := Nat.ne_of_lt (Nat.lt_of_lt_of_le o63_5.lt sq467_0)
              have ne474 : n2_63 ≠ n1_467 := Nat.ne_of_lt (Nat.lt_of_lt_of_le o63_6.lt sq467_0)
              have f476 := f77.keep K467q (allS g_bx49 (allS g_bx31 (allS gq63_0 (allS gq63_1 (allS gq63_2 all0)))))
              have f483 := f84.keep K467q (ninS ne52 (ninS (Ne.symm ne39) (ninS ne67 (ninS ne71 (ninS ne75 nin0)))))
              have f484 := f85.keep K467q
              have zs493 : n0 ≤ T467.heap.size := Nat.le_trans zs91 K467q.1
              -- pc 115: SubjectLines.setStatus by rmsO10
              obtain ⟨cq494, kq494, q494a, q494b, q494c⟩ := isOf hZ rfl o467_0
              obtain ⟨_, _, ⟨T494, L494, ck494, cn494⟩, -, X494, ⟨Lc494, hQ494, l494, y494, z494⟩, st494⟩ := X467.virtualBack hx (y := (⟨KS, "setStatus", "(Ljava/lang/String;ZZ)V"⟩ : MethodName)) (z := (⟨KS, "setStatus", "(Ljava/lang/String;ZZ)V"⟩ : MethodName)) hown (mvT hZ (own_w hw (i := 48) rfl)) (mvT hZ (own_w hw (i := 49) rfl)) (notFace_of_selects (args := #[]) (mvT hZ (own_w hw (i := 51) rfl))) (mvT hZ (own_w hw (i := 51) rfl)) (mvT hZ (own_w hw (i := 50) rfl)) (by decide) (backOf (W := 0) (rmsO10 l Z a0 hw [] bx49 bx31 n1_63 n2_63 n3_63 kn1_63 kn2_63 n1_36 kn1_36 b0 b1 (own_hc b0 b1) (fhc_hashIsZero b0 b1 (0 : Int32) (0 : Int32)) cz fmt n1_467 kn1_467 (1 : Int32) (0 : Int32) ((p4 &&& (1073741823 : Int32)) + (1 : Int32)) p5 p1 p2 p3 (1 : Int32) (0 : Int32) (0 : Int32) (0 : Int32) (0 : Int32) (0 : Int32) (0 : Int32) T467.heap n0 zs493 o467_0 o467_1 o467_2 o467_3 f476 S_COMPACT_STRINGS hcz S_SIOOBE_FORMATTER hfmt o467_5 o467_6 o467_7 f483 f484 o467_8 o467_9 (Or.inl rfl) o467_10 o467_11 o467_13 g_bx31 ne51 ne66 ne70 ne39 ne470 gq467_0 (Ne.symm ne472) (Ne.symm ne473) (Ne.symm ne474) (Ne.symm ne471)) hZ (own_w hw (i := 52) rfl) (own_w hw (i := 32) rfl) (by decide) (by decide)) q494a q494c (g := (mkF m 115 #[.val (.int p1), .val (.int p2), .val (.int p3), .val (.int p4), .val (.int p5), .val (.int 1), .val (.int 0), .val (.int 1), .val (.ref bx16), .val (.ref bx31), .val (.ref bx49), .unset, .unset] [(.int 0), (.int 1), (.ref bx31), (.ref bx49)])) rfl (by rw [hml]; rfl) (Steps.refl _) (argsL := [(.ref bx31), (.int 1), (.int 0)]) (rest := []) (lenOf pd_812 rfl) rfl (by show 2 * 0 + _ ≤ _; exact Nat.le_of_eq rfl) (hb hby at_115) (fun _ _ => ⟨rfl, rfl, (by decide : 10 + 1 ≤ _), (by decide : 88 + 5 ≤ _)⟩)
              dsimp only [Pt.U, Pt.locs, Pt.cells, Pt.slots] at X494 l494 y494 z494 st494 hQ494
              subst y494 z494
              obtain ⟨rfl, N494q, K494q, o494_0, o494_1, o494_2, o494_3, o494_4, o494_5⟩ := hQ494
              have N495 : Fr n0 L494 := by rw [l494]; exact Fr.app N468 N494q
              have f496 := f476.keep K494q (allS g_bx31 (allS gq467_0 all0))
              have f499 := f483.keep K494q (ninS (Ne.symm ne39) (ninS ne471 nin0))
              have f500 := f484.keep K494q
              have f501 := o467_0.keep K494q
              have f502 := o467_1.keep K494q (ninS (Ne.symm ne51) (ninS ne472 nin0))
              have f503 := o467_2.keep K494q (ninS (Ne.symm ne51) (ninS ne472 nin0))
              have f504 := o467_3.keep K494q (ninS (Ne.symm ne51) (ninS ne472 nin0))
              have f510 := o467_10.keep K494q (ninS (Ne.symm ne66) (ninS ne473 nin0))
              have f511 := o467_11.keep K494q (ninS (Ne.symm ne70) (ninS ne474 nin0))
              have zs515 : n0 ≤ T494.heap.size := Nat.le_trans zs493 K494q.1
              -- pc 122: Interner$Key.of by rmko
              obtain ⟨_, _, ⟨T516, L516, ck516, cn516⟩, -, X516, ⟨Lc516, hQ516, l516, y516, z516⟩, st516⟩ := Jvm.LawKit.callS X494 hx (y := (⟨KK, "of", "(Ljava/lang/String;)Lcom/example/explicit_grants/explicitgrants/Interner$Key;"⟩ : MethodName)) hown (mvT hZ (own_w hw (i := 53) rfl)) (mvT hZ (own_w hw (i := 54) rfl)) (mvT hZ (own_w hw (i := 55) rfl)) (mvT hZ (own_w hw (i := 56) rfl)) (by decide) (backOf (W := 1) (rmko l Z a0 hw [] bx31 n1_36 kn1_36 b0 b1 (own_hc b0 b1) (fhc_hashIsZero b0 b1 (own_hc b0 b1) (fhc_hashIsZero b0 b1 (0 : Int32) (0 : Int32))) cz fmt T494.heap n0 zs515 f496 S_COMPACT_STRINGS hcz o494_0 o494_1 o494_2 f499 f500 o494_3 o494_4 (Or.inl rfl) g_bx31 ne39 S_SIOOBE_FORMATTER hfmt) hZ (own_w hw (i := 56) rfl) (own_w hw (i := 55) rfl) (by decide) (by decide)) (g := (mkF m 122 #[.val (.int p1), .val (.int p2), .val (.int p3), .val (.int p4), .val (.int p5), .val (.int 1), .val (.int 0), .val (.int 1), .val (.ref bx16), .val (.ref bx31), .val (.ref bx49), .unset, .unset] [(.ref bx31), (.ref bx49)])) rfl (by rw [hml]; rfl) (argsL := [(.ref bx31)]) (rest := [(.ref bx49)]) (lenOf pd_584 rfl) rfl (by show 2 * 0 + _ ≤ _; exact Nat.le_of_eq rfl) (hb hby at_122) (fun _ _ => ⟨rfl, rfl, (by decide : 11 + 1 ≤ _), (by decide : 93 + 5 ≤ _)⟩)
              dsimp only [Pt.U, Pt.locs, Pt.cells, Pt.slots] at X516 l516 y516 z516 st516 hQ516
              subst y516 z516
              obtain ⟨n1_516, kn1_516, rfl, N516q, K516q, gq516_0, sq516_0, o516_0, o516_1, o516_2, o516_3, o516_4, o516_5, o516_6, o516_7, o516_8, o516_9⟩ := hQ516
              have N517 : Fr n0 L516 := by rw [l516]; exact Fr.app N495 N516q
              have f531 := f501.keep K516q
              have f532 := f502.keep K516q (ninS (Ne.symm ne51) nin0)
              have f533 := f503.keep K516q (ninS (Ne.symm ne51) nin0)
              have f534 := f504.keep K516q (ninS (Ne.symm ne51) nin0)
              have f536 := f510.keep K516q (ninS (Ne.symm ne66) nin0)
              have f537 := f511.keep K516q (ninS (Ne.symm ne70) nin0)
              have f544 := o494_5.keep K516q (ninS (Ne.symm ne470) nin0)
              have zs545 : n0 ≤ T516.heap.size := Nat.le_trans zs515 K516q.1
              -- pc 125: SubjectLines.of by rmofO
              obtain ⟨cq546, kq546, q546a, q546b, q546c⟩ := isOf hZ rfl f531
              obtain ⟨_, _, ⟨T546, L546, ck546, cn546⟩, -, X546, ⟨Lc546, hQ546, l546, y546, z546⟩, st546⟩ := X516.virtualBack hx (y := (⟨KS, "of", "(Lcom/example/explicit_grants/explicitgrants/Interner$Key;)[I"⟩ : MethodName)) (z := (⟨KS, "of", "(Lcom/example/explicit_grants/explicitgrants/Interner$Key;)[I"⟩ : MethodName)) hown (mvT hZ (own_w hw (i := 137) rfl)) (mvT hZ (own_w hw (i := 138) rfl)) (notFace_of_selects (args := #[]) (mvT hZ (own_w hw (i := 140) rfl))) (mvT hZ (own_w hw (i := 140) rfl)) (mvT hZ (own_w hw (i := 139) rfl)) (by decide) (backOf (W := 0) (rmofO l Z a0 hw [] bx49 n1_516 (own_hh b0 b1) (own_k1 b0 b1) n1_63 n2_63 n3_63 kn1_63 kn2_63 n1_467 kn1_467 (1 : Int32) (3 : Int32) ((p4 &&& (1073741823 : Int32)) + (1 : Int32)) p5 p1 p2 p3 (1 : Int32) (0 : Int32) (0 : Int32) (0 : Int32) (0 : Int32) (0 : Int32) (0 : Int32) T516.heap n0 zs545 f531 f532 f533 f534 o516_5 o516_6 o516_7 o516_8 o516_9 f536 f537 f544 (own_k1ne _ _)) hZ (own_w hw (i := 141) rfl) (own_w hw (i := 32) rfl) (by decide) (by decide)) q546a q546c (g := (mkF m 125 #[.val (.int p1), .val (.int p2), .val (.int p3), .val (.int p4), .val (.int p5), .val (.int 1), .val (.int 0), .val (.int 1), .val (.ref bx16), .val (.ref bx31), .val (.ref bx49), .unset, .unset] [(.ref n1_516), (.ref bx49)])) rfl (by rw [hml]; rfl) (Steps.refl _) (argsL := [(.ref n1_516)]) (rest := []) (lenOf pd_813 rfl) rfl (by show 2 * 0 + _ ≤ _; exact Nat.le_of_eq rfl) (hb hby at_125) (fun _ _ => ⟨rfl, rfl, (by decide : 12 + 0 ≤ _), (by decide : 98 + 0 ≤ _)⟩)
              dsimp only [Pt.U, Pt.locs, Pt.cells, Pt.slots] at X546 l546 y546 z546 st546 hQ546
              subst y546 z546
              obtain ⟨rfl, N546q, e546⟩ := hQ546
              have N547 : Fr n0 L546 := by rw [l546]; exact Fr.app N517 N546q
              -- pc 169: SubjectLines.isAdministrator by rmia3
              obtain ⟨_, _, ⟨T548, L548, ck548, cn548⟩, -, X548, ⟨Lc548, hQ548, l548, y548, z548⟩, st548⟩ := Jvm.LawKit.callS X546 hx (y := (⟨KS, "isAdministrator", "([I)Z"⟩ : MethodName)) hown (mvT hZ (own_w hw (i := 147) rfl)) (mvT hZ (own_w hw (i := 148) rfl)) (mvT hZ (own_w hw (i := 32) rfl)) (mvT hZ (own_w hw (i := 149) rfl)) (by decide) (backOf (W := 0) (rmia3 l Z a0 hw [] n1_467 kn1_467 (1 : Int32) ((own_k1 b0 b1).toInt32) ((((own_k1 b0 b1).toUInt64 >>> ((32 : Int32) &&& 0x3f).toInt64.toUInt64).toInt64).toInt32) (0 : Int32) (0 : Int32) (0 : Int32) (0 : Int32) ((p4 &&& (1073741823 : Int32)) + (1 : Int32)) p5 p1 p2 p3 (1 : Int32) (0 : Int32) (0 : Int32) (0 : Int32) (0 : Int32) (0 : Int32) (0 : Int32) T516.heap n0 zs545 f544) hZ (own_w hw (i := 149) rfl) (own_w hw (i := 32) rfl) (by decide) (by decide)) (g := (mkF m 169 #[.val (.int p1), .val (.int p2), .val (.int p3), .val (.int p4), .val (.int p5), .val (.int 1), .val (.int 0), .val (.int 1), .val (.ref bx16), .val (.ref bx31), .val (.ref bx49), .val (.ref n1_467), .val (.int 1)] [(.ref n1_467)])) rfl (by rw [hml]; rfl) (argsL := [(.ref n1_467)]) (rest := []) (lenOf pd_409 rfl) rfl (by show 2 * 0 + _ ≤ _; exact Nat.le_of_eq rfl) (hb hby at_169) (fun _ _ => ⟨rfl, e546, (by decide : 12 + 0 ≤ _), (by decide : 98 + 0 ≤ _)⟩)
              dsimp only [Pt.U, Pt.locs, Pt.cells, Pt.slots] at X548 l548 y548 z548 st548 hQ548
              subst y548 z548
              obtain ⟨rfl, N548q, e548⟩ := hQ548
              have N549 : Fr n0 L548 := by rw [l548]; exact Fr.app N547 N548q
              -- pc 178: SubjectLines.isAdministrator by rmiaN
              obtain ⟨_, _, ⟨T550, L550, ck550, cn550⟩, -, X550, ⟨Lc550, hQ550, l550, y550, z550⟩, st550⟩ := Jvm.LawKit.callS X548 hx (y := (⟨KS, "isAdministrator", "([I)Z"⟩ : MethodName)) hown (mvT hZ (own_w hw (i := 147) rfl)) (mvT hZ (own_w hw (i := 148) rfl)) (mvT hZ (own_w hw (i := 32) rfl)) (mvT hZ (own_w hw (i := 149) rfl)) (by decide) (backOf (W := 0) (rmiaN l Z a0 hw []  T516.heap n0 zs545 ) hZ (own_w hw (i := 149) rfl) (own_w hw (i := 32) rfl) (by decide) (by decide)) (g := (mkF m 178 #[.val (.int p1), .val (.int p2), .val (.int p3), .val (.int p4), .val (.int p5), .val (.int 1), .val (.int 0), .val (.int 1), .val (.ref bx16), .val (.ref bx31), .val (.ref bx49), .val (.ref n1_467), .val (.int 1)] [.null])) rfl (by rw [hml]; rfl) (argsL := [.null]) (rest := []) (lenOf pd_409 rfl) rfl (by show 2 * 0 + _ ≤ _; exact Nat.le_of_eq rfl) (hb hby at_178) (fun _ _ => ⟨rfl, e548, (by decide : 12 + 0 ≤ _), (by decide : 98 + 0 ≤ _)⟩)
              dsimp only [Pt.U, Pt.locs, Pt.cells, Pt.slots] at X550 l550 y550 z550 st550 hQ550
              subst y550 z550
              obtain ⟨rfl, N550q, e550⟩ := hQ550
              have N551 : Fr n0 L550 := by rw [l550]; exact Fr.app N549 N550q
              obtain ⟨fs, hr, hrun, hended, hW, hsame⟩ := X550.leave (v := some (.int 1)) (fun h => by rw [Bd.returns] at h; cases h) Bd.notSynchronized
              refine ⟨_, _, pre92 _ ?_, hrun, hended, _, _, rfl, ?_, ⟨_, rfl⟩, hW, hsame.mono (by decide) (by decide)⟩
              · show Steps p.tables e below (T63.setTop (mkF m 84 #[.val (.int p1), .val (.int p2), .val (.int p3), .val (.int p4), .val (.int p5), .val (.int 1), .val (.int 0), .val (.int 1), .val (.ref bx16), .val (.ref bx31), .val (.ref bx49), .unset, .unset] [])) _
                refine XS.iload X63.here hx rfl (hb hby at_84) rfl ?_
                show Steps p.tables e below (T63.setTop (mkF m 86 #[.val (.int p1), .val (.int p2), .val (.int p3), .val (.int p4), .val (.int p5), .val (.int 1), .val (.int 0), .val (.int 1), .val (.ref bx16), .val (.ref bx31), .val (.ref bx49), .unset, .unset] [(.int 1)])) _
                refine XS.ifNo X63.here hx rfl (hb hby at_86) rfl ((if0 _ _).trans (feq (by decide : ¬ ((1 : Int32) = (0 : Int32)))).1) ?_
                refine XS.aload X63.here hx rfl (hb hby at_89) rfl rfl ?_
                refine XS.aload X63.here hx rfl (hb hby at_91) rfl rfl ?_
                refine XS.iloadN X63.here hx rfl (hb hby at_93) rfl ?_
                refine X63.ldcInt hx hown (mvT hZ (own_w hw (i := 150) rfl)) (g := (mkF m 94 #[.val (.int p1), .val (.int p2), .val (.int p3), .val (.int p4), .val (.int p5), .val (.int 1), .val (.int 0), .val (.int 1), .val (.ref bx16), .val (.ref bx31), .val (.ref bx49), .unset, .unset] [(.int p4), (.ref bx31), (.ref bx49)])) rfl (hb hby at_94) _ ?_
                refine XS.iand X63.here hx rfl (hb hby at_96) rfl ?_
                refine XS.iconst X63.here hx rfl (hb hby at_97) ?_
                show Steps p.tables e below (T63.setTop (mkF m 98 #[.val (.int p1), .val (.int p2), .val (.int p3), .val (.int p4), .val (.int p5), .val (.int 1), .val (.int 0), .val (.int 1), .val (.ref bx16), .val (.ref bx31), .val (.ref bx49), .unset, .unset] [(.int 1), (.int (p4 &&& (1073741823 : Int32))), (.ref bx31), (.ref bx49)])) _
                refine XS.iadd X63.here hx rfl (hb hby at_98) rfl ?_
                refine XS.iload X63.here hx rfl (hb hby at_99) rfl ?_
                refine XS.iloadN X63.here hx rfl (hb hby at_101) rfl ?_
                refine XS.iloadN X63.here hx rfl (hb hby at_102) rfl ?_
                refine XS.iloadN X63.here hx rfl (hb hby at_103) rfl ?_
                refine st467.trans ?_
                refine XS.aload X467.here hx rfl (hb hby at_107) rfl rfl ?_
                refine XS.aload X467.here hx rfl (hb hby at_109) rfl rfl ?_
                show Steps p.tables e below (T467.setTop (mkF m 111 #[.val (.int p1), .val (.int p2), .val (.int p3), .val (.int p4), .val (.int p5), .val (.int 1), .val (.int 0), .val (.int 1), .val (.ref bx16), .val (.ref bx31), .val (.ref bx49), .unset, .unset] [(.ref bx31), (.ref bx49)])) _
                refine XS.iload X467.here hx rfl (hb hby at_111) rfl ?_
                refine XS.iload X467.here hx rfl (hb hby at_113) rfl ?_
                refine st494.trans ?_
                refine XS.aload X494.here hx rfl (hb hby at_118) rfl rfl ?_
                refine XS.aload X494.here hx rfl (hb hby at_120) rfl rfl ?_
                refine st516 _ ?_
                refine st546.trans ?_
                refine XS.astore X546.here hx rfl (hb hby at_128) rfl rfl (l' := #[.val (.int p1), .val (.int p2), .val (.int p3), .val (.int p4), .val (.int p5), .val (.int 1), .val (.int 0), .val (.int 1), .val (.ref bx16), .val (.ref bx31), .val (.ref bx49), .val (.ref n1_467), .unset]) rfl ?_
                show Steps p.tables e below (T546.setTop (mkF m 130 #[.val (.int p1), .val (.int p2), .val (.int p3), .val (.int p4), .val (.int p5), .val (.int 1), .val (.int 0), .val (.int 1), .val (.ref bx16), .val (.ref bx31), .val (.ref bx49), .val (.ref n1_467), .unset] [])) _
                refine XS.iload X546.here hx rfl (hb hby at_130) rfl ?_
                show Steps p.tables e below (T546.setTop (mkF m 132 #[.val (.int p1), .val (.int p2), .val (.int p3), .val (.int p4), .val (.int p5), .val (.int 1), .val (.int 0), .val (.int 1), .val (.ref bx16), .val (.ref bx31), .val (.ref bx49), .val (.ref n1_467), .unset] [(.int 1)])) _
                refine XS.ifYes X546.here hx rfl (pc0 := 132) (pc' := 145) rfl (hb hby at_132) rfl ((if0 _ _).trans (feq (by decide : ¬ ((1 : Int32) = (0 : Int32)))).2) (by decide) (by decide) ?_
                refine XS.iconst X546.here hx rfl (hb hby at_145) ?_
                refine XS.goto X546.here hx rfl (pc0 := 146) (pc' := 150) rfl (hb hby at_146) (by decide) (by decide) ?_
                refine XS.istore X546.here hx rfl (hb hby at_150) rfl (l' := #[.val (.int p1), .val (.int p2), .val (.int p3), .val (.int p4), .val (.int p5), .val (.int 1), .val (.int 0), .val (.int 1), .val (.ref bx16), .val (.ref bx31), .val (.ref bx49), .val (.ref n1_467), .val (.int 1)]) rfl ?_
                refine XS.aload X546.here hx rfl (hb hby at_152) rfl rfl ?_
                refine XS.ifnullNo X546.here hx rfl (hb hby at_154) rfl ?_
                refine XS.iconst X546.here hx rfl (hb hby at_157) ?_
                show Steps p.tables e below (T546.setTop (mkF m 158 #[.val (.int p1), .val (.int p2), .val (.int p3), .val (.int p4), .val (.int p5), .val (.int 1), .val (.int 0), .val (.int 1), .val (.ref bx16), .val (.ref bx31), .val (.ref bx49), .val (.ref n1_467), .val (.int 1)] [(.int 1)])) _
                refine XS.goto X546.here hx rfl (pc0 := 158) (pc' := 162) rfl (hb hby at_158) (by decide) (by decide) ?_
                refine XS.iload X546.here hx rfl (hb hby at_162) rfl ?_
                show Steps p.tables e below (T546.setTop (mkF m 164 #[.val (.int p1), .val (.int p2), .val (.int p3), .val (.int p4), .val (.int p5), .val (.int 1), .val (.int 0), .val (.int 1), .val (.ref bx16), .val (.ref bx31), .val (.ref bx49), .val (.ref n1_467), .val (.int 1)] [(.int 1), (.int 1)])) _
                refine XS.icmpNo X546.here hx rfl (hb hby at_164) rfl (teq (by decide : (1 : Int32) = (1 : Int32))).2 ?_
                refine XS.aload X546.here hx rfl (hb hby at_167) rfl rfl ?_
                refine st548 _ ?_
                refine XS.iload X548.here hx rfl (hb hby at_172) rfl ?_
                show Steps p.tables e below (T548.setTop (mkF m 174 #[.val (.int p1), .val (.int p2), .val (.int p3), .val (.int p4), .val (.int p5), .val (.int 1), .val (.int 0), .val (.int 1), .val (.ref bx16), .val (.ref bx31), .val (.ref bx49), .val (.ref n1_467), .val (.int 1)] [(.int 1), (.int 1)])) _
                refine XS.icmpNo X548.here hx rfl (hb hby at_174) rfl (teq (by decide : (1 : Int32) = (1 : Int32))).2 ?_
                refine XS.aconstNull X548.here hx rfl (hb hby at_177) ?_
                show Steps p.tables e below (T548.setTop (mkF m 178 #[.val (.int p1), .val (.int p2), .val (.int p3), .val (.int p4), .val (.int p5), .val (.int 1), .val (.int 0), .val (.int 1), .val (.ref bx16), .val (.ref bx31), .val (.ref bx49), .val (.ref n1_467), .val (.int 1)] [.null])) _
                refine st550 _ ?_
                show Steps p.tables e below (T550.setTop (mkF m 181 #[.val (.int p1), .val (.int p2), .val (.int p3), .val (.int p4), .val (.int p5), .val (.int 1), .val (.int 0), .val (.int 1), .val (.ref bx16), .val (.ref bx31), .val (.ref bx49), .val (.ref n1_467), .val (.int 1)] [(.int 0)])) _
                refine XS.ifNo X550.here hx rfl (hb hby at_181) rfl ((if0 _ _).trans (teq (by decide : (0 : Int32) = (0 : Int32))).2) ?_
                refine XS.iconst X550.here hx rfl (hb hby at_184) ?_
                refine XS.goto X550.here hx rfl (pc0 := 185) (pc' := 189) rfl (hb hby at_185) (by decide) (by decide) ?_
                exact retN X550 hx (t := .boolean) Bd.returns (by simp) (hb hby at_189) hr
              · show Q0 Z p1 p2 p3 p4 p5 cz fmt h0 n0 _ T550.heap _
                rw [e550]
                exact ⟨rfl, N551⟩
            ·  -- en = 1
              -- pc 104: SubjectLines.add by rmad
              obtain ⟨cq552, kq552, q552a, q552b, q552c⟩ := isOf hZ rfl o63_0
              obtain ⟨_, _, ⟨T552, L552, ck552, cn552⟩, -, X552, ⟨Lc552, hQ552, l552, y552, z552⟩, st552⟩ := X63.virtualBack hx (y := (⟨KS, "add", "(Ljava/lang/String;IIIII)V"⟩ : MethodName)) (z := (⟨KS, "add", "(Ljava/lang/String;IIIII)V"⟩ : MethodName)) hown (mvT hZ (own_w hw (i := 151) rfl)) (mvT hZ (own_w hw (i := 152) rfl)) (notFace_of_selects (args := #[]) (mvT hZ (own_w hw (i := 154) rfl))) (mvT hZ (own_w hw (i := 154) rfl)) (mvT hZ (own_w hw (i := 153) rfl)) (by decide) (backOf (W := 0) (rmad l Z a0 hw [] bx49 bx31 ((p4 &&& (1073741823 : Int32)) + (1 : Int32)) p5 p1 p2 p3 n1_63 n2_63 n3_63 kn1_63 kn2_63 kn3_63 n1_36 kn1_36 b0 b1 (0 : Int32) (0 : Int32) cz fmt T63.heap n0 zs91 o63_0 o63_1 o63_2 o63_3 o63_4 f77 S_COMPACT_STRINGS hcz S_SIOOBE_FORMATTER hfmt f79 f80 f81 f84 f85 f82 f83 (Or.inr ⟨rfl, rfl⟩) (Arv.arh o63_5) (Arv.arh o63_6) (Arv.arh o63_7) o63_8 o63_9 g_bx49 g_bx31 gq63_0 gq63_1 gq63_2 (Ne.symm ne51) ne68 ne72 ne76 (Ne.symm ne52) ne66 ne70 ne74 ne39 (Ne.symm nq63_1_0) (Ne.symm nq63_2_0) (Ne.symm ne67) (Ne.symm nq63_2_1) (Ne.symm ne71) (Ne.symm ne75)) hZ (own_w hw (i := 155) rfl) (own_w hw (i := 32) rfl) (by decide) (by decide)) q552a q552c (g := (mkF m 104 #[.val (.int p1), .val (.int p2), .val (.int p3), .val (.int p4), .val (.int p5), .val (.int 1), .val (.int 1), .val (.int 1), .val (.ref bx16), .val (.ref bx31), .val (.ref bx49), .unset, .unset] [(.int p3), (.int p2), (.int p1), (.int p5), (.int ((p4 &&& (1073741823 : Int32)) + (1 : Int32))), (.ref bx31), (.ref bx49)])) rfl (by rw [hml]; rfl) (Steps.refl _) (argsL := [(.ref bx31), (.int ((p4 &&& (1073741823 : Int32)) + (1 : Int32))), (.int p5), (.int p1), (.int p2), (.int p3)]) (rest := []) (lenOf pd_814 rfl) rfl (by show 2 * 0 + _ ≤ _; exact Nat.le_of_eq rfl) (hb hby at_104) (fun _ _ => ⟨rfl, rfl, (by decide : 7 + 3 ≤ _), (by decide : 60 + 28 ≤ _)⟩)
              dsimp only [Pt.U, Pt.locs, Pt.cells, Pt.slots] at X552 l552 y552 z552 st552 hQ552
              subst y552 z552
              obtain ⟨n1_552, kn1_552, rfl, N552q, K552q, gq552_0, sq552_0, o552_0, o552_1, o552_2, o552_3, o552_4, o552_5, o552_6, o552_7, o552_8, o552_9, o552_10, o552_11, o552_12, o552_13, o552_14⟩ := hQ552
              have N553 : Fr n0 L552 := by rw [l552]; exact Fr.app N64 N552q
              have ne555 : bx31 ≠ n1_552 := Nat.ne_of_lt (Nat.lt_of_lt_of_le f79.lt sq552_0)
              have ne556 : n1_36 ≠ n1_552 := Nat.ne_of_lt (Nat.lt_of_lt_of_le f84.lt sq552_0)
              have ne557 : bx49 ≠ n1_552 := Nat.ne_of_lt (Nat.lt_of_lt_of_le o63_0.lt sq552_0)
              have ne558 : n1_63 ≠ n1_552 := Nat.ne_of_lt (Nat.lt_of_lt_of_le o63_5.lt sq552_0)
              have ne559 : n2_63 ≠ n1_552 := Nat.ne_of_lt (Nat.lt_of_lt_of_le o63_6.lt sq552_0)
              have f561 := f77.keep K552q (allS g_bx49 (allS g_bx31 (allS gq63_0 (allS gq63_1 (allS gq63_2 all0)))))
              have f568 := f84.keep K552q (ninS ne52 (ninS (Ne.symm ne39) (ninS ne67 (ninS ne71 (ninS ne75 nin0)))))
              have f569 := f85.keep K552q
              have zs578 : n0 ≤ T552.heap.size := Nat.le_trans zs91 K552q.1
              -- pc 115: SubjectLines.setStatus by rmsO11
              obtain ⟨cq579, kq579, q579a, q579b, q579c⟩ := isOf hZ rfl o552_0
              obtain ⟨_, _, ⟨T579, L579, ck579, cn579⟩, -, X579, ⟨Lc579, hQ579, l579, y579, z579⟩, st579⟩ := X552.virtualBack hx (y := (⟨KS, "setStatus", "(Ljava/lang/String;ZZ)V"⟩ : MethodName)) (z := (⟨KS, "setStatus", "(Ljava/lang/String;ZZ)V"⟩ : MethodName)) hown (mvT hZ (own_w hw (i := 48) rfl)) (mvT hZ (own_w hw (i := 49) rfl)) (notFace_of_selects (args := #[]) (mvT hZ (own_w hw (i := 51) rfl))) (mvT hZ (own_w hw (i := 51) rfl)) (mvT hZ (own_w hw (i := 50) rfl)) (by decide) (backOf (W := 0) (rmsO11 l Z a0 hw [] bx49 bx31 n1_63 n2_63 n3_63 kn1_63 kn2_63 n1_36 kn1_36 b0 b1 (own_hc b0 b1) (fhc_hashIsZero b0 b1 (0 : Int32) (0 : Int32)) cz fmt n1_552 kn1_552 (1 : Int32) (0 : Int32) ((p4 &&& (1073741823 : Int32)) + (1 : Int32)) p5 p1 p2 p3 (1 : Int32) (0 : Int32) (0 : Int32) (0 : Int32) (0 : Int32) (0 : Int32) (0 : Int32) T552.heap n0 zs578 o552_0 o552_1 o552_2 o552_3 f561 S_COMPACT_STRINGS hcz S_SIOOBE_FORMATTER hfmt o552_5 o552_6 o552_7 f568 f569 o552_8 o552_9 (Or.inl rfl) o552_10 o552_11 o552_13 g_bx31 ne51 ne66 ne70 ne39 ne555 gq552_0 (Ne.symm ne557) (Ne.symm ne558) (Ne.symm ne559) (Ne.symm ne556)) hZ (own_w hw (i := 52) rfl) (own_w hw (i := 32) rfl) (by decide) (by decide)) q579a q579c (g := (mkF m 115 #[.val (.int p1), .val (.int p2), .val (.int p3), .val (.int p4), .val (.int p5), .val (.int 1), .val (.int 1), .val (.int 1), .val (.ref bx16), .val (.ref bx31), .val (.ref bx49), .unset, .unset] [(.int 1), (.int 1), (.ref bx31), (.ref bx49)])) rfl (by rw [hml]; rfl) (Steps.refl _) (argsL := [(.ref bx31), (.int 1), (.int 1)]) (rest := []) (lenOf pd_812 rfl) rfl (by show 2 * 0 + _ ≤ _; exact Nat.le_of_eq rfl) (hb hby at_115) (fun _ _ => ⟨rfl, rfl, (by decide : 10 + 1 ≤ _), (by decide : 88 + 5 ≤ _)⟩)
              dsimp only [Pt.U, Pt.locs, Pt.cells, Pt.slots] at X579 l579 y579 z579 st579 hQ579
              subst y579 z579
              obtain ⟨rfl, N579q, K579q, o579_0, o579_1, o579_2, o579_3, o579_4, o579_5⟩ := hQ579
              have N580 : Fr n0 L579 := by rw [l579]; exact Fr.app N553 N579q
              have f581 := f561.keep K579q (allS g_bx31 (allS gq552_0 all0))
              have f584 := f568.keep K579q (ninS (Ne.symm ne39) (ninS ne556 nin0))
              have f585 := f569.keep K579q
              have f586 := o552_0.keep K579q
              have f587 := o552_1.keep K579q (ninS (Ne.symm ne51) (ninS ne557 nin0))
              have f588 := o552_2.keep K579q (ninS (Ne.symm ne51) (ninS ne557 nin0))
              have f589 := o552_3.keep K579q (ninS (Ne.symm ne51) (ninS ne557 nin0))
              have f595 := o552_10.keep K579q (ninS (Ne.symm ne66) (ninS ne558 nin0))
              have f596 := o552_11.keep K579q (ninS (Ne.symm ne70) (ninS ne559 nin0))
              have zs600 : n0 ≤ T579.heap.size := Nat.le_trans zs578 K579q.1
              -- pc 122: Interner$Key.of by rmko
              obtain ⟨_, _, ⟨T601, L601, ck601, cn601⟩, -, X601, ⟨Lc601, hQ601, l601, y601, z601⟩, st601⟩ := Jvm.LawKit.callS X579 hx (y := (⟨KK, "of", "(Ljava/lang/String;)Lcom/example/explicit_grants/explicitgrants/Interner$Key;"⟩ : MethodName)) hown (mvT hZ (own_w hw (i := 53) rfl)) (mvT hZ (own_w hw (i := 54) rfl)) (mvT hZ (own_w hw (i := 55) rfl)) (mvT hZ (own_w hw (i := 56) rfl)) (by decide) (backOf (W := 1) (rmko l Z a0 hw [] bx31 n1_36 kn1_36 b0 b1 (own_hc b0 b1) (fhc_hashIsZero b0 b1 (own_hc b0 b1) (fhc_hashIsZero b0 b1 (0 : Int32) (0 : Int32))) cz fmt T579.heap n0 zs600 f581 S_COMPACT_STRINGS hcz o579_0 o579_1 o579_2 f584 f585 o579_3 o579_4 (Or.inl rfl) g_bx31 ne39 S_SIOOBE_FORMATTER hfmt) hZ (own_w hw (i := 56) rfl) (own_w hw (i := 55) rfl) (by decide) (by decide)) (g := (mkF m 122 #[.val (.int p1), .val (.int p2), .val (.int p3), .val (.int p4), .val (.int p5), .val (.int 1), .val (.int 1), .val (.int 1), .val (.ref bx16), .val (.ref bx31), .val (.ref bx49), .unset, .unset] [(.ref bx31), (.ref bx49)])) rfl (by rw [hml]; rfl) (argsL := [(.ref bx31)]) (rest := [(.ref bx49)]) (lenOf pd_584 rfl) rfl (by show 2 * 0 + _ ≤ _; exact Nat.le_of_eq rfl) (hb hby at_122) (fun _ _ => ⟨rfl, rfl, (by decide : 11 + 1 ≤ _), (by decide : 93 + 5 ≤ _)⟩)
              dsimp only [Pt.U, Pt.locs, Pt.cells, Pt.slots] at X601 l601 y601 z601 st601 hQ601
              subst y601 z601
              obtain ⟨n1_601, kn1_601, rfl, N601q, K601q, gq601_0, sq601_0, o601_0, o601_1, o601_2, o601_3, o601_4, o601_5, o601_6, o601_7, o601_8, o601_9⟩ := hQ601
              have N602 : Fr n0 L601 := by rw [l601]; exact Fr.app N580 N601q
              have f616 := f586.keep K601q
              have f617 := f587.keep K601q (ninS (Ne.symm ne51) nin0)
              have f618 := f588.keep K601q (ninS (Ne.symm ne51) nin0)
              have f619 := f589.keep K601q (ninS (Ne.symm ne51) nin0)
              have f621 := f595.keep K601q (ninS (Ne.symm ne66) nin0)
              have f622 := f596.keep K601q (ninS (Ne.symm ne70) nin0)
              have f629 := o579_5.keep K601q (ninS (Ne.symm ne555) nin0)
              have zs630 : n0 ≤ T601.heap.size := Nat.le_trans zs600 K601q.1
              -- pc 125: SubjectLines.of by rmofO
              obtain ⟨cq631, kq631, q631a, q631b, q631c⟩ := isOf hZ rfl f616
              obtain ⟨_, _, ⟨T631, L631, ck631, cn631⟩, -, X631, ⟨Lc631, hQ631, l631, y631, z631⟩, st631⟩ := X601.virtualBack hx (y := (⟨KS, "of", "(Lcom/example/explicit_grants/explicitgrants/Interner$Key;)[I"⟩ : MethodName)) (z := (⟨KS, "of", "(Lcom/example/explicit_grants/explicitgrants/Interner$Key;)[I"⟩ : MethodName)) hown (mvT hZ (own_w hw (i := 137) rfl)) (mvT hZ (own_w hw (i := 138) rfl)) (notFace_of_selects (args := #[]) (mvT hZ (own_w hw (i := 140) rfl))) (mvT hZ (own_w hw (i := 140) rfl)) (mvT hZ (own_w hw (i := 139) rfl)) (by decide) (backOf (W := 0) (rmofO l Z a0 hw [] bx49 n1_601 (own_hh b0 b1) (own_k1 b0 b1) n1_63 n2_63 n3_63 kn1_63 kn2_63 n1_552 kn1_552 (1 : Int32) (2 : Int32) ((p4 &&& (1073741823 : Int32)) + (1 : Int32)) p5 p1 p2 p3 (1 : Int32) (0 : Int32) (0 : Int32) (0 : Int32) (0 : Int32) (0 : Int32) (0 : Int32) T601.heap n0 zs630 f616 f617 f618 f619 o601_5 o601_6 o601_7 o601_8 o601_9 f621 f622 f629 (own_k1ne _ _)) hZ (own_w hw (i := 141) rfl) (own_w hw (i := 32) rfl) (by decide) (by decide)) q631a q631c (g := (mkF m 125 #[.val (.int p1), .val (.int p2), .val (.int p3), .val (.int p4), .val (.int p5), .val (.int 1), .val (.int 1), .val (.int 1), .val (.ref bx16), .val (.ref bx31), .val (.ref bx49), .unset, .unset] [(.ref n1_601), (.ref bx49)])) rfl (by rw [hml]; rfl) (Steps.refl _) (argsL := [(.ref n1_601)]) (rest := []) (lenOf pd_813 rfl) rfl (by show 2 * 0 + _ ≤ _; exact Nat.le_of_eq rfl) (hb hby at_125) (fun _ _ => ⟨rfl, rfl, (by decide : 12 + 0 ≤ _), (by decide : 98 + 0 ≤ _)⟩)
              dsimp only [Pt.U, Pt.locs, Pt.cells, Pt.slots] at X631 l631 y631 z631 st631 hQ631
              subst y631 z631
              obtain ⟨rfl, N631q, e631⟩ := hQ631
              have N632 : Fr n0 L631 := by rw [l631]; exact Fr.app N602 N631q
              -- pc 169: SubjectLines.isAdministrator by rmia2
              obtain ⟨_, _, ⟨T633, L633, ck633, cn633⟩, -, X633, ⟨Lc633, hQ633, l633, y633, z633⟩, st633⟩ := Jvm.LawKit.callS X631 hx (y := (⟨KS, "isAdministrator", "([I)Z"⟩ : MethodName)) hown (mvT hZ (own_w hw (i := 147) rfl)) (mvT hZ (own_w hw (i := 148) rfl)) (mvT hZ (own_w hw (i := 32) rfl)) (mvT hZ (own_w hw (i := 149) rfl)) (by decide) (backOf (W := 0) (rmia2 l Z a0 hw [] n1_552 kn1_552 (1 : Int32) ((own_k1 b0 b1).toInt32) ((((own_k1 b0 b1).toUInt64 >>> ((32 : Int32) &&& 0x3f).toInt64.toUInt64).toInt64).toInt32) (0 : Int32) (0 : Int32) (0 : Int32) (0 : Int32) ((p4 &&& (1073741823 : Int32)) + (1 : Int32)) p5 p1 p2 p3 (1 : Int32) (0 : Int32) (0 : Int32) (0 : Int32) (0 : Int32) (0 : Int32) (0 : Int32) T601.heap n0 zs630 f629) hZ (own_w hw (i := 149) rfl) (own_w hw (i := 32) rfl) (by decide) (by decide)) (g := (mkF m 169 #[.val (.int p1), .val (.int p2), .val (.int p3), .val (.int p4), .val (.int p5), .val (.int 1), .val (.int 1), .val (.int 1), .val (.ref bx16), .val (.ref bx31), .val (.ref bx49), .val (.ref n1_552), .val (.int 1)] [(.ref n1_552)])) rfl (by rw [hml]; rfl) (argsL := [(.ref n1_552)]) (rest := []) (lenOf pd_409 rfl) rfl (by show 2 * 0 + _ ≤ _; exact Nat.le_of_eq rfl) (hb hby at_169) (fun _ _ => ⟨rfl, e631, (by decide : 12 + 0 ≤ _), (by decide : 98 + 0 ≤ _)⟩)
              dsimp only [Pt.U, Pt.locs, Pt.cells, Pt.slots] at X633 l633 y633 z633 st633 hQ633
              subst y633 z633
              obtain ⟨rfl, N633q, e633⟩ := hQ633
              have N634 : Fr n0 L633 := by rw [l633]; exact Fr.app N632 N633q
              -- pc 178: SubjectLines.isAdministrator by rmiaN
              obtain ⟨_, _, ⟨T635, L635, ck635, cn635⟩, -, X635, ⟨Lc635, hQ635, l635, y635, z635⟩, st635⟩ := Jvm.LawKit.callS X633 hx (y := (⟨KS, "isAdministrator", "([I)Z"⟩ : MethodName)) hown (mvT hZ (own_w hw (i := 147) rfl)) (mvT hZ (own_w hw (i := 148) rfl)) (mvT hZ (own_w hw (i := 32) rfl)) (mvT hZ (own_w hw (i := 149) rfl)) (by decide) (backOf (W := 0) (rmiaN l Z a0 hw []  T601.heap n0 zs630 ) hZ (own_w hw (i := 149) rfl) (own_w hw (i := 32) rfl) (by decide) (by decide)) (g := (mkF m 178 #[.val (.int p1), .val (.int p2), .val (.int p3), .val (.int p4), .val (.int p5), .val (.int 1), .val (.int 1), .val (.int 1), .val (.ref bx16), .val (.ref bx31), .val (.ref bx49), .val (.ref n1_552), .val (.int 1)] [.null])) rfl (by rw [hml]; rfl) (argsL := [.null]) (rest := []) (lenOf pd_409 rfl) rfl (by show 2 * 0 + _ ≤ _; exact Nat.le_of_eq rfl) (hb hby at_178) (fun _ _ => ⟨rfl, e633, (by decide : 12 + 0 ≤ _), (by decide : 98 + 0 ≤ _)⟩)
              dsimp only [Pt.U, Pt.locs, Pt.cells, Pt.slots] at X635 l635 y635 z635 st635 hQ635
              subst y635 z635
              obtain ⟨rfl, N635q, e635⟩ := hQ635
              have N636 : Fr n0 L635 := by rw [l635]; exact Fr.app N634 N635q
              obtain ⟨fs, hr, hrun, hended, hW, hsame⟩ := X635.leave (v := some (.int 1)) (fun h => by rw [Bd.returns] at h; cases h) Bd.notSynchronized
              refine ⟨_, _, pre92 _ ?_, hrun, hended, _, _, rfl, ?_, ⟨_, rfl⟩, hW, hsame.mono (by decide) (by decide)⟩
              · show Steps p.tables e below (T63.setTop (mkF m 84 #[.val (.int p1), .val (.int p2), .val (.int p3), .val (.int p4), .val (.int p5), .val (.int 1), .val (.int 1), .val (.int 1), .val (.ref bx16), .val (.ref bx31), .val (.ref bx49), .unset, .unset] [])) _
                refine XS.iload X63.here hx rfl (hb hby at_84) rfl ?_
                show Steps p.tables e below (T63.setTop (mkF m 86 #[.val (.int p1), .val (.int p2), .val (.int p3), .val (.int p4), .val (.int p5), .val (.int 1), .val (.int 1), .val (.int 1), .val (.ref bx16), .val (.ref bx31), .val (.ref bx49), .unset, .unset] [(.int 1)])) _
                refine XS.ifNo X63.here hx rfl (hb hby at_86) rfl ((if0 _ _).trans (feq (by decide : ¬ ((1 : Int32) = (0 : Int32)))).1) ?_
                refine XS.aload X63.here hx rfl (hb hby at_89) rfl rfl ?_
                refine XS.aload X63.here hx rfl (hb hby at_91) rfl rfl ?_
                refine XS.iloadN X63.here hx rfl (hb hby at_93) rfl ?_
                refine X63.ldcInt hx hown (mvT hZ (own_w hw (i := 150) rfl)) (g := (mkF m 94 #[.val (.int p1), .val (.int p2), .val (.int p3), .val (.int p4), .val (.int p5), .val (.int 1), .val (.int 1), .val (.int 1), .val (.ref bx16), .val (.ref bx31), .val (.ref bx49), .unset, .unset] [(.int p4), (.ref bx31), (.ref bx49)])) rfl (hb hby at_94) _ ?_
                refine XS.iand X63.here hx rfl (hb hby at_96) rfl ?_
                refine XS.iconst X63.here hx rfl (hb hby at_97) ?_
                show Steps p.tables e below (T63.setTop (mkF m 98 #[.val (.int p1), .val (.int p2), .val (.int p3), .val (.int p4), .val (.int p5), .val (.int 1), .val (.int 1), .val (.int 1), .val (.ref bx16), .val (.ref bx31), .val (.ref bx49), .unset, .unset] [(.int 1), (.int (p4 &&& (1073741823 : Int32))), (.ref bx31), (.ref bx49)])) _
                refine XS.iadd X63.here hx rfl (hb hby at_98) rfl ?_
                refine XS.iload X63.here hx rfl (hb hby at_99) rfl ?_
                refine XS.iloadN X63.here hx rfl (hb hby at_101) rfl ?_
                refine XS.iloadN X63.here hx rfl (hb hby at_102) rfl ?_
                refine XS.iloadN X63.here hx rfl (hb hby at_103) rfl ?_
                refine st552.trans ?_
                refine XS.aload X552.here hx rfl (hb hby at_107) rfl rfl ?_
                refine XS.aload X552.here hx rfl (hb hby at_109) rfl rfl ?_
                show Steps p.tables e below (T552.setTop (mkF m 111 #[.val (.int p1), .val (.int p2), .val (.int p3), .val (.int p4), .val (.int p5), .val (.int 1), .val (.int 1), .val (.int 1), .val (.ref bx16), .val (.ref bx31), .val (.ref bx49), .unset, .unset] [(.ref bx31), (.ref bx49)])) _
                refine XS.iload X552.here hx rfl (hb hby at_111) rfl ?_
                refine XS.iload X552.here hx rfl (hb hby at_113) rfl ?_
                refine st579.trans ?_
                refine XS.aload X579.here hx rfl (hb hby at_118) rfl rfl ?_
                refine XS.aload X579.here hx rfl (hb hby at_120) rfl rfl ?_
                refine st601 _ ?_
                refine st631.trans ?_
                refine XS.astore X631.here hx rfl (hb hby at_128) rfl rfl (l' := #[.val (.int p1), .val (.int p2), .val (.int p3), .val (.int p4), .val (.int p5), .val (.int 1), .val (.int 1), .val (.int 1), .val (.ref bx16), .val (.ref bx31), .val (.ref bx49), .val (.ref n1_552), .unset]) rfl ?_
                show Steps p.tables e below (T631.setTop (mkF m 130 #[.val (.int p1), .val (.int p2), .val (.int p3), .val (.int p4), .val (.int p5), .val (.int 1), .val (.int 1), .val (.int 1), .val (.ref bx16), .val (.ref bx31), .val (.ref bx49), .val (.ref n1_552), .unset] [])) _
                refine XS.iload X631.here hx rfl (hb hby at_130) rfl ?_
                show Steps p.tables e below (T631.setTop (mkF m 132 #[.val (.int p1), .val (.int p2), .val (.int p3), .val (.int p4), .val (.int p5), .val (.int 1), .val (.int 1), .val (.int 1), .val (.ref bx16), .val (.ref bx31), .val (.ref bx49), .val (.ref n1_552), .unset] [(.int 1)])) _
                refine XS.ifYes X631.here hx rfl (pc0 := 132) (pc' := 145) rfl (hb hby at_132) rfl ((if0 _ _).trans (feq (by decide : ¬ ((1 : Int32) = (0 : Int32)))).2) (by decide) (by decide) ?_
                refine XS.iconst X631.here hx rfl (hb hby at_145) ?_
                refine XS.goto X631.here hx rfl (pc0 := 146) (pc' := 150) rfl (hb hby at_146) (by decide) (by decide) ?_
                refine XS.istore X631.here hx rfl (hb hby at_150) rfl (l' := #[.val (.int p1), .val (.int p2), .val (.int p3), .val (.int p4), .val (.int p5), .val (.int 1), .val (.int 1), .val (.int 1), .val (.ref bx16), .val (.ref bx31), .val (.ref bx49), .val (.ref n1_552), .val (.int 1)]) rfl ?_
                refine XS.aload X631.here hx rfl (hb hby at_152) rfl rfl ?_
                refine XS.ifnullNo X631.here hx rfl (hb hby at_154) rfl ?_
                refine XS.iconst X631.here hx rfl (hb hby at_157) ?_
                show Steps p.tables e below (T631.setTop (mkF m 158 #[.val (.int p1), .val (.int p2), .val (.int p3), .val (.int p4), .val (.int p5), .val (.int 1), .val (.int 1), .val (.int 1), .val (.ref bx16), .val (.ref bx31), .val (.ref bx49), .val (.ref n1_552), .val (.int 1)] [(.int 1)])) _
                refine XS.goto X631.here hx rfl (pc0 := 158) (pc' := 162) rfl (hb hby at_158) (by decide) (by decide) ?_
                refine XS.iload X631.here hx rfl (hb hby at_162) rfl ?_
                show Steps p.tables e below (T631.setTop (mkF m 164 #[.val (.int p1), .val (.int p2), .val (.int p3), .val (.int p4), .val (.int p5), .val (.int 1), .val (.int 1), .val (.int 1), .val (.ref bx16), .val (.ref bx31), .val (.ref bx49), .val (.ref n1_552), .val (.int 1)] [(.int 1), (.int 1)])) _
                refine XS.icmpNo X631.here hx rfl (hb hby at_164) rfl (teq (by decide : (1 : Int32) = (1 : Int32))).2 ?_
                refine XS.aload X631.here hx rfl (hb hby at_167) rfl rfl ?_
                refine st633 _ ?_
                refine XS.iload X633.here hx rfl (hb hby at_172) rfl ?_
                show Steps p.tables e below (T633.setTop (mkF m 174 #[.val (.int p1), .val (.int p2), .val (.int p3), .val (.int p4), .val (.int p5), .val (.int 1), .val (.int 1), .val (.int 1), .val (.ref bx16), .val (.ref bx31), .val (.ref bx49), .val (.ref n1_552), .val (.int 1)] [(.int 1), (.int 1)])) _
                refine XS.icmpNo X633.here hx rfl (hb hby at_174) rfl (teq (by decide : (1 : Int32) = (1 : Int32))).2 ?_
                refine XS.aconstNull X633.here hx rfl (hb hby at_177) ?_
                show Steps p.tables e below (T633.setTop (mkF m 178 #[.val (.int p1), .val (.int p2), .val (.int p3), .val (.int p4), .val (.int p5), .val (.int 1), .val (.int 1), .val (.int 1), .val (.ref bx16), .val (.ref bx31), .val (.ref bx49), .val (.ref n1_552), .val (.int 1)] [.null])) _
                refine st635 _ ?_
                show Steps p.tables e below (T635.setTop (mkF m 181 #[.val (.int p1), .val (.int p2), .val (.int p3), .val (.int p4), .val (.int p5), .val (.int 1), .val (.int 1), .val (.int 1), .val (.ref bx16), .val (.ref bx31), .val (.ref bx49), .val (.ref n1_552), .val (.int 1)] [(.int 0)])) _
                refine XS.ifNo X635.here hx rfl (hb hby at_181) rfl ((if0 _ _).trans (teq (by decide : (0 : Int32) = (0 : Int32))).2) ?_
                refine XS.iconst X635.here hx rfl (hb hby at_184) ?_
                refine XS.goto X635.here hx rfl (pc0 := 185) (pc' := 189) rfl (hb hby at_185) (by decide) (by decide) ?_
                exact retN X635 hx (t := .boolean) Bd.returns (by simp) (hb hby at_189) hr
              · show Q0 Z p1 p2 p3 p4 p5 cz fmt h0 n0 _ T635.heap _
                rw [e635]
                exact ⟨rfl, N636⟩
set_option maxRecDepth 65536 in
set_option maxHeartbeats 40000000 in
theorem comes_1 {Post : Tables → Env → Array Value → State → Outcome → State → Prop} (hpost : ∀ tb e args s v u, (limb_1_1.after args s (.returned v) u = true ∧ limb_1_2.after args s (.returned v) u = true ∧ True) → FrameEnd s (.returned v) u (Jvm.fieldLocs frame_1_writes args s ++ Jvm.arrayLocs frame_1_arrays args s ++ Jvm.staticLocs frame_1_statics s) 32 320 → Post tb e args s (.returned v) u) :
    ArmFor flags0 classFile x code maxLocals ret World_1 tables_1 room_1 Calls_1 rest_1 Pre_1 Post := by
  intro l hfl _ _ p e ha hc hk s m args below hf hA hF happ hP
  obtain ⟨hcalls, hrest, hpre⟩ := hP
  obtain ⟨-, -, -, hnamed, -, -, -, hat⟩ := (Spec.applies_iff hf).mp happ
  obtain ⟨hg, hn⟩ := and_e (Cond.before_iff.mp (show (Jvm.Cond.and given_1 narrow_1).before args s = true from hpre))
  obtain ⟨gv1, gv2⟩ := and_e hg
  obtain ⟨gv3, gv4⟩ := and_e gv2
  obtain ⟨gv5, gv6⟩ := and_e gv4
  obtain ⟨gv7, gv8⟩ := and_e gv6
  obtain ⟨gv9, gv10⟩ := and_e gv8
  obtain ⟨w0, w1, w2, w3, w4, rfl⟩ : ∃ w0 w1 w2 w3 w4 : Value, args = #[w0, w1, w2, w3, w4] := by
    have hs : args.size = 5 := by simpa [Cond.value, given_1] using gv1
    obtain ⟨L⟩ := args
    match L, hs with
    | [w0, w1, w2, w3, w4], _ => exact ⟨w0, w1, w2, w3, w4, rfl⟩
  have hw := fun d (hd : d ∈ tables_1) => atoms_spec (ws := Jvm.Cond.code x code maxLocals ret :: tables_1) hat d (List.mem_cons_of_mem _ hd)
  obtain ⟨i0, ei0⟩ := is_v gv3
  obtain rfl : w0 = (.int i0) := Option.some.inj ei0
  obtain ⟨i1, ei1⟩ := is_v gv5
  obtain rfl : w1 = (.int i1) := Option.some.inj ei1
  obtain ⟨i2, ei2⟩ := is_v gv7
  obtain rfl : w2 = (.int i2) := Option.some.inj ei2
  obtain ⟨i3, ei3⟩ := is_v gv9
  obtain rfl : w3 = (.int i3) := Option.some.inj ei3
  obtain ⟨i4, ei4⟩ := is_v gv10
  obtain rfl : w4 = (.int i4) := Option.some.inj ei4
  have O0 := Old.start s
  obtain ⟨hsets, hown0⟩ := atoms_of _ (rest_1_c_eq ▸ (show rest_1_c.before _ s = true from hrest))
  have n3 := not_v (Cond.before_iff.mp (hsets _ (List.mem_of_getElem? (i := 2) rfl)))
  obtain ⟨cz, ecz⟩ := is_v (Cond.before_iff.mp (hsets _ (List.mem_of_getElem? (i := 1) rfl)))
  have S_C : Sta s s.heap KJ "COMPACT_STRINGS" "Z" (.int cz) := Sta.start ecz (Or.inl (hsets _ (List.mem_of_getElem? (i := 0) rfl)))
  have hcz : ¬ (cz = (0 : Int32)) := gotF (Cond.eq_ints ecz (Term.int_eval (0))) n3
  obtain ⟨fmt, efmt, hfr⟩ := isR_v (Cond.before_iff.mp (hsets _ (List.mem_of_getElem? (i := 8) rfl)))
  have S_F : Sta s s.heap "jdk/internal/util/Preconditions" "SIOOBE_FORMATTER" "Ljava/util/function/BiFunction;" fmt := Sta.start efmt (Or.inl (hsets _ (List.mem_of_getElem? (i := 7) rfl)))
  have hfmt := ref_cases hfr
  obtain ⟨n, o, h1, h2, h3, _, L, rfl, ⟨rfl, N⟩, hq⟩ := rm0 l s _ hw tables_1 i0 i1 i2 i3 i4 cz fmt s.heap s.heap.size (Nat.le_refl _) O0 S_C hcz S_F hfmt p e ha hc hk s m _ below hf ((Spec.applies_iff_loose hf).mp happ).1 ⟨rfl, State.Warmed39.refl s, rfl⟩ trivial
  refine ⟨n, _, h1, h2, h3, hpost _ _ _ _ _ _ ⟨Cond.after_iff.mpr rfl, Cond.after_iff.mpr (eq_i res_at (Term.int_eval (1)) rfl), trivial⟩ ⟨hq.1, hq.2.1, (hq.2.2.sift fun y hy => Or.inr (N y hy)).mono (by decide) (by decide)⟩⟩
theorem main_1_1 : Claimed_1_1 := comes_1 fun _ _ _ _ _ _ h hF => ⟨h.1, hF⟩
theorem main_1_2 : Claimed_1_2 := comes_1 fun _ _ _ _ _ _ h hF => ⟨h.2.1, hF⟩
end Jvm.Pilot.@@N@@
namespace Jvm.Pilot.@@N@@
open Jvm Jvm.ClassFile Sem Op Lib Jvm.Free Jvm.Stand Jvm.Pilot.@@N@@.Jvm.D
/-! MADE BY PROGRAM (witnessworld.py) out of the Statement's table words and the real class files: 25 classes; the members and pool entries that the words name. The judged class is class 1, her method 1. -/
namespace start1
open Jvm.ClassFile
def u (s : String) : CpInfo := .utf8 (stringToUtf16 s)
/-- a pool by its gaps: so many unusable entries, then the entry; so many at the end -/
def gap : Nat → List CpInfo → List CpInfo
  | 0, r => r
  | n + 1, r => .unusable :: gap n r
def poolList (es : List (Nat × CpInfo)) (last : Nat) : List CpInfo := es.foldr (fun e r => gap e.1 (e.2 :: r)) (gap last [])
def pool (es : List (Nat × CpInfo)) (last : Nat) : Array CpInfo := ⟨poolList es last⟩
def fileOf (pool : Array CpInfo) (this : Nat) (attrs : Array Attribute := #[]) (ms : Array MethodInfo := #[]) (fl : Nat := 33) (sup : Nat := 0) (ifs : Array Nat := #[]) (fds : Array FieldInfo := #[]) : ClassFile where
  minorVersion := 0
  majorVersion := 65
  constantPool := pool
  accessFlags := fl
  thisClass := this
  superClass := sup
  interfaces := ifs
  fields := fds
  methods := ms
  attributes := attrs
def plain (name : String) (sup : Option ClassId) : Class where
  name := name
  kind := .ordinary
  loader := none
  accessFlags := 33
  super := sup
  interfaces := #[]
  cf := none
  fields := #[]
  methods := #[]
  instanceTypes := #[]
  staticTypes := #[]
  resolved := #[]
  callSites := []
  init := .initialized
  statics := none
  mirror := none

def pool0 : Array CpInfo := pool [(5, u "<init>"), (0, u "()V"), (1, .class_ 10), (1, u "java/lang/Object")] 113

def k0c0 : Code := { maxStack := 0, maxLocals := 1, code := object_method_1_code, exceptionTable := #[], attributes := #[] }
def k0m0 : Method := { name := "<init>", desc := "()V", sig := { parameters := [], returnType := none }, accessFlags := 1, code := some k0c0 }
/-- java/lang/Object -/
def k0 : Class := { plain "java/lang/Object" none with
  accessFlags := 33
  interfaces := #[]
  cf := some (fileOf pool0 8 #[] #[{ accessFlags := 1, nameIndex := 5, descriptorIndex := 6, attributes := #[] }] 33 0 #[] #[])
  fields := #[]
  methods := #[k0m0]
  instanceTypes := #[]
  staticTypes := #[]
  resolved := Array.replicate 124 none
  statics := none }

def pool1 : Array CpInfo := pool [(2, .class_ 4), (0, .nameAndType 5 6), (0, u "java/lang/Object"), (0, u "<init>"), (0, u "()V"), (0, .class_ 8), (0, u "java/lang/String"), (0, .methodref 7 10), (0, .nameAndType 5 11), (0, u "([C)V"), (0, .class_ 13), (0, u "com/example/explicit_grants/explicitgrants/SubjectLines"), (0, .methodref 12 3), (0, .integer 1073741823), (0, .methodref 12 17), (0, .nameAndType 18 19), (0, u "add"), (0, u "(Ljava/lang/String;IIIII)V"), (0, .methodref 12 21), (0, .nameAndType 22 23), (0, u "setStatus"), (0, u "(Ljava/lang/String;ZZ)V"), (0, .methodref 25 26), (0, .class_ 27), (0, .nameAndType 28 29), (0, u "com/example/explicit_grants/explicitgrants/Interner$Key"), (0, u "of"), (0, u "(Ljava/lang/String;)Lcom/example/explicit_grants/explicitgrants/Interner$Key;"), (0, .methodref 12 31), (0, .nameAndType 28 32), (0, u "(Lcom/example/explicit_grants/explicitgrants/Interner$Key;)[I"), (0, .methodref 12 34), (0, .nameAndType 35 36), (0, u "isAdministrator"), (0, u "([I)Z"), (0, .class_ 38), (0, u "com/example/explicit_grants/explicitgrants/SubjectLinesIsAdministratorPinLaw"), (2, u "law"), (0, u "(IIIII)Z")] 11

def k1m0 : Method := { name := "<init>", desc := "()V", sig := { parameters := [], returnType := none }, accessFlags := 1, code := none }
def k1c1 : Code := { maxStack := 7, maxLocals := 13, code := code, exceptionTable := #[], attributes := #[] }
def k1m1 : Method := { name := "law", desc := "(IIIII)Z", sig := { parameters := [.int, .int, .int, .int, .int], returnType := some .boolean }, accessFlags := 9, code := some k1c1 }
/-- com/example/explicit_grants/explicitgrants/SubjectLinesIsAdministratorPinLaw -/
def k1 : Class := { plain "com/example/explicit_grants/explicitgrants/SubjectLinesIsAdministratorPinLaw" (some 0) with
  accessFlags := 49
  interfaces := #[]
  cf := some (fileOf pool1 37 #[] #[{ accessFlags := 1, nameIndex := 5, descriptorIndex := 6, attributes := #[] }, { accessFlags := 9, nameIndex := 41, descriptorIndex := 42, attributes := #[] }] 49 2 #[] #[])
  fields := #[]
  methods := #[k1m0, k1m1]
  instanceTypes := #[]
  staticTypes := #[]
  resolved := Array.replicate 54 none
  statics := none }

def pool2 : Array CpInfo := pool [(1, .class_ 2), (0, u "java/io/Serializable"), (0, .class_ 4), (0, u "java/lang/Object")] 2

/-- java/io/Serializable -/
def k2 : Class := { plain "java/io/Serializable" (some 0) with
  accessFlags := 1537
  interfaces := #[]
  cf := some (fileOf pool2 1 #[] #[] 1537 3 #[] #[])
  fields := #[]
  methods := #[]
  instanceTypes := #[]
  staticTypes := #[]
  resolved := Array.replicate 7 none
  statics := none }

def pool3 : Array CpInfo := pool [(1, .class_ 2), (0, u "java/lang/Comparable"), (0, .class_ 4), (0, u "java/lang/Object")] 7

/-- java/lang/Comparable -/
def k3 : Class := { plain "java/lang/Comparable" (some 0) with
  accessFlags := 1537
  interfaces := #[]
  cf := some (fileOf pool3 1 #[] #[] 1537 3 #[] #[])
  fields := #[]
  methods := #[]
  instanceTypes := #[]
  staticTypes := #[]
  resolved := Array.replicate 12 none
  statics := none }

def pool4 : Array CpInfo := pool [(2, .class_ 4), (1, u "java/lang/CharSequence"), (42, .class_ 48), (0, u "java/lang/CharSequence$1CodePointIterator"), (10, .class_ 60), (0, u "java/lang/CharSequence$1CharIterator"), (5, .class_ 67), (0, u "java/lang/Object")] 63

/-- java/lang/CharSequence -/
def k4 : Class := { plain "java/lang/CharSequence" (some 0) with
  accessFlags := 1537
  interfaces := #[]
  cf := some (fileOf pool4 2 #[.nestMembers #[47, 59]] #[] 1537 66 #[] #[])
  fields := #[]
  methods := #[]
  instanceTypes := #[]
  staticTypes := #[]
  resolved := Array.replicate 131 none
  statics := none }

def pool5 : Array CpInfo := pool [(1, .class_ 2), (0, u "java/lang/constant/Constable"), (0, .class_ 4), (0, u "java/lang/Object")] 6

/-- java/lang/constant/Constable -/
def k5 : Class := { plain "java/lang/constant/Constable" (some 0) with
  accessFlags := 1537
  interfaces := #[]
  cf := some (fileOf pool5 1 #[] #[] 1537 3 #[] #[])
  fields := #[]
  methods := #[]
  instanceTypes := #[]
  staticTypes := #[]
  resolved := Array.replicate 11 none
  statics := none }

def pool6 : Array CpInfo := pool [(1, .class_ 2), (0, u "java/lang/constant/ConstantDesc"), (0, .class_ 4), (0, u "java/lang/Object")] 32

/-- java/lang/constant/ConstantDesc -/
def k6 : Class := { plain "java/lang/constant/ConstantDesc" (some 0) with
  accessFlags := 1537
  interfaces := #[]
  cf := some (fileOf pool6 1 #[] #[] 1537 3 #[] #[])
  fields := #[]
  methods := #[]
  instanceTypes := #[]
  staticTypes := #[]
  resolved := Array.replicate 37 none
  statics := none }

def pool7 : Array CpInfo := pool [(1, .methodref 2 3), (0, .class_ 4), (0, .nameAndType 5 6), (0, u "java/lang/Object"), (0, u "<init>"), (0, u "()V"), (2, .fieldref 10 11), (0, .class_ 12), (0, .nameAndType 13 14), (0, u "java/lang/String"), (0, u "value"), (0, u "[B"), (0, .fieldref 10 16), (0, .nameAndType 17 18), (0, u "coder"), (0, u "B"), (0, .fieldref 10 20), (0, .nameAndType 21 22), (0, u "hash"), (0, u "I"), (0, .fieldref 10 24), (0, .nameAndType 25 26), (0, u "hashIsZero"), (0, u "Z"), (0, .methodref 10 28), (0, .nameAndType 5 29), (0, u "([CIILjava/lang/Void;)V"), (8, .fieldref 10 39), (0, .nameAndType 40 26), (0, u "COMPACT_STRINGS"), (1, .class_ 44), (1, u "java/lang/StringUTF16"), (0, u "compress"), (1, .methodref 42 48), (0, .nameAndType 49 50), (0, u "coderFromArrayLen"), (0, u "([BI)B"), (56, .class_ 109), (1, u "java/lang/StringLatin1"), (32, u "()Z"), (34, .methodref 42 178), (0, .nameAndType 45 179), (0, u "([CII)[B"), (154, u "()I"), (0, .methodref 10 336), (0, .nameAndType 17 337), (0, u "()B"), (25, u "([BI)C"), (27, u "(II)V"), (35, u "(I)C"), (64, .methodref 10 493), (0, .nameAndType 494 142), (0, u "isLatin1"), (0, .methodref 107 496), (0, .nameAndType 497 363), (0, u "charAt"), (3, u "checkIndex"), (5, u "length"), (67, .class_ 576), (0, u "java/lang/CharSequence"), (22, u "CASE_INSENSITIVE_ORDER"), (0, u "Ljava/util/Comparator;"), (27, .methodref 107 629), (0, .nameAndType 630 631), (0, u "hashCode"), (0, u "([B)I"), (378, u "([C)V"), (42, .fieldref 1054 1055), (0, .class_ 1056), (0, .nameAndType 1057 1058), (0, u "jdk/internal/util/Preconditions"), (0, u "SIOOBE_FORMATTER"), (0, u "Ljava/util/function/BiFunction;"), (0, .methodref 1054 1060), (0, .nameAndType 501 1061), (0, u "(IILjava/util/function/BiFunction;)I"), (39, u "serialPersistentFields"), (0, u "[Ljava/io/ObjectStreamField;"), (0, .class_ 1104), (0, u "java/lang/String$CaseInsensitiveComparator"), (1, .class_ 1107), (0, u "java/io/Serializable"), (0, .class_ 1109), (0, u "java/lang/Comparable"), (0, .class_ 1111), (0, u "java/lang/constant/Constable"), (0, .class_ 1113), (0, u "java/lang/constant/ConstantDesc"), (2, u "serialVersionUID"), (0, u "J"), (3, u "REPL"), (0, u "C"), (2, u "LATIN1"), (1, u "UTF16")] 323

def k7m0 : Method := { name := "<init>", desc := "()V", sig := { parameters := [], returnType := none }, accessFlags := 1, code := none }
def k7c1 : Code := { maxStack := 5, maxLocals := 2, code := jdk_42_method_3_code, exceptionTable := #[], attributes := #[] }
def k7m1 : Method := { name := "<init>", desc := "([C)V", sig := { parameters := [(.array .char)], returnType := none }, accessFlags := 1, code := some k7c1 }
def k7c2 : Code := { maxStack := 2, maxLocals := 1, code := jdk_42_method_54_code, exceptionTable := #[], attributes := #[] }
def k7m2 : Method := { name := "length", desc := "()I", sig := { parameters := [], returnType := some .int }, accessFlags := 1, code := some k7c2 }
def k7c3 : Code := { maxStack := 2, maxLocals := 2, code := jdk_42_method_56_code, exceptionTable := #[], attributes := #[] }
def k7m3 : Method := { name := "charAt", desc := "(I)C", sig := { parameters := [.int], returnType := some .char }, accessFlags := 1, code := some k7c3 }
def k7c4 : Code := { maxStack := 2, maxLocals := 2, code := jdk_42_method_78_code, exceptionTable := #[], attributes := #[] }
def k7m4 : Method := { name := "hashCode", desc := "()I", sig := { parameters := [], returnType := some .int }, accessFlags := 1, code := some k7c4 }
def k7c5 : Code := { maxStack := 4, maxLocals := 6, code := jdk_42_method_149_code, exceptionTable := #[], attributes := #[] }
def k7m5 : Method := { name := "<init>", desc := "([CIILjava/lang/Void;)V", sig := { parameters := [(.array .char), .int, .int, (.object "java/lang/Void")], returnType := none }, accessFlags := 2, code := some k7c5 }
def k7c6 : Code := { maxStack := 1, maxLocals := 1, code := jdk_42_method_152_code, exceptionTable := #[], attributes := #[] }
def k7m6 : Method := { name := "coder", desc := "()B", sig := { parameters := [], returnType := some .byte }, accessFlags := 0, code := some k7c6 }
def k7c7 : Code := { maxStack := 1, maxLocals := 1, code := jdk_42_method_154_code, exceptionTable := #[], attributes := #[] }
def k7m7 : Method := { name := "isLatin1", desc := "()Z", sig := { parameters := [], returnType := some .boolean }, accessFlags := 0, code := some k7c7 }
def k7c8 : Code := { maxStack := 3, maxLocals := 2, code := jdk_42_method_155_code, exceptionTable := #[], attributes := #[] }
def k7m8 : Method := { name := "checkIndex", desc := "(II)V", sig := { parameters := [.int, .int], returnType := none }, accessFlags := 8, code := some k7c8 }
/-- java/lang/String -/
def k7 : Class := { plain "java/lang/String" (some 0) with
  accessFlags := 49
  interfaces := #[2, 3, 4, 5, 6]
  cf := some (fileOf pool7 10 #[.nestMembers #[1103]] #[{ accessFlags := 1, nameIndex := 5, descriptorIndex := 6, attributes := #[] }, { accessFlags := 1, nameIndex := 5, descriptorIndex := 1010, attributes := #[] }, { accessFlags := 1, nameIndex := 507, descriptorIndex := 334, attributes := #[] }, { accessFlags := 1, nameIndex := 497, descriptorIndex := 427, attributes := #[] }, { accessFlags := 1, nameIndex := 630, descriptorIndex := 334, attributes := #[] }, { accessFlags := 2, nameIndex := 5, descriptorIndex := 29, attributes := #[] }, { accessFlags := 0, nameIndex := 17, descriptorIndex := 337, attributes := #[] }, { accessFlags := 0, nameIndex := 494, descriptorIndex := 142, attributes := #[] }, { accessFlags := 8, nameIndex := 501, descriptorIndex := 391, attributes := #[] }] 49 2 #[1106, 1108, 575, 1110, 1112] #[{ accessFlags := 18, nameIndex := 13, descriptorIndex := 14, attributes := #[] }, { accessFlags := 18, nameIndex := 17, descriptorIndex := 18, attributes := #[] }, { accessFlags := 2, nameIndex := 21, descriptorIndex := 22, attributes := #[] }, { accessFlags := 2, nameIndex := 25, descriptorIndex := 26, attributes := #[] }, { accessFlags := 26, nameIndex := 1116, descriptorIndex := 1117, attributes := #[] }, { accessFlags := 24, nameIndex := 40, descriptorIndex := 26, attributes := #[] }, { accessFlags := 26, nameIndex := 1101, descriptorIndex := 1102, attributes := #[] }, { accessFlags := 26, nameIndex := 1121, descriptorIndex := 1122, attributes := #[] }, { accessFlags := 25, nameIndex := 599, descriptorIndex := 600, attributes := #[] }, { accessFlags := 24, nameIndex := 1125, descriptorIndex := 18, attributes := #[] }, { accessFlags := 24, nameIndex := 1127, descriptorIndex := 18, attributes := #[] }])
  fields := #[{ name := "value", type := (.array .byte), accessFlags := 18, slot := 0, constantValue := 0 }, { name := "coder", type := .byte, accessFlags := 18, slot := 1, constantValue := 0 }, { name := "hash", type := .int, accessFlags := 2, slot := 2, constantValue := 0 }, { name := "hashIsZero", type := .boolean, accessFlags := 2, slot := 3, constantValue := 0 }, { name := "serialVersionUID", type := .long, accessFlags := 26, slot := 0, constantValue := 0 }, { name := "COMPACT_STRINGS", type := .boolean, accessFlags := 24, slot := 1, constantValue := 0 }, { name := "serialPersistentFields", type := (.array (.object "java/io/ObjectStreamField")), accessFlags := 26, slot := 2, constantValue := 0 }, { name := "REPL", type := .char, accessFlags := 26, slot := 3, constantValue := 0 }, { name := "CASE_INSENSITIVE_ORDER", type := (.object "java/util/Comparator"), accessFlags := 25, slot := 4, constantValue := 0 }, { name := "LATIN1", type := .byte, accessFlags := 24, slot := 5, constantValue := 0 }, { name := "UTF16", type := .byte, accessFlags := 24, slot := 6, constantValue := 0 }]
  methods := #[k7m0, k7m1, k7m2, k7m3, k7m4, k7m5, k7m6, k7m7, k7m8]
  instanceTypes := #[(.array .byte), .byte, .int, .boolean]
  staticTypes := #[.long, .boolean, (.array (.object "java/io/ObjectStreamField")), .char, (.object "java/util/Comparator"), .byte, .byte]
  resolved := Array.replicate 1451 none
  statics := some 0 }

def pool8 : Array CpInfo := pool [(6, .class_ 8), (1, u "java/lang/Object"), (0, u "<init>"), (0, u "()V"), (1, .class_ 14), (1, u "java/lang/StringUTF16"), (31, u "$assertionsDisabled"), (0, u "Z"), (13, u "HI_BYTE_SHIFT"), (0, u "I"), (2, u "LO_BYTE_SHIFT"), (49, .methodref 12 116), (0, .nameAndType 117 118), (0, u "compress"), (0, u "([CI[BII)I"), (3, u "([CII)[B"), (138, u "coderFromArrayLen"), (0, u "([BI)B"), (106, .class_ 371), (1, u "java/lang/StringUTF16$LinesSpliterator"), (58, u "MAX_LENGTH"), (196, .class_ 628), (0, u "java/lang/StringUTF16$CodePointsSpliterator"), (0, .class_ 630), (0, u "java/lang/StringUTF16$CharsSpliterator")] 4

def k8m0 : Method := { name := "<init>", desc := "()V", sig := { parameters := [], returnType := none }, accessFlags := 0, code := none }
def k8c1 : Code := { maxStack := 2, maxLocals := 2, code := jdk_52_method_15_code, exceptionTable := #[], attributes := #[] }
def k8m1 : Method := { name := "coderFromArrayLen", desc := "([BI)B", sig := { parameters := [(.array .byte), .int], returnType := some .byte }, accessFlags := 8, code := some k8c1 }
def k8c2 : Code := { maxStack := 5, maxLocals := 6, code := jdk_52_method_16_code, exceptionTable := #[], attributes := #[] }
def k8m2 : Method := { name := "compress", desc := "([CII)[B", sig := { parameters := [(.array .char), .int, .int], returnType := some (.array .byte) }, accessFlags := 9, code := some k8c2 }
def k8c3 : Code := { maxStack := 3, maxLocals := 7, code := jdk_52_method_21_code, exceptionTable := #[], attributes := #[] }
def k8m3 : Method := { name := "compress", desc := "([CI[BII)I", sig := { parameters := [(.array .char), .int, (.array .byte), .int, .int], returnType := some .int }, accessFlags := 9, code := some k8c3 }
/-- java/lang/StringUTF16 -/
def k8 : Class := { plain "java/lang/StringUTF16" (some 0) with
  accessFlags := 48
  interfaces := #[]
  cf := some (fileOf pool8 12 #[.nestMembers #[627, 629, 369]] #[{ accessFlags := 0, nameIndex := 9, descriptorIndex := 10, attributes := #[] }, { accessFlags := 8, nameIndex := 261, descriptorIndex := 262, attributes := #[] }, { accessFlags := 9, nameIndex := 117, descriptorIndex := 122, attributes := #[] }, { accessFlags := 9, nameIndex := 117, descriptorIndex := 118, attributes := #[] }] 48 6 #[] #[{ accessFlags := 26, nameIndex := 61, descriptorIndex := 62, attributes := #[] }, { accessFlags := 26, nameIndex := 65, descriptorIndex := 62, attributes := #[] }, { accessFlags := 24, nameIndex := 430, descriptorIndex := 62, attributes := #[] }, { accessFlags := 4120, nameIndex := 46, descriptorIndex := 47, attributes := #[] }])
  fields := #[{ name := "HI_BYTE_SHIFT", type := .int, accessFlags := 26, slot := 0, constantValue := 0 }, { name := "LO_BYTE_SHIFT", type := .int, accessFlags := 26, slot := 1, constantValue := 0 }, { name := "MAX_LENGTH", type := .int, accessFlags := 24, slot := 2, constantValue := 0 }, { name := "$assertionsDisabled", type := .boolean, accessFlags := 4120, slot := 3, constantValue := 0 }]
  methods := #[k8m0, k8m1, k8m2, k8m3]
  instanceTypes := #[]
  staticTypes := #[.int, .int, .int, .boolean]
  resolved := Array.replicate 635 none
  statics := none }

def pool9 : Array CpInfo := pool [(1, .class_ 2), (0, u "com/example/explicit_grants/explicitgrants/SubjectLines"), (0, .methodref 4 5), (0, .class_ 6), (0, .nameAndType 7 8), (0, u "java/lang/Object"), (0, u "<init>"), (0, u "()V"), (0, .fieldref 1 10), (0, .nameAndType 11 12), (0, u "hashes"), (0, u "[I"), (0, .class_ 12), (0, .fieldref 1 15), (0, .nameAndType 16 17), (0, u "records"), (0, u "[[I"), (0, .class_ 19), (0, u "java/lang/String"), (0, .fieldref 1 21), (0, .nameAndType 22 23), (0, u "subjects"), (0, u "[Ljava/lang/String;"), (0, .methodref 25 26), (0, .class_ 27), (0, .nameAndType 28 29), (0, u "com/example/explicit_grants/explicitgrants/Interner$Key"), (0, u "hash"), (0, u "()I"), (0, .methodref 1 31), (0, .nameAndType 32 33), (0, u "holds"), (0, u "([IILcom/example/explicit_grants/explicitgrants/Interner$Key;)Z"), (0, .methodref 1 35), (0, .nameAndType 36 37), (0, u "isDense"), (0, u "([I)Z"), (15, .methodref 1 54), (0, .nameAndType 55 56), (0, u "mask"), (0, u "([I)I"), (0, .methodref 1 58), (0, .nameAndType 59 60), (0, u "held"), (0, u "(Ljava/lang/String;)I"), (0, .methodref 1 62), (0, .nameAndType 63 64), (0, u "place"), (0, u "([IIIIII)I"), (0, .methodref 1 66), (0, .nameAndType 67 56), (0, u "capacity"), (4, .methodref 25 73), (0, .nameAndType 74 75), (0, u "of"), (0, u "(Ljava/lang/String;)Lcom/example/explicit_grants/explicitgrants/Interner$Key;"), (0, .methodref 1 77), (0, .nameAndType 78 79), (0, u "slotOf"), (0, u "(Lcom/example/explicit_grants/explicitgrants/Interner$Key;)I"), (8, .fieldref 1 89), (0, .nameAndType 90 91), (0, u "size"), (0, u "I"), (3, .methodref 25 96), (0, .nameAndType 97 98), (0, u "first"), (0, u "()J"), (0, .methodref 25 100), (0, .nameAndType 101 98), (0, u "second"), (0, .methodref 25 103), (0, .nameAndType 104 98), (0, u "third"), (2, .methodref 25 108), (0, .nameAndType 109 110), (0, u "isPacked"), (0, u "()Z"), (58, u "NONE"), (2, u "STATUS"), (1, u "KEY"), (1, u "TUPLES"), (1, u "DISABLED"), (0, u "ADMINISTRATOR"), (0, u "SCOPE"), (0, u "COUNT"), (1, u "WIDTH"), (1, u "FIRST_CAPACITY"), (0, u "SCANNED"), (1, u "FIRST_SUBJECTS"), (2, u "(Lcom/example/explicit_grants/explicitgrants/Interner$Key;)[I"), (2, u "isAdministrator"), (1, u "setStatus"), (0, u "(Ljava/lang/String;ZZ)V"), (0, u "add"), (0, u "(Ljava/lang/String;IIIII)V")] 59

def k9c0 : Code := { maxStack := 2, maxLocals := 1, code := prog_18_method_1_code, exceptionTable := #[], attributes := #[] }
def k9m0 : Method := { name := "<init>", desc := "()V", sig := { parameters := [], returnType := none }, accessFlags := 0, code := some k9c0 }
def k9c1 : Code := { maxStack := 4, maxLocals := 5, code := prog_18_method_2_code, exceptionTable := #[], attributes := #[] }
def k9m1 : Method := { name := "of", desc := "(Lcom/example/explicit_grants/explicitgrants/Interner$Key;)[I", sig := { parameters := [(.object "com/example/explicit_grants/explicitgrants/Interner$Key")], returnType := some (.array .int) }, accessFlags := 0, code := some k9c1 }
def k9c2 : Code := { maxStack := 2, maxLocals := 1, code := prog_18_method_4_code, exceptionTable := #[], attributes := #[] }
def k9m2 : Method := { name := "isAdministrator", desc := "([I)Z", sig := { parameters := [(.array .int)], returnType := some .boolean }, accessFlags := 8, code := some k9c2 }
def k9c3 : Code := { maxStack := 3, maxLocals := 6, code := prog_18_method_7_code, exceptionTable := #[], attributes := #[] }
def k9m3 : Method := { name := "setStatus", desc := "(Ljava/lang/String;ZZ)V", sig := { parameters := [(.object "java/lang/String"), .boolean, .boolean], returnType := none }, accessFlags := 0, code := some k9c3 }
def k9c4 : Code := { maxStack := 6, maxLocals := 10, code := prog_18_method_8_code, exceptionTable := #[], attributes := #[] }
def k9m4 : Method := { name := "add", desc := "(Ljava/lang/String;IIIII)V", sig := { parameters := [(.object "java/lang/String"), .int, .int, .int, .int, .int], returnType := none }, accessFlags := 0, code := some k9c4 }
def k9c5 : Code := { maxStack := 5, maxLocals := 7, code := prog_18_method_10_code, exceptionTable := #[], attributes := #[] }
def k9m5 : Method := { name := "held", desc := "(Ljava/lang/String;)I", sig := { parameters := [(.object "java/lang/String")], returnType := some .int }, accessFlags := 2, code := some k9c5 }
def k9c6 : Code := { maxStack := 4, maxLocals := 4, code := prog_18_method_11_code, exceptionTable := #[], attributes := #[] }
def k9m6 : Method := { name := "slotOf", desc := "(Lcom/example/explicit_grants/explicitgrants/Interner$Key;)I", sig := { parameters := [(.object "com/example/explicit_grants/explicitgrants/Interner$Key")], returnType := some .int }, accessFlags := 2, code := some k9c6 }
def k9c7 : Code := { maxStack := 4, maxLocals := 4, code := prog_18_method_12_code, exceptionTable := #[], attributes := #[] }
def k9m7 : Method := { name := "holds", desc := "([IILcom/example/explicit_grants/explicitgrants/Interner$Key;)Z", sig := { parameters := [(.array .int), .int, (.object "com/example/explicit_grants/explicitgrants/Interner$Key")], returnType := some .boolean }, accessFlags := 2, code := some k9c7 }
def k9c8 : Code := { maxStack := 3, maxLocals := 10, code := prog_18_method_17_code, exceptionTable := #[], attributes := #[] }
def k9m8 : Method := { name := "place", desc := "([IIIIII)I", sig := { parameters := [(.array .int), .int, .int, .int, .int, .int], returnType := some .int }, accessFlags := 10, code := some k9c8 }
def k9c9 : Code := { maxStack := 2, maxLocals := 1, code := prog_18_method_22_code, exceptionTable := #[], attributes := #[] }
def k9m9 : Method := { name := "isDense", desc := "([I)Z", sig := { parameters := [(.array .int)], returnType := some .boolean }, accessFlags := 10, code := some k9c9 }
def k9c10 : Code := { maxStack := 2, maxLocals := 1, code := prog_18_method_23_code, exceptionTable := #[], attributes := #[] }
def k9m10 : Method := { name := "capacity", desc := "([I)I", sig := { parameters := [(.array .int)], returnType := some .int }, accessFlags := 10, code := some k9c10 }
def k9c11 : Code := { maxStack := 2, maxLocals := 1, code := prog_18_method_24_code, exceptionTable := #[], attributes := #[] }
def k9m11 : Method := { name := "mask", desc := "([I)I", sig := { parameters := [(.array .int)], returnType := some .int }, accessFlags := 10, code := some k9c11 }
/-- com/example/explicit_grants/explicitgrants/SubjectLines -/
def k9 : Class := { plain "com/example/explicit_grants/explicitgrants/SubjectLines" (some 0) with
  accessFlags := 48
  interfaces := #[]
  cf := some (fileOf pool9 1 #[] #[{ accessFlags := 0, nameIndex := 7, descriptorIndex := 8, attributes := #[] }, { accessFlags := 0, nameIndex := 74, descriptorIndex := 191, attributes := #[] }, { accessFlags := 8, nameIndex := 194, descriptorIndex := 37, attributes := #[] }, { accessFlags := 0, nameIndex := 196, descriptorIndex := 197, attributes := #[] }, { accessFlags := 0, nameIndex := 198, descriptorIndex := 199, attributes := #[] }, { accessFlags := 2, nameIndex := 59, descriptorIndex := 60, attributes := #[] }, { accessFlags := 2, nameIndex := 78, descriptorIndex := 79, attributes := #[] }, { accessFlags := 2, nameIndex := 32, descriptorIndex := 33, attributes := #[] }, { accessFlags := 10, nameIndex := 63, descriptorIndex := 64, attributes := #[] }, { accessFlags := 10, nameIndex := 36, descriptorIndex := 37, attributes := #[] }, { accessFlags := 10, nameIndex := 67, descriptorIndex := 56, attributes := #[] }, { accessFlags := 10, nameIndex := 55, descriptorIndex := 56, attributes := #[] }] 48 4 #[] #[{ accessFlags := 24, nameIndex := 169, descriptorIndex := 91, attributes := #[] }, { accessFlags := 26, nameIndex := 172, descriptorIndex := 91, attributes := #[] }, { accessFlags := 26, nameIndex := 174, descriptorIndex := 91, attributes := #[] }, { accessFlags := 26, nameIndex := 176, descriptorIndex := 91, attributes := #[] }, { accessFlags := 26, nameIndex := 178, descriptorIndex := 91, attributes := #[] }, { accessFlags := 26, nameIndex := 179, descriptorIndex := 91, attributes := #[] }, { accessFlags := 26, nameIndex := 180, descriptorIndex := 91, attributes := #[] }, { accessFlags := 26, nameIndex := 181, descriptorIndex := 91, attributes := #[] }, { accessFlags := 26, nameIndex := 183, descriptorIndex := 91, attributes := #[] }, { accessFlags := 26, nameIndex := 185, descriptorIndex := 91, attributes := #[] }, { accessFlags := 26, nameIndex := 186, descriptorIndex := 91, attributes := #[] }, { accessFlags := 26, nameIndex := 188, descriptorIndex := 91, attributes := #[] }, { accessFlags := 2, nameIndex := 11, descriptorIndex := 12, attributes := #[] }, { accessFlags := 2, nameIndex := 16, descriptorIndex := 17, attributes := #[] }, { accessFlags := 2, nameIndex := 22, descriptorIndex := 23, attributes := #[] }, { accessFlags := 2, nameIndex := 90, descriptorIndex := 91, attributes := #[] }])
  fields := #[{ name := "NONE", type := .int, accessFlags := 24, slot := 0, constantValue := 0 }, { name := "STATUS", type := .int, accessFlags := 26, slot := 1, constantValue := 0 }, { name := "KEY", type := .int, accessFlags := 26, slot := 2, constantValue := 0 }, { name := "TUPLES", type := .int, accessFlags := 26, slot := 3, constantValue := 0 }, { name := "DISABLED", type := .int, accessFlags := 26, slot := 4, constantValue := 0 }, { name := "ADMINISTRATOR", type := .int, accessFlags := 26, slot := 5, constantValue := 0 }, { name := "SCOPE", type := .int, accessFlags := 26, slot := 6, constantValue := 0 }, { name := "COUNT", type := .int, accessFlags := 26, slot := 7, constantValue := 0 }, { name := "WIDTH", type := .int, accessFlags := 26, slot := 8, constantValue := 0 }, { name := "FIRST_CAPACITY", type := .int, accessFlags := 26, slot := 9, constantValue := 0 }, { name := "SCANNED", type := .int, accessFlags := 26, slot := 10, constantValue := 0 }, { name := "FIRST_SUBJECTS", type := .int, accessFlags := 26, slot := 11, constantValue := 0 }, { name := "hashes", type := (.array .int), accessFlags := 2, slot := 0, constantValue := 0 }, { name := "records", type := (.array (.array .int)), accessFlags := 2, slot := 1, constantValue := 0 }, { name := "subjects", type := (.array (.object "java/lang/String")), accessFlags := 2, slot := 2, constantValue := 0 }, { name := "size", type := .int, accessFlags := 2, slot := 3, constantValue := 0 }]
  methods := #[k9m0, k9m1, k9m2, k9m3, k9m4, k9m5, k9m6, k9m7, k9m8, k9m9, k9m10, k9m11]
  instanceTypes := #[(.array .int), (.array (.array .int)), (.array (.object "java/lang/String")), .int]
  staticTypes := #[.int, .int, .int, .int, .int, .int, .int, .int, .int, .int, .int, .int]
  resolved := Array.replicate 259 none
  statics := none }

def pool10 : Array CpInfo := pool [(1, .methodref 2 3), (0, .class_ 4), (0, .nameAndType 5 6), (0, u "java/lang/Object"), (0, u "<init>"), (0, u "()V"), (0, .class_ 8), (0, u "java/lang/Record")] 13

def k10c0 : Code := { maxStack := 1, maxLocals := 1, code := jdk_30_method_1_code, exceptionTable := #[], attributes := #[] }
def k10m0 : Method := { name := "<init>", desc := "()V", sig := { parameters := [], returnType := none }, accessFlags := 4, code := some k10c0 }
/-- java/lang/Record -/
def k10 : Class := { plain "java/lang/Record" (some 0) with
  accessFlags := 1057
  interfaces := #[]
  cf := some (fileOf pool10 7 #[] #[{ accessFlags := 4, nameIndex := 5, descriptorIndex := 6, attributes := #[] }] 1057 2 #[] #[])
  fields := #[]
  methods := #[k10m0]
  instanceTypes := #[]
  staticTypes := #[]
  resolved := Array.replicate 22 none
  statics := none }

def pool11 : Array CpInfo := pool [(1, .methodref 2 3), (0, .class_ 4), (0, .nameAndType 5 6), (0, u "java/lang/Record"), (0, u "<init>"), (0, u "()V"), (0, .fieldref 8 9), (0, .class_ 10), (0, .nameAndType 11 12), (0, u "com/example/explicit_grants/explicitgrants/Interner$Key"), (0, u "name"), (0, u "Ljava/lang/String;"), (0, .fieldref 8 14), (0, .nameAndType 15 16), (0, u "hash"), (0, u "I"), (0, .fieldref 8 18), (0, .nameAndType 19 20), (0, u "first"), (0, u "J"), (0, .fieldref 8 22), (0, .nameAndType 23 20), (0, u "second"), (0, .fieldref 8 25), (0, .nameAndType 26 20), (0, u "third"), (0, .methodref 28 29), (0, .class_ 30), (0, .nameAndType 31 32), (0, u "java/lang/String"), (0, u "length"), (0, u "()I"), (0, .methodref 28 34), (0, .nameAndType 35 36), (0, u "charAt"), (0, u "(I)C"), (4, .long 256), (1, .methodref 8 44), (0, .nameAndType 15 45), (0, u "(Ljava/lang/String;)I"), (0, .methodref 8 47), (0, .nameAndType 5 48), (0, u "(Ljava/lang/String;IJJJ)V"), (0, .long 255), (1, .methodref 28 52), (0, .nameAndType 53 32), (0, u "hashCode"), (0, .integer 2246822507), (0, .integer 3266489909), (11, u "PACKED_CHARS"), (2, u "UNPACKED"), (3, u "of"), (0, u "(Ljava/lang/String;)Lcom/example/explicit_grants/explicitgrants/Interner$Key;"), (1, u "isPacked"), (0, u "()Z"), (2, u "()J"), (3, .class_ 86), (0, u "com/example/explicit_grants/explicitgrants/Interner")] 23

def k11c0 : Code := { maxStack := 3, maxLocals := 9, code := prog_11_method_1_code, exceptionTable := #[], attributes := #[] }
def k11m0 : Method := { name := "<init>", desc := "(Ljava/lang/String;IJJJ)V", sig := { parameters := [(.object "java/lang/String"), .int, .long, .long, .long], returnType := none }, accessFlags := 0, code := some k11c0 }
def k11c1 : Code := { maxStack := 10, maxLocals := 13, code := prog_11_method_2_code, exceptionTable := #[], attributes := #[] }
def k11m1 : Method := { name := "of", desc := "(Ljava/lang/String;)Lcom/example/explicit_grants/explicitgrants/Interner$Key;", sig := { parameters := [(.object "java/lang/String")], returnType := some (.object "com/example/explicit_grants/explicitgrants/Interner$Key") }, accessFlags := 8, code := some k11c1 }
def k11c2 : Code := { maxStack := 4, maxLocals := 1, code := prog_11_method_3_code, exceptionTable := #[], attributes := #[] }
def k11m2 : Method := { name := "isPacked", desc := "()Z", sig := { parameters := [], returnType := some .boolean }, accessFlags := 0, code := some k11c2 }
def k11c3 : Code := { maxStack := 3, maxLocals := 2, code := prog_11_method_4_code, exceptionTable := #[], attributes := #[] }
def k11m3 : Method := { name := "hash", desc := "(Ljava/lang/String;)I", sig := { parameters := [(.object "java/lang/String")], returnType := some .int }, accessFlags := 10, code := some k11c3 }
def k11c4 : Code := { maxStack := 1, maxLocals := 1, code := prog_11_method_9_code, exceptionTable := #[], attributes := #[] }
def k11m4 : Method := { name := "hash", desc := "()I", sig := { parameters := [], returnType := some .int }, accessFlags := 1, code := some k11c4 }
def k11c5 : Code := { maxStack := 2, maxLocals := 1, code := prog_11_method_10_code, exceptionTable := #[], attributes := #[] }
def k11m5 : Method := { name := "first", desc := "()J", sig := { parameters := [], returnType := some .long }, accessFlags := 1, code := some k11c5 }
def k11c6 : Code := { maxStack := 2, maxLocals := 1, code := prog_11_method_11_code, exceptionTable := #[], attributes := #[] }
def k11m6 : Method := { name := "second", desc := "()J", sig := { parameters := [], returnType := some .long }, accessFlags := 1, code := some k11c6 }
def k11c7 : Code := { maxStack := 2, maxLocals := 1, code := prog_11_method_12_code, exceptionTable := #[], attributes := #[] }
def k11m7 : Method := { name := "third", desc := "()J", sig := { parameters := [], returnType := some .long }, accessFlags := 1, code := some k11c7 }
/-- com/example/explicit_grants/explicitgrants/Interner$Key -/
def k11 : Class := { plain "com/example/explicit_grants/explicitgrants/Interner$Key" (some 10) with
  accessFlags := 48
  interfaces := #[]
  cf := some (fileOf pool11 8 #[.nestHost 85] #[{ accessFlags := 0, nameIndex := 5, descriptorIndex := 48, attributes := #[] }, { accessFlags := 8, nameIndex := 74, descriptorIndex := 75, attributes := #[] }, { accessFlags := 0, nameIndex := 77, descriptorIndex := 78, attributes := #[] }, { accessFlags := 10, nameIndex := 15, descriptorIndex := 45, attributes := #[] }, { accessFlags := 1, nameIndex := 15, descriptorIndex := 32, attributes := #[] }, { accessFlags := 1, nameIndex := 19, descriptorIndex := 81, attributes := #[] }, { accessFlags := 1, nameIndex := 23, descriptorIndex := 81, attributes := #[] }, { accessFlags := 1, nameIndex := 26, descriptorIndex := 81, attributes := #[] }] 48 2 #[] #[{ accessFlags := 18, nameIndex := 11, descriptorIndex := 12, attributes := #[] }, { accessFlags := 18, nameIndex := 15, descriptorIndex := 16, attributes := #[] }, { accessFlags := 18, nameIndex := 19, descriptorIndex := 20, attributes := #[] }, { accessFlags := 18, nameIndex := 23, descriptorIndex := 20, attributes := #[] }, { accessFlags := 18, nameIndex := 26, descriptorIndex := 20, attributes := #[] }, { accessFlags := 24, nameIndex := 67, descriptorIndex := 16, attributes := #[] }, { accessFlags := 26, nameIndex := 70, descriptorIndex := 20, attributes := #[] }])
  fields := #[{ name := "name", type := (.object "java/lang/String"), accessFlags := 18, slot := 0, constantValue := 0 }, { name := "hash", type := .int, accessFlags := 18, slot := 1, constantValue := 0 }, { name := "first", type := .long, accessFlags := 18, slot := 2, constantValue := 0 }, { name := "second", type := .long, accessFlags := 18, slot := 3, constantValue := 0 }, { name := "third", type := .long, accessFlags := 18, slot := 4, constantValue := 0 }, { name := "PACKED_CHARS", type := .int, accessFlags := 24, slot := 0, constantValue := 0 }, { name := "UNPACKED", type := .long, accessFlags := 26, slot := 1, constantValue := 0 }]
  methods := #[k11m0, k11m1, k11m2, k11m3, k11m4, k11m5, k11m6, k11m7]
  instanceTypes := #[(.object "java/lang/String"), .int, .long, .long, .long]
  staticTypes := #[.int, .long]
  resolved := Array.replicate 110 none
  statics := none }

def pool12 : Array CpInfo := pool [(1, .class_ 2), (0, u "java/lang/String"), (1, .class_ 6), (1, u "java/lang/Object"), (0, u "<init>"), (0, u "()V"), (0, .methodref 1 10), (0, .nameAndType 11 12), (0, u "checkIndex"), (0, u "(II)V"), (1, .class_ 16), (1, u "java/lang/StringLatin1"), (28, .class_ 47), (1, u "jdk/internal/util/ArraysSupport"), (5, u "([BI)C"), (3, u "([B)I"), (26, .methodref 45 85), (0, .nameAndType 86 87), (0, u "vectorizedHashCode"), (0, u "(Ljava/lang/Object;IIII)I"), (33, u "$assertionsDisabled"), (0, u "Z"), (98, .class_ 223), (1, u "java/lang/StringLatin1$LinesSpliterator"), (28, u "charAt"), (45, u "hashCode"), (91, .class_ 391), (0, u "java/lang/StringLatin1$CharsSpliterator")] 3

def k12m0 : Method := { name := "<init>", desc := "()V", sig := { parameters := [], returnType := none }, accessFlags := 0, code := none }
def k12c1 : Code := { maxStack := 2, maxLocals := 2, code := jdk_43_method_2_code, exceptionTable := #[], attributes := #[] }
def k12m1 : Method := { name := "charAt", desc := "([BI)C", sig := { parameters := [(.array .byte), .int], returnType := some .char }, accessFlags := 9, code := some k12c1 }
def k12c2 : Code := { maxStack := 5, maxLocals := 1, code := jdk_43_method_21_code, exceptionTable := #[], attributes := #[] }
def k12m2 : Method := { name := "hashCode", desc := "([B)I", sig := { parameters := [(.array .byte)], returnType := some .int }, accessFlags := 9, code := some k12c2 }
/-- java/lang/StringLatin1 -/
def k12 : Class := { plain "java/lang/StringLatin1" (some 0) with
  accessFlags := 48
  interfaces := #[]
  cf := some (fileOf pool12 14 #[.nestMembers #[390, 221]] #[{ accessFlags := 0, nameIndex := 7, descriptorIndex := 8, attributes := #[] }, { accessFlags := 9, nameIndex := 252, descriptorIndex := 53, attributes := #[] }, { accessFlags := 9, nameIndex := 298, descriptorIndex := 57, attributes := #[] }] 48 4 #[] #[{ accessFlags := 4120, nameIndex := 121, descriptorIndex := 122, attributes := #[] }])
  fields := #[{ name := "$assertionsDisabled", type := .boolean, accessFlags := 4120, slot := 0, constantValue := 0 }]
  methods := #[k12m0, k12m1, k12m2]
  instanceTypes := #[]
  staticTypes := #[.boolean]
  resolved := Array.replicate 395 none
  statics := none }

def pool13 : Array CpInfo := pool [(2, .class_ 4), (1, u "java/lang/Object"), (0, u "<init>"), (0, u "()V"), (17, .class_ 26), (1, u "jdk/internal/util/Preconditions"), (6, u "checkIndex"), (21, .class_ 56), (0, u "jdk/internal/util/Preconditions$4"), (57, .class_ 115), (0, u "jdk/internal/util/Preconditions$1"), (7, u "SIOOBE_FORMATTER"), (0, u "Ljava/util/function/BiFunction;"), (0, .class_ 126), (0, u "jdk/internal/util/Preconditions$2"), (3, u "AIOOBE_FORMATTER"), (0, .class_ 132), (0, u "jdk/internal/util/Preconditions$3"), (3, u "IOOBE_FORMATTER"), (41, u "(IILjava/util/function/BiFunction;)I")] 15

def k13m0 : Method := { name := "<init>", desc := "()V", sig := { parameters := [], returnType := none }, accessFlags := 1, code := none }
def k13c1 : Code := { maxStack := 3, maxLocals := 3, code := jdk_41_method_11_code, exceptionTable := #[], attributes := #[] }
def k13m1 : Method := { name := "checkIndex", desc := "(IILjava/util/function/BiFunction;)I", sig := { parameters := [.int, .int, (.object "java/util/function/BiFunction")], returnType := some .int }, accessFlags := 9, code := some k13c1 }
/-- jdk/internal/util/Preconditions -/
def k13 : Class := { plain "jdk/internal/util/Preconditions" (some 0) with
  accessFlags := 33
  interfaces := #[]
  cf := some (fileOf pool13 24 #[.nestMembers #[55, 131, 125, 114]] #[{ accessFlags := 1, nameIndex := 5, descriptorIndex := 6, attributes := #[] }, { accessFlags := 9, nameIndex := 33, descriptorIndex := 178, attributes := #[] }] 33 2 #[] #[{ accessFlags := 25, nameIndex := 123, descriptorIndex := 124, attributes := #[] }, { accessFlags := 25, nameIndex := 130, descriptorIndex := 124, attributes := #[] }, { accessFlags := 25, nameIndex := 136, descriptorIndex := 124, attributes := #[] }])
  fields := #[{ name := "SIOOBE_FORMATTER", type := (.object "java/util/function/BiFunction"), accessFlags := 25, slot := 0, constantValue := 0 }, { name := "AIOOBE_FORMATTER", type := (.object "java/util/function/BiFunction"), accessFlags := 25, slot := 1, constantValue := 0 }, { name := "IOOBE_FORMATTER", type := (.object "java/util/function/BiFunction"), accessFlags := 25, slot := 2, constantValue := 0 }]
  methods := #[k13m0, k13m1]
  instanceTypes := #[]
  staticTypes := #[(.object "java/util/function/BiFunction"), (.object "java/util/function/BiFunction"), (.object "java/util/function/BiFunction")]
  resolved := Array.replicate 194 none
  statics := some 1 }

def pool14 : Array CpInfo := pool [(9, u "<init>"), (6, .class_ 18), (1, u "java/lang/Object"), (0, u "()V"), (1, .class_ 23), (1, u "jdk/internal/util/ArraysSupport"), (0, u "LOG2_ARRAY_LONG_INDEX_SCALE"), (0, u "I"), (2, u "U"), (0, u "Ljdk/internal/misc/Unsafe;"), (8, u "BIG_ENDIAN"), (0, u "Z"), (8, u "LOG2_BYTE_BIT_SIZE"), (4, u "LOG2_ARRAY_INT_INDEX_SCALE"), (6, .class_ 61), (0, u "[B"), (0, .methodref 21 63), (0, .nameAndType 64 65), (0, u "signedHashCode"), (0, u "(I[BII)I"), (42, u "JLA"), (0, u "Ljdk/internal/access/JavaLangAccess;"), (11, u "LOG2_ARRAY_BOOLEAN_INDEX_SCALE"), (9, u "LOG2_ARRAY_BYTE_INDEX_SCALE"), (5, u "LOG2_ARRAY_CHAR_INDEX_SCALE"), (5, u "LOG2_ARRAY_SHORT_INDEX_SCALE"), (18, u "LOG2_ARRAY_FLOAT_INDEX_SCALE"), (24, u "LOG2_ARRAY_DOUBLE_INDEX_SCALE"), (89, u "T_BOOLEAN"), (2, u "T_CHAR"), (1, u "T_FLOAT"), (1, u "T_DOUBLE"), (1, u "T_BYTE"), (1, u "T_SHORT"), (1, u "T_INT"), (1, u "T_LONG"), (1, u "SOFT_MAX_ARRAY_LENGTH"), (26, u "vectorizedHashCode"), (0, u "(Ljava/lang/Object;IIII)I")] 55

def k14m0 : Method := { name := "<init>", desc := "()V", sig := { parameters := [], returnType := none }, accessFlags := 2, code := none }
def k14c1 : Code := { maxStack := 4, maxLocals := 5, code := jdk_48_method_4_code, exceptionTable := #[], attributes := #[] }
def k14m1 : Method := { name := "vectorizedHashCode", desc := "(Ljava/lang/Object;IIII)I", sig := { parameters := [(.object "java/lang/Object"), .int, .int, .int, .int], returnType := some .int }, accessFlags := 9, code := some k14c1 }
def k14c2 : Code := { maxStack := 3, maxLocals := 6, code := jdk_48_method_5_code, exceptionTable := #[], attributes := #[] }
def k14m2 : Method := { name := "signedHashCode", desc := "(I[BII)I", sig := { parameters := [.int, (.array .byte), .int, .int], returnType := some .int }, accessFlags := 10, code := some k14c2 }
/-- jdk/internal/util/ArraysSupport -/
def k14 : Class := { plain "jdk/internal/util/ArraysSupport" (some 0) with
  accessFlags := 33
  interfaces := #[]
  cf := some (fileOf pool14 21 #[] #[{ accessFlags := 2, nameIndex := 9, descriptorIndex := 19, attributes := #[] }, { accessFlags := 9, nameIndex := 321, descriptorIndex := 322, attributes := #[] }, { accessFlags := 10, nameIndex := 64, descriptorIndex := 65, attributes := #[] }] 33 16 #[] #[{ accessFlags := 24, nameIndex := 28, descriptorIndex := 29, attributes := #[] }, { accessFlags := 26, nameIndex := 38, descriptorIndex := 39, attributes := #[] }, { accessFlags := 25, nameIndex := 121, descriptorIndex := 25, attributes := #[] }, { accessFlags := 25, nameIndex := 131, descriptorIndex := 25, attributes := #[] }, { accessFlags := 25, nameIndex := 137, descriptorIndex := 25, attributes := #[] }, { accessFlags := 25, nameIndex := 143, descriptorIndex := 25, attributes := #[] }, { accessFlags := 25, nameIndex := 53, descriptorIndex := 25, attributes := #[] }, { accessFlags := 25, nameIndex := 24, descriptorIndex := 25, attributes := #[] }, { accessFlags := 25, nameIndex := 162, descriptorIndex := 25, attributes := #[] }, { accessFlags := 25, nameIndex := 187, descriptorIndex := 25, attributes := #[] }, { accessFlags := 26, nameIndex := 48, descriptorIndex := 25, attributes := #[] }, { accessFlags := 25, nameIndex := 277, descriptorIndex := 25, attributes := #[] }, { accessFlags := 25, nameIndex := 280, descriptorIndex := 25, attributes := #[] }, { accessFlags := 25, nameIndex := 282, descriptorIndex := 25, attributes := #[] }, { accessFlags := 25, nameIndex := 284, descriptorIndex := 25, attributes := #[] }, { accessFlags := 25, nameIndex := 286, descriptorIndex := 25, attributes := #[] }, { accessFlags := 25, nameIndex := 288, descriptorIndex := 25, attributes := #[] }, { accessFlags := 25, nameIndex := 290, descriptorIndex := 25, attributes := #[] }, { accessFlags := 25, nameIndex := 292, descriptorIndex := 25, attributes := #[] }, { accessFlags := 26, nameIndex := 108, descriptorIndex := 109, attributes := #[] }, { accessFlags := 25, nameIndex := 294, descriptorIndex := 25, attributes := #[] }])
  fields := #[{ name := "U", type := (.object "jdk/internal/misc/Unsafe"), accessFlags := 24, slot := 0, constantValue := 0 }, { name := "BIG_ENDIAN", type := .boolean, accessFlags := 26, slot := 1, constantValue := 0 }, { name := "LOG2_ARRAY_BOOLEAN_INDEX_SCALE", type := .int, accessFlags := 25, slot := 2, constantValue := 0 }, { name := "LOG2_ARRAY_BYTE_INDEX_SCALE", type := .int, accessFlags := 25, slot := 3, constantValue := 0 }, { name := "LOG2_ARRAY_CHAR_INDEX_SCALE", type := .int, accessFlags := 25, slot := 4, constantValue := 0 }, { name := "LOG2_ARRAY_SHORT_INDEX_SCALE", type := .int, accessFlags := 25, slot := 5, constantValue := 0 }, { name := "LOG2_ARRAY_INT_INDEX_SCALE", type := .int, accessFlags := 25, slot := 6, constantValue := 0 }, { name := "LOG2_ARRAY_LONG_INDEX_SCALE", type := .int, accessFlags := 25, slot := 7, constantValue := 0 }, { name := "LOG2_ARRAY_FLOAT_INDEX_SCALE", type := .int, accessFlags := 25, slot := 8, constantValue := 0 }, { name := "LOG2_ARRAY_DOUBLE_INDEX_SCALE", type := .int, accessFlags := 25, slot := 9, constantValue := 0 }, { name := "LOG2_BYTE_BIT_SIZE", type := .int, accessFlags := 26, slot := 10, constantValue := 0 }, { name := "T_BOOLEAN", type := .int, accessFlags := 25, slot := 11, constantValue := 0 }, { name := "T_CHAR", type := .int, accessFlags := 25, slot := 12, constantValue := 0 }, { name := "T_FLOAT", type := .int, accessFlags := 25, slot := 13, constantValue := 0 }, { name := "T_DOUBLE", type := .int, accessFlags := 25, slot := 14, constantValue := 0 }, { name := "T_BYTE", type := .int, accessFlags := 25, slot := 15, constantValue := 0 }, { name := "T_SHORT", type := .int, accessFlags := 25, slot := 16, constantValue := 0 }, { name := "T_INT", type := .int, accessFlags := 25, slot := 17, constantValue := 0 }, { name := "T_LONG", type := .int, accessFlags := 25, slot := 18, constantValue := 0 }, { name := "JLA", type := (.object "jdk/internal/access/JavaLangAccess"), accessFlags := 26, slot := 19, constantValue := 0 }, { name := "SOFT_MAX_ARRAY_LENGTH", type := .int, accessFlags := 25, slot := 20, constantValue := 0 }]
  methods := #[k14m0, k14m1, k14m2]
  instanceTypes := #[]
  staticTypes := #[(.object "jdk/internal/misc/Unsafe"), .boolean, .int, .int, .int, .int, .int, .int, .int, .int, .int, .int, .int, .int, .int, .int, .int, .int, .int, (.object "jdk/internal/access/JavaLangAccess"), .int]
  resolved := Array.replicate 378 none
  statics := none }

def pool15 : Array CpInfo := pool [(1, u "java/lang/Cloneable"), (0, .class_ 1), (0, u "java/lang/Object"), (0, .class_ 3)] 3

/-- java/lang/Cloneable -/
def k15 : Class := { plain "java/lang/Cloneable" (some 0) with
  accessFlags := 1537
  interfaces := #[]
  cf := some (fileOf pool15 2 #[] #[] 1537 4 #[] #[])
  fields := #[]
  methods := #[]
  instanceTypes := #[]
  staticTypes := #[]
  resolved := Array.replicate 8 none
  statics := none }

/-- the primitive byte -/
def k16 : Class := { plain "byte" none with kind := .primitive 'B', accessFlags := 0x411 }
/-- [B -/
def k17 : Class := { plain "[B" (some 0) with kind := .array 16 .byte, interfaces := #[15, 2], accessFlags := 1041 }

/-- the primitive char -/
def k18 : Class := { plain "char" none with kind := .primitive 'C', accessFlags := 0x411 }
/-- [C -/
def k19 : Class := { plain "[C" (some 0) with kind := .array 18 .char, interfaces := #[15, 2], accessFlags := 1041 }

/-- the primitive int -/
def k20 : Class := { plain "int" none with kind := .primitive 'I', accessFlags := 0x411 }
/-- [I -/
def k21 : Class := { plain "[I" (some 0) with kind := .array 20 .int, interfaces := #[15, 2], accessFlags := 1041 }

/-- the primitive long -/
def k22 : Class := { plain "long" none with kind := .primitive 'J', accessFlags := 0x411 }
/-- [J -/
def k23 : Class := { plain "[J" (some 0) with kind := .array 22 .long, interfaces := #[15, 2], accessFlags := 1041 }

/-- [Ljava/lang/String; -/
def k24 : Class := { plain "[Ljava/lang/String;" (some 0) with kind := .array 7 (.object "java/lang/String"), interfaces := #[15, 2], accessFlags := 1041 }

def k25 : Class := { plain "[[I" (some 0) with kind := .array 21 (.array .int), interfaces := #[15, 2], accessFlags := 1041 }
def heap : Heap := #[{ cls := 7, slots := #[.long 0, .int 1, .null, .int 0, .null, .int 0, .int 0], vm := .statics 7 },
  { cls := 13, slots := #[.null, .null, .null], vm := .statics 13 }]
def classes : Array Class := #[k0, k1, k2, k3, k4, k5, k6, k7, k8, k9, k10, k11, k12, k13, k14, k15, k16, k17, k18, k19, k20, k21, k22, k23, k24, k25]
def interned : List (Array UInt16 × Addr) := []
def slotsUsed : Nat := 10
def theMethod : MethodId := ⟨1, 1⟩
def args0 : Array Value := #[.int 65, .int 66, .int 7, .int 5, .int 6]
def aboutOver (below : List Frame) : State where
  vm := { classes := classes, interned := interned.toArray }
  heap := heap
  slotsUsed := slotsUsed
  threads := #[{ frames := .invoking theMethod args0 :: below }]
def below0 : List Frame := [.native { method := ⟨0, 0⟩, args := #[] }]
def about1 : State := aboutOver below0
def p0 : Program := .bare "" "" ""
def e0 : Env := launch0.env 0 0 0
theorem w_frames : about1.frames = Frame.invoking theMethod args0 :: below0 := rfl
set_option maxRecDepth 65536 in
theorem w_args : argsFit about1.vm theMethod args0 = true := by decide +kernel
set_option maxRecDepth 65536 in
theorem w_heap : heapFits about1 = true := by decide +kernel
set_option maxRecDepth 65536 in
theorem w_runnable : about1.curStatus? = some .runnable := by decide +kernel
set_option maxRecDepth 65536 in
theorem w_alone : about1.alone = true := by decide +kernel
set_option maxRecDepth 65536 in
theorem w_named : about1.methodNamed? x = some theMethod := by decide +kernel
set_option maxRecDepth 65536 in
theorem w_hears : about1.hears theMethod below0 = true := by decide +kernel
set_option maxRecDepth 65536 in
theorem w_ripe : about1.ripe theMethod args0 below0 = true := by decide +kernel
theorem w_running : about1.status = .running := rfl
set_option maxRecDepth 65536 in
theorem w_room : about1.hasRoom e0.platform room_1 = true :=
  launch0.hasRoom_least _ room_1 (by decide +kernel) (by decide +kernel) (by decide +kernel) (by decide +kernel) (by decide +kernel) (by decide +kernel)
theorem allAtoms_all (ts : List Jvm.Cond) (a : Array Jvm.Value) (st : Jvm.State) : (allAtoms ts).before a st = ts.all (fun c => c.before a st) := by
  induction ts with
  | nil => rfl
  | cons c t ih =>
    show (Jvm.Cond.and c (allAtoms t)).before a st = _
    rw [Jvm.Cond.before_and, ih, List.all_cons]
def words1 : List Jvm.Cond := Jvm.Cond.code x code maxLocals ret :: tables_1
/-- a 'code' word, met by the world's own term for the bytes: nothing is compared byte by byte -/
theorem code_word {y : MethodName} {bytes : ByteArray} {mx : Nat} {rt : Option FieldType} {a : Array Value} {s : State} {m : MethodId} {meth : Method} {c : Code} (h1 : s.methodNamed? y = some m) (h2 : s.vm.method? m = some meth) (h3 : meth.code = some c) (h4 : c.code = bytes)
    (h5 : (c.maxLocals == mx && c.exceptionTable.isEmpty && decide (c.maxStack ≤ mostOperands) && decide (meth.sig.returnType = rt) && !meth.locks && decide (parseMethodDescriptor y.desc = some meth.sig)) = true) : (Jvm.Cond.code y bytes mx rt).before a s = true := by
  simp only [Bool.and_eq_true, beq_iff_eq, Bool.not_eq_true', decide_eq_true_eq] at h5
  obtain ⟨⟨⟨⟨⟨g1, g2⟩, g3⟩, g4⟩, g5⟩, g6⟩ := h5
  simp [Cond.before, Cond.holds, Cond.value, h1, h2, h3, h4, g1, g2, g3, g4, g5, g6]
def isCode : Jvm.Cond → Bool
  | .code _ _ _ _ => true
  | _ => false
theorem all_split {L : List Jvm.Cond} {P : Jvm.Cond → Bool} (h1 : L.all (fun c => isCode c || P c) = true) (h2 : ∀ c ∈ L.filter isCode, P c = true) : L.all P = true := by
  refine List.all_eq_true.mpr fun c hc => ?_
  have h := List.all_eq_true.mp h1 c hc
  rcases Bool.eq_false_or_eq_true (isCode c) with hi | hi
  · exact h2 c (List.mem_filter.mpr ⟨hc, hi⟩)
  · simpa [hi] using h
set_option maxRecDepth 65536 in
theorem w_c0 : (Jvm.Cond.code x code maxLocals ret).before args0 about1 = true := code_word (m := ⟨1, 1⟩) (meth := k1m1) (c := k1c1) (by decide +kernel) rfl rfl rfl (by decide +kernel)
set_option maxRecDepth 65536 in
theorem w_c1 : (Jvm.Cond.code ({ cls := "java/lang/String", name := "<init>", desc := "([C)V" } : Jvm.MethodName) jdk_42_method_3_code (2 : Nat) (Option.none : Option Jvm.ClassFile.FieldType)).before args0 about1 = true := code_word (m := ⟨7, 1⟩) (meth := k7m1) (c := k7c1) (by decide +kernel) rfl rfl rfl (by decide +kernel)
set_option maxRecDepth 65536 in
theorem w_c2 : (Jvm.Cond.code ({ cls := "java/lang/String", name := "<init>", desc := "([CIILjava/lang/Void;)V" } : Jvm.MethodName) jdk_42_method_149_code (6 : Nat) (Option.none : Option Jvm.ClassFile.FieldType)).before args0 about1 = true := code_word (m := ⟨7, 5⟩) (meth := k7m5) (c := k7c5) (by decide +kernel) rfl rfl rfl (by decide +kernel)
set_option maxRecDepth 65536 in
theorem w_c3 : (Jvm.Cond.code ({ cls := "java/lang/Object", name := "<init>", desc := "()V" } : Jvm.MethodName) object_method_1_code (1 : Nat) (Option.none : Option Jvm.ClassFile.FieldType)).before args0 about1 = true := code_word (m := ⟨0, 0⟩) (meth := k0m0) (c := k0c0) (by decide +kernel) rfl rfl rfl (by decide +kernel)
set_option maxRecDepth 65536 in
theorem w_c4 : (Jvm.Cond.code ({ cls := "java/lang/StringUTF16", name := "compress", desc := "([CII)[B" } : Jvm.MethodName) jdk_52_method_16_code (6 : Nat) (Option.some (Jvm.ClassFile.FieldType.array Jvm.ClassFile.FieldType.byte))).before args0 about1 = true := code_word (m := ⟨8, 2⟩) (meth := k8m2) (c := k8c2) (by decide +kernel) rfl rfl rfl (by decide +kernel)
set_option maxRecDepth 65536 in
theorem w_c5 : (Jvm.Cond.code ({ cls := "java/lang/StringUTF16", name := "compress", desc := "([CI[BII)I" } : Jvm.MethodName) jdk_52_method_21_code (7 : Nat) (Option.some Jvm.ClassFile.FieldType.int)).before args0 about1 = true := code_word (m := ⟨8, 3⟩) (meth := k8m3) (c := k8c3) (by decide +kernel) rfl rfl rfl (by decide +kernel)
set_option maxRecDepth 65536 in
theorem w_c6 : (Jvm.Cond.code ({ cls := "java/lang/StringUTF16", name := "coderFromArrayLen", desc := "([BI)B" } : Jvm.MethodName) jdk_52_method_15_code (2 : Nat) (Option.some Jvm.ClassFile.FieldType.byte)).before args0 about1 = true := code_word (m := ⟨8, 1⟩) (meth := k8m1) (c := k8c1) (by decide +kernel) rfl rfl rfl (by decide +kernel)
set_option maxRecDepth 65536 in
theorem w_c7 : (Jvm.Cond.code ({ cls := "com/example/explicit_grants/explicitgrants/SubjectLines", name := "<init>", desc := "()V" } : Jvm.MethodName) prog_18_method_1_code (1 : Nat) (Option.none : Option Jvm.ClassFile.FieldType)).before args0 about1 = true := code_word (m := ⟨9, 0⟩) (meth := k9m0) (c := k9c0) (by decide +kernel) rfl rfl rfl (by decide +kernel)
set_option maxRecDepth 65536 in
theorem w_c8 : (Jvm.Cond.code ({ cls := "com/example/explicit_grants/explicitgrants/SubjectLines", name := "setStatus", desc := "(Ljava/lang/String;ZZ)V" } : Jvm.MethodName) prog_18_method_7_code (6 : Nat) (Option.none : Option Jvm.ClassFile.FieldType)).before args0 about1 = true := code_word (m := ⟨9, 3⟩) (meth := k9m3) (c := k9c3) (by decide +kernel) rfl rfl rfl (by decide +kernel)
set_option maxRecDepth 65536 in
theorem w_c9 : (Jvm.Cond.code ({ cls := "com/example/explicit_grants/explicitgrants/Interner$Key", name := "of", desc := "(Ljava/lang/String;)Lcom/example/explicit_grants/explicitgrants/Interner$Key;" } : Jvm.MethodName) prog_11_method_2_code (13 : Nat) (Option.some (Jvm.ClassFile.FieldType.object "com/example/explicit_grants/explicitgrants/Interner$Key"))).before args0 about1 = true := code_word (m := ⟨11, 1⟩) (meth := k11m1) (c := k11c1) (by decide +kernel) rfl rfl rfl (by decide +kernel)
set_option maxRecDepth 65536 in
theorem w_c10 : (Jvm.Cond.code ({ cls := "java/lang/String", name := "length", desc := "()I" } : Jvm.MethodName) jdk_42_method_54_code (1 : Nat) (Option.some Jvm.ClassFile.FieldType.int)).before args0 about1 = true := code_word (m := ⟨7, 2⟩) (meth := k7m2) (c := k7c2) (by decide +kernel) rfl rfl rfl (by decide +kernel)
set_option maxRecDepth 65536 in
theorem w_c11 : (Jvm.Cond.code ({ cls := "java/lang/String", name := "coder", desc := "()B" } : Jvm.MethodName) jdk_42_method_152_code (1 : Nat) (Option.some Jvm.ClassFile.FieldType.byte)).before args0 about1 = true := code_word (m := ⟨7, 6⟩) (meth := k7m6) (c := k7c6) (by decide +kernel) rfl rfl rfl (by decide +kernel)
set_option maxRecDepth 65536 in
theorem w_c12 : (Jvm.Cond.code ({ cls := "java/lang/String", name := "charAt", desc := "(I)C" } : Jvm.MethodName) jdk_42_method_56_code (2 : Nat) (Option.some Jvm.ClassFile.FieldType.char)).before args0 about1 = true := code_word (m := ⟨7, 3⟩) (meth := k7m3) (c := k7c3) (by decide +kernel) rfl rfl rfl (by decide +kernel)
set_option maxRecDepth 65536 in
theorem w_c13 : (Jvm.Cond.code ({ cls := "java/lang/String", name := "isLatin1", desc := "()Z" } : Jvm.MethodName) jdk_42_method_154_code (1 : Nat) (Option.some Jvm.ClassFile.FieldType.boolean)).before args0 about1 = true := code_word (m := ⟨7, 7⟩) (meth := k7m7) (c := k7c7) (by decide +kernel) rfl rfl rfl (by decide +kernel)
set_option maxRecDepth 65536 in
theorem w_c14 : (Jvm.Cond.code ({ cls := "java/lang/StringLatin1", name := "charAt", desc := "([BI)C" } : Jvm.MethodName) jdk_43_method_2_code (2 : Nat) (Option.some Jvm.ClassFile.FieldType.char)).before args0 about1 = true := code_word (m := ⟨12, 1⟩) (meth := k12m1) (c := k12c1) (by decide +kernel) rfl rfl rfl (by decide +kernel)
set_option maxRecDepth 65536 in
theorem w_c15 : (Jvm.Cond.code ({ cls := "java/lang/String", name := "checkIndex", desc := "(II)V" } : Jvm.MethodName) jdk_42_method_155_code (2 : Nat) (Option.none : Option Jvm.ClassFile.FieldType)).before args0 about1 = true := code_word (m := ⟨7, 8⟩) (meth := k7m8) (c := k7c8) (by decide +kernel) rfl rfl rfl (by decide +kernel)
set_option maxRecDepth 65536 in
theorem w_c16 : (Jvm.Cond.code ({ cls := "jdk/internal/util/Preconditions", name := "checkIndex", desc := "(IILjava/util/function/BiFunction;)I" } : Jvm.MethodName) jdk_41_method_11_code (3 : Nat) (Option.some Jvm.ClassFile.FieldType.int)).before args0 about1 = true := code_word (m := ⟨13, 1⟩) (meth := k13m1) (c := k13c1) (by decide +kernel) rfl rfl rfl (by decide +kernel)
set_option maxRecDepth 65536 in
theorem w_c17 : (Jvm.Cond.code ({ cls := "com/example/explicit_grants/explicitgrants/Interner$Key", name := "hash", desc := "(Ljava/lang/String;)I" } : Jvm.MethodName) prog_11_method_4_code (2 : Nat) (Option.some Jvm.ClassFile.FieldType.int)).before args0 about1 = true := code_word (m := ⟨11, 3⟩) (meth := k11m3) (c := k11c3) (by decide +kernel) rfl rfl rfl (by decide +kernel)
set_option maxRecDepth 65536 in
theorem w_c18 : (Jvm.Cond.code ({ cls := "java/lang/String", name := "hashCode", desc := "()I" } : Jvm.MethodName) jdk_42_method_78_code (2 : Nat) (Option.some Jvm.ClassFile.FieldType.int)).before args0 about1 = true := code_word (m := ⟨7, 4⟩) (meth := k7m4) (c := k7c4) (by decide +kernel) rfl rfl rfl (by decide +kernel)
set_option maxRecDepth 65536 in
theorem w_c19 : (Jvm.Cond.code ({ cls := "java/lang/StringLatin1", name := "hashCode", desc := "([B)I" } : Jvm.MethodName) jdk_43_method_21_code (1 : Nat) (Option.some Jvm.ClassFile.FieldType.int)).before args0 about1 = true := code_word (m := ⟨12, 2⟩) (meth := k12m2) (c := k12c2) (by decide +kernel) rfl rfl rfl (by decide +kernel)
set_option maxRecDepth 65536 in
theorem w_c20 : (Jvm.Cond.code ({ cls := "jdk/internal/util/ArraysSupport", name := "vectorizedHashCode", desc := "(Ljava/lang/Object;IIII)I" } : Jvm.MethodName) jdk_48_method_4_code (5 : Nat) (Option.some Jvm.ClassFile.FieldType.int)).before args0 about1 = true := code_word (m := ⟨14, 1⟩) (meth := k14m1) (c := k14c1) (by decide +kernel) rfl rfl rfl (by decide +kernel)
set_option maxRecDepth 65536 in
theorem w_c21 : (Jvm.Cond.code ({ cls := "jdk/internal/util/ArraysSupport", name := "signedHashCode", desc := "(I[BII)I" } : Jvm.MethodName) jdk_48_method_5_code (6 : Nat) (Option.some Jvm.ClassFile.FieldType.int)).before args0 about1 = true := code_word (m := ⟨14, 2⟩) (meth := k14m2) (c := k14c2) (by decide +kernel) rfl rfl rfl (by decide +kernel)
set_option maxRecDepth 65536 in
theorem w_c22 : (Jvm.Cond.code ({ cls := "com/example/explicit_grants/explicitgrants/Interner$Key", name := "<init>", desc := "(Ljava/lang/String;IJJJ)V" } : Jvm.MethodName) prog_11_method_1_code (9 : Nat) (Option.none : Option Jvm.ClassFile.FieldType)).before args0 about1 = true := code_word (m := ⟨11, 0⟩) (meth := k11m0) (c := k11c0) (by decide +kernel) rfl rfl rfl (by decide +kernel)
set_option maxRecDepth 65536 in
theorem w_c23 : (Jvm.Cond.code ({ cls := "java/lang/Record", name := "<init>", desc := "()V" } : Jvm.MethodName) jdk_30_method_1_code (1 : Nat) (Option.none : Option Jvm.ClassFile.FieldType)).before args0 about1 = true := code_word (m := ⟨10, 0⟩) (meth := k10m0) (c := k10c0) (by decide +kernel) rfl rfl rfl (by decide +kernel)
set_option maxRecDepth 65536 in
theorem w_c24 : (Jvm.Cond.code ({ cls := "com/example/explicit_grants/explicitgrants/SubjectLines", name := "of", desc := "(Lcom/example/explicit_grants/explicitgrants/Interner$Key;)[I" } : Jvm.MethodName) prog_18_method_2_code (5 : Nat) (Option.some (Jvm.ClassFile.FieldType.array Jvm.ClassFile.FieldType.int))).before args0 about1 = true := code_word (m := ⟨9, 1⟩) (meth := k9m1) (c := k9c1) (by decide +kernel) rfl rfl rfl (by decide +kernel)
set_option maxRecDepth 65536 in
theorem w_c25 : (Jvm.Cond.code ({ cls := "com/example/explicit_grants/explicitgrants/Interner$Key", name := "hash", desc := "()I" } : Jvm.MethodName) prog_11_method_9_code (1 : Nat) (Option.some Jvm.ClassFile.FieldType.int)).before args0 about1 = true := code_word (m := ⟨11, 4⟩) (meth := k11m4) (c := k11c4) (by decide +kernel) rfl rfl rfl (by decide +kernel)
set_option maxRecDepth 65536 in
theorem w_c26 : (Jvm.Cond.code ({ cls := "com/example/explicit_grants/explicitgrants/SubjectLines", name := "isAdministrator", desc := "([I)Z" } : Jvm.MethodName) prog_18_method_4_code (1 : Nat) (Option.some Jvm.ClassFile.FieldType.boolean)).before args0 about1 = true := code_word (m := ⟨9, 2⟩) (meth := k9m2) (c := k9c2) (by decide +kernel) rfl rfl rfl (by decide +kernel)
set_option maxRecDepth 65536 in
theorem w_c27 : (Jvm.Cond.code ({ cls := "com/example/explicit_grants/explicitgrants/SubjectLines", name := "add", desc := "(Ljava/lang/String;IIIII)V" } : Jvm.MethodName) prog_18_method_8_code (10 : Nat) (Option.none : Option Jvm.ClassFile.FieldType)).before args0 about1 = true := code_word (m := ⟨9, 4⟩) (meth := k9m4) (c := k9c4) (by decide +kernel) rfl rfl rfl (by decide +kernel)
set_option maxRecDepth 65536 in
theorem w_c28 : (Jvm.Cond.code ({ cls := "com/example/explicit_grants/explicitgrants/SubjectLines", name := "held", desc := "(Ljava/lang/String;)I" } : Jvm.MethodName) prog_18_method_10_code (7 : Nat) (Option.some Jvm.ClassFile.FieldType.int)).before args0 about1 = true := code_word (m := ⟨9, 5⟩) (meth := k9m5) (c := k9c5) (by decide +kernel) rfl rfl rfl (by decide +kernel)
set_option maxRecDepth 65536 in
theorem w_c29 : (Jvm.Cond.code ({ cls := "com/example/explicit_grants/explicitgrants/SubjectLines", name := "slotOf", desc := "(Lcom/example/explicit_grants/explicitgrants/Interner$Key;)I" } : Jvm.MethodName) prog_18_method_11_code (4 : Nat) (Option.some Jvm.ClassFile.FieldType.int)).before args0 about1 = true := code_word (m := ⟨9, 6⟩) (meth := k9m6) (c := k9c6) (by decide +kernel) rfl rfl rfl (by decide +kernel)
set_option maxRecDepth 65536 in
theorem w_c30 : (Jvm.Cond.code ({ cls := "com/example/explicit_grants/explicitgrants/Interner$Key", name := "first", desc := "()J" } : Jvm.MethodName) prog_11_method_10_code (1 : Nat) (Option.some Jvm.ClassFile.FieldType.long)).before args0 about1 = true := code_word (m := ⟨11, 5⟩) (meth := k11m5) (c := k11c5) (by decide +kernel) rfl rfl rfl (by decide +kernel)
set_option maxRecDepth 65536 in
theorem w_c31 : (Jvm.Cond.code ({ cls := "com/example/explicit_grants/explicitgrants/Interner$Key", name := "second", desc := "()J" } : Jvm.MethodName) prog_11_method_11_code (1 : Nat) (Option.some Jvm.ClassFile.FieldType.long)).before args0 about1 = true := code_word (m := ⟨11, 6⟩) (meth := k11m6) (c := k11c6) (by decide +kernel) rfl rfl rfl (by decide +kernel)
set_option maxRecDepth 65536 in
theorem w_c32 : (Jvm.Cond.code ({ cls := "com/example/explicit_grants/explicitgrants/Interner$Key", name := "third", desc := "()J" } : Jvm.MethodName) prog_11_method_12_code (1 : Nat) (Option.some Jvm.ClassFile.FieldType.long)).before args0 about1 = true := code_word (m := ⟨11, 7⟩) (meth := k11m7) (c := k11c7) (by decide +kernel) rfl rfl rfl (by decide +kernel)
set_option maxRecDepth 65536 in
theorem w_c33 : (Jvm.Cond.code ({ cls := "com/example/explicit_grants/explicitgrants/SubjectLines", name := "place", desc := "([IIIIII)I" } : Jvm.MethodName) prog_18_method_17_code (10 : Nat) (Option.some Jvm.ClassFile.FieldType.int)).before args0 about1 = true := code_word (m := ⟨9, 8⟩) (meth := k9m8) (c := k9c8) (by decide +kernel) rfl rfl rfl (by decide +kernel)
set_option maxRecDepth 65536 in
theorem w_c34 : (Jvm.Cond.code ({ cls := "com/example/explicit_grants/explicitgrants/SubjectLines", name := "isDense", desc := "([I)Z" } : Jvm.MethodName) prog_18_method_22_code (1 : Nat) (Option.some Jvm.ClassFile.FieldType.boolean)).before args0 about1 = true := code_word (m := ⟨9, 9⟩) (meth := k9m9) (c := k9c9) (by decide +kernel) rfl rfl rfl (by decide +kernel)
set_option maxRecDepth 65536 in
theorem w_c35 : (Jvm.Cond.code ({ cls := "com/example/explicit_grants/explicitgrants/SubjectLines", name := "capacity", desc := "([I)I" } : Jvm.MethodName) prog_18_method_23_code (1 : Nat) (Option.some Jvm.ClassFile.FieldType.int)).before args0 about1 = true := code_word (m := ⟨9, 10⟩) (meth := k9m10) (c := k9c10) (by decide +kernel) rfl rfl rfl (by decide +kernel)
set_option maxRecDepth 65536 in
theorem w_c36 : (Jvm.Cond.code ({ cls := "com/example/explicit_grants/explicitgrants/SubjectLines", name := "mask", desc := "([I)I" } : Jvm.MethodName) prog_18_method_24_code (1 : Nat) (Option.some Jvm.ClassFile.FieldType.int)).before args0 about1 = true := code_word (m := ⟨9, 11⟩) (meth := k9m11) (c := k9c11) (by decide +kernel) rfl rfl rfl (by decide +kernel)
set_option maxRecDepth 65536 in
theorem w_c37 : (Jvm.Cond.code ({ cls := "com/example/explicit_grants/explicitgrants/SubjectLines", name := "holds", desc := "([IILcom/example/explicit_grants/explicitgrants/Interner$Key;)Z" } : Jvm.MethodName) prog_18_method_12_code (4 : Nat) (Option.some Jvm.ClassFile.FieldType.boolean)).before args0 about1 = true := code_word (m := ⟨9, 7⟩) (meth := k9m7) (c := k9c7) (by decide +kernel) rfl rfl rfl (by decide +kernel)
set_option maxRecDepth 65536 in
theorem w_c38 : (Jvm.Cond.code ({ cls := "com/example/explicit_grants/explicitgrants/Interner$Key", name := "isPacked", desc := "()Z" } : Jvm.MethodName) prog_11_method_3_code (1 : Nat) (Option.some Jvm.ClassFile.FieldType.boolean)).before args0 about1 = true := code_word (m := ⟨11, 2⟩) (meth := k11m2) (c := k11c2) (by decide +kernel) rfl rfl rfl (by decide +kernel)
def codes1 : List Jvm.Cond := [Jvm.Cond.code x code maxLocals ret, Jvm.Cond.code ({ cls := "java/lang/String", name := "<init>", desc := "([C)V" } : Jvm.MethodName) jdk_42_method_3_code (2 : Nat) (Option.none : Option Jvm.ClassFile.FieldType), Jvm.Cond.code ({ cls := "java/lang/String", name := "<init>", desc := "([CIILjava/lang/Void;)V" } : Jvm.MethodName) jdk_42_method_149_code (6 : Nat) (Option.none : Option Jvm.ClassFile.FieldType), Jvm.Cond.code ({ cls := "java/lang/Object", name := "<init>", desc := "()V" } : Jvm.MethodName) object_method_1_code (1 : Nat) (Option.none : Option Jvm.ClassFile.FieldType), Jvm.Cond.code ({ cls := "java/lang/StringUTF16", name := "compress", desc := "([CII)[B" } : Jvm.MethodName) jdk_52_method_16_code (6 : Nat) (Option.some (Jvm.ClassFile.FieldType.array Jvm.ClassFile.FieldType.byte)), Jvm.Cond.code ({ cls := "java/lang/StringUTF16", name := "compress", desc := "([CI[BII)I" } : Jvm.MethodName) jdk_52_method_21_code (7 : Nat) (Option.some Jvm.ClassFile.FieldType.int), Jvm.Cond.code ({ cls := "java/lang/StringUTF16", name := "coderFromArrayLen", desc := "([BI)B" } : Jvm.MethodName) jdk_52_method_15_code (2 : Nat) (Option.some Jvm.ClassFile.FieldType.byte), Jvm.Cond.code ({ cls := "com/example/explicit_grants/explicitgrants/SubjectLines", name := "<init>", desc := "()V" } : Jvm.MethodName) prog_18_method_1_code (1 : Nat) (Option.none : Option Jvm.ClassFile.FieldType), Jvm.Cond.code ({ cls := "com/example/explicit_grants/explicitgrants/SubjectLines", name := "setStatus", desc := "(Ljava/lang/String;ZZ)V" } : Jvm.MethodName) prog_18_method_7_code (6 : Nat) (Option.none : Option Jvm.ClassFile.FieldType), Jvm.Cond.code ({ cls := "com/example/explicit_grants/explicitgrants/Interner$Key", name := "of", desc := "(Ljava/lang/String;)Lcom/example/explicit_grants/explicitgrants/Interner$Key;" } : Jvm.MethodName) prog_11_method_2_code (13 : Nat) (Option.some (Jvm.ClassFile.FieldType.object "com/example/explicit_grants/explicitgrants/Interner$Key")), Jvm.Cond.code ({ cls := "java/lang/String", name := "length", desc := "()I" } : Jvm.MethodName) jdk_42_method_54_code (1 : Nat) (Option.some Jvm.ClassFile.FieldType.int), Jvm.Cond.code ({ cls := "java/lang/String", name := "coder", desc := "()B" } : Jvm.MethodName) jdk_42_method_152_code (1 : Nat) (Option.some Jvm.ClassFile.FieldType.byte), Jvm.Cond.code ({ cls := "java/lang/String", name := "charAt", desc := "(I)C" } : Jvm.MethodName) jdk_42_method_56_code (2 : Nat) (Option.some Jvm.ClassFile.FieldType.char), Jvm.Cond.code ({ cls := "java/lang/String", name := "isLatin1", desc := "()Z" } : Jvm.MethodName) jdk_42_method_154_code (1 : Nat) (Option.some Jvm.ClassFile.FieldType.boolean), Jvm.Cond.code ({ cls := "java/lang/StringLatin1", name := "charAt", desc := "([BI)C" } : Jvm.MethodName) jdk_43_method_2_code (2 : Nat) (Option.some Jvm.ClassFile.FieldType.char), Jvm.Cond.code ({ cls := "java/lang/String", name := "checkIndex", desc := "(II)V" } : Jvm.MethodName) jdk_42_method_155_code (2 : Nat) (Option.none : Option Jvm.ClassFile.FieldType), Jvm.Cond.code ({ cls := "jdk/internal/util/Preconditions", name := "checkIndex", desc := "(IILjava/util/function/BiFunction;)I" } : Jvm.MethodName) jdk_41_method_11_code (3 : Nat) (Option.some Jvm.ClassFile.FieldType.int), Jvm.Cond.code ({ cls := "com/example/explicit_grants/explicitgrants/Interner$Key", name := "hash", desc := "(Ljava/lang/String;)I" } : Jvm.MethodName) prog_11_method_4_code (2 : Nat) (Option.some Jvm.ClassFile.FieldType.int), Jvm.Cond.code ({ cls := "java/lang/String", name := "hashCode", desc := "()I" } : Jvm.MethodName) jdk_42_method_78_code (2 : Nat) (Option.some Jvm.ClassFile.FieldType.int), Jvm.Cond.code ({ cls := "java/lang/StringLatin1", name := "hashCode", desc := "([B)I" } : Jvm.MethodName) jdk_43_method_21_code (1 : Nat) (Option.some Jvm.ClassFile.FieldType.int), Jvm.Cond.code ({ cls := "jdk/internal/util/ArraysSupport", name := "vectorizedHashCode", desc := "(Ljava/lang/Object;IIII)I" } : Jvm.MethodName) jdk_48_method_4_code (5 : Nat) (Option.some Jvm.ClassFile.FieldType.int), Jvm.Cond.code ({ cls := "jdk/internal/util/ArraysSupport", name := "signedHashCode", desc := "(I[BII)I" } : Jvm.MethodName) jdk_48_method_5_code (6 : Nat) (Option.some Jvm.ClassFile.FieldType.int), Jvm.Cond.code ({ cls := "com/example/explicit_grants/explicitgrants/Interner$Key", name := "<init>", desc := "(Ljava/lang/String;IJJJ)V" } : Jvm.MethodName) prog_11_method_1_code (9 : Nat) (Option.none : Option Jvm.ClassFile.FieldType), Jvm.Cond.code ({ cls := "java/lang/Record", name := "<init>", desc := "()V" } : Jvm.MethodName) jdk_30_method_1_code (1 : Nat) (Option.none : Option Jvm.ClassFile.FieldType), Jvm.Cond.code ({ cls := "com/example/explicit_grants/explicitgrants/SubjectLines", name := "of", desc := "(Lcom/example/explicit_grants/explicitgrants/Interner$Key;)[I" } : Jvm.MethodName) prog_18_method_2_code (5 : Nat) (Option.some (Jvm.ClassFile.FieldType.array Jvm.ClassFile.FieldType.int)), Jvm.Cond.code ({ cls := "com/example/explicit_grants/explicitgrants/Interner$Key", name := "hash", desc := "()I" } : Jvm.MethodName) prog_11_method_9_code (1 : Nat) (Option.some Jvm.ClassFile.FieldType.int), Jvm.Cond.code ({ cls := "com/example/explicit_grants/explicitgrants/SubjectLines", name := "isAdministrator", desc := "([I)Z" } : Jvm.MethodName) prog_18_method_4_code (1 : Nat) (Option.some Jvm.ClassFile.FieldType.boolean), Jvm.Cond.code ({ cls := "com/example/explicit_grants/explicitgrants/SubjectLines", name := "add", desc := "(Ljava/lang/String;IIIII)V" } : Jvm.MethodName) prog_18_method_8_code (10 : Nat) (Option.none : Option Jvm.ClassFile.FieldType), Jvm.Cond.code ({ cls := "com/example/explicit_grants/explicitgrants/SubjectLines", name := "held", desc := "(Ljava/lang/String;)I" } : Jvm.MethodName) prog_18_method_10_code (7 : Nat) (Option.some Jvm.ClassFile.FieldType.int), Jvm.Cond.code ({ cls := "com/example/explicit_grants/explicitgrants/SubjectLines", name := "slotOf", desc := "(Lcom/example/explicit_grants/explicitgrants/Interner$Key;)I" } : Jvm.MethodName) prog_18_method_11_code (4 : Nat) (Option.some Jvm.ClassFile.FieldType.int), Jvm.Cond.code ({ cls := "com/example/explicit_grants/explicitgrants/Interner$Key", name := "first", desc := "()J" } : Jvm.MethodName) prog_11_method_10_code (1 : Nat) (Option.some Jvm.ClassFile.FieldType.long), Jvm.Cond.code ({ cls := "com/example/explicit_grants/explicitgrants/Interner$Key", name := "second", desc := "()J" } : Jvm.MethodName) prog_11_method_11_code (1 : Nat) (Option.some Jvm.ClassFile.FieldType.long), Jvm.Cond.code ({ cls := "com/example/explicit_grants/explicitgrants/Interner$Key", name := "third", desc := "()J" } : Jvm.MethodName) prog_11_method_12_code (1 : Nat) (Option.some Jvm.ClassFile.FieldType.long), Jvm.Cond.code ({ cls := "com/example/explicit_grants/explicitgrants/SubjectLines", name := "place", desc := "([IIIIII)I" } : Jvm.MethodName) prog_18_method_17_code (10 : Nat) (Option.some Jvm.ClassFile.FieldType.int), Jvm.Cond.code ({ cls := "com/example/explicit_grants/explicitgrants/SubjectLines", name := "isDense", desc := "([I)Z" } : Jvm.MethodName) prog_18_method_22_code (1 : Nat) (Option.some Jvm.ClassFile.FieldType.boolean), Jvm.Cond.code ({ cls := "com/example/explicit_grants/explicitgrants/SubjectLines", name := "capacity", desc := "([I)I" } : Jvm.MethodName) prog_18_method_23_code (1 : Nat) (Option.some Jvm.ClassFile.FieldType.int), Jvm.Cond.code ({ cls := "com/example/explicit_grants/explicitgrants/SubjectLines", name := "mask", desc := "([I)I" } : Jvm.MethodName) prog_18_method_24_code (1 : Nat) (Option.some Jvm.ClassFile.FieldType.int), Jvm.Cond.code ({ cls := "com/example/explicit_grants/explicitgrants/SubjectLines", name := "holds", desc := "([IILcom/example/explicit_grants/explicitgrants/Interner$Key;)Z" } : Jvm.MethodName) prog_18_method_12_code (4 : Nat) (Option.some Jvm.ClassFile.FieldType.boolean), Jvm.Cond.code ({ cls := "com/example/explicit_grants/explicitgrants/Interner$Key", name := "isPacked", desc := "()Z" } : Jvm.MethodName) prog_11_method_3_code (1 : Nat) (Option.some Jvm.ClassFile.FieldType.boolean)]
set_option maxRecDepth 65536 in
theorem codes_eq : words1.filter isCode = codes1 := rfl
theorem w_codes : ∀ c ∈ words1.filter isCode, c.before args0 about1 = true := by
  rw [codes_eq]
  intro c hc
  simp only [codes1, List.mem_cons, List.not_mem_nil, or_false] at hc
  rcases hc with rfl | rfl | rfl | rfl | rfl | rfl | rfl | rfl | rfl | rfl | rfl | rfl | rfl | rfl | rfl | rfl | rfl | rfl | rfl | rfl | rfl | rfl | rfl | rfl | rfl | rfl | rfl | rfl | rfl | rfl | rfl | rfl | rfl | rfl | rfl | rfl | rfl | rfl | rfl
  · exact w_c0
  · exact w_c1
  · exact w_c2
  · exact w_c3
  · exact w_c4
  · exact w_c5
  · exact w_c6
  · exact w_c7
  · exact w_c8
  · exact w_c9
  · exact w_c10
  · exact w_c11
  · exact w_c12
  · exact w_c13
  · exact w_c14
  · exact w_c15
  · exact w_c16
  · exact w_c17
  · exact w_c18
  · exact w_c19
  · exact w_c20
  · exact w_c21
  · exact w_c22
  · exact w_c23
  · exact w_c24
  · exact w_c25
  · exact w_c26
  · exact w_c27
  · exact w_c28
  · exact w_c29
  · exact w_c30
  · exact w_c31
  · exact w_c32
  · exact w_c33
  · exact w_c34
  · exact w_c35
  · exact w_c36
  · exact w_c37
  · exact w_c38
set_option maxRecDepth 65536 in
theorem w_t1 : (words1.take 24).all (fun c => isCode c || c.before args0 about1) = true := by decide +kernel
set_option maxRecDepth 65536 in
theorem w_t2 : ((words1.drop 24).take 24).all (fun c => isCode c || c.before args0 about1) = true := by decide +kernel
set_option maxRecDepth 65536 in
theorem w_t3 : (((words1.drop 24).drop 24).take 24).all (fun c => isCode c || c.before args0 about1) = true := by decide +kernel
set_option maxRecDepth 65536 in
theorem w_t4 : ((((words1.drop 24).drop 24).drop 24).take 24).all (fun c => isCode c || c.before args0 about1) = true := by decide +kernel
set_option maxRecDepth 65536 in
theorem w_t5 : (((((words1.drop 24).drop 24).drop 24).drop 24).take 24).all (fun c => isCode c || c.before args0 about1) = true := by decide +kernel
set_option maxRecDepth 65536 in
theorem w_t6 : ((((((words1.drop 24).drop 24).drop 24).drop 24).drop 24).take 24).all (fun c => isCode c || c.before args0 about1) = true := by decide +kernel
set_option maxRecDepth 65536 in
theorem w_t7 : (((((((words1.drop 24).drop 24).drop 24).drop 24).drop 24).drop 24).take 24).all (fun c => isCode c || c.before args0 about1) = true := by decide +kernel
set_option maxRecDepth 65536 in
theorem w_t8 : ((((((((words1.drop 24).drop 24).drop 24).drop 24).drop 24).drop 24).drop 24).take 24).all (fun c => isCode c || c.before args0 about1) = true := by decide +kernel
set_option maxRecDepth 65536 in
theorem w_t9 : ((((((((words1.drop 24).drop 24).drop 24).drop 24).drop 24).drop 24).drop 24).drop 24).all (fun c => isCode c || c.before args0 about1) = true := by decide +kernel
theorem w_tables : (allAtoms (Jvm.Cond.code x code maxLocals ret :: tables_1)).before args0 about1 = true := by
  rw [allAtoms_all]
  show words1.all (fun c => c.before args0 about1) = true
  refine all_split ?_ w_codes
  rw [← List.take_append_drop 24 words1, List.all_append, w_t1, ← List.take_append_drop 24 (words1.drop 24), List.all_append, w_t2, ← List.take_append_drop 24 ((words1.drop 24).drop 24), List.all_append, w_t3, ← List.take_append_drop 24 (((words1.drop 24).drop 24).drop 24), List.all_append, w_t4, ← List.take_append_drop 24 ((((words1.drop 24).drop 24).drop 24).drop 24), List.all_append, w_t5, ← List.take_append_drop 24 (((((words1.drop 24).drop 24).drop 24).drop 24).drop 24), List.all_append, w_t6, ← List.take_append_drop 24 ((((((words1.drop 24).drop 24).drop 24).drop 24).drop 24).drop 24), List.all_append, w_t7, ← List.take_append_drop 24 (((((((words1.drop 24).drop 24).drop 24).drop 24).drop 24).drop 24).drop 24), List.all_append, w_t8, w_t9]
  rfl
set_option maxRecDepth 65536 in
theorem w_rest : rest_1_c.before args0 about1 = true := by decide +kernel
set_option maxRecDepth 65536 in
theorem w_case : (Jvm.Cond.and given_1 narrow_1).before args0 about1 = true := by decide +kernel
theorem w_applies : (headSpec (Jvm.Cond.code x code maxLocals ret :: tables_1) room_1).applies x e0.platform about1 = true :=
  (Spec.applies_iff w_frames).mpr ⟨w_running, w_runnable, w_alone, w_named, w_hears, w_ripe, w_room, w_tables⟩
theorem atStart : AtStart classFile x code maxLocals ret World_1 tables_1 room_1 Calls_1 rest_1 Pre_1 launch0 p0 e0 about1 theMethod args0 below0 :=
  ⟨lists_1, trivial, launch0.admits_env _ _ _, launch0.least_env, fairChoices_fair.cas, fairChoices_fair.clock, w_frames, w_args, w_heap, w_applies, trivial, w_rest, w_case⟩
end start1
theorem witness_1 : WitnessClaimed_1 := ⟨start1.p0, start1.e0, start1.about1, start1.theMethod, start1.args0, start1.below0, start1.atStart⟩
end Jvm.Pilot.@@N@@
