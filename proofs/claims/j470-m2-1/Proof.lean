import JvmDerived
import JvmDerived.Pilot.@@N@@Statement
import JvmDerived.Pilot.@@N@@Code
set_option linter.unusedVariables false
set_option linter.unusedSimpArgs false
namespace Jvm.RoadKit
open Sem ClassFile Op Lib Jvm.Stand Jvm.Free Jvm.LawKit
section New
variable {p : Program} {l : Launch} {e : Env} {R : Room} {s : State} {m : MethodId} {args : Array Value} {below : List Frame} {meth : Method} {c : Code} {T : State} {locs : List Loc} {cells slots : Nat}
theorem retI (X : Stand p l e R s m args below meth c T locs cells slots) (hx : p.tables.exec = Jvm.exec) {pc : Nat} {Ls : Array Slot} {z : Int32} {rest : List Value} (hret : meth.sig.returnType = some .int) (hd : decode c.code pc = .ok (.ireturn, 1)) {fs : List Frame}
    (hl : ∀ (f : JFrame) (acts : List Action), f.method = m → f.locked = none → f.entered = [] → (doReturn e (T.setTop f) acts (some (.int z))).1 = T.setFrames fs) : Steps p.tables e below (T.setTop (mkF m pc Ls (.int z :: rest))) (T.setFrames fs) := by
  have hm' : T.vm.method? m = some meth := X.method'
  have hn : narrow .int (.int z) = .int z := rfl
  show Steps p.tables e below (T.setTop { method := m, pc := pc, locals := Ls, stack := _ :: rest, locked := none }) _
  jvm_step X.here [X.here.top, hx, hd, hm', hret, hn]
  first | (intro acts; rw [hl _ acts rfl rfl rfl]) | rw [hl _ _ rfl rfl rfl]
  exact Steps.refl _
end New
end Jvm.RoadKit
namespace Jvm.Pilot.@@N@@
open Jvm Jvm.ClassFile Sem Op Lib Jvm.Free Jvm.Stand Jvm.LawKit Jvm.RoadKit Bundle Jvm.Pilot.@@N@@.Jvm.D
def own_cmp (x y : Int64) : Int32 := lcmpW x y
theorem own_lt (x y : Int64) : own_cmp x y < 0 ↔ x < y := by
  unfold own_cmp lcmpW; split <;> (try split) <;> simp_all [Int64.lt_iff_toInt_lt, ← Int64.toInt_inj] <;> omega
theorem own_gt (x y : Int64) : 0 < own_cmp x y ↔ y < x := by
  unfold own_cmp lcmpW; split <;> (try split) <;> simp_all [Int64.lt_iff_toInt_lt, ← Int64.toInt_inj] <;> omega
theorem own_eq0 (x y : Int64) : own_cmp x y = 0 ↔ x = y := by
  unfold own_cmp lcmpW; split <;> (try split) <;> simp_all [Int64.lt_iff_toInt_lt, ← Int64.toInt_inj] <;> omega
-- body 2: com/example/millrace/millrace/log/Varint.zigZag(J)J
theorem d2_0 : decode prog_23_method_8_code 0 = .ok (.lload_n 0, 1) := by decide +kernel
theorem d2_1 : decode prog_23_method_8_code 1 = .ok (.iconst 1, 1) := by decide +kernel
theorem d2_2 : decode prog_23_method_8_code 2 = .ok (.lshl, 1) := by decide +kernel
theorem d2_3 : decode prog_23_method_8_code 3 = .ok (.lload_n 0, 1) := by decide +kernel
theorem d2_4 : decode prog_23_method_8_code 4 = .ok (.bipush 63, 2) := by decide +kernel
theorem d2_6 : decode prog_23_method_8_code 6 = .ok (.lshr, 1) := by decide +kernel
theorem d2_7 : decode prog_23_method_8_code 7 = .ok (.lxor, 1) := by decide +kernel
theorem d2_8 : decode prog_23_method_8_code 8 = .ok (.lreturn, 1) := by decide +kernel
theorem pn_2 : plainName "com/example/millrace/millrace/log/Varint" = true := by first | (simp [plainName, overriddenIn]; done) | decide +kernel
theorem ef_2 (m : MethodId) (q1 : Int64) : entryFrame m #[(.long q1)] 2 = mkF m 0 #[.val (.long q1), .second] [] := by first | (simp [entryFrame, mkF, argsToLocals, Value.category]; done) | rfl
def f2 (q1 : Int64) : Int64 := ((q1 <<< ((1 : Int32) &&& 0x3f).toInt64) ^^^ (q1 >>> ((63 : Int32) &&& 0x3f).toInt64))
def Q2 (Z : State) (q1 : Int64) (h0 : Heap) (n0 : Nat) (v : Option Value) (h : Heap) (L : List Loc) : Prop := v = some (.long (f2 q1)) ∧ Fr n0 L ∧ h = h0
set_option maxRecDepth 65536 in
set_option maxHeartbeats 40000000 in
theorem rm2 (l : Launch) (Z : State) (a0 : Array Value) (hw : ∀ d ∈ tables_1, d.before a0 Z = true) (ws : List Jvm.Cond) (q1 : Int64) (h0 : Heap) (n0 : Nat) (Z0 : n0 ≤ h0.size) :
    MetFree l (⟨"com/example/millrace/millrace/log/Varint", "zigZag", "(J)J"⟩ : MethodName) (head1 (Jvm.Cond.code (⟨"com/example/millrace/millrace/log/Varint", "zigZag", "(J)J"⟩ : MethodName) prog_23_method_8_code 2 (some .long) :: ws) ({ frames := 0, cells := 0, slots := 0, locals := 0 } : Room)) (fun a U => a = #[(.long q1)] ∧ Z.Warmed39 U.vm ∧ U.heap = h0) (fun _ _ _ _ _ => True) (fun _ U o U' => ∃ v L, o = .returned v ∧ Q2 Z q1 h0 n0 v U'.heap L ∧ FrameEnd U o U' L ({ frames := 0, cells := 0, slots := 0, locals := 0 } : Room).cells ({ frames := 0, cells := 0, slots := 0, locals := 0 } : Room).slots) := by
  refine MetFree.of_bodySF (plainFor_of_name pn_2) hisR ?_
  intro p e s m args below meth c s₁ Bd hml0 hP hK
  obtain ⟨rfl, hZ, hh⟩ := hP
  have hx := Bd.exec
  have hby := Bd.bytes
  have hml : c.maxLocals = 2 := hml0
  have hown : s.vm.findClass "com/example/millrace/millrace/log/Varint" = some m.cls := findClass_of_methodNamed Bd.named
  have hnm := (name_of_methodNamed Bd.named Bd.method).1
  have X0 : Stand p l e ({ frames := 0, cells := 0, slots := 0, locals := 0 } : Room) s m #[(.long q1)] below meth c s₁ [] 0 0 := Stand.of_body Bd
  have e0 : s₁.heap = h0 := by rw [← hh, Bd.state]; rfl
  have N0 := Fr.nil n0
  have pre0 : ∀ t, Steps p.tables e below (s₁.setTop (mkF m 0 #[.val (.long q1), .second] [])) t → Steps p.tables e below (s₁.setTop (entryFrame m #[(.long q1)] 2)) t := fun t k => castTop (ef_2 m q1) k
  have K1 : ∀ t, Steps p.tables e below (s₁.setTop (mkF m 8 #[.val (.long q1), .second] [(.long ((q1 <<< ((1 : Int32) &&& 0x3f).toInt64) ^^^ (q1 >>> ((63 : Int32) &&& 0x3f).toInt64)))])) t → Steps p.tables e below (s₁.setTop (mkF m 0 #[.val (.long q1), .second] [])) t := by
    intro t k
    refine XS.lloadN X0.here hx rfl (hb hby d2_0) rfl ?_
    show Steps p.tables e below (s₁.setTop (mkF m 1 #[.val (.long q1), .second] [(.long q1)])) t
    refine XS.iconst X0.here hx rfl (hb hby d2_1) ?_
    show Steps p.tables e below (s₁.setTop (mkF m 2 #[.val (.long q1), .second] [(.int (1 : Int32)), (.long q1)])) t
    refine XS.lshl X0.here hx rfl (hb hby d2_2) rfl ?_
    show Steps p.tables e below (s₁.setTop (mkF m 3 #[.val (.long q1), .second] [(.long (q1 <<< ((1 : Int32) &&& 0x3f).toInt64))])) t
    refine XS.lloadN X0.here hx rfl (hb hby d2_3) rfl ?_
    show Steps p.tables e below (s₁.setTop (mkF m 4 #[.val (.long q1), .second] [(.long q1), (.long (q1 <<< ((1 : Int32) &&& 0x3f).toInt64))])) t
    refine XS.bipush X0.here hx rfl (hb hby d2_4) ?_
    show Steps p.tables e below (s₁.setTop (mkF m 6 #[.val (.long q1), .second] [(.int (63 : Int32)), (.long q1), (.long (q1 <<< ((1 : Int32) &&& 0x3f).toInt64))])) t
    refine XS.lshr X0.here hx rfl (hb hby d2_6) rfl ?_
    show Steps p.tables e below (s₁.setTop (mkF m 7 #[.val (.long q1), .second] [(.long (q1 >>> ((63 : Int32) &&& 0x3f).toInt64)), (.long (q1 <<< ((1 : Int32) &&& 0x3f).toInt64))])) t
    refine XS.lxor X0.here hx rfl (hb hby d2_7) rfl ?_
    show Steps p.tables e below (s₁.setTop (mkF m 8 #[.val (.long q1), .second] [(.long ((q1 <<< ((1 : Int32) &&& 0x3f).toInt64) ^^^ (q1 >>> ((63 : Int32) &&& 0x3f).toInt64)))])) t
    exact k
  obtain ⟨fs, hr, hrun, hended, hW, hsame⟩ := X0.leave (v := some (.long ((q1 <<< ((1 : Int32) &&& 0x3f).toInt64) ^^^ (q1 >>> ((63 : Int32) &&& 0x3f).toInt64)))) (fun h => by rw [Bd.returns] at h; cases h)
  refine ⟨_, _, pre0 _ (K1 _ (X0.lreturnOut hx Bd.returns (hb hby d2_8) hr)), hrun, hended, _, _, rfl, ?_, ⟨_, rfl⟩, hW, hsame.mono (by decide) (by decide)⟩
  show Q2 Z q1 h0 n0 _ s₁.heap _
  rw [e0]
  exact ⟨congrArg (fun z => some (Value.long z)) (show ((q1 <<< ((1 : Int32) &&& 0x3f).toInt64) ^^^ (q1 >>> ((63 : Int32) &&& 0x3f).toInt64)) = f2 q1 from Eq.symm (rfl)), N0, rfl⟩
-- body 4: java/lang/Integer.numberOfLeadingZeros(I)I
theorem d4_0 : decode jdk_33_method_47_code 0 = .ok (.iload_n 0, 1) := by decide +kernel
theorem d4_1 : decode jdk_33_method_47_code 1 = .ok (.ifCond .gt 14, 3) := by decide +kernel
theorem d4_4 : decode jdk_33_method_47_code 4 = .ok (.iload_n 0, 1) := by decide +kernel
theorem d4_5 : decode jdk_33_method_47_code 5 = .ok (.ifCond .ne 8, 3) := by decide +kernel
theorem d4_8 : decode jdk_33_method_47_code 8 = .ok (.bipush 32, 2) := by decide +kernel
theorem d4_10 : decode jdk_33_method_47_code 10 = .ok (.goto 4, 3) := by decide +kernel
theorem d4_13 : decode jdk_33_method_47_code 13 = .ok (.iconst 0, 1) := by decide +kernel
theorem d4_14 : decode jdk_33_method_47_code 14 = .ok (.ireturn, 1) := by decide +kernel
theorem d4_15 : decode jdk_33_method_47_code 15 = .ok (.bipush 31, 2) := by decide +kernel
theorem d4_17 : decode jdk_33_method_47_code 17 = .ok (.istore_n 1, 1) := by decide +kernel
theorem d4_18 : decode jdk_33_method_47_code 18 = .ok (.iload_n 0, 1) := by decide +kernel
theorem d4_19 : decode jdk_33_method_47_code 19 = .ok (.ldc_w 264, 3) := by decide +kernel
theorem d4_22 : decode jdk_33_method_47_code 22 = .ok (.if_icmp .lt 11, 3) := by decide +kernel
theorem d4_25 : decode jdk_33_method_47_code 25 = .ok (.iinc 1 (-16), 3) := by decide +kernel
theorem d4_28 : decode jdk_33_method_47_code 28 = .ok (.iload_n 0, 1) := by decide +kernel
theorem d4_29 : decode jdk_33_method_47_code 29 = .ok (.bipush 16, 2) := by decide +kernel
theorem d4_31 : decode jdk_33_method_47_code 31 = .ok (.iushr, 1) := by decide +kernel
theorem d4_32 : decode jdk_33_method_47_code 32 = .ok (.istore_n 0, 1) := by decide +kernel
theorem d4_33 : decode jdk_33_method_47_code 33 = .ok (.iload_n 0, 1) := by decide +kernel
theorem d4_34 : decode jdk_33_method_47_code 34 = .ok (.sipush 256, 3) := by decide +kernel
theorem d4_37 : decode jdk_33_method_47_code 37 = .ok (.if_icmp .lt 11, 3) := by decide +kernel
theorem d4_40 : decode jdk_33_method_47_code 40 = .ok (.iinc 1 (-8), 3) := by decide +kernel
theorem d4_43 : decode jdk_33_method_47_code 43 = .ok (.iload_n 0, 1) := by decide +kernel
theorem d4_44 : decode jdk_33_method_47_code 44 = .ok (.bipush 8, 2) := by decide +kernel
theorem d4_46 : decode jdk_33_method_47_code 46 = .ok (.iushr, 1) := by decide +kernel
theorem d4_47 : decode jdk_33_method_47_code 47 = .ok (.istore_n 0, 1) := by decide +kernel
theorem d4_48 : decode jdk_33_method_47_code 48 = .ok (.iload_n 0, 1) := by decide +kernel
theorem d4_49 : decode jdk_33_method_47_code 49 = .ok (.bipush 16, 2) := by decide +kernel
theorem d4_51 : decode jdk_33_method_47_code 51 = .ok (.if_icmp .lt 10, 3) := by decide +kernel
theorem d4_54 : decode jdk_33_method_47_code 54 = .ok (.iinc 1 (-4), 3) := by decide +kernel
theorem d4_57 : decode jdk_33_method_47_code 57 = .ok (.iload_n 0, 1) := by decide +kernel
theorem d4_58 : decode jdk_33_method_47_code 58 = .ok (.iconst 4, 1) := by decide +kernel
theorem d4_59 : decode jdk_33_method_47_code 59 = .ok (.iushr, 1) := by decide +kernel
theorem d4_60 : decode jdk_33_method_47_code 60 = .ok (.istore_n 0, 1) := by decide +kernel
theorem d4_61 : decode jdk_33_method_47_code 61 = .ok (.iload_n 0, 1) := by decide +kernel
theorem d4_62 : decode jdk_33_method_47_code 62 = .ok (.iconst 4, 1) := by decide +kernel
theorem d4_63 : decode jdk_33_method_47_code 63 = .ok (.if_icmp .lt 10, 3) := by decide +kernel
theorem d4_66 : decode jdk_33_method_47_code 66 = .ok (.iinc 1 (-2), 3) := by decide +kernel
theorem d4_69 : decode jdk_33_method_47_code 69 = .ok (.iload_n 0, 1) := by decide +kernel
theorem d4_70 : decode jdk_33_method_47_code 70 = .ok (.iconst 2, 1) := by decide +kernel
theorem d4_71 : decode jdk_33_method_47_code 71 = .ok (.iushr, 1) := by decide +kernel
theorem d4_72 : decode jdk_33_method_47_code 72 = .ok (.istore_n 0, 1) := by decide +kernel
theorem d4_73 : decode jdk_33_method_47_code 73 = .ok (.iload_n 1, 1) := by decide +kernel
theorem d4_74 : decode jdk_33_method_47_code 74 = .ok (.iload_n 0, 1) := by decide +kernel
theorem d4_75 : decode jdk_33_method_47_code 75 = .ok (.iconst 1, 1) := by decide +kernel
theorem d4_76 : decode jdk_33_method_47_code 76 = .ok (.iushr, 1) := by decide +kernel
theorem d4_77 : decode jdk_33_method_47_code 77 = .ok (.isub, 1) := by decide +kernel
theorem d4_78 : decode jdk_33_method_47_code 78 = .ok (.ireturn, 1) := by decide +kernel
theorem pn_4 : plainName "java/lang/Integer" = true := by first | (simp [plainName, overriddenIn]; done) | decide +kernel
theorem ef_4 (m : MethodId) (p1 : Int32) : entryFrame m #[(.int p1)] 2 = mkF m 0 #[.val (.int p1), .unset] [] := by first | (simp [entryFrame, mkF, argsToLocals, Value.category]; done) | rfl
def f4_u1 (p1 : Int32) : Int32 := (if p1 < (65536 : Int32) then p1 else ((p1.toUInt32 >>> ((16 : Int32) &&& 31).toUInt32).toInt32))
def f4_u2 (p1 : Int32) : Int32 := (if p1 < (65536 : Int32) then (31 : Int32) else ((31 : Int32) + (-16 : Int32)))
def f4_u3 (p1 : Int32) : Int32 := (if (f4_u1 p1) < (256 : Int32) then (f4_u1 p1) else (((f4_u1 p1).toUInt32 >>> ((8 : Int32) &&& 31).toUInt32).toInt32))
def f4_u4 (p1 : Int32) : Int32 := (if (f4_u1 p1) < (256 : Int32) then (f4_u2 p1) else ((f4_u2 p1) + (-8 : Int32)))
def f4_u5 (p1 : Int32) : Int32 := (if (f4_u3 p1) < (16 : Int32) then (f4_u3 p1) else (((f4_u3 p1).toUInt32 >>> ((4 : Int32) &&& 31).toUInt32).toInt32))
def f4_u6 (p1 : Int32) : Int32 := (if (f4_u3 p1) < (16 : Int32) then (f4_u4 p1) else ((f4_u4 p1) + (-4 : Int32)))
def f4_u7 (p1 : Int32) : Int32 := (if (f4_u5 p1) < (4 : Int32) then (f4_u5 p1) else (((f4_u5 p1).toUInt32 >>> ((2 : Int32) &&& 31).toUInt32).toInt32))
def f4_u8 (p1 : Int32) : Int32 := (if (f4_u5 p1) < (4 : Int32) then (f4_u6 p1) else ((f4_u6 p1) + (-2 : Int32)))
def f4 (p1 : Int32) : Int32 := (if (0 : Int32) < p1 then ((f4_u8 p1) - (((f4_u7 p1).toUInt32 >>> ((1 : Int32) &&& 31).toUInt32).toInt32)) else (if p1 = (0 : Int32) then (32 : Int32) else (0 : Int32)))
def Q4 (Z : State) (p1 : Int32) (h0 : Heap) (n0 : Nat) (v : Option Value) (h : Heap) (L : List Loc) : Prop := v = some (.int (f4 p1)) ∧ Fr n0 L ∧ h = h0
set_option maxRecDepth 65536 in
set_option maxHeartbeats 40000000 in
theorem rm4 (l : Launch) (Z : State) (a0 : Array Value) (hw : ∀ d ∈ tables_1, d.before a0 Z = true) (ws : List Jvm.Cond) (p1 : Int32) (h0 : Heap) (n0 : Nat) (Z0 : n0 ≤ h0.size) :
    MetFree l (⟨"java/lang/Integer", "numberOfLeadingZeros", "(I)I"⟩ : MethodName) (head1 (Jvm.Cond.code (⟨"java/lang/Integer", "numberOfLeadingZeros", "(I)I"⟩ : MethodName) jdk_33_method_47_code 2 (some .int) :: ws) ({ frames := 0, cells := 0, slots := 0, locals := 0 } : Room)) (fun a U => a = #[(.int p1)] ∧ Z.Warmed39 U.vm ∧ U.heap = h0) (fun _ _ _ _ _ => True) (fun _ U o U' => ∃ v L, o = .returned v ∧ Q4 Z p1 h0 n0 v U'.heap L ∧ FrameEnd U o U' L ({ frames := 0, cells := 0, slots := 0, locals := 0 } : Room).cells ({ frames := 0, cells := 0, slots := 0, locals := 0 } : Room).slots) := by
  refine MetFree.of_bodySF (plainFor_of_name pn_4) hisR ?_
  intro p e s m args below meth c s₁ Bd hml0 hP hK
  obtain ⟨rfl, hZ, hh⟩ := hP
  have hx := Bd.exec
  have hby := Bd.bytes
  have hml : c.maxLocals = 2 := hml0
  have hown : s.vm.findClass "java/lang/Integer" = some m.cls := findClass_of_methodNamed Bd.named
  have hnm := (name_of_methodNamed Bd.named Bd.method).1
  have X0 : Stand p l e ({ frames := 0, cells := 0, slots := 0, locals := 0 } : Room) s m #[(.int p1)] below meth c s₁ [] 0 0 := Stand.of_body Bd
  have e0 : s₁.heap = h0 := by rw [← hh, Bd.state]; rfl
  have N0 := Fr.nil n0
  have pre0 : ∀ t, Steps p.tables e below (s₁.setTop (mkF m 0 #[.val (.int p1), .unset] [])) t → Steps p.tables e below (s₁.setTop (entryFrame m #[(.int p1)] 2)) t := fun t k => castTop (ef_4 m p1) k
  have K1 : ∀ t, Steps p.tables e below (s₁.setTop (mkF m 1 #[.val (.int p1), .unset] [(.int p1)])) t → Steps p.tables e below (s₁.setTop (mkF m 0 #[.val (.int p1), .unset] [])) t := by
    intro t k
    refine XS.iloadN X0.here hx rfl (hb hby d4_0) rfl ?_
    show Steps p.tables e below (s₁.setTop (mkF m 1 #[.val (.int p1), .unset] [(.int p1)])) t
    exact k
  by_cases hc2 : (0 : Int32) < p1
  · have K3 : ∀ t, Steps p.tables e below (s₁.setTop (mkF m 15 #[.val (.int p1), .unset] [])) t → Steps p.tables e below (s₁.setTop (mkF m 1 #[.val (.int p1), .unset] [(.int p1)])) t := by
      intro t k
      refine XS.ifYes X0.here hx rfl (pc0 := 1) (pc' := 15) rfl (hb hby d4_1) rfl ((if0 _ _).trans (tlt hc2).2.2.1) (by decide) (by decide) ?_
      exact k
    have K4 : ∀ t, Steps p.tables e below (s₁.setTop (mkF m 22 #[.val (.int p1), .val (.int (31 : Int32))] [(.int (65536 : Int32)), (.int p1)])) t → Steps p.tables e below (s₁.setTop (mkF m 15 #[.val (.int p1), .unset] [])) t := by
      intro t k
      refine XS.bipush X0.here hx rfl (hb hby d4_15) ?_
      show Steps p.tables e below (s₁.setTop (mkF m 17 #[.val (.int p1), .unset] [(.int (31 : Int32))])) t
      refine XS.istoreN X0.here hx rfl (hb hby d4_17) rfl (l' := #[.val (.int p1), .val (.int (31 : Int32))]) rfl ?_
      show Steps p.tables e below (s₁.setTop (mkF m 18 #[.val (.int p1), .val (.int (31 : Int32))] [])) t
      refine XS.iloadN X0.here hx rfl (hb hby d4_18) rfl ?_
      show Steps p.tables e below (s₁.setTop (mkF m 19 #[.val (.int p1), .val (.int (31 : Int32))] [(.int p1)])) t
      refine X0.ldcwInt hx hown (mvT hZ (hw _ (List.mem_of_getElem? (i := 16) rfl))) (g := (mkF m 19 #[.val (.int p1), .val (.int (31 : Int32))] [(.int p1)])) rfl (hb hby d4_19) _ ?_
      show Steps p.tables e below (s₁.setTop (mkF m 22 #[.val (.int p1), .val (.int (31 : Int32))] [(.int (65536 : Int32)), (.int p1)])) t
      exact k
    have K5 : ∀ t, Steps p.tables e below (s₁.setTop (mkF m 33 #[.val (.int (f4_u1 p1)), .val (.int (f4_u2 p1))] [])) t → Steps p.tables e below (s₁.setTop (mkF m 22 #[.val (.int p1), .val (.int (31 : Int32))] [(.int (65536 : Int32)), (.int p1)])) t := by
      intro t k
      by_cases hc5 : p1 < (65536 : Int32)
      · have K6 : ∀ t, Steps p.tables e below (s₁.setTop (mkF m 33 #[.val (.int p1), .val (.int (31 : Int32))] [])) t → Steps p.tables e below (s₁.setTop (mkF m 22 #[.val (.int p1), .val (.int (31 : Int32))] [(.int (65536 : Int32)), (.int p1)])) t := by
          intro t k
          refine XS.icmpYes X0.here hx rfl (pc0 := 22) (pc' := 33) rfl (hb hby d4_22) rfl (tlt hc5).1 (by decide) (by decide) ?_
          exact k
        rw [show (f4_u1 p1) = p1 from if_pos hc5] at k
        rw [show (f4_u2 p1) = (31 : Int32) from if_pos hc5] at k
        exact K6 _ (k)
      · have K7 : ∀ t, Steps p.tables e below (s₁.setTop (mkF m 25 #[.val (.int p1), .val (.int (31 : Int32))] [])) t → Steps p.tables e below (s₁.setTop (mkF m 22 #[.val (.int p1), .val (.int (31 : Int32))] [(.int (65536 : Int32)), (.int p1)])) t := by
          intro t k
          refine XS.icmpNo X0.here hx rfl (hb hby d4_22) rfl (flt hc5).1 ?_
          exact k
        have K8 : ∀ t, Steps p.tables e below (s₁.setTop (mkF m 33 #[.val (.int ((p1.toUInt32 >>> ((16 : Int32) &&& 31).toUInt32).toInt32)), .val (.int ((31 : Int32) + (-16 : Int32)))] [])) t → Steps p.tables e below (s₁.setTop (mkF m 25 #[.val (.int p1), .val (.int (31 : Int32))] [])) t := by
          intro t k
          refine XS.iinc X0.here hx rfl (hb hby d4_25) rfl (l' := #[.val (.int p1), .val (.int ((31 : Int32) + (-16 : Int32)))]) rfl ?_
          show Steps p.tables e below (s₁.setTop (mkF m 28 #[.val (.int p1), .val (.int ((31 : Int32) + (-16 : Int32)))] [])) t
          refine XS.iloadN X0.here hx rfl (hb hby d4_28) rfl ?_
          show Steps p.tables e below (s₁.setTop (mkF m 29 #[.val (.int p1), .val (.int ((31 : Int32) + (-16 : Int32)))] [(.int p1)])) t
          refine XS.bipush X0.here hx rfl (hb hby d4_29) ?_
          show Steps p.tables e below (s₁.setTop (mkF m 31 #[.val (.int p1), .val (.int ((31 : Int32) + (-16 : Int32)))] [(.int (16 : Int32)), (.int p1)])) t
          refine XS.iushr X0.here hx rfl (hb hby d4_31) rfl ?_
          show Steps p.tables e below (s₁.setTop (mkF m 32 #[.val (.int p1), .val (.int ((31 : Int32) + (-16 : Int32)))] [(.int ((p1.toUInt32 >>> ((16 : Int32) &&& 31).toUInt32).toInt32))])) t
          refine XS.istoreN X0.here hx rfl (hb hby d4_32) rfl (l' := #[.val (.int ((p1.toUInt32 >>> ((16 : Int32) &&& 31).toUInt32).toInt32)), .val (.int ((31 : Int32) + (-16 : Int32)))]) rfl ?_
          show Steps p.tables e below (s₁.setTop (mkF m 33 #[.val (.int ((p1.toUInt32 >>> ((16 : Int32) &&& 31).toUInt32).toInt32)), .val (.int ((31 : Int32) + (-16 : Int32)))] [])) t
          exact k
        rw [show (f4_u1 p1) = ((p1.toUInt32 >>> ((16 : Int32) &&& 31).toUInt32).toInt32) from if_neg hc5] at k
        rw [show (f4_u2 p1) = ((31 : Int32) + (-16 : Int32)) from if_neg hc5] at k
        exact K7 _ (K8 _ (k))
    have K9 : ∀ t, Steps p.tables e below (s₁.setTop (mkF m 37 #[.val (.int (f4_u1 p1)), .val (.int (f4_u2 p1))] [(.int (256 : Int32)), (.int (f4_u1 p1))])) t → Steps p.tables e below (s₁.setTop (mkF m 33 #[.val (.int (f4_u1 p1)), .val (.int (f4_u2 p1))] [])) t := by
      intro t k
      refine XS.iloadN X0.here hx rfl (hb hby d4_33) rfl ?_
      show Steps p.tables e below (s₁.setTop (mkF m 34 #[.val (.int (f4_u1 p1)), .val (.int (f4_u2 p1))] [(.int (f4_u1 p1))])) t
      refine XS.sipush X0.here hx rfl (hb hby d4_34) ?_
      show Steps p.tables e below (s₁.setTop (mkF m 37 #[.val (.int (f4_u1 p1)), .val (.int (f4_u2 p1))] [(.int (256 : Int32)), (.int (f4_u1 p1))])) t
      exact k
    have K10 : ∀ t, Steps p.tables e below (s₁.setTop (mkF m 48 #[.val (.int (f4_u3 p1)), .val (.int (f4_u4 p1))] [])) t → Steps p.tables e below (s₁.setTop (mkF m 37 #[.val (.int (f4_u1 p1)), .val (.int (f4_u2 p1))] [(.int (256 : Int32)), (.int (f4_u1 p1))])) t := by
      intro t k
      by_cases hc10 : (f4_u1 p1) < (256 : Int32)
      · have K11 : ∀ t, Steps p.tables e below (s₁.setTop (mkF m 48 #[.val (.int (f4_u1 p1)), .val (.int (f4_u2 p1))] [])) t → Steps p.tables e below (s₁.setTop (mkF m 37 #[.val (.int (f4_u1 p1)), .val (.int (f4_u2 p1))] [(.int (256 : Int32)), (.int (f4_u1 p1))])) t := by
          intro t k
          refine XS.icmpYes X0.here hx rfl (pc0 := 37) (pc' := 48) rfl (hb hby d4_37) rfl (tlt hc10).1 (by decide) (by decide) ?_
          exact k
        rw [show (f4_u3 p1) = (f4_u1 p1) from if_pos hc10] at k
        rw [show (f4_u4 p1) = (f4_u2 p1) from if_pos hc10] at k
        exact K11 _ (k)
      · have K12 : ∀ t, Steps p.tables e below (s₁.setTop (mkF m 40 #[.val (.int (f4_u1 p1)), .val (.int (f4_u2 p1))] [])) t → Steps p.tables e below (s₁.setTop (mkF m 37 #[.val (.int (f4_u1 p1)), .val (.int (f4_u2 p1))] [(.int (256 : Int32)), (.int (f4_u1 p1))])) t := by
          intro t k
          refine XS.icmpNo X0.here hx rfl (hb hby d4_37) rfl (flt hc10).1 ?_
          exact k
        have K13 : ∀ t, Steps p.tables e below (s₁.setTop (mkF m 48 #[.val (.int (((f4_u1 p1).toUInt32 >>> ((8 : Int32) &&& 31).toUInt32).toInt32)), .val (.int ((f4_u2 p1) + (-8 : Int32)))] [])) t → Steps p.tables e below (s₁.setTop (mkF m 40 #[.val (.int (f4_u1 p1)), .val (.int (f4_u2 p1))] [])) t := by
          intro t k
          refine XS.iinc X0.here hx rfl (hb hby d4_40) rfl (l' := #[.val (.int (f4_u1 p1)), .val (.int ((f4_u2 p1) + (-8 : Int32)))]) rfl ?_
          show Steps p.tables e below (s₁.setTop (mkF m 43 #[.val (.int (f4_u1 p1)), .val (.int ((f4_u2 p1) + (-8 : Int32)))] [])) t
          refine XS.iloadN X0.here hx rfl (hb hby d4_43) rfl ?_
          show Steps p.tables e below (s₁.setTop (mkF m 44 #[.val (.int (f4_u1 p1)), .val (.int ((f4_u2 p1) + (-8 : Int32)))] [(.int (f4_u1 p1))])) t
          refine XS.bipush X0.here hx rfl (hb hby d4_44) ?_
          show Steps p.tables e below (s₁.setTop (mkF m 46 #[.val (.int (f4_u1 p1)), .val (.int ((f4_u2 p1) + (-8 : Int32)))] [(.int (8 : Int32)), (.int (f4_u1 p1))])) t
          refine XS.iushr X0.here hx rfl (hb hby d4_46) rfl ?_
          show Steps p.tables e below (s₁.setTop (mkF m 47 #[.val (.int (f4_u1 p1)), .val (.int ((f4_u2 p1) + (-8 : Int32)))] [(.int (((f4_u1 p1).toUInt32 >>> ((8 : Int32) &&& 31).toUInt32).toInt32))])) t
          refine XS.istoreN X0.here hx rfl (hb hby d4_47) rfl (l' := #[.val (.int (((f4_u1 p1).toUInt32 >>> ((8 : Int32) &&& 31).toUInt32).toInt32)), .val (.int ((f4_u2 p1) + (-8 : Int32)))]) rfl ?_
          show Steps p.tables e below (s₁.setTop (mkF m 48 #[.val (.int (((f4_u1 p1).toUInt32 >>> ((8 : Int32) &&& 31).toUInt32).toInt32)), .val (.int ((f4_u2 p1) + (-8 : Int32)))] [])) t
          exact k
        rw [show (f4_u3 p1) = (((f4_u1 p1).toUInt32 >>> ((8 : Int32) &&& 31).toUInt32).toInt32) from if_neg hc10] at k
        rw [show (f4_u4 p1) = ((f4_u2 p1) + (-8 : Int32)) from if_neg hc10] at k
        exact K12 _ (K13 _ (k))
    have K14 : ∀ t, Steps p.tables e below (s₁.setTop (mkF m 51 #[.val (.int (f4_u3 p1)), .val (.int (f4_u4 p1))] [(.int (16 : Int32)), (.int (f4_u3 p1))])) t → Steps p.tables e below (s₁.setTop (mkF m 48 #[.val (.int (f4_u3 p1)), .val (.int (f4_u4 p1))] [])) t := by
      intro t k
      refine XS.iloadN X0.here hx rfl (hb hby d4_48) rfl ?_
      show Steps p.tables e below (s₁.setTop (mkF m 49 #[.val (.int (f4_u3 p1)), .val (.int (f4_u4 p1))] [(.int (f4_u3 p1))])) t
      refine XS.bipush X0.here hx rfl (hb hby d4_49) ?_
      show Steps p.tables e below (s₁.setTop (mkF m 51 #[.val (.int (f4_u3 p1)), .val (.int (f4_u4 p1))] [(.int (16 : Int32)), (.int (f4_u3 p1))])) t
      exact k
    have K15 : ∀ t, Steps p.tables e below (s₁.setTop (mkF m 61 #[.val (.int (f4_u5 p1)), .val (.int (f4_u6 p1))] [])) t → Steps p.tables e below (s₁.setTop (mkF m 51 #[.val (.int (f4_u3 p1)), .val (.int (f4_u4 p1))] [(.int (16 : Int32)), (.int (f4_u3 p1))])) t := by
      intro t k
      by_cases hc15 : (f4_u3 p1) < (16 : Int32)
      · have K16 : ∀ t, Steps p.tables e below (s₁.setTop (mkF m 61 #[.val (.int (f4_u3 p1)), .val (.int (f4_u4 p1))] [])) t → Steps p.tables e below (s₁.setTop (mkF m 51 #[.val (.int (f4_u3 p1)), .val (.int (f4_u4 p1))] [(.int (16 : Int32)), (.int (f4_u3 p1))])) t := by
          intro t k
          refine XS.icmpYes X0.here hx rfl (pc0 := 51) (pc' := 61) rfl (hb hby d4_51) rfl (tlt hc15).1 (by decide) (by decide) ?_
          exact k
        rw [show (f4_u5 p1) = (f4_u3 p1) from if_pos hc15] at k
        rw [show (f4_u6 p1) = (f4_u4 p1) from if_pos hc15] at k
        exact K16 _ (k)
      · have K17 : ∀ t, Steps p.tables e below (s₁.setTop (mkF m 54 #[.val (.int (f4_u3 p1)), .val (.int (f4_u4 p1))] [])) t → Steps p.tables e below (s₁.setTop (mkF m 51 #[.val (.int (f4_u3 p1)), .val (.int (f4_u4 p1))] [(.int (16 : Int32)), (.int (f4_u3 p1))])) t := by
          intro t k
          refine XS.icmpNo X0.here hx rfl (hb hby d4_51) rfl (flt hc15).1 ?_
          exact k
        have K18 : ∀ t, Steps p.tables e below (s₁.setTop (mkF m 61 #[.val (.int (((f4_u3 p1).toUInt32 >>> ((4 : Int32) &&& 31).toUInt32).toInt32)), .val (.int ((f4_u4 p1) + (-4 : Int32)))] [])) t → Steps p.tables e below (s₁.setTop (mkF m 54 #[.val (.int (f4_u3 p1)), .val (.int (f4_u4 p1))] [])) t := by
          intro t k
          refine XS.iinc X0.here hx rfl (hb hby d4_54) rfl (l' := #[.val (.int (f4_u3 p1)), .val (.int ((f4_u4 p1) + (-4 : Int32)))]) rfl ?_
          show Steps p.tables e below (s₁.setTop (mkF m 57 #[.val (.int (f4_u3 p1)), .val (.int ((f4_u4 p1) + (-4 : Int32)))] [])) t
          refine XS.iloadN X0.here hx rfl (hb hby d4_57) rfl ?_
          show Steps p.tables e below (s₁.setTop (mkF m 58 #[.val (.int (f4_u3 p1)), .val (.int ((f4_u4 p1) + (-4 : Int32)))] [(.int (f4_u3 p1))])) t
          refine XS.iconst X0.here hx rfl (hb hby d4_58) ?_
          show Steps p.tables e below (s₁.setTop (mkF m 59 #[.val (.int (f4_u3 p1)), .val (.int ((f4_u4 p1) + (-4 : Int32)))] [(.int (4 : Int32)), (.int (f4_u3 p1))])) t
          refine XS.iushr X0.here hx rfl (hb hby d4_59) rfl ?_
          show Steps p.tables e below (s₁.setTop (mkF m 60 #[.val (.int (f4_u3 p1)), .val (.int ((f4_u4 p1) + (-4 : Int32)))] [(.int (((f4_u3 p1).toUInt32 >>> ((4 : Int32) &&& 31).toUInt32).toInt32))])) t
          refine XS.istoreN X0.here hx rfl (hb hby d4_60) rfl (l' := #[.val (.int (((f4_u3 p1).toUInt32 >>> ((4 : Int32) &&& 31).toUInt32).toInt32)), .val (.int ((f4_u4 p1) + (-4 : Int32)))]) rfl ?_
          show Steps p.tables e below (s₁.setTop (mkF m 61 #[.val (.int (((f4_u3 p1).toUInt32 >>> ((4 : Int32) &&& 31).toUInt32).toInt32)), .val (.int ((f4_u4 p1) + (-4 : Int32)))] [])) t
          exact k
        rw [show (f4_u5 p1) = (((f4_u3 p1).toUInt32 >>> ((4 : Int32) &&& 31).toUInt32).toInt32) from if_neg hc15] at k
        rw [show (f4_u6 p1) = ((f4_u4 p1) + (-4 : Int32)) from if_neg hc15] at k
        exact K17 _ (K18 _ (k))
    have K19 : ∀ t, Steps p.tables e below (s₁.setTop (mkF m 63 #[.val (.int (f4_u5 p1)), .val (.int (f4_u6 p1))] [(.int (4 : Int32)), (.int (f4_u5 p1))])) t → Steps p.tables e below (s₁.setTop (mkF m 61 #[.val (.int (f4_u5 p1)), .val (.int (f4_u6 p1))] [])) t := by
      intro t k
      refine XS.iloadN X0.here hx rfl (hb hby d4_61) rfl ?_
      show Steps p.tables e below (s₁.setTop (mkF m 62 #[.val (.int (f4_u5 p1)), .val (.int (f4_u6 p1))] [(.int (f4_u5 p1))])) t
      refine XS.iconst X0.here hx rfl (hb hby d4_62) ?_
      show Steps p.tables e below (s₁.setTop (mkF m 63 #[.val (.int (f4_u5 p1)), .val (.int (f4_u6 p1))] [(.int (4 : Int32)), (.int (f4_u5 p1))])) t
      exact k
    have K20 : ∀ t, Steps p.tables e below (s₁.setTop (mkF m 73 #[.val (.int (f4_u7 p1)), .val (.int (f4_u8 p1))] [])) t → Steps p.tables e below (s₁.setTop (mkF m 63 #[.val (.int (f4_u5 p1)), .val (.int (f4_u6 p1))] [(.int (4 : Int32)), (.int (f4_u5 p1))])) t := by
      intro t k
      by_cases hc20 : (f4_u5 p1) < (4 : Int32)
      · have K21 : ∀ t, Steps p.tables e below (s₁.setTop (mkF m 73 #[.val (.int (f4_u5 p1)), .val (.int (f4_u6 p1))] [])) t → Steps p.tables e below (s₁.setTop (mkF m 63 #[.val (.int (f4_u5 p1)), .val (.int (f4_u6 p1))] [(.int (4 : Int32)), (.int (f4_u5 p1))])) t := by
          intro t k
          refine XS.icmpYes X0.here hx rfl (pc0 := 63) (pc' := 73) rfl (hb hby d4_63) rfl (tlt hc20).1 (by decide) (by decide) ?_
          exact k
        rw [show (f4_u7 p1) = (f4_u5 p1) from if_pos hc20] at k
        rw [show (f4_u8 p1) = (f4_u6 p1) from if_pos hc20] at k
        exact K21 _ (k)
      · have K22 : ∀ t, Steps p.tables e below (s₁.setTop (mkF m 66 #[.val (.int (f4_u5 p1)), .val (.int (f4_u6 p1))] [])) t → Steps p.tables e below (s₁.setTop (mkF m 63 #[.val (.int (f4_u5 p1)), .val (.int (f4_u6 p1))] [(.int (4 : Int32)), (.int (f4_u5 p1))])) t := by
          intro t k
          refine XS.icmpNo X0.here hx rfl (hb hby d4_63) rfl (flt hc20).1 ?_
          exact k
        have K23 : ∀ t, Steps p.tables e below (s₁.setTop (mkF m 73 #[.val (.int (((f4_u5 p1).toUInt32 >>> ((2 : Int32) &&& 31).toUInt32).toInt32)), .val (.int ((f4_u6 p1) + (-2 : Int32)))] [])) t → Steps p.tables e below (s₁.setTop (mkF m 66 #[.val (.int (f4_u5 p1)), .val (.int (f4_u6 p1))] [])) t := by
          intro t k
          refine XS.iinc X0.here hx rfl (hb hby d4_66) rfl (l' := #[.val (.int (f4_u5 p1)), .val (.int ((f4_u6 p1) + (-2 : Int32)))]) rfl ?_
          show Steps p.tables e below (s₁.setTop (mkF m 69 #[.val (.int (f4_u5 p1)), .val (.int ((f4_u6 p1) + (-2 : Int32)))] [])) t
          refine XS.iloadN X0.here hx rfl (hb hby d4_69) rfl ?_
          show Steps p.tables e below (s₁.setTop (mkF m 70 #[.val (.int (f4_u5 p1)), .val (.int ((f4_u6 p1) + (-2 : Int32)))] [(.int (f4_u5 p1))])) t
          refine XS.iconst X0.here hx rfl (hb hby d4_70) ?_
          show Steps p.tables e below (s₁.setTop (mkF m 71 #[.val (.int (f4_u5 p1)), .val (.int ((f4_u6 p1) + (-2 : Int32)))] [(.int (2 : Int32)), (.int (f4_u5 p1))])) t
          refine XS.iushr X0.here hx rfl (hb hby d4_71) rfl ?_
          show Steps p.tables e below (s₁.setTop (mkF m 72 #[.val (.int (f4_u5 p1)), .val (.int ((f4_u6 p1) + (-2 : Int32)))] [(.int (((f4_u5 p1).toUInt32 >>> ((2 : Int32) &&& 31).toUInt32).toInt32))])) t
          refine XS.istoreN X0.here hx rfl (hb hby d4_72) rfl (l' := #[.val (.int (((f4_u5 p1).toUInt32 >>> ((2 : Int32) &&& 31).toUInt32).toInt32)), .val (.int ((f4_u6 p1) + (-2 : Int32)))]) rfl ?_
          show Steps p.tables e below (s₁.setTop (mkF m 73 #[.val (.int (((f4_u5 p1).toUInt32 >>> ((2 : Int32) &&& 31).toUInt32).toInt32)), .val (.int ((f4_u6 p1) + (-2 : Int32)))] [])) t
          exact k
        rw [show (f4_u7 p1) = (((f4_u5 p1).toUInt32 >>> ((2 : Int32) &&& 31).toUInt32).toInt32) from if_neg hc20] at k
        rw [show (f4_u8 p1) = ((f4_u6 p1) + (-2 : Int32)) from if_neg hc20] at k
        exact K22 _ (K23 _ (k))
    have K24 : ∀ t, Steps p.tables e below (s₁.setTop (mkF m 78 #[.val (.int (f4_u7 p1)), .val (.int (f4_u8 p1))] [(.int ((f4_u8 p1) - (((f4_u7 p1).toUInt32 >>> ((1 : Int32) &&& 31).toUInt32).toInt32)))])) t → Steps p.tables e below (s₁.setTop (mkF m 73 #[.val (.int (f4_u7 p1)), .val (.int (f4_u8 p1))] [])) t := by
      intro t k
      refine XS.iloadN X0.here hx rfl (hb hby d4_73) rfl ?_
      show Steps p.tables e below (s₁.setTop (mkF m 74 #[.val (.int (f4_u7 p1)), .val (.int (f4_u8 p1))] [(.int (f4_u8 p1))])) t
      refine XS.iloadN X0.here hx rfl (hb hby d4_74) rfl ?_
      show Steps p.tables e below (s₁.setTop (mkF m 75 #[.val (.int (f4_u7 p1)), .val (.int (f4_u8 p1))] [(.int (f4_u7 p1)), (.int (f4_u8 p1))])) t
      refine XS.iconst X0.here hx rfl (hb hby d4_75) ?_
      show Steps p.tables e below (s₁.setTop (mkF m 76 #[.val (.int (f4_u7 p1)), .val (.int (f4_u8 p1))] [(.int (1 : Int32)), (.int (f4_u7 p1)), (.int (f4_u8 p1))])) t
      refine XS.iushr X0.here hx rfl (hb hby d4_76) rfl ?_
      show Steps p.tables e below (s₁.setTop (mkF m 77 #[.val (.int (f4_u7 p1)), .val (.int (f4_u8 p1))] [(.int (((f4_u7 p1).toUInt32 >>> ((1 : Int32) &&& 31).toUInt32).toInt32)), (.int (f4_u8 p1))])) t
      refine XS.isub X0.here hx rfl (hb hby d4_77) rfl ?_
      show Steps p.tables e below (s₁.setTop (mkF m 78 #[.val (.int (f4_u7 p1)), .val (.int (f4_u8 p1))] [(.int ((f4_u8 p1) - (((f4_u7 p1).toUInt32 >>> ((1 : Int32) &&& 31).toUInt32).toInt32)))])) t
      exact k
    obtain ⟨fs, hr, hrun, hended, hW, hsame⟩ := X0.leave (v := some (.int ((f4_u8 p1) - (((f4_u7 p1).toUInt32 >>> ((1 : Int32) &&& 31).toUInt32).toInt32)))) (fun h => by rw [Bd.returns] at h; cases h)
    refine ⟨_, _, pre0 _ (K1 _ (K3 _ (K4 _ (K5 _ (K9 _ (K10 _ (K14 _ (K15 _ (K19 _ (K20 _ (K24 _ (retI X0 hx Bd.returns (hb hby d4_78) hr)))))))))))), hrun, hended, _, _, rfl, ?_, ⟨_, rfl⟩, hW, hsame.mono (by decide) (by decide)⟩
    show Q4 Z p1 h0 n0 _ s₁.heap _
    rw [e0]
    exact ⟨congrArg (fun z => some (Value.int z)) (show ((f4_u8 p1) - (((f4_u7 p1).toUInt32 >>> ((1 : Int32) &&& 31).toUInt32).toInt32)) = f4 p1 from Eq.symm (if_pos hc2)), N0, rfl⟩
  · have K25 : ∀ t, Steps p.tables e below (s₁.setTop (mkF m 4 #[.val (.int p1), .unset] [])) t → Steps p.tables e below (s₁.setTop (mkF m 1 #[.val (.int p1), .unset] [(.int p1)])) t := by
      intro t k
      refine XS.ifNo X0.here hx rfl (hb hby d4_1) rfl ((if0 _ _).trans (flt hc2).2.2.1) ?_
      exact k
    have K26 : ∀ t, Steps p.tables e below (s₁.setTop (mkF m 5 #[.val (.int p1), .unset] [(.int p1)])) t → Steps p.tables e below (s₁.setTop (mkF m 4 #[.val (.int p1), .unset] [])) t := by
      intro t k
      refine XS.iloadN X0.here hx rfl (hb hby d4_4) rfl ?_
      show Steps p.tables e below (s₁.setTop (mkF m 5 #[.val (.int p1), .unset] [(.int p1)])) t
      exact k
    by_cases hc27 : p1 = (0 : Int32)
    · have K28 : ∀ t, Steps p.tables e below (s₁.setTop (mkF m 8 #[.val (.int p1), .unset] [])) t → Steps p.tables e below (s₁.setTop (mkF m 5 #[.val (.int p1), .unset] [(.int p1)])) t := by
        intro t k
        refine XS.ifNo X0.here hx rfl (hb hby d4_5) rfl ((if0 _ _).trans (teq hc27).2) ?_
        exact k
      have K29 : ∀ t, Steps p.tables e below (s₁.setTop (mkF m 14 #[.val (.int p1), .unset] [(.int (32 : Int32))])) t → Steps p.tables e below (s₁.setTop (mkF m 8 #[.val (.int p1), .unset] [])) t := by
        intro t k
        refine XS.bipush X0.here hx rfl (hb hby d4_8) ?_
        show Steps p.tables e below (s₁.setTop (mkF m 10 #[.val (.int p1), .unset] [(.int (32 : Int32))])) t
        refine XS.goto X0.here hx rfl (pc0 := 10) (pc' := 14) rfl (hb hby d4_10) (by decide) (by decide) ?_
        show Steps p.tables e below (s₁.setTop (mkF m 14 #[.val (.int p1), .unset] [(.int (32 : Int32))])) t
        exact k
      obtain ⟨fs, hr, hrun, hended, hW, hsame⟩ := X0.leave (v := some (.int (32 : Int32))) (fun h => by rw [Bd.returns] at h; cases h)
      refine ⟨_, _, pre0 _ (K1 _ (K25 _ (K26 _ (K28 _ (K29 _ (retI X0 hx Bd.returns (hb hby d4_14) hr)))))), hrun, hended, _, _, rfl, ?_, ⟨_, rfl⟩, hW, hsame.mono (by decide) (by decide)⟩
      show Q4 Z p1 h0 n0 _ s₁.heap _
      rw [e0]
      exact ⟨congrArg (fun z => some (Value.int z)) (show (32 : Int32) = f4 p1 from Eq.symm ((if_neg hc2).trans (if_pos hc27))), N0, rfl⟩
    · have K30 : ∀ t, Steps p.tables e below (s₁.setTop (mkF m 13 #[.val (.int p1), .unset] [])) t → Steps p.tables e below (s₁.setTop (mkF m 5 #[.val (.int p1), .unset] [(.int p1)])) t := by
        intro t k
        refine XS.ifYes X0.here hx rfl (pc0 := 5) (pc' := 13) rfl (hb hby d4_5) rfl ((if0 _ _).trans (feq hc27).2) (by decide) (by decide) ?_
        exact k
      have K31 : ∀ t, Steps p.tables e below (s₁.setTop (mkF m 14 #[.val (.int p1), .unset] [(.int (0 : Int32))])) t → Steps p.tables e below (s₁.setTop (mkF m 13 #[.val (.int p1), .unset] [])) t := by
        intro t k
        refine XS.iconst X0.here hx rfl (hb hby d4_13) ?_
        show Steps p.tables e below (s₁.setTop (mkF m 14 #[.val (.int p1), .unset] [(.int (0 : Int32))])) t
        exact k
      obtain ⟨fs, hr, hrun, hended, hW, hsame⟩ := X0.leave (v := some (.int (0 : Int32))) (fun h => by rw [Bd.returns] at h; cases h)
      refine ⟨_, _, pre0 _ (K1 _ (K25 _ (K26 _ (K30 _ (K31 _ (retI X0 hx Bd.returns (hb hby d4_14) hr)))))), hrun, hended, _, _, rfl, ?_, ⟨_, rfl⟩, hW, hsame.mono (by decide) (by decide)⟩
      show Q4 Z p1 h0 n0 _ s₁.heap _
      rw [e0]
      exact ⟨congrArg (fun z => some (Value.int z)) (show (0 : Int32) = f4 p1 from Eq.symm ((if_neg hc2).trans (if_neg hc27))), N0, rfl⟩
-- body 3: java/lang/Long.numberOfLeadingZeros(J)I
theorem d3_0 : decode jdk_35_method_48_code 0 = .ok (.lload_n 0, 1) := by decide +kernel
theorem d3_1 : decode jdk_35_method_48_code 1 = .ok (.bipush 32, 2) := by decide +kernel
theorem d3_3 : decode jdk_35_method_48_code 3 = .ok (.lushr, 1) := by decide +kernel
theorem d3_4 : decode jdk_35_method_48_code 4 = .ok (.l2i, 1) := by decide +kernel
theorem d3_5 : decode jdk_35_method_48_code 5 = .ok (.istore_n 2, 1) := by decide +kernel
theorem d3_6 : decode jdk_35_method_48_code 6 = .ok (.iload_n 2, 1) := by decide +kernel
theorem d3_7 : decode jdk_35_method_48_code 7 = .ok (.ifCond .ne 14, 3) := by decide +kernel
theorem d3_10 : decode jdk_35_method_48_code 10 = .ok (.bipush 32, 2) := by decide +kernel
theorem d3_12 : decode jdk_35_method_48_code 12 = .ok (.lload_n 0, 1) := by decide +kernel
theorem d3_13 : decode jdk_35_method_48_code 13 = .ok (.l2i, 1) := by decide +kernel
theorem d3_14 : decode jdk_35_method_48_code 14 = .ok (.invokestatic 308, 3) := by decide +kernel
theorem d3_17 : decode jdk_35_method_48_code 17 = .ok (.iadd, 1) := by decide +kernel
theorem d3_18 : decode jdk_35_method_48_code 18 = .ok (.goto 7, 3) := by decide +kernel
theorem d3_21 : decode jdk_35_method_48_code 21 = .ok (.iload_n 2, 1) := by decide +kernel
theorem d3_22 : decode jdk_35_method_48_code 22 = .ok (.invokestatic 308, 3) := by decide +kernel
theorem d3_25 : decode jdk_35_method_48_code 25 = .ok (.ireturn, 1) := by decide +kernel
theorem pn_3 : plainName "java/lang/Long" = true := by first | (simp [plainName, overriddenIn]; done) | decide +kernel
theorem pd_2 : parseMethodDescriptor "(I)I" = some ⟨[.int], some .int⟩ := by decide +kernel
theorem ef_3 (m : MethodId) (q1 : Int64) : entryFrame m #[(.long q1)] 3 = mkF m 0 #[.val (.long q1), .second, .unset] [] := by first | (simp [entryFrame, mkF, argsToLocals, Value.category]; done) | rfl
def f3 (q1 : Int64) : Int32 := (if (((q1.toUInt64 >>> ((32 : Int32) &&& 0x3f).toInt64.toUInt64).toInt64).toInt32) = (0 : Int32) then ((32 : Int32) + (f4 (q1.toInt32))) else (f4 (((q1.toUInt64 >>> ((32 : Int32) &&& 0x3f).toInt64.toUInt64).toInt64).toInt32)))
def Q3 (Z : State) (q1 : Int64) (h0 : Heap) (n0 : Nat) (v : Option Value) (h : Heap) (L : List Loc) : Prop := v = some (.int (f3 q1)) ∧ Fr n0 L ∧ h = h0
set_option maxRecDepth 65536 in
set_option maxHeartbeats 40000000 in
theorem rm3 (l : Launch) (Z : State) (a0 : Array Value) (hw : ∀ d ∈ tables_1, d.before a0 Z = true) (ws : List Jvm.Cond) (q1 : Int64) (h0 : Heap) (n0 : Nat) (Z0 : n0 ≤ h0.size) :
    MetFree l (⟨"java/lang/Long", "numberOfLeadingZeros", "(J)I"⟩ : MethodName) (head1 (Jvm.Cond.code (⟨"java/lang/Long", "numberOfLeadingZeros", "(J)I"⟩ : MethodName) jdk_35_method_48_code 3 (some .int) :: ws) ({ frames := 1, cells := 0, slots := 0, locals := 14 } : Room)) (fun a U => a = #[(.long q1)] ∧ Z.Warmed39 U.vm ∧ U.heap = h0) (fun _ _ _ _ _ => True) (fun _ U o U' => ∃ v L, o = .returned v ∧ Q3 Z q1 h0 n0 v U'.heap L ∧ FrameEnd U o U' L ({ frames := 1, cells := 0, slots := 0, locals := 14 } : Room).cells ({ frames := 1, cells := 0, slots := 0, locals := 14 } : Room).slots) := by
  refine MetFree.of_bodySF (plainFor_of_name pn_3) hisR ?_
  intro p e s m args below meth c s₁ Bd hml0 hP hK
  obtain ⟨rfl, hZ, hh⟩ := hP
  have hx := Bd.exec
  have hby := Bd.bytes
  have hml : c.maxLocals = 3 := hml0
  have hown : s.vm.findClass "java/lang/Long" = some m.cls := findClass_of_methodNamed Bd.named
  have hnm := (name_of_methodNamed Bd.named Bd.method).1
  have X0 : Stand p l e ({ frames := 1, cells := 0, slots := 0, locals := 14 } : Room) s m #[(.long q1)] below meth c s₁ [] 0 0 := Stand.of_body Bd
  have e0 : s₁.heap = h0 := by rw [← hh, Bd.state]; rfl
  have N0 := Fr.nil n0
  have pre0 : ∀ t, Steps p.tables e below (s₁.setTop (mkF m 0 #[.val (.long q1), .second, .unset] [])) t → Steps p.tables e below (s₁.setTop (entryFrame m #[(.long q1)] 3)) t := fun t k => castTop (ef_3 m q1) k
  have K1 : ∀ t, Steps p.tables e below (s₁.setTop (mkF m 7 #[.val (.long q1), .second, .val (.int (((q1.toUInt64 >>> ((32 : Int32) &&& 0x3f).toInt64.toUInt64).toInt64).toInt32))] [(.int (((q1.toUInt64 >>> ((32 : Int32) &&& 0x3f).toInt64.toUInt64).toInt64).toInt32))])) t → Steps p.tables e below (s₁.setTop (mkF m 0 #[.val (.long q1), .second, .unset] [])) t := by
    intro t k
    refine XS.lloadN X0.here hx rfl (hb hby d3_0) rfl ?_
    show Steps p.tables e below (s₁.setTop (mkF m 1 #[.val (.long q1), .second, .unset] [(.long q1)])) t
    refine XS.bipush X0.here hx rfl (hb hby d3_1) ?_
    show Steps p.tables e below (s₁.setTop (mkF m 3 #[.val (.long q1), .second, .unset] [(.int (32 : Int32)), (.long q1)])) t
    refine XS.lushr X0.here hx rfl (hb hby d3_3) rfl ?_
    show Steps p.tables e below (s₁.setTop (mkF m 4 #[.val (.long q1), .second, .unset] [(.long ((q1.toUInt64 >>> ((32 : Int32) &&& 0x3f).toInt64.toUInt64).toInt64))])) t
    refine XS.l2i X0.here hx rfl (hb hby d3_4) rfl ?_
    show Steps p.tables e below (s₁.setTop (mkF m 5 #[.val (.long q1), .second, .unset] [(.int (((q1.toUInt64 >>> ((32 : Int32) &&& 0x3f).toInt64.toUInt64).toInt64).toInt32))])) t
    refine XS.istoreN X0.here hx rfl (hb hby d3_5) rfl (l' := #[.val (.long q1), .second, .val (.int (((q1.toUInt64 >>> ((32 : Int32) &&& 0x3f).toInt64.toUInt64).toInt64).toInt32))]) rfl ?_
    show Steps p.tables e below (s₁.setTop (mkF m 6 #[.val (.long q1), .second, .val (.int (((q1.toUInt64 >>> ((32 : Int32) &&& 0x3f).toInt64.toUInt64).toInt64).toInt32))] [])) t
    refine XS.iloadN X0.here hx rfl (hb hby d3_6) rfl ?_
    show Steps p.tables e below (s₁.setTop (mkF m 7 #[.val (.long q1), .second, .val (.int (((q1.toUInt64 >>> ((32 : Int32) &&& 0x3f).toInt64.toUInt64).toInt64).toInt32))] [(.int (((q1.toUInt64 >>> ((32 : Int32) &&& 0x3f).toInt64.toUInt64).toInt64).toInt32))])) t
    exact k
  by_cases hc2 : (((q1.toUInt64 >>> ((32 : Int32) &&& 0x3f).toInt64.toUInt64).toInt64).toInt32) = (0 : Int32)
  · have K3 : ∀ t, Steps p.tables e below (s₁.setTop (mkF m 10 #[.val (.long q1), .second, .val (.int (((q1.toUInt64 >>> ((32 : Int32) &&& 0x3f).toInt64.toUInt64).toInt64).toInt32))] [])) t → Steps p.tables e below (s₁.setTop (mkF m 7 #[.val (.long q1), .second, .val (.int (((q1.toUInt64 >>> ((32 : Int32) &&& 0x3f).toInt64.toUInt64).toInt64).toInt32))] [(.int (((q1.toUInt64 >>> ((32 : Int32) &&& 0x3f).toInt64.toUInt64).toInt64).toInt32))])) t := by
      intro t k
      refine XS.ifNo X0.here hx rfl (hb hby d3_7) rfl ((if0 _ _).trans (teq hc2).2) ?_
      exact k
    have K4 : ∀ t, Steps p.tables e below (s₁.setTop (mkF m 14 #[.val (.long q1), .second, .val (.int (((q1.toUInt64 >>> ((32 : Int32) &&& 0x3f).toInt64.toUInt64).toInt64).toInt32))] [(.int (q1.toInt32)), (.int (32 : Int32))])) t → Steps p.tables e below (s₁.setTop (mkF m 10 #[.val (.long q1), .second, .val (.int (((q1.toUInt64 >>> ((32 : Int32) &&& 0x3f).toInt64.toUInt64).toInt64).toInt32))] [])) t := by
      intro t k
      refine XS.bipush X0.here hx rfl (hb hby d3_10) ?_
      show Steps p.tables e below (s₁.setTop (mkF m 12 #[.val (.long q1), .second, .val (.int (((q1.toUInt64 >>> ((32 : Int32) &&& 0x3f).toInt64.toUInt64).toInt64).toInt32))] [(.int (32 : Int32))])) t
      refine XS.lloadN X0.here hx rfl (hb hby d3_12) rfl ?_
      show Steps p.tables e below (s₁.setTop (mkF m 13 #[.val (.long q1), .second, .val (.int (((q1.toUInt64 >>> ((32 : Int32) &&& 0x3f).toInt64.toUInt64).toInt64).toInt32))] [(.long q1), (.int (32 : Int32))])) t
      refine XS.l2i X0.here hx rfl (hb hby d3_13) rfl ?_
      show Steps p.tables e below (s₁.setTop (mkF m 14 #[.val (.long q1), .second, .val (.int (((q1.toUInt64 >>> ((32 : Int32) &&& 0x3f).toInt64.toUInt64).toInt64).toInt32))] [(.int (q1.toInt32)), (.int (32 : Int32))])) t
      exact k
    obtain ⟨_, _, ⟨T5, L5, k5, n5⟩, -, X5, ⟨Lc5, hQ5, l5, y5, z5⟩, st5⟩ := Jvm.LawKit.callS X0 hx (y := (⟨"java/lang/Integer", "numberOfLeadingZeros", "(I)I"⟩ : MethodName)) hown (mvT hZ (hw _ (List.mem_of_getElem? (i := 12) rfl))) (mvT hZ (hw _ (List.mem_of_getElem? (i := 13) rfl))) (mvT hZ (hw _ (List.mem_of_getElem? (i := 14) rfl))) (mvT hZ (hw _ (List.mem_of_getElem? (i := 15) rfl))) (by decide) (backOf (W := 1) (rm4 l Z a0 hw [] (q1.toInt32) h0 n0 Z0 ) hZ (hw _ (List.mem_of_getElem? (i := 15) rfl)) (hw _ (List.mem_of_getElem? (i := 14) rfl)) (by decide) (by decide)) (g := (mkF m 14 #[.val (.long q1), .second, .val (.int (((q1.toUInt64 >>> ((32 : Int32) &&& 0x3f).toInt64.toUInt64).toInt64).toInt32))] [(.int (q1.toInt32)), (.int (32 : Int32))])) rfl (by rw [hml]; rfl) (argsL := [(.int (q1.toInt32))]) (rest := [(.int (32 : Int32))]) (lenOf pd_2 rfl) rfl (by show 2 * 0 + _ ≤ _; exact Nat.le_of_eq rfl) (hb hby d3_14) (fun _ _ => ⟨rfl, e0, (by decide : 0 + 0 ≤ _), (by decide : 0 + 0 ≤ _)⟩)
    dsimp only [Pt.U, Pt.locs, Pt.cells, Pt.slots] at X5 l5 y5 z5 st5 hQ5
    subst l5 y5 z5
    obtain ⟨rfl, N5q, e5⟩ := hQ5
    have N5 := Fr.app N0 N5q
    have K6 : ∀ t, Steps p.tables e below (T5.setTop (mkF m 17 #[.val (.long q1), .second, .val (.int (((q1.toUInt64 >>> ((32 : Int32) &&& 0x3f).toInt64.toUInt64).toInt64).toInt32))] [(.int (f4 (q1.toInt32))), (.int (32 : Int32))])) t → Steps p.tables e below (s₁.setTop (mkF m 14 #[.val (.long q1), .second, .val (.int (((q1.toUInt64 >>> ((32 : Int32) &&& 0x3f).toInt64.toUInt64).toInt64).toInt32))] [(.int (q1.toInt32)), (.int (32 : Int32))])) t := fun t k => st5 _ k
    have K7 : ∀ t, Steps p.tables e below (T5.setTop (mkF m 25 #[.val (.long q1), .second, .val (.int (((q1.toUInt64 >>> ((32 : Int32) &&& 0x3f).toInt64.toUInt64).toInt64).toInt32))] [(.int ((32 : Int32) + (f4 (q1.toInt32))))])) t → Steps p.tables e below (T5.setTop (mkF m 17 #[.val (.long q1), .second, .val (.int (((q1.toUInt64 >>> ((32 : Int32) &&& 0x3f).toInt64.toUInt64).toInt64).toInt32))] [(.int (f4 (q1.toInt32))), (.int (32 : Int32))])) t := by
      intro t k
      refine XS.iadd X5.here hx rfl (hb hby d3_17) rfl ?_
      show Steps p.tables e below (T5.setTop (mkF m 18 #[.val (.long q1), .second, .val (.int (((q1.toUInt64 >>> ((32 : Int32) &&& 0x3f).toInt64.toUInt64).toInt64).toInt32))] [(.int ((32 : Int32) + (f4 (q1.toInt32))))])) t
      refine XS.goto X5.here hx rfl (pc0 := 18) (pc' := 25) rfl (hb hby d3_18) (by decide) (by decide) ?_
      show Steps p.tables e below (T5.setTop (mkF m 25 #[.val (.long q1), .second, .val (.int (((q1.toUInt64 >>> ((32 : Int32) &&& 0x3f).toInt64.toUInt64).toInt64).toInt32))] [(.int ((32 : Int32) + (f4 (q1.toInt32))))])) t
      exact k
    obtain ⟨fs, hr, hrun, hended, hW, hsame⟩ := X5.leave (v := some (.int ((32 : Int32) + (f4 (q1.toInt32))))) (fun h => by rw [Bd.returns] at h; cases h)
    refine ⟨_, _, pre0 _ (K1 _ (K3 _ (K4 _ (K6 _ (K7 _ (retI X5 hx Bd.returns (hb hby d3_25) hr)))))), hrun, hended, _, _, rfl, ?_, ⟨_, rfl⟩, hW, hsame.mono (by decide) (by decide)⟩
    show Q3 Z q1 h0 n0 _ T5.heap _
    rw [e5]
    exact ⟨congrArg (fun z => some (Value.int z)) (show ((32 : Int32) + (f4 (q1.toInt32))) = f3 q1 from Eq.symm (if_pos hc2)), N5, rfl⟩
  · have K8 : ∀ t, Steps p.tables e below (s₁.setTop (mkF m 21 #[.val (.long q1), .second, .val (.int (((q1.toUInt64 >>> ((32 : Int32) &&& 0x3f).toInt64.toUInt64).toInt64).toInt32))] [])) t → Steps p.tables e below (s₁.setTop (mkF m 7 #[.val (.long q1), .second, .val (.int (((q1.toUInt64 >>> ((32 : Int32) &&& 0x3f).toInt64.toUInt64).toInt64).toInt32))] [(.int (((q1.toUInt64 >>> ((32 : Int32) &&& 0x3f).toInt64.toUInt64).toInt64).toInt32))])) t := by
      intro t k
      refine XS.ifYes X0.here hx rfl (pc0 := 7) (pc' := 21) rfl (hb hby d3_7) rfl ((if0 _ _).trans (feq hc2).2) (by decide) (by decide) ?_
      exact k
    have K9 : ∀ t, Steps p.tables e below (s₁.setTop (mkF m 22 #[.val (.long q1), .second, .val (.int (((q1.toUInt64 >>> ((32 : Int32) &&& 0x3f).toInt64.toUInt64).toInt64).toInt32))] [(.int (((q1.toUInt64 >>> ((32 : Int32) &&& 0x3f).toInt64.toUInt64).toInt64).toInt32))])) t → Steps p.tables e below (s₁.setTop (mkF m 21 #[.val (.long q1), .second, .val (.int (((q1.toUInt64 >>> ((32 : Int32) &&& 0x3f).toInt64.toUInt64).toInt64).toInt32))] [])) t := by
      intro t k
      refine XS.iloadN X0.here hx rfl (hb hby d3_21) rfl ?_
      show Steps p.tables e below (s₁.setTop (mkF m 22 #[.val (.long q1), .second, .val (.int (((q1.toUInt64 >>> ((32 : Int32) &&& 0x3f).toInt64.toUInt64).toInt64).toInt32))] [(.int (((q1.toUInt64 >>> ((32 : Int32) &&& 0x3f).toInt64.toUInt64).toInt64).toInt32))])) t
      exact k
    obtain ⟨_, _, ⟨T10, L10, k10, n10⟩, -, X10, ⟨Lc10, hQ10, l10, y10, z10⟩, st10⟩ := Jvm.LawKit.callS X0 hx (y := (⟨"java/lang/Integer", "numberOfLeadingZeros", "(I)I"⟩ : MethodName)) hown (mvT hZ (hw _ (List.mem_of_getElem? (i := 12) rfl))) (mvT hZ (hw _ (List.mem_of_getElem? (i := 13) rfl))) (mvT hZ (hw _ (List.mem_of_getElem? (i := 14) rfl))) (mvT hZ (hw _ (List.mem_of_getElem? (i := 15) rfl))) (by decide) (backOf (W := 0) (rm4 l Z a0 hw [] (((q1.toUInt64 >>> ((32 : Int32) &&& 0x3f).toInt64.toUInt64).toInt64).toInt32) h0 n0 Z0 ) hZ (hw _ (List.mem_of_getElem? (i := 15) rfl)) (hw _ (List.mem_of_getElem? (i := 14) rfl)) (by decide) (by decide)) (g := (mkF m 22 #[.val (.long q1), .second, .val (.int (((q1.toUInt64 >>> ((32 : Int32) &&& 0x3f).toInt64.toUInt64).toInt64).toInt32))] [(.int (((q1.toUInt64 >>> ((32 : Int32) &&& 0x3f).toInt64.toUInt64).toInt64).toInt32))])) rfl (by rw [hml]; rfl) (argsL := [(.int (((q1.toUInt64 >>> ((32 : Int32) &&& 0x3f).toInt64.toUInt64).toInt64).toInt32))]) (rest := []) (lenOf pd_2 rfl) rfl (by show 2 * 0 + _ ≤ _; exact Nat.le_of_eq rfl) (hb hby d3_22) (fun _ _ => ⟨rfl, e0, (by decide : 0 + 0 ≤ _), (by decide : 0 + 0 ≤ _)⟩)
    dsimp only [Pt.U, Pt.locs, Pt.cells, Pt.slots] at X10 l10 y10 z10 st10 hQ10
    subst l10 y10 z10
    obtain ⟨rfl, N10q, e10⟩ := hQ10
    have N10 := Fr.app N0 N10q
    have K11 : ∀ t, Steps p.tables e below (T10.setTop (mkF m 25 #[.val (.long q1), .second, .val (.int (((q1.toUInt64 >>> ((32 : Int32) &&& 0x3f).toInt64.toUInt64).toInt64).toInt32))] [(.int (f4 (((q1.toUInt64 >>> ((32 : Int32) &&& 0x3f).toInt64.toUInt64).toInt64).toInt32)))])) t → Steps p.tables e below (s₁.setTop (mkF m 22 #[.val (.long q1), .second, .val (.int (((q1.toUInt64 >>> ((32 : Int32) &&& 0x3f).toInt64.toUInt64).toInt64).toInt32))] [(.int (((q1.toUInt64 >>> ((32 : Int32) &&& 0x3f).toInt64.toUInt64).toInt64).toInt32))])) t := fun t k => st10 _ k
    obtain ⟨fs, hr, hrun, hended, hW, hsame⟩ := X10.leave (v := some (.int (f4 (((q1.toUInt64 >>> ((32 : Int32) &&& 0x3f).toInt64.toUInt64).toInt64).toInt32)))) (fun h => by rw [Bd.returns] at h; cases h)
    refine ⟨_, _, pre0 _ (K1 _ (K8 _ (K9 _ (K11 _ (retI X10 hx Bd.returns (hb hby d3_25) hr))))), hrun, hended, _, _, rfl, ?_, ⟨_, rfl⟩, hW, hsame.mono (by decide) (by decide)⟩
    show Q3 Z q1 h0 n0 _ T10.heap _
    rw [e10]
    exact ⟨congrArg (fun z => some (Value.int z)) (show (f4 (((q1.toUInt64 >>> ((32 : Int32) &&& 0x3f).toInt64.toUInt64).toInt64).toInt32)) = f3 q1 from Eq.symm (if_neg hc2)), N10, rfl⟩
-- body 1: com/example/millrace/millrace/log/Varint.sizeOfLong(J)I
theorem d1_0 : decode prog_23_method_3_code 0 = .ok (.bipush 64, 2) := by decide +kernel
theorem d1_2 : decode prog_23_method_3_code 2 = .ok (.lload_n 0, 1) := by decide +kernel
theorem d1_3 : decode prog_23_method_3_code 3 = .ok (.invokestatic 15, 3) := by decide +kernel
theorem d1_6 : decode prog_23_method_3_code 6 = .ok (.lconst 1, 1) := by decide +kernel
theorem d1_7 : decode prog_23_method_3_code 7 = .ok (.lor, 1) := by decide +kernel
theorem d1_8 : decode prog_23_method_3_code 8 = .ok (.invokestatic 19, 3) := by decide +kernel
theorem d1_11 : decode prog_23_method_3_code 11 = .ok (.isub, 1) := by decide +kernel
theorem d1_12 : decode prog_23_method_3_code 12 = .ok (.istore_n 2, 1) := by decide +kernel
theorem d1_13 : decode prog_23_method_3_code 13 = .ok (.iload_n 2, 1) := by decide +kernel
theorem d1_14 : decode prog_23_method_3_code 14 = .ok (.bipush 6, 2) := by decide +kernel
theorem d1_16 : decode prog_23_method_3_code 16 = .ok (.iadd, 1) := by decide +kernel
theorem d1_17 : decode prog_23_method_3_code 17 = .ok (.bipush 7, 2) := by decide +kernel
theorem d1_19 : decode prog_23_method_3_code 19 = .ok (.idiv, 1) := by decide +kernel
theorem d1_20 : decode prog_23_method_3_code 20 = .ok (.ireturn, 1) := by decide +kernel
theorem pn_1 : plainName "com/example/millrace/millrace/log/Varint" = true := by first | (simp [plainName, overriddenIn]; done) | decide +kernel
theorem pd_0 : parseMethodDescriptor "(J)I" = some ⟨[.long], some .int⟩ := by decide +kernel
theorem pd_1 : parseMethodDescriptor "(J)J" = some ⟨[.long], some .long⟩ := by decide +kernel
theorem ef_1 (m : MethodId) (q1 : Int64) : entryFrame m #[(.long q1)] 3 = mkF m 0 #[.val (.long q1), .second, .unset] [] := by first | (simp [entryFrame, mkF, argsToLocals, Value.category]; done) | rfl
def f1 (q1 : Int64) : Int32 := ((((64 : Int32) - (f3 ((f2 q1) ||| (1 : Int64)))) + (6 : Int32)) / (7 : Int32))
def Q1 (Z : State) (q1 : Int64) (h0 : Heap) (n0 : Nat) (v : Option Value) (h : Heap) (L : List Loc) : Prop := v = some (.int (f1 q1)) ∧ Fr n0 L ∧ h = h0
set_option maxRecDepth 65536 in
set_option maxHeartbeats 40000000 in
theorem rm1 (l : Launch) (Z : State) (a0 : Array Value) (hw : ∀ d ∈ tables_1, d.before a0 Z = true) (ws : List Jvm.Cond) (q1 : Int64) (h0 : Heap) (n0 : Nat) (Z0 : n0 ≤ h0.size) :
    MetFree l (⟨"com/example/millrace/millrace/log/Varint", "sizeOfLong", "(J)I"⟩ : MethodName) (head1 (Jvm.Cond.code (⟨"com/example/millrace/millrace/log/Varint", "sizeOfLong", "(J)I"⟩ : MethodName) prog_23_method_3_code 3 (some .int) :: ws) ({ frames := 2, cells := 0, slots := 0, locals := 29 } : Room)) (fun a U => a = #[(.long q1)] ∧ Z.Warmed39 U.vm ∧ U.heap = h0) (fun _ _ _ _ _ => True) (fun _ U o U' => ∃ v L, o = .returned v ∧ Q1 Z q1 h0 n0 v U'.heap L ∧ FrameEnd U o U' L ({ frames := 2, cells := 0, slots := 0, locals := 29 } : Room).cells ({ frames := 2, cells := 0, slots := 0, locals := 29 } : Room).slots) := by
  refine MetFree.of_bodySF (plainFor_of_name pn_1) hisR ?_
  intro p e s m args below meth c s₁ Bd hml0 hP hK
  obtain ⟨rfl, hZ, hh⟩ := hP
  have hx := Bd.exec
  have hby := Bd.bytes
  have hml : c.maxLocals = 3 := hml0
  have hown : s.vm.findClass "com/example/millrace/millrace/log/Varint" = some m.cls := findClass_of_methodNamed Bd.named
  have hnm := (name_of_methodNamed Bd.named Bd.method).1
  have X0 : Stand p l e ({ frames := 2, cells := 0, slots := 0, locals := 29 } : Room) s m #[(.long q1)] below meth c s₁ [] 0 0 := Stand.of_body Bd
  have e0 : s₁.heap = h0 := by rw [← hh, Bd.state]; rfl
  have N0 := Fr.nil n0
  have pre0 : ∀ t, Steps p.tables e below (s₁.setTop (mkF m 0 #[.val (.long q1), .second, .unset] [])) t → Steps p.tables e below (s₁.setTop (entryFrame m #[(.long q1)] 3)) t := fun t k => castTop (ef_1 m q1) k
  have K1 : ∀ t, Steps p.tables e below (s₁.setTop (mkF m 3 #[.val (.long q1), .second, .unset] [(.long q1), (.int (64 : Int32))])) t → Steps p.tables e below (s₁.setTop (mkF m 0 #[.val (.long q1), .second, .unset] [])) t := by
    intro t k
    refine XS.bipush X0.here hx rfl (hb hby d1_0) ?_
    show Steps p.tables e below (s₁.setTop (mkF m 2 #[.val (.long q1), .second, .unset] [(.int (64 : Int32))])) t
    refine XS.lloadN X0.here hx rfl (hb hby d1_2) rfl ?_
    show Steps p.tables e below (s₁.setTop (mkF m 3 #[.val (.long q1), .second, .unset] [(.long q1), (.int (64 : Int32))])) t
    exact k
  obtain ⟨_, _, ⟨T2, L2, k2, n2⟩, -, X2, ⟨Lc2, hQ2, l2, y2, z2⟩, st2⟩ := Jvm.LawKit.callS X0 hx (y := (⟨"com/example/millrace/millrace/log/Varint", "zigZag", "(J)J"⟩ : MethodName)) hown (mvT hZ (hw _ (List.mem_of_getElem? (i := 5) rfl))) (mvT hZ (hw _ (List.mem_of_getElem? (i := 6) rfl))) (mvT hZ (hw _ (List.mem_of_getElem? (i := 3) rfl))) (mvT hZ (hw _ (List.mem_of_getElem? (i := 7) rfl))) (by decide) (backOf (W := 1) (rm2 l Z a0 hw [] q1 h0 n0 Z0 ) hZ (hw _ (List.mem_of_getElem? (i := 7) rfl)) (hw _ (List.mem_of_getElem? (i := 3) rfl)) (by decide) (by decide)) (g := (mkF m 3 #[.val (.long q1), .second, .unset] [(.long q1), (.int (64 : Int32))])) rfl (by rw [hml]; rfl) (argsL := [(.long q1)]) (rest := [(.int (64 : Int32))]) (lenOf pd_1 rfl) rfl (by show 2 * 0 + _ ≤ _; exact Nat.le_of_eq rfl) (hb hby d1_3) (fun _ _ => ⟨rfl, e0, (by decide : 0 + 0 ≤ _), (by decide : 0 + 0 ≤ _)⟩)
  dsimp only [Pt.U, Pt.locs, Pt.cells, Pt.slots] at X2 l2 y2 z2 st2 hQ2
  subst l2 y2 z2
  obtain ⟨rfl, N2q, e2⟩ := hQ2
  have N2 := Fr.app N0 N2q
  have K3 : ∀ t, Steps p.tables e below (T2.setTop (mkF m 6 #[.val (.long q1), .second, .unset] [(.long (f2 q1)), (.int (64 : Int32))])) t → Steps p.tables e below (s₁.setTop (mkF m 3 #[.val (.long q1), .second, .unset] [(.long q1), (.int (64 : Int32))])) t := fun t k => st2 _ k
  have K4 : ∀ t, Steps p.tables e below (T2.setTop (mkF m 8 #[.val (.long q1), .second, .unset] [(.long ((f2 q1) ||| (1 : Int64))), (.int (64 : Int32))])) t → Steps p.tables e below (T2.setTop (mkF m 6 #[.val (.long q1), .second, .unset] [(.long (f2 q1)), (.int (64 : Int32))])) t := by
    intro t k
    refine XS.lconst X2.here hx rfl (hb hby d1_6) ?_
    show Steps p.tables e below (T2.setTop (mkF m 7 #[.val (.long q1), .second, .unset] [(.long (1 : Int64)), (.long (f2 q1)), (.int (64 : Int32))])) t
    refine XS.lor X2.here hx rfl (hb hby d1_7) rfl ?_
    show Steps p.tables e below (T2.setTop (mkF m 8 #[.val (.long q1), .second, .unset] [(.long ((f2 q1) ||| (1 : Int64))), (.int (64 : Int32))])) t
    exact k
  obtain ⟨_, _, ⟨T5, L5, k5, n5⟩, -, X5, ⟨Lc5, hQ5, l5, y5, z5⟩, st5⟩ := Jvm.LawKit.callS X2 hx (y := (⟨"java/lang/Long", "numberOfLeadingZeros", "(J)I"⟩ : MethodName)) hown (mvT hZ (hw _ (List.mem_of_getElem? (i := 8) rfl))) (mvT hZ (hw _ (List.mem_of_getElem? (i := 9) rfl))) (mvT hZ (hw _ (List.mem_of_getElem? (i := 10) rfl))) (mvT hZ (hw _ (List.mem_of_getElem? (i := 11) rfl))) (by decide) (backOf (W := 1) (rm3 l Z a0 hw [] ((f2 q1) ||| (1 : Int64)) h0 n0 Z0 ) hZ (hw _ (List.mem_of_getElem? (i := 11) rfl)) (hw _ (List.mem_of_getElem? (i := 10) rfl)) (by decide) (by decide)) (g := (mkF m 8 #[.val (.long q1), .second, .unset] [(.long ((f2 q1) ||| (1 : Int64))), (.int (64 : Int32))])) rfl (by rw [hml]; rfl) (argsL := [(.long ((f2 q1) ||| (1 : Int64)))]) (rest := [(.int (64 : Int32))]) (lenOf pd_0 rfl) rfl (by show 2 * 0 + _ ≤ _; exact Nat.le_of_eq rfl) (hb hby d1_8) (fun _ _ => ⟨rfl, e2, (by decide : 0 + 0 ≤ _), (by decide : 0 + 0 ≤ _)⟩)
  dsimp only [Pt.U, Pt.locs, Pt.cells, Pt.slots] at X5 l5 y5 z5 st5 hQ5
  subst l5 y5 z5
  obtain ⟨rfl, N5q, e5⟩ := hQ5
  have N5 := Fr.app N2 N5q
  have K6 : ∀ t, Steps p.tables e below (T5.setTop (mkF m 11 #[.val (.long q1), .second, .unset] [(.int (f3 ((f2 q1) ||| (1 : Int64)))), (.int (64 : Int32))])) t → Steps p.tables e below (T2.setTop (mkF m 8 #[.val (.long q1), .second, .unset] [(.long ((f2 q1) ||| (1 : Int64))), (.int (64 : Int32))])) t := fun t k => st5 _ k
  have K7 : ∀ t, Steps p.tables e below (T5.setTop (mkF m 20 #[.val (.long q1), .second, .val (.int ((64 : Int32) - (f3 ((f2 q1) ||| (1 : Int64)))))] [(.int ((((64 : Int32) - (f3 ((f2 q1) ||| (1 : Int64)))) + (6 : Int32)) / (7 : Int32)))])) t → Steps p.tables e below (T5.setTop (mkF m 11 #[.val (.long q1), .second, .unset] [(.int (f3 ((f2 q1) ||| (1 : Int64)))), (.int (64 : Int32))])) t := by
    intro t k
    refine XS.isub X5.here hx rfl (hb hby d1_11) rfl ?_
    show Steps p.tables e below (T5.setTop (mkF m 12 #[.val (.long q1), .second, .unset] [(.int ((64 : Int32) - (f3 ((f2 q1) ||| (1 : Int64)))))])) t
    refine XS.istoreN X5.here hx rfl (hb hby d1_12) rfl (l' := #[.val (.long q1), .second, .val (.int ((64 : Int32) - (f3 ((f2 q1) ||| (1 : Int64)))))]) rfl ?_
    show Steps p.tables e below (T5.setTop (mkF m 13 #[.val (.long q1), .second, .val (.int ((64 : Int32) - (f3 ((f2 q1) ||| (1 : Int64)))))] [])) t
    refine XS.iloadN X5.here hx rfl (hb hby d1_13) rfl ?_
    show Steps p.tables e below (T5.setTop (mkF m 14 #[.val (.long q1), .second, .val (.int ((64 : Int32) - (f3 ((f2 q1) ||| (1 : Int64)))))] [(.int ((64 : Int32) - (f3 ((f2 q1) ||| (1 : Int64)))))])) t
    refine XS.bipush X5.here hx rfl (hb hby d1_14) ?_
    show Steps p.tables e below (T5.setTop (mkF m 16 #[.val (.long q1), .second, .val (.int ((64 : Int32) - (f3 ((f2 q1) ||| (1 : Int64)))))] [(.int (6 : Int32)), (.int ((64 : Int32) - (f3 ((f2 q1) ||| (1 : Int64)))))])) t
    refine XS.iadd X5.here hx rfl (hb hby d1_16) rfl ?_
    show Steps p.tables e below (T5.setTop (mkF m 17 #[.val (.long q1), .second, .val (.int ((64 : Int32) - (f3 ((f2 q1) ||| (1 : Int64)))))] [(.int (((64 : Int32) - (f3 ((f2 q1) ||| (1 : Int64)))) + (6 : Int32)))])) t
    refine XS.bipush X5.here hx rfl (hb hby d1_17) ?_
    show Steps p.tables e below (T5.setTop (mkF m 19 #[.val (.long q1), .second, .val (.int ((64 : Int32) - (f3 ((f2 q1) ||| (1 : Int64)))))] [(.int (7 : Int32)), (.int (((64 : Int32) - (f3 ((f2 q1) ||| (1 : Int64)))) + (6 : Int32)))])) t
    refine XS.idiv X5.here hx rfl (hb hby d1_19) rfl (show (7 : Int32) ≠ (0 : Int32) from (by decide)) ?_
    show Steps p.tables e below (T5.setTop (mkF m 20 #[.val (.long q1), .second, .val (.int ((64 : Int32) - (f3 ((f2 q1) ||| (1 : Int64)))))] [(.int ((((64 : Int32) - (f3 ((f2 q1) ||| (1 : Int64)))) + (6 : Int32)) / (7 : Int32)))])) t
    exact k
  obtain ⟨fs, hr, hrun, hended, hW, hsame⟩ := X5.leave (v := some (.int ((((64 : Int32) - (f3 ((f2 q1) ||| (1 : Int64)))) + (6 : Int32)) / (7 : Int32)))) (fun h => by rw [Bd.returns] at h; cases h)
  refine ⟨_, _, pre0 _ (K1 _ (K3 _ (K4 _ (K6 _ (K7 _ (retI X5 hx Bd.returns (hb hby d1_20) hr)))))), hrun, hended, _, _, rfl, ?_, ⟨_, rfl⟩, hW, hsame.mono (by decide) (by decide)⟩
  show Q1 Z q1 h0 n0 _ T5.heap _
  rw [e5]
  exact ⟨congrArg (fun z => some (Value.int z)) (show ((((64 : Int32) - (f3 ((f2 q1) ||| (1 : Int64)))) + (6 : Int32)) / (7 : Int32)) = f1 q1 from Eq.symm (rfl)), N5, rfl⟩
-- body 5: com/example/millrace/millrace/log/VarintSizeOfLongPinLaw.expected(J)I
theorem d5_0 : decode method_2_code 0 = .ok (.lload_n 0, 1) := by decide +kernel
theorem d5_1 : decode method_2_code 1 = .ok (.ldc2_w 7, 3) := by decide +kernel
theorem d5_4 : decode method_2_code 4 = .ok (.lcmp, 1) := by decide +kernel
theorem d5_5 : decode method_2_code 5 = .ok (.ifCond .ge 5, 3) := by decide +kernel
theorem d5_8 : decode method_2_code 8 = .ok (.iconst 1, 1) := by decide +kernel
theorem d5_9 : decode method_2_code 9 = .ok (.ireturn, 1) := by decide +kernel
theorem d5_10 : decode method_2_code 10 = .ok (.lload_n 0, 1) := by decide +kernel
theorem d5_11 : decode method_2_code 11 = .ok (.ldc2_w 9, 3) := by decide +kernel
theorem d5_14 : decode method_2_code 14 = .ok (.lcmp, 1) := by decide +kernel
theorem d5_15 : decode method_2_code 15 = .ok (.ifCond .ge 5, 3) := by decide +kernel
theorem d5_18 : decode method_2_code 18 = .ok (.iconst 2, 1) := by decide +kernel
theorem d5_19 : decode method_2_code 19 = .ok (.ireturn, 1) := by decide +kernel
theorem d5_20 : decode method_2_code 20 = .ok (.lload_n 0, 1) := by decide +kernel
theorem d5_21 : decode method_2_code 21 = .ok (.ldc2_w 11, 3) := by decide +kernel
theorem d5_24 : decode method_2_code 24 = .ok (.lcmp, 1) := by decide +kernel
theorem d5_25 : decode method_2_code 25 = .ok (.ifCond .ge 5, 3) := by decide +kernel
theorem d5_28 : decode method_2_code 28 = .ok (.iconst 3, 1) := by decide +kernel
theorem d5_29 : decode method_2_code 29 = .ok (.ireturn, 1) := by decide +kernel
theorem d5_30 : decode method_2_code 30 = .ok (.lload_n 0, 1) := by decide +kernel
theorem d5_31 : decode method_2_code 31 = .ok (.ldc2_w 13, 3) := by decide +kernel
theorem d5_34 : decode method_2_code 34 = .ok (.lcmp, 1) := by decide +kernel
theorem d5_35 : decode method_2_code 35 = .ok (.ifCond .ge 5, 3) := by decide +kernel
theorem d5_38 : decode method_2_code 38 = .ok (.iconst 4, 1) := by decide +kernel
theorem d5_39 : decode method_2_code 39 = .ok (.ireturn, 1) := by decide +kernel
theorem d5_40 : decode method_2_code 40 = .ok (.lload_n 0, 1) := by decide +kernel
theorem d5_41 : decode method_2_code 41 = .ok (.ldc2_w 15, 3) := by decide +kernel
theorem d5_44 : decode method_2_code 44 = .ok (.lcmp, 1) := by decide +kernel
theorem d5_45 : decode method_2_code 45 = .ok (.ifCond .ge 5, 3) := by decide +kernel
theorem d5_48 : decode method_2_code 48 = .ok (.iconst 5, 1) := by decide +kernel
theorem d5_49 : decode method_2_code 49 = .ok (.ireturn, 1) := by decide +kernel
theorem d5_50 : decode method_2_code 50 = .ok (.lload_n 0, 1) := by decide +kernel
theorem d5_51 : decode method_2_code 51 = .ok (.ldc2_w 17, 3) := by decide +kernel
theorem d5_54 : decode method_2_code 54 = .ok (.lcmp, 1) := by decide +kernel
theorem d5_55 : decode method_2_code 55 = .ok (.ifCond .ge 6, 3) := by decide +kernel
theorem d5_58 : decode method_2_code 58 = .ok (.bipush 6, 2) := by decide +kernel
theorem d5_60 : decode method_2_code 60 = .ok (.ireturn, 1) := by decide +kernel
theorem d5_61 : decode method_2_code 61 = .ok (.lload_n 0, 1) := by decide +kernel
theorem d5_62 : decode method_2_code 62 = .ok (.ldc2_w 19, 3) := by decide +kernel
theorem d5_65 : decode method_2_code 65 = .ok (.lcmp, 1) := by decide +kernel
theorem d5_66 : decode method_2_code 66 = .ok (.ifCond .ge 6, 3) := by decide +kernel
theorem d5_69 : decode method_2_code 69 = .ok (.bipush 7, 2) := by decide +kernel
theorem d5_71 : decode method_2_code 71 = .ok (.ireturn, 1) := by decide +kernel
theorem d5_72 : decode method_2_code 72 = .ok (.lload_n 0, 1) := by decide +kernel
theorem d5_73 : decode method_2_code 73 = .ok (.ldc2_w 21, 3) := by decide +kernel
theorem d5_76 : decode method_2_code 76 = .ok (.lcmp, 1) := by decide +kernel
theorem d5_77 : decode method_2_code 77 = .ok (.ifCond .ge 6, 3) := by decide +kernel
theorem d5_80 : decode method_2_code 80 = .ok (.bipush 8, 2) := by decide +kernel
theorem d5_82 : decode method_2_code 82 = .ok (.ireturn, 1) := by decide +kernel
theorem d5_83 : decode method_2_code 83 = .ok (.lload_n 0, 1) := by decide +kernel
theorem d5_84 : decode method_2_code 84 = .ok (.ldc2_w 23, 3) := by decide +kernel
theorem d5_87 : decode method_2_code 87 = .ok (.lcmp, 1) := by decide +kernel
theorem d5_88 : decode method_2_code 88 = .ok (.ifCond .ge 6, 3) := by decide +kernel
theorem d5_91 : decode method_2_code 91 = .ok (.bipush 9, 2) := by decide +kernel
theorem d5_93 : decode method_2_code 93 = .ok (.ireturn, 1) := by decide +kernel
theorem d5_94 : decode method_2_code 94 = .ok (.bipush 10, 2) := by decide +kernel
theorem d5_96 : decode method_2_code 96 = .ok (.ireturn, 1) := by decide +kernel
theorem pn_5 : plainName "com/example/millrace/millrace/log/VarintSizeOfLongPinLaw" = true := by first | (simp [plainName, overriddenIn]; done) | decide +kernel
theorem ef_5 (m : MethodId) (q1 : Int64) : entryFrame m #[(.long q1)] 2 = mkF m 0 #[.val (.long q1), .second] [] := by first | (simp [entryFrame, mkF, argsToLocals, Value.category]; done) | rfl
def f5 (q1 : Int64) : Int32 := (if (own_cmp q1 (64 : Int64)) < (0 : Int32) then (1 : Int32) else (if (own_cmp q1 (8192 : Int64)) < (0 : Int32) then (2 : Int32) else (if (own_cmp q1 (1048576 : Int64)) < (0 : Int32) then (3 : Int32) else (if (own_cmp q1 (134217728 : Int64)) < (0 : Int32) then (4 : Int32) else (if (own_cmp q1 (17179869184 : Int64)) < (0 : Int32) then (5 : Int32) else (if (own_cmp q1 (2199023255552 : Int64)) < (0 : Int32) then (6 : Int32) else (if (own_cmp q1 (281474976710656 : Int64)) < (0 : Int32) then (7 : Int32) else (if (own_cmp q1 (36028797018963968 : Int64)) < (0 : Int32) then (8 : Int32) else (if (own_cmp q1 (4611686018427387904 : Int64)) < (0 : Int32) then (9 : Int32) else (10 : Int32))))))))))
def Q5 (Z : State) (q1 : Int64) (h0 : Heap) (n0 : Nat) (v : Option Value) (h : Heap) (L : List Loc) : Prop := v = some (.int (f5 q1)) ∧ Fr n0 L ∧ h = h0
set_option maxRecDepth 65536 in
set_option maxHeartbeats 40000000 in
theorem rm5 (l : Launch) (Z : State) (a0 : Array Value) (hw : ∀ d ∈ tables_1, d.before a0 Z = true) (ws : List Jvm.Cond) (q1 : Int64) (h0 : Heap) (n0 : Nat) (Z0 : n0 ≤ h0.size) :
    MetFree l (⟨"com/example/millrace/millrace/log/VarintSizeOfLongPinLaw", "expected", "(J)I"⟩ : MethodName) (head1 (Jvm.Cond.code (⟨"com/example/millrace/millrace/log/VarintSizeOfLongPinLaw", "expected", "(J)I"⟩ : MethodName) method_2_code 2 (some .int) :: ws) ({ frames := 0, cells := 0, slots := 0, locals := 0 } : Room)) (fun a U => a = #[(.long q1)] ∧ Z.Warmed39 U.vm ∧ U.heap = h0) (fun _ _ _ _ _ => True) (fun _ U o U' => ∃ v L, o = .returned v ∧ Q5 Z q1 h0 n0 v U'.heap L ∧ FrameEnd U o U' L ({ frames := 0, cells := 0, slots := 0, locals := 0 } : Room).cells ({ frames := 0, cells := 0, slots := 0, locals := 0 } : Room).slots) := by
  refine MetFree.of_bodySF (plainFor_of_name pn_5) hisR ?_
  intro p e s m args below meth c s₁ Bd hml0 hP hK
  obtain ⟨rfl, hZ, hh⟩ := hP
  have hx := Bd.exec
  have hby := Bd.bytes
  have hml : c.maxLocals = 2 := hml0
  have hown : s.vm.findClass "com/example/millrace/millrace/log/VarintSizeOfLongPinLaw" = some m.cls := findClass_of_methodNamed Bd.named
  have hnm := (name_of_methodNamed Bd.named Bd.method).1
  have X0 : Stand p l e ({ frames := 0, cells := 0, slots := 0, locals := 0 } : Room) s m #[(.long q1)] below meth c s₁ [] 0 0 := Stand.of_body Bd
  have e0 : s₁.heap = h0 := by rw [← hh, Bd.state]; rfl
  have N0 := Fr.nil n0
  have pre0 : ∀ t, Steps p.tables e below (s₁.setTop (mkF m 0 #[.val (.long q1), .second] [])) t → Steps p.tables e below (s₁.setTop (entryFrame m #[(.long q1)] 2)) t := fun t k => castTop (ef_5 m q1) k
  have K1 : ∀ t, Steps p.tables e below (s₁.setTop (mkF m 5 #[.val (.long q1), .second] [(.int (own_cmp q1 (64 : Int64)))])) t → Steps p.tables e below (s₁.setTop (mkF m 0 #[.val (.long q1), .second] [])) t := by
    intro t k
    refine XS.lloadN X0.here hx rfl (hb hby d5_0) rfl ?_
    show Steps p.tables e below (s₁.setTop (mkF m 1 #[.val (.long q1), .second] [(.long q1)])) t
    refine X0.ldc2Long hx hown (mvT hZ (hw _ (List.mem_of_getElem? (i := 21) rfl))) (g := (mkF m 1 #[.val (.long q1), .second] [(.long q1)])) rfl (hb hby d5_1) _ ?_
    show Steps p.tables e below (s₁.setTop (mkF m 4 #[.val (.long q1), .second] [(.long (64 : Int64)), (.long q1)])) t
    refine XS.lcmp X0.here hx rfl (hb hby d5_4) rfl ?_
    show Steps p.tables e below (s₁.setTop (mkF m 5 #[.val (.long q1), .second] [(.int (own_cmp q1 (64 : Int64)))])) t
    exact k
  by_cases hc2 : (own_cmp q1 (64 : Int64)) < (0 : Int32)
  · have K3 : ∀ t, Steps p.tables e below (s₁.setTop (mkF m 8 #[.val (.long q1), .second] [])) t → Steps p.tables e below (s₁.setTop (mkF m 5 #[.val (.long q1), .second] [(.int (own_cmp q1 (64 : Int64)))])) t := by
      intro t k
      refine XS.ifNo X0.here hx rfl (hb hby d5_5) rfl ((if0 _ _).trans (tlt hc2).2.1) ?_
      exact k
    have K4 : ∀ t, Steps p.tables e below (s₁.setTop (mkF m 9 #[.val (.long q1), .second] [(.int (1 : Int32))])) t → Steps p.tables e below (s₁.setTop (mkF m 8 #[.val (.long q1), .second] [])) t := by
      intro t k
      refine XS.iconst X0.here hx rfl (hb hby d5_8) ?_
      show Steps p.tables e below (s₁.setTop (mkF m 9 #[.val (.long q1), .second] [(.int (1 : Int32))])) t
      exact k
    obtain ⟨fs, hr, hrun, hended, hW, hsame⟩ := X0.leave (v := some (.int (1 : Int32))) (fun h => by rw [Bd.returns] at h; cases h)
    refine ⟨_, _, pre0 _ (K1 _ (K3 _ (K4 _ (retI X0 hx Bd.returns (hb hby d5_9) hr)))), hrun, hended, _, _, rfl, ?_, ⟨_, rfl⟩, hW, hsame.mono (by decide) (by decide)⟩
    show Q5 Z q1 h0 n0 _ s₁.heap _
    rw [e0]
    exact ⟨congrArg (fun z => some (Value.int z)) (show (1 : Int32) = f5 q1 from Eq.symm (if_pos hc2)), N0, rfl⟩
  · have K5 : ∀ t, Steps p.tables e below (s₁.setTop (mkF m 10 #[.val (.long q1), .second] [])) t → Steps p.tables e below (s₁.setTop (mkF m 5 #[.val (.long q1), .second] [(.int (own_cmp q1 (64 : Int64)))])) t := by
      intro t k
      refine XS.ifYes X0.here hx rfl (pc0 := 5) (pc' := 10) rfl (hb hby d5_5) rfl ((if0 _ _).trans (flt hc2).2.1) (by decide) (by decide) ?_
      exact k
    have K6 : ∀ t, Steps p.tables e below (s₁.setTop (mkF m 15 #[.val (.long q1), .second] [(.int (own_cmp q1 (8192 : Int64)))])) t → Steps p.tables e below (s₁.setTop (mkF m 10 #[.val (.long q1), .second] [])) t := by
      intro t k
      refine XS.lloadN X0.here hx rfl (hb hby d5_10) rfl ?_
      show Steps p.tables e below (s₁.setTop (mkF m 11 #[.val (.long q1), .second] [(.long q1)])) t
      refine X0.ldc2Long hx hown (mvT hZ (hw _ (List.mem_of_getElem? (i := 23) rfl))) (g := (mkF m 11 #[.val (.long q1), .second] [(.long q1)])) rfl (hb hby d5_11) _ ?_
      show Steps p.tables e below (s₁.setTop (mkF m 14 #[.val (.long q1), .second] [(.long (8192 : Int64)), (.long q1)])) t
      refine XS.lcmp X0.here hx rfl (hb hby d5_14) rfl ?_
      show Steps p.tables e below (s₁.setTop (mkF m 15 #[.val (.long q1), .second] [(.int (own_cmp q1 (8192 : Int64)))])) t
      exact k
    by_cases hc7 : (own_cmp q1 (8192 : Int64)) < (0 : Int32)
    · have K8 : ∀ t, Steps p.tables e below (s₁.setTop (mkF m 18 #[.val (.long q1), .second] [])) t → Steps p.tables e below (s₁.setTop (mkF m 15 #[.val (.long q1), .second] [(.int (own_cmp q1 (8192 : Int64)))])) t := by
        intro t k
        refine XS.ifNo X0.here hx rfl (hb hby d5_15) rfl ((if0 _ _).trans (tlt hc7).2.1) ?_
        exact k
      have K9 : ∀ t, Steps p.tables e below (s₁.setTop (mkF m 19 #[.val (.long q1), .second] [(.int (2 : Int32))])) t → Steps p.tables e below (s₁.setTop (mkF m 18 #[.val (.long q1), .second] [])) t := by
        intro t k
        refine XS.iconst X0.here hx rfl (hb hby d5_18) ?_
        show Steps p.tables e below (s₁.setTop (mkF m 19 #[.val (.long q1), .second] [(.int (2 : Int32))])) t
        exact k
      obtain ⟨fs, hr, hrun, hended, hW, hsame⟩ := X0.leave (v := some (.int (2 : Int32))) (fun h => by rw [Bd.returns] at h; cases h)
      refine ⟨_, _, pre0 _ (K1 _ (K5 _ (K6 _ (K8 _ (K9 _ (retI X0 hx Bd.returns (hb hby d5_19) hr)))))), hrun, hended, _, _, rfl, ?_, ⟨_, rfl⟩, hW, hsame.mono (by decide) (by decide)⟩
      show Q5 Z q1 h0 n0 _ s₁.heap _
      rw [e0]
      exact ⟨congrArg (fun z => some (Value.int z)) (show (2 : Int32) = f5 q1 from Eq.symm ((if_neg hc2).trans (if_pos hc7))), N0, rfl⟩
    · have K10 : ∀ t, Steps p.tables e below (s₁.setTop (mkF m 20 #[.val (.long q1), .second] [])) t → Steps p.tables e below (s₁.setTop (mkF m 15 #[.val (.long q1), .second] [(.int (own_cmp q1 (8192 : Int64)))])) t := by
        intro t k
        refine XS.ifYes X0.here hx rfl (pc0 := 15) (pc' := 20) rfl (hb hby d5_15) rfl ((if0 _ _).trans (flt hc7).2.1) (by decide) (by decide) ?_
        exact k
      have K11 : ∀ t, Steps p.tables e below (s₁.setTop (mkF m 25 #[.val (.long q1), .second] [(.int (own_cmp q1 (1048576 : Int64)))])) t → Steps p.tables e below (s₁.setTop (mkF m 20 #[.val (.long q1), .second] [])) t := by
        intro t k
        refine XS.lloadN X0.here hx rfl (hb hby d5_20) rfl ?_
        show Steps p.tables e below (s₁.setTop (mkF m 21 #[.val (.long q1), .second] [(.long q1)])) t
        refine X0.ldc2Long hx hown (mvT hZ (hw _ (List.mem_of_getElem? (i := 24) rfl))) (g := (mkF m 21 #[.val (.long q1), .second] [(.long q1)])) rfl (hb hby d5_21) _ ?_
        show Steps p.tables e below (s₁.setTop (mkF m 24 #[.val (.long q1), .second] [(.long (1048576 : Int64)), (.long q1)])) t
        refine XS.lcmp X0.here hx rfl (hb hby d5_24) rfl ?_
        show Steps p.tables e below (s₁.setTop (mkF m 25 #[.val (.long q1), .second] [(.int (own_cmp q1 (1048576 : Int64)))])) t
        exact k
      by_cases hc12 : (own_cmp q1 (1048576 : Int64)) < (0 : Int32)
      · have K13 : ∀ t, Steps p.tables e below (s₁.setTop (mkF m 28 #[.val (.long q1), .second] [])) t → Steps p.tables e below (s₁.setTop (mkF m 25 #[.val (.long q1), .second] [(.int (own_cmp q1 (1048576 : Int64)))])) t := by
          intro t k
          refine XS.ifNo X0.here hx rfl (hb hby d5_25) rfl ((if0 _ _).trans (tlt hc12).2.1) ?_
          exact k
        have K14 : ∀ t, Steps p.tables e below (s₁.setTop (mkF m 29 #[.val (.long q1), .second] [(.int (3 : Int32))])) t → Steps p.tables e below (s₁.setTop (mkF m 28 #[.val (.long q1), .second] [])) t := by
          intro t k
          refine XS.iconst X0.here hx rfl (hb hby d5_28) ?_
          show Steps p.tables e below (s₁.setTop (mkF m 29 #[.val (.long q1), .second] [(.int (3 : Int32))])) t
          exact k
        obtain ⟨fs, hr, hrun, hended, hW, hsame⟩ := X0.leave (v := some (.int (3 : Int32))) (fun h => by rw [Bd.returns] at h; cases h)
        refine ⟨_, _, pre0 _ (K1 _ (K5 _ (K6 _ (K10 _ (K11 _ (K13 _ (K14 _ (retI X0 hx Bd.returns (hb hby d5_29) hr)))))))), hrun, hended, _, _, rfl, ?_, ⟨_, rfl⟩, hW, hsame.mono (by decide) (by decide)⟩
        show Q5 Z q1 h0 n0 _ s₁.heap _
        rw [e0]
        exact ⟨congrArg (fun z => some (Value.int z)) (show (3 : Int32) = f5 q1 from Eq.symm ((if_neg hc2).trans ((if_neg hc7).trans (if_pos hc12)))), N0, rfl⟩
      · have K15 : ∀ t, Steps p.tables e below (s₁.setTop (mkF m 30 #[.val (.long q1), .second] [])) t → Steps p.tables e below (s₁.setTop (mkF m 25 #[.val (.long q1), .second] [(.int (own_cmp q1 (1048576 : Int64)))])) t := by
          intro t k
          refine XS.ifYes X0.here hx rfl (pc0 := 25) (pc' := 30) rfl (hb hby d5_25) rfl ((if0 _ _).trans (flt hc12).2.1) (by decide) (by decide) ?_
          exact k
        have K16 : ∀ t, Steps p.tables e below (s₁.setTop (mkF m 35 #[.val (.long q1), .second] [(.int (own_cmp q1 (134217728 : Int64)))])) t → Steps p.tables e below (s₁.setTop (mkF m 30 #[.val (.long q1), .second] [])) t := by
          intro t k
          refine XS.lloadN X0.here hx rfl (hb hby d5_30) rfl ?_
          show Steps p.tables e below (s₁.setTop (mkF m 31 #[.val (.long q1), .second] [(.long q1)])) t
          refine X0.ldc2Long hx hown (mvT hZ (hw _ (List.mem_of_getElem? (i := 25) rfl))) (g := (mkF m 31 #[.val (.long q1), .second] [(.long q1)])) rfl (hb hby d5_31) _ ?_
          show Steps p.tables e below (s₁.setTop (mkF m 34 #[.val (.long q1), .second] [(.long (134217728 : Int64)), (.long q1)])) t
          refine XS.lcmp X0.here hx rfl (hb hby d5_34) rfl ?_
          show Steps p.tables e below (s₁.setTop (mkF m 35 #[.val (.long q1), .second] [(.int (own_cmp q1 (134217728 : Int64)))])) t
          exact k
        by_cases hc17 : (own_cmp q1 (134217728 : Int64)) < (0 : Int32)
        · have K18 : ∀ t, Steps p.tables e below (s₁.setTop (mkF m 38 #[.val (.long q1), .second] [])) t → Steps p.tables e below (s₁.setTop (mkF m 35 #[.val (.long q1), .second] [(.int (own_cmp q1 (134217728 : Int64)))])) t := by
            intro t k
            refine XS.ifNo X0.here hx rfl (hb hby d5_35) rfl ((if0 _ _).trans (tlt hc17).2.1) ?_
            exact k
          have K19 : ∀ t, Steps p.tables e below (s₁.setTop (mkF m 39 #[.val (.long q1), .second] [(.int (4 : Int32))])) t → Steps p.tables e below (s₁.setTop (mkF m 38 #[.val (.long q1), .second] [])) t := by
            intro t k
            refine XS.iconst X0.here hx rfl (hb hby d5_38) ?_
            show Steps p.tables e below (s₁.setTop (mkF m 39 #[.val (.long q1), .second] [(.int (4 : Int32))])) t
            exact k
          obtain ⟨fs, hr, hrun, hended, hW, hsame⟩ := X0.leave (v := some (.int (4 : Int32))) (fun h => by rw [Bd.returns] at h; cases h)
          refine ⟨_, _, pre0 _ (K1 _ (K5 _ (K6 _ (K10 _ (K11 _ (K15 _ (K16 _ (K18 _ (K19 _ (retI X0 hx Bd.returns (hb hby d5_39) hr)))))))))), hrun, hended, _, _, rfl, ?_, ⟨_, rfl⟩, hW, hsame.mono (by decide) (by decide)⟩
          show Q5 Z q1 h0 n0 _ s₁.heap _
          rw [e0]
          exact ⟨congrArg (fun z => some (Value.int z)) (show (4 : Int32) = f5 q1 from Eq.symm ((if_neg hc2).trans ((if_neg hc7).trans ((if_neg hc12).trans (if_pos hc17))))), N0, rfl⟩
        · have K20 : ∀ t, Steps p.tables e below (s₁.setTop (mkF m 40 #[.val (.long q1), .second] [])) t → Steps p.tables e below (s₁.setTop (mkF m 35 #[.val (.long q1), .second] [(.int (own_cmp q1 (134217728 : Int64)))])) t := by
            intro t k
            refine XS.ifYes X0.here hx rfl (pc0 := 35) (pc' := 40) rfl (hb hby d5_35) rfl ((if0 _ _).trans (flt hc17).2.1) (by decide) (by decide) ?_
            exact k
          have K21 : ∀ t, Steps p.tables e below (s₁.setTop (mkF m 45 #[.val (.long q1), .second] [(.int (own_cmp q1 (17179869184 : Int64)))])) t → Steps p.tables e below (s₁.setTop (mkF m 40 #[.val (.long q1), .second] [])) t := by
            intro t k
            refine XS.lloadN X0.here hx rfl (hb hby d5_40) rfl ?_
            show Steps p.tables e below (s₁.setTop (mkF m 41 #[.val (.long q1), .second] [(.long q1)])) t
            refine X0.ldc2Long hx hown (mvT hZ (hw _ (List.mem_of_getElem? (i := 26) rfl))) (g := (mkF m 41 #[.val (.long q1), .second] [(.long q1)])) rfl (hb hby d5_41) _ ?_
            show Steps p.tables e below (s₁.setTop (mkF m 44 #[.val (.long q1), .second] [(.long (17179869184 : Int64)), (.long q1)])) t
            refine XS.lcmp X0.here hx rfl (hb hby d5_44) rfl ?_
            show Steps p.tables e below (s₁.setTop (mkF m 45 #[.val (.long q1), .second] [(.int (own_cmp q1 (17179869184 : Int64)))])) t
            exact k
          by_cases hc22 : (own_cmp q1 (17179869184 : Int64)) < (0 : Int32)
          · have K23 : ∀ t, Steps p.tables e below (s₁.setTop (mkF m 48 #[.val (.long q1), .second] [])) t → Steps p.tables e below (s₁.setTop (mkF m 45 #[.val (.long q1), .second] [(.int (own_cmp q1 (17179869184 : Int64)))])) t := by
              intro t k
              refine XS.ifNo X0.here hx rfl (hb hby d5_45) rfl ((if0 _ _).trans (tlt hc22).2.1) ?_
              exact k
            have K24 : ∀ t, Steps p.tables e below (s₁.setTop (mkF m 49 #[.val (.long q1), .second] [(.int (5 : Int32))])) t → Steps p.tables e below (s₁.setTop (mkF m 48 #[.val (.long q1), .second] [])) t := by
              intro t k
              refine XS.iconst X0.here hx rfl (hb hby d5_48) ?_
              show Steps p.tables e below (s₁.setTop (mkF m 49 #[.val (.long q1), .second] [(.int (5 : Int32))])) t
              exact k
            obtain ⟨fs, hr, hrun, hended, hW, hsame⟩ := X0.leave (v := some (.int (5 : Int32))) (fun h => by rw [Bd.returns] at h; cases h)
            refine ⟨_, _, pre0 _ (K1 _ (K5 _ (K6 _ (K10 _ (K11 _ (K15 _ (K16 _ (K20 _ (K21 _ (K23 _ (K24 _ (retI X0 hx Bd.returns (hb hby d5_49) hr)))))))))))), hrun, hended, _, _, rfl, ?_, ⟨_, rfl⟩, hW, hsame.mono (by decide) (by decide)⟩
            show Q5 Z q1 h0 n0 _ s₁.heap _
            rw [e0]
            exact ⟨congrArg (fun z => some (Value.int z)) (show (5 : Int32) = f5 q1 from Eq.symm ((if_neg hc2).trans ((if_neg hc7).trans ((if_neg hc12).trans ((if_neg hc17).trans (if_pos hc22)))))), N0, rfl⟩
          · have K25 : ∀ t, Steps p.tables e below (s₁.setTop (mkF m 50 #[.val (.long q1), .second] [])) t → Steps p.tables e below (s₁.setTop (mkF m 45 #[.val (.long q1), .second] [(.int (own_cmp q1 (17179869184 : Int64)))])) t := by
              intro t k
              refine XS.ifYes X0.here hx rfl (pc0 := 45) (pc' := 50) rfl (hb hby d5_45) rfl ((if0 _ _).trans (flt hc22).2.1) (by decide) (by decide) ?_
              exact k
            have K26 : ∀ t, Steps p.tables e below (s₁.setTop (mkF m 55 #[.val (.long q1), .second] [(.int (own_cmp q1 (2199023255552 : Int64)))])) t → Steps p.tables e below (s₁.setTop (mkF m 50 #[.val (.long q1), .second] [])) t := by
              intro t k
              refine XS.lloadN X0.here hx rfl (hb hby d5_50) rfl ?_
              show Steps p.tables e below (s₁.setTop (mkF m 51 #[.val (.long q1), .second] [(.long q1)])) t
              refine X0.ldc2Long hx hown (mvT hZ (hw _ (List.mem_of_getElem? (i := 27) rfl))) (g := (mkF m 51 #[.val (.long q1), .second] [(.long q1)])) rfl (hb hby d5_51) _ ?_
              show Steps p.tables e below (s₁.setTop (mkF m 54 #[.val (.long q1), .second] [(.long (2199023255552 : Int64)), (.long q1)])) t
              refine XS.lcmp X0.here hx rfl (hb hby d5_54) rfl ?_
              show Steps p.tables e below (s₁.setTop (mkF m 55 #[.val (.long q1), .second] [(.int (own_cmp q1 (2199023255552 : Int64)))])) t
              exact k
            by_cases hc27 : (own_cmp q1 (2199023255552 : Int64)) < (0 : Int32)
            · have K28 : ∀ t, Steps p.tables e below (s₁.setTop (mkF m 58 #[.val (.long q1), .second] [])) t → Steps p.tables e below (s₁.setTop (mkF m 55 #[.val (.long q1), .second] [(.int (own_cmp q1 (2199023255552 : Int64)))])) t := by
                intro t k
                refine XS.ifNo X0.here hx rfl (hb hby d5_55) rfl ((if0 _ _).trans (tlt hc27).2.1) ?_
                exact k
              have K29 : ∀ t, Steps p.tables e below (s₁.setTop (mkF m 60 #[.val (.long q1), .second] [(.int (6 : Int32))])) t → Steps p.tables e below (s₁.setTop (mkF m 58 #[.val (.long q1), .second] [])) t := by
                intro t k
                refine XS.bipush X0.here hx rfl (hb hby d5_58) ?_
                show Steps p.tables e below (s₁.setTop (mkF m 60 #[.val (.long q1), .second] [(.int (6 : Int32))])) t
                exact k
              obtain ⟨fs, hr, hrun, hended, hW, hsame⟩ := X0.leave (v := some (.int (6 : Int32))) (fun h => by rw [Bd.returns] at h; cases h)
              refine ⟨_, _, pre0 _ (K1 _ (K5 _ (K6 _ (K10 _ (K11 _ (K15 _ (K16 _ (K20 _ (K21 _ (K25 _ (K26 _ (K28 _ (K29 _ (retI X0 hx Bd.returns (hb hby d5_60) hr)))))))))))))), hrun, hended, _, _, rfl, ?_, ⟨_, rfl⟩, hW, hsame.mono (by decide) (by decide)⟩
              show Q5 Z q1 h0 n0 _ s₁.heap _
              rw [e0]
              exact ⟨congrArg (fun z => some (Value.int z)) (show (6 : Int32) = f5 q1 from Eq.symm ((if_neg hc2).trans ((if_neg hc7).trans ((if_neg hc12).trans ((if_neg hc17).trans ((if_neg hc22).trans (if_pos hc27))))))), N0, rfl⟩
            · have K30 : ∀ t, Steps p.tables e below (s₁.setTop (mkF m 61 #[.val (.long q1), .second] [])) t → Steps p.tables e below (s₁.setTop (mkF m 55 #[.val (.long q1), .second] [(.int (own_cmp q1 (2199023255552 : Int64)))])) t := by
                intro t k
                refine XS.ifYes X0.here hx rfl (pc0 := 55) (pc' := 61) rfl (hb hby d5_55) rfl ((if0 _ _).trans (flt hc27).2.1) (by decide) (by decide) ?_
                exact k
              have K31 : ∀ t, Steps p.tables e below (s₁.setTop (mkF m 66 #[.val (.long q1), .second] [(.int (own_cmp q1 (281474976710656 : Int64)))])) t → Steps p.tables e below (s₁.setTop (mkF m 61 #[.val (.long q1), .second] [])) t := by
                intro t k
                refine XS.lloadN X0.here hx rfl (hb hby d5_61) rfl ?_
                show Steps p.tables e below (s₁.setTop (mkF m 62 #[.val (.long q1), .second] [(.long q1)])) t
                refine X0.ldc2Long hx hown (mvT hZ (hw _ (List.mem_of_getElem? (i := 28) rfl))) (g := (mkF m 62 #[.val (.long q1), .second] [(.long q1)])) rfl (hb hby d5_62) _ ?_
                show Steps p.tables e below (s₁.setTop (mkF m 65 #[.val (.long q1), .second] [(.long (281474976710656 : Int64)), (.long q1)])) t
                refine XS.lcmp X0.here hx rfl (hb hby d5_65) rfl ?_
                show Steps p.tables e below (s₁.setTop (mkF m 66 #[.val (.long q1), .second] [(.int (own_cmp q1 (281474976710656 : Int64)))])) t
                exact k
              by_cases hc32 : (own_cmp q1 (281474976710656 : Int64)) < (0 : Int32)
              · have K33 : ∀ t, Steps p.tables e below (s₁.setTop (mkF m 69 #[.val (.long q1), .second] [])) t → Steps p.tables e below (s₁.setTop (mkF m 66 #[.val (.long q1), .second] [(.int (own_cmp q1 (281474976710656 : Int64)))])) t := by
                  intro t k
                  refine XS.ifNo X0.here hx rfl (hb hby d5_66) rfl ((if0 _ _).trans (tlt hc32).2.1) ?_
                  exact k
                have K34 : ∀ t, Steps p.tables e below (s₁.setTop (mkF m 71 #[.val (.long q1), .second] [(.int (7 : Int32))])) t → Steps p.tables e below (s₁.setTop (mkF m 69 #[.val (.long q1), .second] [])) t := by
                  intro t k
                  refine XS.bipush X0.here hx rfl (hb hby d5_69) ?_
                  show Steps p.tables e below (s₁.setTop (mkF m 71 #[.val (.long q1), .second] [(.int (7 : Int32))])) t
                  exact k
                obtain ⟨fs, hr, hrun, hended, hW, hsame⟩ := X0.leave (v := some (.int (7 : Int32))) (fun h => by rw [Bd.returns] at h; cases h)
                refine ⟨_, _, pre0 _ (K1 _ (K5 _ (K6 _ (K10 _ (K11 _ (K15 _ (K16 _ (K20 _ (K21 _ (K25 _ (K26 _ (K30 _ (K31 _ (K33 _ (K34 _ (retI X0 hx Bd.returns (hb hby d5_71) hr)))))))))))))))), hrun, hended, _, _, rfl, ?_, ⟨_, rfl⟩, hW, hsame.mono (by decide) (by decide)⟩
                show Q5 Z q1 h0 n0 _ s₁.heap _
                rw [e0]
                exact ⟨congrArg (fun z => some (Value.int z)) (show (7 : Int32) = f5 q1 from Eq.symm ((if_neg hc2).trans ((if_neg hc7).trans ((if_neg hc12).trans ((if_neg hc17).trans ((if_neg hc22).trans ((if_neg hc27).trans (if_pos hc32)))))))), N0, rfl⟩
              · have K35 : ∀ t, Steps p.tables e below (s₁.setTop (mkF m 72 #[.val (.long q1), .second] [])) t → Steps p.tables e below (s₁.setTop (mkF m 66 #[.val (.long q1), .second] [(.int (own_cmp q1 (281474976710656 : Int64)))])) t := by
                  intro t k
                  refine XS.ifYes X0.here hx rfl (pc0 := 66) (pc' := 72) rfl (hb hby d5_66) rfl ((if0 _ _).trans (flt hc32).2.1) (by decide) (by decide) ?_
                  exact k
                have K36 : ∀ t, Steps p.tables e below (s₁.setTop (mkF m 77 #[.val (.long q1), .second] [(.int (own_cmp q1 (36028797018963968 : Int64)))])) t → Steps p.tables e below (s₁.setTop (mkF m 72 #[.val (.long q1), .second] [])) t := by
                  intro t k
                  refine XS.lloadN X0.here hx rfl (hb hby d5_72) rfl ?_
                  show Steps p.tables e below (s₁.setTop (mkF m 73 #[.val (.long q1), .second] [(.long q1)])) t
                  refine X0.ldc2Long hx hown (mvT hZ (hw _ (List.mem_of_getElem? (i := 29) rfl))) (g := (mkF m 73 #[.val (.long q1), .second] [(.long q1)])) rfl (hb hby d5_73) _ ?_
                  show Steps p.tables e below (s₁.setTop (mkF m 76 #[.val (.long q1), .second] [(.long (36028797018963968 : Int64)), (.long q1)])) t
                  refine XS.lcmp X0.here hx rfl (hb hby d5_76) rfl ?_
                  show Steps p.tables e below (s₁.setTop (mkF m 77 #[.val (.long q1), .second] [(.int (own_cmp q1 (36028797018963968 : Int64)))])) t
                  exact k
                by_cases hc37 : (own_cmp q1 (36028797018963968 : Int64)) < (0 : Int32)
                · have K38 : ∀ t, Steps p.tables e below (s₁.setTop (mkF m 80 #[.val (.long q1), .second] [])) t → Steps p.tables e below (s₁.setTop (mkF m 77 #[.val (.long q1), .second] [(.int (own_cmp q1 (36028797018963968 : Int64)))])) t := by
                    intro t k
                    refine XS.ifNo X0.here hx rfl (hb hby d5_77) rfl ((if0 _ _).trans (tlt hc37).2.1) ?_
                    exact k
                  have K39 : ∀ t, Steps p.tables e below (s₁.setTop (mkF m 82 #[.val (.long q1), .second] [(.int (8 : Int32))])) t → Steps p.tables e below (s₁.setTop (mkF m 80 #[.val (.long q1), .second] [])) t := by
                    intro t k
                    refine XS.bipush X0.here hx rfl (hb hby d5_80) ?_
                    show Steps p.tables e below (s₁.setTop (mkF m 82 #[.val (.long q1), .second] [(.int (8 : Int32))])) t
                    exact k
                  obtain ⟨fs, hr, hrun, hended, hW, hsame⟩ := X0.leave (v := some (.int (8 : Int32))) (fun h => by rw [Bd.returns] at h; cases h)
                  refine ⟨_, _, pre0 _ (K1 _ (K5 _ (K6 _ (K10 _ (K11 _ (K15 _ (K16 _ (K20 _ (K21 _ (K25 _ (K26 _ (K30 _ (K31 _ (K35 _ (K36 _ (K38 _ (K39 _ (retI X0 hx Bd.returns (hb hby d5_82) hr)))))))))))))))))), hrun, hended, _, _, rfl, ?_, ⟨_, rfl⟩, hW, hsame.mono (by decide) (by decide)⟩
                  show Q5 Z q1 h0 n0 _ s₁.heap _
                  rw [e0]
                  exact ⟨congrArg (fun z => some (Value.int z)) (show (8 : Int32) = f5 q1 from Eq.symm ((if_neg hc2).trans ((if_neg hc7).trans ((if_neg hc12).trans ((if_neg hc17).trans ((if_neg hc22).trans ((if_neg hc27).trans ((if_neg hc32).trans (if_pos hc37))))))))), N0, rfl⟩
                · have K40 : ∀ t, Steps p.tables e below (s₁.setTop (mkF m 83 #[.val (.long q1), .second] [])) t → Steps p.tables e below (s₁.setTop (mkF m 77 #[.val (.long q1), .second] [(.int (own_cmp q1 (36028797018963968 : Int64)))])) t := by
                    intro t k
                    refine XS.ifYes X0.here hx rfl (pc0 := 77) (pc' := 83) rfl (hb hby d5_77) rfl ((if0 _ _).trans (flt hc37).2.1) (by decide) (by decide) ?_
                    exact k
                  have K41 : ∀ t, Steps p.tables e below (s₁.setTop (mkF m 88 #[.val (.long q1), .second] [(.int (own_cmp q1 (4611686018427387904 : Int64)))])) t → Steps p.tables e below (s₁.setTop (mkF m 83 #[.val (.long q1), .second] [])) t := by
                    intro t k
                    refine XS.lloadN X0.here hx rfl (hb hby d5_83) rfl ?_
                    show Steps p.tables e below (s₁.setTop (mkF m 84 #[.val (.long q1), .second] [(.long q1)])) t
                    refine X0.ldc2Long hx hown (mvT hZ (hw _ (List.mem_of_getElem? (i := 30) rfl))) (g := (mkF m 84 #[.val (.long q1), .second] [(.long q1)])) rfl (hb hby d5_84) _ ?_
                    show Steps p.tables e below (s₁.setTop (mkF m 87 #[.val (.long q1), .second] [(.long (4611686018427387904 : Int64)), (.long q1)])) t
                    refine XS.lcmp X0.here hx rfl (hb hby d5_87) rfl ?_
                    show Steps p.tables e below (s₁.setTop (mkF m 88 #[.val (.long q1), .second] [(.int (own_cmp q1 (4611686018427387904 : Int64)))])) t
                    exact k
                  by_cases hc42 : (own_cmp q1 (4611686018427387904 : Int64)) < (0 : Int32)
                  · have K43 : ∀ t, Steps p.tables e below (s₁.setTop (mkF m 91 #[.val (.long q1), .second] [])) t → Steps p.tables e below (s₁.setTop (mkF m 88 #[.val (.long q1), .second] [(.int (own_cmp q1 (4611686018427387904 : Int64)))])) t := by
                      intro t k
                      refine XS.ifNo X0.here hx rfl (hb hby d5_88) rfl ((if0 _ _).trans (tlt hc42).2.1) ?_
                      exact k
                    have K44 : ∀ t, Steps p.tables e below (s₁.setTop (mkF m 93 #[.val (.long q1), .second] [(.int (9 : Int32))])) t → Steps p.tables e below (s₁.setTop (mkF m 91 #[.val (.long q1), .second] [])) t := by
                      intro t k
                      refine XS.bipush X0.here hx rfl (hb hby d5_91) ?_
                      show Steps p.tables e below (s₁.setTop (mkF m 93 #[.val (.long q1), .second] [(.int (9 : Int32))])) t
                      exact k
                    obtain ⟨fs, hr, hrun, hended, hW, hsame⟩ := X0.leave (v := some (.int (9 : Int32))) (fun h => by rw [Bd.returns] at h; cases h)
                    refine ⟨_, _, pre0 _ (K1 _ (K5 _ (K6 _ (K10 _ (K11 _ (K15 _ (K16 _ (K20 _ (K21 _ (K25 _ (K26 _ (K30 _ (K31 _ (K35 _ (K36 _ (K40 _ (K41 _ (K43 _ (K44 _ (retI X0 hx Bd.returns (hb hby d5_93) hr)))))))))))))))))))), hrun, hended, _, _, rfl, ?_, ⟨_, rfl⟩, hW, hsame.mono (by decide) (by decide)⟩
                    show Q5 Z q1 h0 n0 _ s₁.heap _
                    rw [e0]
                    exact ⟨congrArg (fun z => some (Value.int z)) (show (9 : Int32) = f5 q1 from Eq.symm ((if_neg hc2).trans ((if_neg hc7).trans ((if_neg hc12).trans ((if_neg hc17).trans ((if_neg hc22).trans ((if_neg hc27).trans ((if_neg hc32).trans ((if_neg hc37).trans (if_pos hc42)))))))))), N0, rfl⟩
                  · have K45 : ∀ t, Steps p.tables e below (s₁.setTop (mkF m 94 #[.val (.long q1), .second] [])) t → Steps p.tables e below (s₁.setTop (mkF m 88 #[.val (.long q1), .second] [(.int (own_cmp q1 (4611686018427387904 : Int64)))])) t := by
                      intro t k
                      refine XS.ifYes X0.here hx rfl (pc0 := 88) (pc' := 94) rfl (hb hby d5_88) rfl ((if0 _ _).trans (flt hc42).2.1) (by decide) (by decide) ?_
                      exact k
                    have K46 : ∀ t, Steps p.tables e below (s₁.setTop (mkF m 96 #[.val (.long q1), .second] [(.int (10 : Int32))])) t → Steps p.tables e below (s₁.setTop (mkF m 94 #[.val (.long q1), .second] [])) t := by
                      intro t k
                      refine XS.bipush X0.here hx rfl (hb hby d5_94) ?_
                      show Steps p.tables e below (s₁.setTop (mkF m 96 #[.val (.long q1), .second] [(.int (10 : Int32))])) t
                      exact k
                    obtain ⟨fs, hr, hrun, hended, hW, hsame⟩ := X0.leave (v := some (.int (10 : Int32))) (fun h => by rw [Bd.returns] at h; cases h)
                    refine ⟨_, _, pre0 _ (K1 _ (K5 _ (K6 _ (K10 _ (K11 _ (K15 _ (K16 _ (K20 _ (K21 _ (K25 _ (K26 _ (K30 _ (K31 _ (K35 _ (K36 _ (K40 _ (K41 _ (K45 _ (K46 _ (retI X0 hx Bd.returns (hb hby d5_96) hr)))))))))))))))))))), hrun, hended, _, _, rfl, ?_, ⟨_, rfl⟩, hW, hsame.mono (by decide) (by decide)⟩
                    show Q5 Z q1 h0 n0 _ s₁.heap _
                    rw [e0]
                    exact ⟨congrArg (fun z => some (Value.int z)) (show (10 : Int32) = f5 q1 from Eq.symm ((if_neg hc2).trans ((if_neg hc7).trans ((if_neg hc12).trans ((if_neg hc17).trans ((if_neg hc22).trans ((if_neg hc27).trans ((if_neg hc32).trans ((if_neg hc37).trans (if_neg hc42)))))))))), N0, rfl⟩
-- body 0: com/example/millrace/millrace/log/VarintSizeOfLongPinLaw.law(JII)Z
theorem pn_0 : plainName "com/example/millrace/millrace/log/VarintSizeOfLongPinLaw" = true := by first | (simp [plainName, overriddenIn]; done) | decide +kernel
theorem ef_0 (m : MethodId) (q1 : Int64) (p2 : Int32) (p3 : Int32) : entryFrame m #[(.long q1), (.int p2), (.int p3)] maxLocals = mkF m 0 #[.val (.long q1), .second, .val (.int p2), .val (.int p3), .unset, .unset, .unset, .unset, .unset, .unset, .unset, .unset] [] := by first | (simp [entryFrame, mkF, argsToLocals, Value.category, maxLocals]; done) | rfl
def f0_u1 (q1 : Int64) (p2 : Int32) (p3 : Int32) : Int64 := (if (p3 &&& (1 : Int32)) = (0 : Int32) then (q1 >>> ((p2 &&& (63 : Int32)) &&& 0x3f).toInt64) else ((((1 : Int64) <<< ((p2 &&& (63 : Int32)) &&& 0x3f).toInt64) - (2 : Int64)) + ((((p3.toUInt32 >>> ((1 : Int32) &&& 31).toUInt32).toInt32) &&& (3 : Int32)).toInt64)))
def f0_u2 (q1 : Int64) (p2 : Int32) (p3 : Int32) : Int64 := (if (p3 &&& (8 : Int32)) = (0 : Int32) then (f0_u1 q1 p2 p3) else ((f0_u1 q1 p2 p3) ^^^ (-1 : Int64)))
def f0_u3 (q1 : Int64) (p2 : Int32) (p3 : Int32) : Int64 := (if (own_cmp (f0_u2 q1 p2 p3) (0 : Int64)) < (0 : Int32) then ((f0_u2 q1 p2 p3) ^^^ (-1 : Int64)) else (f0_u2 q1 p2 p3))
def f0 (q1 : Int64) (p2 : Int32) (p3 : Int32) : Int32 := (if (f1 (f0_u2 q1 p2 p3)) = (f5 (f0_u3 q1 p2 p3)) then (1 : Int32) else (0 : Int32))
def Q0 (Z : State) (q1 : Int64) (p2 : Int32) (p3 : Int32) (h0 : Heap) (n0 : Nat) (v : Option Value) (h : Heap) (L : List Loc) : Prop := v = some (.int (f0 q1 p2 p3)) ∧ Fr n0 L ∧ h = h0
set_option maxRecDepth 65536 in
set_option maxHeartbeats 40000000 in
theorem rm0 (l : Launch) (Z : State) (a0 : Array Value) (hw : ∀ d ∈ tables_1, d.before a0 Z = true) (ws : List Jvm.Cond) (q1 : Int64) (p2 : Int32) (p3 : Int32) (h0 : Heap) (n0 : Nat) (Z0 : n0 ≤ h0.size) :
    MetFree l x (head1 (Jvm.Cond.code x code maxLocals ret :: ws) room_1) (fun a U => a = #[(.long q1), (.int p2), (.int p3)] ∧ Z.Warmed39 U.vm ∧ U.heap = h0) (fun _ _ _ _ _ => True) (fun _ U o U' => ∃ v L, o = .returned v ∧ Q0 Z q1 p2 p3 h0 n0 v U'.heap L ∧ FrameEnd U o U' L room_1.cells room_1.slots) := by
  refine MetFree.of_bodySF (plainFor_of_name pn_0) hisR ?_
  intro p e s m args below meth c s₁ Bd hml0 hP hK
  obtain ⟨rfl, hZ, hh⟩ := hP
  have hx := Bd.exec
  have hby := Bd.bytes
  have hml : c.maxLocals = 12 := hml0
  have hown : s.vm.findClass "com/example/millrace/millrace/log/VarintSizeOfLongPinLaw" = some m.cls := findClass_of_methodNamed Bd.named
  have hnm := (name_of_methodNamed Bd.named Bd.method).1
  have X0 : Stand p l e room_1 s m #[(.long q1), (.int p2), (.int p3)] below meth c s₁ [] 0 0 := Stand.of_body Bd
  have e0 : s₁.heap = h0 := by rw [← hh, Bd.state]; rfl
  have N0 := Fr.nil n0
  have pre0 : ∀ t, Steps p.tables e below (s₁.setTop (mkF m 0 #[.val (.long q1), .second, .val (.int p2), .val (.int p3), .unset, .unset, .unset, .unset, .unset, .unset, .unset, .unset] [])) t → Steps p.tables e below (s₁.setTop (entryFrame m #[(.long q1), (.int p2), (.int p3)] maxLocals)) t := fun t k => castTop (ef_0 m q1 p2 p3) k
  have K1 : ∀ t, Steps p.tables e below (s₁.setTop (mkF m 9 #[.val (.long q1), .second, .val (.int p2), .val (.int p3), .val (.int (p2 &&& (63 : Int32))), .unset, .unset, .unset, .unset, .unset, .unset, .unset] [(.int (p3 &&& (1 : Int32)))])) t → Steps p.tables e below (s₁.setTop (mkF m 0 #[.val (.long q1), .second, .val (.int p2), .val (.int p3), .unset, .unset, .unset, .unset, .unset, .unset, .unset, .unset] [])) t := by
    intro t k
    refine XS.iloadN X0.here hx rfl (hb hby at_0) rfl ?_
    show Steps p.tables e below (s₁.setTop (mkF m 1 #[.val (.long q1), .second, .val (.int p2), .val (.int p3), .unset, .unset, .unset, .unset, .unset, .unset, .unset, .unset] [(.int p2)])) t
    refine XS.bipush X0.here hx rfl (hb hby at_1) ?_
    show Steps p.tables e below (s₁.setTop (mkF m 3 #[.val (.long q1), .second, .val (.int p2), .val (.int p3), .unset, .unset, .unset, .unset, .unset, .unset, .unset, .unset] [(.int (63 : Int32)), (.int p2)])) t
    refine XS.iand X0.here hx rfl (hb hby at_3) rfl ?_
    show Steps p.tables e below (s₁.setTop (mkF m 4 #[.val (.long q1), .second, .val (.int p2), .val (.int p3), .unset, .unset, .unset, .unset, .unset, .unset, .unset, .unset] [(.int (p2 &&& (63 : Int32)))])) t
    refine XS.istore X0.here hx rfl (hb hby at_4) rfl (l' := #[.val (.long q1), .second, .val (.int p2), .val (.int p3), .val (.int (p2 &&& (63 : Int32))), .unset, .unset, .unset, .unset, .unset, .unset, .unset]) rfl ?_
    show Steps p.tables e below (s₁.setTop (mkF m 6 #[.val (.long q1), .second, .val (.int p2), .val (.int p3), .val (.int (p2 &&& (63 : Int32))), .unset, .unset, .unset, .unset, .unset, .unset, .unset] [])) t
    refine XS.iloadN X0.here hx rfl (hb hby at_6) rfl ?_
    show Steps p.tables e below (s₁.setTop (mkF m 7 #[.val (.long q1), .second, .val (.int p2), .val (.int p3), .val (.int (p2 &&& (63 : Int32))), .unset, .unset, .unset, .unset, .unset, .unset, .unset] [(.int p3)])) t
    refine XS.iconst X0.here hx rfl (hb hby at_7) ?_
    show Steps p.tables e below (s₁.setTop (mkF m 8 #[.val (.long q1), .second, .val (.int p2), .val (.int p3), .val (.int (p2 &&& (63 : Int32))), .unset, .unset, .unset, .unset, .unset, .unset, .unset] [(.int (1 : Int32)), (.int p3)])) t
    refine XS.iand X0.here hx rfl (hb hby at_8) rfl ?_
    show Steps p.tables e below (s₁.setTop (mkF m 9 #[.val (.long q1), .second, .val (.int p2), .val (.int p3), .val (.int (p2 &&& (63 : Int32))), .unset, .unset, .unset, .unset, .unset, .unset, .unset] [(.int (p3 &&& (1 : Int32)))])) t
    exact k
  have K2 : ∀ t, Steps p.tables e below (s₁.setTop (mkF m 38 #[.val (.long q1), .second, .val (.int p2), .val (.int p3), .val (.int (p2 &&& (63 : Int32))), .val (.long (f0_u1 q1 p2 p3)), .second, .unset, .unset, .unset, .unset, .unset] [])) t → Steps p.tables e below (s₁.setTop (mkF m 9 #[.val (.long q1), .second, .val (.int p2), .val (.int p3), .val (.int (p2 &&& (63 : Int32))), .unset, .unset, .unset, .unset, .unset, .unset, .unset] [(.int (p3 &&& (1 : Int32)))])) t := by
    intro t k
    by_cases hc2 : (p3 &&& (1 : Int32)) = (0 : Int32)
    · have K3 : ∀ t, Steps p.tables e below (s₁.setTop (mkF m 12 #[.val (.long q1), .second, .val (.int p2), .val (.int p3), .val (.int (p2 &&& (63 : Int32))), .unset, .unset, .unset, .unset, .unset, .unset, .unset] [])) t → Steps p.tables e below (s₁.setTop (mkF m 9 #[.val (.long q1), .second, .val (.int p2), .val (.int p3), .val (.int (p2 &&& (63 : Int32))), .unset, .unset, .unset, .unset, .unset, .unset, .unset] [(.int (p3 &&& (1 : Int32)))])) t := by
        intro t k
        refine XS.ifNo X0.here hx rfl (hb hby at_9) rfl ((if0 _ _).trans (teq hc2).2) ?_
        exact k
      have K4 : ∀ t, Steps p.tables e below (s₁.setTop (mkF m 38 #[.val (.long q1), .second, .val (.int p2), .val (.int p3), .val (.int (p2 &&& (63 : Int32))), .val (.long (q1 >>> ((p2 &&& (63 : Int32)) &&& 0x3f).toInt64)), .second, .unset, .unset, .unset, .unset, .unset] [])) t → Steps p.tables e below (s₁.setTop (mkF m 12 #[.val (.long q1), .second, .val (.int p2), .val (.int p3), .val (.int (p2 &&& (63 : Int32))), .unset, .unset, .unset, .unset, .unset, .unset, .unset] [])) t := by
        intro t k
        refine XS.lloadN X0.here hx rfl (hb hby at_12) rfl ?_
        show Steps p.tables e below (s₁.setTop (mkF m 13 #[.val (.long q1), .second, .val (.int p2), .val (.int p3), .val (.int (p2 &&& (63 : Int32))), .unset, .unset, .unset, .unset, .unset, .unset, .unset] [(.long q1)])) t
        refine XS.iload X0.here hx rfl (hb hby at_13) rfl ?_
        show Steps p.tables e below (s₁.setTop (mkF m 15 #[.val (.long q1), .second, .val (.int p2), .val (.int p3), .val (.int (p2 &&& (63 : Int32))), .unset, .unset, .unset, .unset, .unset, .unset, .unset] [(.int (p2 &&& (63 : Int32))), (.long q1)])) t
        refine XS.lshr X0.here hx rfl (hb hby at_15) rfl ?_
        show Steps p.tables e below (s₁.setTop (mkF m 16 #[.val (.long q1), .second, .val (.int p2), .val (.int p3), .val (.int (p2 &&& (63 : Int32))), .unset, .unset, .unset, .unset, .unset, .unset, .unset] [(.long (q1 >>> ((p2 &&& (63 : Int32)) &&& 0x3f).toInt64))])) t
        refine XS.lstore X0.here hx rfl (hb hby at_16) rfl (l' := #[.val (.long q1), .second, .val (.int p2), .val (.int p3), .val (.int (p2 &&& (63 : Int32))), .val (.long (q1 >>> ((p2 &&& (63 : Int32)) &&& 0x3f).toInt64)), .second, .unset, .unset, .unset, .unset, .unset]) rfl ?_
        show Steps p.tables e below (s₁.setTop (mkF m 18 #[.val (.long q1), .second, .val (.int p2), .val (.int p3), .val (.int (p2 &&& (63 : Int32))), .val (.long (q1 >>> ((p2 &&& (63 : Int32)) &&& 0x3f).toInt64)), .second, .unset, .unset, .unset, .unset, .unset] [])) t
        refine XS.goto X0.here hx rfl (pc0 := 18) (pc' := 38) rfl (hb hby at_18) (by decide) (by decide) ?_
        show Steps p.tables e below (s₁.setTop (mkF m 38 #[.val (.long q1), .second, .val (.int p2), .val (.int p3), .val (.int (p2 &&& (63 : Int32))), .val (.long (q1 >>> ((p2 &&& (63 : Int32)) &&& 0x3f).toInt64)), .second, .unset, .unset, .unset, .unset, .unset] [])) t
        exact k
      rw [show (f0_u1 q1 p2 p3) = (q1 >>> ((p2 &&& (63 : Int32)) &&& 0x3f).toInt64) from if_pos hc2] at k
      exact K3 _ (K4 _ (k))
    · have K5 : ∀ t, Steps p.tables e below (s₁.setTop (mkF m 21 #[.val (.long q1), .second, .val (.int p2), .val (.int p3), .val (.int (p2 &&& (63 : Int32))), .unset, .unset, .unset, .unset, .unset, .unset, .unset] [])) t → Steps p.tables e below (s₁.setTop (mkF m 9 #[.val (.long q1), .second, .val (.int p2), .val (.int p3), .val (.int (p2 &&& (63 : Int32))), .unset, .unset, .unset, .unset, .unset, .unset, .unset] [(.int (p3 &&& (1 : Int32)))])) t := by
        intro t k
        refine XS.ifYes X0.here hx rfl (pc0 := 9) (pc' := 21) rfl (hb hby at_9) rfl ((if0 _ _).trans (feq hc2).2) (by decide) (by decide) ?_
        exact k
      have K6 : ∀ t, Steps p.tables e below (s₁.setTop (mkF m 38 #[.val (.long q1), .second, .val (.int p2), .val (.int p3), .val (.int (p2 &&& (63 : Int32))), .val (.long ((((1 : Int64) <<< ((p2 &&& (63 : Int32)) &&& 0x3f).toInt64) - (2 : Int64)) + ((((p3.toUInt32 >>> ((1 : Int32) &&& 31).toUInt32).toInt32) &&& (3 : Int32)).toInt64))), .second, .unset, .unset, .unset, .unset, .unset] [])) t → Steps p.tables e below (s₁.setTop (mkF m 21 #[.val (.long q1), .second, .val (.int p2), .val (.int p3), .val (.int (p2 &&& (63 : Int32))), .unset, .unset, .unset, .unset, .unset, .unset, .unset] [])) t := by
        intro t k
        refine XS.lconst X0.here hx rfl (hb hby at_21) ?_
        show Steps p.tables e below (s₁.setTop (mkF m 22 #[.val (.long q1), .second, .val (.int p2), .val (.int p3), .val (.int (p2 &&& (63 : Int32))), .unset, .unset, .unset, .unset, .unset, .unset, .unset] [(.long (1 : Int64))])) t
        refine XS.iload X0.here hx rfl (hb hby at_22) rfl ?_
        show Steps p.tables e below (s₁.setTop (mkF m 24 #[.val (.long q1), .second, .val (.int p2), .val (.int p3), .val (.int (p2 &&& (63 : Int32))), .unset, .unset, .unset, .unset, .unset, .unset, .unset] [(.int (p2 &&& (63 : Int32))), (.long (1 : Int64))])) t
        refine XS.lshl X0.here hx rfl (hb hby at_24) rfl ?_
        show Steps p.tables e below (s₁.setTop (mkF m 25 #[.val (.long q1), .second, .val (.int p2), .val (.int p3), .val (.int (p2 &&& (63 : Int32))), .unset, .unset, .unset, .unset, .unset, .unset, .unset] [(.long ((1 : Int64) <<< ((p2 &&& (63 : Int32)) &&& 0x3f).toInt64))])) t
        refine X0.ldc2Long hx hown (mvT hZ (hw _ (List.mem_of_getElem? (i := 0) rfl))) (g := (mkF m 25 #[.val (.long q1), .second, .val (.int p2), .val (.int p3), .val (.int (p2 &&& (63 : Int32))), .unset, .unset, .unset, .unset, .unset, .unset, .unset] [(.long ((1 : Int64) <<< ((p2 &&& (63 : Int32)) &&& 0x3f).toInt64))])) rfl (hb hby at_25) _ ?_
        show Steps p.tables e below (s₁.setTop (mkF m 28 #[.val (.long q1), .second, .val (.int p2), .val (.int p3), .val (.int (p2 &&& (63 : Int32))), .unset, .unset, .unset, .unset, .unset, .unset, .unset] [(.long (2 : Int64)), (.long ((1 : Int64) <<< ((p2 &&& (63 : Int32)) &&& 0x3f).toInt64))])) t
        refine XS.lsub X0.here hx rfl (hb hby at_28) rfl ?_
        show Steps p.tables e below (s₁.setTop (mkF m 29 #[.val (.long q1), .second, .val (.int p2), .val (.int p3), .val (.int (p2 &&& (63 : Int32))), .unset, .unset, .unset, .unset, .unset, .unset, .unset] [(.long (((1 : Int64) <<< ((p2 &&& (63 : Int32)) &&& 0x3f).toInt64) - (2 : Int64)))])) t
        refine XS.iloadN X0.here hx rfl (hb hby at_29) rfl ?_
        show Steps p.tables e below (s₁.setTop (mkF m 30 #[.val (.long q1), .second, .val (.int p2), .val (.int p3), .val (.int (p2 &&& (63 : Int32))), .unset, .unset, .unset, .unset, .unset, .unset, .unset] [(.int p3), (.long (((1 : Int64) <<< ((p2 &&& (63 : Int32)) &&& 0x3f).toInt64) - (2 : Int64)))])) t
        refine XS.iconst X0.here hx rfl (hb hby at_30) ?_
        show Steps p.tables e below (s₁.setTop (mkF m 31 #[.val (.long q1), .second, .val (.int p2), .val (.int p3), .val (.int (p2 &&& (63 : Int32))), .unset, .unset, .unset, .unset, .unset, .unset, .unset] [(.int (1 : Int32)), (.int p3), (.long (((1 : Int64) <<< ((p2 &&& (63 : Int32)) &&& 0x3f).toInt64) - (2 : Int64)))])) t
        refine XS.iushr X0.here hx rfl (hb hby at_31) rfl ?_
        show Steps p.tables e below (s₁.setTop (mkF m 32 #[.val (.long q1), .second, .val (.int p2), .val (.int p3), .val (.int (p2 &&& (63 : Int32))), .unset, .unset, .unset, .unset, .unset, .unset, .unset] [(.int ((p3.toUInt32 >>> ((1 : Int32) &&& 31).toUInt32).toInt32)), (.long (((1 : Int64) <<< ((p2 &&& (63 : Int32)) &&& 0x3f).toInt64) - (2 : Int64)))])) t
        refine XS.iconst X0.here hx rfl (hb hby at_32) ?_
        show Steps p.tables e below (s₁.setTop (mkF m 33 #[.val (.long q1), .second, .val (.int p2), .val (.int p3), .val (.int (p2 &&& (63 : Int32))), .unset, .unset, .unset, .unset, .unset, .unset, .unset] [(.int (3 : Int32)), (.int ((p3.toUInt32 >>> ((1 : Int32) &&& 31).toUInt32).toInt32)), (.long (((1 : Int64) <<< ((p2 &&& (63 : Int32)) &&& 0x3f).toInt64) - (2 : Int64)))])) t
        refine XS.iand X0.here hx rfl (hb hby at_33) rfl ?_
        show Steps p.tables e below (s₁.setTop (mkF m 34 #[.val (.long q1), .second, .val (.int p2), .val (.int p3), .val (.int (p2 &&& (63 : Int32))), .unset, .unset, .unset, .unset, .unset, .unset, .unset] [(.int (((p3.toUInt32 >>> ((1 : Int32) &&& 31).toUInt32).toInt32) &&& (3 : Int32))), (.long (((1 : Int64) <<< ((p2 &&& (63 : Int32)) &&& 0x3f).toInt64) - (2 : Int64)))])) t
        refine XS.i2l X0.here hx rfl (hb hby at_34) rfl ?_
        show Steps p.tables e below (s₁.setTop (mkF m 35 #[.val (.long q1), .second, .val (.int p2), .val (.int p3), .val (.int (p2 &&& (63 : Int32))), .unset, .unset, .unset, .unset, .unset, .unset, .unset] [(.long ((((p3.toUInt32 >>> ((1 : Int32) &&& 31).toUInt32).toInt32) &&& (3 : Int32)).toInt64)), (.long (((1 : Int64) <<< ((p2 &&& (63 : Int32)) &&& 0x3f).toInt64) - (2 : Int64)))])) t
        refine XS.ladd X0.here hx rfl (hb hby at_35) rfl ?_
        show Steps p.tables e below (s₁.setTop (mkF m 36 #[.val (.long q1), .second, .val (.int p2), .val (.int p3), .val (.int (p2 &&& (63 : Int32))), .unset, .unset, .unset, .unset, .unset, .unset, .unset] [(.long ((((1 : Int64) <<< ((p2 &&& (63 : Int32)) &&& 0x3f).toInt64) - (2 : Int64)) + ((((p3.toUInt32 >>> ((1 : Int32) &&& 31).toUInt32).toInt32) &&& (3 : Int32)).toInt64)))])) t
        refine XS.lstore X0.here hx rfl (hb hby at_36) rfl (l' := #[.val (.long q1), .second, .val (.int p2), .val (.int p3), .val (.int (p2 &&& (63 : Int32))), .val (.long ((((1 : Int64) <<< ((p2 &&& (63 : Int32)) &&& 0x3f).toInt64) - (2 : Int64)) + ((((p3.toUInt32 >>> ((1 : Int32) &&& 31).toUInt32).toInt32) &&& (3 : Int32)).toInt64))), .second, .unset, .unset, .unset, .unset, .unset]) rfl ?_
        show Steps p.tables e below (s₁.setTop (mkF m 38 #[.val (.long q1), .second, .val (.int p2), .val (.int p3), .val (.int (p2 &&& (63 : Int32))), .val (.long ((((1 : Int64) <<< ((p2 &&& (63 : Int32)) &&& 0x3f).toInt64) - (2 : Int64)) + ((((p3.toUInt32 >>> ((1 : Int32) &&& 31).toUInt32).toInt32) &&& (3 : Int32)).toInt64))), .second, .unset, .unset, .unset, .unset, .unset] [])) t
        exact k
      rw [show (f0_u1 q1 p2 p3) = ((((1 : Int64) <<< ((p2 &&& (63 : Int32)) &&& 0x3f).toInt64) - (2 : Int64)) + ((((p3.toUInt32 >>> ((1 : Int32) &&& 31).toUInt32).toInt32) &&& (3 : Int32)).toInt64)) from if_neg hc2] at k
      exact K5 _ (K6 _ (k))
  have K7 : ∀ t, Steps p.tables e below (s₁.setTop (mkF m 42 #[.val (.long q1), .second, .val (.int p2), .val (.int p3), .val (.int (p2 &&& (63 : Int32))), .val (.long (f0_u1 q1 p2 p3)), .second, .unset, .unset, .unset, .unset, .unset] [(.int (p3 &&& (8 : Int32)))])) t → Steps p.tables e below (s₁.setTop (mkF m 38 #[.val (.long q1), .second, .val (.int p2), .val (.int p3), .val (.int (p2 &&& (63 : Int32))), .val (.long (f0_u1 q1 p2 p3)), .second, .unset, .unset, .unset, .unset, .unset] [])) t := by
    intro t k
    refine XS.iloadN X0.here hx rfl (hb hby at_38) rfl ?_
    show Steps p.tables e below (s₁.setTop (mkF m 39 #[.val (.long q1), .second, .val (.int p2), .val (.int p3), .val (.int (p2 &&& (63 : Int32))), .val (.long (f0_u1 q1 p2 p3)), .second, .unset, .unset, .unset, .unset, .unset] [(.int p3)])) t
    refine XS.bipush X0.here hx rfl (hb hby at_39) ?_
    show Steps p.tables e below (s₁.setTop (mkF m 41 #[.val (.long q1), .second, .val (.int p2), .val (.int p3), .val (.int (p2 &&& (63 : Int32))), .val (.long (f0_u1 q1 p2 p3)), .second, .unset, .unset, .unset, .unset, .unset] [(.int (8 : Int32)), (.int p3)])) t
    refine XS.iand X0.here hx rfl (hb hby at_41) rfl ?_
    show Steps p.tables e below (s₁.setTop (mkF m 42 #[.val (.long q1), .second, .val (.int p2), .val (.int p3), .val (.int (p2 &&& (63 : Int32))), .val (.long (f0_u1 q1 p2 p3)), .second, .unset, .unset, .unset, .unset, .unset] [(.int (p3 &&& (8 : Int32)))])) t
    exact k
  have K8 : ∀ t, Steps p.tables e below (s₁.setTop (mkF m 56 #[.val (.long q1), .second, .val (.int p2), .val (.int p3), .val (.int (p2 &&& (63 : Int32))), .val (.long (f0_u1 q1 p2 p3)), .second, .unset, .unset, .unset, .unset, .unset] [(.long (f0_u2 q1 p2 p3))])) t → Steps p.tables e below (s₁.setTop (mkF m 42 #[.val (.long q1), .second, .val (.int p2), .val (.int p3), .val (.int (p2 &&& (63 : Int32))), .val (.long (f0_u1 q1 p2 p3)), .second, .unset, .unset, .unset, .unset, .unset] [(.int (p3 &&& (8 : Int32)))])) t := by
    intro t k
    by_cases hc8 : (p3 &&& (8 : Int32)) = (0 : Int32)
    · have K9 : ∀ t, Steps p.tables e below (s₁.setTop (mkF m 54 #[.val (.long q1), .second, .val (.int p2), .val (.int p3), .val (.int (p2 &&& (63 : Int32))), .val (.long (f0_u1 q1 p2 p3)), .second, .unset, .unset, .unset, .unset, .unset] [])) t → Steps p.tables e below (s₁.setTop (mkF m 42 #[.val (.long q1), .second, .val (.int p2), .val (.int p3), .val (.int (p2 &&& (63 : Int32))), .val (.long (f0_u1 q1 p2 p3)), .second, .unset, .unset, .unset, .unset, .unset] [(.int (p3 &&& (8 : Int32)))])) t := by
        intro t k
        refine XS.ifYes X0.here hx rfl (pc0 := 42) (pc' := 54) rfl (hb hby at_42) rfl ((if0 _ _).trans (teq hc8).1) (by decide) (by decide) ?_
        exact k
      have K10 : ∀ t, Steps p.tables e below (s₁.setTop (mkF m 56 #[.val (.long q1), .second, .val (.int p2), .val (.int p3), .val (.int (p2 &&& (63 : Int32))), .val (.long (f0_u1 q1 p2 p3)), .second, .unset, .unset, .unset, .unset, .unset] [(.long (f0_u1 q1 p2 p3))])) t → Steps p.tables e below (s₁.setTop (mkF m 54 #[.val (.long q1), .second, .val (.int p2), .val (.int p3), .val (.int (p2 &&& (63 : Int32))), .val (.long (f0_u1 q1 p2 p3)), .second, .unset, .unset, .unset, .unset, .unset] [])) t := by
        intro t k
        refine XS.lload X0.here hx rfl (hb hby at_54) rfl ?_
        show Steps p.tables e below (s₁.setTop (mkF m 56 #[.val (.long q1), .second, .val (.int p2), .val (.int p3), .val (.int (p2 &&& (63 : Int32))), .val (.long (f0_u1 q1 p2 p3)), .second, .unset, .unset, .unset, .unset, .unset] [(.long (f0_u1 q1 p2 p3))])) t
        exact k
      rw [show (f0_u2 q1 p2 p3) = (f0_u1 q1 p2 p3) from if_pos hc8] at k
      exact K9 _ (K10 _ (k))
    · have K11 : ∀ t, Steps p.tables e below (s₁.setTop (mkF m 45 #[.val (.long q1), .second, .val (.int p2), .val (.int p3), .val (.int (p2 &&& (63 : Int32))), .val (.long (f0_u1 q1 p2 p3)), .second, .unset, .unset, .unset, .unset, .unset] [])) t → Steps p.tables e below (s₁.setTop (mkF m 42 #[.val (.long q1), .second, .val (.int p2), .val (.int p3), .val (.int (p2 &&& (63 : Int32))), .val (.long (f0_u1 q1 p2 p3)), .second, .unset, .unset, .unset, .unset, .unset] [(.int (p3 &&& (8 : Int32)))])) t := by
        intro t k
        refine XS.ifNo X0.here hx rfl (hb hby at_42) rfl ((if0 _ _).trans (feq hc8).1) ?_
        exact k
      have K12 : ∀ t, Steps p.tables e below (s₁.setTop (mkF m 56 #[.val (.long q1), .second, .val (.int p2), .val (.int p3), .val (.int (p2 &&& (63 : Int32))), .val (.long (f0_u1 q1 p2 p3)), .second, .unset, .unset, .unset, .unset, .unset] [(.long ((f0_u1 q1 p2 p3) ^^^ (-1 : Int64)))])) t → Steps p.tables e below (s₁.setTop (mkF m 45 #[.val (.long q1), .second, .val (.int p2), .val (.int p3), .val (.int (p2 &&& (63 : Int32))), .val (.long (f0_u1 q1 p2 p3)), .second, .unset, .unset, .unset, .unset, .unset] [])) t := by
        intro t k
        refine XS.lload X0.here hx rfl (hb hby at_45) rfl ?_
        show Steps p.tables e below (s₁.setTop (mkF m 47 #[.val (.long q1), .second, .val (.int p2), .val (.int p3), .val (.int (p2 &&& (63 : Int32))), .val (.long (f0_u1 q1 p2 p3)), .second, .unset, .unset, .unset, .unset, .unset] [(.long (f0_u1 q1 p2 p3))])) t
        refine X0.ldc2Long hx hown (mvT hZ (hw _ (List.mem_of_getElem? (i := 22) rfl))) (g := (mkF m 47 #[.val (.long q1), .second, .val (.int p2), .val (.int p3), .val (.int (p2 &&& (63 : Int32))), .val (.long (f0_u1 q1 p2 p3)), .second, .unset, .unset, .unset, .unset, .unset] [(.long (f0_u1 q1 p2 p3))])) rfl (hb hby at_47) _ ?_
        show Steps p.tables e below (s₁.setTop (mkF m 50 #[.val (.long q1), .second, .val (.int p2), .val (.int p3), .val (.int (p2 &&& (63 : Int32))), .val (.long (f0_u1 q1 p2 p3)), .second, .unset, .unset, .unset, .unset, .unset] [(.long (-1 : Int64)), (.long (f0_u1 q1 p2 p3))])) t
        refine XS.lxor X0.here hx rfl (hb hby at_50) rfl ?_
        show Steps p.tables e below (s₁.setTop (mkF m 51 #[.val (.long q1), .second, .val (.int p2), .val (.int p3), .val (.int (p2 &&& (63 : Int32))), .val (.long (f0_u1 q1 p2 p3)), .second, .unset, .unset, .unset, .unset, .unset] [(.long ((f0_u1 q1 p2 p3) ^^^ (-1 : Int64)))])) t
        refine XS.goto X0.here hx rfl (pc0 := 51) (pc' := 56) rfl (hb hby at_51) (by decide) (by decide) ?_
        show Steps p.tables e below (s₁.setTop (mkF m 56 #[.val (.long q1), .second, .val (.int p2), .val (.int p3), .val (.int (p2 &&& (63 : Int32))), .val (.long (f0_u1 q1 p2 p3)), .second, .unset, .unset, .unset, .unset, .unset] [(.long ((f0_u1 q1 p2 p3) ^^^ (-1 : Int64)))])) t
        exact k
      rw [show (f0_u2 q1 p2 p3) = ((f0_u1 q1 p2 p3) ^^^ (-1 : Int64)) from if_neg hc8] at k
      exact K11 _ (K12 _ (k))
  have K13 : ∀ t, Steps p.tables e below (s₁.setTop (mkF m 62 #[.val (.long q1), .second, .val (.int p2), .val (.int p3), .val (.int (p2 &&& (63 : Int32))), .val (.long (f0_u1 q1 p2 p3)), .second, .val (.long (f0_u2 q1 p2 p3)), .second, .unset, .unset, .unset] [(.int (own_cmp (f0_u2 q1 p2 p3) (0 : Int64)))])) t → Steps p.tables e below (s₁.setTop (mkF m 56 #[.val (.long q1), .second, .val (.int p2), .val (.int p3), .val (.int (p2 &&& (63 : Int32))), .val (.long (f0_u1 q1 p2 p3)), .second, .unset, .unset, .unset, .unset, .unset] [(.long (f0_u2 q1 p2 p3))])) t := by
    intro t k
    refine XS.lstore X0.here hx rfl (hb hby at_56) rfl (l' := #[.val (.long q1), .second, .val (.int p2), .val (.int p3), .val (.int (p2 &&& (63 : Int32))), .val (.long (f0_u1 q1 p2 p3)), .second, .val (.long (f0_u2 q1 p2 p3)), .second, .unset, .unset, .unset]) rfl ?_
    show Steps p.tables e below (s₁.setTop (mkF m 58 #[.val (.long q1), .second, .val (.int p2), .val (.int p3), .val (.int (p2 &&& (63 : Int32))), .val (.long (f0_u1 q1 p2 p3)), .second, .val (.long (f0_u2 q1 p2 p3)), .second, .unset, .unset, .unset] [])) t
    refine XS.lload X0.here hx rfl (hb hby at_58) rfl ?_
    show Steps p.tables e below (s₁.setTop (mkF m 60 #[.val (.long q1), .second, .val (.int p2), .val (.int p3), .val (.int (p2 &&& (63 : Int32))), .val (.long (f0_u1 q1 p2 p3)), .second, .val (.long (f0_u2 q1 p2 p3)), .second, .unset, .unset, .unset] [(.long (f0_u2 q1 p2 p3))])) t
    refine XS.lconst X0.here hx rfl (hb hby at_60) ?_
    show Steps p.tables e below (s₁.setTop (mkF m 61 #[.val (.long q1), .second, .val (.int p2), .val (.int p3), .val (.int (p2 &&& (63 : Int32))), .val (.long (f0_u1 q1 p2 p3)), .second, .val (.long (f0_u2 q1 p2 p3)), .second, .unset, .unset, .unset] [(.long (0 : Int64)), (.long (f0_u2 q1 p2 p3))])) t
    refine XS.lcmp X0.here hx rfl (hb hby at_61) rfl ?_
    show Steps p.tables e below (s₁.setTop (mkF m 62 #[.val (.long q1), .second, .val (.int p2), .val (.int p3), .val (.int (p2 &&& (63 : Int32))), .val (.long (f0_u1 q1 p2 p3)), .second, .val (.long (f0_u2 q1 p2 p3)), .second, .unset, .unset, .unset] [(.int (own_cmp (f0_u2 q1 p2 p3) (0 : Int64)))])) t
    exact k
  have K14 : ∀ t, Steps p.tables e below (s₁.setTop (mkF m 76 #[.val (.long q1), .second, .val (.int p2), .val (.int p3), .val (.int (p2 &&& (63 : Int32))), .val (.long (f0_u1 q1 p2 p3)), .second, .val (.long (f0_u2 q1 p2 p3)), .second, .unset, .unset, .unset] [(.long (f0_u3 q1 p2 p3))])) t → Steps p.tables e below (s₁.setTop (mkF m 62 #[.val (.long q1), .second, .val (.int p2), .val (.int p3), .val (.int (p2 &&& (63 : Int32))), .val (.long (f0_u1 q1 p2 p3)), .second, .val (.long (f0_u2 q1 p2 p3)), .second, .unset, .unset, .unset] [(.int (own_cmp (f0_u2 q1 p2 p3) (0 : Int64)))])) t := by
    intro t k
    by_cases hc14 : (own_cmp (f0_u2 q1 p2 p3) (0 : Int64)) < (0 : Int32)
    · have K15 : ∀ t, Steps p.tables e below (s₁.setTop (mkF m 70 #[.val (.long q1), .second, .val (.int p2), .val (.int p3), .val (.int (p2 &&& (63 : Int32))), .val (.long (f0_u1 q1 p2 p3)), .second, .val (.long (f0_u2 q1 p2 p3)), .second, .unset, .unset, .unset] [])) t → Steps p.tables e below (s₁.setTop (mkF m 62 #[.val (.long q1), .second, .val (.int p2), .val (.int p3), .val (.int (p2 &&& (63 : Int32))), .val (.long (f0_u1 q1 p2 p3)), .second, .val (.long (f0_u2 q1 p2 p3)), .second, .unset, .unset, .unset] [(.int (own_cmp (f0_u2 q1 p2 p3) (0 : Int64)))])) t := by
        intro t k
        refine XS.ifYes X0.here hx rfl (pc0 := 62) (pc' := 70) rfl (hb hby at_62) rfl ((if0 _ _).trans (tlt hc14).1) (by decide) (by decide) ?_
        exact k
      have K16 : ∀ t, Steps p.tables e below (s₁.setTop (mkF m 76 #[.val (.long q1), .second, .val (.int p2), .val (.int p3), .val (.int (p2 &&& (63 : Int32))), .val (.long (f0_u1 q1 p2 p3)), .second, .val (.long (f0_u2 q1 p2 p3)), .second, .unset, .unset, .unset] [(.long ((f0_u2 q1 p2 p3) ^^^ (-1 : Int64)))])) t → Steps p.tables e below (s₁.setTop (mkF m 70 #[.val (.long q1), .second, .val (.int p2), .val (.int p3), .val (.int (p2 &&& (63 : Int32))), .val (.long (f0_u1 q1 p2 p3)), .second, .val (.long (f0_u2 q1 p2 p3)), .second, .unset, .unset, .unset] [])) t := by
        intro t k
        refine XS.lload X0.here hx rfl (hb hby at_70) rfl ?_
        show Steps p.tables e below (s₁.setTop (mkF m 72 #[.val (.long q1), .second, .val (.int p2), .val (.int p3), .val (.int (p2 &&& (63 : Int32))), .val (.long (f0_u1 q1 p2 p3)), .second, .val (.long (f0_u2 q1 p2 p3)), .second, .unset, .unset, .unset] [(.long (f0_u2 q1 p2 p3))])) t
        refine X0.ldc2Long hx hown (mvT hZ (hw _ (List.mem_of_getElem? (i := 22) rfl))) (g := (mkF m 72 #[.val (.long q1), .second, .val (.int p2), .val (.int p3), .val (.int (p2 &&& (63 : Int32))), .val (.long (f0_u1 q1 p2 p3)), .second, .val (.long (f0_u2 q1 p2 p3)), .second, .unset, .unset, .unset] [(.long (f0_u2 q1 p2 p3))])) rfl (hb hby at_72) _ ?_
        show Steps p.tables e below (s₁.setTop (mkF m 75 #[.val (.long q1), .second, .val (.int p2), .val (.int p3), .val (.int (p2 &&& (63 : Int32))), .val (.long (f0_u1 q1 p2 p3)), .second, .val (.long (f0_u2 q1 p2 p3)), .second, .unset, .unset, .unset] [(.long (-1 : Int64)), (.long (f0_u2 q1 p2 p3))])) t
        refine XS.lxor X0.here hx rfl (hb hby at_75) rfl ?_
        show Steps p.tables e below (s₁.setTop (mkF m 76 #[.val (.long q1), .second, .val (.int p2), .val (.int p3), .val (.int (p2 &&& (63 : Int32))), .val (.long (f0_u1 q1 p2 p3)), .second, .val (.long (f0_u2 q1 p2 p3)), .second, .unset, .unset, .unset] [(.long ((f0_u2 q1 p2 p3) ^^^ (-1 : Int64)))])) t
        exact k
      rw [show (f0_u3 q1 p2 p3) = ((f0_u2 q1 p2 p3) ^^^ (-1 : Int64)) from if_pos hc14] at k
      exact K15 _ (K16 _ (k))
    · have K17 : ∀ t, Steps p.tables e below (s₁.setTop (mkF m 65 #[.val (.long q1), .second, .val (.int p2), .val (.int p3), .val (.int (p2 &&& (63 : Int32))), .val (.long (f0_u1 q1 p2 p3)), .second, .val (.long (f0_u2 q1 p2 p3)), .second, .unset, .unset, .unset] [])) t → Steps p.tables e below (s₁.setTop (mkF m 62 #[.val (.long q1), .second, .val (.int p2), .val (.int p3), .val (.int (p2 &&& (63 : Int32))), .val (.long (f0_u1 q1 p2 p3)), .second, .val (.long (f0_u2 q1 p2 p3)), .second, .unset, .unset, .unset] [(.int (own_cmp (f0_u2 q1 p2 p3) (0 : Int64)))])) t := by
        intro t k
        refine XS.ifNo X0.here hx rfl (hb hby at_62) rfl ((if0 _ _).trans (flt hc14).1) ?_
        exact k
      have K18 : ∀ t, Steps p.tables e below (s₁.setTop (mkF m 76 #[.val (.long q1), .second, .val (.int p2), .val (.int p3), .val (.int (p2 &&& (63 : Int32))), .val (.long (f0_u1 q1 p2 p3)), .second, .val (.long (f0_u2 q1 p2 p3)), .second, .unset, .unset, .unset] [(.long (f0_u2 q1 p2 p3))])) t → Steps p.tables e below (s₁.setTop (mkF m 65 #[.val (.long q1), .second, .val (.int p2), .val (.int p3), .val (.int (p2 &&& (63 : Int32))), .val (.long (f0_u1 q1 p2 p3)), .second, .val (.long (f0_u2 q1 p2 p3)), .second, .unset, .unset, .unset] [])) t := by
        intro t k
        refine XS.lload X0.here hx rfl (hb hby at_65) rfl ?_
        show Steps p.tables e below (s₁.setTop (mkF m 67 #[.val (.long q1), .second, .val (.int p2), .val (.int p3), .val (.int (p2 &&& (63 : Int32))), .val (.long (f0_u1 q1 p2 p3)), .second, .val (.long (f0_u2 q1 p2 p3)), .second, .unset, .unset, .unset] [(.long (f0_u2 q1 p2 p3))])) t
        refine XS.goto X0.here hx rfl (pc0 := 67) (pc' := 76) rfl (hb hby at_67) (by decide) (by decide) ?_
        show Steps p.tables e below (s₁.setTop (mkF m 76 #[.val (.long q1), .second, .val (.int p2), .val (.int p3), .val (.int (p2 &&& (63 : Int32))), .val (.long (f0_u1 q1 p2 p3)), .second, .val (.long (f0_u2 q1 p2 p3)), .second, .unset, .unset, .unset] [(.long (f0_u2 q1 p2 p3))])) t
        exact k
      rw [show (f0_u3 q1 p2 p3) = (f0_u2 q1 p2 p3) from if_neg hc14] at k
      exact K17 _ (K18 _ (k))
  have K19 : ∀ t, Steps p.tables e below (s₁.setTop (mkF m 80 #[.val (.long q1), .second, .val (.int p2), .val (.int p3), .val (.int (p2 &&& (63 : Int32))), .val (.long (f0_u1 q1 p2 p3)), .second, .val (.long (f0_u2 q1 p2 p3)), .second, .val (.long (f0_u3 q1 p2 p3)), .second, .unset] [(.long (f0_u2 q1 p2 p3))])) t → Steps p.tables e below (s₁.setTop (mkF m 76 #[.val (.long q1), .second, .val (.int p2), .val (.int p3), .val (.int (p2 &&& (63 : Int32))), .val (.long (f0_u1 q1 p2 p3)), .second, .val (.long (f0_u2 q1 p2 p3)), .second, .unset, .unset, .unset] [(.long (f0_u3 q1 p2 p3))])) t := by
    intro t k
    refine XS.lstore X0.here hx rfl (hb hby at_76) rfl (l' := #[.val (.long q1), .second, .val (.int p2), .val (.int p3), .val (.int (p2 &&& (63 : Int32))), .val (.long (f0_u1 q1 p2 p3)), .second, .val (.long (f0_u2 q1 p2 p3)), .second, .val (.long (f0_u3 q1 p2 p3)), .second, .unset]) rfl ?_
    show Steps p.tables e below (s₁.setTop (mkF m 78 #[.val (.long q1), .second, .val (.int p2), .val (.int p3), .val (.int (p2 &&& (63 : Int32))), .val (.long (f0_u1 q1 p2 p3)), .second, .val (.long (f0_u2 q1 p2 p3)), .second, .val (.long (f0_u3 q1 p2 p3)), .second, .unset] [])) t
    refine XS.lload X0.here hx rfl (hb hby at_78) rfl ?_
    show Steps p.tables e below (s₁.setTop (mkF m 80 #[.val (.long q1), .second, .val (.int p2), .val (.int p3), .val (.int (p2 &&& (63 : Int32))), .val (.long (f0_u1 q1 p2 p3)), .second, .val (.long (f0_u2 q1 p2 p3)), .second, .val (.long (f0_u3 q1 p2 p3)), .second, .unset] [(.long (f0_u2 q1 p2 p3))])) t
    exact k
  obtain ⟨_, _, ⟨T20, L20, k20, n20⟩, -, X20, ⟨Lc20, hQ20, l20, y20, z20⟩, st20⟩ := Jvm.LawKit.callS X0 hx (y := (⟨"com/example/millrace/millrace/log/Varint", "sizeOfLong", "(J)I"⟩ : MethodName)) hown (mvT hZ (hw _ (List.mem_of_getElem? (i := 1) rfl))) (mvT hZ (hw _ (List.mem_of_getElem? (i := 2) rfl))) (mvT hZ (hw _ (List.mem_of_getElem? (i := 3) rfl))) (mvT hZ (hw _ (List.mem_of_getElem? (i := 4) rfl))) (by decide) (backOf (W := 0) (rm1 l Z a0 hw [] (f0_u2 q1 p2 p3) h0 n0 Z0 ) hZ (hw _ (List.mem_of_getElem? (i := 4) rfl)) (hw _ (List.mem_of_getElem? (i := 3) rfl)) (by decide) (by decide)) (g := (mkF m 80 #[.val (.long q1), .second, .val (.int p2), .val (.int p3), .val (.int (p2 &&& (63 : Int32))), .val (.long (f0_u1 q1 p2 p3)), .second, .val (.long (f0_u2 q1 p2 p3)), .second, .val (.long (f0_u3 q1 p2 p3)), .second, .unset] [(.long (f0_u2 q1 p2 p3))])) rfl (by rw [hml]; rfl) (argsL := [(.long (f0_u2 q1 p2 p3))]) (rest := []) (lenOf pd_0 rfl) rfl (by show 2 * 0 + _ ≤ _; exact Nat.le_of_eq rfl) (hb hby at_80) (fun _ _ => ⟨rfl, e0, (by decide : 0 + 0 ≤ _), (by decide : 0 + 0 ≤ _)⟩)
  dsimp only [Pt.U, Pt.locs, Pt.cells, Pt.slots] at X20 l20 y20 z20 st20 hQ20
  subst l20 y20 z20
  obtain ⟨rfl, N20q, e20⟩ := hQ20
  have N20 := Fr.app N0 N20q
  have K21 : ∀ t, Steps p.tables e below (T20.setTop (mkF m 83 #[.val (.long q1), .second, .val (.int p2), .val (.int p3), .val (.int (p2 &&& (63 : Int32))), .val (.long (f0_u1 q1 p2 p3)), .second, .val (.long (f0_u2 q1 p2 p3)), .second, .val (.long (f0_u3 q1 p2 p3)), .second, .unset] [(.int (f1 (f0_u2 q1 p2 p3)))])) t → Steps p.tables e below (s₁.setTop (mkF m 80 #[.val (.long q1), .second, .val (.int p2), .val (.int p3), .val (.int (p2 &&& (63 : Int32))), .val (.long (f0_u1 q1 p2 p3)), .second, .val (.long (f0_u2 q1 p2 p3)), .second, .val (.long (f0_u3 q1 p2 p3)), .second, .unset] [(.long (f0_u2 q1 p2 p3))])) t := fun t k => st20 _ k
  have K22 : ∀ t, Steps p.tables e below (T20.setTop (mkF m 89 #[.val (.long q1), .second, .val (.int p2), .val (.int p3), .val (.int (p2 &&& (63 : Int32))), .val (.long (f0_u1 q1 p2 p3)), .second, .val (.long (f0_u2 q1 p2 p3)), .second, .val (.long (f0_u3 q1 p2 p3)), .second, .val (.int (f1 (f0_u2 q1 p2 p3)))] [(.long (f0_u3 q1 p2 p3)), (.int (f1 (f0_u2 q1 p2 p3)))])) t → Steps p.tables e below (T20.setTop (mkF m 83 #[.val (.long q1), .second, .val (.int p2), .val (.int p3), .val (.int (p2 &&& (63 : Int32))), .val (.long (f0_u1 q1 p2 p3)), .second, .val (.long (f0_u2 q1 p2 p3)), .second, .val (.long (f0_u3 q1 p2 p3)), .second, .unset] [(.int (f1 (f0_u2 q1 p2 p3)))])) t := by
    intro t k
    refine XS.istore X20.here hx rfl (hb hby at_83) rfl (l' := #[.val (.long q1), .second, .val (.int p2), .val (.int p3), .val (.int (p2 &&& (63 : Int32))), .val (.long (f0_u1 q1 p2 p3)), .second, .val (.long (f0_u2 q1 p2 p3)), .second, .val (.long (f0_u3 q1 p2 p3)), .second, .val (.int (f1 (f0_u2 q1 p2 p3)))]) rfl ?_
    show Steps p.tables e below (T20.setTop (mkF m 85 #[.val (.long q1), .second, .val (.int p2), .val (.int p3), .val (.int (p2 &&& (63 : Int32))), .val (.long (f0_u1 q1 p2 p3)), .second, .val (.long (f0_u2 q1 p2 p3)), .second, .val (.long (f0_u3 q1 p2 p3)), .second, .val (.int (f1 (f0_u2 q1 p2 p3)))] [])) t
    refine XS.iload X20.here hx rfl (hb hby at_85) rfl ?_
    show Steps p.tables e below (T20.setTop (mkF m 87 #[.val (.long q1), .second, .val (.int p2), .val (.int p3), .val (.int (p2 &&& (63 : Int32))), .val (.long (f0_u1 q1 p2 p3)), .second, .val (.long (f0_u2 q1 p2 p3)), .second, .val (.long (f0_u3 q1 p2 p3)), .second, .val (.int (f1 (f0_u2 q1 p2 p3)))] [(.int (f1 (f0_u2 q1 p2 p3)))])) t
    refine XS.lload X20.here hx rfl (hb hby at_87) rfl ?_
    show Steps p.tables e below (T20.setTop (mkF m 89 #[.val (.long q1), .second, .val (.int p2), .val (.int p3), .val (.int (p2 &&& (63 : Int32))), .val (.long (f0_u1 q1 p2 p3)), .second, .val (.long (f0_u2 q1 p2 p3)), .second, .val (.long (f0_u3 q1 p2 p3)), .second, .val (.int (f1 (f0_u2 q1 p2 p3)))] [(.long (f0_u3 q1 p2 p3)), (.int (f1 (f0_u2 q1 p2 p3)))])) t
    exact k
  obtain ⟨_, _, ⟨T23, L23, k23, n23⟩, -, X23, ⟨Lc23, hQ23, l23, y23, z23⟩, st23⟩ := Jvm.LawKit.callS X20 hx (y := (⟨"com/example/millrace/millrace/log/VarintSizeOfLongPinLaw", "expected", "(J)I"⟩ : MethodName)) hown (mvT hZ (hw _ (List.mem_of_getElem? (i := 17) rfl))) (mvT hZ (hw _ (List.mem_of_getElem? (i := 18) rfl))) (mvT hZ (hw _ (List.mem_of_getElem? (i := 19) rfl))) (mvT hZ (hw _ (List.mem_of_getElem? (i := 20) rfl))) (by decide) (backOf (W := 1) (rm5 l Z a0 hw [] (f0_u3 q1 p2 p3) h0 n0 Z0 ) hZ (hw _ (List.mem_of_getElem? (i := 20) rfl)) (hw _ (List.mem_of_getElem? (i := 19) rfl)) (by decide) (by decide)) (g := (mkF m 89 #[.val (.long q1), .second, .val (.int p2), .val (.int p3), .val (.int (p2 &&& (63 : Int32))), .val (.long (f0_u1 q1 p2 p3)), .second, .val (.long (f0_u2 q1 p2 p3)), .second, .val (.long (f0_u3 q1 p2 p3)), .second, .val (.int (f1 (f0_u2 q1 p2 p3)))] [(.long (f0_u3 q1 p2 p3)), (.int (f1 (f0_u2 q1 p2 p3)))])) rfl (by rw [hml]; rfl) (argsL := [(.long (f0_u3 q1 p2 p3))]) (rest := [(.int (f1 (f0_u2 q1 p2 p3)))]) (lenOf pd_0 rfl) rfl (by show 2 * 0 + _ ≤ _; exact Nat.le_of_eq rfl) (hb hby at_89) (fun _ _ => ⟨rfl, e20, (by decide : 0 + 0 ≤ _), (by decide : 0 + 0 ≤ _)⟩)
  dsimp only [Pt.U, Pt.locs, Pt.cells, Pt.slots] at X23 l23 y23 z23 st23 hQ23
  subst l23 y23 z23
  obtain ⟨rfl, N23q, e23⟩ := hQ23
  have N23 := Fr.app N20 N23q
  have K24 : ∀ t, Steps p.tables e below (T23.setTop (mkF m 92 #[.val (.long q1), .second, .val (.int p2), .val (.int p3), .val (.int (p2 &&& (63 : Int32))), .val (.long (f0_u1 q1 p2 p3)), .second, .val (.long (f0_u2 q1 p2 p3)), .second, .val (.long (f0_u3 q1 p2 p3)), .second, .val (.int (f1 (f0_u2 q1 p2 p3)))] [(.int (f5 (f0_u3 q1 p2 p3))), (.int (f1 (f0_u2 q1 p2 p3)))])) t → Steps p.tables e below (T20.setTop (mkF m 89 #[.val (.long q1), .second, .val (.int p2), .val (.int p3), .val (.int (p2 &&& (63 : Int32))), .val (.long (f0_u1 q1 p2 p3)), .second, .val (.long (f0_u2 q1 p2 p3)), .second, .val (.long (f0_u3 q1 p2 p3)), .second, .val (.int (f1 (f0_u2 q1 p2 p3)))] [(.long (f0_u3 q1 p2 p3)), (.int (f1 (f0_u2 q1 p2 p3)))])) t := fun t k => st23 _ k
  by_cases hc25 : (f1 (f0_u2 q1 p2 p3)) = (f5 (f0_u3 q1 p2 p3))
  · have K26 : ∀ t, Steps p.tables e below (T23.setTop (mkF m 95 #[.val (.long q1), .second, .val (.int p2), .val (.int p3), .val (.int (p2 &&& (63 : Int32))), .val (.long (f0_u1 q1 p2 p3)), .second, .val (.long (f0_u2 q1 p2 p3)), .second, .val (.long (f0_u3 q1 p2 p3)), .second, .val (.int (f1 (f0_u2 q1 p2 p3)))] [])) t → Steps p.tables e below (T23.setTop (mkF m 92 #[.val (.long q1), .second, .val (.int p2), .val (.int p3), .val (.int (p2 &&& (63 : Int32))), .val (.long (f0_u1 q1 p2 p3)), .second, .val (.long (f0_u2 q1 p2 p3)), .second, .val (.long (f0_u3 q1 p2 p3)), .second, .val (.int (f1 (f0_u2 q1 p2 p3)))] [(.int (f5 (f0_u3 q1 p2 p3))), (.int (f1 (f0_u2 q1 p2 p3)))])) t := by
      intro t k
      refine XS.icmpNo X23.here hx rfl (hb hby at_92) rfl (teq hc25).2 ?_
      exact k
    have K27 : ∀ t, Steps p.tables e below (T23.setTop (mkF m 100 #[.val (.long q1), .second, .val (.int p2), .val (.int p3), .val (.int (p2 &&& (63 : Int32))), .val (.long (f0_u1 q1 p2 p3)), .second, .val (.long (f0_u2 q1 p2 p3)), .second, .val (.long (f0_u3 q1 p2 p3)), .second, .val (.int (f1 (f0_u2 q1 p2 p3)))] [(.int (1 : Int32))])) t → Steps p.tables e below (T23.setTop (mkF m 95 #[.val (.long q1), .second, .val (.int p2), .val (.int p3), .val (.int (p2 &&& (63 : Int32))), .val (.long (f0_u1 q1 p2 p3)), .second, .val (.long (f0_u2 q1 p2 p3)), .second, .val (.long (f0_u3 q1 p2 p3)), .second, .val (.int (f1 (f0_u2 q1 p2 p3)))] [])) t := by
      intro t k
      refine XS.iconst X23.here hx rfl (hb hby at_95) ?_
      show Steps p.tables e below (T23.setTop (mkF m 96 #[.val (.long q1), .second, .val (.int p2), .val (.int p3), .val (.int (p2 &&& (63 : Int32))), .val (.long (f0_u1 q1 p2 p3)), .second, .val (.long (f0_u2 q1 p2 p3)), .second, .val (.long (f0_u3 q1 p2 p3)), .second, .val (.int (f1 (f0_u2 q1 p2 p3)))] [(.int (1 : Int32))])) t
      refine XS.goto X23.here hx rfl (pc0 := 96) (pc' := 100) rfl (hb hby at_96) (by decide) (by decide) ?_
      show Steps p.tables e below (T23.setTop (mkF m 100 #[.val (.long q1), .second, .val (.int p2), .val (.int p3), .val (.int (p2 &&& (63 : Int32))), .val (.long (f0_u1 q1 p2 p3)), .second, .val (.long (f0_u2 q1 p2 p3)), .second, .val (.long (f0_u3 q1 p2 p3)), .second, .val (.int (f1 (f0_u2 q1 p2 p3)))] [(.int (1 : Int32))])) t
      exact k
    obtain ⟨fs, hr, hrun, hended, hW, hsame⟩ := X23.leave (v := some (.int (1 : Int32))) (fun h => by rw [Bd.returns] at h; cases h)
    refine ⟨_, _, pre0 _ (K1 _ (K2 _ (K7 _ (K8 _ (K13 _ (K14 _ (K19 _ (K21 _ (K22 _ (K24 _ (K26 _ (K27 _ (retN X23 hx (t := .boolean) Bd.returns (by simp) (hb hby at_100) hr))))))))))))), hrun, hended, _, _, rfl, ?_, ⟨_, rfl⟩, hW, hsame.mono (by decide) (by decide)⟩
    show Q0 Z q1 p2 p3 h0 n0 _ T23.heap _
    rw [e23]
    exact ⟨congrArg (fun z => some (Value.int z)) (show (1 : Int32) = f0 q1 p2 p3 from Eq.symm (if_pos hc25)), N23, rfl⟩
  · have K28 : ∀ t, Steps p.tables e below (T23.setTop (mkF m 99 #[.val (.long q1), .second, .val (.int p2), .val (.int p3), .val (.int (p2 &&& (63 : Int32))), .val (.long (f0_u1 q1 p2 p3)), .second, .val (.long (f0_u2 q1 p2 p3)), .second, .val (.long (f0_u3 q1 p2 p3)), .second, .val (.int (f1 (f0_u2 q1 p2 p3)))] [])) t → Steps p.tables e below (T23.setTop (mkF m 92 #[.val (.long q1), .second, .val (.int p2), .val (.int p3), .val (.int (p2 &&& (63 : Int32))), .val (.long (f0_u1 q1 p2 p3)), .second, .val (.long (f0_u2 q1 p2 p3)), .second, .val (.long (f0_u3 q1 p2 p3)), .second, .val (.int (f1 (f0_u2 q1 p2 p3)))] [(.int (f5 (f0_u3 q1 p2 p3))), (.int (f1 (f0_u2 q1 p2 p3)))])) t := by
      intro t k
      refine XS.icmpYes X23.here hx rfl (pc0 := 92) (pc' := 99) rfl (hb hby at_92) rfl (feq hc25).2 (by decide) (by decide) ?_
      exact k
    have K29 : ∀ t, Steps p.tables e below (T23.setTop (mkF m 100 #[.val (.long q1), .second, .val (.int p2), .val (.int p3), .val (.int (p2 &&& (63 : Int32))), .val (.long (f0_u1 q1 p2 p3)), .second, .val (.long (f0_u2 q1 p2 p3)), .second, .val (.long (f0_u3 q1 p2 p3)), .second, .val (.int (f1 (f0_u2 q1 p2 p3)))] [(.int (0 : Int32))])) t → Steps p.tables e below (T23.setTop (mkF m 99 #[.val (.long q1), .second, .val (.int p2), .val (.int p3), .val (.int (p2 &&& (63 : Int32))), .val (.long (f0_u1 q1 p2 p3)), .second, .val (.long (f0_u2 q1 p2 p3)), .second, .val (.long (f0_u3 q1 p2 p3)), .second, .val (.int (f1 (f0_u2 q1 p2 p3)))] [])) t := by
      intro t k
      refine XS.iconst X23.here hx rfl (hb hby at_99) ?_
      show Steps p.tables e below (T23.setTop (mkF m 100 #[.val (.long q1), .second, .val (.int p2), .val (.int p3), .val (.int (p2 &&& (63 : Int32))), .val (.long (f0_u1 q1 p2 p3)), .second, .val (.long (f0_u2 q1 p2 p3)), .second, .val (.long (f0_u3 q1 p2 p3)), .second, .val (.int (f1 (f0_u2 q1 p2 p3)))] [(.int (0 : Int32))])) t
      exact k
    obtain ⟨fs, hr, hrun, hended, hW, hsame⟩ := X23.leave (v := some (.int (0 : Int32))) (fun h => by rw [Bd.returns] at h; cases h)
    refine ⟨_, _, pre0 _ (K1 _ (K2 _ (K7 _ (K8 _ (K13 _ (K14 _ (K19 _ (K21 _ (K22 _ (K24 _ (K28 _ (K29 _ (retN X23 hx (t := .boolean) Bd.returns (by simp) (hb hby at_100) hr))))))))))))), hrun, hended, _, _, rfl, ?_, ⟨_, rfl⟩, hW, hsame.mono (by decide) (by decide)⟩
    show Q0 Z q1 p2 p3 h0 n0 _ T23.heap _
    rw [e23]
    exact ⟨congrArg (fun z => some (Value.int z)) (show (0 : Int32) = f0 q1 p2 p3 from Eq.symm (if_neg hc25)), N23, rfl⟩
theorem own_nat (b : Int32) : b = Int32.ofNat b.toBitVec.toNat := by
  apply Int32.toBitVec_inj.mp
  simp
theorem own_mask (a m : Int32) (k : Nat) (h : m.toBitVec.toNat = k) : ∃ n, n < k + 1 ∧ a &&& m = Int32.ofNat n := by
  refine ⟨(a &&& m).toBitVec.toNat, ?_, own_nat _⟩
  have : (a &&& m).toBitVec.toNat = a.toBitVec.toNat &&& m.toBitVec.toNat := by simp
  rw [this, h]
  exact Nat.lt_succ_of_le Nat.and_le_right
theorem own_ofNat (n : Nat) (h : n < 2147483648) : (Int32.ofNat n).toInt = (n : Int) := Int32.toInt_ofNat_of_lt h
theorem own_rem (n k : Nat) (h : n < 2147483648) (h1 : k < 2147483648) : Int32.ofNat n % Int32.ofNat k = Int32.ofNat (n % k) := by
  apply Int32.toInt_inj.mp
  rw [Int32.toInt_mod, own_ofNat n h, own_ofNat k h1, own_ofNat (n % k) (Nat.lt_of_le_of_lt (Nat.mod_le n k) h)]
  rw [Int.tmod_eq_emod_of_nonneg (by omega)]
  exact (Int.natCast_emod n k).symm
theorem own_ush (x q : Int32) (hx : 0 ≤ x.toInt) (k : Nat) (hk : q.toBitVec.toNat % 32 = k) (h0 : 0 < k) : ((x.toUInt32 >>> (q &&& 31).toUInt32).toInt32).toInt = x.toInt / (2 ^ k : Nat) := by
  rw [c_iushr x q k hk h0]
  have := x.toInt_lt
  rw [Int.emod_eq_of_lt hx (by omega)]
theorem own_nlz (p : Int32) (h : 0 < p) : ∃ k : Nat, k ≤ 30 ∧ (f4 p).toInt = 31 - (k : Int) ∧ ((2 ^ k : Nat) : Int) ≤ p.toInt ∧ p.toInt < ((2 ^ (k + 1) : Nat) : Int) := by
  have z0 : (0 : Int32).toInt = 0 := by decide
  have z4 : (4 : Int32).toInt = 4 := by decide
  have z16 : (16 : Int32).toInt = 16 := by decide
  have z256 : (256 : Int32).toInt = 256 := by decide
  have z65536 : (65536 : Int32).toInt = 65536 := by decide
  have hp : 0 < p.toInt := by have := Int32.lt_iff_toInt_lt.mp h; omega
  have hp2 := p.toInt_lt
  have hf : f4 p = (f4_u8 p) - (((f4_u7 p).toUInt32 >>> ((1 : Int32) &&& 31).toUInt32).toInt32) := if_pos h
  by_cases c1 : p < (65536 : Int32)
  · have x1 : (f4_u1 p).toInt = (p).toInt := by rw [show f4_u1 p = _ from if_pos c1]
    have n1 : f4_u2 p = (31 : Int32) := (if_pos c1).trans (by decide)
    have d1 : (p).toInt < (65536 : Int32).toInt := Int32.lt_iff_toInt_lt.mp c1
    by_cases c2 : f4_u1 p < (256 : Int32)
    · have x2 : (f4_u3 p).toInt = (f4_u1 p).toInt := by rw [show f4_u3 p = _ from if_pos c2]
      have n2 : f4_u4 p = (31 : Int32) := (if_pos c2).trans (by rw [n1])
      have d2 : (f4_u1 p).toInt < (256 : Int32).toInt := Int32.lt_iff_toInt_lt.mp c2
      by_cases c3 : f4_u3 p < (16 : Int32)
      · have x3 : (f4_u5 p).toInt = (f4_u3 p).toInt := by rw [show f4_u5 p = _ from if_pos c3]
        have n3 : f4_u6 p = (31 : Int32) := (if_pos c3).trans (by rw [n2])
        have d3 : (f4_u3 p).toInt < (16 : Int32).toInt := Int32.lt_iff_toInt_lt.mp c3
        by_cases c4 : f4_u5 p < (4 : Int32)
        · have x4 : (f4_u7 p).toInt = (f4_u5 p).toInt := by rw [show f4_u7 p = _ from if_pos c4]
          have n4 : f4_u8 p = (31 : Int32) := (if_pos c4).trans (by rw [n3])
          have d4 : (f4_u5 p).toInt < (4 : Int32).toInt := Int32.lt_iff_toInt_lt.mp c4
          have hx : 0 ≤ (f4_u7 p).toInt := by omega
          have hs := own_ush (f4_u7 p) 1 hx 1 (by decide) (by decide)
          have hr : (f4 p).toInt = 31 - (f4_u7 p).toInt / 2 := by
            rw [hf, n4, Int32.toInt_sub, hs, show (31 : Int32).toInt = 31 from by decide]
            exact Int.bmod_eq_of_le (by omega) (by omega)
          by_cases hl : (f4_u7 p).toInt < 2
          · exact ⟨0, by omega, by omega, by omega, by omega⟩
          · exact ⟨1, by omega, by omega, by omega, by omega⟩
        · have x4 : (f4_u7 p).toInt = (f4_u5 p).toInt / 4 := by rw [show f4_u7 p = _ from if_neg c4]; exact own_ush _ 2 (by omega) 2 (by decide) (by decide)
          have n4 : f4_u8 p = (29 : Int32) := (if_neg c4).trans (by rw [n3]; decide)
          have d4 : ¬ ((f4_u5 p).toInt < (4 : Int32).toInt) := fun q => c4 (Int32.lt_iff_toInt_lt.mpr q)
          have hx : 0 ≤ (f4_u7 p).toInt := by omega
          have hs := own_ush (f4_u7 p) 1 hx 1 (by decide) (by decide)
          have hr : (f4 p).toInt = 29 - (f4_u7 p).toInt / 2 := by
            rw [hf, n4, Int32.toInt_sub, hs, show (29 : Int32).toInt = 29 from by decide]
            exact Int.bmod_eq_of_le (by omega) (by omega)
          by_cases hl : (f4_u7 p).toInt < 2
          · exact ⟨2, by omega, by omega, by omega, by omega⟩
          · exact ⟨3, by omega, by omega, by omega, by omega⟩
      · have x3 : (f4_u5 p).toInt = (f4_u3 p).toInt / 16 := by rw [show f4_u5 p = _ from if_neg c3]; exact own_ush _ 4 (by omega) 4 (by decide) (by decide)
        have n3 : f4_u6 p = (27 : Int32) := (if_neg c3).trans (by rw [n2]; decide)
        have d3 : ¬ ((f4_u3 p).toInt < (16 : Int32).toInt) := fun q => c3 (Int32.lt_iff_toInt_lt.mpr q)
        by_cases c4 : f4_u5 p < (4 : Int32)
        · have x4 : (f4_u7 p).toInt = (f4_u5 p).toInt := by rw [show f4_u7 p = _ from if_pos c4]
          have n4 : f4_u8 p = (27 : Int32) := (if_pos c4).trans (by rw [n3])
          have d4 : (f4_u5 p).toInt < (4 : Int32).toInt := Int32.lt_iff_toInt_lt.mp c4
          have hx : 0 ≤ (f4_u7 p).toInt := by omega
          have hs := own_ush (f4_u7 p) 1 hx 1 (by decide) (by decide)
          have hr : (f4 p).toInt = 27 - (f4_u7 p).toInt / 2 := by
            rw [hf, n4, Int32.toInt_sub, hs, show (27 : Int32).toInt = 27 from by decide]
            exact Int.bmod_eq_of_le (by omega) (by omega)
          by_cases hl : (f4_u7 p).toInt < 2
          · exact ⟨4, by omega, by omega, by omega, by omega⟩
          · exact ⟨5, by omega, by omega, by omega, by omega⟩
        · have x4 : (f4_u7 p).toInt = (f4_u5 p).toInt / 4 := by rw [show f4_u7 p = _ from if_neg c4]; exact own_ush _ 2 (by omega) 2 (by decide) (by decide)
          have n4 : f4_u8 p = (25 : Int32) := (if_neg c4).trans (by rw [n3]; decide)
          have d4 : ¬ ((f4_u5 p).toInt < (4 : Int32).toInt) := fun q => c4 (Int32.lt_iff_toInt_lt.mpr q)
          have hx : 0 ≤ (f4_u7 p).toInt := by omega
          have hs := own_ush (f4_u7 p) 1 hx 1 (by decide) (by decide)
          have hr : (f4 p).toInt = 25 - (f4_u7 p).toInt / 2 := by
            rw [hf, n4, Int32.toInt_sub, hs, show (25 : Int32).toInt = 25 from by decide]
            exact Int.bmod_eq_of_le (by omega) (by omega)
          by_cases hl : (f4_u7 p).toInt < 2
          · exact ⟨6, by omega, by omega, by omega, by omega⟩
          · exact ⟨7, by omega, by omega, by omega, by omega⟩
    · have x2 : (f4_u3 p).toInt = (f4_u1 p).toInt / 256 := by rw [show f4_u3 p = _ from if_neg c2]; exact own_ush _ 8 (by omega) 8 (by decide) (by decide)
      have n2 : f4_u4 p = (23 : Int32) := (if_neg c2).trans (by rw [n1]; decide)
      have d2 : ¬ ((f4_u1 p).toInt < (256 : Int32).toInt) := fun q => c2 (Int32.lt_iff_toInt_lt.mpr q)
      by_cases c3 : f4_u3 p < (16 : Int32)
      · have x3 : (f4_u5 p).toInt = (f4_u3 p).toInt := by rw [show f4_u5 p = _ from if_pos c3]
        have n3 : f4_u6 p = (23 : Int32) := (if_pos c3).trans (by rw [n2])
        have d3 : (f4_u3 p).toInt < (16 : Int32).toInt := Int32.lt_iff_toInt_lt.mp c3
        by_cases c4 : f4_u5 p < (4 : Int32)
        · have x4 : (f4_u7 p).toInt = (f4_u5 p).toInt := by rw [show f4_u7 p = _ from if_pos c4]
          have n4 : f4_u8 p = (23 : Int32) := (if_pos c4).trans (by rw [n3])
          have d4 : (f4_u5 p).toInt < (4 : Int32).toInt := Int32.lt_iff_toInt_lt.mp c4
          have hx : 0 ≤ (f4_u7 p).toInt := by omega
          have hs := own_ush (f4_u7 p) 1 hx 1 (by decide) (by decide)
          have hr : (f4 p).toInt = 23 - (f4_u7 p).toInt / 2 := by
            rw [hf, n4, Int32.toInt_sub, hs, show (23 : Int32).toInt = 23 from by decide]
            exact Int.bmod_eq_of_le (by omega) (by omega)
          by_cases hl : (f4_u7 p).toInt < 2
          · exact ⟨8, by omega, by omega, by omega, by omega⟩
          · exact ⟨9, by omega, by omega, by omega, by omega⟩
        · have x4 : (f4_u7 p).toInt = (f4_u5 p).toInt / 4 := by rw [show f4_u7 p = _ from if_neg c4]; exact own_ush _ 2 (by omega) 2 (by decide) (by decide)
          have n4 : f4_u8 p = (21 : Int32) := (if_neg c4).trans (by rw [n3]; decide)
          have d4 : ¬ ((f4_u5 p).toInt < (4 : Int32).toInt) := fun q => c4 (Int32.lt_iff_toInt_lt.mpr q)
          have hx : 0 ≤ (f4_u7 p).toInt := by omega
          have hs := own_ush (f4_u7 p) 1 hx 1 (by decide) (by decide)
          have hr : (f4 p).toInt = 21 - (f4_u7 p).toInt / 2 := by
            rw [hf, n4, Int32.toInt_sub, hs, show (21 : Int32).toInt = 21 from by decide]
            exact Int.bmod_eq_of_le (by omega) (by omega)
          by_cases hl : (f4_u7 p).toInt < 2
          · exact ⟨10, by omega, by omega, by omega, by omega⟩
          · exact ⟨11, by omega, by omega, by omega, by omega⟩
      · have x3 : (f4_u5 p).toInt = (f4_u3 p).toInt / 16 := by rw [show f4_u5 p = _ from if_neg c3]; exact own_ush _ 4 (by omega) 4 (by decide) (by decide)
        have n3 : f4_u6 p = (19 : Int32) := (if_neg c3).trans (by rw [n2]; decide)
        have d3 : ¬ ((f4_u3 p).toInt < (16 : Int32).toInt) := fun q => c3 (Int32.lt_iff_toInt_lt.mpr q)
        by_cases c4 : f4_u5 p < (4 : Int32)
        · have x4 : (f4_u7 p).toInt = (f4_u5 p).toInt := by rw [show f4_u7 p = _ from if_pos c4]
          have n4 : f4_u8 p = (19 : Int32) := (if_pos c4).trans (by rw [n3])
          have d4 : (f4_u5 p).toInt < (4 : Int32).toInt := Int32.lt_iff_toInt_lt.mp c4
          have hx : 0 ≤ (f4_u7 p).toInt := by omega
          have hs := own_ush (f4_u7 p) 1 hx 1 (by decide) (by decide)
          have hr : (f4 p).toInt = 19 - (f4_u7 p).toInt / 2 := by
            rw [hf, n4, Int32.toInt_sub, hs, show (19 : Int32).toInt = 19 from by decide]
            exact Int.bmod_eq_of_le (by omega) (by omega)
          by_cases hl : (f4_u7 p).toInt < 2
          · exact ⟨12, by omega, by omega, by omega, by omega⟩
          · exact ⟨13, by omega, by omega, by omega, by omega⟩
        · have x4 : (f4_u7 p).toInt = (f4_u5 p).toInt / 4 := by rw [show f4_u7 p = _ from if_neg c4]; exact own_ush _ 2 (by omega) 2 (by decide) (by decide)
          have n4 : f4_u8 p = (17 : Int32) := (if_neg c4).trans (by rw [n3]; decide)
          have d4 : ¬ ((f4_u5 p).toInt < (4 : Int32).toInt) := fun q => c4 (Int32.lt_iff_toInt_lt.mpr q)
          have hx : 0 ≤ (f4_u7 p).toInt := by omega
          have hs := own_ush (f4_u7 p) 1 hx 1 (by decide) (by decide)
          have hr : (f4 p).toInt = 17 - (f4_u7 p).toInt / 2 := by
            rw [hf, n4, Int32.toInt_sub, hs, show (17 : Int32).toInt = 17 from by decide]
            exact Int.bmod_eq_of_le (by omega) (by omega)
          by_cases hl : (f4_u7 p).toInt < 2
          · exact ⟨14, by omega, by omega, by omega, by omega⟩
          · exact ⟨15, by omega, by omega, by omega, by omega⟩
  · have x1 : (f4_u1 p).toInt = (p).toInt / 65536 := by rw [show f4_u1 p = _ from if_neg c1]; exact own_ush _ 16 (by omega) 16 (by decide) (by decide)
    have n1 : f4_u2 p = (15 : Int32) := (if_neg c1).trans (by decide)
    have d1 : ¬ ((p).toInt < (65536 : Int32).toInt) := fun q => c1 (Int32.lt_iff_toInt_lt.mpr q)
    by_cases c2 : f4_u1 p < (256 : Int32)
    · have x2 : (f4_u3 p).toInt = (f4_u1 p).toInt := by rw [show f4_u3 p = _ from if_pos c2]
      have n2 : f4_u4 p = (15 : Int32) := (if_pos c2).trans (by rw [n1])
      have d2 : (f4_u1 p).toInt < (256 : Int32).toInt := Int32.lt_iff_toInt_lt.mp c2
      by_cases c3 : f4_u3 p < (16 : Int32)
      · have x3 : (f4_u5 p).toInt = (f4_u3 p).toInt := by rw [show f4_u5 p = _ from if_pos c3]
        have n3 : f4_u6 p = (15 : Int32) := (if_pos c3).trans (by rw [n2])
        have d3 : (f4_u3 p).toInt < (16 : Int32).toInt := Int32.lt_iff_toInt_lt.mp c3
        by_cases c4 : f4_u5 p < (4 : Int32)
        · have x4 : (f4_u7 p).toInt = (f4_u5 p).toInt := by rw [show f4_u7 p = _ from if_pos c4]
          have n4 : f4_u8 p = (15 : Int32) := (if_pos c4).trans (by rw [n3])
          have d4 : (f4_u5 p).toInt < (4 : Int32).toInt := Int32.lt_iff_toInt_lt.mp c4
          have hx : 0 ≤ (f4_u7 p).toInt := by omega
          have hs := own_ush (f4_u7 p) 1 hx 1 (by decide) (by decide)
          have hr : (f4 p).toInt = 15 - (f4_u7 p).toInt / 2 := by
            rw [hf, n4, Int32.toInt_sub, hs, show (15 : Int32).toInt = 15 from by decide]
            exact Int.bmod_eq_of_le (by omega) (by omega)
          by_cases hl : (f4_u7 p).toInt < 2
          · exact ⟨16, by omega, by omega, by omega, by omega⟩
          · exact ⟨17, by omega, by omega, by omega, by omega⟩
        · have x4 : (f4_u7 p).toInt = (f4_u5 p).toInt / 4 := by rw [show f4_u7 p = _ from if_neg c4]; exact own_ush _ 2 (by omega) 2 (by decide) (by decide)
          have n4 : f4_u8 p = (13 : Int32) := (if_neg c4).trans (by rw [n3]; decide)
          have d4 : ¬ ((f4_u5 p).toInt < (4 : Int32).toInt) := fun q => c4 (Int32.lt_iff_toInt_lt.mpr q)
          have hx : 0 ≤ (f4_u7 p).toInt := by omega
          have hs := own_ush (f4_u7 p) 1 hx 1 (by decide) (by decide)
          have hr : (f4 p).toInt = 13 - (f4_u7 p).toInt / 2 := by
            rw [hf, n4, Int32.toInt_sub, hs, show (13 : Int32).toInt = 13 from by decide]
            exact Int.bmod_eq_of_le (by omega) (by omega)
          by_cases hl : (f4_u7 p).toInt < 2
          · exact ⟨18, by omega, by omega, by omega, by omega⟩
          · exact ⟨19, by omega, by omega, by omega, by omega⟩
      · have x3 : (f4_u5 p).toInt = (f4_u3 p).toInt / 16 := by rw [show f4_u5 p = _ from if_neg c3]; exact own_ush _ 4 (by omega) 4 (by decide) (by decide)
        have n3 : f4_u6 p = (11 : Int32) := (if_neg c3).trans (by rw [n2]; decide)
        have d3 : ¬ ((f4_u3 p).toInt < (16 : Int32).toInt) := fun q => c3 (Int32.lt_iff_toInt_lt.mpr q)
        by_cases c4 : f4_u5 p < (4 : Int32)
        · have x4 : (f4_u7 p).toInt = (f4_u5 p).toInt := by rw [show f4_u7 p = _ from if_pos c4]
          have n4 : f4_u8 p = (11 : Int32) := (if_pos c4).trans (by rw [n3])
          have d4 : (f4_u5 p).toInt < (4 : Int32).toInt := Int32.lt_iff_toInt_lt.mp c4
          have hx : 0 ≤ (f4_u7 p).toInt := by omega
          have hs := own_ush (f4_u7 p) 1 hx 1 (by decide) (by decide)
          have hr : (f4 p).toInt = 11 - (f4_u7 p).toInt / 2 := by
            rw [hf, n4, Int32.toInt_sub, hs, show (11 : Int32).toInt = 11 from by decide]
            exact Int.bmod_eq_of_le (by omega) (by omega)
          by_cases hl : (f4_u7 p).toInt < 2
          · exact ⟨20, by omega, by omega, by omega, by omega⟩
          · exact ⟨21, by omega, by omega, by omega, by omega⟩
        · have x4 : (f4_u7 p).toInt = (f4_u5 p).toInt / 4 := by rw [show f4_u7 p = _ from if_neg c4]; exact own_ush _ 2 (by omega) 2 (by decide) (by decide)
          have n4 : f4_u8 p = (9 : Int32) := (if_neg c4).trans (by rw [n3]; decide)
          have d4 : ¬ ((f4_u5 p).toInt < (4 : Int32).toInt) := fun q => c4 (Int32.lt_iff_toInt_lt.mpr q)
          have hx : 0 ≤ (f4_u7 p).toInt := by omega
          have hs := own_ush (f4_u7 p) 1 hx 1 (by decide) (by decide)
          have hr : (f4 p).toInt = 9 - (f4_u7 p).toInt / 2 := by
            rw [hf, n4, Int32.toInt_sub, hs, show (9 : Int32).toInt = 9 from by decide]
            exact Int.bmod_eq_of_le (by omega) (by omega)
          by_cases hl : (f4_u7 p).toInt < 2
          · exact ⟨22, by omega, by omega, by omega, by omega⟩
          · exact ⟨23, by omega, by omega, by omega, by omega⟩
    · have x2 : (f4_u3 p).toInt = (f4_u1 p).toInt / 256 := by rw [show f4_u3 p = _ from if_neg c2]; exact own_ush _ 8 (by omega) 8 (by decide) (by decide)
      have n2 : f4_u4 p = (7 : Int32) := (if_neg c2).trans (by rw [n1]; decide)
      have d2 : ¬ ((f4_u1 p).toInt < (256 : Int32).toInt) := fun q => c2 (Int32.lt_iff_toInt_lt.mpr q)
      by_cases c3 : f4_u3 p < (16 : Int32)
      · have x3 : (f4_u5 p).toInt = (f4_u3 p).toInt := by rw [show f4_u5 p = _ from if_pos c3]
        have n3 : f4_u6 p = (7 : Int32) := (if_pos c3).trans (by rw [n2])
        have d3 : (f4_u3 p).toInt < (16 : Int32).toInt := Int32.lt_iff_toInt_lt.mp c3
        by_cases c4 : f4_u5 p < (4 : Int32)
        · have x4 : (f4_u7 p).toInt = (f4_u5 p).toInt := by rw [show f4_u7 p = _ from if_pos c4]
          have n4 : f4_u8 p = (7 : Int32) := (if_pos c4).trans (by rw [n3])
          have d4 : (f4_u5 p).toInt < (4 : Int32).toInt := Int32.lt_iff_toInt_lt.mp c4
          have hx : 0 ≤ (f4_u7 p).toInt := by omega
          have hs := own_ush (f4_u7 p) 1 hx 1 (by decide) (by decide)
          have hr : (f4 p).toInt = 7 - (f4_u7 p).toInt / 2 := by
            rw [hf, n4, Int32.toInt_sub, hs, show (7 : Int32).toInt = 7 from by decide]
            exact Int.bmod_eq_of_le (by omega) (by omega)
          by_cases hl : (f4_u7 p).toInt < 2
          · exact ⟨24, by omega, by omega, by omega, by omega⟩
          · exact ⟨25, by omega, by omega, by omega, by omega⟩
        · have x4 : (f4_u7 p).toInt = (f4_u5 p).toInt / 4 := by rw [show f4_u7 p = _ from if_neg c4]; exact own_ush _ 2 (by omega) 2 (by decide) (by decide)
          have n4 : f4_u8 p = (5 : Int32) := (if_neg c4).trans (by rw [n3]; decide)
          have d4 : ¬ ((f4_u5 p).toInt < (4 : Int32).toInt) := fun q => c4 (Int32.lt_iff_toInt_lt.mpr q)
          have hx : 0 ≤ (f4_u7 p).toInt := by omega
          have hs := own_ush (f4_u7 p) 1 hx 1 (by decide) (by decide)
          have hr : (f4 p).toInt = 5 - (f4_u7 p).toInt / 2 := by
            rw [hf, n4, Int32.toInt_sub, hs, show (5 : Int32).toInt = 5 from by decide]
            exact Int.bmod_eq_of_le (by omega) (by omega)
          by_cases hl : (f4_u7 p).toInt < 2
          · exact ⟨26, by omega, by omega, by omega, by omega⟩
          · exact ⟨27, by omega, by omega, by omega, by omega⟩
      · have x3 : (f4_u5 p).toInt = (f4_u3 p).toInt / 16 := by rw [show f4_u5 p = _ from if_neg c3]; exact own_ush _ 4 (by omega) 4 (by decide) (by decide)
        have n3 : f4_u6 p = (3 : Int32) := (if_neg c3).trans (by rw [n2]; decide)
        have d3 : ¬ ((f4_u3 p).toInt < (16 : Int32).toInt) := fun q => c3 (Int32.lt_iff_toInt_lt.mpr q)
        by_cases c4 : f4_u5 p < (4 : Int32)
        · have x4 : (f4_u7 p).toInt = (f4_u5 p).toInt := by rw [show f4_u7 p = _ from if_pos c4]
          have n4 : f4_u8 p = (3 : Int32) := (if_pos c4).trans (by rw [n3])
          have d4 : (f4_u5 p).toInt < (4 : Int32).toInt := Int32.lt_iff_toInt_lt.mp c4
          have hx : 0 ≤ (f4_u7 p).toInt := by omega
          have hs := own_ush (f4_u7 p) 1 hx 1 (by decide) (by decide)
          have hr : (f4 p).toInt = 3 - (f4_u7 p).toInt / 2 := by
            rw [hf, n4, Int32.toInt_sub, hs, show (3 : Int32).toInt = 3 from by decide]
            exact Int.bmod_eq_of_le (by omega) (by omega)
          by_cases hl : (f4_u7 p).toInt < 2
          · exact ⟨28, by omega, by omega, by omega, by omega⟩
          · exact ⟨29, by omega, by omega, by omega, by omega⟩
        · have x4 : (f4_u7 p).toInt = (f4_u5 p).toInt / 4 := by rw [show f4_u7 p = _ from if_neg c4]; exact own_ush _ 2 (by omega) 2 (by decide) (by decide)
          have n4 : f4_u8 p = (1 : Int32) := (if_neg c4).trans (by rw [n3]; decide)
          have d4 : ¬ ((f4_u5 p).toInt < (4 : Int32).toInt) := fun q => c4 (Int32.lt_iff_toInt_lt.mpr q)
          have hx : 0 ≤ (f4_u7 p).toInt := by omega
          have hs := own_ush (f4_u7 p) 1 hx 1 (by decide) (by decide)
          have hr : (f4 p).toInt = 1 - (f4_u7 p).toInt / 2 := by
            rw [hf, n4, Int32.toInt_sub, hs, show (1 : Int32).toInt = 1 from by decide]
            exact Int.bmod_eq_of_le (by omega) (by omega)
          by_cases hl : (f4_u7 p).toInt < 2
          · exact ⟨30, by omega, by omega, by omega, by omega⟩
          · exact ⟨31, by omega, by omega, by omega, by omega⟩
theorem own_bits (b : BitVec 32) (B : Nat) : True := trivial
theorem own_toNat (p : Int32) : (0 ≤ p.toInt → (p.toBitVec.toNat : Int) = p.toInt) ∧ (p.toInt < 0 → (p.toBitVec.toNat : Int) = p.toInt + 4294967296) := by
  have h : p.toInt = p.toBitVec.toInt := rfl
  rw [h, BitVec.toInt_eq_toNat_cond]
  have := p.toBitVec.isLt
  split <;> omega
theorem own_nlz32 (p : Int32) (h : 0 < p.toBitVec.toNat) : ∃ k : Nat, k ≤ 31 ∧ (f4 p).toInt = 31 - (k : Int) ∧ 2 ^ k ≤ p.toBitVec.toNat ∧ p.toBitVec.toNat < 2 ^ (k + 1) := by
  have z0 : (0 : Int32).toInt = 0 := by decide
  obtain ⟨t1, t2⟩ := own_toNat p
  have hb := p.toBitVec.isLt
  by_cases hp : 0 < p
  · obtain ⟨k, h1, h2, h3, h4⟩ := own_nlz p hp
    have := Int32.lt_iff_toInt_lt.mp hp
    have t3 := t1 (by omega)
    exact ⟨k, by omega, h2, by omega, by omega⟩
  · have hn : ¬ (p = 0) := fun e => by subst e; exact absurd h (by decide)
    have hlt : p.toInt < 0 := by
      have h1 : ¬ (0 < p.toInt) := fun q => hp (Int32.lt_iff_toInt_lt.mpr (by omega))
      have h2 : p.toInt ≠ 0 := fun q => hn (Int32.toInt_inj.mp (by omega))
      omega
    have t3 := t2 hlt
    have hf : f4 p = 0 := (if_neg hp).trans (if_neg hn)
    have := p.le_toInt
    exact ⟨31, by omega, by rw [hf]; decide, by omega, by omega⟩
theorem own_lo (z : Int64) : (z.toInt32).toBitVec.toNat = z.toBitVec.toNat % 4294967296 := by
  rw [Int64.toBitVec_toInt32, BitVec.signExtend_eq_setWidth_of_le _ (by decide), BitVec.toNat_setWidth]
theorem own_hi (z : Int64) : ((((z.toUInt64 >>> ((32 : Int32) &&& 0x3f).toInt64.toUInt64).toInt64).toInt32)).toBitVec.toNat = z.toBitVec.toNat / 4294967296 := by
  have h := z.toBitVec.isLt
  rw [own_lo]
  show (z.toBitVec >>> (32 : Nat)).toNat % _ = _
  rw [BitVec.toNat_ushiftRight, Nat.shiftRight_eq_div_pow]
  omega
theorem own_nlz64 (z : Int64) (h : 0 < z.toBitVec.toNat) : ∃ B : Nat, 1 ≤ B ∧ B ≤ 64 ∧ (f3 z).toInt = 64 - (B : Int) ∧ 2 ^ (B - 1) ≤ z.toBitVec.toNat ∧ z.toBitVec.toNat < 2 ^ B := by
  have hh := own_hi z
  have hl := own_lo z
  have z0 : (0 : Int32).toInt = 0 := by decide
  unfold f3
  generalize (((z.toUInt64 >>> ((32 : Int32) &&& 0x3f).toInt64.toUInt64).toInt64).toInt32) = hi at *
  generalize z.toInt32 = lo at *
  by_cases c : hi = 0
  · subst c
    rw [if_pos rfl]
    have e0 : (0 : Int32).toBitVec.toNat = 0 := by decide
    obtain ⟨k, h1, h2, h3, h4⟩ := own_nlz32 lo (by omega)
    have hr : ((32 : Int32) + f4 lo).toInt = 32 + (f4 lo).toInt := by
      rw [Int32.toInt_add, show (32 : Int32).toInt = 32 from by decide]
      exact Int.bmod_eq_of_le (by omega) (by omega)
    refine ⟨k + 1, by omega, by omega, by rw [hr]; omega, ?_, ?_⟩
    · rw [show k + 1 - 1 = k from rfl]; omega
    · omega
  · rw [if_neg c]
    have hpos : 0 < hi.toBitVec.toNat := Nat.pos_of_ne_zero fun q => c (Int32.toBitVec_inj.mp (BitVec.eq_of_toNat_eq (by rw [q]; rfl)))
    obtain ⟨k, h1, h2, h3, h4⟩ := own_nlz32 hi hpos
    refine ⟨k + 33, by omega, by omega, by rw [h2]; omega, ?_, ?_⟩
    · rw [show k + 33 - 1 = k + 32 from rfl, Nat.pow_add]; omega
    · rw [show k + 33 = (k + 1) + 32 from rfl, Nat.pow_add]; omega
theorem own_thr (B u j : Nat) (hB : 1 ≤ B) (h1 : 2 ^ (B - 1) ≤ u) (h2 : u < 2 ^ B) : u < 2 ^ j ↔ B ≤ j := by
  constructor
  · intro h
    rcases Nat.lt_or_ge j B with q | q
    · have := Nat.pow_le_pow_right (n := 2) (by decide) (show j ≤ B - 1 by omega)
      omega
    · exact q
  · intro h
    have := Nat.pow_le_pow_right (n := 2) (by decide) h
    omega
theorem own_zig (v : Int64) : ((f2 v) ||| 1).toBitVec.toNat = 2 * (if own_cmp v 0 < 0 then v ^^^ (-1) else v).toBitVec.toNat + 1 ∧ (if own_cmp v 0 < 0 then v ^^^ (-1) else v).toBitVec.toNat < 9223372036854775808 := by
  have hv := v.toBitVec.isLt
  have key : ((f2 v) ||| 1).toBitVec = ((v.toBitVec <<< 1) ^^^ (v.toBitVec.sshiftRight 63)) ||| 1#64 := by
    show ((v.toBitVec <<< ((1 : BitVec 64).smod 64)) ^^^ (v.toBitVec.sshiftRight' ((63 : BitVec 64).smod 64))) ||| 1#64 = _
    rfl
  rw [key]
  have hc : (v < 0) ↔ v.toBitVec.msb = true := by
    rw [Int64.lt_iff_toInt_lt, BitVec.msb_eq_toInt]
    simp
  by_cases c : v < 0
  · rw [if_pos ((own_lt v 0).mpr c)]
    have hm := hc.mp c
    have hbig : 9223372036854775808 ≤ v.toBitVec.toNat := by
      rw [BitVec.msb_eq_decide] at hm; simpa using hm
    have e1 : v.toBitVec.sshiftRight 63 = BitVec.allOnes 64 := by
      ext i hi
      rw [BitVec.getElem_sshiftRight, BitVec.getElem_allOnes]
      split
      · have : i = 0 := by omega
        subst this
        rw [BitVec.msb_eq_getLsbD_last] at hm
        simpa using hm
      · exact hm
    have e2 : (v ^^^ (-1)).toBitVec = ~~~ v.toBitVec := by
      show v.toBitVec ^^^ (BitVec.allOnes 64) = _
      exact BitVec.xor_allOnes
    have e3 : ((v.toBitVec <<< 1) ^^^ BitVec.allOnes 64) ||| 1#64 = ~~~ (v.toBitVec <<< 1) := by
      rw [BitVec.xor_allOnes]
      ext i hi
      by_cases q : i = 0
      · subst q; simp
      · simp [q]
    rw [e1, e3, e2, BitVec.toNat_not, BitVec.toNat_not, BitVec.toNat_shiftLeft, Nat.shiftLeft_eq]
    omega
  · rw [if_neg (fun q => c ((own_lt v 0).mp q))]
    have hm : v.toBitVec.msb = false := by
      rcases Bool.eq_false_or_eq_true v.toBitVec.msb with q | q
      · exact absurd (hc.mpr q) c
      · exact q
    have hsm : v.toBitVec.toNat < 9223372036854775808 := by
      rw [BitVec.msb_eq_decide] at hm; simpa using hm
    have e1 : v.toBitVec.sshiftRight 63 = 0#64 := by
      ext i hi
      simp [BitVec.getElem_sshiftRight, hm]
      intro q
      have : i = 0 := by omega
      subst this
      rw [BitVec.msb_eq_getLsbD_last] at hm
      simpa using hm
    have e3 : ((v.toBitVec <<< 1) ^^^ 0#64) ||| 1#64 = v.toBitVec <<< 1 + 1#64 := by
      rw [BitVec.xor_zero, BitVec.add_eq_or_of_and_eq_zero]
      ext i hi
      by_cases q : i = 0
      · subst q; simp
      · simp [q]
    rw [e1, e3, BitVec.toNat_add, BitVec.toNat_shiftLeft, Nat.shiftLeft_eq]
    constructor
    · simp; omega
    · exact hsm
theorem own_five (m : Int64) (B : Nat) (hB : 1 ≤ B) (hB2 : B ≤ 64) (hm : m.toBitVec.toNat < 9223372036854775808) (h1 : 2 ^ (B - 1) ≤ 2 * m.toBitVec.toNat + 1) (h2 : 2 * m.toBitVec.toNat + 1 < 2 ^ B) : (f5 m).toInt = ((B : Int) + 6) / 7 := by
  have hi : m.toInt = (m.toBitVec.toNat : Int) := by
    have h : m.toInt = m.toBitVec.toInt := rfl
    rw [h, BitVec.toInt_eq_toNat_cond, if_pos (by omega)]
  have t1 := own_thr B _ 7 hB h1 h2
  have t2 := own_thr B _ 14 hB h1 h2
  have t3 := own_thr B _ 21 hB h1 h2
  have t4 := own_thr B _ 28 hB h1 h2
  have t5 := own_thr B _ 35 hB h1 h2
  have t6 := own_thr B _ 42 hB h1 h2
  have t7 := own_thr B _ 49 hB h1 h2
  have t8 := own_thr B _ 56 hB h1 h2
  have t9 := own_thr B _ 63 hB h1 h2
  unfold f5
  simp only [own_lt]
  simp only [Int64.lt_iff_toInt_lt]
  have l1 : (64 : Int64).toInt = 64 := by decide
  have l2 : (8192 : Int64).toInt = 8192 := by decide
  have l3 : (1048576 : Int64).toInt = 1048576 := by decide
  have l4 : (134217728 : Int64).toInt = 134217728 := by decide
  have l5 : (17179869184 : Int64).toInt = 17179869184 := by decide
  have l6 : (2199023255552 : Int64).toInt = 2199023255552 := by decide
  have l7 : (281474976710656 : Int64).toInt = 281474976710656 := by decide
  have l8 : (36028797018963968 : Int64).toInt = 36028797018963968 := by decide
  have l9 : (4611686018427387904 : Int64).toInt = 4611686018427387904 := by decide
  repeat' split
  · rw [show (1 : Int32).toInt = 1 from by decide]; omega
  · rw [show (2 : Int32).toInt = 2 from by decide]; omega
  · rw [show (3 : Int32).toInt = 3 from by decide]; omega
  · rw [show (4 : Int32).toInt = 4 from by decide]; omega
  · rw [show (5 : Int32).toInt = 5 from by decide]; omega
  · rw [show (6 : Int32).toInt = 6 from by decide]; omega
  · rw [show (7 : Int32).toInt = 7 from by decide]; omega
  · rw [show (8 : Int32).toInt = 8 from by decide]; omega
  · rw [show (9 : Int32).toInt = 9 from by decide]; omega
  · rw [show (10 : Int32).toInt = 10 from by decide]; omega
theorem plain (q : Int64) (s m : Int32) : f0 q s m = 1 := by
  refine if_pos ?_
  show f1 (f0_u2 q s m) = f5 (if own_cmp (f0_u2 q s m) 0 < 0 then (f0_u2 q s m) ^^^ (-1) else (f0_u2 q s m))
  generalize f0_u2 q s m = v
  obtain ⟨hz, hm⟩ := own_zig v
  obtain ⟨B, b1, b2, b3, b4, b5⟩ := own_nlz64 ((f2 v) ||| 1) (by omega)
  rw [hz] at b4 b5
  have h5 := own_five _ B b1 b2 hm b4 b5
  apply Int32.toInt_inj.mp
  rw [h5]
  unfold f1
  have s1 : ((64 : Int32) - f3 ((f2 v) ||| 1)).toInt = B := by
    rw [Int32.toInt_sub, b3, show (64 : Int32).toInt = 64 from by decide]
    rw [Int.bmod_eq_of_le (by omega) (by omega)]; omega
  have s2 : (((64 : Int32) - f3 ((f2 v) ||| 1)) + 6).toInt = B + 6 := by
    rw [Int32.toInt_add, s1, show (6 : Int32).toInt = 6 from by decide]
    exact Int.bmod_eq_of_le (by omega) (by omega)
  rw [Int32.toInt_div_of_ne_right _ _ (by decide), s2, show (7 : Int32).toInt = 7 from by decide]
  exact Int.tdiv_eq_ediv_of_nonneg (by omega)
set_option maxRecDepth 65536 in
set_option maxHeartbeats 40000000 in
theorem comes_1 {Post : Tables → Env → Array Value → State → Outcome → State → Prop} (hpost : ∀ tb e args s v u, (limb_1_1.after args s (.returned v) u = true ∧ limb_1_2.after args s (.returned v) u = true ∧ True) → FrameEnd s (.returned v) u (Jvm.fieldLocs frame_1_writes args s ++ Jvm.arrayLocs frame_1_arrays args s ++ Jvm.staticLocs frame_1_statics s) 0 0 → Post tb e args s (.returned v) u) :
    ArmFor flags0 classFile x code maxLocals ret World_1 tables_1 room_1 Calls_1 rest_1 Pre_1 Post := by
  intro l hfl _ _ p e ha hc hk s m args below hf hA hF happ hP
  obtain ⟨hcalls, hrest, hpre⟩ := hP
  obtain ⟨-, -, -, hnamed, -, -, -, hat⟩ := (Spec.applies_iff hf).mp happ
  obtain ⟨hg, hn⟩ := and_e (Cond.before_iff.mp (show (Jvm.Cond.and given_1 narrow_1).before args s = true from hpre))
  obtain ⟨gc, g0⟩ := and_e hg
  obtain ⟨gi0, g1⟩ := and_e g0
  obtain ⟨gi1, g2⟩ := and_e g1
  have gi2 := g2
  obtain ⟨w0, w1, w2, rfl⟩ : ∃ w0 w1 w2 : Value, args = #[w0, w1, w2] := by
    have hs : args.size = 3 := by simpa [Cond.value, given_1] using gc
    obtain ⟨L⟩ := args
    match L, hs with
    | [w0, w1, w2], _ => exact ⟨w0, w1, w2, rfl⟩
  have hw := fun d (hd : d ∈ tables_1) => atoms_spec (ws := Jvm.Cond.code x code maxLocals ret :: tables_1) hat d (List.mem_cons_of_mem _ hd)
  have hfit : Fit s := fun {y c} hc i hi => by
    obtain ⟨ha, rfl⟩ := Array.getElem?_eq_some_iff.mp hc
    have q := List.all_eq_true.mp ((Array.all_eq_true_iff_forall_mem.mp hF) _ (Array.getElem_mem ha)) i (List.mem_range.mpr hi)
    simpa [Array.getElem?_eq_getElem hi] using q
  obtain ⟨i0, ei0⟩ := isL_v gi0
  obtain rfl : w0 = (.long i0) := Option.some.inj ei0
  obtain ⟨i1, ei1⟩ := is_v gi1
  obtain rfl : w1 = (.int i1) := Option.some.inj ei1
  obtain ⟨i2, ei2⟩ := is_v gi2
  obtain rfl : w2 = (.int i2) := Option.some.inj ei2
  obtain ⟨n, o, h1, h2, h3, v, L, rfl, ⟨hv, N, -⟩, hq⟩ := rm0 l s _ hw tables_1 i0 i1 i2 s.heap s.heap.size (Nat.le_refl _)  p e ha hc hk s m _ below hf ((Spec.applies_iff_loose hf).mp happ).1 ⟨rfl, State.Warmed39.refl s, rfl⟩ trivial
  rw [plain i0 i1 i2] at hv
  subst hv
  refine ⟨n, _, h1, h2, h3, hpost _ _ _ _ _ _ ⟨Cond.after_iff.mpr rfl, Cond.after_iff.mpr (eq_i res_at (Term.int_eval (1)) rfl), trivial⟩ ⟨hq.1, hq.2.1, (hq.2.2.sift fun y hy => Or.inr (N y hy)).mono (by decide) (by decide)⟩⟩
theorem main_1_1 : Claimed_1_1 := comes_1 fun _ _ _ _ _ _ h hF => ⟨h.1, hF⟩
theorem main_1_2 : Claimed_1_2 := comes_1 fun _ _ _ _ _ _ h hF => ⟨h.2.1, hF⟩
end Jvm.Pilot.@@N@@
namespace Jvm.Pilot.@@N@@
open Jvm Jvm.ClassFile Sem Op Lib Jvm.Free Jvm.Stand Jvm.Pilot.@@N@@.Jvm.D
/-! MADE BY PROGRAM (witnessworld.py) out of the Statement's table words and the real class files: 15 classes; the members and pool entries that the words name. The judged class is class 1, her method 2. -/
namespace start1
open Jvm.ClassFile
def u (s : String) : CpInfo := .utf8 (stringToUtf16 s)
/-- a pool by its gaps: so many unusable entries, then the entry; so many at the end -/
def gap : Nat → List CpInfo → List CpInfo
  | 0, r => r
  | n + 1, r => .unusable :: gap n r
def poolList (es : List (Nat × CpInfo)) (last : Nat) : List CpInfo := es.foldr (fun e r => gap e.1 (e.2 :: r)) (gap last [])
def pool (es : List (Nat × CpInfo)) (last : Nat) : Array CpInfo := ⟨poolList es last⟩
def fileOf (pool : Array CpInfo) (this : Nat) (attrs : Array Attribute := #[]) (ms : Array MethodInfo := #[]) (fl : Nat := 33) (sup : Nat := 0) (ifs : Array Nat := #[]) (fds : Array FieldInfo := #[]) : ClassFile where
  minorVersion := 0
  majorVersion := 65
  constantPool := pool
  accessFlags := fl
  thisClass := this
  superClass := sup
  interfaces := ifs
  fields := fds
  methods := ms
  attributes := attrs
def plain (name : String) (sup : Option ClassId) : Class where
  name := name
  kind := .ordinary
  loader := none
  accessFlags := 33
  super := sup
  interfaces := #[]
  cf := none
  fields := #[]
  methods := #[]
  instanceTypes := #[]
  staticTypes := #[]
  resolved := #[]
  callSites := []
  init := .initialized
  statics := none
  mirror := none

def pool0 : Array CpInfo := pool [(5, u "<init>"), (0, u "()V"), (1, .class_ 10), (1, u "java/lang/Object")] 113

def k0m0 : Method := { name := "<init>", desc := "()V", sig := { parameters := [], returnType := none }, accessFlags := 1, code := none }
/-- java/lang/Object -/
def k0 : Class := { plain "java/lang/Object" none with
  accessFlags := 33
  interfaces := #[]
  cf := some (fileOf pool0 8 #[] #[{ accessFlags := 1, nameIndex := 5, descriptorIndex := 6, attributes := #[] }] 33 0 #[] #[])
  fields := #[]
  methods := #[k0m0]
  instanceTypes := #[]
  staticTypes := #[]
  resolved := Array.replicate 124 none
  statics := none }

def pool1 : Array CpInfo := pool [(2, .class_ 4), (1, u "java/lang/Object"), (0, u "<init>"), (0, u "()V"), (0, .long 64), (1, .long 8192), (1, .long 1048576), (1, .long 134217728), (1, .long 17179869184), (1, .long 2199023255552), (1, .long 281474976710656), (1, .long 36028797018963968), (1, .long 4611686018427387904), (1, .long 2), (1, .long 18446744073709551615), (1, .methodref 30 31), (0, .class_ 32), (0, .nameAndType 33 34), (0, u "com/example/millrace/millrace/log/Varint"), (0, u "sizeOfLong"), (0, u "(J)I"), (0, .methodref 36 37), (0, .class_ 38), (0, .nameAndType 39 34), (0, u "com/example/millrace/millrace/log/VarintSizeOfLongPinLaw"), (0, u "expected"), (3, u "law"), (0, u "(JII)Z")] 2

def k1m0 : Method := { name := "<init>", desc := "()V", sig := { parameters := [], returnType := none }, accessFlags := 2, code := none }
def k1c1 : Code := { maxStack := 4, maxLocals := 2, code := method_2_code, exceptionTable := #[], attributes := #[] }
def k1m1 : Method := { name := "expected", desc := "(J)I", sig := { parameters := [.long], returnType := some .int }, accessFlags := 10, code := some k1c1 }
def k1c2 : Code := { maxStack := 4, maxLocals := 12, code := code, exceptionTable := #[], attributes := #[] }
def k1m2 : Method := { name := "law", desc := "(JII)Z", sig := { parameters := [.long, .int, .int], returnType := some .boolean }, accessFlags := 9, code := some k1c2 }
/-- com/example/millrace/millrace/log/VarintSizeOfLongPinLaw -/
def k1 : Class := { plain "com/example/millrace/millrace/log/VarintSizeOfLongPinLaw" (some 0) with
  accessFlags := 49
  interfaces := #[]
  cf := some (fileOf pool1 36 #[] #[{ accessFlags := 2, nameIndex := 5, descriptorIndex := 6, attributes := #[] }, { accessFlags := 10, nameIndex := 39, descriptorIndex := 34, attributes := #[] }, { accessFlags := 9, nameIndex := 43, descriptorIndex := 44, attributes := #[] }] 49 2 #[] #[])
  fields := #[]
  methods := #[k1m0, k1m1, k1m2]
  instanceTypes := #[]
  staticTypes := #[]
  resolved := Array.replicate 47 none
  statics := none }

def pool2 : Array CpInfo := pool [(2, .class_ 4), (1, u "java/lang/Object"), (0, u "<init>"), (0, u "()V"), (1, .class_ 10), (1, u "com/example/millrace/millrace/log/Varint"), (0, u "sizeOfLong"), (0, u "(J)I"), (0, .class_ 14), (0, u "java/lang/Long"), (0, .methodref 8 16), (0, .nameAndType 17 18), (0, u "zigZag"), (0, u "(J)J"), (0, .methodref 13 20), (0, .nameAndType 21 12), (0, u "numberOfLeadingZeros")] 80

def k2m0 : Method := { name := "<init>", desc := "()V", sig := { parameters := [], returnType := none }, accessFlags := 2, code := none }
def k2c1 : Code := { maxStack := 5, maxLocals := 3, code := prog_23_method_3_code, exceptionTable := #[], attributes := #[] }
def k2m1 : Method := { name := "sizeOfLong", desc := "(J)I", sig := { parameters := [.long], returnType := some .int }, accessFlags := 9, code := some k2c1 }
def k2c2 : Code := { maxStack := 5, maxLocals := 2, code := prog_23_method_8_code, exceptionTable := #[], attributes := #[] }
def k2m2 : Method := { name := "zigZag", desc := "(J)J", sig := { parameters := [.long], returnType := some .long }, accessFlags := 10, code := some k2c2 }
/-- com/example/millrace/millrace/log/Varint -/
def k2 : Class := { plain "com/example/millrace/millrace/log/Varint" (some 0) with
  accessFlags := 33
  interfaces := #[]
  cf := some (fileOf pool2 8 #[] #[{ accessFlags := 2, nameIndex := 5, descriptorIndex := 6, attributes := #[] }, { accessFlags := 9, nameIndex := 11, descriptorIndex := 12, attributes := #[] }, { accessFlags := 10, nameIndex := 17, descriptorIndex := 18, attributes := #[] }] 33 2 #[] #[])
  fields := #[]
  methods := #[k2m0, k2m1, k2m2]
  instanceTypes := #[]
  staticTypes := #[]
  resolved := Array.replicate 102 none
  statics := none }

def pool3 : Array CpInfo := pool [(1, .class_ 2), (0, u "java/io/Serializable"), (0, .class_ 4), (0, u "java/lang/Object")] 2

/-- java/io/Serializable -/
def k3 : Class := { plain "java/io/Serializable" (some 0) with
  accessFlags := 1537
  interfaces := #[]
  cf := some (fileOf pool3 1 #[] #[] 1537 3 #[] #[])
  fields := #[]
  methods := #[]
  instanceTypes := #[]
  staticTypes := #[]
  resolved := Array.replicate 7 none
  statics := none }

def pool4 : Array CpInfo := pool [(2, .class_ 4), (1, u "java/lang/Object"), (0, u "<init>"), (0, u "()V"), (1, .class_ 10), (1, u "java/lang/Number"), (2, .class_ 14), (0, u "java/io/Serializable"), (0, u "serialVersionUID"), (0, u "J")] 20

def k4m0 : Method := { name := "<init>", desc := "()V", sig := { parameters := [], returnType := none }, accessFlags := 1, code := none }
/-- java/lang/Number -/
def k4 : Class := { plain "java/lang/Number" (some 0) with
  accessFlags := 1057
  interfaces := #[3]
  cf := some (fileOf pool4 8 #[] #[{ accessFlags := 1, nameIndex := 5, descriptorIndex := 6, attributes := #[] }] 1057 2 #[13] #[{ accessFlags := 26, nameIndex := 15, descriptorIndex := 16, attributes := #[] }])
  fields := #[{ name := "serialVersionUID", type := .long, accessFlags := 26, slot := 0, constantValue := 0 }]
  methods := #[k4m0]
  instanceTypes := #[]
  staticTypes := #[.long]
  resolved := Array.replicate 37 none
  statics := none }

def pool5 : Array CpInfo := pool [(1, .class_ 2), (0, u "java/lang/Comparable"), (0, .class_ 4), (0, u "java/lang/Object")] 7

/-- java/lang/Comparable -/
def k5 : Class := { plain "java/lang/Comparable" (some 0) with
  accessFlags := 1537
  interfaces := #[]
  cf := some (fileOf pool5 1 #[] #[] 1537 3 #[] #[])
  fields := #[]
  methods := #[]
  instanceTypes := #[]
  staticTypes := #[]
  resolved := Array.replicate 12 none
  statics := none }

def pool6 : Array CpInfo := pool [(1, .class_ 2), (0, u "java/lang/constant/Constable"), (0, .class_ 4), (0, u "java/lang/Object")] 6

/-- java/lang/constant/Constable -/
def k6 : Class := { plain "java/lang/constant/Constable" (some 0) with
  accessFlags := 1537
  interfaces := #[]
  cf := some (fileOf pool6 1 #[] #[] 1537 3 #[] #[])
  fields := #[]
  methods := #[]
  instanceTypes := #[]
  staticTypes := #[]
  resolved := Array.replicate 11 none
  statics := none }

def pool7 : Array CpInfo := pool [(1, .class_ 2), (0, u "java/lang/constant/ConstantDesc"), (0, .class_ 4), (0, u "java/lang/Object")] 32

/-- java/lang/constant/ConstantDesc -/
def k7 : Class := { plain "java/lang/constant/ConstantDesc" (some 0) with
  accessFlags := 1537
  interfaces := #[]
  cf := some (fileOf pool7 1 #[] #[] 1537 3 #[] #[])
  fields := #[]
  methods := #[]
  instanceTypes := #[]
  staticTypes := #[]
  resolved := Array.replicate 37 none
  statics := none }

def pool8 : Array CpInfo := pool [(1, .class_ 2), (0, u "java/lang/Long"), (15, .class_ 20), (1, u "java/lang/Integer"), (79, u "numberOfLeadingZeros"), (0, u "(J)I"), (133, .class_ 237), (1, u "java/lang/Long$LongCache"), (33, .class_ 272), (0, u "java/lang/Number"), (2, u "value"), (0, u "J"), (31, .methodref 18 309), (0, .nameAndType 100 310), (0, u "(I)I"), (50, u "TYPE"), (0, u "Ljava/lang/Class;"), (0, .class_ 364), (0, u "java/lang/Comparable"), (0, .class_ 366), (0, u "java/lang/constant/Constable"), (0, .class_ 368), (0, u "java/lang/constant/ConstantDesc"), (0, u "MIN_VALUE"), (1, u "MAX_VALUE"), (4, u "SIZE"), (0, u "I"), (1, u "BYTES"), (1, u "serialVersionUID")] 142

def k8c0 : Code := { maxStack := 3, maxLocals := 3, code := jdk_35_method_48_code, exceptionTable := #[], attributes := #[] }
def k8m0 : Method := { name := "numberOfLeadingZeros", desc := "(J)I", sig := { parameters := [.long], returnType := some .int }, accessFlags := 9, code := some k8c0 }
/-- java/lang/Long -/
def k8 : Class := { plain "java/lang/Long" (some 4) with
  accessFlags := 49
  interfaces := #[5, 6, 7]
  cf := some (fileOf pool8 1 #[.nestMembers #[235]] #[{ accessFlags := 9, nameIndex := 100, descriptorIndex := 101, attributes := #[] }] 49 271 #[363, 365, 367] #[{ accessFlags := 25, nameIndex := 369, descriptorIndex := 276, attributes := #[] }, { accessFlags := 25, nameIndex := 371, descriptorIndex := 276, attributes := #[] }, { accessFlags := 25, nameIndex := 361, descriptorIndex := 362, attributes := #[] }, { accessFlags := 18, nameIndex := 275, descriptorIndex := 276, attributes := #[] }, { accessFlags := 25, nameIndex := 376, descriptorIndex := 377, attributes := #[] }, { accessFlags := 25, nameIndex := 379, descriptorIndex := 377, attributes := #[] }, { accessFlags := 26, nameIndex := 381, descriptorIndex := 276, attributes := #[] }])
  fields := #[{ name := "MIN_VALUE", type := .long, accessFlags := 25, slot := 0, constantValue := 0 }, { name := "MAX_VALUE", type := .long, accessFlags := 25, slot := 1, constantValue := 0 }, { name := "TYPE", type := (.object "java/lang/Class"), accessFlags := 25, slot := 2, constantValue := 0 }, { name := "value", type := .long, accessFlags := 18, slot := 0, constantValue := 0 }, { name := "SIZE", type := .int, accessFlags := 25, slot := 3, constantValue := 0 }, { name := "BYTES", type := .int, accessFlags := 25, slot := 4, constantValue := 0 }, { name := "serialVersionUID", type := .long, accessFlags := 26, slot := 5, constantValue := 0 }]
  methods := #[k8m0]
  instanceTypes := #[.long]
  staticTypes := #[.long, .long, (.object "java/lang/Class"), .int, .int, .long]
  resolved := Array.replicate 524 none
  statics := none }

def pool9 : Array CpInfo := pool [(1, .class_ 2), (0, u "java/lang/Integer"), (16, u "digits"), (0, u "[C"), (32, u "numberOfLeadingZeros"), (0, u "(I)I"), (30, u "DigitOnes"), (0, u "[B"), (2, u "DigitTens"), (99, .class_ 190), (0, u "java/lang/Integer$IntegerCache"), (3, u "I"), (8, .class_ 204), (0, u "java/lang/Number"), (2, u "value"), (56, .integer 65536), (37, u "TYPE"), (0, u "Ljava/lang/Class;"), (0, .class_ 305), (0, u "java/lang/Comparable"), (0, .class_ 307), (0, u "java/lang/constant/Constable"), (0, .class_ 309), (0, u "java/lang/constant/ConstantDesc"), (0, u "MIN_VALUE"), (1, u "MAX_VALUE"), (3, u "SIZE"), (1, u "BYTES"), (1, u "serialVersionUID"), (0, u "J")] 131

def k9c0 : Code := { maxStack := 3, maxLocals := 2, code := jdk_33_method_47_code, exceptionTable := #[], attributes := #[] }
def k9m0 : Method := { name := "numberOfLeadingZeros", desc := "(I)I", sig := { parameters := [.int], returnType := some .int }, accessFlags := 9, code := some k9c0 }
/-- java/lang/Integer -/
def k9 : Class := { plain "java/lang/Integer" (some 4) with
  accessFlags := 49
  interfaces := #[5, 6, 7]
  cf := some (fileOf pool9 1 #[.nestMembers #[189]] #[{ accessFlags := 9, nameIndex := 53, descriptorIndex := 54, attributes := #[] }] 49 203 #[304, 306, 308] #[{ accessFlags := 25, nameIndex := 310, descriptorIndex := 194, attributes := #[] }, { accessFlags := 25, nameIndex := 312, descriptorIndex := 194, attributes := #[] }, { accessFlags := 25, nameIndex := 302, descriptorIndex := 303, attributes := #[] }, { accessFlags := 24, nameIndex := 19, descriptorIndex := 20, attributes := #[] }, { accessFlags := 24, nameIndex := 89, descriptorIndex := 86, attributes := #[] }, { accessFlags := 24, nameIndex := 85, descriptorIndex := 86, attributes := #[] }, { accessFlags := 18, nameIndex := 207, descriptorIndex := 194, attributes := #[] }, { accessFlags := 25, nameIndex := 316, descriptorIndex := 194, attributes := #[] }, { accessFlags := 25, nameIndex := 318, descriptorIndex := 194, attributes := #[] }, { accessFlags := 26, nameIndex := 320, descriptorIndex := 321, attributes := #[] }])
  fields := #[{ name := "MIN_VALUE", type := .int, accessFlags := 25, slot := 0, constantValue := 0 }, { name := "MAX_VALUE", type := .int, accessFlags := 25, slot := 1, constantValue := 0 }, { name := "TYPE", type := (.object "java/lang/Class"), accessFlags := 25, slot := 2, constantValue := 0 }, { name := "digits", type := (.array .char), accessFlags := 24, slot := 3, constantValue := 0 }, { name := "DigitTens", type := (.array .byte), accessFlags := 24, slot := 4, constantValue := 0 }, { name := "DigitOnes", type := (.array .byte), accessFlags := 24, slot := 5, constantValue := 0 }, { name := "value", type := .int, accessFlags := 18, slot := 0, constantValue := 0 }, { name := "SIZE", type := .int, accessFlags := 25, slot := 6, constantValue := 0 }, { name := "BYTES", type := .int, accessFlags := 25, slot := 7, constantValue := 0 }, { name := "serialVersionUID", type := .long, accessFlags := 26, slot := 8, constantValue := 0 }]
  methods := #[k9m0]
  instanceTypes := #[.int]
  staticTypes := #[.int, .int, (.object "java/lang/Class"), (.array .char), (.array .byte), (.array .byte), .int, .int, .long]
  resolved := Array.replicate 453 none
  statics := none }

def pool10 : Array CpInfo := pool [(1, u "java/lang/Cloneable"), (0, .class_ 1), (0, u "java/lang/Object"), (0, .class_ 3)] 3

/-- java/lang/Cloneable -/
def k10 : Class := { plain "java/lang/Cloneable" (some 0) with
  accessFlags := 1537
  interfaces := #[]
  cf := some (fileOf pool10 2 #[] #[] 1537 4 #[] #[])
  fields := #[]
  methods := #[]
  instanceTypes := #[]
  staticTypes := #[]
  resolved := Array.replicate 8 none
  statics := none }

/-- the primitive byte -/
def k11 : Class := { plain "byte" none with kind := .primitive 'B', accessFlags := 0x411 }
/-- [B -/
def k12 : Class := { plain "[B" (some 0) with kind := .array 11 .byte, interfaces := #[10, 3], accessFlags := 1041 }

/-- the primitive int -/
def k13 : Class := { plain "int" none with kind := .primitive 'I', accessFlags := 0x411 }
/-- [I -/
def k14 : Class := { plain "[I" (some 0) with kind := .array 13 .int, interfaces := #[10, 3], accessFlags := 1041 }

def heap : Heap := #[]
def classes : Array Class := #[k0, k1, k2, k3, k4, k5, k6, k7, k8, k9, k10, k11, k12, k13, k14]
def interned : List (Array UInt16 × Addr) := []
def slotsUsed : Nat := 0
def theMethod : MethodId := ⟨1, 2⟩
def args0 : Array Value := #[.long 5, .int 6, .int 7]
def aboutOver (below : List Frame) : State where
  vm := { classes := classes, interned := interned.toArray }
  heap := heap
  slotsUsed := slotsUsed
  threads := #[{ frames := .invoking theMethod args0 :: below }]
def below0 : List Frame := [.native { method := ⟨0, 0⟩, args := #[] }]
def about1 : State := aboutOver below0
def p0 : Program := .bare "" "" ""
def e0 : Env := launch0.env 0 0 0
theorem w_frames : about1.frames = Frame.invoking theMethod args0 :: below0 := rfl
set_option maxRecDepth 65536 in
theorem w_args : argsFit about1.vm theMethod args0 = true := by decide +kernel
set_option maxRecDepth 65536 in
theorem w_heap : heapFits about1 = true := by decide +kernel
set_option maxRecDepth 65536 in
theorem w_runnable : about1.curStatus? = some .runnable := by decide +kernel
set_option maxRecDepth 65536 in
theorem w_alone : about1.alone = true := by decide +kernel
set_option maxRecDepth 65536 in
theorem w_named : about1.methodNamed? x = some theMethod := by decide +kernel
set_option maxRecDepth 65536 in
theorem w_hears : about1.hears theMethod below0 = true := by decide +kernel
set_option maxRecDepth 65536 in
theorem w_ripe : about1.ripe theMethod args0 below0 = true := by decide +kernel
theorem w_running : about1.status = .running := rfl
set_option maxRecDepth 65536 in
theorem w_room : about1.hasRoom e0.platform room_1 = true :=
  launch0.hasRoom_least _ room_1 (by decide +kernel) (by decide +kernel) (by decide +kernel) (by decide +kernel) (by decide +kernel) (by decide +kernel)
theorem allAtoms_all (ts : List Jvm.Cond) (a : Array Jvm.Value) (st : Jvm.State) : (allAtoms ts).before a st = ts.all (fun c => c.before a st) := by
  induction ts with
  | nil => rfl
  | cons c t ih =>
    show (Jvm.Cond.and c (allAtoms t)).before a st = _
    rw [Jvm.Cond.before_and, ih, List.all_cons]
def words1 : List Jvm.Cond := Jvm.Cond.code x code maxLocals ret :: tables_1
/-- a 'code' word, met by the world's own term for the bytes: nothing is compared byte by byte -/
theorem code_word {y : MethodName} {bytes : ByteArray} {mx : Nat} {rt : Option FieldType} {a : Array Value} {s : State} {m : MethodId} {meth : Method} {c : Code} (h1 : s.methodNamed? y = some m) (h2 : s.vm.method? m = some meth) (h3 : meth.code = some c) (h4 : c.code = bytes)
    (h5 : (c.maxLocals == mx && c.exceptionTable.isEmpty && decide (c.maxStack ≤ mostOperands) && decide (meth.sig.returnType = rt) && !meth.locks && decide (parseMethodDescriptor y.desc = some meth.sig)) = true) : (Jvm.Cond.code y bytes mx rt).before a s = true := by
  simp only [Bool.and_eq_true, beq_iff_eq, Bool.not_eq_true', decide_eq_true_eq] at h5
  obtain ⟨⟨⟨⟨⟨g1, g2⟩, g3⟩, g4⟩, g5⟩, g6⟩ := h5
  simp [Cond.before, Cond.holds, Cond.value, h1, h2, h3, h4, g1, g2, g3, g4, g5, g6]
def isCode : Jvm.Cond → Bool
  | .code _ _ _ _ => true
  | _ => false
theorem all_split {L : List Jvm.Cond} {P : Jvm.Cond → Bool} (h1 : L.all (fun c => isCode c || P c) = true) (h2 : ∀ c ∈ L.filter isCode, P c = true) : L.all P = true := by
  refine List.all_eq_true.mpr fun c hc => ?_
  have h := List.all_eq_true.mp h1 c hc
  rcases Bool.eq_false_or_eq_true (isCode c) with hi | hi
  · exact h2 c (List.mem_filter.mpr ⟨hc, hi⟩)
  · simpa [hi] using h
set_option maxRecDepth 65536 in
theorem w_c0 : (Jvm.Cond.code x code maxLocals ret).before args0 about1 = true := code_word (m := ⟨1, 2⟩) (meth := k1m2) (c := k1c2) (by decide +kernel) rfl rfl rfl (by decide +kernel)
set_option maxRecDepth 65536 in
theorem w_c1 : (Jvm.Cond.code ({ cls := "com/example/millrace/millrace/log/Varint", name := "sizeOfLong", desc := "(J)I" } : Jvm.MethodName) prog_23_method_3_code (3 : Nat) (Option.some Jvm.ClassFile.FieldType.int)).before args0 about1 = true := code_word (m := ⟨2, 1⟩) (meth := k2m1) (c := k2c1) (by decide +kernel) rfl rfl rfl (by decide +kernel)
set_option maxRecDepth 65536 in
theorem w_c2 : (Jvm.Cond.code ({ cls := "com/example/millrace/millrace/log/Varint", name := "zigZag", desc := "(J)J" } : Jvm.MethodName) prog_23_method_8_code (2 : Nat) (Option.some Jvm.ClassFile.FieldType.long)).before args0 about1 = true := code_word (m := ⟨2, 2⟩) (meth := k2m2) (c := k2c2) (by decide +kernel) rfl rfl rfl (by decide +kernel)
set_option maxRecDepth 65536 in
theorem w_c3 : (Jvm.Cond.code ({ cls := "java/lang/Long", name := "numberOfLeadingZeros", desc := "(J)I" } : Jvm.MethodName) jdk_35_method_48_code (3 : Nat) (Option.some Jvm.ClassFile.FieldType.int)).before args0 about1 = true := code_word (m := ⟨8, 0⟩) (meth := k8m0) (c := k8c0) (by decide +kernel) rfl rfl rfl (by decide +kernel)
set_option maxRecDepth 65536 in
theorem w_c4 : (Jvm.Cond.code ({ cls := "java/lang/Integer", name := "numberOfLeadingZeros", desc := "(I)I" } : Jvm.MethodName) jdk_33_method_47_code (2 : Nat) (Option.some Jvm.ClassFile.FieldType.int)).before args0 about1 = true := code_word (m := ⟨9, 0⟩) (meth := k9m0) (c := k9c0) (by decide +kernel) rfl rfl rfl (by decide +kernel)
set_option maxRecDepth 65536 in
theorem w_c5 : (Jvm.Cond.code ({ cls := "com/example/millrace/millrace/log/VarintSizeOfLongPinLaw", name := "expected", desc := "(J)I" } : Jvm.MethodName) method_2_code (2 : Nat) (Option.some Jvm.ClassFile.FieldType.int)).before args0 about1 = true := code_word (m := ⟨1, 1⟩) (meth := k1m1) (c := k1c1) (by decide +kernel) rfl rfl rfl (by decide +kernel)
def codes1 : List Jvm.Cond := [Jvm.Cond.code x code maxLocals ret, Jvm.Cond.code ({ cls := "com/example/millrace/millrace/log/Varint", name := "sizeOfLong", desc := "(J)I" } : Jvm.MethodName) prog_23_method_3_code (3 : Nat) (Option.some Jvm.ClassFile.FieldType.int), Jvm.Cond.code ({ cls := "com/example/millrace/millrace/log/Varint", name := "zigZag", desc := "(J)J" } : Jvm.MethodName) prog_23_method_8_code (2 : Nat) (Option.some Jvm.ClassFile.FieldType.long), Jvm.Cond.code ({ cls := "java/lang/Long", name := "numberOfLeadingZeros", desc := "(J)I" } : Jvm.MethodName) jdk_35_method_48_code (3 : Nat) (Option.some Jvm.ClassFile.FieldType.int), Jvm.Cond.code ({ cls := "java/lang/Integer", name := "numberOfLeadingZeros", desc := "(I)I" } : Jvm.MethodName) jdk_33_method_47_code (2 : Nat) (Option.some Jvm.ClassFile.FieldType.int), Jvm.Cond.code ({ cls := "com/example/millrace/millrace/log/VarintSizeOfLongPinLaw", name := "expected", desc := "(J)I" } : Jvm.MethodName) method_2_code (2 : Nat) (Option.some Jvm.ClassFile.FieldType.int)]
set_option maxRecDepth 65536 in
theorem codes_eq : words1.filter isCode = codes1 := rfl
theorem w_codes : ∀ c ∈ words1.filter isCode, c.before args0 about1 = true := by
  rw [codes_eq]
  intro c hc
  simp only [codes1, List.mem_cons, List.not_mem_nil, or_false] at hc
  rcases hc with rfl | rfl | rfl | rfl | rfl | rfl
  · exact w_c0
  · exact w_c1
  · exact w_c2
  · exact w_c3
  · exact w_c4
  · exact w_c5
set_option maxRecDepth 65536 in
theorem w_t1 : (words1.take 24).all (fun c => isCode c || c.before args0 about1) = true := by decide +kernel
set_option maxRecDepth 65536 in
theorem w_t2 : (words1.drop 24).all (fun c => isCode c || c.before args0 about1) = true := by decide +kernel
theorem w_tables : (allAtoms (Jvm.Cond.code x code maxLocals ret :: tables_1)).before args0 about1 = true := by
  rw [allAtoms_all]
  show words1.all (fun c => c.before args0 about1) = true
  refine all_split ?_ w_codes
  rw [← List.take_append_drop 24 words1, List.all_append, w_t1, w_t2]
  rfl
set_option maxRecDepth 65536 in
theorem w_case : (Jvm.Cond.and given_1 narrow_1).before args0 about1 = true := by decide +kernel
theorem w_applies : (headSpec (Jvm.Cond.code x code maxLocals ret :: tables_1) room_1).applies x e0.platform about1 = true :=
  (Spec.applies_iff w_frames).mpr ⟨w_running, w_runnable, w_alone, w_named, w_hears, w_ripe, w_room, w_tables⟩
theorem atStart : AtStart classFile x code maxLocals ret World_1 tables_1 room_1 Calls_1 rest_1 Pre_1 launch0 p0 e0 about1 theMethod args0 below0 :=
  ⟨lists_1, trivial, launch0.admits_env _ _ _, launch0.least_env, fairChoices_fair.cas, fairChoices_fair.clock, w_frames, w_args, w_heap, w_applies, trivial, trivial, w_case⟩
end start1
theorem witness_1 : WitnessClaimed_1 := ⟨start1.p0, start1.e0, start1.about1, start1.theMethod, start1.args0, start1.below0, start1.atStart⟩
end Jvm.Pilot.@@N@@
