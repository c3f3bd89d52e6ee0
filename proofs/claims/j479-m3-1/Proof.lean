import JvmDerived
import JvmDerived.Pilot.@@N@@Statement
import JvmDerived.Pilot.@@N@@Code
set_option linter.unusedVariables false
set_option linter.unusedSimpArgs false
namespace Jvm.RoadKit
open Sem ClassFile Op Lib Jvm.Stand Jvm.Free Jvm.LawKit
section New
variable {p : Program} {l : Launch} {e : Env} {R : Room} {s : State} {m : MethodId} {args : Array Value} {below : List Frame} {meth : Method} {c : Code} {T : State} {locs : List Loc} {cells slots : Nat}
theorem retI (X : Stand p l e R s m args below meth c T locs cells slots) (hx : p.tables.exec = Jvm.exec) {pc : Nat} {Ls : Array Slot} {z : Int32} {rest : List Value} (hret : meth.sig.returnType = some .int) (hd : decode c.code pc = .ok (.ireturn, 1)) {fs : List Frame}
    (hl : ∀ (f : JFrame) (acts : List Action), f.method = m → f.locked = none → f.entered = [] → (doReturn e (T.setTop f) acts (some (.int z))).1 = T.setFrames fs) : Steps p.tables e below (T.setTop (mkF m pc Ls (.int z :: rest))) (T.setFrames fs) := by
  have hm' : T.vm.method? m = some meth := X.method'
  have hn : narrow .int (.int z) = .int z := rfl
  show Steps p.tables e below (T.setTop { method := m, pc := pc, locals := Ls, stack := _ :: rest, locked := none }) _
  jvm_step X.here [X.here.top, hx, hd, hm', hret, hn]
  first | (intro acts; rw [hl _ acts rfl rfl rfl]) | rw [hl _ _ rfl rfl rfl]
  exact Steps.refl _
end New
end Jvm.RoadKit
namespace Jvm.Pilot.@@N@@
open Jvm Jvm.ClassFile Sem Op Lib Jvm.Free Jvm.Stand Jvm.LawKit Jvm.RoadKit Bundle Jvm.Pilot.@@N@@.Jvm.D
-- body 1: com/example/kirjatieto/kirjatieto/xml/Utf8Bytes.secondLeast(I)I
theorem d1_0 : decode prog_83_method_3_code 0 = .ok (.iload_n 0, 1) := by decide +kernel
theorem d1_1 : decode prog_83_method_3_code 1 = .ok (.sipush 224, 3) := by decide +kernel
theorem d1_4 : decode prog_83_method_3_code 4 = .ok (.if_icmp .ne 9, 3) := by decide +kernel
theorem d1_7 : decode prog_83_method_3_code 7 = .ok (.sipush 160, 3) := by decide +kernel
theorem d1_10 : decode prog_83_method_3_code 10 = .ok (.goto 19, 3) := by decide +kernel
theorem d1_13 : decode prog_83_method_3_code 13 = .ok (.iload_n 0, 1) := by decide +kernel
theorem d1_14 : decode prog_83_method_3_code 14 = .ok (.sipush 240, 3) := by decide +kernel
theorem d1_17 : decode prog_83_method_3_code 17 = .ok (.if_icmp .ne 9, 3) := by decide +kernel
theorem d1_20 : decode prog_83_method_3_code 20 = .ok (.sipush 144, 3) := by decide +kernel
theorem d1_23 : decode prog_83_method_3_code 23 = .ok (.goto 6, 3) := by decide +kernel
theorem d1_26 : decode prog_83_method_3_code 26 = .ok (.sipush 128, 3) := by decide +kernel
theorem d1_29 : decode prog_83_method_3_code 29 = .ok (.ireturn, 1) := by decide +kernel
theorem pn_1 : plainName "com/example/kirjatieto/kirjatieto/xml/Utf8Bytes" = true := by first | (simp [plainName, overriddenIn]; done) | decide +kernel
theorem ef_1 (m : MethodId) (p1 : Int32) : entryFrame m #[(.int p1)] 1 = mkF m 0 #[.val (.int p1)] [] := by first | (simp [entryFrame, mkF, argsToLocals, Value.category]; done) | rfl
def f1 (p1 : Int32) : Int32 := (if p1 = (224 : Int32) then (160 : Int32) else (if p1 = (240 : Int32) then (144 : Int32) else (128 : Int32)))
def Q1 (Z : State) (p1 : Int32) (h0 : Heap) (n0 : Nat) (v : Option Value) (h : Heap) (L : List Loc) : Prop := v = some (.int (f1 p1)) ∧ Fr n0 L ∧ h = h0
set_option maxRecDepth 65536 in
set_option maxHeartbeats 40000000 in
theorem rm1 (l : Launch) (Z : State) (a0 : Array Value) (hw : ∀ d ∈ tables_1, d.before a0 Z = true) (ws : List Jvm.Cond) (p1 : Int32) (h0 : Heap) (n0 : Nat) (Z0 : n0 ≤ h0.size) :
    MetFree l (⟨"com/example/kirjatieto/kirjatieto/xml/Utf8Bytes", "secondLeast", "(I)I"⟩ : MethodName) (head1 (Jvm.Cond.code (⟨"com/example/kirjatieto/kirjatieto/xml/Utf8Bytes", "secondLeast", "(I)I"⟩ : MethodName) prog_83_method_3_code 1 (some .int) :: ws) ({ frames := 0, cells := 0, slots := 0, locals := 0 } : Room)) (fun a U => a = #[(.int p1)] ∧ Z.Warmed39 U.vm ∧ U.heap = h0) (fun _ _ _ _ _ => True) (fun _ U o U' => ∃ v L, o = .returned v ∧ Q1 Z p1 h0 n0 v U'.heap L ∧ FrameEnd U o U' L ({ frames := 0, cells := 0, slots := 0, locals := 0 } : Room).cells ({ frames := 0, cells := 0, slots := 0, locals := 0 } : Room).slots) := by
  refine MetFree.of_bodySF (plainFor_of_name pn_1) hisR ?_
  intro p e s m args below meth c s₁ Bd hml0 hP hK
  obtain ⟨rfl, hZ, hh⟩ := hP
  have hx := Bd.exec
  have hby := Bd.bytes
  have hml : c.maxLocals = 1 := hml0
  have hown : s.vm.findClass "com/example/kirjatieto/kirjatieto/xml/Utf8Bytes" = some m.cls := findClass_of_methodNamed Bd.named
  have hnm := (name_of_methodNamed Bd.named Bd.method).1
  have X0 : Stand p l e ({ frames := 0, cells := 0, slots := 0, locals := 0 } : Room) s m #[(.int p1)] below meth c s₁ [] 0 0 := Stand.of_body Bd
  have e0 : s₁.heap = h0 := by rw [← hh, Bd.state]; rfl
  have N0 := Fr.nil n0
  have pre0 : ∀ t, Steps p.tables e below (s₁.setTop (mkF m 0 #[.val (.int p1)] [])) t → Steps p.tables e below (s₁.setTop (entryFrame m #[(.int p1)] 1)) t := fun t k => castTop (ef_1 m p1) k
  have K1 : ∀ t, Steps p.tables e below (s₁.setTop (mkF m 4 #[.val (.int p1)] [(.int (224 : Int32)), (.int p1)])) t → Steps p.tables e below (s₁.setTop (mkF m 0 #[.val (.int p1)] [])) t := by
    intro t k
    refine XS.iloadN X0.here hx rfl (hb hby d1_0) rfl ?_
    show Steps p.tables e below (s₁.setTop (mkF m 1 #[.val (.int p1)] [(.int p1)])) t
    refine XS.sipush X0.here hx rfl (hb hby d1_1) ?_
    show Steps p.tables e below (s₁.setTop (mkF m 4 #[.val (.int p1)] [(.int (224 : Int32)), (.int p1)])) t
    exact k
  by_cases hc2 : p1 = (224 : Int32)
  · have K3 : ∀ t, Steps p.tables e below (s₁.setTop (mkF m 7 #[.val (.int p1)] [])) t → Steps p.tables e below (s₁.setTop (mkF m 4 #[.val (.int p1)] [(.int (224 : Int32)), (.int p1)])) t := by
      intro t k
      refine XS.icmpNo X0.here hx rfl (hb hby d1_4) rfl (teq hc2).2 ?_
      exact k
    have K4 : ∀ t, Steps p.tables e below (s₁.setTop (mkF m 29 #[.val (.int p1)] [(.int (160 : Int32))])) t → Steps p.tables e below (s₁.setTop (mkF m 7 #[.val (.int p1)] [])) t := by
      intro t k
      refine XS.sipush X0.here hx rfl (hb hby d1_7) ?_
      show Steps p.tables e below (s₁.setTop (mkF m 10 #[.val (.int p1)] [(.int (160 : Int32))])) t
      refine XS.goto X0.here hx rfl (pc0 := 10) (pc' := 29) rfl (hb hby d1_10) (by decide) (by decide) ?_
      show Steps p.tables e below (s₁.setTop (mkF m 29 #[.val (.int p1)] [(.int (160 : Int32))])) t
      exact k
    obtain ⟨fs, hr, hrun, hended, hW, hsame⟩ := X0.leave (v := some (.int (160 : Int32))) (fun h => by rw [Bd.returns] at h; cases h)
    refine ⟨_, _, pre0 _ (K1 _ (K3 _ (K4 _ (retI X0 hx Bd.returns (hb hby d1_29) hr)))), hrun, hended, _, _, rfl, ?_, ⟨_, rfl⟩, hW, hsame.mono (by decide) (by decide)⟩
    show Q1 Z p1 h0 n0 _ s₁.heap _
    rw [e0]
    exact ⟨congrArg (fun z => some (Value.int z)) (show (160 : Int32) = f1 p1 from Eq.symm (if_pos hc2)), N0, rfl⟩
  · have K5 : ∀ t, Steps p.tables e below (s₁.setTop (mkF m 13 #[.val (.int p1)] [])) t → Steps p.tables e below (s₁.setTop (mkF m 4 #[.val (.int p1)] [(.int (224 : Int32)), (.int p1)])) t := by
      intro t k
      refine XS.icmpYes X0.here hx rfl (pc0 := 4) (pc' := 13) rfl (hb hby d1_4) rfl (feq hc2).2 (by decide) (by decide) ?_
      exact k
    have K6 : ∀ t, Steps p.tables e below (s₁.setTop (mkF m 17 #[.val (.int p1)] [(.int (240 : Int32)), (.int p1)])) t → Steps p.tables e below (s₁.setTop (mkF m 13 #[.val (.int p1)] [])) t := by
      intro t k
      refine XS.iloadN X0.here hx rfl (hb hby d1_13) rfl ?_
      show Steps p.tables e below (s₁.setTop (mkF m 14 #[.val (.int p1)] [(.int p1)])) t
      refine XS.sipush X0.here hx rfl (hb hby d1_14) ?_
      show Steps p.tables e below (s₁.setTop (mkF m 17 #[.val (.int p1)] [(.int (240 : Int32)), (.int p1)])) t
      exact k
    by_cases hc7 : p1 = (240 : Int32)
    · have K8 : ∀ t, Steps p.tables e below (s₁.setTop (mkF m 20 #[.val (.int p1)] [])) t → Steps p.tables e below (s₁.setTop (mkF m 17 #[.val (.int p1)] [(.int (240 : Int32)), (.int p1)])) t := by
        intro t k
        refine XS.icmpNo X0.here hx rfl (hb hby d1_17) rfl (teq hc7).2 ?_
        exact k
      have K9 : ∀ t, Steps p.tables e below (s₁.setTop (mkF m 29 #[.val (.int p1)] [(.int (144 : Int32))])) t → Steps p.tables e below (s₁.setTop (mkF m 20 #[.val (.int p1)] [])) t := by
        intro t k
        refine XS.sipush X0.here hx rfl (hb hby d1_20) ?_
        show Steps p.tables e below (s₁.setTop (mkF m 23 #[.val (.int p1)] [(.int (144 : Int32))])) t
        refine XS.goto X0.here hx rfl (pc0 := 23) (pc' := 29) rfl (hb hby d1_23) (by decide) (by decide) ?_
        show Steps p.tables e below (s₁.setTop (mkF m 29 #[.val (.int p1)] [(.int (144 : Int32))])) t
        exact k
      obtain ⟨fs, hr, hrun, hended, hW, hsame⟩ := X0.leave (v := some (.int (144 : Int32))) (fun h => by rw [Bd.returns] at h; cases h)
      refine ⟨_, _, pre0 _ (K1 _ (K5 _ (K6 _ (K8 _ (K9 _ (retI X0 hx Bd.returns (hb hby d1_29) hr)))))), hrun, hended, _, _, rfl, ?_, ⟨_, rfl⟩, hW, hsame.mono (by decide) (by decide)⟩
      show Q1 Z p1 h0 n0 _ s₁.heap _
      rw [e0]
      exact ⟨congrArg (fun z => some (Value.int z)) (show (144 : Int32) = f1 p1 from Eq.symm ((if_neg hc2).trans (if_pos hc7))), N0, rfl⟩
    · have K10 : ∀ t, Steps p.tables e below (s₁.setTop (mkF m 26 #[.val (.int p1)] [])) t → Steps p.tables e below (s₁.setTop (mkF m 17 #[.val (.int p1)] [(.int (240 : Int32)), (.int p1)])) t := by
        intro t k
        refine XS.icmpYes X0.here hx rfl (pc0 := 17) (pc' := 26) rfl (hb hby d1_17) rfl (feq hc7).2 (by decide) (by decide) ?_
        exact k
      have K11 : ∀ t, Steps p.tables e below (s₁.setTop (mkF m 29 #[.val (.int p1)] [(.int (128 : Int32))])) t → Steps p.tables e below (s₁.setTop (mkF m 26 #[.val (.int p1)] [])) t := by
        intro t k
        refine XS.sipush X0.here hx rfl (hb hby d1_26) ?_
        show Steps p.tables e below (s₁.setTop (mkF m 29 #[.val (.int p1)] [(.int (128 : Int32))])) t
        exact k
      obtain ⟨fs, hr, hrun, hended, hW, hsame⟩ := X0.leave (v := some (.int (128 : Int32))) (fun h => by rw [Bd.returns] at h; cases h)
      refine ⟨_, _, pre0 _ (K1 _ (K5 _ (K6 _ (K10 _ (K11 _ (retI X0 hx Bd.returns (hb hby d1_29) hr)))))), hrun, hended, _, _, rfl, ?_, ⟨_, rfl⟩, hW, hsame.mono (by decide) (by decide)⟩
      show Q1 Z p1 h0 n0 _ s₁.heap _
      rw [e0]
      exact ⟨congrArg (fun z => some (Value.int z)) (show (128 : Int32) = f1 p1 from Eq.symm ((if_neg hc2).trans (if_neg hc7))), N0, rfl⟩
-- body 2: com/example/kirjatieto/kirjatieto/xml/Utf8BytesSecondLeastPinLaw.decodeLeast(II)I
theorem d2_0 : decode method_2_code 0 = .ok (.iload_n 0, 1) := by decide +kernel
theorem d2_1 : decode method_2_code 1 = .ok (.sipush 224, 3) := by decide +kernel
theorem d2_4 : decode method_2_code 4 = .ok (.if_icmp .ge 16, 3) := by decide +kernel
theorem d2_7 : decode method_2_code 7 = .ok (.iload_n 0, 1) := by decide +kernel
theorem d2_8 : decode method_2_code 8 = .ok (.bipush 31, 2) := by decide +kernel
theorem d2_10 : decode method_2_code 10 = .ok (.iand, 1) := by decide +kernel
theorem d2_11 : decode method_2_code 11 = .ok (.bipush 6, 2) := by decide +kernel
theorem d2_13 : decode method_2_code 13 = .ok (.ishl, 1) := by decide +kernel
theorem d2_14 : decode method_2_code 14 = .ok (.iload_n 1, 1) := by decide +kernel
theorem d2_15 : decode method_2_code 15 = .ok (.bipush 63, 2) := by decide +kernel
theorem d2_17 : decode method_2_code 17 = .ok (.iand, 1) := by decide +kernel
theorem d2_18 : decode method_2_code 18 = .ok (.ior, 1) := by decide +kernel
theorem d2_19 : decode method_2_code 19 = .ok (.ireturn, 1) := by decide +kernel
theorem d2_20 : decode method_2_code 20 = .ok (.iload_n 0, 1) := by decide +kernel
theorem d2_21 : decode method_2_code 21 = .ok (.sipush 240, 3) := by decide +kernel
theorem d2_24 : decode method_2_code 24 = .ok (.if_icmp .ge 19, 3) := by decide +kernel
theorem d2_27 : decode method_2_code 27 = .ok (.iload_n 0, 1) := by decide +kernel
theorem d2_28 : decode method_2_code 28 = .ok (.bipush 15, 2) := by decide +kernel
theorem d2_30 : decode method_2_code 30 = .ok (.iand, 1) := by decide +kernel
theorem d2_31 : decode method_2_code 31 = .ok (.bipush 12, 2) := by decide +kernel
theorem d2_33 : decode method_2_code 33 = .ok (.ishl, 1) := by decide +kernel
theorem d2_34 : decode method_2_code 34 = .ok (.iload_n 1, 1) := by decide +kernel
theorem d2_35 : decode method_2_code 35 = .ok (.bipush 63, 2) := by decide +kernel
theorem d2_37 : decode method_2_code 37 = .ok (.iand, 1) := by decide +kernel
theorem d2_38 : decode method_2_code 38 = .ok (.bipush 6, 2) := by decide +kernel
theorem d2_40 : decode method_2_code 40 = .ok (.ishl, 1) := by decide +kernel
theorem d2_41 : decode method_2_code 41 = .ok (.ior, 1) := by decide +kernel
theorem d2_42 : decode method_2_code 42 = .ok (.ireturn, 1) := by decide +kernel
theorem d2_43 : decode method_2_code 43 = .ok (.iload_n 0, 1) := by decide +kernel
theorem d2_44 : decode method_2_code 44 = .ok (.bipush 7, 2) := by decide +kernel
theorem d2_46 : decode method_2_code 46 = .ok (.iand, 1) := by decide +kernel
theorem d2_47 : decode method_2_code 47 = .ok (.bipush 18, 2) := by decide +kernel
theorem d2_49 : decode method_2_code 49 = .ok (.ishl, 1) := by decide +kernel
theorem d2_50 : decode method_2_code 50 = .ok (.iload_n 1, 1) := by decide +kernel
theorem d2_51 : decode method_2_code 51 = .ok (.bipush 63, 2) := by decide +kernel
theorem d2_53 : decode method_2_code 53 = .ok (.iand, 1) := by decide +kernel
theorem d2_54 : decode method_2_code 54 = .ok (.bipush 12, 2) := by decide +kernel
theorem d2_56 : decode method_2_code 56 = .ok (.ishl, 1) := by decide +kernel
theorem d2_57 : decode method_2_code 57 = .ok (.ior, 1) := by decide +kernel
theorem d2_58 : decode method_2_code 58 = .ok (.ireturn, 1) := by decide +kernel
theorem pn_2 : plainName "com/example/kirjatieto/kirjatieto/xml/Utf8BytesSecondLeastPinLaw" = true := by first | (simp [plainName, overriddenIn]; done) | decide +kernel
theorem ef_2 (m : MethodId) (p1 : Int32) (p2 : Int32) : entryFrame m #[(.int p1), (.int p2)] 2 = mkF m 0 #[.val (.int p1), .val (.int p2)] [] := by first | (simp [entryFrame, mkF, argsToLocals, Value.category]; done) | rfl
def f2 (p1 : Int32) (p2 : Int32) : Int32 := (if p1 < (224 : Int32) then (((p1 &&& (31 : Int32)) <<< ((6 : Int32) &&& 31)) ||| (p2 &&& (63 : Int32))) else (if p1 < (240 : Int32) then (((p1 &&& (15 : Int32)) <<< ((12 : Int32) &&& 31)) ||| ((p2 &&& (63 : Int32)) <<< ((6 : Int32) &&& 31))) else (((p1 &&& (7 : Int32)) <<< ((18 : Int32) &&& 31)) ||| ((p2 &&& (63 : Int32)) <<< ((12 : Int32) &&& 31)))))
def Q2 (Z : State) (p1 : Int32) (p2 : Int32) (h0 : Heap) (n0 : Nat) (v : Option Value) (h : Heap) (L : List Loc) : Prop := v = some (.int (f2 p1 p2)) ∧ Fr n0 L ∧ h = h0
set_option maxRecDepth 65536 in
set_option maxHeartbeats 40000000 in
theorem rm2 (l : Launch) (Z : State) (a0 : Array Value) (hw : ∀ d ∈ tables_1, d.before a0 Z = true) (ws : List Jvm.Cond) (p1 : Int32) (p2 : Int32) (h0 : Heap) (n0 : Nat) (Z0 : n0 ≤ h0.size) :
    MetFree l (⟨"com/example/kirjatieto/kirjatieto/xml/Utf8BytesSecondLeastPinLaw", "decodeLeast", "(II)I"⟩ : MethodName) (head1 (Jvm.Cond.code (⟨"com/example/kirjatieto/kirjatieto/xml/Utf8BytesSecondLeastPinLaw", "decodeLeast", "(II)I"⟩ : MethodName) method_2_code 2 (some .int) :: ws) ({ frames := 0, cells := 0, slots := 0, locals := 0 } : Room)) (fun a U => a = #[(.int p1), (.int p2)] ∧ Z.Warmed39 U.vm ∧ U.heap = h0) (fun _ _ _ _ _ => True) (fun _ U o U' => ∃ v L, o = .returned v ∧ Q2 Z p1 p2 h0 n0 v U'.heap L ∧ FrameEnd U o U' L ({ frames := 0, cells := 0, slots := 0, locals := 0 } : Room).cells ({ frames := 0, cells := 0, slots := 0, locals := 0 } : Room).slots) := by
  refine MetFree.of_bodySF (plainFor_of_name pn_2) hisR ?_
  intro p e s m args below meth c s₁ Bd hml0 hP hK
  obtain ⟨rfl, hZ, hh⟩ := hP
  have hx := Bd.exec
  have hby := Bd.bytes
  have hml : c.maxLocals = 2 := hml0
  have hown : s.vm.findClass "com/example/kirjatieto/kirjatieto/xml/Utf8BytesSecondLeastPinLaw" = some m.cls := findClass_of_methodNamed Bd.named
  have hnm := (name_of_methodNamed Bd.named Bd.method).1
  have X0 : Stand p l e ({ frames := 0, cells := 0, slots := 0, locals := 0 } : Room) s m #[(.int p1), (.int p2)] below meth c s₁ [] 0 0 := Stand.of_body Bd
  have e0 : s₁.heap = h0 := by rw [← hh, Bd.state]; rfl
  have N0 := Fr.nil n0
  have pre0 : ∀ t, Steps p.tables e below (s₁.setTop (mkF m 0 #[.val (.int p1), .val (.int p2)] [])) t → Steps p.tables e below (s₁.setTop (entryFrame m #[(.int p1), (.int p2)] 2)) t := fun t k => castTop (ef_2 m p1 p2) k
  have K1 : ∀ t, Steps p.tables e below (s₁.setTop (mkF m 4 #[.val (.int p1), .val (.int p2)] [(.int (224 : Int32)), (.int p1)])) t → Steps p.tables e below (s₁.setTop (mkF m 0 #[.val (.int p1), .val (.int p2)] [])) t := by
    intro t k
    refine XS.iloadN X0.here hx rfl (hb hby d2_0) rfl ?_
    show Steps p.tables e below (s₁.setTop (mkF m 1 #[.val (.int p1), .val (.int p2)] [(.int p1)])) t
    refine XS.sipush X0.here hx rfl (hb hby d2_1) ?_
    show Steps p.tables e below (s₁.setTop (mkF m 4 #[.val (.int p1), .val (.int p2)] [(.int (224 : Int32)), (.int p1)])) t
    exact k
  by_cases hc2 : p1 < (224 : Int32)
  · have K3 : ∀ t, Steps p.tables e below (s₁.setTop (mkF m 7 #[.val (.int p1), .val (.int p2)] [])) t → Steps p.tables e below (s₁.setTop (mkF m 4 #[.val (.int p1), .val (.int p2)] [(.int (224 : Int32)), (.int p1)])) t := by
      intro t k
      refine XS.icmpNo X0.here hx rfl (hb hby d2_4) rfl (tlt hc2).2.1 ?_
      exact k
    have K4 : ∀ t, Steps p.tables e below (s₁.setTop (mkF m 19 #[.val (.int p1), .val (.int p2)] [(.int (((p1 &&& (31 : Int32)) <<< ((6 : Int32) &&& 31)) ||| (p2 &&& (63 : Int32))))])) t → Steps p.tables e below (s₁.setTop (mkF m 7 #[.val (.int p1), .val (.int p2)] [])) t := by
      intro t k
      refine XS.iloadN X0.here hx rfl (hb hby d2_7) rfl ?_
      show Steps p.tables e below (s₁.setTop (mkF m 8 #[.val (.int p1), .val (.int p2)] [(.int p1)])) t
      refine XS.bipush X0.here hx rfl (hb hby d2_8) ?_
      show Steps p.tables e below (s₁.setTop (mkF m 10 #[.val (.int p1), .val (.int p2)] [(.int (31 : Int32)), (.int p1)])) t
      refine XS.iand X0.here hx rfl (hb hby d2_10) rfl ?_
      show Steps p.tables e below (s₁.setTop (mkF m 11 #[.val (.int p1), .val (.int p2)] [(.int (p1 &&& (31 : Int32)))])) t
      refine XS.bipush X0.here hx rfl (hb hby d2_11) ?_
      show Steps p.tables e below (s₁.setTop (mkF m 13 #[.val (.int p1), .val (.int p2)] [(.int (6 : Int32)), (.int (p1 &&& (31 : Int32)))])) t
      refine XS.ishl X0.here hx rfl (hb hby d2_13) rfl ?_
      show Steps p.tables e below (s₁.setTop (mkF m 14 #[.val (.int p1), .val (.int p2)] [(.int ((p1 &&& (31 : Int32)) <<< ((6 : Int32) &&& 31)))])) t
      refine XS.iloadN X0.here hx rfl (hb hby d2_14) rfl ?_
      show Steps p.tables e below (s₁.setTop (mkF m 15 #[.val (.int p1), .val (.int p2)] [(.int p2), (.int ((p1 &&& (31 : Int32)) <<< ((6 : Int32) &&& 31)))])) t
      refine XS.bipush X0.here hx rfl (hb hby d2_15) ?_
      show Steps p.tables e below (s₁.setTop (mkF m 17 #[.val (.int p1), .val (.int p2)] [(.int (63 : Int32)), (.int p2), (.int ((p1 &&& (31 : Int32)) <<< ((6 : Int32) &&& 31)))])) t
      refine XS.iand X0.here hx rfl (hb hby d2_17) rfl ?_
      show Steps p.tables e below (s₁.setTop (mkF m 18 #[.val (.int p1), .val (.int p2)] [(.int (p2 &&& (63 : Int32))), (.int ((p1 &&& (31 : Int32)) <<< ((6 : Int32) &&& 31)))])) t
      refine XS.ior X0.here hx rfl (hb hby d2_18) rfl ?_
      show Steps p.tables e below (s₁.setTop (mkF m 19 #[.val (.int p1), .val (.int p2)] [(.int (((p1 &&& (31 : Int32)) <<< ((6 : Int32) &&& 31)) ||| (p2 &&& (63 : Int32))))])) t
      exact k
    obtain ⟨fs, hr, hrun, hended, hW, hsame⟩ := X0.leave (v := some (.int (((p1 &&& (31 : Int32)) <<< ((6 : Int32) &&& 31)) ||| (p2 &&& (63 : Int32))))) (fun h => by rw [Bd.returns] at h; cases h)
    refine ⟨_, _, pre0 _ (K1 _ (K3 _ (K4 _ (retI X0 hx Bd.returns (hb hby d2_19) hr)))), hrun, hended, _, _, rfl, ?_, ⟨_, rfl⟩, hW, hsame.mono (by decide) (by decide)⟩
    show Q2 Z p1 p2 h0 n0 _ s₁.heap _
    rw [e0]
    exact ⟨congrArg (fun z => some (Value.int z)) (show (((p1 &&& (31 : Int32)) <<< ((6 : Int32) &&& 31)) ||| (p2 &&& (63 : Int32))) = f2 p1 p2 from Eq.symm (if_pos hc2)), N0, rfl⟩
  · have K5 : ∀ t, Steps p.tables e below (s₁.setTop (mkF m 20 #[.val (.int p1), .val (.int p2)] [])) t → Steps p.tables e below (s₁.setTop (mkF m 4 #[.val (.int p1), .val (.int p2)] [(.int (224 : Int32)), (.int p1)])) t := by
      intro t k
      refine XS.icmpYes X0.here hx rfl (pc0 := 4) (pc' := 20) rfl (hb hby d2_4) rfl (flt hc2).2.1 (by decide) (by decide) ?_
      exact k
    have K6 : ∀ t, Steps p.tables e below (s₁.setTop (mkF m 24 #[.val (.int p1), .val (.int p2)] [(.int (240 : Int32)), (.int p1)])) t → Steps p.tables e below (s₁.setTop (mkF m 20 #[.val (.int p1), .val (.int p2)] [])) t := by
      intro t k
      refine XS.iloadN X0.here hx rfl (hb hby d2_20) rfl ?_
      show Steps p.tables e below (s₁.setTop (mkF m 21 #[.val (.int p1), .val (.int p2)] [(.int p1)])) t
      refine XS.sipush X0.here hx rfl (hb hby d2_21) ?_
      show Steps p.tables e below (s₁.setTop (mkF m 24 #[.val (.int p1), .val (.int p2)] [(.int (240 : Int32)), (.int p1)])) t
      exact k
    by_cases hc7 : p1 < (240 : Int32)
    · have K8 : ∀ t, Steps p.tables e below (s₁.setTop (mkF m 27 #[.val (.int p1), .val (.int p2)] [])) t → Steps p.tables e below (s₁.setTop (mkF m 24 #[.val (.int p1), .val (.int p2)] [(.int (240 : Int32)), (.int p1)])) t := by
        intro t k
        refine XS.icmpNo X0.here hx rfl (hb hby d2_24) rfl (tlt hc7).2.1 ?_
        exact k
      have K9 : ∀ t, Steps p.tables e below (s₁.setTop (mkF m 42 #[.val (.int p1), .val (.int p2)] [(.int (((p1 &&& (15 : Int32)) <<< ((12 : Int32) &&& 31)) ||| ((p2 &&& (63 : Int32)) <<< ((6 : Int32) &&& 31))))])) t → Steps p.tables e below (s₁.setTop (mkF m 27 #[.val (.int p1), .val (.int p2)] [])) t := by
        intro t k
        refine XS.iloadN X0.here hx rfl (hb hby d2_27) rfl ?_
        show Steps p.tables e below (s₁.setTop (mkF m 28 #[.val (.int p1), .val (.int p2)] [(.int p1)])) t
        refine XS.bipush X0.here hx rfl (hb hby d2_28) ?_
        show Steps p.tables e below (s₁.setTop (mkF m 30 #[.val (.int p1), .val (.int p2)] [(.int (15 : Int32)), (.int p1)])) t
        refine XS.iand X0.here hx rfl (hb hby d2_30) rfl ?_
        show Steps p.tables e below (s₁.setTop (mkF m 31 #[.val (.int p1), .val (.int p2)] [(.int (p1 &&& (15 : Int32)))])) t
        refine XS.bipush X0.here hx rfl (hb hby d2_31) ?_
        show Steps p.tables e below (s₁.setTop (mkF m 33 #[.val (.int p1), .val (.int p2)] [(.int (12 : Int32)), (.int (p1 &&& (15 : Int32)))])) t
        refine XS.ishl X0.here hx rfl (hb hby d2_33) rfl ?_
        show Steps p.tables e below (s₁.setTop (mkF m 34 #[.val (.int p1), .val (.int p2)] [(.int ((p1 &&& (15 : Int32)) <<< ((12 : Int32) &&& 31)))])) t
        refine XS.iloadN X0.here hx rfl (hb hby d2_34) rfl ?_
        show Steps p.tables e below (s₁.setTop (mkF m 35 #[.val (.int p1), .val (.int p2)] [(.int p2), (.int ((p1 &&& (15 : Int32)) <<< ((12 : Int32) &&& 31)))])) t
        refine XS.bipush X0.here hx rfl (hb hby d2_35) ?_
        show Steps p.tables e below (s₁.setTop (mkF m 37 #[.val (.int p1), .val (.int p2)] [(.int (63 : Int32)), (.int p2), (.int ((p1 &&& (15 : Int32)) <<< ((12 : Int32) &&& 31)))])) t
        refine XS.iand X0.here hx rfl (hb hby d2_37) rfl ?_
        show Steps p.tables e below (s₁.setTop (mkF m 38 #[.val (.int p1), .val (.int p2)] [(.int (p2 &&& (63 : Int32))), (.int ((p1 &&& (15 : Int32)) <<< ((12 : Int32) &&& 31)))])) t
        refine XS.bipush X0.here hx rfl (hb hby d2_38) ?_
        show Steps p.tables e below (s₁.setTop (mkF m 40 #[.val (.int p1), .val (.int p2)] [(.int (6 : Int32)), (.int (p2 &&& (63 : Int32))), (.int ((p1 &&& (15 : Int32)) <<< ((12 : Int32) &&& 31)))])) t
        refine XS.ishl X0.here hx rfl (hb hby d2_40) rfl ?_
        show Steps p.tables e below (s₁.setTop (mkF m 41 #[.val (.int p1), .val (.int p2)] [(.int ((p2 &&& (63 : Int32)) <<< ((6 : Int32) &&& 31))), (.int ((p1 &&& (15 : Int32)) <<< ((12 : Int32) &&& 31)))])) t
        refine XS.ior X0.here hx rfl (hb hby d2_41) rfl ?_
        show Steps p.tables e below (s₁.setTop (mkF m 42 #[.val (.int p1), .val (.int p2)] [(.int (((p1 &&& (15 : Int32)) <<< ((12 : Int32) &&& 31)) ||| ((p2 &&& (63 : Int32)) <<< ((6 : Int32) &&& 31))))])) t
        exact k
      obtain ⟨fs, hr, hrun, hended, hW, hsame⟩ := X0.leave (v := some (.int (((p1 &&& (15 : Int32)) <<< ((12 : Int32) &&& 31)) ||| ((p2 &&& (63 : Int32)) <<< ((6 : Int32) &&& 31))))) (fun h => by rw [Bd.returns] at h; cases h)
      refine ⟨_, _, pre0 _ (K1 _ (K5 _ (K6 _ (K8 _ (K9 _ (retI X0 hx Bd.returns (hb hby d2_42) hr)))))), hrun, hended, _, _, rfl, ?_, ⟨_, rfl⟩, hW, hsame.mono (by decide) (by decide)⟩
      show Q2 Z p1 p2 h0 n0 _ s₁.heap _
      rw [e0]
      exact ⟨congrArg (fun z => some (Value.int z)) (show (((p1 &&& (15 : Int32)) <<< ((12 : Int32) &&& 31)) ||| ((p2 &&& (63 : Int32)) <<< ((6 : Int32) &&& 31))) = f2 p1 p2 from Eq.symm ((if_neg hc2).trans (if_pos hc7))), N0, rfl⟩
    · have K10 : ∀ t, Steps p.tables e below (s₁.setTop (mkF m 43 #[.val (.int p1), .val (.int p2)] [])) t → Steps p.tables e below (s₁.setTop (mkF m 24 #[.val (.int p1), .val (.int p2)] [(.int (240 : Int32)), (.int p1)])) t := by
        intro t k
        refine XS.icmpYes X0.here hx rfl (pc0 := 24) (pc' := 43) rfl (hb hby d2_24) rfl (flt hc7).2.1 (by decide) (by decide) ?_
        exact k
      have K11 : ∀ t, Steps p.tables e below (s₁.setTop (mkF m 58 #[.val (.int p1), .val (.int p2)] [(.int (((p1 &&& (7 : Int32)) <<< ((18 : Int32) &&& 31)) ||| ((p2 &&& (63 : Int32)) <<< ((12 : Int32) &&& 31))))])) t → Steps p.tables e below (s₁.setTop (mkF m 43 #[.val (.int p1), .val (.int p2)] [])) t := by
        intro t k
        refine XS.iloadN X0.here hx rfl (hb hby d2_43) rfl ?_
        show Steps p.tables e below (s₁.setTop (mkF m 44 #[.val (.int p1), .val (.int p2)] [(.int p1)])) t
        refine XS.bipush X0.here hx rfl (hb hby d2_44) ?_
        show Steps p.tables e below (s₁.setTop (mkF m 46 #[.val (.int p1), .val (.int p2)] [(.int (7 : Int32)), (.int p1)])) t
        refine XS.iand X0.here hx rfl (hb hby d2_46) rfl ?_
        show Steps p.tables e below (s₁.setTop (mkF m 47 #[.val (.int p1), .val (.int p2)] [(.int (p1 &&& (7 : Int32)))])) t
        refine XS.bipush X0.here hx rfl (hb hby d2_47) ?_
        show Steps p.tables e below (s₁.setTop (mkF m 49 #[.val (.int p1), .val (.int p2)] [(.int (18 : Int32)), (.int (p1 &&& (7 : Int32)))])) t
        refine XS.ishl X0.here hx rfl (hb hby d2_49) rfl ?_
        show Steps p.tables e below (s₁.setTop (mkF m 50 #[.val (.int p1), .val (.int p2)] [(.int ((p1 &&& (7 : Int32)) <<< ((18 : Int32) &&& 31)))])) t
        refine XS.iloadN X0.here hx rfl (hb hby d2_50) rfl ?_
        show Steps p.tables e below (s₁.setTop (mkF m 51 #[.val (.int p1), .val (.int p2)] [(.int p2), (.int ((p1 &&& (7 : Int32)) <<< ((18 : Int32) &&& 31)))])) t
        refine XS.bipush X0.here hx rfl (hb hby d2_51) ?_
        show Steps p.tables e below (s₁.setTop (mkF m 53 #[.val (.int p1), .val (.int p2)] [(.int (63 : Int32)), (.int p2), (.int ((p1 &&& (7 : Int32)) <<< ((18 : Int32) &&& 31)))])) t
        refine XS.iand X0.here hx rfl (hb hby d2_53) rfl ?_
        show Steps p.tables e below (s₁.setTop (mkF m 54 #[.val (.int p1), .val (.int p2)] [(.int (p2 &&& (63 : Int32))), (.int ((p1 &&& (7 : Int32)) <<< ((18 : Int32) &&& 31)))])) t
        refine XS.bipush X0.here hx rfl (hb hby d2_54) ?_
        show Steps p.tables e below (s₁.setTop (mkF m 56 #[.val (.int p1), .val (.int p2)] [(.int (12 : Int32)), (.int (p2 &&& (63 : Int32))), (.int ((p1 &&& (7 : Int32)) <<< ((18 : Int32) &&& 31)))])) t
        refine XS.ishl X0.here hx rfl (hb hby d2_56) rfl ?_
        show Steps p.tables e below (s₁.setTop (mkF m 57 #[.val (.int p1), .val (.int p2)] [(.int ((p2 &&& (63 : Int32)) <<< ((12 : Int32) &&& 31))), (.int ((p1 &&& (7 : Int32)) <<< ((18 : Int32) &&& 31)))])) t
        refine XS.ior X0.here hx rfl (hb hby d2_57) rfl ?_
        show Steps p.tables e below (s₁.setTop (mkF m 58 #[.val (.int p1), .val (.int p2)] [(.int (((p1 &&& (7 : Int32)) <<< ((18 : Int32) &&& 31)) ||| ((p2 &&& (63 : Int32)) <<< ((12 : Int32) &&& 31))))])) t
        exact k
      obtain ⟨fs, hr, hrun, hended, hW, hsame⟩ := X0.leave (v := some (.int (((p1 &&& (7 : Int32)) <<< ((18 : Int32) &&& 31)) ||| ((p2 &&& (63 : Int32)) <<< ((12 : Int32) &&& 31))))) (fun h => by rw [Bd.returns] at h; cases h)
      refine ⟨_, _, pre0 _ (K1 _ (K5 _ (K6 _ (K10 _ (K11 _ (retI X0 hx Bd.returns (hb hby d2_58) hr)))))), hrun, hended, _, _, rfl, ?_, ⟨_, rfl⟩, hW, hsame.mono (by decide) (by decide)⟩
      show Q2 Z p1 p2 h0 n0 _ s₁.heap _
      rw [e0]
      exact ⟨congrArg (fun z => some (Value.int z)) (show (((p1 &&& (7 : Int32)) <<< ((18 : Int32) &&& 31)) ||| ((p2 &&& (63 : Int32)) <<< ((12 : Int32) &&& 31))) = f2 p1 p2 from Eq.symm ((if_neg hc2).trans (if_neg hc7))), N0, rfl⟩
-- body 3: com/example/kirjatieto/kirjatieto/xml/Utf8BytesSecondLeastPinLaw.minCodePoint(I)I
theorem d3_0 : decode method_3_code 0 = .ok (.iload_n 0, 1) := by decide +kernel
theorem d3_1 : decode method_3_code 1 = .ok (.sipush 224, 3) := by decide +kernel
theorem d3_4 : decode method_3_code 4 = .ok (.if_icmp .ge 7, 3) := by decide +kernel
theorem d3_7 : decode method_3_code 7 = .ok (.sipush 128, 3) := by decide +kernel
theorem d3_10 : decode method_3_code 10 = .ok (.ireturn, 1) := by decide +kernel
theorem d3_11 : decode method_3_code 11 = .ok (.iload_n 0, 1) := by decide +kernel
theorem d3_12 : decode method_3_code 12 = .ok (.sipush 240, 3) := by decide +kernel
theorem d3_15 : decode method_3_code 15 = .ok (.if_icmp .ge 7, 3) := by decide +kernel
theorem d3_18 : decode method_3_code 18 = .ok (.sipush 2048, 3) := by decide +kernel
theorem d3_21 : decode method_3_code 21 = .ok (.ireturn, 1) := by decide +kernel
theorem d3_22 : decode method_3_code 22 = .ok (.ldc 7, 2) := by decide +kernel
theorem d3_24 : decode method_3_code 24 = .ok (.ireturn, 1) := by decide +kernel
theorem pn_3 : plainName "com/example/kirjatieto/kirjatieto/xml/Utf8BytesSecondLeastPinLaw" = true := by first | (simp [plainName, overriddenIn]; done) | decide +kernel
theorem ef_3 (m : MethodId) (p1 : Int32) : entryFrame m #[(.int p1)] 1 = mkF m 0 #[.val (.int p1)] [] := by first | (simp [entryFrame, mkF, argsToLocals, Value.category]; done) | rfl
def f3 (p1 : Int32) : Int32 := (if p1 < (224 : Int32) then (128 : Int32) else (if p1 < (240 : Int32) then (2048 : Int32) else (65536 : Int32)))
def Q3 (Z : State) (p1 : Int32) (h0 : Heap) (n0 : Nat) (v : Option Value) (h : Heap) (L : List Loc) : Prop := v = some (.int (f3 p1)) ∧ Fr n0 L ∧ h = h0
set_option maxRecDepth 65536 in
set_option maxHeartbeats 40000000 in
theorem rm3 (l : Launch) (Z : State) (a0 : Array Value) (hw : ∀ d ∈ tables_1, d.before a0 Z = true) (ws : List Jvm.Cond) (p1 : Int32) (h0 : Heap) (n0 : Nat) (Z0 : n0 ≤ h0.size) :
    MetFree l (⟨"com/example/kirjatieto/kirjatieto/xml/Utf8BytesSecondLeastPinLaw", "minCodePoint", "(I)I"⟩ : MethodName) (head1 (Jvm.Cond.code (⟨"com/example/kirjatieto/kirjatieto/xml/Utf8BytesSecondLeastPinLaw", "minCodePoint", "(I)I"⟩ : MethodName) method_3_code 1 (some .int) :: ws) ({ frames := 0, cells := 0, slots := 0, locals := 0 } : Room)) (fun a U => a = #[(.int p1)] ∧ Z.Warmed39 U.vm ∧ U.heap = h0) (fun _ _ _ _ _ => True) (fun _ U o U' => ∃ v L, o = .returned v ∧ Q3 Z p1 h0 n0 v U'.heap L ∧ FrameEnd U o U' L ({ frames := 0, cells := 0, slots := 0, locals := 0 } : Room).cells ({ frames := 0, cells := 0, slots := 0, locals := 0 } : Room).slots) := by
  refine MetFree.of_bodySF (plainFor_of_name pn_3) hisR ?_
  intro p e s m args below meth c s₁ Bd hml0 hP hK
  obtain ⟨rfl, hZ, hh⟩ := hP
  have hx := Bd.exec
  have hby := Bd.bytes
  have hml : c.maxLocals = 1 := hml0
  have hown : s.vm.findClass "com/example/kirjatieto/kirjatieto/xml/Utf8BytesSecondLeastPinLaw" = some m.cls := findClass_of_methodNamed Bd.named
  have hnm := (name_of_methodNamed Bd.named Bd.method).1
  have X0 : Stand p l e ({ frames := 0, cells := 0, slots := 0, locals := 0 } : Room) s m #[(.int p1)] below meth c s₁ [] 0 0 := Stand.of_body Bd
  have e0 : s₁.heap = h0 := by rw [← hh, Bd.state]; rfl
  have N0 := Fr.nil n0
  have pre0 : ∀ t, Steps p.tables e below (s₁.setTop (mkF m 0 #[.val (.int p1)] [])) t → Steps p.tables e below (s₁.setTop (entryFrame m #[(.int p1)] 1)) t := fun t k => castTop (ef_3 m p1) k
  have K1 : ∀ t, Steps p.tables e below (s₁.setTop (mkF m 4 #[.val (.int p1)] [(.int (224 : Int32)), (.int p1)])) t → Steps p.tables e below (s₁.setTop (mkF m 0 #[.val (.int p1)] [])) t := by
    intro t k
    refine XS.iloadN X0.here hx rfl (hb hby d3_0) rfl ?_
    show Steps p.tables e below (s₁.setTop (mkF m 1 #[.val (.int p1)] [(.int p1)])) t
    refine XS.sipush X0.here hx rfl (hb hby d3_1) ?_
    show Steps p.tables e below (s₁.setTop (mkF m 4 #[.val (.int p1)] [(.int (224 : Int32)), (.int p1)])) t
    exact k
  by_cases hc2 : p1 < (224 : Int32)
  · have K3 : ∀ t, Steps p.tables e below (s₁.setTop (mkF m 7 #[.val (.int p1)] [])) t → Steps p.tables e below (s₁.setTop (mkF m 4 #[.val (.int p1)] [(.int (224 : Int32)), (.int p1)])) t := by
      intro t k
      refine XS.icmpNo X0.here hx rfl (hb hby d3_4) rfl (tlt hc2).2.1 ?_
      exact k
    have K4 : ∀ t, Steps p.tables e below (s₁.setTop (mkF m 10 #[.val (.int p1)] [(.int (128 : Int32))])) t → Steps p.tables e below (s₁.setTop (mkF m 7 #[.val (.int p1)] [])) t := by
      intro t k
      refine XS.sipush X0.here hx rfl (hb hby d3_7) ?_
      show Steps p.tables e below (s₁.setTop (mkF m 10 #[.val (.int p1)] [(.int (128 : Int32))])) t
      exact k
    obtain ⟨fs, hr, hrun, hended, hW, hsame⟩ := X0.leave (v := some (.int (128 : Int32))) (fun h => by rw [Bd.returns] at h; cases h)
    refine ⟨_, _, pre0 _ (K1 _ (K3 _ (K4 _ (retI X0 hx Bd.returns (hb hby d3_10) hr)))), hrun, hended, _, _, rfl, ?_, ⟨_, rfl⟩, hW, hsame.mono (by decide) (by decide)⟩
    show Q3 Z p1 h0 n0 _ s₁.heap _
    rw [e0]
    exact ⟨congrArg (fun z => some (Value.int z)) (show (128 : Int32) = f3 p1 from Eq.symm (if_pos hc2)), N0, rfl⟩
  · have K5 : ∀ t, Steps p.tables e below (s₁.setTop (mkF m 11 #[.val (.int p1)] [])) t → Steps p.tables e below (s₁.setTop (mkF m 4 #[.val (.int p1)] [(.int (224 : Int32)), (.int p1)])) t := by
      intro t k
      refine XS.icmpYes X0.here hx rfl (pc0 := 4) (pc' := 11) rfl (hb hby d3_4) rfl (flt hc2).2.1 (by decide) (by decide) ?_
      exact k
    have K6 : ∀ t, Steps p.tables e below (s₁.setTop (mkF m 15 #[.val (.int p1)] [(.int (240 : Int32)), (.int p1)])) t → Steps p.tables e below (s₁.setTop (mkF m 11 #[.val (.int p1)] [])) t := by
      intro t k
      refine XS.iloadN X0.here hx rfl (hb hby d3_11) rfl ?_
      show Steps p.tables e below (s₁.setTop (mkF m 12 #[.val (.int p1)] [(.int p1)])) t
      refine XS.sipush X0.here hx rfl (hb hby d3_12) ?_
      show Steps p.tables e below (s₁.setTop (mkF m 15 #[.val (.int p1)] [(.int (240 : Int32)), (.int p1)])) t
      exact k
    by_cases hc7 : p1 < (240 : Int32)
    · have K8 : ∀ t, Steps p.tables e below (s₁.setTop (mkF m 18 #[.val (.int p1)] [])) t → Steps p.tables e below (s₁.setTop (mkF m 15 #[.val (.int p1)] [(.int (240 : Int32)), (.int p1)])) t := by
        intro t k
        refine XS.icmpNo X0.here hx rfl (hb hby d3_15) rfl (tlt hc7).2.1 ?_
        exact k
      have K9 : ∀ t, Steps p.tables e below (s₁.setTop (mkF m 21 #[.val (.int p1)] [(.int (2048 : Int32))])) t → Steps p.tables e below (s₁.setTop (mkF m 18 #[.val (.int p1)] [])) t := by
        intro t k
        refine XS.sipush X0.here hx rfl (hb hby d3_18) ?_
        show Steps p.tables e below (s₁.setTop (mkF m 21 #[.val (.int p1)] [(.int (2048 : Int32))])) t
        exact k
      obtain ⟨fs, hr, hrun, hended, hW, hsame⟩ := X0.leave (v := some (.int (2048 : Int32))) (fun h => by rw [Bd.returns] at h; cases h)
      refine ⟨_, _, pre0 _ (K1 _ (K5 _ (K6 _ (K8 _ (K9 _ (retI X0 hx Bd.returns (hb hby d3_21) hr)))))), hrun, hended, _, _, rfl, ?_, ⟨_, rfl⟩, hW, hsame.mono (by decide) (by decide)⟩
      show Q3 Z p1 h0 n0 _ s₁.heap _
      rw [e0]
      exact ⟨congrArg (fun z => some (Value.int z)) (show (2048 : Int32) = f3 p1 from Eq.symm ((if_neg hc2).trans (if_pos hc7))), N0, rfl⟩
    · have K10 : ∀ t, Steps p.tables e below (s₁.setTop (mkF m 22 #[.val (.int p1)] [])) t → Steps p.tables e below (s₁.setTop (mkF m 15 #[.val (.int p1)] [(.int (240 : Int32)), (.int p1)])) t := by
        intro t k
        refine XS.icmpYes X0.here hx rfl (pc0 := 15) (pc' := 22) rfl (hb hby d3_15) rfl (flt hc7).2.1 (by decide) (by decide) ?_
        exact k
      have K11 : ∀ t, Steps p.tables e below (s₁.setTop (mkF m 24 #[.val (.int p1)] [(.int (65536 : Int32))])) t → Steps p.tables e below (s₁.setTop (mkF m 22 #[.val (.int p1)] [])) t := by
        intro t k
        refine X0.ldcInt hx hown (mvT hZ (hw _ (List.mem_of_getElem? (i := 12) rfl))) (g := (mkF m 22 #[.val (.int p1)] [])) rfl (hb hby d3_22) _ ?_
        show Steps p.tables e below (s₁.setTop (mkF m 24 #[.val (.int p1)] [(.int (65536 : Int32))])) t
        exact k
      obtain ⟨fs, hr, hrun, hended, hW, hsame⟩ := X0.leave (v := some (.int (65536 : Int32))) (fun h => by rw [Bd.returns] at h; cases h)
      refine ⟨_, _, pre0 _ (K1 _ (K5 _ (K6 _ (K10 _ (K11 _ (retI X0 hx Bd.returns (hb hby d3_24) hr)))))), hrun, hended, _, _, rfl, ?_, ⟨_, rfl⟩, hW, hsame.mono (by decide) (by decide)⟩
      show Q3 Z p1 h0 n0 _ s₁.heap _
      rw [e0]
      exact ⟨congrArg (fun z => some (Value.int z)) (show (65536 : Int32) = f3 p1 from Eq.symm ((if_neg hc2).trans (if_neg hc7))), N0, rfl⟩
-- body 0: com/example/kirjatieto/kirjatieto/xml/Utf8BytesSecondLeastPinLaw.law(II)Z
theorem pn_0 : plainName "com/example/kirjatieto/kirjatieto/xml/Utf8BytesSecondLeastPinLaw" = true := by first | (simp [plainName, overriddenIn]; done) | decide +kernel
theorem pd_0 : parseMethodDescriptor "(I)I" = some ⟨[.int], some .int⟩ := by decide +kernel
theorem pd_1 : parseMethodDescriptor "(II)I" = some ⟨[.int, .int], some .int⟩ := by decide +kernel
theorem ef_0 (m : MethodId) (p1 : Int32) (p2 : Int32) : entryFrame m #[(.int p1), (.int p2)] maxLocals = mkF m 0 #[.val (.int p1), .val (.int p2), .unset, .unset, .unset, .unset] [] := by first | (simp [entryFrame, mkF, argsToLocals, Value.category, maxLocals]; done) | rfl
def f0_u1 (p1 : Int32) (p2 : Int32) : Int32 := (if (f2 ((194 : Int32) + ((p1 &&& (2147483647 : Int32)) % (51 : Int32))) ((128 : Int32) + (p2 &&& (63 : Int32)))) < (f3 ((194 : Int32) + ((p1 &&& (2147483647 : Int32)) % (51 : Int32)))) then (0 : Int32) else (1 : Int32))
def f0_u2 (p1 : Int32) (p2 : Int32) : Int32 := (if ((128 : Int32) + (p2 &&& (63 : Int32))) < (f1 ((194 : Int32) + ((p1 &&& (2147483647 : Int32)) % (51 : Int32)))) then (0 : Int32) else (1 : Int32))
def f0 (p1 : Int32) (p2 : Int32) : Int32 := (if (f1 ((194 : Int32) + ((p1 &&& (2147483647 : Int32)) % (51 : Int32)))) < (128 : Int32) then (0 : Int32) else (if (191 : Int32) < (f1 ((194 : Int32) + ((p1 &&& (2147483647 : Int32)) % (51 : Int32)))) then (0 : Int32) else (if (f0_u2 p1 p2) = (f0_u1 p1 p2) then (1 : Int32) else (0 : Int32))))
def Q0 (Z : State) (p1 : Int32) (p2 : Int32) (h0 : Heap) (n0 : Nat) (v : Option Value) (h : Heap) (L : List Loc) : Prop := v = some (.int (f0 p1 p2)) ∧ Fr n0 L ∧ h = h0
set_option maxRecDepth 65536 in
set_option maxHeartbeats 40000000 in
theorem rm0 (l : Launch) (Z : State) (a0 : Array Value) (hw : ∀ d ∈ tables_1, d.before a0 Z = true) (ws : List Jvm.Cond) (p1 : Int32) (p2 : Int32) (h0 : Heap) (n0 : Nat) (Z0 : n0 ≤ h0.size) :
    MetFree l x (head1 (Jvm.Cond.code x code maxLocals ret :: ws) room_1) (fun a U => a = #[(.int p1), (.int p2)] ∧ Z.Warmed39 U.vm ∧ U.heap = h0) (fun _ _ _ _ _ => True) (fun _ U o U' => ∃ v L, o = .returned v ∧ Q0 Z p1 p2 h0 n0 v U'.heap L ∧ FrameEnd U o U' L room_1.cells room_1.slots) := by
  refine MetFree.of_bodySF (plainFor_of_name pn_0) hisR ?_
  intro p e s m args below meth c s₁ Bd hml0 hP hK
  obtain ⟨rfl, hZ, hh⟩ := hP
  have hx := Bd.exec
  have hby := Bd.bytes
  have hml : c.maxLocals = 6 := hml0
  have hown : s.vm.findClass "com/example/kirjatieto/kirjatieto/xml/Utf8BytesSecondLeastPinLaw" = some m.cls := findClass_of_methodNamed Bd.named
  have hnm := (name_of_methodNamed Bd.named Bd.method).1
  have X0 : Stand p l e room_1 s m #[(.int p1), (.int p2)] below meth c s₁ [] 0 0 := Stand.of_body Bd
  have e0 : s₁.heap = h0 := by rw [← hh, Bd.state]; rfl
  have N0 := Fr.nil n0
  have pre0 : ∀ t, Steps p.tables e below (s₁.setTop (mkF m 0 #[.val (.int p1), .val (.int p2), .unset, .unset, .unset, .unset] [])) t → Steps p.tables e below (s₁.setTop (entryFrame m #[(.int p1), (.int p2)] maxLocals)) t := fun t k => castTop (ef_0 m p1 p2) k
  have K1 : ∀ t, Steps p.tables e below (s₁.setTop (mkF m 22 #[.val (.int p1), .val (.int p2), .val (.int ((194 : Int32) + ((p1 &&& (2147483647 : Int32)) % (51 : Int32)))), .val (.int ((128 : Int32) + (p2 &&& (63 : Int32)))), .unset, .unset] [(.int ((194 : Int32) + ((p1 &&& (2147483647 : Int32)) % (51 : Int32))))])) t → Steps p.tables e below (s₁.setTop (mkF m 0 #[.val (.int p1), .val (.int p2), .unset, .unset, .unset, .unset] [])) t := by
    intro t k
    refine XS.sipush X0.here hx rfl (hb hby at_0) ?_
    show Steps p.tables e below (s₁.setTop (mkF m 3 #[.val (.int p1), .val (.int p2), .unset, .unset, .unset, .unset] [(.int (194 : Int32))])) t
    refine XS.iloadN X0.here hx rfl (hb hby at_3) rfl ?_
    show Steps p.tables e below (s₁.setTop (mkF m 4 #[.val (.int p1), .val (.int p2), .unset, .unset, .unset, .unset] [(.int p1), (.int (194 : Int32))])) t
    refine X0.ldcInt hx hown (mvT hZ (hw _ (List.mem_of_getElem? (i := 0) rfl))) (g := (mkF m 4 #[.val (.int p1), .val (.int p2), .unset, .unset, .unset, .unset] [(.int p1), (.int (194 : Int32))])) rfl (hb hby at_4) _ ?_
    show Steps p.tables e below (s₁.setTop (mkF m 6 #[.val (.int p1), .val (.int p2), .unset, .unset, .unset, .unset] [(.int (2147483647 : Int32)), (.int p1), (.int (194 : Int32))])) t
    refine XS.iand X0.here hx rfl (hb hby at_6) rfl ?_
    show Steps p.tables e below (s₁.setTop (mkF m 7 #[.val (.int p1), .val (.int p2), .unset, .unset, .unset, .unset] [(.int (p1 &&& (2147483647 : Int32))), (.int (194 : Int32))])) t
    refine XS.bipush X0.here hx rfl (hb hby at_7) ?_
    show Steps p.tables e below (s₁.setTop (mkF m 9 #[.val (.int p1), .val (.int p2), .unset, .unset, .unset, .unset] [(.int (51 : Int32)), (.int (p1 &&& (2147483647 : Int32))), (.int (194 : Int32))])) t
    refine iremM X0 hx rfl (hb hby at_9) rfl (show (51 : Int32) ≠ (0 : Int32) from (by decide)) ?_
    show Steps p.tables e below (s₁.setTop (mkF m 10 #[.val (.int p1), .val (.int p2), .unset, .unset, .unset, .unset] [(.int ((p1 &&& (2147483647 : Int32)) % (51 : Int32))), (.int (194 : Int32))])) t
    refine XS.iadd X0.here hx rfl (hb hby at_10) rfl ?_
    show Steps p.tables e below (s₁.setTop (mkF m 11 #[.val (.int p1), .val (.int p2), .unset, .unset, .unset, .unset] [(.int ((194 : Int32) + ((p1 &&& (2147483647 : Int32)) % (51 : Int32))))])) t
    refine XS.istoreN X0.here hx rfl (hb hby at_11) rfl (l' := #[.val (.int p1), .val (.int p2), .val (.int ((194 : Int32) + ((p1 &&& (2147483647 : Int32)) % (51 : Int32)))), .unset, .unset, .unset]) rfl ?_
    show Steps p.tables e below (s₁.setTop (mkF m 12 #[.val (.int p1), .val (.int p2), .val (.int ((194 : Int32) + ((p1 &&& (2147483647 : Int32)) % (51 : Int32)))), .unset, .unset, .unset] [])) t
    refine XS.sipush X0.here hx rfl (hb hby at_12) ?_
    show Steps p.tables e below (s₁.setTop (mkF m 15 #[.val (.int p1), .val (.int p2), .val (.int ((194 : Int32) + ((p1 &&& (2147483647 : Int32)) % (51 : Int32)))), .unset, .unset, .unset] [(.int (128 : Int32))])) t
    refine XS.iloadN X0.here hx rfl (hb hby at_15) rfl ?_
    show Steps p.tables e below (s₁.setTop (mkF m 16 #[.val (.int p1), .val (.int p2), .val (.int ((194 : Int32) + ((p1 &&& (2147483647 : Int32)) % (51 : Int32)))), .unset, .unset, .unset] [(.int p2), (.int (128 : Int32))])) t
    refine XS.bipush X0.here hx rfl (hb hby at_16) ?_
    show Steps p.tables e below (s₁.setTop (mkF m 18 #[.val (.int p1), .val (.int p2), .val (.int ((194 : Int32) + ((p1 &&& (2147483647 : Int32)) % (51 : Int32)))), .unset, .unset, .unset] [(.int (63 : Int32)), (.int p2), (.int (128 : Int32))])) t
    refine XS.iand X0.here hx rfl (hb hby at_18) rfl ?_
    show Steps p.tables e below (s₁.setTop (mkF m 19 #[.val (.int p1), .val (.int p2), .val (.int ((194 : Int32) + ((p1 &&& (2147483647 : Int32)) % (51 : Int32)))), .unset, .unset, .unset] [(.int (p2 &&& (63 : Int32))), (.int (128 : Int32))])) t
    refine XS.iadd X0.here hx rfl (hb hby at_19) rfl ?_
    show Steps p.tables e below (s₁.setTop (mkF m 20 #[.val (.int p1), .val (.int p2), .val (.int ((194 : Int32) + ((p1 &&& (2147483647 : Int32)) % (51 : Int32)))), .unset, .unset, .unset] [(.int ((128 : Int32) + (p2 &&& (63 : Int32))))])) t
    refine XS.istoreN X0.here hx rfl (hb hby at_20) rfl (l' := #[.val (.int p1), .val (.int p2), .val (.int ((194 : Int32) + ((p1 &&& (2147483647 : Int32)) % (51 : Int32)))), .val (.int ((128 : Int32) + (p2 &&& (63 : Int32)))), .unset, .unset]) rfl ?_
    show Steps p.tables e below (s₁.setTop (mkF m 21 #[.val (.int p1), .val (.int p2), .val (.int ((194 : Int32) + ((p1 &&& (2147483647 : Int32)) % (51 : Int32)))), .val (.int ((128 : Int32) + (p2 &&& (63 : Int32)))), .unset, .unset] [])) t
    refine XS.iloadN X0.here hx rfl (hb hby at_21) rfl ?_
    show Steps p.tables e below (s₁.setTop (mkF m 22 #[.val (.int p1), .val (.int p2), .val (.int ((194 : Int32) + ((p1 &&& (2147483647 : Int32)) % (51 : Int32)))), .val (.int ((128 : Int32) + (p2 &&& (63 : Int32)))), .unset, .unset] [(.int ((194 : Int32) + ((p1 &&& (2147483647 : Int32)) % (51 : Int32))))])) t
    exact k
  obtain ⟨_, _, ⟨T2, L2, k2, n2⟩, -, X2, ⟨Lc2, hQ2, l2, y2, z2⟩, st2⟩ := Jvm.LawKit.callS X0 hx (y := (⟨"com/example/kirjatieto/kirjatieto/xml/Utf8Bytes", "secondLeast", "(I)I"⟩ : MethodName)) hown (mvT hZ (hw _ (List.mem_of_getElem? (i := 1) rfl))) (mvT hZ (hw _ (List.mem_of_getElem? (i := 2) rfl))) (mvT hZ (hw _ (List.mem_of_getElem? (i := 3) rfl))) (mvT hZ (hw _ (List.mem_of_getElem? (i := 4) rfl))) (by decide) (backOf (W := 0) (rm1 l Z a0 hw [] ((194 : Int32) + ((p1 &&& (2147483647 : Int32)) % (51 : Int32))) h0 n0 Z0 ) hZ (hw _ (List.mem_of_getElem? (i := 4) rfl)) (hw _ (List.mem_of_getElem? (i := 3) rfl)) (by decide) (by decide)) (g := (mkF m 22 #[.val (.int p1), .val (.int p2), .val (.int ((194 : Int32) + ((p1 &&& (2147483647 : Int32)) % (51 : Int32)))), .val (.int ((128 : Int32) + (p2 &&& (63 : Int32)))), .unset, .unset] [(.int ((194 : Int32) + ((p1 &&& (2147483647 : Int32)) % (51 : Int32))))])) rfl (by rw [hml]; rfl) (argsL := [(.int ((194 : Int32) + ((p1 &&& (2147483647 : Int32)) % (51 : Int32))))]) (rest := []) (lenOf pd_0 rfl) rfl (by show 2 * 0 + _ ≤ _; exact Nat.le_of_eq rfl) (hb hby at_22) (fun _ _ => ⟨rfl, e0, (by decide : 0 + 0 ≤ _), (by decide : 0 + 0 ≤ _)⟩)
  dsimp only [Pt.U, Pt.locs, Pt.cells, Pt.slots] at X2 l2 y2 z2 st2 hQ2
  subst l2 y2 z2
  obtain ⟨rfl, N2q, e2⟩ := hQ2
  have N2 := Fr.app N0 N2q
  have K3 : ∀ t, Steps p.tables e below (T2.setTop (mkF m 25 #[.val (.int p1), .val (.int p2), .val (.int ((194 : Int32) + ((p1 &&& (2147483647 : Int32)) % (51 : Int32)))), .val (.int ((128 : Int32) + (p2 &&& (63 : Int32)))), .unset, .unset] [(.int (f1 ((194 : Int32) + ((p1 &&& (2147483647 : Int32)) % (51 : Int32)))))])) t → Steps p.tables e below (s₁.setTop (mkF m 22 #[.val (.int p1), .val (.int p2), .val (.int ((194 : Int32) + ((p1 &&& (2147483647 : Int32)) % (51 : Int32)))), .val (.int ((128 : Int32) + (p2 &&& (63 : Int32)))), .unset, .unset] [(.int ((194 : Int32) + ((p1 &&& (2147483647 : Int32)) % (51 : Int32))))])) t := fun t k => st2 _ k
  have K4 : ∀ t, Steps p.tables e below (T2.setTop (mkF m 32 #[.val (.int p1), .val (.int p2), .val (.int ((194 : Int32) + ((p1 &&& (2147483647 : Int32)) % (51 : Int32)))), .val (.int ((128 : Int32) + (p2 &&& (63 : Int32)))), .val (.int (f1 ((194 : Int32) + ((p1 &&& (2147483647 : Int32)) % (51 : Int32))))), .unset] [(.int (128 : Int32)), (.int (f1 ((194 : Int32) + ((p1 &&& (2147483647 : Int32)) % (51 : Int32)))))])) t → Steps p.tables e below (T2.setTop (mkF m 25 #[.val (.int p1), .val (.int p2), .val (.int ((194 : Int32) + ((p1 &&& (2147483647 : Int32)) % (51 : Int32)))), .val (.int ((128 : Int32) + (p2 &&& (63 : Int32)))), .unset, .unset] [(.int (f1 ((194 : Int32) + ((p1 &&& (2147483647 : Int32)) % (51 : Int32)))))])) t := by
    intro t k
    refine XS.istore X2.here hx rfl (hb hby at_25) rfl (l' := #[.val (.int p1), .val (.int p2), .val (.int ((194 : Int32) + ((p1 &&& (2147483647 : Int32)) % (51 : Int32)))), .val (.int ((128 : Int32) + (p2 &&& (63 : Int32)))), .val (.int (f1 ((194 : Int32) + ((p1 &&& (2147483647 : Int32)) % (51 : Int32))))), .unset]) rfl ?_
    show Steps p.tables e below (T2.setTop (mkF m 27 #[.val (.int p1), .val (.int p2), .val (.int ((194 : Int32) + ((p1 &&& (2147483647 : Int32)) % (51 : Int32)))), .val (.int ((128 : Int32) + (p2 &&& (63 : Int32)))), .val (.int (f1 ((194 : Int32) + ((p1 &&& (2147483647 : Int32)) % (51 : Int32))))), .unset] [])) t
    refine XS.iload X2.here hx rfl (hb hby at_27) rfl ?_
    show Steps p.tables e below (T2.setTop (mkF m 29 #[.val (.int p1), .val (.int p2), .val (.int ((194 : Int32) + ((p1 &&& (2147483647 : Int32)) % (51 : Int32)))), .val (.int ((128 : Int32) + (p2 &&& (63 : Int32)))), .val (.int (f1 ((194 : Int32) + ((p1 &&& (2147483647 : Int32)) % (51 : Int32))))), .unset] [(.int (f1 ((194 : Int32) + ((p1 &&& (2147483647 : Int32)) % (51 : Int32)))))])) t
    refine XS.sipush X2.here hx rfl (hb hby at_29) ?_
    show Steps p.tables e below (T2.setTop (mkF m 32 #[.val (.int p1), .val (.int p2), .val (.int ((194 : Int32) + ((p1 &&& (2147483647 : Int32)) % (51 : Int32)))), .val (.int ((128 : Int32) + (p2 &&& (63 : Int32)))), .val (.int (f1 ((194 : Int32) + ((p1 &&& (2147483647 : Int32)) % (51 : Int32))))), .unset] [(.int (128 : Int32)), (.int (f1 ((194 : Int32) + ((p1 &&& (2147483647 : Int32)) % (51 : Int32)))))])) t
    exact k
  by_cases hc5 : (f1 ((194 : Int32) + ((p1 &&& (2147483647 : Int32)) % (51 : Int32)))) < (128 : Int32)
  · have K6 : ∀ t, Steps p.tables e below (T2.setTop (mkF m 43 #[.val (.int p1), .val (.int p2), .val (.int ((194 : Int32) + ((p1 &&& (2147483647 : Int32)) % (51 : Int32)))), .val (.int ((128 : Int32) + (p2 &&& (63 : Int32)))), .val (.int (f1 ((194 : Int32) + ((p1 &&& (2147483647 : Int32)) % (51 : Int32))))), .unset] [])) t → Steps p.tables e below (T2.setTop (mkF m 32 #[.val (.int p1), .val (.int p2), .val (.int ((194 : Int32) + ((p1 &&& (2147483647 : Int32)) % (51 : Int32)))), .val (.int ((128 : Int32) + (p2 &&& (63 : Int32)))), .val (.int (f1 ((194 : Int32) + ((p1 &&& (2147483647 : Int32)) % (51 : Int32))))), .unset] [(.int (128 : Int32)), (.int (f1 ((194 : Int32) + ((p1 &&& (2147483647 : Int32)) % (51 : Int32)))))])) t := by
      intro t k
      refine XS.icmpYes X2.here hx rfl (pc0 := 32) (pc' := 43) rfl (hb hby at_32) rfl (tlt hc5).1 (by decide) (by decide) ?_
      exact k
    have K7 : ∀ t, Steps p.tables e below (T2.setTop (mkF m 44 #[.val (.int p1), .val (.int p2), .val (.int ((194 : Int32) + ((p1 &&& (2147483647 : Int32)) % (51 : Int32)))), .val (.int ((128 : Int32) + (p2 &&& (63 : Int32)))), .val (.int (f1 ((194 : Int32) + ((p1 &&& (2147483647 : Int32)) % (51 : Int32))))), .unset] [(.int (0 : Int32))])) t → Steps p.tables e below (T2.setTop (mkF m 43 #[.val (.int p1), .val (.int p2), .val (.int ((194 : Int32) + ((p1 &&& (2147483647 : Int32)) % (51 : Int32)))), .val (.int ((128 : Int32) + (p2 &&& (63 : Int32)))), .val (.int (f1 ((194 : Int32) + ((p1 &&& (2147483647 : Int32)) % (51 : Int32))))), .unset] [])) t := by
      intro t k
      refine XS.iconst X2.here hx rfl (hb hby at_43) ?_
      show Steps p.tables e below (T2.setTop (mkF m 44 #[.val (.int p1), .val (.int p2), .val (.int ((194 : Int32) + ((p1 &&& (2147483647 : Int32)) % (51 : Int32)))), .val (.int ((128 : Int32) + (p2 &&& (63 : Int32)))), .val (.int (f1 ((194 : Int32) + ((p1 &&& (2147483647 : Int32)) % (51 : Int32))))), .unset] [(.int (0 : Int32))])) t
      exact k
    obtain ⟨fs, hr, hrun, hended, hW, hsame⟩ := X2.leave (v := some (.int (0 : Int32))) (fun h => by rw [Bd.returns] at h; cases h)
    refine ⟨_, _, pre0 _ (K1 _ (K3 _ (K4 _ (K6 _ (K7 _ (retN X2 hx (t := .boolean) Bd.returns (by simp) (hb hby at_44) hr)))))), hrun, hended, _, _, rfl, ?_, ⟨_, rfl⟩, hW, hsame.mono (by decide) (by decide)⟩
    show Q0 Z p1 p2 h0 n0 _ T2.heap _
    rw [e2]
    exact ⟨congrArg (fun z => some (Value.int z)) (show (0 : Int32) = f0 p1 p2 from Eq.symm (if_pos hc5)), N2, rfl⟩
  · have K8 : ∀ t, Steps p.tables e below (T2.setTop (mkF m 35 #[.val (.int p1), .val (.int p2), .val (.int ((194 : Int32) + ((p1 &&& (2147483647 : Int32)) % (51 : Int32)))), .val (.int ((128 : Int32) + (p2 &&& (63 : Int32)))), .val (.int (f1 ((194 : Int32) + ((p1 &&& (2147483647 : Int32)) % (51 : Int32))))), .unset] [])) t → Steps p.tables e below (T2.setTop (mkF m 32 #[.val (.int p1), .val (.int p2), .val (.int ((194 : Int32) + ((p1 &&& (2147483647 : Int32)) % (51 : Int32)))), .val (.int ((128 : Int32) + (p2 &&& (63 : Int32)))), .val (.int (f1 ((194 : Int32) + ((p1 &&& (2147483647 : Int32)) % (51 : Int32))))), .unset] [(.int (128 : Int32)), (.int (f1 ((194 : Int32) + ((p1 &&& (2147483647 : Int32)) % (51 : Int32)))))])) t := by
      intro t k
      refine XS.icmpNo X2.here hx rfl (hb hby at_32) rfl (flt hc5).1 ?_
      exact k
    have K9 : ∀ t, Steps p.tables e below (T2.setTop (mkF m 40 #[.val (.int p1), .val (.int p2), .val (.int ((194 : Int32) + ((p1 &&& (2147483647 : Int32)) % (51 : Int32)))), .val (.int ((128 : Int32) + (p2 &&& (63 : Int32)))), .val (.int (f1 ((194 : Int32) + ((p1 &&& (2147483647 : Int32)) % (51 : Int32))))), .unset] [(.int (191 : Int32)), (.int (f1 ((194 : Int32) + ((p1 &&& (2147483647 : Int32)) % (51 : Int32)))))])) t → Steps p.tables e below (T2.setTop (mkF m 35 #[.val (.int p1), .val (.int p2), .val (.int ((194 : Int32) + ((p1 &&& (2147483647 : Int32)) % (51 : Int32)))), .val (.int ((128 : Int32) + (p2 &&& (63 : Int32)))), .val (.int (f1 ((194 : Int32) + ((p1 &&& (2147483647 : Int32)) % (51 : Int32))))), .unset] [])) t := by
      intro t k
      refine XS.iload X2.here hx rfl (hb hby at_35) rfl ?_
      show Steps p.tables e below (T2.setTop (mkF m 37 #[.val (.int p1), .val (.int p2), .val (.int ((194 : Int32) + ((p1 &&& (2147483647 : Int32)) % (51 : Int32)))), .val (.int ((128 : Int32) + (p2 &&& (63 : Int32)))), .val (.int (f1 ((194 : Int32) + ((p1 &&& (2147483647 : Int32)) % (51 : Int32))))), .unset] [(.int (f1 ((194 : Int32) + ((p1 &&& (2147483647 : Int32)) % (51 : Int32)))))])) t
      refine XS.sipush X2.here hx rfl (hb hby at_37) ?_
      show Steps p.tables e below (T2.setTop (mkF m 40 #[.val (.int p1), .val (.int p2), .val (.int ((194 : Int32) + ((p1 &&& (2147483647 : Int32)) % (51 : Int32)))), .val (.int ((128 : Int32) + (p2 &&& (63 : Int32)))), .val (.int (f1 ((194 : Int32) + ((p1 &&& (2147483647 : Int32)) % (51 : Int32))))), .unset] [(.int (191 : Int32)), (.int (f1 ((194 : Int32) + ((p1 &&& (2147483647 : Int32)) % (51 : Int32)))))])) t
      exact k
    by_cases hc10 : (191 : Int32) < (f1 ((194 : Int32) + ((p1 &&& (2147483647 : Int32)) % (51 : Int32))))
    · have K11 : ∀ t, Steps p.tables e below (T2.setTop (mkF m 43 #[.val (.int p1), .val (.int p2), .val (.int ((194 : Int32) + ((p1 &&& (2147483647 : Int32)) % (51 : Int32)))), .val (.int ((128 : Int32) + (p2 &&& (63 : Int32)))), .val (.int (f1 ((194 : Int32) + ((p1 &&& (2147483647 : Int32)) % (51 : Int32))))), .unset] [])) t → Steps p.tables e below (T2.setTop (mkF m 40 #[.val (.int p1), .val (.int p2), .val (.int ((194 : Int32) + ((p1 &&& (2147483647 : Int32)) % (51 : Int32)))), .val (.int ((128 : Int32) + (p2 &&& (63 : Int32)))), .val (.int (f1 ((194 : Int32) + ((p1 &&& (2147483647 : Int32)) % (51 : Int32))))), .unset] [(.int (191 : Int32)), (.int (f1 ((194 : Int32) + ((p1 &&& (2147483647 : Int32)) % (51 : Int32)))))])) t := by
        intro t k
        refine XS.icmpNo X2.here hx rfl (hb hby at_40) rfl (tlt hc10).2.2.2 ?_
        exact k
      have K12 : ∀ t, Steps p.tables e below (T2.setTop (mkF m 44 #[.val (.int p1), .val (.int p2), .val (.int ((194 : Int32) + ((p1 &&& (2147483647 : Int32)) % (51 : Int32)))), .val (.int ((128 : Int32) + (p2 &&& (63 : Int32)))), .val (.int (f1 ((194 : Int32) + ((p1 &&& (2147483647 : Int32)) % (51 : Int32))))), .unset] [(.int (0 : Int32))])) t → Steps p.tables e below (T2.setTop (mkF m 43 #[.val (.int p1), .val (.int p2), .val (.int ((194 : Int32) + ((p1 &&& (2147483647 : Int32)) % (51 : Int32)))), .val (.int ((128 : Int32) + (p2 &&& (63 : Int32)))), .val (.int (f1 ((194 : Int32) + ((p1 &&& (2147483647 : Int32)) % (51 : Int32))))), .unset] [])) t := by
        intro t k
        refine XS.iconst X2.here hx rfl (hb hby at_43) ?_
        show Steps p.tables e below (T2.setTop (mkF m 44 #[.val (.int p1), .val (.int p2), .val (.int ((194 : Int32) + ((p1 &&& (2147483647 : Int32)) % (51 : Int32)))), .val (.int ((128 : Int32) + (p2 &&& (63 : Int32)))), .val (.int (f1 ((194 : Int32) + ((p1 &&& (2147483647 : Int32)) % (51 : Int32))))), .unset] [(.int (0 : Int32))])) t
        exact k
      obtain ⟨fs, hr, hrun, hended, hW, hsame⟩ := X2.leave (v := some (.int (0 : Int32))) (fun h => by rw [Bd.returns] at h; cases h)
      refine ⟨_, _, pre0 _ (K1 _ (K3 _ (K4 _ (K8 _ (K9 _ (K11 _ (K12 _ (retN X2 hx (t := .boolean) Bd.returns (by simp) (hb hby at_44) hr)))))))), hrun, hended, _, _, rfl, ?_, ⟨_, rfl⟩, hW, hsame.mono (by decide) (by decide)⟩
      show Q0 Z p1 p2 h0 n0 _ T2.heap _
      rw [e2]
      exact ⟨congrArg (fun z => some (Value.int z)) (show (0 : Int32) = f0 p1 p2 from Eq.symm ((if_neg hc5).trans (if_pos hc10))), N2, rfl⟩
    · have K13 : ∀ t, Steps p.tables e below (T2.setTop (mkF m 45 #[.val (.int p1), .val (.int p2), .val (.int ((194 : Int32) + ((p1 &&& (2147483647 : Int32)) % (51 : Int32)))), .val (.int ((128 : Int32) + (p2 &&& (63 : Int32)))), .val (.int (f1 ((194 : Int32) + ((p1 &&& (2147483647 : Int32)) % (51 : Int32))))), .unset] [])) t → Steps p.tables e below (T2.setTop (mkF m 40 #[.val (.int p1), .val (.int p2), .val (.int ((194 : Int32) + ((p1 &&& (2147483647 : Int32)) % (51 : Int32)))), .val (.int ((128 : Int32) + (p2 &&& (63 : Int32)))), .val (.int (f1 ((194 : Int32) + ((p1 &&& (2147483647 : Int32)) % (51 : Int32))))), .unset] [(.int (191 : Int32)), (.int (f1 ((194 : Int32) + ((p1 &&& (2147483647 : Int32)) % (51 : Int32)))))])) t := by
        intro t k
        refine XS.icmpYes X2.here hx rfl (pc0 := 40) (pc' := 45) rfl (hb hby at_40) rfl (flt hc10).2.2.2 (by decide) (by decide) ?_
        exact k
      have K14 : ∀ t, Steps p.tables e below (T2.setTop (mkF m 47 #[.val (.int p1), .val (.int p2), .val (.int ((194 : Int32) + ((p1 &&& (2147483647 : Int32)) % (51 : Int32)))), .val (.int ((128 : Int32) + (p2 &&& (63 : Int32)))), .val (.int (f1 ((194 : Int32) + ((p1 &&& (2147483647 : Int32)) % (51 : Int32))))), .unset] [(.int ((128 : Int32) + (p2 &&& (63 : Int32)))), (.int ((194 : Int32) + ((p1 &&& (2147483647 : Int32)) % (51 : Int32))))])) t → Steps p.tables e below (T2.setTop (mkF m 45 #[.val (.int p1), .val (.int p2), .val (.int ((194 : Int32) + ((p1 &&& (2147483647 : Int32)) % (51 : Int32)))), .val (.int ((128 : Int32) + (p2 &&& (63 : Int32)))), .val (.int (f1 ((194 : Int32) + ((p1 &&& (2147483647 : Int32)) % (51 : Int32))))), .unset] [])) t := by
        intro t k
        refine XS.iloadN X2.here hx rfl (hb hby at_45) rfl ?_
        show Steps p.tables e below (T2.setTop (mkF m 46 #[.val (.int p1), .val (.int p2), .val (.int ((194 : Int32) + ((p1 &&& (2147483647 : Int32)) % (51 : Int32)))), .val (.int ((128 : Int32) + (p2 &&& (63 : Int32)))), .val (.int (f1 ((194 : Int32) + ((p1 &&& (2147483647 : Int32)) % (51 : Int32))))), .unset] [(.int ((194 : Int32) + ((p1 &&& (2147483647 : Int32)) % (51 : Int32))))])) t
        refine XS.iloadN X2.here hx rfl (hb hby at_46) rfl ?_
        show Steps p.tables e below (T2.setTop (mkF m 47 #[.val (.int p1), .val (.int p2), .val (.int ((194 : Int32) + ((p1 &&& (2147483647 : Int32)) % (51 : Int32)))), .val (.int ((128 : Int32) + (p2 &&& (63 : Int32)))), .val (.int (f1 ((194 : Int32) + ((p1 &&& (2147483647 : Int32)) % (51 : Int32))))), .unset] [(.int ((128 : Int32) + (p2 &&& (63 : Int32)))), (.int ((194 : Int32) + ((p1 &&& (2147483647 : Int32)) % (51 : Int32))))])) t
        exact k
      obtain ⟨_, _, ⟨T15, L15, k15, n15⟩, -, X15, ⟨Lc15, hQ15, l15, y15, z15⟩, st15⟩ := Jvm.LawKit.callS X2 hx (y := (⟨"com/example/kirjatieto/kirjatieto/xml/Utf8BytesSecondLeastPinLaw", "decodeLeast", "(II)I"⟩ : MethodName)) hown (mvT hZ (hw _ (List.mem_of_getElem? (i := 5) rfl))) (mvT hZ (hw _ (List.mem_of_getElem? (i := 6) rfl))) (mvT hZ (hw _ (List.mem_of_getElem? (i := 7) rfl))) (mvT hZ (hw _ (List.mem_of_getElem? (i := 8) rfl))) (by decide) (backOf (W := 0) (rm2 l Z a0 hw [] ((194 : Int32) + ((p1 &&& (2147483647 : Int32)) % (51 : Int32))) ((128 : Int32) + (p2 &&& (63 : Int32))) h0 n0 Z0 ) hZ (hw _ (List.mem_of_getElem? (i := 8) rfl)) (hw _ (List.mem_of_getElem? (i := 7) rfl)) (by decide) (by decide)) (g := (mkF m 47 #[.val (.int p1), .val (.int p2), .val (.int ((194 : Int32) + ((p1 &&& (2147483647 : Int32)) % (51 : Int32)))), .val (.int ((128 : Int32) + (p2 &&& (63 : Int32)))), .val (.int (f1 ((194 : Int32) + ((p1 &&& (2147483647 : Int32)) % (51 : Int32))))), .unset] [(.int ((128 : Int32) + (p2 &&& (63 : Int32)))), (.int ((194 : Int32) + ((p1 &&& (2147483647 : Int32)) % (51 : Int32))))])) rfl (by rw [hml]; rfl) (argsL := [(.int ((194 : Int32) + ((p1 &&& (2147483647 : Int32)) % (51 : Int32)))), (.int ((128 : Int32) + (p2 &&& (63 : Int32))))]) (rest := []) (lenOf pd_1 rfl) rfl (by show 2 * 0 + _ ≤ _; exact Nat.le_of_eq rfl) (hb hby at_47) (fun _ _ => ⟨rfl, e2, (by decide : 0 + 0 ≤ _), (by decide : 0 + 0 ≤ _)⟩)
      dsimp only [Pt.U, Pt.locs, Pt.cells, Pt.slots] at X15 l15 y15 z15 st15 hQ15
      subst l15 y15 z15
      obtain ⟨rfl, N15q, e15⟩ := hQ15
      have N15 := Fr.app N2 N15q
      have K16 : ∀ t, Steps p.tables e below (T15.setTop (mkF m 50 #[.val (.int p1), .val (.int p2), .val (.int ((194 : Int32) + ((p1 &&& (2147483647 : Int32)) % (51 : Int32)))), .val (.int ((128 : Int32) + (p2 &&& (63 : Int32)))), .val (.int (f1 ((194 : Int32) + ((p1 &&& (2147483647 : Int32)) % (51 : Int32))))), .unset] [(.int (f2 ((194 : Int32) + ((p1 &&& (2147483647 : Int32)) % (51 : Int32))) ((128 : Int32) + (p2 &&& (63 : Int32)))))])) t → Steps p.tables e below (T2.setTop (mkF m 47 #[.val (.int p1), .val (.int p2), .val (.int ((194 : Int32) + ((p1 &&& (2147483647 : Int32)) % (51 : Int32)))), .val (.int ((128 : Int32) + (p2 &&& (63 : Int32)))), .val (.int (f1 ((194 : Int32) + ((p1 &&& (2147483647 : Int32)) % (51 : Int32))))), .unset] [(.int ((128 : Int32) + (p2 &&& (63 : Int32)))), (.int ((194 : Int32) + ((p1 &&& (2147483647 : Int32)) % (51 : Int32))))])) t := fun t k => st15 _ k
      have K17 : ∀ t, Steps p.tables e below (T15.setTop (mkF m 51 #[.val (.int p1), .val (.int p2), .val (.int ((194 : Int32) + ((p1 &&& (2147483647 : Int32)) % (51 : Int32)))), .val (.int ((128 : Int32) + (p2 &&& (63 : Int32)))), .val (.int (f1 ((194 : Int32) + ((p1 &&& (2147483647 : Int32)) % (51 : Int32))))), .unset] [(.int ((194 : Int32) + ((p1 &&& (2147483647 : Int32)) % (51 : Int32)))), (.int (f2 ((194 : Int32) + ((p1 &&& (2147483647 : Int32)) % (51 : Int32))) ((128 : Int32) + (p2 &&& (63 : Int32)))))])) t → Steps p.tables e below (T15.setTop (mkF m 50 #[.val (.int p1), .val (.int p2), .val (.int ((194 : Int32) + ((p1 &&& (2147483647 : Int32)) % (51 : Int32)))), .val (.int ((128 : Int32) + (p2 &&& (63 : Int32)))), .val (.int (f1 ((194 : Int32) + ((p1 &&& (2147483647 : Int32)) % (51 : Int32))))), .unset] [(.int (f2 ((194 : Int32) + ((p1 &&& (2147483647 : Int32)) % (51 : Int32))) ((128 : Int32) + (p2 &&& (63 : Int32)))))])) t := by
        intro t k
        refine XS.iloadN X15.here hx rfl (hb hby at_50) rfl ?_
        show Steps p.tables e below (T15.setTop (mkF m 51 #[.val (.int p1), .val (.int p2), .val (.int ((194 : Int32) + ((p1 &&& (2147483647 : Int32)) % (51 : Int32)))), .val (.int ((128 : Int32) + (p2 &&& (63 : Int32)))), .val (.int (f1 ((194 : Int32) + ((p1 &&& (2147483647 : Int32)) % (51 : Int32))))), .unset] [(.int ((194 : Int32) + ((p1 &&& (2147483647 : Int32)) % (51 : Int32)))), (.int (f2 ((194 : Int32) + ((p1 &&& (2147483647 : Int32)) % (51 : Int32))) ((128 : Int32) + (p2 &&& (63 : Int32)))))])) t
        exact k
      obtain ⟨_, _, ⟨T18, L18, k18, n18⟩, -, X18, ⟨Lc18, hQ18, l18, y18, z18⟩, st18⟩ := Jvm.LawKit.callS X15 hx (y := (⟨"com/example/kirjatieto/kirjatieto/xml/Utf8BytesSecondLeastPinLaw", "minCodePoint", "(I)I"⟩ : MethodName)) hown (mvT hZ (hw _ (List.mem_of_getElem? (i := 9) rfl))) (mvT hZ (hw _ (List.mem_of_getElem? (i := 10) rfl))) (mvT hZ (hw _ (List.mem_of_getElem? (i := 7) rfl))) (mvT hZ (hw _ (List.mem_of_getElem? (i := 11) rfl))) (by decide) (backOf (W := 1) (rm3 l Z a0 hw [] ((194 : Int32) + ((p1 &&& (2147483647 : Int32)) % (51 : Int32))) h0 n0 Z0 ) hZ (hw _ (List.mem_of_getElem? (i := 11) rfl)) (hw _ (List.mem_of_getElem? (i := 7) rfl)) (by decide) (by decide)) (g := (mkF m 51 #[.val (.int p1), .val (.int p2), .val (.int ((194 : Int32) + ((p1 &&& (2147483647 : Int32)) % (51 : Int32)))), .val (.int ((128 : Int32) + (p2 &&& (63 : Int32)))), .val (.int (f1 ((194 : Int32) + ((p1 &&& (2147483647 : Int32)) % (51 : Int32))))), .unset] [(.int ((194 : Int32) + ((p1 &&& (2147483647 : Int32)) % (51 : Int32)))), (.int (f2 ((194 : Int32) + ((p1 &&& (2147483647 : Int32)) % (51 : Int32))) ((128 : Int32) + (p2 &&& (63 : Int32)))))])) rfl (by rw [hml]; rfl) (argsL := [(.int ((194 : Int32) + ((p1 &&& (2147483647 : Int32)) % (51 : Int32))))]) (rest := [(.int (f2 ((194 : Int32) + ((p1 &&& (2147483647 : Int32)) % (51 : Int32))) ((128 : Int32) + (p2 &&& (63 : Int32)))))]) (lenOf pd_0 rfl) rfl (by show 2 * 0 + _ ≤ _; exact Nat.le_of_eq rfl) (hb hby at_51) (fun _ _ => ⟨rfl, e15, (by decide : 0 + 0 ≤ _), (by decide : 0 + 0 ≤ _)⟩)
      dsimp only [Pt.U, Pt.locs, Pt.cells, Pt.slots] at X18 l18 y18 z18 st18 hQ18
      subst l18 y18 z18
      obtain ⟨rfl, N18q, e18⟩ := hQ18
      have N18 := Fr.app N15 N18q
      have K19 : ∀ t, Steps p.tables e below (T18.setTop (mkF m 54 #[.val (.int p1), .val (.int p2), .val (.int ((194 : Int32) + ((p1 &&& (2147483647 : Int32)) % (51 : Int32)))), .val (.int ((128 : Int32) + (p2 &&& (63 : Int32)))), .val (.int (f1 ((194 : Int32) + ((p1 &&& (2147483647 : Int32)) % (51 : Int32))))), .unset] [(.int (f3 ((194 : Int32) + ((p1 &&& (2147483647 : Int32)) % (51 : Int32))))), (.int (f2 ((194 : Int32) + ((p1 &&& (2147483647 : Int32)) % (51 : Int32))) ((128 : Int32) + (p2 &&& (63 : Int32)))))])) t → Steps p.tables e below (T15.setTop (mkF m 51 #[.val (.int p1), .val (.int p2), .val (.int ((194 : Int32) + ((p1 &&& (2147483647 : Int32)) % (51 : Int32)))), .val (.int ((128 : Int32) + (p2 &&& (63 : Int32)))), .val (.int (f1 ((194 : Int32) + ((p1 &&& (2147483647 : Int32)) % (51 : Int32))))), .unset] [(.int ((194 : Int32) + ((p1 &&& (2147483647 : Int32)) % (51 : Int32)))), (.int (f2 ((194 : Int32) + ((p1 &&& (2147483647 : Int32)) % (51 : Int32))) ((128 : Int32) + (p2 &&& (63 : Int32)))))])) t := fun t k => st18 _ k
      have K20 : ∀ t, Steps p.tables e below (T18.setTop (mkF m 62 #[.val (.int p1), .val (.int p2), .val (.int ((194 : Int32) + ((p1 &&& (2147483647 : Int32)) % (51 : Int32)))), .val (.int ((128 : Int32) + (p2 &&& (63 : Int32)))), .val (.int (f1 ((194 : Int32) + ((p1 &&& (2147483647 : Int32)) % (51 : Int32))))), .unset] [(.int (f0_u1 p1 p2))])) t → Steps p.tables e below (T18.setTop (mkF m 54 #[.val (.int p1), .val (.int p2), .val (.int ((194 : Int32) + ((p1 &&& (2147483647 : Int32)) % (51 : Int32)))), .val (.int ((128 : Int32) + (p2 &&& (63 : Int32)))), .val (.int (f1 ((194 : Int32) + ((p1 &&& (2147483647 : Int32)) % (51 : Int32))))), .unset] [(.int (f3 ((194 : Int32) + ((p1 &&& (2147483647 : Int32)) % (51 : Int32))))), (.int (f2 ((194 : Int32) + ((p1 &&& (2147483647 : Int32)) % (51 : Int32))) ((128 : Int32) + (p2 &&& (63 : Int32)))))])) t := by
        intro t k
        by_cases hc20 : (f2 ((194 : Int32) + ((p1 &&& (2147483647 : Int32)) % (51 : Int32))) ((128 : Int32) + (p2 &&& (63 : Int32)))) < (f3 ((194 : Int32) + ((p1 &&& (2147483647 : Int32)) % (51 : Int32))))
        · have K21 : ∀ t, Steps p.tables e below (T18.setTop (mkF m 61 #[.val (.int p1), .val (.int p2), .val (.int ((194 : Int32) + ((p1 &&& (2147483647 : Int32)) % (51 : Int32)))), .val (.int ((128 : Int32) + (p2 &&& (63 : Int32)))), .val (.int (f1 ((194 : Int32) + ((p1 &&& (2147483647 : Int32)) % (51 : Int32))))), .unset] [])) t → Steps p.tables e below (T18.setTop (mkF m 54 #[.val (.int p1), .val (.int p2), .val (.int ((194 : Int32) + ((p1 &&& (2147483647 : Int32)) % (51 : Int32)))), .val (.int ((128 : Int32) + (p2 &&& (63 : Int32)))), .val (.int (f1 ((194 : Int32) + ((p1 &&& (2147483647 : Int32)) % (51 : Int32))))), .unset] [(.int (f3 ((194 : Int32) + ((p1 &&& (2147483647 : Int32)) % (51 : Int32))))), (.int (f2 ((194 : Int32) + ((p1 &&& (2147483647 : Int32)) % (51 : Int32))) ((128 : Int32) + (p2 &&& (63 : Int32)))))])) t := by
            intro t k
            refine XS.icmpYes X18.here hx rfl (pc0 := 54) (pc' := 61) rfl (hb hby at_54) rfl (tlt hc20).1 (by decide) (by decide) ?_
            exact k
          have K22 : ∀ t, Steps p.tables e below (T18.setTop (mkF m 62 #[.val (.int p1), .val (.int p2), .val (.int ((194 : Int32) + ((p1 &&& (2147483647 : Int32)) % (51 : Int32)))), .val (.int ((128 : Int32) + (p2 &&& (63 : Int32)))), .val (.int (f1 ((194 : Int32) + ((p1 &&& (2147483647 : Int32)) % (51 : Int32))))), .unset] [(.int (0 : Int32))])) t → Steps p.tables e below (T18.setTop (mkF m 61 #[.val (.int p1), .val (.int p2), .val (.int ((194 : Int32) + ((p1 &&& (2147483647 : Int32)) % (51 : Int32)))), .val (.int ((128 : Int32) + (p2 &&& (63 : Int32)))), .val (.int (f1 ((194 : Int32) + ((p1 &&& (2147483647 : Int32)) % (51 : Int32))))), .unset] [])) t := by
            intro t k
            refine XS.iconst X18.here hx rfl (hb hby at_61) ?_
            show Steps p.tables e below (T18.setTop (mkF m 62 #[.val (.int p1), .val (.int p2), .val (.int ((194 : Int32) + ((p1 &&& (2147483647 : Int32)) % (51 : Int32)))), .val (.int ((128 : Int32) + (p2 &&& (63 : Int32)))), .val (.int (f1 ((194 : Int32) + ((p1 &&& (2147483647 : Int32)) % (51 : Int32))))), .unset] [(.int (0 : Int32))])) t
            exact k
          rw [show (f0_u1 p1 p2) = (0 : Int32) from if_pos hc20] at k
          exact K21 _ (K22 _ (k))
        · have K23 : ∀ t, Steps p.tables e below (T18.setTop (mkF m 57 #[.val (.int p1), .val (.int p2), .val (.int ((194 : Int32) + ((p1 &&& (2147483647 : Int32)) % (51 : Int32)))), .val (.int ((128 : Int32) + (p2 &&& (63 : Int32)))), .val (.int (f1 ((194 : Int32) + ((p1 &&& (2147483647 : Int32)) % (51 : Int32))))), .unset] [])) t → Steps p.tables e below (T18.setTop (mkF m 54 #[.val (.int p1), .val (.int p2), .val (.int ((194 : Int32) + ((p1 &&& (2147483647 : Int32)) % (51 : Int32)))), .val (.int ((128 : Int32) + (p2 &&& (63 : Int32)))), .val (.int (f1 ((194 : Int32) + ((p1 &&& (2147483647 : Int32)) % (51 : Int32))))), .unset] [(.int (f3 ((194 : Int32) + ((p1 &&& (2147483647 : Int32)) % (51 : Int32))))), (.int (f2 ((194 : Int32) + ((p1 &&& (2147483647 : Int32)) % (51 : Int32))) ((128 : Int32) + (p2 &&& (63 : Int32)))))])) t := by
            intro t k
            refine XS.icmpNo X18.here hx rfl (hb hby at_54) rfl (flt hc20).1 ?_
            exact k
          have K24 : ∀ t, Steps p.tables e below (T18.setTop (mkF m 62 #[.val (.int p1), .val (.int p2), .val (.int ((194 : Int32) + ((p1 &&& (2147483647 : Int32)) % (51 : Int32)))), .val (.int ((128 : Int32) + (p2 &&& (63 : Int32)))), .val (.int (f1 ((194 : Int32) + ((p1 &&& (2147483647 : Int32)) % (51 : Int32))))), .unset] [(.int (1 : Int32))])) t → Steps p.tables e below (T18.setTop (mkF m 57 #[.val (.int p1), .val (.int p2), .val (.int ((194 : Int32) + ((p1 &&& (2147483647 : Int32)) % (51 : Int32)))), .val (.int ((128 : Int32) + (p2 &&& (63 : Int32)))), .val (.int (f1 ((194 : Int32) + ((p1 &&& (2147483647 : Int32)) % (51 : Int32))))), .unset] [])) t := by
            intro t k
            refine XS.iconst X18.here hx rfl (hb hby at_57) ?_
            show Steps p.tables e below (T18.setTop (mkF m 58 #[.val (.int p1), .val (.int p2), .val (.int ((194 : Int32) + ((p1 &&& (2147483647 : Int32)) % (51 : Int32)))), .val (.int ((128 : Int32) + (p2 &&& (63 : Int32)))), .val (.int (f1 ((194 : Int32) + ((p1 &&& (2147483647 : Int32)) % (51 : Int32))))), .unset] [(.int (1 : Int32))])) t
            refine XS.goto X18.here hx rfl (pc0 := 58) (pc' := 62) rfl (hb hby at_58) (by decide) (by decide) ?_
            show Steps p.tables e below (T18.setTop (mkF m 62 #[.val (.int p1), .val (.int p2), .val (.int ((194 : Int32) + ((p1 &&& (2147483647 : Int32)) % (51 : Int32)))), .val (.int ((128 : Int32) + (p2 &&& (63 : Int32)))), .val (.int (f1 ((194 : Int32) + ((p1 &&& (2147483647 : Int32)) % (51 : Int32))))), .unset] [(.int (1 : Int32))])) t
            exact k
          rw [show (f0_u1 p1 p2) = (1 : Int32) from if_neg hc20] at k
          exact K23 _ (K24 _ (k))
      have K25 : ∀ t, Steps p.tables e below (T18.setTop (mkF m 67 #[.val (.int p1), .val (.int p2), .val (.int ((194 : Int32) + ((p1 &&& (2147483647 : Int32)) % (51 : Int32)))), .val (.int ((128 : Int32) + (p2 &&& (63 : Int32)))), .val (.int (f1 ((194 : Int32) + ((p1 &&& (2147483647 : Int32)) % (51 : Int32))))), .val (.int (f0_u1 p1 p2))] [(.int (f1 ((194 : Int32) + ((p1 &&& (2147483647 : Int32)) % (51 : Int32))))), (.int ((128 : Int32) + (p2 &&& (63 : Int32))))])) t → Steps p.tables e below (T18.setTop (mkF m 62 #[.val (.int p1), .val (.int p2), .val (.int ((194 : Int32) + ((p1 &&& (2147483647 : Int32)) % (51 : Int32)))), .val (.int ((128 : Int32) + (p2 &&& (63 : Int32)))), .val (.int (f1 ((194 : Int32) + ((p1 &&& (2147483647 : Int32)) % (51 : Int32))))), .unset] [(.int (f0_u1 p1 p2))])) t := by
        intro t k
        refine XS.istore X18.here hx rfl (hb hby at_62) rfl (l' := #[.val (.int p1), .val (.int p2), .val (.int ((194 : Int32) + ((p1 &&& (2147483647 : Int32)) % (51 : Int32)))), .val (.int ((128 : Int32) + (p2 &&& (63 : Int32)))), .val (.int (f1 ((194 : Int32) + ((p1 &&& (2147483647 : Int32)) % (51 : Int32))))), .val (.int (f0_u1 p1 p2))]) rfl ?_
        show Steps p.tables e below (T18.setTop (mkF m 64 #[.val (.int p1), .val (.int p2), .val (.int ((194 : Int32) + ((p1 &&& (2147483647 : Int32)) % (51 : Int32)))), .val (.int ((128 : Int32) + (p2 &&& (63 : Int32)))), .val (.int (f1 ((194 : Int32) + ((p1 &&& (2147483647 : Int32)) % (51 : Int32))))), .val (.int (f0_u1 p1 p2))] [])) t
        refine XS.iloadN X18.here hx rfl (hb hby at_64) rfl ?_
        show Steps p.tables e below (T18.setTop (mkF m 65 #[.val (.int p1), .val (.int p2), .val (.int ((194 : Int32) + ((p1 &&& (2147483647 : Int32)) % (51 : Int32)))), .val (.int ((128 : Int32) + (p2 &&& (63 : Int32)))), .val (.int (f1 ((194 : Int32) + ((p1 &&& (2147483647 : Int32)) % (51 : Int32))))), .val (.int (f0_u1 p1 p2))] [(.int ((128 : Int32) + (p2 &&& (63 : Int32))))])) t
        refine XS.iload X18.here hx rfl (hb hby at_65) rfl ?_
        show Steps p.tables e below (T18.setTop (mkF m 67 #[.val (.int p1), .val (.int p2), .val (.int ((194 : Int32) + ((p1 &&& (2147483647 : Int32)) % (51 : Int32)))), .val (.int ((128 : Int32) + (p2 &&& (63 : Int32)))), .val (.int (f1 ((194 : Int32) + ((p1 &&& (2147483647 : Int32)) % (51 : Int32))))), .val (.int (f0_u1 p1 p2))] [(.int (f1 ((194 : Int32) + ((p1 &&& (2147483647 : Int32)) % (51 : Int32))))), (.int ((128 : Int32) + (p2 &&& (63 : Int32))))])) t
        exact k
      have K26 : ∀ t, Steps p.tables e below (T18.setTop (mkF m 75 #[.val (.int p1), .val (.int p2), .val (.int ((194 : Int32) + ((p1 &&& (2147483647 : Int32)) % (51 : Int32)))), .val (.int ((128 : Int32) + (p2 &&& (63 : Int32)))), .val (.int (f1 ((194 : Int32) + ((p1 &&& (2147483647 : Int32)) % (51 : Int32))))), .val (.int (f0_u1 p1 p2))] [(.int (f0_u2 p1 p2))])) t → Steps p.tables e below (T18.setTop (mkF m 67 #[.val (.int p1), .val (.int p2), .val (.int ((194 : Int32) + ((p1 &&& (2147483647 : Int32)) % (51 : Int32)))), .val (.int ((128 : Int32) + (p2 &&& (63 : Int32)))), .val (.int (f1 ((194 : Int32) + ((p1 &&& (2147483647 : Int32)) % (51 : Int32))))), .val (.int (f0_u1 p1 p2))] [(.int (f1 ((194 : Int32) + ((p1 &&& (2147483647 : Int32)) % (51 : Int32))))), (.int ((128 : Int32) + (p2 &&& (63 : Int32))))])) t := by
        intro t k
        by_cases hc26 : ((128 : Int32) + (p2 &&& (63 : Int32))) < (f1 ((194 : Int32) + ((p1 &&& (2147483647 : Int32)) % (51 : Int32))))
        · have K27 : ∀ t, Steps p.tables e below (T18.setTop (mkF m 74 #[.val (.int p1), .val (.int p2), .val (.int ((194 : Int32) + ((p1 &&& (2147483647 : Int32)) % (51 : Int32)))), .val (.int ((128 : Int32) + (p2 &&& (63 : Int32)))), .val (.int (f1 ((194 : Int32) + ((p1 &&& (2147483647 : Int32)) % (51 : Int32))))), .val (.int (f0_u1 p1 p2))] [])) t → Steps p.tables e below (T18.setTop (mkF m 67 #[.val (.int p1), .val (.int p2), .val (.int ((194 : Int32) + ((p1 &&& (2147483647 : Int32)) % (51 : Int32)))), .val (.int ((128 : Int32) + (p2 &&& (63 : Int32)))), .val (.int (f1 ((194 : Int32) + ((p1 &&& (2147483647 : Int32)) % (51 : Int32))))), .val (.int (f0_u1 p1 p2))] [(.int (f1 ((194 : Int32) + ((p1 &&& (2147483647 : Int32)) % (51 : Int32))))), (.int ((128 : Int32) + (p2 &&& (63 : Int32))))])) t := by
            intro t k
            refine XS.icmpYes X18.here hx rfl (pc0 := 67) (pc' := 74) rfl (hb hby at_67) rfl (tlt hc26).1 (by decide) (by decide) ?_
            exact k
          have K28 : ∀ t, Steps p.tables e below (T18.setTop (mkF m 75 #[.val (.int p1), .val (.int p2), .val (.int ((194 : Int32) + ((p1 &&& (2147483647 : Int32)) % (51 : Int32)))), .val (.int ((128 : Int32) + (p2 &&& (63 : Int32)))), .val (.int (f1 ((194 : Int32) + ((p1 &&& (2147483647 : Int32)) % (51 : Int32))))), .val (.int (f0_u1 p1 p2))] [(.int (0 : Int32))])) t → Steps p.tables e below (T18.setTop (mkF m 74 #[.val (.int p1), .val (.int p2), .val (.int ((194 : Int32) + ((p1 &&& (2147483647 : Int32)) % (51 : Int32)))), .val (.int ((128 : Int32) + (p2 &&& (63 : Int32)))), .val (.int (f1 ((194 : Int32) + ((p1 &&& (2147483647 : Int32)) % (51 : Int32))))), .val (.int (f0_u1 p1 p2))] [])) t := by
            intro t k
            refine XS.iconst X18.here hx rfl (hb hby at_74) ?_
            show Steps p.tables e below (T18.setTop (mkF m 75 #[.val (.int p1), .val (.int p2), .val (.int ((194 : Int32) + ((p1 &&& (2147483647 : Int32)) % (51 : Int32)))), .val (.int ((128 : Int32) + (p2 &&& (63 : Int32)))), .val (.int (f1 ((194 : Int32) + ((p1 &&& (2147483647 : Int32)) % (51 : Int32))))), .val (.int (f0_u1 p1 p2))] [(.int (0 : Int32))])) t
            exact k
          rw [show (f0_u2 p1 p2) = (0 : Int32) from if_pos hc26] at k
          exact K27 _ (K28 _ (k))
        · have K29 : ∀ t, Steps p.tables e below (T18.setTop (mkF m 70 #[.val (.int p1), .val (.int p2), .val (.int ((194 : Int32) + ((p1 &&& (2147483647 : Int32)) % (51 : Int32)))), .val (.int ((128 : Int32) + (p2 &&& (63 : Int32)))), .val (.int (f1 ((194 : Int32) + ((p1 &&& (2147483647 : Int32)) % (51 : Int32))))), .val (.int (f0_u1 p1 p2))] [])) t → Steps p.tables e below (T18.setTop (mkF m 67 #[.val (.int p1), .val (.int p2), .val (.int ((194 : Int32) + ((p1 &&& (2147483647 : Int32)) % (51 : Int32)))), .val (.int ((128 : Int32) + (p2 &&& (63 : Int32)))), .val (.int (f1 ((194 : Int32) + ((p1 &&& (2147483647 : Int32)) % (51 : Int32))))), .val (.int (f0_u1 p1 p2))] [(.int (f1 ((194 : Int32) + ((p1 &&& (2147483647 : Int32)) % (51 : Int32))))), (.int ((128 : Int32) + (p2 &&& (63 : Int32))))])) t := by
            intro t k
            refine XS.icmpNo X18.here hx rfl (hb hby at_67) rfl (flt hc26).1 ?_
            exact k
          have K30 : ∀ t, Steps p.tables e below (T18.setTop (mkF m 75 #[.val (.int p1), .val (.int p2), .val (.int ((194 : Int32) + ((p1 &&& (2147483647 : Int32)) % (51 : Int32)))), .val (.int ((128 : Int32) + (p2 &&& (63 : Int32)))), .val (.int (f1 ((194 : Int32) + ((p1 &&& (2147483647 : Int32)) % (51 : Int32))))), .val (.int (f0_u1 p1 p2))] [(.int (1 : Int32))])) t → Steps p.tables e below (T18.setTop (mkF m 70 #[.val (.int p1), .val (.int p2), .val (.int ((194 : Int32) + ((p1 &&& (2147483647 : Int32)) % (51 : Int32)))), .val (.int ((128 : Int32) + (p2 &&& (63 : Int32)))), .val (.int (f1 ((194 : Int32) + ((p1 &&& (2147483647 : Int32)) % (51 : Int32))))), .val (.int (f0_u1 p1 p2))] [])) t := by
            intro t k
            refine XS.iconst X18.here hx rfl (hb hby at_70) ?_
            show Steps p.tables e below (T18.setTop (mkF m 71 #[.val (.int p1), .val (.int p2), .val (.int ((194 : Int32) + ((p1 &&& (2147483647 : Int32)) % (51 : Int32)))), .val (.int ((128 : Int32) + (p2 &&& (63 : Int32)))), .val (.int (f1 ((194 : Int32) + ((p1 &&& (2147483647 : Int32)) % (51 : Int32))))), .val (.int (f0_u1 p1 p2))] [(.int (1 : Int32))])) t
            refine XS.goto X18.here hx rfl (pc0 := 71) (pc' := 75) rfl (hb hby at_71) (by decide) (by decide) ?_
            show Steps p.tables e below (T18.setTop (mkF m 75 #[.val (.int p1), .val (.int p2), .val (.int ((194 : Int32) + ((p1 &&& (2147483647 : Int32)) % (51 : Int32)))), .val (.int ((128 : Int32) + (p2 &&& (63 : Int32)))), .val (.int (f1 ((194 : Int32) + ((p1 &&& (2147483647 : Int32)) % (51 : Int32))))), .val (.int (f0_u1 p1 p2))] [(.int (1 : Int32))])) t
            exact k
          rw [show (f0_u2 p1 p2) = (1 : Int32) from if_neg hc26] at k
          exact K29 _ (K30 _ (k))
      have K31 : ∀ t, Steps p.tables e below (T18.setTop (mkF m 77 #[.val (.int p1), .val (.int p2), .val (.int ((194 : Int32) + ((p1 &&& (2147483647 : Int32)) % (51 : Int32)))), .val (.int ((128 : Int32) + (p2 &&& (63 : Int32)))), .val (.int (f1 ((194 : Int32) + ((p1 &&& (2147483647 : Int32)) % (51 : Int32))))), .val (.int (f0_u1 p1 p2))] [(.int (f0_u1 p1 p2)), (.int (f0_u2 p1 p2))])) t → Steps p.tables e below (T18.setTop (mkF m 75 #[.val (.int p1), .val (.int p2), .val (.int ((194 : Int32) + ((p1 &&& (2147483647 : Int32)) % (51 : Int32)))), .val (.int ((128 : Int32) + (p2 &&& (63 : Int32)))), .val (.int (f1 ((194 : Int32) + ((p1 &&& (2147483647 : Int32)) % (51 : Int32))))), .val (.int (f0_u1 p1 p2))] [(.int (f0_u2 p1 p2))])) t := by
        intro t k
        refine XS.iload X18.here hx rfl (hb hby at_75) rfl ?_
        show Steps p.tables e below (T18.setTop (mkF m 77 #[.val (.int p1), .val (.int p2), .val (.int ((194 : Int32) + ((p1 &&& (2147483647 : Int32)) % (51 : Int32)))), .val (.int ((128 : Int32) + (p2 &&& (63 : Int32)))), .val (.int (f1 ((194 : Int32) + ((p1 &&& (2147483647 : Int32)) % (51 : Int32))))), .val (.int (f0_u1 p1 p2))] [(.int (f0_u1 p1 p2)), (.int (f0_u2 p1 p2))])) t
        exact k
      by_cases hc32 : (f0_u2 p1 p2) = (f0_u1 p1 p2)
      · have K33 : ∀ t, Steps p.tables e below (T18.setTop (mkF m 80 #[.val (.int p1), .val (.int p2), .val (.int ((194 : Int32) + ((p1 &&& (2147483647 : Int32)) % (51 : Int32)))), .val (.int ((128 : Int32) + (p2 &&& (63 : Int32)))), .val (.int (f1 ((194 : Int32) + ((p1 &&& (2147483647 : Int32)) % (51 : Int32))))), .val (.int (f0_u1 p1 p2))] [])) t → Steps p.tables e below (T18.setTop (mkF m 77 #[.val (.int p1), .val (.int p2), .val (.int ((194 : Int32) + ((p1 &&& (2147483647 : Int32)) % (51 : Int32)))), .val (.int ((128 : Int32) + (p2 &&& (63 : Int32)))), .val (.int (f1 ((194 : Int32) + ((p1 &&& (2147483647 : Int32)) % (51 : Int32))))), .val (.int (f0_u1 p1 p2))] [(.int (f0_u1 p1 p2)), (.int (f0_u2 p1 p2))])) t := by
          intro t k
          refine XS.icmpNo X18.here hx rfl (hb hby at_77) rfl (teq hc32).2 ?_
          exact k
        have K34 : ∀ t, Steps p.tables e below (T18.setTop (mkF m 85 #[.val (.int p1), .val (.int p2), .val (.int ((194 : Int32) + ((p1 &&& (2147483647 : Int32)) % (51 : Int32)))), .val (.int ((128 : Int32) + (p2 &&& (63 : Int32)))), .val (.int (f1 ((194 : Int32) + ((p1 &&& (2147483647 : Int32)) % (51 : Int32))))), .val (.int (f0_u1 p1 p2))] [(.int (1 : Int32))])) t → Steps p.tables e below (T18.setTop (mkF m 80 #[.val (.int p1), .val (.int p2), .val (.int ((194 : Int32) + ((p1 &&& (2147483647 : Int32)) % (51 : Int32)))), .val (.int ((128 : Int32) + (p2 &&& (63 : Int32)))), .val (.int (f1 ((194 : Int32) + ((p1 &&& (2147483647 : Int32)) % (51 : Int32))))), .val (.int (f0_u1 p1 p2))] [])) t := by
          intro t k
          refine XS.iconst X18.here hx rfl (hb hby at_80) ?_
          show Steps p.tables e below (T18.setTop (mkF m 81 #[.val (.int p1), .val (.int p2), .val (.int ((194 : Int32) + ((p1 &&& (2147483647 : Int32)) % (51 : Int32)))), .val (.int ((128 : Int32) + (p2 &&& (63 : Int32)))), .val (.int (f1 ((194 : Int32) + ((p1 &&& (2147483647 : Int32)) % (51 : Int32))))), .val (.int (f0_u1 p1 p2))] [(.int (1 : Int32))])) t
          refine XS.goto X18.here hx rfl (pc0 := 81) (pc' := 85) rfl (hb hby at_81) (by decide) (by decide) ?_
          show Steps p.tables e below (T18.setTop (mkF m 85 #[.val (.int p1), .val (.int p2), .val (.int ((194 : Int32) + ((p1 &&& (2147483647 : Int32)) % (51 : Int32)))), .val (.int ((128 : Int32) + (p2 &&& (63 : Int32)))), .val (.int (f1 ((194 : Int32) + ((p1 &&& (2147483647 : Int32)) % (51 : Int32))))), .val (.int (f0_u1 p1 p2))] [(.int (1 : Int32))])) t
          exact k
        obtain ⟨fs, hr, hrun, hended, hW, hsame⟩ := X18.leave (v := some (.int (1 : Int32))) (fun h => by rw [Bd.returns] at h; cases h)
        refine ⟨_, _, pre0 _ (K1 _ (K3 _ (K4 _ (K8 _ (K9 _ (K13 _ (K14 _ (K16 _ (K17 _ (K19 _ (K20 _ (K25 _ (K26 _ (K31 _ (K33 _ (K34 _ (retN X18 hx (t := .boolean) Bd.returns (by simp) (hb hby at_85) hr))))))))))))))))), hrun, hended, _, _, rfl, ?_, ⟨_, rfl⟩, hW, hsame.mono (by decide) (by decide)⟩
        show Q0 Z p1 p2 h0 n0 _ T18.heap _
        rw [e18]
        exact ⟨congrArg (fun z => some (Value.int z)) (show (1 : Int32) = f0 p1 p2 from Eq.symm ((if_neg hc5).trans ((if_neg hc10).trans (if_pos hc32)))), N18, rfl⟩
      · have K35 : ∀ t, Steps p.tables e below (T18.setTop (mkF m 84 #[.val (.int p1), .val (.int p2), .val (.int ((194 : Int32) + ((p1 &&& (2147483647 : Int32)) % (51 : Int32)))), .val (.int ((128 : Int32) + (p2 &&& (63 : Int32)))), .val (.int (f1 ((194 : Int32) + ((p1 &&& (2147483647 : Int32)) % (51 : Int32))))), .val (.int (f0_u1 p1 p2))] [])) t → Steps p.tables e below (T18.setTop (mkF m 77 #[.val (.int p1), .val (.int p2), .val (.int ((194 : Int32) + ((p1 &&& (2147483647 : Int32)) % (51 : Int32)))), .val (.int ((128 : Int32) + (p2 &&& (63 : Int32)))), .val (.int (f1 ((194 : Int32) + ((p1 &&& (2147483647 : Int32)) % (51 : Int32))))), .val (.int (f0_u1 p1 p2))] [(.int (f0_u1 p1 p2)), (.int (f0_u2 p1 p2))])) t := by
          intro t k
          refine XS.icmpYes X18.here hx rfl (pc0 := 77) (pc' := 84) rfl (hb hby at_77) rfl (feq hc32).2 (by decide) (by decide) ?_
          exact k
        have K36 : ∀ t, Steps p.tables e below (T18.setTop (mkF m 85 #[.val (.int p1), .val (.int p2), .val (.int ((194 : Int32) + ((p1 &&& (2147483647 : Int32)) % (51 : Int32)))), .val (.int ((128 : Int32) + (p2 &&& (63 : Int32)))), .val (.int (f1 ((194 : Int32) + ((p1 &&& (2147483647 : Int32)) % (51 : Int32))))), .val (.int (f0_u1 p1 p2))] [(.int (0 : Int32))])) t → Steps p.tables e below (T18.setTop (mkF m 84 #[.val (.int p1), .val (.int p2), .val (.int ((194 : Int32) + ((p1 &&& (2147483647 : Int32)) % (51 : Int32)))), .val (.int ((128 : Int32) + (p2 &&& (63 : Int32)))), .val (.int (f1 ((194 : Int32) + ((p1 &&& (2147483647 : Int32)) % (51 : Int32))))), .val (.int (f0_u1 p1 p2))] [])) t := by
          intro t k
          refine XS.iconst X18.here hx rfl (hb hby at_84) ?_
          show Steps p.tables e below (T18.setTop (mkF m 85 #[.val (.int p1), .val (.int p2), .val (.int ((194 : Int32) + ((p1 &&& (2147483647 : Int32)) % (51 : Int32)))), .val (.int ((128 : Int32) + (p2 &&& (63 : Int32)))), .val (.int (f1 ((194 : Int32) + ((p1 &&& (2147483647 : Int32)) % (51 : Int32))))), .val (.int (f0_u1 p1 p2))] [(.int (0 : Int32))])) t
          exact k
        obtain ⟨fs, hr, hrun, hended, hW, hsame⟩ := X18.leave (v := some (.int (0 : Int32))) (fun h => by rw [Bd.returns] at h; cases h)
        refine ⟨_, _, pre0 _ (K1 _ (K3 _ (K4 _ (K8 _ (K9 _ (K13 _ (K14 _ (K16 _ (K17 _ (K19 _ (K20 _ (K25 _ (K26 _ (K31 _ (K35 _ (K36 _ (retN X18 hx (t := .boolean) Bd.returns (by simp) (hb hby at_85) hr))))))))))))))))), hrun, hended, _, _, rfl, ?_, ⟨_, rfl⟩, hW, hsame.mono (by decide) (by decide)⟩
        show Q0 Z p1 p2 h0 n0 _ T18.heap _
        rw [e18]
        exact ⟨congrArg (fun z => some (Value.int z)) (show (0 : Int32) = f0 p1 p2 from Eq.symm ((if_neg hc5).trans ((if_neg hc10).trans (if_neg hc32)))), N18, rfl⟩
theorem own_nat (b : Int32) : b = Int32.ofNat b.toBitVec.toNat := by
  apply Int32.toBitVec_inj.mp
  simp
theorem own_mask (a m : Int32) (k : Nat) (h : m.toBitVec.toNat = k) : ∃ n, n < k + 1 ∧ a &&& m = Int32.ofNat n := by
  refine ⟨(a &&& m).toBitVec.toNat, ?_, own_nat _⟩
  have : (a &&& m).toBitVec.toNat = a.toBitVec.toNat &&& m.toBitVec.toNat := by simp
  rw [this, h]
  exact Nat.lt_succ_of_le Nat.and_le_right
theorem own_ofNat (n : Nat) (h : n < 2147483648) : (Int32.ofNat n).toInt = (n : Int) := Int32.toInt_ofNat_of_lt h
theorem own_rem (n k : Nat) (h : n < 2147483648) (h1 : k < 2147483648) : Int32.ofNat n % Int32.ofNat k = Int32.ofNat (n % k) := by
  apply Int32.toInt_inj.mp
  rw [Int32.toInt_mod, own_ofNat n h, own_ofNat k h1, own_ofNat (n % k) (Nat.lt_of_le_of_lt (Nat.mod_le n k) h)]
  rw [Int.tmod_eq_emod_of_nonneg (by omega)]
  exact (Int.natCast_emod n k).symm
def own_g (f s : Int32) : Int32 := if f1 f < 128 then 0 else if 191 < f1 f then 0 else if (if s < f1 f then (0 : Int32) else 1) = (if f2 f s < f3 f then (0 : Int32) else 1) then 1 else 0
theorem own_all : ∀ n : Fin 51, ∀ k : Fin 64, own_g (194 + Int32.ofNat n.val) (128 + Int32.ofNat k.val) = 1 := by decide +kernel
theorem plain (a b : Int32) : f0 a b = 1 := by
  obtain ⟨n, hn, e⟩ := own_mask a 2147483647 2147483647 (by decide)
  obtain ⟨k, hk, e'⟩ := own_mask b 63 63 (by decide)
  show own_g (194 + (a &&& 2147483647) % 51) (128 + (b &&& 63)) = 1
  rw [e, e', show (51 : Int32) = Int32.ofNat 51 from rfl, own_rem n 51 hn (by decide)]
  exact own_all ⟨n % 51, Nat.mod_lt _ (by decide)⟩ ⟨k, hk⟩
set_option maxRecDepth 65536 in
set_option maxHeartbeats 40000000 in
theorem comes_1 {Post : Tables → Env → Array Value → State → Outcome → State → Prop} (hpost : ∀ tb e args s v u, (limb_1_1.after args s (.returned v) u = true ∧ limb_1_2.after args s (.returned v) u = true ∧ True) → FrameEnd s (.returned v) u (Jvm.fieldLocs frame_1_writes args s ++ Jvm.arrayLocs frame_1_arrays args s ++ Jvm.staticLocs frame_1_statics s) 0 0 → Post tb e args s (.returned v) u) :
    ArmFor flags0 classFile x code maxLocals ret World_1 tables_1 room_1 Calls_1 rest_1 Pre_1 Post := by
  intro l hfl _ _ p e ha hc hk s m args below hf hA hF happ hP
  obtain ⟨hcalls, hrest, hpre⟩ := hP
  obtain ⟨-, -, -, hnamed, -, -, -, hat⟩ := (Spec.applies_iff hf).mp happ
  obtain ⟨hg, hn⟩ := and_e (Cond.before_iff.mp (show (Jvm.Cond.and given_1 narrow_1).before args s = true from hpre))
  obtain ⟨gc, g0⟩ := and_e hg
  obtain ⟨gi0, g1⟩ := and_e g0
  have gi1 := g1
  obtain ⟨w0, w1, rfl⟩ : ∃ w0 w1 : Value, args = #[w0, w1] := by
    have hs : args.size = 2 := by simpa [Cond.value, given_1] using gc
    obtain ⟨L⟩ := args
    match L, hs with
    | [w0, w1], _ => exact ⟨w0, w1, rfl⟩
  have hw := fun d (hd : d ∈ tables_1) => atoms_spec (ws := Jvm.Cond.code x code maxLocals ret :: tables_1) hat d (List.mem_cons_of_mem _ hd)
  have hfit : Fit s := fun {y c} hc i hi => by
    obtain ⟨ha, rfl⟩ := Array.getElem?_eq_some_iff.mp hc
    have q := List.all_eq_true.mp ((Array.all_eq_true_iff_forall_mem.mp hF) _ (Array.getElem_mem ha)) i (List.mem_range.mpr hi)
    simpa [Array.getElem?_eq_getElem hi] using q
  obtain ⟨i0, ei0⟩ := is_v gi0
  obtain rfl : w0 = (.int i0) := Option.some.inj ei0
  obtain ⟨i1, ei1⟩ := is_v gi1
  obtain rfl : w1 = (.int i1) := Option.some.inj ei1
  obtain ⟨n, o, h1, h2, h3, v, L, rfl, ⟨hv, N, -⟩, hq⟩ := rm0 l s _ hw tables_1 i0 i1 s.heap s.heap.size (Nat.le_refl _)  p e ha hc hk s m _ below hf ((Spec.applies_iff_loose hf).mp happ).1 ⟨rfl, State.Warmed39.refl s, rfl⟩ trivial
  rw [plain i0 i1] at hv
  subst hv
  refine ⟨n, _, h1, h2, h3, hpost _ _ _ _ _ _ ⟨Cond.after_iff.mpr rfl, Cond.after_iff.mpr (eq_i res_at (Term.int_eval (1)) rfl), trivial⟩ ⟨hq.1, hq.2.1, (hq.2.2.sift fun y hy => Or.inr (N y hy)).mono (by decide) (by decide)⟩⟩
theorem main_1_1 : Claimed_1_1 := comes_1 fun _ _ _ _ _ _ h hF => ⟨h.1, hF⟩
theorem main_1_2 : Claimed_1_2 := comes_1 fun _ _ _ _ _ _ h hF => ⟨h.2.1, hF⟩
end Jvm.Pilot.@@N@@
namespace Jvm.Pilot.@@N@@
open Jvm Jvm.ClassFile Sem Op Lib Jvm.Free Jvm.Stand Jvm.Pilot.@@N@@.Jvm.D
/-! MADE BY PROGRAM (witnessworld.py) out of the Statement's table words and the real class files: 9 classes; the members and pool entries that the words name. The judged class is class 1, her method 3. -/
namespace start1
open Jvm.ClassFile
def u (s : String) : CpInfo := .utf8 (stringToUtf16 s)
/-- a pool by its gaps: so many unusable entries, then the entry; so many at the end -/
def gap : Nat → List CpInfo → List CpInfo
  | 0, r => r
  | n + 1, r => .unusable :: gap n r
def poolList (es : List (Nat × CpInfo)) (last : Nat) : List CpInfo := es.foldr (fun e r => gap e.1 (e.2 :: r)) (gap last [])
def pool (es : List (Nat × CpInfo)) (last : Nat) : Array CpInfo := ⟨poolList es last⟩
def fileOf (pool : Array CpInfo) (this : Nat) (attrs : Array Attribute := #[]) (ms : Array MethodInfo := #[]) (fl : Nat := 33) (sup : Nat := 0) (ifs : Array Nat := #[]) (fds : Array FieldInfo := #[]) : ClassFile where
  minorVersion := 0
  majorVersion := 65
  constantPool := pool
  accessFlags := fl
  thisClass := this
  superClass := sup
  interfaces := ifs
  fields := fds
  methods := ms
  attributes := attrs
def plain (name : String) (sup : Option ClassId) : Class where
  name := name
  kind := .ordinary
  loader := none
  accessFlags := 33
  super := sup
  interfaces := #[]
  cf := none
  fields := #[]
  methods := #[]
  instanceTypes := #[]
  staticTypes := #[]
  resolved := #[]
  callSites := []
  init := .initialized
  statics := none
  mirror := none

def pool0 : Array CpInfo := pool [(5, u "<init>"), (0, u "()V"), (1, .class_ 10), (1, u "java/lang/Object")] 113

def k0m0 : Method := { name := "<init>", desc := "()V", sig := { parameters := [], returnType := none }, accessFlags := 1, code := none }
/-- java/lang/Object -/
def k0 : Class := { plain "java/lang/Object" none with
  accessFlags := 33
  interfaces := #[]
  cf := some (fileOf pool0 8 #[] #[{ accessFlags := 1, nameIndex := 5, descriptorIndex := 6, attributes := #[] }] 33 0 #[] #[])
  fields := #[]
  methods := #[k0m0]
  instanceTypes := #[]
  staticTypes := #[]
  resolved := Array.replicate 124 none
  statics := none }

def pool1 : Array CpInfo := pool [(2, .class_ 4), (1, u "java/lang/Object"), (0, u "<init>"), (0, u "()V"), (0, .integer 65536), (0, .integer 2147483647), (0, .methodref 10 11), (0, .class_ 12), (0, .nameAndType 13 14), (0, u "com/example/kirjatieto/kirjatieto/xml/Utf8Bytes"), (0, u "secondLeast"), (0, u "(I)I"), (0, .methodref 16 17), (0, .class_ 18), (0, .nameAndType 19 20), (0, u "com/example/kirjatieto/kirjatieto/xml/Utf8BytesSecondLeastPinLaw"), (0, u "decodeLeast"), (0, u "(II)I"), (0, .methodref 16 22), (0, .nameAndType 23 14), (0, u "minCodePoint"), (3, u "law"), (0, u "(II)Z")] 2

def k1m0 : Method := { name := "<init>", desc := "()V", sig := { parameters := [], returnType := none }, accessFlags := 2, code := none }
def k1c1 : Code := { maxStack := 3, maxLocals := 2, code := method_2_code, exceptionTable := #[], attributes := #[] }
def k1m1 : Method := { name := "decodeLeast", desc := "(II)I", sig := { parameters := [.int, .int], returnType := some .int }, accessFlags := 10, code := some k1c1 }
def k1c2 : Code := { maxStack := 2, maxLocals := 1, code := method_3_code, exceptionTable := #[], attributes := #[] }
def k1m2 : Method := { name := "minCodePoint", desc := "(I)I", sig := { parameters := [.int], returnType := some .int }, accessFlags := 10, code := some k1c2 }
def k1c3 : Code := { maxStack := 3, maxLocals := 6, code := code, exceptionTable := #[], attributes := #[] }
def k1m3 : Method := { name := "law", desc := "(II)Z", sig := { parameters := [.int, .int], returnType := some .boolean }, accessFlags := 9, code := some k1c3 }
/-- com/example/kirjatieto/kirjatieto/xml/Utf8BytesSecondLeastPinLaw -/
def k1 : Class := { plain "com/example/kirjatieto/kirjatieto/xml/Utf8BytesSecondLeastPinLaw" (some 0) with
  accessFlags := 49
  interfaces := #[]
  cf := some (fileOf pool1 16 #[] #[{ accessFlags := 2, nameIndex := 5, descriptorIndex := 6, attributes := #[] }, { accessFlags := 10, nameIndex := 19, descriptorIndex := 20, attributes := #[] }, { accessFlags := 10, nameIndex := 23, descriptorIndex := 14, attributes := #[] }, { accessFlags := 9, nameIndex := 27, descriptorIndex := 28, attributes := #[] }] 49 2 #[] #[])
  fields := #[]
  methods := #[k1m0, k1m1, k1m2, k1m3]
  instanceTypes := #[]
  staticTypes := #[]
  resolved := Array.replicate 31 none
  statics := none }

def pool2 : Array CpInfo := pool [(2, .class_ 4), (1, u "java/lang/Object"), (0, u "<init>"), (0, u "()V"), (0, .class_ 8), (0, u "com/example/kirjatieto/kirjatieto/xml/Utf8Bytes"), (0, u "NEXT_LEAST"), (0, u "I"), (2, u "NEXT_MOST"), (4, u "(I)I"), (1, u "secondLeast")] 3

def k2m0 : Method := { name := "<init>", desc := "()V", sig := { parameters := [], returnType := none }, accessFlags := 2, code := none }
def k2c1 : Code := { maxStack := 2, maxLocals := 1, code := prog_83_method_3_code, exceptionTable := #[], attributes := #[] }
def k2m1 : Method := { name := "secondLeast", desc := "(I)I", sig := { parameters := [.int], returnType := some .int }, accessFlags := 8, code := some k2c1 }
/-- com/example/kirjatieto/kirjatieto/xml/Utf8Bytes -/
def k2 : Class := { plain "com/example/kirjatieto/kirjatieto/xml/Utf8Bytes" (some 0) with
  accessFlags := 48
  interfaces := #[]
  cf := some (fileOf pool2 7 #[] #[{ accessFlags := 2, nameIndex := 5, descriptorIndex := 6, attributes := #[] }, { accessFlags := 8, nameIndex := 20, descriptorIndex := 18, attributes := #[] }] 48 2 #[] #[{ accessFlags := 24, nameIndex := 9, descriptorIndex := 10, attributes := #[] }, { accessFlags := 24, nameIndex := 13, descriptorIndex := 10, attributes := #[] }])
  fields := #[{ name := "NEXT_LEAST", type := .int, accessFlags := 24, slot := 0, constantValue := 0 }, { name := "NEXT_MOST", type := .int, accessFlags := 24, slot := 1, constantValue := 0 }]
  methods := #[k2m0, k2m1]
  instanceTypes := #[]
  staticTypes := #[.int, .int]
  resolved := Array.replicate 24 none
  statics := none }

def pool3 : Array CpInfo := pool [(1, u "java/lang/Cloneable"), (0, .class_ 1), (0, u "java/lang/Object"), (0, .class_ 3)] 3

/-- java/lang/Cloneable -/
def k3 : Class := { plain "java/lang/Cloneable" (some 0) with
  accessFlags := 1537
  interfaces := #[]
  cf := some (fileOf pool3 2 #[] #[] 1537 4 #[] #[])
  fields := #[]
  methods := #[]
  instanceTypes := #[]
  staticTypes := #[]
  resolved := Array.replicate 8 none
  statics := none }

def pool4 : Array CpInfo := pool [(1, u "java/io/Serializable"), (0, .class_ 1), (0, u "java/lang/Object"), (0, .class_ 3)] 3

/-- java/io/Serializable -/
def k4 : Class := { plain "java/io/Serializable" (some 0) with
  accessFlags := 1537
  interfaces := #[]
  cf := some (fileOf pool4 2 #[] #[] 1537 4 #[] #[])
  fields := #[]
  methods := #[]
  instanceTypes := #[]
  staticTypes := #[]
  resolved := Array.replicate 8 none
  statics := none }

/-- the primitive byte -/
def k5 : Class := { plain "byte" none with kind := .primitive 'B', accessFlags := 0x411 }
/-- [B -/
def k6 : Class := { plain "[B" (some 0) with kind := .array 5 .byte, interfaces := #[3, 4], accessFlags := 1041 }

/-- the primitive int -/
def k7 : Class := { plain "int" none with kind := .primitive 'I', accessFlags := 0x411 }
/-- [I -/
def k8 : Class := { plain "[I" (some 0) with kind := .array 7 .int, interfaces := #[3, 4], accessFlags := 1041 }

def heap : Heap := #[]
def classes : Array Class := #[k0, k1, k2, k3, k4, k5, k6, k7, k8]
def interned : List (Array UInt16 × Addr) := []
def slotsUsed : Nat := 0
def theMethod : MethodId := ⟨1, 3⟩
def args0 : Array Value := #[.int 5, .int 6]
def aboutOver (below : List Frame) : State where
  vm := { classes := classes, interned := interned.toArray }
  heap := heap
  slotsUsed := slotsUsed
  threads := #[{ frames := .invoking theMethod args0 :: below }]
def below0 : List Frame := [.native { method := ⟨0, 0⟩, args := #[] }]
def about1 : State := aboutOver below0
def p0 : Program := .bare "" "" ""
def e0 : Env := launch0.env 0 0 0
theorem w_frames : about1.frames = Frame.invoking theMethod args0 :: below0 := rfl
set_option maxRecDepth 65536 in
theorem w_args : argsFit about1.vm theMethod args0 = true := by decide +kernel
set_option maxRecDepth 65536 in
theorem w_heap : heapFits about1 = true := by decide +kernel
set_option maxRecDepth 65536 in
theorem w_runnable : about1.curStatus? = some .runnable := by decide +kernel
set_option maxRecDepth 65536 in
theorem w_alone : about1.alone = true := by decide +kernel
set_option maxRecDepth 65536 in
theorem w_named : about1.methodNamed? x = some theMethod := by decide +kernel
set_option maxRecDepth 65536 in
theorem w_hears : about1.hears theMethod below0 = true := by decide +kernel
set_option maxRecDepth 65536 in
theorem w_ripe : about1.ripe theMethod args0 below0 = true := by decide +kernel
theorem w_running : about1.status = .running := rfl
set_option maxRecDepth 65536 in
theorem w_room : about1.hasRoom e0.platform room_1 = true :=
  launch0.hasRoom_least _ room_1 (by decide +kernel) (by decide +kernel) (by decide +kernel) (by decide +kernel) (by decide +kernel) (by decide +kernel)
theorem allAtoms_all (ts : List Jvm.Cond) (a : Array Jvm.Value) (st : Jvm.State) : (allAtoms ts).before a st = ts.all (fun c => c.before a st) := by
  induction ts with
  | nil => rfl
  | cons c t ih =>
    show (Jvm.Cond.and c (allAtoms t)).before a st = _
    rw [Jvm.Cond.before_and, ih, List.all_cons]
def words1 : List Jvm.Cond := Jvm.Cond.code x code maxLocals ret :: tables_1
/-- a 'code' word, met by the world's own term for the bytes: nothing is compared byte by byte -/
theorem code_word {y : MethodName} {bytes : ByteArray} {mx : Nat} {rt : Option FieldType} {a : Array Value} {s : State} {m : MethodId} {meth : Method} {c : Code} (h1 : s.methodNamed? y = some m) (h2 : s.vm.method? m = some meth) (h3 : meth.code = some c) (h4 : c.code = bytes)
    (h5 : (c.maxLocals == mx && c.exceptionTable.isEmpty && decide (c.maxStack ≤ mostOperands) && decide (meth.sig.returnType = rt) && !meth.locks && decide (parseMethodDescriptor y.desc = some meth.sig)) = true) : (Jvm.Cond.code y bytes mx rt).before a s = true := by
  simp only [Bool.and_eq_true, beq_iff_eq, Bool.not_eq_true', decide_eq_true_eq] at h5
  obtain ⟨⟨⟨⟨⟨g1, g2⟩, g3⟩, g4⟩, g5⟩, g6⟩ := h5
  simp [Cond.before, Cond.holds, Cond.value, h1, h2, h3, h4, g1, g2, g3, g4, g5, g6]
def isCode : Jvm.Cond → Bool
  | .code _ _ _ _ => true
  | _ => false
theorem all_split {L : List Jvm.Cond} {P : Jvm.Cond → Bool} (h1 : L.all (fun c => isCode c || P c) = true) (h2 : ∀ c ∈ L.filter isCode, P c = true) : L.all P = true := by
  refine List.all_eq_true.mpr fun c hc => ?_
  have h := List.all_eq_true.mp h1 c hc
  rcases Bool.eq_false_or_eq_true (isCode c) with hi | hi
  · exact h2 c (List.mem_filter.mpr ⟨hc, hi⟩)
  · simpa [hi] using h
set_option maxRecDepth 65536 in
theorem w_c0 : (Jvm.Cond.code x code maxLocals ret).before args0 about1 = true := code_word (m := ⟨1, 3⟩) (meth := k1m3) (c := k1c3) (by decide +kernel) rfl rfl rfl (by decide +kernel)
set_option maxRecDepth 65536 in
theorem w_c1 : (Jvm.Cond.code ({ cls := "com/example/kirjatieto/kirjatieto/xml/Utf8Bytes", name := "secondLeast", desc := "(I)I" } : Jvm.MethodName) prog_83_method_3_code (1 : Nat) (Option.some Jvm.ClassFile.FieldType.int)).before args0 about1 = true := code_word (m := ⟨2, 1⟩) (meth := k2m1) (c := k2c1) (by decide +kernel) rfl rfl rfl (by decide +kernel)
set_option maxRecDepth 65536 in
theorem w_c2 : (Jvm.Cond.code ({ cls := "com/example/kirjatieto/kirjatieto/xml/Utf8BytesSecondLeastPinLaw", name := "decodeLeast", desc := "(II)I" } : Jvm.MethodName) method_2_code (2 : Nat) (Option.some Jvm.ClassFile.FieldType.int)).before args0 about1 = true := code_word (m := ⟨1, 1⟩) (meth := k1m1) (c := k1c1) (by decide +kernel) rfl rfl rfl (by decide +kernel)
set_option maxRecDepth 65536 in
theorem w_c3 : (Jvm.Cond.code ({ cls := "com/example/kirjatieto/kirjatieto/xml/Utf8BytesSecondLeastPinLaw", name := "minCodePoint", desc := "(I)I" } : Jvm.MethodName) method_3_code (1 : Nat) (Option.some Jvm.ClassFile.FieldType.int)).before args0 about1 = true := code_word (m := ⟨1, 2⟩) (meth := k1m2) (c := k1c2) (by decide +kernel) rfl rfl rfl (by decide +kernel)
def codes1 : List Jvm.Cond := [Jvm.Cond.code x code maxLocals ret, Jvm.Cond.code ({ cls := "com/example/kirjatieto/kirjatieto/xml/Utf8Bytes", name := "secondLeast", desc := "(I)I" } : Jvm.MethodName) prog_83_method_3_code (1 : Nat) (Option.some Jvm.ClassFile.FieldType.int), Jvm.Cond.code ({ cls := "com/example/kirjatieto/kirjatieto/xml/Utf8BytesSecondLeastPinLaw", name := "decodeLeast", desc := "(II)I" } : Jvm.MethodName) method_2_code (2 : Nat) (Option.some Jvm.ClassFile.FieldType.int), Jvm.Cond.code ({ cls := "com/example/kirjatieto/kirjatieto/xml/Utf8BytesSecondLeastPinLaw", name := "minCodePoint", desc := "(I)I" } : Jvm.MethodName) method_3_code (1 : Nat) (Option.some Jvm.ClassFile.FieldType.int)]
set_option maxRecDepth 65536 in
theorem codes_eq : words1.filter isCode = codes1 := rfl
theorem w_codes : ∀ c ∈ words1.filter isCode, c.before args0 about1 = true := by
  rw [codes_eq]
  intro c hc
  simp only [codes1, List.mem_cons, List.not_mem_nil, or_false] at hc
  rcases hc with rfl | rfl | rfl | rfl
  · exact w_c0
  · exact w_c1
  · exact w_c2
  · exact w_c3
set_option maxRecDepth 65536 in
theorem w_t1 : words1.all (fun c => isCode c || c.before args0 about1) = true := by decide +kernel
theorem w_tables : (allAtoms (Jvm.Cond.code x code maxLocals ret :: tables_1)).before args0 about1 = true := by
  rw [allAtoms_all]
  show words1.all (fun c => c.before args0 about1) = true
  refine all_split ?_ w_codes
  rw [w_t1]
set_option maxRecDepth 65536 in
theorem w_case : (Jvm.Cond.and given_1 narrow_1).before args0 about1 = true := by decide +kernel
theorem w_applies : (headSpec (Jvm.Cond.code x code maxLocals ret :: tables_1) room_1).applies x e0.platform about1 = true :=
  (Spec.applies_iff w_frames).mpr ⟨w_running, w_runnable, w_alone, w_named, w_hears, w_ripe, w_room, w_tables⟩
theorem atStart : AtStart classFile x code maxLocals ret World_1 tables_1 room_1 Calls_1 rest_1 Pre_1 launch0 p0 e0 about1 theMethod args0 below0 :=
  ⟨lists_1, trivial, launch0.admits_env _ _ _, launch0.least_env, fairChoices_fair.cas, fairChoices_fair.clock, w_frames, w_args, w_heap, w_applies, trivial, trivial, w_case⟩
end start1
theorem witness_1 : WitnessClaimed_1 := ⟨start1.p0, start1.e0, start1.about1, start1.theMethod, start1.args0, start1.below0, start1.atStart⟩
end Jvm.Pilot.@@N@@
