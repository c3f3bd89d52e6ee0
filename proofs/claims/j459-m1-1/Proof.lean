import JvmDerived
import JvmDerived.Pilot.@@N@@Statement
import JvmDerived.Pilot.@@N@@Code
set_option linter.unusedVariables false
set_option linter.unusedSimpArgs false
namespace Jvm.RoadKit
open Sem ClassFile Op Lib Jvm.Stand Jvm.Free Jvm.LawKit
section New
variable {p : Program} {l : Launch} {e : Env} {R : Room} {s : State} {m : MethodId} {args : Array Value} {below : List Frame} {meth : Method} {c : Code} {T : State} {locs : List Loc} {cells slots : Nat}
theorem retI (X : Stand p l e R s m args below meth c T locs cells slots) (hx : p.tables.exec = Jvm.exec) {pc : Nat} {Ls : Array Slot} {z : Int32} {rest : List Value} (hret : meth.sig.returnType = some .int) (hd : decode c.code pc = .ok (.ireturn, 1)) {fs : List Frame}
    (hl : ∀ (f : JFrame) (acts : List Action), f.method = m → f.locked = none → f.entered = [] → (doReturn e (T.setTop f) acts (some (.int z))).1 = T.setFrames fs) : Steps p.tables e below (T.setTop (mkF m pc Ls (.int z :: rest))) (T.setFrames fs) := by
  have hm' : T.vm.method? m = some meth := X.method'
  have hn : narrow .int (.int z) = .int z := rfl
  show Steps p.tables e below (T.setTop { method := m, pc := pc, locals := Ls, stack := _ :: rest, locked := none }) _
  jvm_step X.here [X.here.top, hx, hd, hm', hret, hn]
  first | (intro acts; rw [hl _ acts rfl rfl rfl]) | rw [hl _ _ rfl rfl rfl]
  exact Steps.refl _
end New
end Jvm.RoadKit
namespace Jvm.Pilot.@@N@@
open Jvm Jvm.ClassFile Sem Op Lib Jvm.Free Jvm.Stand Jvm.LawKit Jvm.RoadKit Bundle Jvm.Pilot.@@N@@.Jvm.D
theorem d1_0 : decode method_2_code 0 = .ok (.iload_n 1, 1) := by decide +kernel
theorem d1_1 : decode method_2_code 1 = .ok (.ifCond .ne 6, 3) := by decide +kernel
theorem d1_4 : decode method_2_code 4 = .ok (.bipush 13, 2) := by decide +kernel
theorem d1_6 : decode method_2_code 6 = .ok (.ireturn, 1) := by decide +kernel
theorem d1_7 : decode method_2_code 7 = .ok (.iload_n 1, 1) := by decide +kernel
theorem d1_8 : decode method_2_code 8 = .ok (.iconst 1, 1) := by decide +kernel
theorem d1_9 : decode method_2_code 9 = .ok (.if_icmp .ne 6, 3) := by decide +kernel
theorem d1_12 : decode method_2_code 12 = .ok (.bipush 10, 2) := by decide +kernel
theorem d1_14 : decode method_2_code 14 = .ok (.ireturn, 1) := by decide +kernel
theorem d1_15 : decode method_2_code 15 = .ok (.iload_n 0, 1) := by decide +kernel
theorem d1_16 : decode method_2_code 16 = .ok (.ldc 7, 2) := by decide +kernel
theorem d1_18 : decode method_2_code 18 = .ok (.iand, 1) := by decide +kernel
theorem d1_19 : decode method_2_code 19 = .ok (.i2c, 1) := by decide +kernel
theorem d1_20 : decode method_2_code 20 = .ok (.ireturn, 1) := by decide +kernel
theorem pn_1 : plainName x.cls = true := by first | (simp [plainName, overriddenIn]; done) | decide +kernel
theorem ef_1 (m : MethodId) (p1 : Int32) (p2 : Int32) : entryFrame m #[(.int p1), (.int p2)] 2 = mkF m 0 #[.val (.int p1), .val (.int p2)] [] := by first | (simp [entryFrame, mkF, argsToLocals, Value.category]; done) | rfl
def f1 (p1 : Int32) (p2 : Int32) : Int32 := (if p2 = (0 : Int32) then (13 : Int32) else (if p2 = (1 : Int32) then (10 : Int32) else (nar .char ((p1 &&& (65535 : Int32)).toUInt32.toUInt16.toUInt32.toInt32))))
def Q1 (Z : State) (p1 : Int32) (p2 : Int32) (h0 : Heap) (n0 : Nat) (v : Option Value) (h : Heap) (L : List Loc) : Prop := v = some (.int (f1 p1 p2)) ∧ Fr n0 L ∧ h = h0
set_option maxRecDepth 65536 in
set_option maxHeartbeats 40000000 in
theorem rm1 (l : Launch) (Z : State) (a0 : Array Value) (hw : ∀ d ∈ tables_1, d.before a0 Z = true) (ws : List Jvm.Cond) (p1 : Int32) (p2 : Int32) (h0 : Heap) (n0 : Nat) (Z0 : n0 ≤ h0.size) :
    MetFree l (⟨x.cls, "pick", "(II)C"⟩ : MethodName) (head1 (Jvm.Cond.code (⟨x.cls, "pick", "(II)C"⟩ : MethodName) method_2_code 2 (some .char) :: ws) ({ frames := 0, cells := 0, slots := 0, locals := 0 } : Room)) (fun a U => a = #[(.int p1), (.int p2)] ∧ Z.Warmed39 U.vm ∧ U.heap = h0) (fun _ _ _ _ _ => True) (fun _ U o U' => ∃ v L, o = .returned v ∧ Q1 Z p1 p2 h0 n0 v U'.heap L ∧ FrameEnd U o U' L ({ frames := 0, cells := 0, slots := 0, locals := 0 } : Room).cells ({ frames := 0, cells := 0, slots := 0, locals := 0 } : Room).slots) := by
  refine MetFree.of_bodySF (plainFor_of_name pn_1) hisR ?_
  intro p e s m args below meth c s₁ Bd hml0 hP hK
  obtain ⟨rfl, hZ, hh⟩ := hP
  have hx := Bd.exec
  have hby := Bd.bytes
  have hml : c.maxLocals = 2 := hml0
  have hown : s.vm.findClass x.cls = some m.cls := by have q := findClass_of_methodNamed Bd.named; exact q
  have hnm := (name_of_methodNamed Bd.named Bd.method).1
  have X0 : Stand p l e ({ frames := 0, cells := 0, slots := 0, locals := 0 } : Room) s m #[(.int p1), (.int p2)] below meth c s₁ [] 0 0 := Stand.of_body Bd
  have e0 : s₁.heap = h0 := by rw [← hh, Bd.state]; rfl
  have N0 := Fr.nil n0
  have pre0 : ∀ t, Steps p.tables e below (s₁.setTop (mkF m 0 #[.val (.int p1), .val (.int p2)] [])) t → Steps p.tables e below (s₁.setTop (entryFrame m #[(.int p1), (.int p2)] 2)) t := fun t k => castTop (ef_1 m p1 p2) k
  have K1 : ∀ t, Steps p.tables e below (s₁.setTop (mkF m 1 #[.val (.int p1), .val (.int p2)] [(.int p2)])) t → Steps p.tables e below (s₁.setTop (mkF m 0 #[.val (.int p1), .val (.int p2)] [])) t := by
    intro t k
    refine XS.iloadN X0.here hx rfl (Jvm.hb hby d1_0) rfl ?_
    show Steps p.tables e below (s₁.setTop (mkF m 1 #[.val (.int p1), .val (.int p2)] [(.int p2)])) t
    exact k
  by_cases hc2 : p2 = (0 : Int32)
  · have K3 : ∀ t, Steps p.tables e below (s₁.setTop (mkF m 4 #[.val (.int p1), .val (.int p2)] [])) t → Steps p.tables e below (s₁.setTop (mkF m 1 #[.val (.int p1), .val (.int p2)] [(.int p2)])) t := by
      intro t k
      refine XS.ifNo X0.here hx rfl (Jvm.hb hby d1_1) rfl ((if0 _ _).trans (teq hc2).2) ?_
      exact k
    have K4 : ∀ t, Steps p.tables e below (s₁.setTop (mkF m 6 #[.val (.int p1), .val (.int p2)] [(.int (13 : Int32))])) t → Steps p.tables e below (s₁.setTop (mkF m 4 #[.val (.int p1), .val (.int p2)] [])) t := by
      intro t k
      refine XS.bipush X0.here hx rfl (Jvm.hb hby d1_4) ?_
      show Steps p.tables e below (s₁.setTop (mkF m 6 #[.val (.int p1), .val (.int p2)] [(.int (13 : Int32))])) t
      exact k
    obtain ⟨fs, hr, hrun, hended, hW, hsame⟩ := X0.leave (v := some (.int (13 : Int32))) (fun h => by rw [Bd.returns] at h; cases h) Bd.notSynchronized
    refine ⟨_, _, pre0 _ (K1 _ (K3 _ (K4 _ (retN X0 hx (t := .char) Bd.returns (by simp) (Jvm.hb hby d1_6) hr)))), hrun, hended, _, _, rfl, ?_, ⟨_, rfl⟩, hW, hsame.mono (by decide) (by decide)⟩
    show Q1 Z p1 p2 h0 n0 _ s₁.heap _
    rw [e0]
    exact ⟨congrArg (fun z => some (Value.int z)) (show (13 : Int32) = f1 p1 p2 from Eq.symm (if_pos hc2)), N0, rfl⟩
  · have K5 : ∀ t, Steps p.tables e below (s₁.setTop (mkF m 7 #[.val (.int p1), .val (.int p2)] [])) t → Steps p.tables e below (s₁.setTop (mkF m 1 #[.val (.int p1), .val (.int p2)] [(.int p2)])) t := by
      intro t k
      refine XS.ifYes X0.here hx rfl (pc0 := 1) (pc' := 7) rfl (Jvm.hb hby d1_1) rfl ((if0 _ _).trans (feq hc2).2) (by decide) (by decide) ?_
      exact k
    have K6 : ∀ t, Steps p.tables e below (s₁.setTop (mkF m 9 #[.val (.int p1), .val (.int p2)] [(.int (1 : Int32)), (.int p2)])) t → Steps p.tables e below (s₁.setTop (mkF m 7 #[.val (.int p1), .val (.int p2)] [])) t := by
      intro t k
      refine XS.iloadN X0.here hx rfl (Jvm.hb hby d1_7) rfl ?_
      show Steps p.tables e below (s₁.setTop (mkF m 8 #[.val (.int p1), .val (.int p2)] [(.int p2)])) t
      refine XS.iconst X0.here hx rfl (Jvm.hb hby d1_8) ?_
      show Steps p.tables e below (s₁.setTop (mkF m 9 #[.val (.int p1), .val (.int p2)] [(.int (1 : Int32)), (.int p2)])) t
      exact k
    by_cases hc7 : p2 = (1 : Int32)
    · have K8 : ∀ t, Steps p.tables e below (s₁.setTop (mkF m 12 #[.val (.int p1), .val (.int p2)] [])) t → Steps p.tables e below (s₁.setTop (mkF m 9 #[.val (.int p1), .val (.int p2)] [(.int (1 : Int32)), (.int p2)])) t := by
        intro t k
        refine XS.icmpNo X0.here hx rfl (Jvm.hb hby d1_9) rfl (teq hc7).2 ?_
        exact k
      have K9 : ∀ t, Steps p.tables e below (s₁.setTop (mkF m 14 #[.val (.int p1), .val (.int p2)] [(.int (10 : Int32))])) t → Steps p.tables e below (s₁.setTop (mkF m 12 #[.val (.int p1), .val (.int p2)] [])) t := by
        intro t k
        refine XS.bipush X0.here hx rfl (Jvm.hb hby d1_12) ?_
        show Steps p.tables e below (s₁.setTop (mkF m 14 #[.val (.int p1), .val (.int p2)] [(.int (10 : Int32))])) t
        exact k
      obtain ⟨fs, hr, hrun, hended, hW, hsame⟩ := X0.leave (v := some (.int (10 : Int32))) (fun h => by rw [Bd.returns] at h; cases h) Bd.notSynchronized
      refine ⟨_, _, pre0 _ (K1 _ (K5 _ (K6 _ (K8 _ (K9 _ (retN X0 hx (t := .char) Bd.returns (by simp) (Jvm.hb hby d1_14) hr)))))), hrun, hended, _, _, rfl, ?_, ⟨_, rfl⟩, hW, hsame.mono (by decide) (by decide)⟩
      show Q1 Z p1 p2 h0 n0 _ s₁.heap _
      rw [e0]
      exact ⟨congrArg (fun z => some (Value.int z)) (show (10 : Int32) = f1 p1 p2 from Eq.symm ((if_neg hc2).trans (if_pos hc7))), N0, rfl⟩
    · have K10 : ∀ t, Steps p.tables e below (s₁.setTop (mkF m 15 #[.val (.int p1), .val (.int p2)] [])) t → Steps p.tables e below (s₁.setTop (mkF m 9 #[.val (.int p1), .val (.int p2)] [(.int (1 : Int32)), (.int p2)])) t := by
        intro t k
        refine XS.icmpYes X0.here hx rfl (pc0 := 9) (pc' := 15) rfl (Jvm.hb hby d1_9) rfl (feq hc7).2 (by decide) (by decide) ?_
        exact k
      have K11 : ∀ t, Steps p.tables e below (s₁.setTop (mkF m 20 #[.val (.int p1), .val (.int p2)] [(.int ((p1 &&& (65535 : Int32)).toUInt32.toUInt16.toUInt32.toInt32))])) t → Steps p.tables e below (s₁.setTop (mkF m 15 #[.val (.int p1), .val (.int p2)] [])) t := by
        intro t k
        refine XS.iloadN X0.here hx rfl (Jvm.hb hby d1_15) rfl ?_
        show Steps p.tables e below (s₁.setTop (mkF m 16 #[.val (.int p1), .val (.int p2)] [(.int p1)])) t
        refine X0.ldcInt hx hown (mvT hZ (hw _ (List.mem_of_getElem? (i := 4) rfl))) (g := (mkF m 16 #[.val (.int p1), .val (.int p2)] [(.int p1)])) rfl (Jvm.hb hby d1_16) _ ?_
        show Steps p.tables e below (s₁.setTop (mkF m 18 #[.val (.int p1), .val (.int p2)] [(.int (65535 : Int32)), (.int p1)])) t
        refine XS.iand X0.here hx rfl (Jvm.hb hby d1_18) rfl ?_
        show Steps p.tables e below (s₁.setTop (mkF m 19 #[.val (.int p1), .val (.int p2)] [(.int (p1 &&& (65535 : Int32)))])) t
        refine XS.i2c X0.here hx rfl (Jvm.hb hby d1_19) rfl ?_
        show Steps p.tables e below (s₁.setTop (mkF m 20 #[.val (.int p1), .val (.int p2)] [(.int ((p1 &&& (65535 : Int32)).toUInt32.toUInt16.toUInt32.toInt32))])) t
        exact k
      obtain ⟨fs, hr, hrun, hended, hW, hsame⟩ := X0.leave (v := some (.int (nar .char ((p1 &&& (65535 : Int32)).toUInt32.toUInt16.toUInt32.toInt32)))) (fun h => by rw [Bd.returns] at h; cases h) Bd.notSynchronized
      refine ⟨_, _, pre0 _ (K1 _ (K5 _ (K6 _ (K10 _ (K11 _ (retN X0 hx (t := .char) Bd.returns (by simp) (Jvm.hb hby d1_20) hr)))))), hrun, hended, _, _, rfl, ?_, ⟨_, rfl⟩, hW, hsame.mono (by decide) (by decide)⟩
      show Q1 Z p1 p2 h0 n0 _ s₁.heap _
      rw [e0]
      exact ⟨congrArg (fun z => some (Value.int z)) (show (nar .char ((p1 &&& (65535 : Int32)).toUInt32.toUInt16.toUInt32.toInt32)) = f1 p1 p2 from Eq.symm ((if_neg hc2).trans (if_neg hc7))), N0, rfl⟩
theorem d2_0 : decode prog_149_method_32_code 0 = .ok (.iload_n 1, 1) := by decide +kernel
theorem d2_1 : decode prog_149_method_32_code 1 = .ok (.bipush 13, 2) := by decide +kernel
theorem d2_3 : decode prog_149_method_32_code 3 = .ok (.if_icmp .eq 15, 3) := by decide +kernel
theorem d2_6 : decode prog_149_method_32_code 6 = .ok (.iload_n 1, 1) := by decide +kernel
theorem d2_7 : decode prog_149_method_32_code 7 = .ok (.bipush 10, 2) := by decide +kernel
theorem d2_9 : decode prog_149_method_32_code 9 = .ok (.if_icmp .ne 13, 3) := by decide +kernel
theorem d2_12 : decode prog_149_method_32_code 12 = .ok (.iload_n 0, 1) := by decide +kernel
theorem d2_13 : decode prog_149_method_32_code 13 = .ok (.bipush 13, 2) := by decide +kernel
theorem d2_15 : decode prog_149_method_32_code 15 = .ok (.if_icmp .eq 7, 3) := by decide +kernel
theorem d2_18 : decode prog_149_method_32_code 18 = .ok (.iconst 1, 1) := by decide +kernel
theorem d2_19 : decode prog_149_method_32_code 19 = .ok (.goto 4, 3) := by decide +kernel
theorem d2_22 : decode prog_149_method_32_code 22 = .ok (.iconst 0, 1) := by decide +kernel
theorem d2_23 : decode prog_149_method_32_code 23 = .ok (.ireturn, 1) := by decide +kernel
theorem pn_2 : plainName site_22.cls = true := by first | (simp [plainName, overriddenIn]; done) | decide +kernel
theorem ef_2 (m : MethodId) (p1 : Int32) (p2 : Int32) : entryFrame m #[(.int p1), (.int p2)] 2 = mkF m 0 #[.val (.int p1), .val (.int p2)] [] := by first | (simp [entryFrame, mkF, argsToLocals, Value.category]; done) | rfl
def f2 (p1 : Int32) (p2 : Int32) : Int32 := (if p2 = (13 : Int32) then (1 : Int32) else (if p2 = (10 : Int32) then (if p1 = (13 : Int32) then (0 : Int32) else (1 : Int32)) else (0 : Int32)))
def Q2 (Z : State) (p1 : Int32) (p2 : Int32) (h0 : Heap) (n0 : Nat) (v : Option Value) (h : Heap) (L : List Loc) : Prop := v = some (.int (f2 p1 p2)) ∧ Fr n0 L ∧ h = h0
set_option maxRecDepth 65536 in
set_option maxHeartbeats 40000000 in
theorem rm2 (l : Launch) (Z : State) (a0 : Array Value) (hw : ∀ d ∈ tables_1, d.before a0 Z = true) (ws : List Jvm.Cond) (p1 : Int32) (p2 : Int32) (h0 : Heap) (n0 : Nat) (Z0 : n0 ≤ h0.size) :
    MetFree l (⟨site_22.cls, "endsLine", "(CC)Z"⟩ : MethodName) (head1 (Jvm.Cond.code (⟨site_22.cls, "endsLine", "(CC)Z"⟩ : MethodName) prog_149_method_32_code 2 (some .boolean) :: ws) ({ frames := 0, cells := 0, slots := 0, locals := 0 } : Room)) (fun a U => a = #[(.int p1), (.int p2)] ∧ Z.Warmed39 U.vm ∧ U.heap = h0) (fun _ _ _ _ _ => True) (fun _ U o U' => ∃ v L, o = .returned v ∧ Q2 Z p1 p2 h0 n0 v U'.heap L ∧ FrameEnd U o U' L ({ frames := 0, cells := 0, slots := 0, locals := 0 } : Room).cells ({ frames := 0, cells := 0, slots := 0, locals := 0 } : Room).slots) := by
  refine MetFree.of_bodySF (plainFor_of_name pn_2) hisR ?_
  intro p e s m args below meth c s₁ Bd hml0 hP hK
  obtain ⟨rfl, hZ, hh⟩ := hP
  have hx := Bd.exec
  have hby := Bd.bytes
  have hml : c.maxLocals = 2 := hml0
  have hown : s.vm.findClass site_22.cls = some m.cls := by have q := findClass_of_methodNamed Bd.named; exact q
  have hnm := (name_of_methodNamed Bd.named Bd.method).1
  have X0 : Stand p l e ({ frames := 0, cells := 0, slots := 0, locals := 0 } : Room) s m #[(.int p1), (.int p2)] below meth c s₁ [] 0 0 := Stand.of_body Bd
  have e0 : s₁.heap = h0 := by rw [← hh, Bd.state]; rfl
  have N0 := Fr.nil n0
  have pre0 : ∀ t, Steps p.tables e below (s₁.setTop (mkF m 0 #[.val (.int p1), .val (.int p2)] [])) t → Steps p.tables e below (s₁.setTop (entryFrame m #[(.int p1), (.int p2)] 2)) t := fun t k => castTop (ef_2 m p1 p2) k
  have K1 : ∀ t, Steps p.tables e below (s₁.setTop (mkF m 3 #[.val (.int p1), .val (.int p2)] [(.int (13 : Int32)), (.int p2)])) t → Steps p.tables e below (s₁.setTop (mkF m 0 #[.val (.int p1), .val (.int p2)] [])) t := by
    intro t k
    refine XS.iloadN X0.here hx rfl (Jvm.hb hby d2_0) rfl ?_
    show Steps p.tables e below (s₁.setTop (mkF m 1 #[.val (.int p1), .val (.int p2)] [(.int p2)])) t
    refine XS.bipush X0.here hx rfl (Jvm.hb hby d2_1) ?_
    show Steps p.tables e below (s₁.setTop (mkF m 3 #[.val (.int p1), .val (.int p2)] [(.int (13 : Int32)), (.int p2)])) t
    exact k
  by_cases hc2 : p2 = (13 : Int32)
  · have K3 : ∀ t, Steps p.tables e below (s₁.setTop (mkF m 18 #[.val (.int p1), .val (.int p2)] [])) t → Steps p.tables e below (s₁.setTop (mkF m 3 #[.val (.int p1), .val (.int p2)] [(.int (13 : Int32)), (.int p2)])) t := by
      intro t k
      refine XS.icmpYes X0.here hx rfl (pc0 := 3) (pc' := 18) rfl (Jvm.hb hby d2_3) rfl (teq hc2).1 (by decide) (by decide) ?_
      exact k
    have K4 : ∀ t, Steps p.tables e below (s₁.setTop (mkF m 23 #[.val (.int p1), .val (.int p2)] [(.int (1 : Int32))])) t → Steps p.tables e below (s₁.setTop (mkF m 18 #[.val (.int p1), .val (.int p2)] [])) t := by
      intro t k
      refine XS.iconst X0.here hx rfl (Jvm.hb hby d2_18) ?_
      show Steps p.tables e below (s₁.setTop (mkF m 19 #[.val (.int p1), .val (.int p2)] [(.int (1 : Int32))])) t
      refine XS.goto X0.here hx rfl (pc0 := 19) (pc' := 23) rfl (Jvm.hb hby d2_19) (by decide) (by decide) ?_
      show Steps p.tables e below (s₁.setTop (mkF m 23 #[.val (.int p1), .val (.int p2)] [(.int (1 : Int32))])) t
      exact k
    obtain ⟨fs, hr, hrun, hended, hW, hsame⟩ := X0.leave (v := some (.int (1 : Int32))) (fun h => by rw [Bd.returns] at h; cases h) Bd.notSynchronized
    refine ⟨_, _, pre0 _ (K1 _ (K3 _ (K4 _ (retN X0 hx (t := .boolean) Bd.returns (by simp) (Jvm.hb hby d2_23) hr)))), hrun, hended, _, _, rfl, ?_, ⟨_, rfl⟩, hW, hsame.mono (by decide) (by decide)⟩
    show Q2 Z p1 p2 h0 n0 _ s₁.heap _
    rw [e0]
    exact ⟨congrArg (fun z => some (Value.int z)) (show (1 : Int32) = f2 p1 p2 from Eq.symm (if_pos hc2)), N0, rfl⟩
  · have K5 : ∀ t, Steps p.tables e below (s₁.setTop (mkF m 6 #[.val (.int p1), .val (.int p2)] [])) t → Steps p.tables e below (s₁.setTop (mkF m 3 #[.val (.int p1), .val (.int p2)] [(.int (13 : Int32)), (.int p2)])) t := by
      intro t k
      refine XS.icmpNo X0.here hx rfl (Jvm.hb hby d2_3) rfl (feq hc2).1 ?_
      exact k
    have K6 : ∀ t, Steps p.tables e below (s₁.setTop (mkF m 9 #[.val (.int p1), .val (.int p2)] [(.int (10 : Int32)), (.int p2)])) t → Steps p.tables e below (s₁.setTop (mkF m 6 #[.val (.int p1), .val (.int p2)] [])) t := by
      intro t k
      refine XS.iloadN X0.here hx rfl (Jvm.hb hby d2_6) rfl ?_
      show Steps p.tables e below (s₁.setTop (mkF m 7 #[.val (.int p1), .val (.int p2)] [(.int p2)])) t
      refine XS.bipush X0.here hx rfl (Jvm.hb hby d2_7) ?_
      show Steps p.tables e below (s₁.setTop (mkF m 9 #[.val (.int p1), .val (.int p2)] [(.int (10 : Int32)), (.int p2)])) t
      exact k
    by_cases hc7 : p2 = (10 : Int32)
    · have K8 : ∀ t, Steps p.tables e below (s₁.setTop (mkF m 12 #[.val (.int p1), .val (.int p2)] [])) t → Steps p.tables e below (s₁.setTop (mkF m 9 #[.val (.int p1), .val (.int p2)] [(.int (10 : Int32)), (.int p2)])) t := by
        intro t k
        refine XS.icmpNo X0.here hx rfl (Jvm.hb hby d2_9) rfl (teq hc7).2 ?_
        exact k
      have K9 : ∀ t, Steps p.tables e below (s₁.setTop (mkF m 15 #[.val (.int p1), .val (.int p2)] [(.int (13 : Int32)), (.int p1)])) t → Steps p.tables e below (s₁.setTop (mkF m 12 #[.val (.int p1), .val (.int p2)] [])) t := by
        intro t k
        refine XS.iloadN X0.here hx rfl (Jvm.hb hby d2_12) rfl ?_
        show Steps p.tables e below (s₁.setTop (mkF m 13 #[.val (.int p1), .val (.int p2)] [(.int p1)])) t
        refine XS.bipush X0.here hx rfl (Jvm.hb hby d2_13) ?_
        show Steps p.tables e below (s₁.setTop (mkF m 15 #[.val (.int p1), .val (.int p2)] [(.int (13 : Int32)), (.int p1)])) t
        exact k
      by_cases hc10 : p1 = (13 : Int32)
      · have K11 : ∀ t, Steps p.tables e below (s₁.setTop (mkF m 22 #[.val (.int p1), .val (.int p2)] [])) t → Steps p.tables e below (s₁.setTop (mkF m 15 #[.val (.int p1), .val (.int p2)] [(.int (13 : Int32)), (.int p1)])) t := by
          intro t k
          refine XS.icmpYes X0.here hx rfl (pc0 := 15) (pc' := 22) rfl (Jvm.hb hby d2_15) rfl (teq hc10).1 (by decide) (by decide) ?_
          exact k
        have K12 : ∀ t, Steps p.tables e below (s₁.setTop (mkF m 23 #[.val (.int p1), .val (.int p2)] [(.int (0 : Int32))])) t → Steps p.tables e below (s₁.setTop (mkF m 22 #[.val (.int p1), .val (.int p2)] [])) t := by
          intro t k
          refine XS.iconst X0.here hx rfl (Jvm.hb hby d2_22) ?_
          show Steps p.tables e below (s₁.setTop (mkF m 23 #[.val (.int p1), .val (.int p2)] [(.int (0 : Int32))])) t
          exact k
        obtain ⟨fs, hr, hrun, hended, hW, hsame⟩ := X0.leave (v := some (.int (0 : Int32))) (fun h => by rw [Bd.returns] at h; cases h) Bd.notSynchronized
        refine ⟨_, _, pre0 _ (K1 _ (K5 _ (K6 _ (K8 _ (K9 _ (K11 _ (K12 _ (retN X0 hx (t := .boolean) Bd.returns (by simp) (Jvm.hb hby d2_23) hr)))))))), hrun, hended, _, _, rfl, ?_, ⟨_, rfl⟩, hW, hsame.mono (by decide) (by decide)⟩
        show Q2 Z p1 p2 h0 n0 _ s₁.heap _
        rw [e0]
        exact ⟨congrArg (fun z => some (Value.int z)) (show (0 : Int32) = f2 p1 p2 from Eq.symm ((if_neg hc2).trans ((if_pos hc7).trans (if_pos hc10)))), N0, rfl⟩
      · have K13 : ∀ t, Steps p.tables e below (s₁.setTop (mkF m 18 #[.val (.int p1), .val (.int p2)] [])) t → Steps p.tables e below (s₁.setTop (mkF m 15 #[.val (.int p1), .val (.int p2)] [(.int (13 : Int32)), (.int p1)])) t := by
          intro t k
          refine XS.icmpNo X0.here hx rfl (Jvm.hb hby d2_15) rfl (feq hc10).1 ?_
          exact k
        have K14 : ∀ t, Steps p.tables e below (s₁.setTop (mkF m 23 #[.val (.int p1), .val (.int p2)] [(.int (1 : Int32))])) t → Steps p.tables e below (s₁.setTop (mkF m 18 #[.val (.int p1), .val (.int p2)] [])) t := by
          intro t k
          refine XS.iconst X0.here hx rfl (Jvm.hb hby d2_18) ?_
          show Steps p.tables e below (s₁.setTop (mkF m 19 #[.val (.int p1), .val (.int p2)] [(.int (1 : Int32))])) t
          refine XS.goto X0.here hx rfl (pc0 := 19) (pc' := 23) rfl (Jvm.hb hby d2_19) (by decide) (by decide) ?_
          show Steps p.tables e below (s₁.setTop (mkF m 23 #[.val (.int p1), .val (.int p2)] [(.int (1 : Int32))])) t
          exact k
        obtain ⟨fs, hr, hrun, hended, hW, hsame⟩ := X0.leave (v := some (.int (1 : Int32))) (fun h => by rw [Bd.returns] at h; cases h) Bd.notSynchronized
        refine ⟨_, _, pre0 _ (K1 _ (K5 _ (K6 _ (K8 _ (K9 _ (K13 _ (K14 _ (retN X0 hx (t := .boolean) Bd.returns (by simp) (Jvm.hb hby d2_23) hr)))))))), hrun, hended, _, _, rfl, ?_, ⟨_, rfl⟩, hW, hsame.mono (by decide) (by decide)⟩
        show Q2 Z p1 p2 h0 n0 _ s₁.heap _
        rw [e0]
        exact ⟨congrArg (fun z => some (Value.int z)) (show (1 : Int32) = f2 p1 p2 from Eq.symm ((if_neg hc2).trans ((if_pos hc7).trans (if_neg hc10)))), N0, rfl⟩
    · have K15 : ∀ t, Steps p.tables e below (s₁.setTop (mkF m 22 #[.val (.int p1), .val (.int p2)] [])) t → Steps p.tables e below (s₁.setTop (mkF m 9 #[.val (.int p1), .val (.int p2)] [(.int (10 : Int32)), (.int p2)])) t := by
        intro t k
        refine XS.icmpYes X0.here hx rfl (pc0 := 9) (pc' := 22) rfl (Jvm.hb hby d2_9) rfl (feq hc7).2 (by decide) (by decide) ?_
        exact k
      have K16 : ∀ t, Steps p.tables e below (s₁.setTop (mkF m 23 #[.val (.int p1), .val (.int p2)] [(.int (0 : Int32))])) t → Steps p.tables e below (s₁.setTop (mkF m 22 #[.val (.int p1), .val (.int p2)] [])) t := by
        intro t k
        refine XS.iconst X0.here hx rfl (Jvm.hb hby d2_22) ?_
        show Steps p.tables e below (s₁.setTop (mkF m 23 #[.val (.int p1), .val (.int p2)] [(.int (0 : Int32))])) t
        exact k
      obtain ⟨fs, hr, hrun, hended, hW, hsame⟩ := X0.leave (v := some (.int (0 : Int32))) (fun h => by rw [Bd.returns] at h; cases h) Bd.notSynchronized
      refine ⟨_, _, pre0 _ (K1 _ (K5 _ (K6 _ (K15 _ (K16 _ (retN X0 hx (t := .boolean) Bd.returns (by simp) (Jvm.hb hby d2_23) hr)))))), hrun, hended, _, _, rfl, ?_, ⟨_, rfl⟩, hW, hsame.mono (by decide) (by decide)⟩
      show Q2 Z p1 p2 h0 n0 _ s₁.heap _
      rw [e0]
      exact ⟨congrArg (fun z => some (Value.int z)) (show (0 : Int32) = f2 p1 p2 from Eq.symm ((if_neg hc2).trans (if_neg hc7))), N0, rfl⟩
theorem d3_0 : decode method_3_code 0 = .ok (.iload_n 0, 1) := by decide +kernel
theorem d3_1 : decode method_3_code 1 = .ok (.bipush 13, 2) := by decide +kernel
theorem d3_3 : decode method_3_code 3 = .ok (.if_icmp .eq 9, 3) := by decide +kernel
theorem d3_6 : decode method_3_code 6 = .ok (.iload_n 0, 1) := by decide +kernel
theorem d3_7 : decode method_3_code 7 = .ok (.bipush 10, 2) := by decide +kernel
theorem d3_9 : decode method_3_code 9 = .ok (.if_icmp .ne 7, 3) := by decide +kernel
theorem d3_12 : decode method_3_code 12 = .ok (.iconst 1, 1) := by decide +kernel
theorem d3_13 : decode method_3_code 13 = .ok (.goto 4, 3) := by decide +kernel
theorem d3_16 : decode method_3_code 16 = .ok (.iconst 0, 1) := by decide +kernel
theorem d3_17 : decode method_3_code 17 = .ok (.ireturn, 1) := by decide +kernel
theorem pn_3 : plainName x.cls = true := by first | (simp [plainName, overriddenIn]; done) | decide +kernel
theorem ef_3 (m : MethodId) (p1 : Int32) : entryFrame m #[(.int p1)] 1 = mkF m 0 #[.val (.int p1)] [] := by first | (simp [entryFrame, mkF, argsToLocals, Value.category]; done) | rfl
def f3 (p1 : Int32) : Int32 := (if p1 = (13 : Int32) then (1 : Int32) else (if p1 = (10 : Int32) then (1 : Int32) else (0 : Int32)))
def Q3 (Z : State) (p1 : Int32) (h0 : Heap) (n0 : Nat) (v : Option Value) (h : Heap) (L : List Loc) : Prop := v = some (.int (f3 p1)) ∧ Fr n0 L ∧ h = h0
set_option maxRecDepth 65536 in
set_option maxHeartbeats 40000000 in
theorem rm3 (l : Launch) (Z : State) (a0 : Array Value) (hw : ∀ d ∈ tables_1, d.before a0 Z = true) (ws : List Jvm.Cond) (p1 : Int32) (h0 : Heap) (n0 : Nat) (Z0 : n0 ≤ h0.size) :
    MetFree l (⟨x.cls, "isBreak", "(C)Z"⟩ : MethodName) (head1 (Jvm.Cond.code (⟨x.cls, "isBreak", "(C)Z"⟩ : MethodName) method_3_code 1 (some .boolean) :: ws) ({ frames := 0, cells := 0, slots := 0, locals := 0 } : Room)) (fun a U => a = #[(.int p1)] ∧ Z.Warmed39 U.vm ∧ U.heap = h0) (fun _ _ _ _ _ => True) (fun _ U o U' => ∃ v L, o = .returned v ∧ Q3 Z p1 h0 n0 v U'.heap L ∧ FrameEnd U o U' L ({ frames := 0, cells := 0, slots := 0, locals := 0 } : Room).cells ({ frames := 0, cells := 0, slots := 0, locals := 0 } : Room).slots) := by
  refine MetFree.of_bodySF (plainFor_of_name pn_3) hisR ?_
  intro p e s m args below meth c s₁ Bd hml0 hP hK
  obtain ⟨rfl, hZ, hh⟩ := hP
  have hx := Bd.exec
  have hby := Bd.bytes
  have hml : c.maxLocals = 1 := hml0
  have hown : s.vm.findClass x.cls = some m.cls := by have q := findClass_of_methodNamed Bd.named; exact q
  have hnm := (name_of_methodNamed Bd.named Bd.method).1
  have X0 : Stand p l e ({ frames := 0, cells := 0, slots := 0, locals := 0 } : Room) s m #[(.int p1)] below meth c s₁ [] 0 0 := Stand.of_body Bd
  have e0 : s₁.heap = h0 := by rw [← hh, Bd.state]; rfl
  have N0 := Fr.nil n0
  have pre0 : ∀ t, Steps p.tables e below (s₁.setTop (mkF m 0 #[.val (.int p1)] [])) t → Steps p.tables e below (s₁.setTop (entryFrame m #[(.int p1)] 1)) t := fun t k => castTop (ef_3 m p1) k
  have K1 : ∀ t, Steps p.tables e below (s₁.setTop (mkF m 3 #[.val (.int p1)] [(.int (13 : Int32)), (.int p1)])) t → Steps p.tables e below (s₁.setTop (mkF m 0 #[.val (.int p1)] [])) t := by
    intro t k
    refine XS.iloadN X0.here hx rfl (Jvm.hb hby d3_0) rfl ?_
    show Steps p.tables e below (s₁.setTop (mkF m 1 #[.val (.int p1)] [(.int p1)])) t
    refine XS.bipush X0.here hx rfl (Jvm.hb hby d3_1) ?_
    show Steps p.tables e below (s₁.setTop (mkF m 3 #[.val (.int p1)] [(.int (13 : Int32)), (.int p1)])) t
    exact k
  by_cases hc2 : p1 = (13 : Int32)
  · have K3 : ∀ t, Steps p.tables e below (s₁.setTop (mkF m 12 #[.val (.int p1)] [])) t → Steps p.tables e below (s₁.setTop (mkF m 3 #[.val (.int p1)] [(.int (13 : Int32)), (.int p1)])) t := by
      intro t k
      refine XS.icmpYes X0.here hx rfl (pc0 := 3) (pc' := 12) rfl (Jvm.hb hby d3_3) rfl (teq hc2).1 (by decide) (by decide) ?_
      exact k
    have K4 : ∀ t, Steps p.tables e below (s₁.setTop (mkF m 17 #[.val (.int p1)] [(.int (1 : Int32))])) t → Steps p.tables e below (s₁.setTop (mkF m 12 #[.val (.int p1)] [])) t := by
      intro t k
      refine XS.iconst X0.here hx rfl (Jvm.hb hby d3_12) ?_
      show Steps p.tables e below (s₁.setTop (mkF m 13 #[.val (.int p1)] [(.int (1 : Int32))])) t
      refine XS.goto X0.here hx rfl (pc0 := 13) (pc' := 17) rfl (Jvm.hb hby d3_13) (by decide) (by decide) ?_
      show Steps p.tables e below (s₁.setTop (mkF m 17 #[.val (.int p1)] [(.int (1 : Int32))])) t
      exact k
    obtain ⟨fs, hr, hrun, hended, hW, hsame⟩ := X0.leave (v := some (.int (1 : Int32))) (fun h => by rw [Bd.returns] at h; cases h) Bd.notSynchronized
    refine ⟨_, _, pre0 _ (K1 _ (K3 _ (K4 _ (retN X0 hx (t := .boolean) Bd.returns (by simp) (Jvm.hb hby d3_17) hr)))), hrun, hended, _, _, rfl, ?_, ⟨_, rfl⟩, hW, hsame.mono (by decide) (by decide)⟩
    show Q3 Z p1 h0 n0 _ s₁.heap _
    rw [e0]
    exact ⟨congrArg (fun z => some (Value.int z)) (show (1 : Int32) = f3 p1 from Eq.symm (if_pos hc2)), N0, rfl⟩
  · have K5 : ∀ t, Steps p.tables e below (s₁.setTop (mkF m 6 #[.val (.int p1)] [])) t → Steps p.tables e below (s₁.setTop (mkF m 3 #[.val (.int p1)] [(.int (13 : Int32)), (.int p1)])) t := by
      intro t k
      refine XS.icmpNo X0.here hx rfl (Jvm.hb hby d3_3) rfl (feq hc2).1 ?_
      exact k
    have K6 : ∀ t, Steps p.tables e below (s₁.setTop (mkF m 9 #[.val (.int p1)] [(.int (10 : Int32)), (.int p1)])) t → Steps p.tables e below (s₁.setTop (mkF m 6 #[.val (.int p1)] [])) t := by
      intro t k
      refine XS.iloadN X0.here hx rfl (Jvm.hb hby d3_6) rfl ?_
      show Steps p.tables e below (s₁.setTop (mkF m 7 #[.val (.int p1)] [(.int p1)])) t
      refine XS.bipush X0.here hx rfl (Jvm.hb hby d3_7) ?_
      show Steps p.tables e below (s₁.setTop (mkF m 9 #[.val (.int p1)] [(.int (10 : Int32)), (.int p1)])) t
      exact k
    by_cases hc7 : p1 = (10 : Int32)
    · have K8 : ∀ t, Steps p.tables e below (s₁.setTop (mkF m 12 #[.val (.int p1)] [])) t → Steps p.tables e below (s₁.setTop (mkF m 9 #[.val (.int p1)] [(.int (10 : Int32)), (.int p1)])) t := by
        intro t k
        refine XS.icmpNo X0.here hx rfl (Jvm.hb hby d3_9) rfl (teq hc7).2 ?_
        exact k
      have K9 : ∀ t, Steps p.tables e below (s₁.setTop (mkF m 17 #[.val (.int p1)] [(.int (1 : Int32))])) t → Steps p.tables e below (s₁.setTop (mkF m 12 #[.val (.int p1)] [])) t := by
        intro t k
        refine XS.iconst X0.here hx rfl (Jvm.hb hby d3_12) ?_
        show Steps p.tables e below (s₁.setTop (mkF m 13 #[.val (.int p1)] [(.int (1 : Int32))])) t
        refine XS.goto X0.here hx rfl (pc0 := 13) (pc' := 17) rfl (Jvm.hb hby d3_13) (by decide) (by decide) ?_
        show Steps p.tables e below (s₁.setTop (mkF m 17 #[.val (.int p1)] [(.int (1 : Int32))])) t
        exact k
      obtain ⟨fs, hr, hrun, hended, hW, hsame⟩ := X0.leave (v := some (.int (1 : Int32))) (fun h => by rw [Bd.returns] at h; cases h) Bd.notSynchronized
      refine ⟨_, _, pre0 _ (K1 _ (K5 _ (K6 _ (K8 _ (K9 _ (retN X0 hx (t := .boolean) Bd.returns (by simp) (Jvm.hb hby d3_17) hr)))))), hrun, hended, _, _, rfl, ?_, ⟨_, rfl⟩, hW, hsame.mono (by decide) (by decide)⟩
      show Q3 Z p1 h0 n0 _ s₁.heap _
      rw [e0]
      exact ⟨congrArg (fun z => some (Value.int z)) (show (1 : Int32) = f3 p1 from Eq.symm ((if_neg hc2).trans (if_pos hc7))), N0, rfl⟩
    · have K10 : ∀ t, Steps p.tables e below (s₁.setTop (mkF m 16 #[.val (.int p1)] [])) t → Steps p.tables e below (s₁.setTop (mkF m 9 #[.val (.int p1)] [(.int (10 : Int32)), (.int p1)])) t := by
        intro t k
        refine XS.icmpYes X0.here hx rfl (pc0 := 9) (pc' := 16) rfl (Jvm.hb hby d3_9) rfl (feq hc7).2 (by decide) (by decide) ?_
        exact k
      have K11 : ∀ t, Steps p.tables e below (s₁.setTop (mkF m 17 #[.val (.int p1)] [(.int (0 : Int32))])) t → Steps p.tables e below (s₁.setTop (mkF m 16 #[.val (.int p1)] [])) t := by
        intro t k
        refine XS.iconst X0.here hx rfl (Jvm.hb hby d3_16) ?_
        show Steps p.tables e below (s₁.setTop (mkF m 17 #[.val (.int p1)] [(.int (0 : Int32))])) t
        exact k
      obtain ⟨fs, hr, hrun, hended, hW, hsame⟩ := X0.leave (v := some (.int (0 : Int32))) (fun h => by rw [Bd.returns] at h; cases h) Bd.notSynchronized
      refine ⟨_, _, pre0 _ (K1 _ (K5 _ (K6 _ (K10 _ (K11 _ (retN X0 hx (t := .boolean) Bd.returns (by simp) (Jvm.hb hby d3_17) hr)))))), hrun, hended, _, _, rfl, ?_, ⟨_, rfl⟩, hW, hsame.mono (by decide) (by decide)⟩
      show Q3 Z p1 h0 n0 _ s₁.heap _
      rw [e0]
      exact ⟨congrArg (fun z => some (Value.int z)) (show (0 : Int32) = f3 p1 from Eq.symm ((if_neg hc2).trans (if_neg hc7))), N0, rfl⟩
theorem pn_0 : plainName x.cls = true := by first | (simp [plainName, overriddenIn]; done) | decide +kernel
theorem pd_2 : parseMethodDescriptor "(C)Z" = some ⟨[.char], some .boolean⟩ := by decide +kernel
theorem pd_1 : parseMethodDescriptor "(CC)Z" = some ⟨[.char, .char], some .boolean⟩ := by decide +kernel
theorem pd_0 : parseMethodDescriptor "(II)C" = some ⟨[.int, .int], some .char⟩ := by decide +kernel
theorem ef_0 (m : MethodId) (p1 : Int32) (p2 : Int32) (p3 : Int32) : entryFrame m #[(.int p1), (.int p2), (.int p3)] maxLocals = mkF m 0 #[.val (.int p1), .val (.int p2), .val (.int p3), .unset, .unset, .unset, .unset, .unset, .unset] [] := by first | (simp [entryFrame, mkF, argsToLocals, Value.category, maxLocals]; done) | rfl
def f0_u1 (p1 : Int32) (p3 : Int32) : Int32 := (if (f1 p1 (p3 &&& (3 : Int32))) = (13 : Int32) then (0 : Int32) else (1 : Int32))
def f0_u2 (p1 : Int32) (p2 : Int32) (p3 : Int32) : Int32 := (if (f1 p2 (((p3.toUInt32 >>> ((2 : Int32) &&& 31).toUInt32).toInt32) &&& (3 : Int32))) = (13 : Int32) then (1 : Int32) else (if (f1 p2 (((p3.toUInt32 >>> ((2 : Int32) &&& 31).toUInt32).toInt32) &&& (3 : Int32))) = (10 : Int32) then (f0_u1 p1 p3) else (0 : Int32)))
def f0_u3 (p1 : Int32) (p3 : Int32) : Int32 := (if (f2 (0 : Int32) (f1 p1 (p3 &&& (3 : Int32)))) = (0 : Int32) then (0 : Int32) else (1 : Int32))
def f0_u4 (p1 : Int32) (p2 : Int32) (p3 : Int32) : Int32 := (if (f2 (f1 p1 (p3 &&& (3 : Int32))) (f1 p2 (((p3.toUInt32 >>> ((2 : Int32) &&& 31).toUInt32).toInt32) &&& (3 : Int32)))) = (0 : Int32) then (0 : Int32) else (1 : Int32))
def f0_u5 (p1 : Int32) (p3 : Int32) : Int32 := (if (f3 (f1 p1 (p3 &&& (3 : Int32)))) = (0 : Int32) then (0 : Int32) else (1 : Int32))
def f0_u6 (p2 : Int32) (p3 : Int32) : Int32 := (if (f3 (f1 p2 (((p3.toUInt32 >>> ((2 : Int32) &&& 31).toUInt32).toInt32) &&& (3 : Int32)))) = (0 : Int32) then (0 : Int32) else (1 : Int32))
def f0_u7 (p1 : Int32) (p2 : Int32) (p3 : Int32) : Int32 := (if (f1 p1 (p3 &&& (3 : Int32))) = (13 : Int32) then (if (f1 p2 (((p3.toUInt32 >>> ((2 : Int32) &&& 31).toUInt32).toInt32) &&& (3 : Int32))) = (10 : Int32) then (1 : Int32) else ((f0_u5 p1 p3) + (f0_u6 p2 p3))) else ((f0_u5 p1 p3) + (f0_u6 p2 p3)))
def f0 (p1 : Int32) (p2 : Int32) (p3 : Int32) : Int32 := (if (f2 (f1 p1 (p3 &&& (3 : Int32))) (f1 p2 (((p3.toUInt32 >>> ((2 : Int32) &&& 31).toUInt32).toInt32) &&& (3 : Int32)))) = (f0_u2 p1 p2 p3) then (if ((f0_u3 p1 p3) + (f0_u4 p1 p2 p3)) = (f0_u7 p1 p2 p3) then (1 : Int32) else (0 : Int32)) else (0 : Int32))
def Q0 (Z : State) (p1 : Int32) (p2 : Int32) (p3 : Int32) (h0 : Heap) (n0 : Nat) (v : Option Value) (h : Heap) (L : List Loc) : Prop := v = some (.int (f0 p1 p2 p3)) ∧ Fr n0 L ∧ h = h0
set_option maxRecDepth 65536 in
set_option maxHeartbeats 40000000 in
theorem rm0 (l : Launch) (Z : State) (a0 : Array Value) (hw : ∀ d ∈ tables_1, d.before a0 Z = true) (ws : List Jvm.Cond) (p1 : Int32) (p2 : Int32) (p3 : Int32) (h0 : Heap) (n0 : Nat) (Z0 : n0 ≤ h0.size) :
    MetFree l x (head1 (Jvm.Cond.code x code maxLocals ret :: ws) room_1) (fun a U => a = #[(.int p1), (.int p2), (.int p3)] ∧ Z.Warmed39 U.vm ∧ U.heap = h0) (fun _ _ _ _ _ => True) (fun _ U o U' => ∃ v L, o = .returned v ∧ Q0 Z p1 p2 p3 h0 n0 v U'.heap L ∧ FrameEnd U o U' L room_1.cells room_1.slots) := by
  refine MetFree.of_bodySF (plainFor_of_name pn_0) hisR ?_
  intro p e s m args below meth c s₁ Bd hml0 hP hK
  obtain ⟨rfl, hZ, hh⟩ := hP
  have hx := Bd.exec
  have hby := Bd.bytes
  have hml : c.maxLocals = 9 := hml0
  have hown : s.vm.findClass x.cls = some m.cls := by have q := findClass_of_methodNamed Bd.named; exact q
  have hnm := (name_of_methodNamed Bd.named Bd.method).1
  have X0 : Stand p l e room_1 s m #[(.int p1), (.int p2), (.int p3)] below meth c s₁ [] 0 0 := Stand.of_body Bd
  have e0 : s₁.heap = h0 := by rw [← hh, Bd.state]; rfl
  have N0 := Fr.nil n0
  have pre0 : ∀ t, Steps p.tables e below (s₁.setTop (mkF m 0 #[.val (.int p1), .val (.int p2), .val (.int p3), .unset, .unset, .unset, .unset, .unset, .unset] [])) t → Steps p.tables e below (s₁.setTop (entryFrame m #[(.int p1), (.int p2), (.int p3)] maxLocals)) t := fun t k => castTop (ef_0 m p1 p2 p3) k
  have K1 : ∀ t, Steps p.tables e below (s₁.setTop (mkF m 4 #[.val (.int p1), .val (.int p2), .val (.int p3), .unset, .unset, .unset, .unset, .unset, .unset] [(.int (p3 &&& (3 : Int32))), (.int p1)])) t → Steps p.tables e below (s₁.setTop (mkF m 0 #[.val (.int p1), .val (.int p2), .val (.int p3), .unset, .unset, .unset, .unset, .unset, .unset] [])) t := by
    intro t k
    refine XS.iloadN X0.here hx rfl (Jvm.hb hby at_0) rfl ?_
    show Steps p.tables e below (s₁.setTop (mkF m 1 #[.val (.int p1), .val (.int p2), .val (.int p3), .unset, .unset, .unset, .unset, .unset, .unset] [(.int p1)])) t
    refine XS.iloadN X0.here hx rfl (Jvm.hb hby at_1) rfl ?_
    show Steps p.tables e below (s₁.setTop (mkF m 2 #[.val (.int p1), .val (.int p2), .val (.int p3), .unset, .unset, .unset, .unset, .unset, .unset] [(.int p3), (.int p1)])) t
    refine XS.iconst X0.here hx rfl (Jvm.hb hby at_2) ?_
    show Steps p.tables e below (s₁.setTop (mkF m 3 #[.val (.int p1), .val (.int p2), .val (.int p3), .unset, .unset, .unset, .unset, .unset, .unset] [(.int (3 : Int32)), (.int p3), (.int p1)])) t
    refine XS.iand X0.here hx rfl (Jvm.hb hby at_3) rfl ?_
    show Steps p.tables e below (s₁.setTop (mkF m 4 #[.val (.int p1), .val (.int p2), .val (.int p3), .unset, .unset, .unset, .unset, .unset, .unset] [(.int (p3 &&& (3 : Int32))), (.int p1)])) t
    exact k
  obtain ⟨_, _, ⟨T2, L2, k2, n2⟩, -, X2, ⟨Lc2, hQ2, l2, y2, z2⟩, st2⟩ := Jvm.LawKit.callS X0 hx (y := (⟨x.cls, "pick", "(II)C"⟩ : MethodName)) hown (mvT hZ (hw _ (List.mem_of_getElem? (i := 0) rfl))) (mvT hZ (hw _ (List.mem_of_getElem? (i := 1) rfl))) (mvT hZ (hw _ (List.mem_of_getElem? (i := 2) rfl))) (mvT hZ (hw _ (List.mem_of_getElem? (i := 3) rfl))) (by decide) (backOf (W := 0) (rm1 l Z a0 hw [] p1 (p3 &&& (3 : Int32)) h0 n0 Z0 ) hZ (hw _ (List.mem_of_getElem? (i := 3) rfl)) (hw _ (List.mem_of_getElem? (i := 2) rfl)) (by decide) (by decide)) (g := (mkF m 4 #[.val (.int p1), .val (.int p2), .val (.int p3), .unset, .unset, .unset, .unset, .unset, .unset] [(.int (p3 &&& (3 : Int32))), (.int p1)])) rfl (by rw [hml]; rfl) (argsL := [(.int p1), (.int (p3 &&& (3 : Int32)))]) (rest := []) (lenOf pd_0 rfl) rfl (by show 2 * 0 + _ ≤ _; exact Nat.le_of_eq rfl) (Jvm.hb hby at_4) (fun _ _ => ⟨rfl, e0, (by decide : 0 + 0 ≤ _), (by decide : 0 + 0 ≤ _)⟩)
  dsimp only [Pt.U, Pt.locs, Pt.cells, Pt.slots] at X2 l2 y2 z2 st2 hQ2
  subst l2 y2 z2
  obtain ⟨rfl, N2q, e2⟩ := hQ2
  have N2 := Fr.app N0 N2q
  have K3 : ∀ t, Steps p.tables e below (T2.setTop (mkF m 7 #[.val (.int p1), .val (.int p2), .val (.int p3), .unset, .unset, .unset, .unset, .unset, .unset] [(.int (f1 p1 (p3 &&& (3 : Int32))))])) t → Steps p.tables e below (s₁.setTop (mkF m 4 #[.val (.int p1), .val (.int p2), .val (.int p3), .unset, .unset, .unset, .unset, .unset, .unset] [(.int (p3 &&& (3 : Int32))), (.int p1)])) t := fun t k => st2 _ k
  have K4 : ∀ t, Steps p.tables e below (T2.setTop (mkF m 14 #[.val (.int p1), .val (.int p2), .val (.int p3), .val (.int (f1 p1 (p3 &&& (3 : Int32)))), .unset, .unset, .unset, .unset, .unset] [(.int (((p3.toUInt32 >>> ((2 : Int32) &&& 31).toUInt32).toInt32) &&& (3 : Int32))), (.int p2)])) t → Steps p.tables e below (T2.setTop (mkF m 7 #[.val (.int p1), .val (.int p2), .val (.int p3), .unset, .unset, .unset, .unset, .unset, .unset] [(.int (f1 p1 (p3 &&& (3 : Int32))))])) t := by
    intro t k
    refine XS.istoreN X2.here hx rfl (Jvm.hb hby at_7) rfl (l' := #[.val (.int p1), .val (.int p2), .val (.int p3), .val (.int (f1 p1 (p3 &&& (3 : Int32)))), .unset, .unset, .unset, .unset, .unset]) rfl ?_
    show Steps p.tables e below (T2.setTop (mkF m 8 #[.val (.int p1), .val (.int p2), .val (.int p3), .val (.int (f1 p1 (p3 &&& (3 : Int32)))), .unset, .unset, .unset, .unset, .unset] [])) t
    refine XS.iloadN X2.here hx rfl (Jvm.hb hby at_8) rfl ?_
    show Steps p.tables e below (T2.setTop (mkF m 9 #[.val (.int p1), .val (.int p2), .val (.int p3), .val (.int (f1 p1 (p3 &&& (3 : Int32)))), .unset, .unset, .unset, .unset, .unset] [(.int p2)])) t
    refine XS.iloadN X2.here hx rfl (Jvm.hb hby at_9) rfl ?_
    show Steps p.tables e below (T2.setTop (mkF m 10 #[.val (.int p1), .val (.int p2), .val (.int p3), .val (.int (f1 p1 (p3 &&& (3 : Int32)))), .unset, .unset, .unset, .unset, .unset] [(.int p3), (.int p2)])) t
    refine XS.iconst X2.here hx rfl (Jvm.hb hby at_10) ?_
    show Steps p.tables e below (T2.setTop (mkF m 11 #[.val (.int p1), .val (.int p2), .val (.int p3), .val (.int (f1 p1 (p3 &&& (3 : Int32)))), .unset, .unset, .unset, .unset, .unset] [(.int (2 : Int32)), (.int p3), (.int p2)])) t
    refine XS.iushr X2.here hx rfl (Jvm.hb hby at_11) rfl ?_
    show Steps p.tables e below (T2.setTop (mkF m 12 #[.val (.int p1), .val (.int p2), .val (.int p3), .val (.int (f1 p1 (p3 &&& (3 : Int32)))), .unset, .unset, .unset, .unset, .unset] [(.int ((p3.toUInt32 >>> ((2 : Int32) &&& 31).toUInt32).toInt32)), (.int p2)])) t
    refine XS.iconst X2.here hx rfl (Jvm.hb hby at_12) ?_
    show Steps p.tables e below (T2.setTop (mkF m 13 #[.val (.int p1), .val (.int p2), .val (.int p3), .val (.int (f1 p1 (p3 &&& (3 : Int32)))), .unset, .unset, .unset, .unset, .unset] [(.int (3 : Int32)), (.int ((p3.toUInt32 >>> ((2 : Int32) &&& 31).toUInt32).toInt32)), (.int p2)])) t
    refine XS.iand X2.here hx rfl (Jvm.hb hby at_13) rfl ?_
    show Steps p.tables e below (T2.setTop (mkF m 14 #[.val (.int p1), .val (.int p2), .val (.int p3), .val (.int (f1 p1 (p3 &&& (3 : Int32)))), .unset, .unset, .unset, .unset, .unset] [(.int (((p3.toUInt32 >>> ((2 : Int32) &&& 31).toUInt32).toInt32) &&& (3 : Int32))), (.int p2)])) t
    exact k
  obtain ⟨_, _, ⟨T5, L5, k5, n5⟩, -, X5, ⟨Lc5, hQ5, l5, y5, z5⟩, st5⟩ := Jvm.LawKit.callS X2 hx (y := (⟨x.cls, "pick", "(II)C"⟩ : MethodName)) hown (mvT hZ (hw _ (List.mem_of_getElem? (i := 0) rfl))) (mvT hZ (hw _ (List.mem_of_getElem? (i := 1) rfl))) (mvT hZ (hw _ (List.mem_of_getElem? (i := 2) rfl))) (mvT hZ (hw _ (List.mem_of_getElem? (i := 3) rfl))) (by decide) (backOf (W := 0) (rm1 l Z a0 hw [] p2 (((p3.toUInt32 >>> ((2 : Int32) &&& 31).toUInt32).toInt32) &&& (3 : Int32)) h0 n0 Z0 ) hZ (hw _ (List.mem_of_getElem? (i := 3) rfl)) (hw _ (List.mem_of_getElem? (i := 2) rfl)) (by decide) (by decide)) (g := (mkF m 14 #[.val (.int p1), .val (.int p2), .val (.int p3), .val (.int (f1 p1 (p3 &&& (3 : Int32)))), .unset, .unset, .unset, .unset, .unset] [(.int (((p3.toUInt32 >>> ((2 : Int32) &&& 31).toUInt32).toInt32) &&& (3 : Int32))), (.int p2)])) rfl (by rw [hml]; rfl) (argsL := [(.int p2), (.int (((p3.toUInt32 >>> ((2 : Int32) &&& 31).toUInt32).toInt32) &&& (3 : Int32)))]) (rest := []) (lenOf pd_0 rfl) rfl (by show 2 * 0 + _ ≤ _; exact Nat.le_of_eq rfl) (Jvm.hb hby at_14) (fun _ _ => ⟨rfl, e2, (by decide : 0 + 0 ≤ _), (by decide : 0 + 0 ≤ _)⟩)
  dsimp only [Pt.U, Pt.locs, Pt.cells, Pt.slots] at X5 l5 y5 z5 st5 hQ5
  subst l5 y5 z5
  obtain ⟨rfl, N5q, e5⟩ := hQ5
  have N5 := Fr.app N2 N5q
  have K6 : ∀ t, Steps p.tables e below (T5.setTop (mkF m 17 #[.val (.int p1), .val (.int p2), .val (.int p3), .val (.int (f1 p1 (p3 &&& (3 : Int32)))), .unset, .unset, .unset, .unset, .unset] [(.int (f1 p2 (((p3.toUInt32 >>> ((2 : Int32) &&& 31).toUInt32).toInt32) &&& (3 : Int32))))])) t → Steps p.tables e below (T2.setTop (mkF m 14 #[.val (.int p1), .val (.int p2), .val (.int p3), .val (.int (f1 p1 (p3 &&& (3 : Int32)))), .unset, .unset, .unset, .unset, .unset] [(.int (((p3.toUInt32 >>> ((2 : Int32) &&& 31).toUInt32).toInt32) &&& (3 : Int32))), (.int p2)])) t := fun t k => st5 _ k
  have K7 : ∀ t, Steps p.tables e below (T5.setTop (mkF m 22 #[.val (.int p1), .val (.int p2), .val (.int p3), .val (.int (f1 p1 (p3 &&& (3 : Int32)))), .val (.int (f1 p2 (((p3.toUInt32 >>> ((2 : Int32) &&& 31).toUInt32).toInt32) &&& (3 : Int32)))), .unset, .unset, .unset, .unset] [(.int (f1 p2 (((p3.toUInt32 >>> ((2 : Int32) &&& 31).toUInt32).toInt32) &&& (3 : Int32)))), (.int (f1 p1 (p3 &&& (3 : Int32))))])) t → Steps p.tables e below (T5.setTop (mkF m 17 #[.val (.int p1), .val (.int p2), .val (.int p3), .val (.int (f1 p1 (p3 &&& (3 : Int32)))), .unset, .unset, .unset, .unset, .unset] [(.int (f1 p2 (((p3.toUInt32 >>> ((2 : Int32) &&& 31).toUInt32).toInt32) &&& (3 : Int32))))])) t := by
    intro t k
    refine XS.istore X5.here hx rfl (Jvm.hb hby at_17) rfl (l' := #[.val (.int p1), .val (.int p2), .val (.int p3), .val (.int (f1 p1 (p3 &&& (3 : Int32)))), .val (.int (f1 p2 (((p3.toUInt32 >>> ((2 : Int32) &&& 31).toUInt32).toInt32) &&& (3 : Int32)))), .unset, .unset, .unset, .unset]) rfl ?_
    show Steps p.tables e below (T5.setTop (mkF m 19 #[.val (.int p1), .val (.int p2), .val (.int p3), .val (.int (f1 p1 (p3 &&& (3 : Int32)))), .val (.int (f1 p2 (((p3.toUInt32 >>> ((2 : Int32) &&& 31).toUInt32).toInt32) &&& (3 : Int32)))), .unset, .unset, .unset, .unset] [])) t
    refine XS.iloadN X5.here hx rfl (Jvm.hb hby at_19) rfl ?_
    show Steps p.tables e below (T5.setTop (mkF m 20 #[.val (.int p1), .val (.int p2), .val (.int p3), .val (.int (f1 p1 (p3 &&& (3 : Int32)))), .val (.int (f1 p2 (((p3.toUInt32 >>> ((2 : Int32) &&& 31).toUInt32).toInt32) &&& (3 : Int32)))), .unset, .unset, .unset, .unset] [(.int (f1 p1 (p3 &&& (3 : Int32))))])) t
    refine XS.iload X5.here hx rfl (Jvm.hb hby at_20) rfl ?_
    show Steps p.tables e below (T5.setTop (mkF m 22 #[.val (.int p1), .val (.int p2), .val (.int p3), .val (.int (f1 p1 (p3 &&& (3 : Int32)))), .val (.int (f1 p2 (((p3.toUInt32 >>> ((2 : Int32) &&& 31).toUInt32).toInt32) &&& (3 : Int32)))), .unset, .unset, .unset, .unset] [(.int (f1 p2 (((p3.toUInt32 >>> ((2 : Int32) &&& 31).toUInt32).toInt32) &&& (3 : Int32)))), (.int (f1 p1 (p3 &&& (3 : Int32))))])) t
    exact k
  obtain ⟨_, _, ⟨T8, L8, k8, n8⟩, -, X8, ⟨Lc8, hQ8, l8, y8, z8⟩, st8⟩ := Jvm.LawKit.callS X5 hx (y := (⟨site_22.cls, "endsLine", "(CC)Z"⟩ : MethodName)) hown (mvT hZ (hw _ (List.mem_of_getElem? (i := 5) rfl))) (mvT hZ (hw _ (List.mem_of_getElem? (i := 6) rfl))) (mvT hZ (hw _ (List.mem_of_getElem? (i := 7) rfl))) (mvT hZ (hw _ (List.mem_of_getElem? (i := 8) rfl))) (by decide) (backOf (W := 0) (rm2 l Z a0 hw [] (f1 p1 (p3 &&& (3 : Int32))) (f1 p2 (((p3.toUInt32 >>> ((2 : Int32) &&& 31).toUInt32).toInt32) &&& (3 : Int32))) h0 n0 Z0 ) hZ (hw _ (List.mem_of_getElem? (i := 8) rfl)) (hw _ (List.mem_of_getElem? (i := 7) rfl)) (by decide) (by decide)) (g := (mkF m 22 #[.val (.int p1), .val (.int p2), .val (.int p3), .val (.int (f1 p1 (p3 &&& (3 : Int32)))), .val (.int (f1 p2 (((p3.toUInt32 >>> ((2 : Int32) &&& 31).toUInt32).toInt32) &&& (3 : Int32)))), .unset, .unset, .unset, .unset] [(.int (f1 p2 (((p3.toUInt32 >>> ((2 : Int32) &&& 31).toUInt32).toInt32) &&& (3 : Int32)))), (.int (f1 p1 (p3 &&& (3 : Int32))))])) rfl (by rw [hml]; rfl) (argsL := [(.int (f1 p1 (p3 &&& (3 : Int32)))), (.int (f1 p2 (((p3.toUInt32 >>> ((2 : Int32) &&& 31).toUInt32).toInt32) &&& (3 : Int32))))]) (rest := []) (lenOf pd_1 rfl) rfl (by show 2 * 0 + _ ≤ _; exact Nat.le_of_eq rfl) (Jvm.hb hby at_22) (fun _ _ => ⟨rfl, e5, (by decide : 0 + 0 ≤ _), (by decide : 0 + 0 ≤ _)⟩)
  dsimp only [Pt.U, Pt.locs, Pt.cells, Pt.slots] at X8 l8 y8 z8 st8 hQ8
  subst l8 y8 z8
  obtain ⟨rfl, N8q, e8⟩ := hQ8
  have N8 := Fr.app N5 N8q
  have K9 : ∀ t, Steps p.tables e below (T8.setTop (mkF m 25 #[.val (.int p1), .val (.int p2), .val (.int p3), .val (.int (f1 p1 (p3 &&& (3 : Int32)))), .val (.int (f1 p2 (((p3.toUInt32 >>> ((2 : Int32) &&& 31).toUInt32).toInt32) &&& (3 : Int32)))), .unset, .unset, .unset, .unset] [(.int (f2 (f1 p1 (p3 &&& (3 : Int32))) (f1 p2 (((p3.toUInt32 >>> ((2 : Int32) &&& 31).toUInt32).toInt32) &&& (3 : Int32)))))])) t → Steps p.tables e below (T5.setTop (mkF m 22 #[.val (.int p1), .val (.int p2), .val (.int p3), .val (.int (f1 p1 (p3 &&& (3 : Int32)))), .val (.int (f1 p2 (((p3.toUInt32 >>> ((2 : Int32) &&& 31).toUInt32).toInt32) &&& (3 : Int32)))), .unset, .unset, .unset, .unset] [(.int (f1 p2 (((p3.toUInt32 >>> ((2 : Int32) &&& 31).toUInt32).toInt32) &&& (3 : Int32)))), (.int (f1 p1 (p3 &&& (3 : Int32))))])) t := fun t k => st8 _ k
  have K10 : ∀ t, Steps p.tables e below (T8.setTop (mkF m 31 #[.val (.int p1), .val (.int p2), .val (.int p3), .val (.int (f1 p1 (p3 &&& (3 : Int32)))), .val (.int (f1 p2 (((p3.toUInt32 >>> ((2 : Int32) &&& 31).toUInt32).toInt32) &&& (3 : Int32)))), .val (.int (f2 (f1 p1 (p3 &&& (3 : Int32))) (f1 p2 (((p3.toUInt32 >>> ((2 : Int32) &&& 31).toUInt32).toInt32) &&& (3 : Int32))))), .unset, .unset, .unset] [(.int (13 : Int32)), (.int (f1 p2 (((p3.toUInt32 >>> ((2 : Int32) &&& 31).toUInt32).toInt32) &&& (3 : Int32))))])) t → Steps p.tables e below (T8.setTop (mkF m 25 #[.val (.int p1), .val (.int p2), .val (.int p3), .val (.int (f1 p1 (p3 &&& (3 : Int32)))), .val (.int (f1 p2 (((p3.toUInt32 >>> ((2 : Int32) &&& 31).toUInt32).toInt32) &&& (3 : Int32)))), .unset, .unset, .unset, .unset] [(.int (f2 (f1 p1 (p3 &&& (3 : Int32))) (f1 p2 (((p3.toUInt32 >>> ((2 : Int32) &&& 31).toUInt32).toInt32) &&& (3 : Int32)))))])) t := by
    intro t k
    refine XS.istore X8.here hx rfl (Jvm.hb hby at_25) rfl (l' := #[.val (.int p1), .val (.int p2), .val (.int p3), .val (.int (f1 p1 (p3 &&& (3 : Int32)))), .val (.int (f1 p2 (((p3.toUInt32 >>> ((2 : Int32) &&& 31).toUInt32).toInt32) &&& (3 : Int32)))), .val (.int (f2 (f1 p1 (p3 &&& (3 : Int32))) (f1 p2 (((p3.toUInt32 >>> ((2 : Int32) &&& 31).toUInt32).toInt32) &&& (3 : Int32))))), .unset, .unset, .unset]) rfl ?_
    show Steps p.tables e below (T8.setTop (mkF m 27 #[.val (.int p1), .val (.int p2), .val (.int p3), .val (.int (f1 p1 (p3 &&& (3 : Int32)))), .val (.int (f1 p2 (((p3.toUInt32 >>> ((2 : Int32) &&& 31).toUInt32).toInt32) &&& (3 : Int32)))), .val (.int (f2 (f1 p1 (p3 &&& (3 : Int32))) (f1 p2 (((p3.toUInt32 >>> ((2 : Int32) &&& 31).toUInt32).toInt32) &&& (3 : Int32))))), .unset, .unset, .unset] [])) t
    refine XS.iload X8.here hx rfl (Jvm.hb hby at_27) rfl ?_
    show Steps p.tables e below (T8.setTop (mkF m 29 #[.val (.int p1), .val (.int p2), .val (.int p3), .val (.int (f1 p1 (p3 &&& (3 : Int32)))), .val (.int (f1 p2 (((p3.toUInt32 >>> ((2 : Int32) &&& 31).toUInt32).toInt32) &&& (3 : Int32)))), .val (.int (f2 (f1 p1 (p3 &&& (3 : Int32))) (f1 p2 (((p3.toUInt32 >>> ((2 : Int32) &&& 31).toUInt32).toInt32) &&& (3 : Int32))))), .unset, .unset, .unset] [(.int (f1 p2 (((p3.toUInt32 >>> ((2 : Int32) &&& 31).toUInt32).toInt32) &&& (3 : Int32))))])) t
    refine XS.bipush X8.here hx rfl (Jvm.hb hby at_29) ?_
    show Steps p.tables e below (T8.setTop (mkF m 31 #[.val (.int p1), .val (.int p2), .val (.int p3), .val (.int (f1 p1 (p3 &&& (3 : Int32)))), .val (.int (f1 p2 (((p3.toUInt32 >>> ((2 : Int32) &&& 31).toUInt32).toInt32) &&& (3 : Int32)))), .val (.int (f2 (f1 p1 (p3 &&& (3 : Int32))) (f1 p2 (((p3.toUInt32 >>> ((2 : Int32) &&& 31).toUInt32).toInt32) &&& (3 : Int32))))), .unset, .unset, .unset] [(.int (13 : Int32)), (.int (f1 p2 (((p3.toUInt32 >>> ((2 : Int32) &&& 31).toUInt32).toInt32) &&& (3 : Int32))))])) t
    exact k
  have K11 : ∀ t, Steps p.tables e below (T8.setTop (mkF m 66 #[.val (.int p1), .val (.int p2), .val (.int p3), .val (.int (f1 p1 (p3 &&& (3 : Int32)))), .val (.int (f1 p2 (((p3.toUInt32 >>> ((2 : Int32) &&& 31).toUInt32).toInt32) &&& (3 : Int32)))), .val (.int (f2 (f1 p1 (p3 &&& (3 : Int32))) (f1 p2 (((p3.toUInt32 >>> ((2 : Int32) &&& 31).toUInt32).toInt32) &&& (3 : Int32))))), .val (.int (f0_u2 p1 p2 p3)), .unset, .unset] [])) t → Steps p.tables e below (T8.setTop (mkF m 31 #[.val (.int p1), .val (.int p2), .val (.int p3), .val (.int (f1 p1 (p3 &&& (3 : Int32)))), .val (.int (f1 p2 (((p3.toUInt32 >>> ((2 : Int32) &&& 31).toUInt32).toInt32) &&& (3 : Int32)))), .val (.int (f2 (f1 p1 (p3 &&& (3 : Int32))) (f1 p2 (((p3.toUInt32 >>> ((2 : Int32) &&& 31).toUInt32).toInt32) &&& (3 : Int32))))), .unset, .unset, .unset] [(.int (13 : Int32)), (.int (f1 p2 (((p3.toUInt32 >>> ((2 : Int32) &&& 31).toUInt32).toInt32) &&& (3 : Int32))))])) t := by
    intro t k
    by_cases hc11 : (f1 p2 (((p3.toUInt32 >>> ((2 : Int32) &&& 31).toUInt32).toInt32) &&& (3 : Int32))) = (13 : Int32)
    · have K12 : ∀ t, Steps p.tables e below (T8.setTop (mkF m 34 #[.val (.int p1), .val (.int p2), .val (.int p3), .val (.int (f1 p1 (p3 &&& (3 : Int32)))), .val (.int (f1 p2 (((p3.toUInt32 >>> ((2 : Int32) &&& 31).toUInt32).toInt32) &&& (3 : Int32)))), .val (.int (f2 (f1 p1 (p3 &&& (3 : Int32))) (f1 p2 (((p3.toUInt32 >>> ((2 : Int32) &&& 31).toUInt32).toInt32) &&& (3 : Int32))))), .unset, .unset, .unset] [])) t → Steps p.tables e below (T8.setTop (mkF m 31 #[.val (.int p1), .val (.int p2), .val (.int p3), .val (.int (f1 p1 (p3 &&& (3 : Int32)))), .val (.int (f1 p2 (((p3.toUInt32 >>> ((2 : Int32) &&& 31).toUInt32).toInt32) &&& (3 : Int32)))), .val (.int (f2 (f1 p1 (p3 &&& (3 : Int32))) (f1 p2 (((p3.toUInt32 >>> ((2 : Int32) &&& 31).toUInt32).toInt32) &&& (3 : Int32))))), .unset, .unset, .unset] [(.int (13 : Int32)), (.int (f1 p2 (((p3.toUInt32 >>> ((2 : Int32) &&& 31).toUInt32).toInt32) &&& (3 : Int32))))])) t := by
        intro t k
        refine XS.icmpNo X8.here hx rfl (Jvm.hb hby at_31) rfl (teq hc11).2 ?_
        exact k
      have K13 : ∀ t, Steps p.tables e below (T8.setTop (mkF m 66 #[.val (.int p1), .val (.int p2), .val (.int p3), .val (.int (f1 p1 (p3 &&& (3 : Int32)))), .val (.int (f1 p2 (((p3.toUInt32 >>> ((2 : Int32) &&& 31).toUInt32).toInt32) &&& (3 : Int32)))), .val (.int (f2 (f1 p1 (p3 &&& (3 : Int32))) (f1 p2 (((p3.toUInt32 >>> ((2 : Int32) &&& 31).toUInt32).toInt32) &&& (3 : Int32))))), .val (.int (1 : Int32)), .unset, .unset] [])) t → Steps p.tables e below (T8.setTop (mkF m 34 #[.val (.int p1), .val (.int p2), .val (.int p3), .val (.int (f1 p1 (p3 &&& (3 : Int32)))), .val (.int (f1 p2 (((p3.toUInt32 >>> ((2 : Int32) &&& 31).toUInt32).toInt32) &&& (3 : Int32)))), .val (.int (f2 (f1 p1 (p3 &&& (3 : Int32))) (f1 p2 (((p3.toUInt32 >>> ((2 : Int32) &&& 31).toUInt32).toInt32) &&& (3 : Int32))))), .unset, .unset, .unset] [])) t := by
        intro t k
        refine XS.iconst X8.here hx rfl (Jvm.hb hby at_34) ?_
        show Steps p.tables e below (T8.setTop (mkF m 35 #[.val (.int p1), .val (.int p2), .val (.int p3), .val (.int (f1 p1 (p3 &&& (3 : Int32)))), .val (.int (f1 p2 (((p3.toUInt32 >>> ((2 : Int32) &&& 31).toUInt32).toInt32) &&& (3 : Int32)))), .val (.int (f2 (f1 p1 (p3 &&& (3 : Int32))) (f1 p2 (((p3.toUInt32 >>> ((2 : Int32) &&& 31).toUInt32).toInt32) &&& (3 : Int32))))), .unset, .unset, .unset] [(.int (1 : Int32))])) t
        refine XS.istore X8.here hx rfl (Jvm.hb hby at_35) rfl (l' := #[.val (.int p1), .val (.int p2), .val (.int p3), .val (.int (f1 p1 (p3 &&& (3 : Int32)))), .val (.int (f1 p2 (((p3.toUInt32 >>> ((2 : Int32) &&& 31).toUInt32).toInt32) &&& (3 : Int32)))), .val (.int (f2 (f1 p1 (p3 &&& (3 : Int32))) (f1 p2 (((p3.toUInt32 >>> ((2 : Int32) &&& 31).toUInt32).toInt32) &&& (3 : Int32))))), .val (.int (1 : Int32)), .unset, .unset]) rfl ?_
        show Steps p.tables e below (T8.setTop (mkF m 37 #[.val (.int p1), .val (.int p2), .val (.int p3), .val (.int (f1 p1 (p3 &&& (3 : Int32)))), .val (.int (f1 p2 (((p3.toUInt32 >>> ((2 : Int32) &&& 31).toUInt32).toInt32) &&& (3 : Int32)))), .val (.int (f2 (f1 p1 (p3 &&& (3 : Int32))) (f1 p2 (((p3.toUInt32 >>> ((2 : Int32) &&& 31).toUInt32).toInt32) &&& (3 : Int32))))), .val (.int (1 : Int32)), .unset, .unset] [])) t
        refine XS.goto X8.here hx rfl (pc0 := 37) (pc' := 66) rfl (Jvm.hb hby at_37) (by decide) (by decide) ?_
        show Steps p.tables e below (T8.setTop (mkF m 66 #[.val (.int p1), .val (.int p2), .val (.int p3), .val (.int (f1 p1 (p3 &&& (3 : Int32)))), .val (.int (f1 p2 (((p3.toUInt32 >>> ((2 : Int32) &&& 31).toUInt32).toInt32) &&& (3 : Int32)))), .val (.int (f2 (f1 p1 (p3 &&& (3 : Int32))) (f1 p2 (((p3.toUInt32 >>> ((2 : Int32) &&& 31).toUInt32).toInt32) &&& (3 : Int32))))), .val (.int (1 : Int32)), .unset, .unset] [])) t
        exact k
      rw [show (f0_u2 p1 p2 p3) = (1 : Int32) from if_pos hc11] at k
      exact K12 _ (K13 _ (k))
    · have K14 : ∀ t, Steps p.tables e below (T8.setTop (mkF m 40 #[.val (.int p1), .val (.int p2), .val (.int p3), .val (.int (f1 p1 (p3 &&& (3 : Int32)))), .val (.int (f1 p2 (((p3.toUInt32 >>> ((2 : Int32) &&& 31).toUInt32).toInt32) &&& (3 : Int32)))), .val (.int (f2 (f1 p1 (p3 &&& (3 : Int32))) (f1 p2 (((p3.toUInt32 >>> ((2 : Int32) &&& 31).toUInt32).toInt32) &&& (3 : Int32))))), .unset, .unset, .unset] [])) t → Steps p.tables e below (T8.setTop (mkF m 31 #[.val (.int p1), .val (.int p2), .val (.int p3), .val (.int (f1 p1 (p3 &&& (3 : Int32)))), .val (.int (f1 p2 (((p3.toUInt32 >>> ((2 : Int32) &&& 31).toUInt32).toInt32) &&& (3 : Int32)))), .val (.int (f2 (f1 p1 (p3 &&& (3 : Int32))) (f1 p2 (((p3.toUInt32 >>> ((2 : Int32) &&& 31).toUInt32).toInt32) &&& (3 : Int32))))), .unset, .unset, .unset] [(.int (13 : Int32)), (.int (f1 p2 (((p3.toUInt32 >>> ((2 : Int32) &&& 31).toUInt32).toInt32) &&& (3 : Int32))))])) t := by
        intro t k
        refine XS.icmpYes X8.here hx rfl (pc0 := 31) (pc' := 40) rfl (Jvm.hb hby at_31) rfl (feq hc11).2 (by decide) (by decide) ?_
        exact k
      have K15 : ∀ t, Steps p.tables e below (T8.setTop (mkF m 44 #[.val (.int p1), .val (.int p2), .val (.int p3), .val (.int (f1 p1 (p3 &&& (3 : Int32)))), .val (.int (f1 p2 (((p3.toUInt32 >>> ((2 : Int32) &&& 31).toUInt32).toInt32) &&& (3 : Int32)))), .val (.int (f2 (f1 p1 (p3 &&& (3 : Int32))) (f1 p2 (((p3.toUInt32 >>> ((2 : Int32) &&& 31).toUInt32).toInt32) &&& (3 : Int32))))), .unset, .unset, .unset] [(.int (10 : Int32)), (.int (f1 p2 (((p3.toUInt32 >>> ((2 : Int32) &&& 31).toUInt32).toInt32) &&& (3 : Int32))))])) t → Steps p.tables e below (T8.setTop (mkF m 40 #[.val (.int p1), .val (.int p2), .val (.int p3), .val (.int (f1 p1 (p3 &&& (3 : Int32)))), .val (.int (f1 p2 (((p3.toUInt32 >>> ((2 : Int32) &&& 31).toUInt32).toInt32) &&& (3 : Int32)))), .val (.int (f2 (f1 p1 (p3 &&& (3 : Int32))) (f1 p2 (((p3.toUInt32 >>> ((2 : Int32) &&& 31).toUInt32).toInt32) &&& (3 : Int32))))), .unset, .unset, .unset] [])) t := by
        intro t k
        refine XS.iload X8.here hx rfl (Jvm.hb hby at_40) rfl ?_
        show Steps p.tables e below (T8.setTop (mkF m 42 #[.val (.int p1), .val (.int p2), .val (.int p3), .val (.int (f1 p1 (p3 &&& (3 : Int32)))), .val (.int (f1 p2 (((p3.toUInt32 >>> ((2 : Int32) &&& 31).toUInt32).toInt32) &&& (3 : Int32)))), .val (.int (f2 (f1 p1 (p3 &&& (3 : Int32))) (f1 p2 (((p3.toUInt32 >>> ((2 : Int32) &&& 31).toUInt32).toInt32) &&& (3 : Int32))))), .unset, .unset, .unset] [(.int (f1 p2 (((p3.toUInt32 >>> ((2 : Int32) &&& 31).toUInt32).toInt32) &&& (3 : Int32))))])) t
        refine XS.bipush X8.here hx rfl (Jvm.hb hby at_42) ?_
        show Steps p.tables e below (T8.setTop (mkF m 44 #[.val (.int p1), .val (.int p2), .val (.int p3), .val (.int (f1 p1 (p3 &&& (3 : Int32)))), .val (.int (f1 p2 (((p3.toUInt32 >>> ((2 : Int32) &&& 31).toUInt32).toInt32) &&& (3 : Int32)))), .val (.int (f2 (f1 p1 (p3 &&& (3 : Int32))) (f1 p2 (((p3.toUInt32 >>> ((2 : Int32) &&& 31).toUInt32).toInt32) &&& (3 : Int32))))), .unset, .unset, .unset] [(.int (10 : Int32)), (.int (f1 p2 (((p3.toUInt32 >>> ((2 : Int32) &&& 31).toUInt32).toInt32) &&& (3 : Int32))))])) t
        exact k
      by_cases hc16 : (f1 p2 (((p3.toUInt32 >>> ((2 : Int32) &&& 31).toUInt32).toInt32) &&& (3 : Int32))) = (10 : Int32)
      · have K17 : ∀ t, Steps p.tables e below (T8.setTop (mkF m 47 #[.val (.int p1), .val (.int p2), .val (.int p3), .val (.int (f1 p1 (p3 &&& (3 : Int32)))), .val (.int (f1 p2 (((p3.toUInt32 >>> ((2 : Int32) &&& 31).toUInt32).toInt32) &&& (3 : Int32)))), .val (.int (f2 (f1 p1 (p3 &&& (3 : Int32))) (f1 p2 (((p3.toUInt32 >>> ((2 : Int32) &&& 31).toUInt32).toInt32) &&& (3 : Int32))))), .unset, .unset, .unset] [])) t → Steps p.tables e below (T8.setTop (mkF m 44 #[.val (.int p1), .val (.int p2), .val (.int p3), .val (.int (f1 p1 (p3 &&& (3 : Int32)))), .val (.int (f1 p2 (((p3.toUInt32 >>> ((2 : Int32) &&& 31).toUInt32).toInt32) &&& (3 : Int32)))), .val (.int (f2 (f1 p1 (p3 &&& (3 : Int32))) (f1 p2 (((p3.toUInt32 >>> ((2 : Int32) &&& 31).toUInt32).toInt32) &&& (3 : Int32))))), .unset, .unset, .unset] [(.int (10 : Int32)), (.int (f1 p2 (((p3.toUInt32 >>> ((2 : Int32) &&& 31).toUInt32).toInt32) &&& (3 : Int32))))])) t := by
          intro t k
          refine XS.icmpNo X8.here hx rfl (Jvm.hb hby at_44) rfl (teq hc16).2 ?_
          exact k
        have K18 : ∀ t, Steps p.tables e below (T8.setTop (mkF m 50 #[.val (.int p1), .val (.int p2), .val (.int p3), .val (.int (f1 p1 (p3 &&& (3 : Int32)))), .val (.int (f1 p2 (((p3.toUInt32 >>> ((2 : Int32) &&& 31).toUInt32).toInt32) &&& (3 : Int32)))), .val (.int (f2 (f1 p1 (p3 &&& (3 : Int32))) (f1 p2 (((p3.toUInt32 >>> ((2 : Int32) &&& 31).toUInt32).toInt32) &&& (3 : Int32))))), .unset, .unset, .unset] [(.int (13 : Int32)), (.int (f1 p1 (p3 &&& (3 : Int32))))])) t → Steps p.tables e below (T8.setTop (mkF m 47 #[.val (.int p1), .val (.int p2), .val (.int p3), .val (.int (f1 p1 (p3 &&& (3 : Int32)))), .val (.int (f1 p2 (((p3.toUInt32 >>> ((2 : Int32) &&& 31).toUInt32).toInt32) &&& (3 : Int32)))), .val (.int (f2 (f1 p1 (p3 &&& (3 : Int32))) (f1 p2 (((p3.toUInt32 >>> ((2 : Int32) &&& 31).toUInt32).toInt32) &&& (3 : Int32))))), .unset, .unset, .unset] [])) t := by
          intro t k
          refine XS.iloadN X8.here hx rfl (Jvm.hb hby at_47) rfl ?_
          show Steps p.tables e below (T8.setTop (mkF m 48 #[.val (.int p1), .val (.int p2), .val (.int p3), .val (.int (f1 p1 (p3 &&& (3 : Int32)))), .val (.int (f1 p2 (((p3.toUInt32 >>> ((2 : Int32) &&& 31).toUInt32).toInt32) &&& (3 : Int32)))), .val (.int (f2 (f1 p1 (p3 &&& (3 : Int32))) (f1 p2 (((p3.toUInt32 >>> ((2 : Int32) &&& 31).toUInt32).toInt32) &&& (3 : Int32))))), .unset, .unset, .unset] [(.int (f1 p1 (p3 &&& (3 : Int32))))])) t
          refine XS.bipush X8.here hx rfl (Jvm.hb hby at_48) ?_
          show Steps p.tables e below (T8.setTop (mkF m 50 #[.val (.int p1), .val (.int p2), .val (.int p3), .val (.int (f1 p1 (p3 &&& (3 : Int32)))), .val (.int (f1 p2 (((p3.toUInt32 >>> ((2 : Int32) &&& 31).toUInt32).toInt32) &&& (3 : Int32)))), .val (.int (f2 (f1 p1 (p3 &&& (3 : Int32))) (f1 p2 (((p3.toUInt32 >>> ((2 : Int32) &&& 31).toUInt32).toInt32) &&& (3 : Int32))))), .unset, .unset, .unset] [(.int (13 : Int32)), (.int (f1 p1 (p3 &&& (3 : Int32))))])) t
          exact k
        have K19 : ∀ t, Steps p.tables e below (T8.setTop (mkF m 58 #[.val (.int p1), .val (.int p2), .val (.int p3), .val (.int (f1 p1 (p3 &&& (3 : Int32)))), .val (.int (f1 p2 (((p3.toUInt32 >>> ((2 : Int32) &&& 31).toUInt32).toInt32) &&& (3 : Int32)))), .val (.int (f2 (f1 p1 (p3 &&& (3 : Int32))) (f1 p2 (((p3.toUInt32 >>> ((2 : Int32) &&& 31).toUInt32).toInt32) &&& (3 : Int32))))), .unset, .unset, .unset] [(.int (f0_u1 p1 p3))])) t → Steps p.tables e below (T8.setTop (mkF m 50 #[.val (.int p1), .val (.int p2), .val (.int p3), .val (.int (f1 p1 (p3 &&& (3 : Int32)))), .val (.int (f1 p2 (((p3.toUInt32 >>> ((2 : Int32) &&& 31).toUInt32).toInt32) &&& (3 : Int32)))), .val (.int (f2 (f1 p1 (p3 &&& (3 : Int32))) (f1 p2 (((p3.toUInt32 >>> ((2 : Int32) &&& 31).toUInt32).toInt32) &&& (3 : Int32))))), .unset, .unset, .unset] [(.int (13 : Int32)), (.int (f1 p1 (p3 &&& (3 : Int32))))])) t := by
          intro t k
          by_cases hc19 : (f1 p1 (p3 &&& (3 : Int32))) = (13 : Int32)
          · have K20 : ∀ t, Steps p.tables e below (T8.setTop (mkF m 57 #[.val (.int p1), .val (.int p2), .val (.int p3), .val (.int (f1 p1 (p3 &&& (3 : Int32)))), .val (.int (f1 p2 (((p3.toUInt32 >>> ((2 : Int32) &&& 31).toUInt32).toInt32) &&& (3 : Int32)))), .val (.int (f2 (f1 p1 (p3 &&& (3 : Int32))) (f1 p2 (((p3.toUInt32 >>> ((2 : Int32) &&& 31).toUInt32).toInt32) &&& (3 : Int32))))), .unset, .unset, .unset] [])) t → Steps p.tables e below (T8.setTop (mkF m 50 #[.val (.int p1), .val (.int p2), .val (.int p3), .val (.int (f1 p1 (p3 &&& (3 : Int32)))), .val (.int (f1 p2 (((p3.toUInt32 >>> ((2 : Int32) &&& 31).toUInt32).toInt32) &&& (3 : Int32)))), .val (.int (f2 (f1 p1 (p3 &&& (3 : Int32))) (f1 p2 (((p3.toUInt32 >>> ((2 : Int32) &&& 31).toUInt32).toInt32) &&& (3 : Int32))))), .unset, .unset, .unset] [(.int (13 : Int32)), (.int (f1 p1 (p3 &&& (3 : Int32))))])) t := by
              intro t k
              refine XS.icmpYes X8.here hx rfl (pc0 := 50) (pc' := 57) rfl (Jvm.hb hby at_50) rfl (teq hc19).1 (by decide) (by decide) ?_
              exact k
            have K21 : ∀ t, Steps p.tables e below (T8.setTop (mkF m 58 #[.val (.int p1), .val (.int p2), .val (.int p3), .val (.int (f1 p1 (p3 &&& (3 : Int32)))), .val (.int (f1 p2 (((p3.toUInt32 >>> ((2 : Int32) &&& 31).toUInt32).toInt32) &&& (3 : Int32)))), .val (.int (f2 (f1 p1 (p3 &&& (3 : Int32))) (f1 p2 (((p3.toUInt32 >>> ((2 : Int32) &&& 31).toUInt32).toInt32) &&& (3 : Int32))))), .unset, .unset, .unset] [(.int (0 : Int32))])) t → Steps p.tables e below (T8.setTop (mkF m 57 #[.val (.int p1), .val (.int p2), .val (.int p3), .val (.int (f1 p1 (p3 &&& (3 : Int32)))), .val (.int (f1 p2 (((p3.toUInt32 >>> ((2 : Int32) &&& 31).toUInt32).toInt32) &&& (3 : Int32)))), .val (.int (f2 (f1 p1 (p3 &&& (3 : Int32))) (f1 p2 (((p3.toUInt32 >>> ((2 : Int32) &&& 31).toUInt32).toInt32) &&& (3 : Int32))))), .unset, .unset, .unset] [])) t := by
              intro t k
              refine XS.iconst X8.here hx rfl (Jvm.hb hby at_57) ?_
              show Steps p.tables e below (T8.setTop (mkF m 58 #[.val (.int p1), .val (.int p2), .val (.int p3), .val (.int (f1 p1 (p3 &&& (3 : Int32)))), .val (.int (f1 p2 (((p3.toUInt32 >>> ((2 : Int32) &&& 31).toUInt32).toInt32) &&& (3 : Int32)))), .val (.int (f2 (f1 p1 (p3 &&& (3 : Int32))) (f1 p2 (((p3.toUInt32 >>> ((2 : Int32) &&& 31).toUInt32).toInt32) &&& (3 : Int32))))), .unset, .unset, .unset] [(.int (0 : Int32))])) t
              exact k
            rw [show (f0_u1 p1 p3) = (0 : Int32) from if_pos hc19] at k
            exact K20 _ (K21 _ (k))
          · have K22 : ∀ t, Steps p.tables e below (T8.setTop (mkF m 53 #[.val (.int p1), .val (.int p2), .val (.int p3), .val (.int (f1 p1 (p3 &&& (3 : Int32)))), .val (.int (f1 p2 (((p3.toUInt32 >>> ((2 : Int32) &&& 31).toUInt32).toInt32) &&& (3 : Int32)))), .val (.int (f2 (f1 p1 (p3 &&& (3 : Int32))) (f1 p2 (((p3.toUInt32 >>> ((2 : Int32) &&& 31).toUInt32).toInt32) &&& (3 : Int32))))), .unset, .unset, .unset] [])) t → Steps p.tables e below (T8.setTop (mkF m 50 #[.val (.int p1), .val (.int p2), .val (.int p3), .val (.int (f1 p1 (p3 &&& (3 : Int32)))), .val (.int (f1 p2 (((p3.toUInt32 >>> ((2 : Int32) &&& 31).toUInt32).toInt32) &&& (3 : Int32)))), .val (.int (f2 (f1 p1 (p3 &&& (3 : Int32))) (f1 p2 (((p3.toUInt32 >>> ((2 : Int32) &&& 31).toUInt32).toInt32) &&& (3 : Int32))))), .unset, .unset, .unset] [(.int (13 : Int32)), (.int (f1 p1 (p3 &&& (3 : Int32))))])) t := by
              intro t k
              refine XS.icmpNo X8.here hx rfl (Jvm.hb hby at_50) rfl (feq hc19).1 ?_
              exact k
            have K23 : ∀ t, Steps p.tables e below (T8.setTop (mkF m 58 #[.val (.int p1), .val (.int p2), .val (.int p3), .val (.int (f1 p1 (p3 &&& (3 : Int32)))), .val (.int (f1 p2 (((p3.toUInt32 >>> ((2 : Int32) &&& 31).toUInt32).toInt32) &&& (3 : Int32)))), .val (.int (f2 (f1 p1 (p3 &&& (3 : Int32))) (f1 p2 (((p3.toUInt32 >>> ((2 : Int32) &&& 31).toUInt32).toInt32) &&& (3 : Int32))))), .unset, .unset, .unset] [(.int (1 : Int32))])) t → Steps p.tables e below (T8.setTop (mkF m 53 #[.val (.int p1), .val (.int p2), .val (.int p3), .val (.int (f1 p1 (p3 &&& (3 : Int32)))), .val (.int (f1 p2 (((p3.toUInt32 >>> ((2 : Int32) &&& 31).toUInt32).toInt32) &&& (3 : Int32)))), .val (.int (f2 (f1 p1 (p3 &&& (3 : Int32))) (f1 p2 (((p3.toUInt32 >>> ((2 : Int32) &&& 31).toUInt32).toInt32) &&& (3 : Int32))))), .unset, .unset, .unset] [])) t := by
              intro t k
              refine XS.iconst X8.here hx rfl (Jvm.hb hby at_53) ?_
              show Steps p.tables e below (T8.setTop (mkF m 54 #[.val (.int p1), .val (.int p2), .val (.int p3), .val (.int (f1 p1 (p3 &&& (3 : Int32)))), .val (.int (f1 p2 (((p3.toUInt32 >>> ((2 : Int32) &&& 31).toUInt32).toInt32) &&& (3 : Int32)))), .val (.int (f2 (f1 p1 (p3 &&& (3 : Int32))) (f1 p2 (((p3.toUInt32 >>> ((2 : Int32) &&& 31).toUInt32).toInt32) &&& (3 : Int32))))), .unset, .unset, .unset] [(.int (1 : Int32))])) t
              refine XS.goto X8.here hx rfl (pc0 := 54) (pc' := 58) rfl (Jvm.hb hby at_54) (by decide) (by decide) ?_
              show Steps p.tables e below (T8.setTop (mkF m 58 #[.val (.int p1), .val (.int p2), .val (.int p3), .val (.int (f1 p1 (p3 &&& (3 : Int32)))), .val (.int (f1 p2 (((p3.toUInt32 >>> ((2 : Int32) &&& 31).toUInt32).toInt32) &&& (3 : Int32)))), .val (.int (f2 (f1 p1 (p3 &&& (3 : Int32))) (f1 p2 (((p3.toUInt32 >>> ((2 : Int32) &&& 31).toUInt32).toInt32) &&& (3 : Int32))))), .unset, .unset, .unset] [(.int (1 : Int32))])) t
              exact k
            rw [show (f0_u1 p1 p3) = (1 : Int32) from if_neg hc19] at k
            exact K22 _ (K23 _ (k))
        have K24 : ∀ t, Steps p.tables e below (T8.setTop (mkF m 66 #[.val (.int p1), .val (.int p2), .val (.int p3), .val (.int (f1 p1 (p3 &&& (3 : Int32)))), .val (.int (f1 p2 (((p3.toUInt32 >>> ((2 : Int32) &&& 31).toUInt32).toInt32) &&& (3 : Int32)))), .val (.int (f2 (f1 p1 (p3 &&& (3 : Int32))) (f1 p2 (((p3.toUInt32 >>> ((2 : Int32) &&& 31).toUInt32).toInt32) &&& (3 : Int32))))), .val (.int (f0_u1 p1 p3)), .unset, .unset] [])) t → Steps p.tables e below (T8.setTop (mkF m 58 #[.val (.int p1), .val (.int p2), .val (.int p3), .val (.int (f1 p1 (p3 &&& (3 : Int32)))), .val (.int (f1 p2 (((p3.toUInt32 >>> ((2 : Int32) &&& 31).toUInt32).toInt32) &&& (3 : Int32)))), .val (.int (f2 (f1 p1 (p3 &&& (3 : Int32))) (f1 p2 (((p3.toUInt32 >>> ((2 : Int32) &&& 31).toUInt32).toInt32) &&& (3 : Int32))))), .unset, .unset, .unset] [(.int (f0_u1 p1 p3))])) t := by
          intro t k
          refine XS.istore X8.here hx rfl (Jvm.hb hby at_58) rfl (l' := #[.val (.int p1), .val (.int p2), .val (.int p3), .val (.int (f1 p1 (p3 &&& (3 : Int32)))), .val (.int (f1 p2 (((p3.toUInt32 >>> ((2 : Int32) &&& 31).toUInt32).toInt32) &&& (3 : Int32)))), .val (.int (f2 (f1 p1 (p3 &&& (3 : Int32))) (f1 p2 (((p3.toUInt32 >>> ((2 : Int32) &&& 31).toUInt32).toInt32) &&& (3 : Int32))))), .val (.int (f0_u1 p1 p3)), .unset, .unset]) rfl ?_
          show Steps p.tables e below (T8.setTop (mkF m 60 #[.val (.int p1), .val (.int p2), .val (.int p3), .val (.int (f1 p1 (p3 &&& (3 : Int32)))), .val (.int (f1 p2 (((p3.toUInt32 >>> ((2 : Int32) &&& 31).toUInt32).toInt32) &&& (3 : Int32)))), .val (.int (f2 (f1 p1 (p3 &&& (3 : Int32))) (f1 p2 (((p3.toUInt32 >>> ((2 : Int32) &&& 31).toUInt32).toInt32) &&& (3 : Int32))))), .val (.int (f0_u1 p1 p3)), .unset, .unset] [])) t
          refine XS.goto X8.here hx rfl (pc0 := 60) (pc' := 66) rfl (Jvm.hb hby at_60) (by decide) (by decide) ?_
          show Steps p.tables e below (T8.setTop (mkF m 66 #[.val (.int p1), .val (.int p2), .val (.int p3), .val (.int (f1 p1 (p3 &&& (3 : Int32)))), .val (.int (f1 p2 (((p3.toUInt32 >>> ((2 : Int32) &&& 31).toUInt32).toInt32) &&& (3 : Int32)))), .val (.int (f2 (f1 p1 (p3 &&& (3 : Int32))) (f1 p2 (((p3.toUInt32 >>> ((2 : Int32) &&& 31).toUInt32).toInt32) &&& (3 : Int32))))), .val (.int (f0_u1 p1 p3)), .unset, .unset] [])) t
          exact k
        rw [show (f0_u2 p1 p2 p3) = (f0_u1 p1 p3) from (if_neg hc11).trans (if_pos hc16)] at k
        exact K14 _ (K15 _ (K17 _ (K18 _ (K19 _ (K24 _ (k))))))
      · have K25 : ∀ t, Steps p.tables e below (T8.setTop (mkF m 63 #[.val (.int p1), .val (.int p2), .val (.int p3), .val (.int (f1 p1 (p3 &&& (3 : Int32)))), .val (.int (f1 p2 (((p3.toUInt32 >>> ((2 : Int32) &&& 31).toUInt32).toInt32) &&& (3 : Int32)))), .val (.int (f2 (f1 p1 (p3 &&& (3 : Int32))) (f1 p2 (((p3.toUInt32 >>> ((2 : Int32) &&& 31).toUInt32).toInt32) &&& (3 : Int32))))), .unset, .unset, .unset] [])) t → Steps p.tables e below (T8.setTop (mkF m 44 #[.val (.int p1), .val (.int p2), .val (.int p3), .val (.int (f1 p1 (p3 &&& (3 : Int32)))), .val (.int (f1 p2 (((p3.toUInt32 >>> ((2 : Int32) &&& 31).toUInt32).toInt32) &&& (3 : Int32)))), .val (.int (f2 (f1 p1 (p3 &&& (3 : Int32))) (f1 p2 (((p3.toUInt32 >>> ((2 : Int32) &&& 31).toUInt32).toInt32) &&& (3 : Int32))))), .unset, .unset, .unset] [(.int (10 : Int32)), (.int (f1 p2 (((p3.toUInt32 >>> ((2 : Int32) &&& 31).toUInt32).toInt32) &&& (3 : Int32))))])) t := by
          intro t k
          refine XS.icmpYes X8.here hx rfl (pc0 := 44) (pc' := 63) rfl (Jvm.hb hby at_44) rfl (feq hc16).2 (by decide) (by decide) ?_
          exact k
        have K26 : ∀ t, Steps p.tables e below (T8.setTop (mkF m 66 #[.val (.int p1), .val (.int p2), .val (.int p3), .val (.int (f1 p1 (p3 &&& (3 : Int32)))), .val (.int (f1 p2 (((p3.toUInt32 >>> ((2 : Int32) &&& 31).toUInt32).toInt32) &&& (3 : Int32)))), .val (.int (f2 (f1 p1 (p3 &&& (3 : Int32))) (f1 p2 (((p3.toUInt32 >>> ((2 : Int32) &&& 31).toUInt32).toInt32) &&& (3 : Int32))))), .val (.int (0 : Int32)), .unset, .unset] [])) t → Steps p.tables e below (T8.setTop (mkF m 63 #[.val (.int p1), .val (.int p2), .val (.int p3), .val (.int (f1 p1 (p3 &&& (3 : Int32)))), .val (.int (f1 p2 (((p3.toUInt32 >>> ((2 : Int32) &&& 31).toUInt32).toInt32) &&& (3 : Int32)))), .val (.int (f2 (f1 p1 (p3 &&& (3 : Int32))) (f1 p2 (((p3.toUInt32 >>> ((2 : Int32) &&& 31).toUInt32).toInt32) &&& (3 : Int32))))), .unset, .unset, .unset] [])) t := by
          intro t k
          refine XS.iconst X8.here hx rfl (Jvm.hb hby at_63) ?_
          show Steps p.tables e below (T8.setTop (mkF m 64 #[.val (.int p1), .val (.int p2), .val (.int p3), .val (.int (f1 p1 (p3 &&& (3 : Int32)))), .val (.int (f1 p2 (((p3.toUInt32 >>> ((2 : Int32) &&& 31).toUInt32).toInt32) &&& (3 : Int32)))), .val (.int (f2 (f1 p1 (p3 &&& (3 : Int32))) (f1 p2 (((p3.toUInt32 >>> ((2 : Int32) &&& 31).toUInt32).toInt32) &&& (3 : Int32))))), .unset, .unset, .unset] [(.int (0 : Int32))])) t
          refine XS.istore X8.here hx rfl (Jvm.hb hby at_64) rfl (l' := #[.val (.int p1), .val (.int p2), .val (.int p3), .val (.int (f1 p1 (p3 &&& (3 : Int32)))), .val (.int (f1 p2 (((p3.toUInt32 >>> ((2 : Int32) &&& 31).toUInt32).toInt32) &&& (3 : Int32)))), .val (.int (f2 (f1 p1 (p3 &&& (3 : Int32))) (f1 p2 (((p3.toUInt32 >>> ((2 : Int32) &&& 31).toUInt32).toInt32) &&& (3 : Int32))))), .val (.int (0 : Int32)), .unset, .unset]) rfl ?_
          show Steps p.tables e below (T8.setTop (mkF m 66 #[.val (.int p1), .val (.int p2), .val (.int p3), .val (.int (f1 p1 (p3 &&& (3 : Int32)))), .val (.int (f1 p2 (((p3.toUInt32 >>> ((2 : Int32) &&& 31).toUInt32).toInt32) &&& (3 : Int32)))), .val (.int (f2 (f1 p1 (p3 &&& (3 : Int32))) (f1 p2 (((p3.toUInt32 >>> ((2 : Int32) &&& 31).toUInt32).toInt32) &&& (3 : Int32))))), .val (.int (0 : Int32)), .unset, .unset] [])) t
          exact k
        rw [show (f0_u2 p1 p2 p3) = (0 : Int32) from (if_neg hc11).trans (if_neg hc16)] at k
        exact K14 _ (K15 _ (K25 _ (K26 _ (k))))
  have K27 : ∀ t, Steps p.tables e below (T8.setTop (mkF m 70 #[.val (.int p1), .val (.int p2), .val (.int p3), .val (.int (f1 p1 (p3 &&& (3 : Int32)))), .val (.int (f1 p2 (((p3.toUInt32 >>> ((2 : Int32) &&& 31).toUInt32).toInt32) &&& (3 : Int32)))), .val (.int (f2 (f1 p1 (p3 &&& (3 : Int32))) (f1 p2 (((p3.toUInt32 >>> ((2 : Int32) &&& 31).toUInt32).toInt32) &&& (3 : Int32))))), .val (.int (f0_u2 p1 p2 p3)), .unset, .unset] [(.int (f0_u2 p1 p2 p3)), (.int (f2 (f1 p1 (p3 &&& (3 : Int32))) (f1 p2 (((p3.toUInt32 >>> ((2 : Int32) &&& 31).toUInt32).toInt32) &&& (3 : Int32)))))])) t → Steps p.tables e below (T8.setTop (mkF m 66 #[.val (.int p1), .val (.int p2), .val (.int p3), .val (.int (f1 p1 (p3 &&& (3 : Int32)))), .val (.int (f1 p2 (((p3.toUInt32 >>> ((2 : Int32) &&& 31).toUInt32).toInt32) &&& (3 : Int32)))), .val (.int (f2 (f1 p1 (p3 &&& (3 : Int32))) (f1 p2 (((p3.toUInt32 >>> ((2 : Int32) &&& 31).toUInt32).toInt32) &&& (3 : Int32))))), .val (.int (f0_u2 p1 p2 p3)), .unset, .unset] [])) t := by
    intro t k
    refine XS.iload X8.here hx rfl (Jvm.hb hby at_66) rfl ?_
    show Steps p.tables e below (T8.setTop (mkF m 68 #[.val (.int p1), .val (.int p2), .val (.int p3), .val (.int (f1 p1 (p3 &&& (3 : Int32)))), .val (.int (f1 p2 (((p3.toUInt32 >>> ((2 : Int32) &&& 31).toUInt32).toInt32) &&& (3 : Int32)))), .val (.int (f2 (f1 p1 (p3 &&& (3 : Int32))) (f1 p2 (((p3.toUInt32 >>> ((2 : Int32) &&& 31).toUInt32).toInt32) &&& (3 : Int32))))), .val (.int (f0_u2 p1 p2 p3)), .unset, .unset] [(.int (f2 (f1 p1 (p3 &&& (3 : Int32))) (f1 p2 (((p3.toUInt32 >>> ((2 : Int32) &&& 31).toUInt32).toInt32) &&& (3 : Int32)))))])) t
    refine XS.iload X8.here hx rfl (Jvm.hb hby at_68) rfl ?_
    show Steps p.tables e below (T8.setTop (mkF m 70 #[.val (.int p1), .val (.int p2), .val (.int p3), .val (.int (f1 p1 (p3 &&& (3 : Int32)))), .val (.int (f1 p2 (((p3.toUInt32 >>> ((2 : Int32) &&& 31).toUInt32).toInt32) &&& (3 : Int32)))), .val (.int (f2 (f1 p1 (p3 &&& (3 : Int32))) (f1 p2 (((p3.toUInt32 >>> ((2 : Int32) &&& 31).toUInt32).toInt32) &&& (3 : Int32))))), .val (.int (f0_u2 p1 p2 p3)), .unset, .unset] [(.int (f0_u2 p1 p2 p3)), (.int (f2 (f1 p1 (p3 &&& (3 : Int32))) (f1 p2 (((p3.toUInt32 >>> ((2 : Int32) &&& 31).toUInt32).toInt32) &&& (3 : Int32)))))])) t
    exact k
  by_cases hc28 : (f2 (f1 p1 (p3 &&& (3 : Int32))) (f1 p2 (((p3.toUInt32 >>> ((2 : Int32) &&& 31).toUInt32).toInt32) &&& (3 : Int32)))) = (f0_u2 p1 p2 p3)
  · have K29 : ∀ t, Steps p.tables e below (T8.setTop (mkF m 75 #[.val (.int p1), .val (.int p2), .val (.int p3), .val (.int (f1 p1 (p3 &&& (3 : Int32)))), .val (.int (f1 p2 (((p3.toUInt32 >>> ((2 : Int32) &&& 31).toUInt32).toInt32) &&& (3 : Int32)))), .val (.int (f2 (f1 p1 (p3 &&& (3 : Int32))) (f1 p2 (((p3.toUInt32 >>> ((2 : Int32) &&& 31).toUInt32).toInt32) &&& (3 : Int32))))), .val (.int (f0_u2 p1 p2 p3)), .unset, .unset] [])) t → Steps p.tables e below (T8.setTop (mkF m 70 #[.val (.int p1), .val (.int p2), .val (.int p3), .val (.int (f1 p1 (p3 &&& (3 : Int32)))), .val (.int (f1 p2 (((p3.toUInt32 >>> ((2 : Int32) &&& 31).toUInt32).toInt32) &&& (3 : Int32)))), .val (.int (f2 (f1 p1 (p3 &&& (3 : Int32))) (f1 p2 (((p3.toUInt32 >>> ((2 : Int32) &&& 31).toUInt32).toInt32) &&& (3 : Int32))))), .val (.int (f0_u2 p1 p2 p3)), .unset, .unset] [(.int (f0_u2 p1 p2 p3)), (.int (f2 (f1 p1 (p3 &&& (3 : Int32))) (f1 p2 (((p3.toUInt32 >>> ((2 : Int32) &&& 31).toUInt32).toInt32) &&& (3 : Int32)))))])) t := by
      intro t k
      refine XS.icmpYes X8.here hx rfl (pc0 := 70) (pc' := 75) rfl (Jvm.hb hby at_70) rfl (teq hc28).1 (by decide) (by decide) ?_
      exact k
    have K30 : ∀ t, Steps p.tables e below (T8.setTop (mkF m 77 #[.val (.int p1), .val (.int p2), .val (.int p3), .val (.int (f1 p1 (p3 &&& (3 : Int32)))), .val (.int (f1 p2 (((p3.toUInt32 >>> ((2 : Int32) &&& 31).toUInt32).toInt32) &&& (3 : Int32)))), .val (.int (f2 (f1 p1 (p3 &&& (3 : Int32))) (f1 p2 (((p3.toUInt32 >>> ((2 : Int32) &&& 31).toUInt32).toInt32) &&& (3 : Int32))))), .val (.int (f0_u2 p1 p2 p3)), .unset, .unset] [(.int (f1 p1 (p3 &&& (3 : Int32)))), (.int (0 : Int32))])) t → Steps p.tables e below (T8.setTop (mkF m 75 #[.val (.int p1), .val (.int p2), .val (.int p3), .val (.int (f1 p1 (p3 &&& (3 : Int32)))), .val (.int (f1 p2 (((p3.toUInt32 >>> ((2 : Int32) &&& 31).toUInt32).toInt32) &&& (3 : Int32)))), .val (.int (f2 (f1 p1 (p3 &&& (3 : Int32))) (f1 p2 (((p3.toUInt32 >>> ((2 : Int32) &&& 31).toUInt32).toInt32) &&& (3 : Int32))))), .val (.int (f0_u2 p1 p2 p3)), .unset, .unset] [])) t := by
      intro t k
      refine XS.iconst X8.here hx rfl (Jvm.hb hby at_75) ?_
      show Steps p.tables e below (T8.setTop (mkF m 76 #[.val (.int p1), .val (.int p2), .val (.int p3), .val (.int (f1 p1 (p3 &&& (3 : Int32)))), .val (.int (f1 p2 (((p3.toUInt32 >>> ((2 : Int32) &&& 31).toUInt32).toInt32) &&& (3 : Int32)))), .val (.int (f2 (f1 p1 (p3 &&& (3 : Int32))) (f1 p2 (((p3.toUInt32 >>> ((2 : Int32) &&& 31).toUInt32).toInt32) &&& (3 : Int32))))), .val (.int (f0_u2 p1 p2 p3)), .unset, .unset] [(.int (0 : Int32))])) t
      refine XS.iloadN X8.here hx rfl (Jvm.hb hby at_76) rfl ?_
      show Steps p.tables e below (T8.setTop (mkF m 77 #[.val (.int p1), .val (.int p2), .val (.int p3), .val (.int (f1 p1 (p3 &&& (3 : Int32)))), .val (.int (f1 p2 (((p3.toUInt32 >>> ((2 : Int32) &&& 31).toUInt32).toInt32) &&& (3 : Int32)))), .val (.int (f2 (f1 p1 (p3 &&& (3 : Int32))) (f1 p2 (((p3.toUInt32 >>> ((2 : Int32) &&& 31).toUInt32).toInt32) &&& (3 : Int32))))), .val (.int (f0_u2 p1 p2 p3)), .unset, .unset] [(.int (f1 p1 (p3 &&& (3 : Int32)))), (.int (0 : Int32))])) t
      exact k
    obtain ⟨_, _, ⟨T31, L31, k31, n31⟩, -, X31, ⟨Lc31, hQ31, l31, y31, z31⟩, st31⟩ := Jvm.LawKit.callS X8 hx (y := (⟨site_22.cls, "endsLine", "(CC)Z"⟩ : MethodName)) hown (mvT hZ (hw _ (List.mem_of_getElem? (i := 5) rfl))) (mvT hZ (hw _ (List.mem_of_getElem? (i := 6) rfl))) (mvT hZ (hw _ (List.mem_of_getElem? (i := 7) rfl))) (mvT hZ (hw _ (List.mem_of_getElem? (i := 8) rfl))) (by decide) (backOf (W := 0) (rm2 l Z a0 hw [] (0 : Int32) (f1 p1 (p3 &&& (3 : Int32))) h0 n0 Z0 ) hZ (hw _ (List.mem_of_getElem? (i := 8) rfl)) (hw _ (List.mem_of_getElem? (i := 7) rfl)) (by decide) (by decide)) (g := (mkF m 77 #[.val (.int p1), .val (.int p2), .val (.int p3), .val (.int (f1 p1 (p3 &&& (3 : Int32)))), .val (.int (f1 p2 (((p3.toUInt32 >>> ((2 : Int32) &&& 31).toUInt32).toInt32) &&& (3 : Int32)))), .val (.int (f2 (f1 p1 (p3 &&& (3 : Int32))) (f1 p2 (((p3.toUInt32 >>> ((2 : Int32) &&& 31).toUInt32).toInt32) &&& (3 : Int32))))), .val (.int (f0_u2 p1 p2 p3)), .unset, .unset] [(.int (f1 p1 (p3 &&& (3 : Int32)))), (.int (0 : Int32))])) rfl (by rw [hml]; rfl) (argsL := [(.int (0 : Int32)), (.int (f1 p1 (p3 &&& (3 : Int32))))]) (rest := []) (lenOf pd_1 rfl) rfl (by show 2 * 0 + _ ≤ _; exact Nat.le_of_eq rfl) (Jvm.hb hby at_77) (fun _ _ => ⟨rfl, e8, (by decide : 0 + 0 ≤ _), (by decide : 0 + 0 ≤ _)⟩)
    dsimp only [Pt.U, Pt.locs, Pt.cells, Pt.slots] at X31 l31 y31 z31 st31 hQ31
    subst l31 y31 z31
    obtain ⟨rfl, N31q, e31⟩ := hQ31
    have N31 := Fr.app N8 N31q
    have K32 : ∀ t, Steps p.tables e below (T31.setTop (mkF m 80 #[.val (.int p1), .val (.int p2), .val (.int p3), .val (.int (f1 p1 (p3 &&& (3 : Int32)))), .val (.int (f1 p2 (((p3.toUInt32 >>> ((2 : Int32) &&& 31).toUInt32).toInt32) &&& (3 : Int32)))), .val (.int (f2 (f1 p1 (p3 &&& (3 : Int32))) (f1 p2 (((p3.toUInt32 >>> ((2 : Int32) &&& 31).toUInt32).toInt32) &&& (3 : Int32))))), .val (.int (f0_u2 p1 p2 p3)), .unset, .unset] [(.int (f2 (0 : Int32) (f1 p1 (p3 &&& (3 : Int32)))))])) t → Steps p.tables e below (T8.setTop (mkF m 77 #[.val (.int p1), .val (.int p2), .val (.int p3), .val (.int (f1 p1 (p3 &&& (3 : Int32)))), .val (.int (f1 p2 (((p3.toUInt32 >>> ((2 : Int32) &&& 31).toUInt32).toInt32) &&& (3 : Int32)))), .val (.int (f2 (f1 p1 (p3 &&& (3 : Int32))) (f1 p2 (((p3.toUInt32 >>> ((2 : Int32) &&& 31).toUInt32).toInt32) &&& (3 : Int32))))), .val (.int (f0_u2 p1 p2 p3)), .unset, .unset] [(.int (f1 p1 (p3 &&& (3 : Int32)))), (.int (0 : Int32))])) t := fun t k => st31 _ k
    have K33 : ∀ t, Steps p.tables e below (T31.setTop (mkF m 88 #[.val (.int p1), .val (.int p2), .val (.int p3), .val (.int (f1 p1 (p3 &&& (3 : Int32)))), .val (.int (f1 p2 (((p3.toUInt32 >>> ((2 : Int32) &&& 31).toUInt32).toInt32) &&& (3 : Int32)))), .val (.int (f2 (f1 p1 (p3 &&& (3 : Int32))) (f1 p2 (((p3.toUInt32 >>> ((2 : Int32) &&& 31).toUInt32).toInt32) &&& (3 : Int32))))), .val (.int (f0_u2 p1 p2 p3)), .unset, .unset] [(.int (f0_u3 p1 p3))])) t → Steps p.tables e below (T31.setTop (mkF m 80 #[.val (.int p1), .val (.int p2), .val (.int p3), .val (.int (f1 p1 (p3 &&& (3 : Int32)))), .val (.int (f1 p2 (((p3.toUInt32 >>> ((2 : Int32) &&& 31).toUInt32).toInt32) &&& (3 : Int32)))), .val (.int (f2 (f1 p1 (p3 &&& (3 : Int32))) (f1 p2 (((p3.toUInt32 >>> ((2 : Int32) &&& 31).toUInt32).toInt32) &&& (3 : Int32))))), .val (.int (f0_u2 p1 p2 p3)), .unset, .unset] [(.int (f2 (0 : Int32) (f1 p1 (p3 &&& (3 : Int32)))))])) t := by
      intro t k
      by_cases hc33 : (f2 (0 : Int32) (f1 p1 (p3 &&& (3 : Int32)))) = (0 : Int32)
      · have K34 : ∀ t, Steps p.tables e below (T31.setTop (mkF m 87 #[.val (.int p1), .val (.int p2), .val (.int p3), .val (.int (f1 p1 (p3 &&& (3 : Int32)))), .val (.int (f1 p2 (((p3.toUInt32 >>> ((2 : Int32) &&& 31).toUInt32).toInt32) &&& (3 : Int32)))), .val (.int (f2 (f1 p1 (p3 &&& (3 : Int32))) (f1 p2 (((p3.toUInt32 >>> ((2 : Int32) &&& 31).toUInt32).toInt32) &&& (3 : Int32))))), .val (.int (f0_u2 p1 p2 p3)), .unset, .unset] [])) t → Steps p.tables e below (T31.setTop (mkF m 80 #[.val (.int p1), .val (.int p2), .val (.int p3), .val (.int (f1 p1 (p3 &&& (3 : Int32)))), .val (.int (f1 p2 (((p3.toUInt32 >>> ((2 : Int32) &&& 31).toUInt32).toInt32) &&& (3 : Int32)))), .val (.int (f2 (f1 p1 (p3 &&& (3 : Int32))) (f1 p2 (((p3.toUInt32 >>> ((2 : Int32) &&& 31).toUInt32).toInt32) &&& (3 : Int32))))), .val (.int (f0_u2 p1 p2 p3)), .unset, .unset] [(.int (f2 (0 : Int32) (f1 p1 (p3 &&& (3 : Int32)))))])) t := by
          intro t k
          refine XS.ifYes X31.here hx rfl (pc0 := 80) (pc' := 87) rfl (Jvm.hb hby at_80) rfl ((if0 _ _).trans (teq hc33).1) (by decide) (by decide) ?_
          exact k
        have K35 : ∀ t, Steps p.tables e below (T31.setTop (mkF m 88 #[.val (.int p1), .val (.int p2), .val (.int p3), .val (.int (f1 p1 (p3 &&& (3 : Int32)))), .val (.int (f1 p2 (((p3.toUInt32 >>> ((2 : Int32) &&& 31).toUInt32).toInt32) &&& (3 : Int32)))), .val (.int (f2 (f1 p1 (p3 &&& (3 : Int32))) (f1 p2 (((p3.toUInt32 >>> ((2 : Int32) &&& 31).toUInt32).toInt32) &&& (3 : Int32))))), .val (.int (f0_u2 p1 p2 p3)), .unset, .unset] [(.int (0 : Int32))])) t → Steps p.tables e below (T31.setTop (mkF m 87 #[.val (.int p1), .val (.int p2), .val (.int p3), .val (.int (f1 p1 (p3 &&& (3 : Int32)))), .val (.int (f1 p2 (((p3.toUInt32 >>> ((2 : Int32) &&& 31).toUInt32).toInt32) &&& (3 : Int32)))), .val (.int (f2 (f1 p1 (p3 &&& (3 : Int32))) (f1 p2 (((p3.toUInt32 >>> ((2 : Int32) &&& 31).toUInt32).toInt32) &&& (3 : Int32))))), .val (.int (f0_u2 p1 p2 p3)), .unset, .unset] [])) t := by
          intro t k
          refine XS.iconst X31.here hx rfl (Jvm.hb hby at_87) ?_
          show Steps p.tables e below (T31.setTop (mkF m 88 #[.val (.int p1), .val (.int p2), .val (.int p3), .val (.int (f1 p1 (p3 &&& (3 : Int32)))), .val (.int (f1 p2 (((p3.toUInt32 >>> ((2 : Int32) &&& 31).toUInt32).toInt32) &&& (3 : Int32)))), .val (.int (f2 (f1 p1 (p3 &&& (3 : Int32))) (f1 p2 (((p3.toUInt32 >>> ((2 : Int32) &&& 31).toUInt32).toInt32) &&& (3 : Int32))))), .val (.int (f0_u2 p1 p2 p3)), .unset, .unset] [(.int (0 : Int32))])) t
          exact k
        rw [show (f0_u3 p1 p3) = (0 : Int32) from if_pos hc33] at k
        exact K34 _ (K35 _ (k))
      · have K36 : ∀ t, Steps p.tables e below (T31.setTop (mkF m 83 #[.val (.int p1), .val (.int p2), .val (.int p3), .val (.int (f1 p1 (p3 &&& (3 : Int32)))), .val (.int (f1 p2 (((p3.toUInt32 >>> ((2 : Int32) &&& 31).toUInt32).toInt32) &&& (3 : Int32)))), .val (.int (f2 (f1 p1 (p3 &&& (3 : Int32))) (f1 p2 (((p3.toUInt32 >>> ((2 : Int32) &&& 31).toUInt32).toInt32) &&& (3 : Int32))))), .val (.int (f0_u2 p1 p2 p3)), .unset, .unset] [])) t → Steps p.tables e below (T31.setTop (mkF m 80 #[.val (.int p1), .val (.int p2), .val (.int p3), .val (.int (f1 p1 (p3 &&& (3 : Int32)))), .val (.int (f1 p2 (((p3.toUInt32 >>> ((2 : Int32) &&& 31).toUInt32).toInt32) &&& (3 : Int32)))), .val (.int (f2 (f1 p1 (p3 &&& (3 : Int32))) (f1 p2 (((p3.toUInt32 >>> ((2 : Int32) &&& 31).toUInt32).toInt32) &&& (3 : Int32))))), .val (.int (f0_u2 p1 p2 p3)), .unset, .unset] [(.int (f2 (0 : Int32) (f1 p1 (p3 &&& (3 : Int32)))))])) t := by
          intro t k
          refine XS.ifNo X31.here hx rfl (Jvm.hb hby at_80) rfl ((if0 _ _).trans (feq hc33).1) ?_
          exact k
        have K37 : ∀ t, Steps p.tables e below (T31.setTop (mkF m 88 #[.val (.int p1), .val (.int p2), .val (.int p3), .val (.int (f1 p1 (p3 &&& (3 : Int32)))), .val (.int (f1 p2 (((p3.toUInt32 >>> ((2 : Int32) &&& 31).toUInt32).toInt32) &&& (3 : Int32)))), .val (.int (f2 (f1 p1 (p3 &&& (3 : Int32))) (f1 p2 (((p3.toUInt32 >>> ((2 : Int32) &&& 31).toUInt32).toInt32) &&& (3 : Int32))))), .val (.int (f0_u2 p1 p2 p3)), .unset, .unset] [(.int (1 : Int32))])) t → Steps p.tables e below (T31.setTop (mkF m 83 #[.val (.int p1), .val (.int p2), .val (.int p3), .val (.int (f1 p1 (p3 &&& (3 : Int32)))), .val (.int (f1 p2 (((p3.toUInt32 >>> ((2 : Int32) &&& 31).toUInt32).toInt32) &&& (3 : Int32)))), .val (.int (f2 (f1 p1 (p3 &&& (3 : Int32))) (f1 p2 (((p3.toUInt32 >>> ((2 : Int32) &&& 31).toUInt32).toInt32) &&& (3 : Int32))))), .val (.int (f0_u2 p1 p2 p3)), .unset, .unset] [])) t := by
          intro t k
          refine XS.iconst X31.here hx rfl (Jvm.hb hby at_83) ?_
          show Steps p.tables e below (T31.setTop (mkF m 84 #[.val (.int p1), .val (.int p2), .val (.int p3), .val (.int (f1 p1 (p3 &&& (3 : Int32)))), .val (.int (f1 p2 (((p3.toUInt32 >>> ((2 : Int32) &&& 31).toUInt32).toInt32) &&& (3 : Int32)))), .val (.int (f2 (f1 p1 (p3 &&& (3 : Int32))) (f1 p2 (((p3.toUInt32 >>> ((2 : Int32) &&& 31).toUInt32).toInt32) &&& (3 : Int32))))), .val (.int (f0_u2 p1 p2 p3)), .unset, .unset] [(.int (1 : Int32))])) t
          refine XS.goto X31.here hx rfl (pc0 := 84) (pc' := 88) rfl (Jvm.hb hby at_84) (by decide) (by decide) ?_
          show Steps p.tables e below (T31.setTop (mkF m 88 #[.val (.int p1), .val (.int p2), .val (.int p3), .val (.int (f1 p1 (p3 &&& (3 : Int32)))), .val (.int (f1 p2 (((p3.toUInt32 >>> ((2 : Int32) &&& 31).toUInt32).toInt32) &&& (3 : Int32)))), .val (.int (f2 (f1 p1 (p3 &&& (3 : Int32))) (f1 p2 (((p3.toUInt32 >>> ((2 : Int32) &&& 31).toUInt32).toInt32) &&& (3 : Int32))))), .val (.int (f0_u2 p1 p2 p3)), .unset, .unset] [(.int (1 : Int32))])) t
          exact k
        rw [show (f0_u3 p1 p3) = (1 : Int32) from if_neg hc33] at k
        exact K36 _ (K37 _ (k))
    have K38 : ∀ t, Steps p.tables e below (T31.setTop (mkF m 90 #[.val (.int p1), .val (.int p2), .val (.int p3), .val (.int (f1 p1 (p3 &&& (3 : Int32)))), .val (.int (f1 p2 (((p3.toUInt32 >>> ((2 : Int32) &&& 31).toUInt32).toInt32) &&& (3 : Int32)))), .val (.int (f2 (f1 p1 (p3 &&& (3 : Int32))) (f1 p2 (((p3.toUInt32 >>> ((2 : Int32) &&& 31).toUInt32).toInt32) &&& (3 : Int32))))), .val (.int (f0_u2 p1 p2 p3)), .unset, .unset] [(.int (f2 (f1 p1 (p3 &&& (3 : Int32))) (f1 p2 (((p3.toUInt32 >>> ((2 : Int32) &&& 31).toUInt32).toInt32) &&& (3 : Int32))))), (.int (f0_u3 p1 p3))])) t → Steps p.tables e below (T31.setTop (mkF m 88 #[.val (.int p1), .val (.int p2), .val (.int p3), .val (.int (f1 p1 (p3 &&& (3 : Int32)))), .val (.int (f1 p2 (((p3.toUInt32 >>> ((2 : Int32) &&& 31).toUInt32).toInt32) &&& (3 : Int32)))), .val (.int (f2 (f1 p1 (p3 &&& (3 : Int32))) (f1 p2 (((p3.toUInt32 >>> ((2 : Int32) &&& 31).toUInt32).toInt32) &&& (3 : Int32))))), .val (.int (f0_u2 p1 p2 p3)), .unset, .unset] [(.int (f0_u3 p1 p3))])) t := by
      intro t k
      refine XS.iload X31.here hx rfl (Jvm.hb hby at_88) rfl ?_
      show Steps p.tables e below (T31.setTop (mkF m 90 #[.val (.int p1), .val (.int p2), .val (.int p3), .val (.int (f1 p1 (p3 &&& (3 : Int32)))), .val (.int (f1 p2 (((p3.toUInt32 >>> ((2 : Int32) &&& 31).toUInt32).toInt32) &&& (3 : Int32)))), .val (.int (f2 (f1 p1 (p3 &&& (3 : Int32))) (f1 p2 (((p3.toUInt32 >>> ((2 : Int32) &&& 31).toUInt32).toInt32) &&& (3 : Int32))))), .val (.int (f0_u2 p1 p2 p3)), .unset, .unset] [(.int (f2 (f1 p1 (p3 &&& (3 : Int32))) (f1 p2 (((p3.toUInt32 >>> ((2 : Int32) &&& 31).toUInt32).toInt32) &&& (3 : Int32))))), (.int (f0_u3 p1 p3))])) t
      exact k
    have K39 : ∀ t, Steps p.tables e below (T31.setTop (mkF m 98 #[.val (.int p1), .val (.int p2), .val (.int p3), .val (.int (f1 p1 (p3 &&& (3 : Int32)))), .val (.int (f1 p2 (((p3.toUInt32 >>> ((2 : Int32) &&& 31).toUInt32).toInt32) &&& (3 : Int32)))), .val (.int (f2 (f1 p1 (p3 &&& (3 : Int32))) (f1 p2 (((p3.toUInt32 >>> ((2 : Int32) &&& 31).toUInt32).toInt32) &&& (3 : Int32))))), .val (.int (f0_u2 p1 p2 p3)), .unset, .unset] [(.int (f0_u4 p1 p2 p3)), (.int (f0_u3 p1 p3))])) t → Steps p.tables e below (T31.setTop (mkF m 90 #[.val (.int p1), .val (.int p2), .val (.int p3), .val (.int (f1 p1 (p3 &&& (3 : Int32)))), .val (.int (f1 p2 (((p3.toUInt32 >>> ((2 : Int32) &&& 31).toUInt32).toInt32) &&& (3 : Int32)))), .val (.int (f2 (f1 p1 (p3 &&& (3 : Int32))) (f1 p2 (((p3.toUInt32 >>> ((2 : Int32) &&& 31).toUInt32).toInt32) &&& (3 : Int32))))), .val (.int (f0_u2 p1 p2 p3)), .unset, .unset] [(.int (f2 (f1 p1 (p3 &&& (3 : Int32))) (f1 p2 (((p3.toUInt32 >>> ((2 : Int32) &&& 31).toUInt32).toInt32) &&& (3 : Int32))))), (.int (f0_u3 p1 p3))])) t := by
      intro t k
      by_cases hc39 : (f2 (f1 p1 (p3 &&& (3 : Int32))) (f1 p2 (((p3.toUInt32 >>> ((2 : Int32) &&& 31).toUInt32).toInt32) &&& (3 : Int32)))) = (0 : Int32)
      · have K40 : ∀ t, Steps p.tables e below (T31.setTop (mkF m 97 #[.val (.int p1), .val (.int p2), .val (.int p3), .val (.int (f1 p1 (p3 &&& (3 : Int32)))), .val (.int (f1 p2 (((p3.toUInt32 >>> ((2 : Int32) &&& 31).toUInt32).toInt32) &&& (3 : Int32)))), .val (.int (f2 (f1 p1 (p3 &&& (3 : Int32))) (f1 p2 (((p3.toUInt32 >>> ((2 : Int32) &&& 31).toUInt32).toInt32) &&& (3 : Int32))))), .val (.int (f0_u2 p1 p2 p3)), .unset, .unset] [(.int (f0_u3 p1 p3))])) t → Steps p.tables e below (T31.setTop (mkF m 90 #[.val (.int p1), .val (.int p2), .val (.int p3), .val (.int (f1 p1 (p3 &&& (3 : Int32)))), .val (.int (f1 p2 (((p3.toUInt32 >>> ((2 : Int32) &&& 31).toUInt32).toInt32) &&& (3 : Int32)))), .val (.int (f2 (f1 p1 (p3 &&& (3 : Int32))) (f1 p2 (((p3.toUInt32 >>> ((2 : Int32) &&& 31).toUInt32).toInt32) &&& (3 : Int32))))), .val (.int (f0_u2 p1 p2 p3)), .unset, .unset] [(.int (f2 (f1 p1 (p3 &&& (3 : Int32))) (f1 p2 (((p3.toUInt32 >>> ((2 : Int32) &&& 31).toUInt32).toInt32) &&& (3 : Int32))))), (.int (f0_u3 p1 p3))])) t := by
          intro t k
          refine XS.ifYes X31.here hx rfl (pc0 := 90) (pc' := 97) rfl (Jvm.hb hby at_90) rfl ((if0 _ _).trans (teq hc39).1) (by decide) (by decide) ?_
          exact k
        have K41 : ∀ t, Steps p.tables e below (T31.setTop (mkF m 98 #[.val (.int p1), .val (.int p2), .val (.int p3), .val (.int (f1 p1 (p3 &&& (3 : Int32)))), .val (.int (f1 p2 (((p3.toUInt32 >>> ((2 : Int32) &&& 31).toUInt32).toInt32) &&& (3 : Int32)))), .val (.int (f2 (f1 p1 (p3 &&& (3 : Int32))) (f1 p2 (((p3.toUInt32 >>> ((2 : Int32) &&& 31).toUInt32).toInt32) &&& (3 : Int32))))), .val (.int (f0_u2 p1 p2 p3)), .unset, .unset] [(.int (0 : Int32)), (.int (f0_u3 p1 p3))])) t → Steps p.tables e below (T31.setTop (mkF m 97 #[.val (.int p1), .val (.int p2), .val (.int p3), .val (.int (f1 p1 (p3 &&& (3 : Int32)))), .val (.int (f1 p2 (((p3.toUInt32 >>> ((2 : Int32) &&& 31).toUInt32).toInt32) &&& (3 : Int32)))), .val (.int (f2 (f1 p1 (p3 &&& (3 : Int32))) (f1 p2 (((p3.toUInt32 >>> ((2 : Int32) &&& 31).toUInt32).toInt32) &&& (3 : Int32))))), .val (.int (f0_u2 p1 p2 p3)), .unset, .unset] [(.int (f0_u3 p1 p3))])) t := by
          intro t k
          refine XS.iconst X31.here hx rfl (Jvm.hb hby at_97) ?_
          show Steps p.tables e below (T31.setTop (mkF m 98 #[.val (.int p1), .val (.int p2), .val (.int p3), .val (.int (f1 p1 (p3 &&& (3 : Int32)))), .val (.int (f1 p2 (((p3.toUInt32 >>> ((2 : Int32) &&& 31).toUInt32).toInt32) &&& (3 : Int32)))), .val (.int (f2 (f1 p1 (p3 &&& (3 : Int32))) (f1 p2 (((p3.toUInt32 >>> ((2 : Int32) &&& 31).toUInt32).toInt32) &&& (3 : Int32))))), .val (.int (f0_u2 p1 p2 p3)), .unset, .unset] [(.int (0 : Int32)), (.int (f0_u3 p1 p3))])) t
          exact k
        rw [show (f0_u4 p1 p2 p3) = (0 : Int32) from if_pos hc39] at k
        exact K40 _ (K41 _ (k))
      · have K42 : ∀ t, Steps p.tables e below (T31.setTop (mkF m 93 #[.val (.int p1), .val (.int p2), .val (.int p3), .val (.int (f1 p1 (p3 &&& (3 : Int32)))), .val (.int (f1 p2 (((p3.toUInt32 >>> ((2 : Int32) &&& 31).toUInt32).toInt32) &&& (3 : Int32)))), .val (.int (f2 (f1 p1 (p3 &&& (3 : Int32))) (f1 p2 (((p3.toUInt32 >>> ((2 : Int32) &&& 31).toUInt32).toInt32) &&& (3 : Int32))))), .val (.int (f0_u2 p1 p2 p3)), .unset, .unset] [(.int (f0_u3 p1 p3))])) t → Steps p.tables e below (T31.setTop (mkF m 90 #[.val (.int p1), .val (.int p2), .val (.int p3), .val (.int (f1 p1 (p3 &&& (3 : Int32)))), .val (.int (f1 p2 (((p3.toUInt32 >>> ((2 : Int32) &&& 31).toUInt32).toInt32) &&& (3 : Int32)))), .val (.int (f2 (f1 p1 (p3 &&& (3 : Int32))) (f1 p2 (((p3.toUInt32 >>> ((2 : Int32) &&& 31).toUInt32).toInt32) &&& (3 : Int32))))), .val (.int (f0_u2 p1 p2 p3)), .unset, .unset] [(.int (f2 (f1 p1 (p3 &&& (3 : Int32))) (f1 p2 (((p3.toUInt32 >>> ((2 : Int32) &&& 31).toUInt32).toInt32) &&& (3 : Int32))))), (.int (f0_u3 p1 p3))])) t := by
          intro t k
          refine XS.ifNo X31.here hx rfl (Jvm.hb hby at_90) rfl ((if0 _ _).trans (feq hc39).1) ?_
          exact k
        have K43 : ∀ t, Steps p.tables e below (T31.setTop (mkF m 98 #[.val (.int p1), .val (.int p2), .val (.int p3), .val (.int (f1 p1 (p3 &&& (3 : Int32)))), .val (.int (f1 p2 (((p3.toUInt32 >>> ((2 : Int32) &&& 31).toUInt32).toInt32) &&& (3 : Int32)))), .val (.int (f2 (f1 p1 (p3 &&& (3 : Int32))) (f1 p2 (((p3.toUInt32 >>> ((2 : Int32) &&& 31).toUInt32).toInt32) &&& (3 : Int32))))), .val (.int (f0_u2 p1 p2 p3)), .unset, .unset] [(.int (1 : Int32)), (.int (f0_u3 p1 p3))])) t → Steps p.tables e below (T31.setTop (mkF m 93 #[.val (.int p1), .val (.int p2), .val (.int p3), .val (.int (f1 p1 (p3 &&& (3 : Int32)))), .val (.int (f1 p2 (((p3.toUInt32 >>> ((2 : Int32) &&& 31).toUInt32).toInt32) &&& (3 : Int32)))), .val (.int (f2 (f1 p1 (p3 &&& (3 : Int32))) (f1 p2 (((p3.toUInt32 >>> ((2 : Int32) &&& 31).toUInt32).toInt32) &&& (3 : Int32))))), .val (.int (f0_u2 p1 p2 p3)), .unset, .unset] [(.int (f0_u3 p1 p3))])) t := by
          intro t k
          refine XS.iconst X31.here hx rfl (Jvm.hb hby at_93) ?_
          show Steps p.tables e below (T31.setTop (mkF m 94 #[.val (.int p1), .val (.int p2), .val (.int p3), .val (.int (f1 p1 (p3 &&& (3 : Int32)))), .val (.int (f1 p2 (((p3.toUInt32 >>> ((2 : Int32) &&& 31).toUInt32).toInt32) &&& (3 : Int32)))), .val (.int (f2 (f1 p1 (p3 &&& (3 : Int32))) (f1 p2 (((p3.toUInt32 >>> ((2 : Int32) &&& 31).toUInt32).toInt32) &&& (3 : Int32))))), .val (.int (f0_u2 p1 p2 p3)), .unset, .unset] [(.int (1 : Int32)), (.int (f0_u3 p1 p3))])) t
          refine XS.goto X31.here hx rfl (pc0 := 94) (pc' := 98) rfl (Jvm.hb hby at_94) (by decide) (by decide) ?_
          show Steps p.tables e below (T31.setTop (mkF m 98 #[.val (.int p1), .val (.int p2), .val (.int p3), .val (.int (f1 p1 (p3 &&& (3 : Int32)))), .val (.int (f1 p2 (((p3.toUInt32 >>> ((2 : Int32) &&& 31).toUInt32).toInt32) &&& (3 : Int32)))), .val (.int (f2 (f1 p1 (p3 &&& (3 : Int32))) (f1 p2 (((p3.toUInt32 >>> ((2 : Int32) &&& 31).toUInt32).toInt32) &&& (3 : Int32))))), .val (.int (f0_u2 p1 p2 p3)), .unset, .unset] [(.int (1 : Int32)), (.int (f0_u3 p1 p3))])) t
          exact k
        rw [show (f0_u4 p1 p2 p3) = (1 : Int32) from if_neg hc39] at k
        exact K42 _ (K43 _ (k))
    have K44 : ∀ t, Steps p.tables e below (T31.setTop (mkF m 104 #[.val (.int p1), .val (.int p2), .val (.int p3), .val (.int (f1 p1 (p3 &&& (3 : Int32)))), .val (.int (f1 p2 (((p3.toUInt32 >>> ((2 : Int32) &&& 31).toUInt32).toInt32) &&& (3 : Int32)))), .val (.int (f2 (f1 p1 (p3 &&& (3 : Int32))) (f1 p2 (((p3.toUInt32 >>> ((2 : Int32) &&& 31).toUInt32).toInt32) &&& (3 : Int32))))), .val (.int (f0_u2 p1 p2 p3)), .val (.int ((f0_u3 p1 p3) + (f0_u4 p1 p2 p3))), .unset] [(.int (13 : Int32)), (.int (f1 p1 (p3 &&& (3 : Int32))))])) t → Steps p.tables e below (T31.setTop (mkF m 98 #[.val (.int p1), .val (.int p2), .val (.int p3), .val (.int (f1 p1 (p3 &&& (3 : Int32)))), .val (.int (f1 p2 (((p3.toUInt32 >>> ((2 : Int32) &&& 31).toUInt32).toInt32) &&& (3 : Int32)))), .val (.int (f2 (f1 p1 (p3 &&& (3 : Int32))) (f1 p2 (((p3.toUInt32 >>> ((2 : Int32) &&& 31).toUInt32).toInt32) &&& (3 : Int32))))), .val (.int (f0_u2 p1 p2 p3)), .unset, .unset] [(.int (f0_u4 p1 p2 p3)), (.int (f0_u3 p1 p3))])) t := by
      intro t k
      refine XS.iadd X31.here hx rfl (Jvm.hb hby at_98) rfl ?_
      show Steps p.tables e below (T31.setTop (mkF m 99 #[.val (.int p1), .val (.int p2), .val (.int p3), .val (.int (f1 p1 (p3 &&& (3 : Int32)))), .val (.int (f1 p2 (((p3.toUInt32 >>> ((2 : Int32) &&& 31).toUInt32).toInt32) &&& (3 : Int32)))), .val (.int (f2 (f1 p1 (p3 &&& (3 : Int32))) (f1 p2 (((p3.toUInt32 >>> ((2 : Int32) &&& 31).toUInt32).toInt32) &&& (3 : Int32))))), .val (.int (f0_u2 p1 p2 p3)), .unset, .unset] [(.int ((f0_u3 p1 p3) + (f0_u4 p1 p2 p3)))])) t
      refine XS.istore X31.here hx rfl (Jvm.hb hby at_99) rfl (l' := #[.val (.int p1), .val (.int p2), .val (.int p3), .val (.int (f1 p1 (p3 &&& (3 : Int32)))), .val (.int (f1 p2 (((p3.toUInt32 >>> ((2 : Int32) &&& 31).toUInt32).toInt32) &&& (3 : Int32)))), .val (.int (f2 (f1 p1 (p3 &&& (3 : Int32))) (f1 p2 (((p3.toUInt32 >>> ((2 : Int32) &&& 31).toUInt32).toInt32) &&& (3 : Int32))))), .val (.int (f0_u2 p1 p2 p3)), .val (.int ((f0_u3 p1 p3) + (f0_u4 p1 p2 p3))), .unset]) rfl ?_
      show Steps p.tables e below (T31.setTop (mkF m 101 #[.val (.int p1), .val (.int p2), .val (.int p3), .val (.int (f1 p1 (p3 &&& (3 : Int32)))), .val (.int (f1 p2 (((p3.toUInt32 >>> ((2 : Int32) &&& 31).toUInt32).toInt32) &&& (3 : Int32)))), .val (.int (f2 (f1 p1 (p3 &&& (3 : Int32))) (f1 p2 (((p3.toUInt32 >>> ((2 : Int32) &&& 31).toUInt32).toInt32) &&& (3 : Int32))))), .val (.int (f0_u2 p1 p2 p3)), .val (.int ((f0_u3 p1 p3) + (f0_u4 p1 p2 p3))), .unset] [])) t
      refine XS.iloadN X31.here hx rfl (Jvm.hb hby at_101) rfl ?_
      show Steps p.tables e below (T31.setTop (mkF m 102 #[.val (.int p1), .val (.int p2), .val (.int p3), .val (.int (f1 p1 (p3 &&& (3 : Int32)))), .val (.int (f1 p2 (((p3.toUInt32 >>> ((2 : Int32) &&& 31).toUInt32).toInt32) &&& (3 : Int32)))), .val (.int (f2 (f1 p1 (p3 &&& (3 : Int32))) (f1 p2 (((p3.toUInt32 >>> ((2 : Int32) &&& 31).toUInt32).toInt32) &&& (3 : Int32))))), .val (.int (f0_u2 p1 p2 p3)), .val (.int ((f0_u3 p1 p3) + (f0_u4 p1 p2 p3))), .unset] [(.int (f1 p1 (p3 &&& (3 : Int32))))])) t
      refine XS.bipush X31.here hx rfl (Jvm.hb hby at_102) ?_
      show Steps p.tables e below (T31.setTop (mkF m 104 #[.val (.int p1), .val (.int p2), .val (.int p3), .val (.int (f1 p1 (p3 &&& (3 : Int32)))), .val (.int (f1 p2 (((p3.toUInt32 >>> ((2 : Int32) &&& 31).toUInt32).toInt32) &&& (3 : Int32)))), .val (.int (f2 (f1 p1 (p3 &&& (3 : Int32))) (f1 p2 (((p3.toUInt32 >>> ((2 : Int32) &&& 31).toUInt32).toInt32) &&& (3 : Int32))))), .val (.int (f0_u2 p1 p2 p3)), .val (.int ((f0_u3 p1 p3) + (f0_u4 p1 p2 p3))), .unset] [(.int (13 : Int32)), (.int (f1 p1 (p3 &&& (3 : Int32))))])) t
      exact k
    obtain ⟨Tm45, Lm45, Xm45, em45, Nm45, Km45⟩ : ∃ (T' : State) (L' : List Loc), Stand p l e room_1 s m #[(.int p1), (.int p2), (.int p3)] below meth c T' L' 0 0 ∧ T'.heap = h0 ∧ Fr n0 L' ∧ ∀ t, Steps p.tables e below (T'.setTop (mkF m 148 #[.val (.int p1), .val (.int p2), .val (.int p3), .val (.int (f1 p1 (p3 &&& (3 : Int32)))), .val (.int (f1 p2 (((p3.toUInt32 >>> ((2 : Int32) &&& 31).toUInt32).toInt32) &&& (3 : Int32)))), .val (.int (f2 (f1 p1 (p3 &&& (3 : Int32))) (f1 p2 (((p3.toUInt32 >>> ((2 : Int32) &&& 31).toUInt32).toInt32) &&& (3 : Int32))))), .val (.int (f0_u2 p1 p2 p3)), .val (.int ((f0_u3 p1 p3) + (f0_u4 p1 p2 p3))), .val (.int (f0_u7 p1 p2 p3))] [])) t → Steps p.tables e below (T31.setTop (mkF m 104 #[.val (.int p1), .val (.int p2), .val (.int p3), .val (.int (f1 p1 (p3 &&& (3 : Int32)))), .val (.int (f1 p2 (((p3.toUInt32 >>> ((2 : Int32) &&& 31).toUInt32).toInt32) &&& (3 : Int32)))), .val (.int (f2 (f1 p1 (p3 &&& (3 : Int32))) (f1 p2 (((p3.toUInt32 >>> ((2 : Int32) &&& 31).toUInt32).toInt32) &&& (3 : Int32))))), .val (.int (f0_u2 p1 p2 p3)), .val (.int ((f0_u3 p1 p3) + (f0_u4 p1 p2 p3))), .unset] [(.int (13 : Int32)), (.int (f1 p1 (p3 &&& (3 : Int32))))])) t := by
      by_cases hc45 : (f1 p1 (p3 &&& (3 : Int32))) = (13 : Int32)
      · have K46 : ∀ t, Steps p.tables e below (T31.setTop (mkF m 107 #[.val (.int p1), .val (.int p2), .val (.int p3), .val (.int (f1 p1 (p3 &&& (3 : Int32)))), .val (.int (f1 p2 (((p3.toUInt32 >>> ((2 : Int32) &&& 31).toUInt32).toInt32) &&& (3 : Int32)))), .val (.int (f2 (f1 p1 (p3 &&& (3 : Int32))) (f1 p2 (((p3.toUInt32 >>> ((2 : Int32) &&& 31).toUInt32).toInt32) &&& (3 : Int32))))), .val (.int (f0_u2 p1 p2 p3)), .val (.int ((f0_u3 p1 p3) + (f0_u4 p1 p2 p3))), .unset] [])) t → Steps p.tables e below (T31.setTop (mkF m 104 #[.val (.int p1), .val (.int p2), .val (.int p3), .val (.int (f1 p1 (p3 &&& (3 : Int32)))), .val (.int (f1 p2 (((p3.toUInt32 >>> ((2 : Int32) &&& 31).toUInt32).toInt32) &&& (3 : Int32)))), .val (.int (f2 (f1 p1 (p3 &&& (3 : Int32))) (f1 p2 (((p3.toUInt32 >>> ((2 : Int32) &&& 31).toUInt32).toInt32) &&& (3 : Int32))))), .val (.int (f0_u2 p1 p2 p3)), .val (.int ((f0_u3 p1 p3) + (f0_u4 p1 p2 p3))), .unset] [(.int (13 : Int32)), (.int (f1 p1 (p3 &&& (3 : Int32))))])) t := by
          intro t k
          refine XS.icmpNo X31.here hx rfl (Jvm.hb hby at_104) rfl (teq hc45).2 ?_
          exact k
        have K47 : ∀ t, Steps p.tables e below (T31.setTop (mkF m 111 #[.val (.int p1), .val (.int p2), .val (.int p3), .val (.int (f1 p1 (p3 &&& (3 : Int32)))), .val (.int (f1 p2 (((p3.toUInt32 >>> ((2 : Int32) &&& 31).toUInt32).toInt32) &&& (3 : Int32)))), .val (.int (f2 (f1 p1 (p3 &&& (3 : Int32))) (f1 p2 (((p3.toUInt32 >>> ((2 : Int32) &&& 31).toUInt32).toInt32) &&& (3 : Int32))))), .val (.int (f0_u2 p1 p2 p3)), .val (.int ((f0_u3 p1 p3) + (f0_u4 p1 p2 p3))), .unset] [(.int (10 : Int32)), (.int (f1 p2 (((p3.toUInt32 >>> ((2 : Int32) &&& 31).toUInt32).toInt32) &&& (3 : Int32))))])) t → Steps p.tables e below (T31.setTop (mkF m 107 #[.val (.int p1), .val (.int p2), .val (.int p3), .val (.int (f1 p1 (p3 &&& (3 : Int32)))), .val (.int (f1 p2 (((p3.toUInt32 >>> ((2 : Int32) &&& 31).toUInt32).toInt32) &&& (3 : Int32)))), .val (.int (f2 (f1 p1 (p3 &&& (3 : Int32))) (f1 p2 (((p3.toUInt32 >>> ((2 : Int32) &&& 31).toUInt32).toInt32) &&& (3 : Int32))))), .val (.int (f0_u2 p1 p2 p3)), .val (.int ((f0_u3 p1 p3) + (f0_u4 p1 p2 p3))), .unset] [])) t := by
          intro t k
          refine XS.iload X31.here hx rfl (Jvm.hb hby at_107) rfl ?_
          show Steps p.tables e below (T31.setTop (mkF m 109 #[.val (.int p1), .val (.int p2), .val (.int p3), .val (.int (f1 p1 (p3 &&& (3 : Int32)))), .val (.int (f1 p2 (((p3.toUInt32 >>> ((2 : Int32) &&& 31).toUInt32).toInt32) &&& (3 : Int32)))), .val (.int (f2 (f1 p1 (p3 &&& (3 : Int32))) (f1 p2 (((p3.toUInt32 >>> ((2 : Int32) &&& 31).toUInt32).toInt32) &&& (3 : Int32))))), .val (.int (f0_u2 p1 p2 p3)), .val (.int ((f0_u3 p1 p3) + (f0_u4 p1 p2 p3))), .unset] [(.int (f1 p2 (((p3.toUInt32 >>> ((2 : Int32) &&& 31).toUInt32).toInt32) &&& (3 : Int32))))])) t
          refine XS.bipush X31.here hx rfl (Jvm.hb hby at_109) ?_
          show Steps p.tables e below (T31.setTop (mkF m 111 #[.val (.int p1), .val (.int p2), .val (.int p3), .val (.int (f1 p1 (p3 &&& (3 : Int32)))), .val (.int (f1 p2 (((p3.toUInt32 >>> ((2 : Int32) &&& 31).toUInt32).toInt32) &&& (3 : Int32)))), .val (.int (f2 (f1 p1 (p3 &&& (3 : Int32))) (f1 p2 (((p3.toUInt32 >>> ((2 : Int32) &&& 31).toUInt32).toInt32) &&& (3 : Int32))))), .val (.int (f0_u2 p1 p2 p3)), .val (.int ((f0_u3 p1 p3) + (f0_u4 p1 p2 p3))), .unset] [(.int (10 : Int32)), (.int (f1 p2 (((p3.toUInt32 >>> ((2 : Int32) &&& 31).toUInt32).toInt32) &&& (3 : Int32))))])) t
          exact k
        by_cases hc48 : (f1 p2 (((p3.toUInt32 >>> ((2 : Int32) &&& 31).toUInt32).toInt32) &&& (3 : Int32))) = (10 : Int32)
        · have K49 : ∀ t, Steps p.tables e below (T31.setTop (mkF m 114 #[.val (.int p1), .val (.int p2), .val (.int p3), .val (.int (f1 p1 (p3 &&& (3 : Int32)))), .val (.int (f1 p2 (((p3.toUInt32 >>> ((2 : Int32) &&& 31).toUInt32).toInt32) &&& (3 : Int32)))), .val (.int (f2 (f1 p1 (p3 &&& (3 : Int32))) (f1 p2 (((p3.toUInt32 >>> ((2 : Int32) &&& 31).toUInt32).toInt32) &&& (3 : Int32))))), .val (.int (f0_u2 p1 p2 p3)), .val (.int ((f0_u3 p1 p3) + (f0_u4 p1 p2 p3))), .unset] [])) t → Steps p.tables e below (T31.setTop (mkF m 111 #[.val (.int p1), .val (.int p2), .val (.int p3), .val (.int (f1 p1 (p3 &&& (3 : Int32)))), .val (.int (f1 p2 (((p3.toUInt32 >>> ((2 : Int32) &&& 31).toUInt32).toInt32) &&& (3 : Int32)))), .val (.int (f2 (f1 p1 (p3 &&& (3 : Int32))) (f1 p2 (((p3.toUInt32 >>> ((2 : Int32) &&& 31).toUInt32).toInt32) &&& (3 : Int32))))), .val (.int (f0_u2 p1 p2 p3)), .val (.int ((f0_u3 p1 p3) + (f0_u4 p1 p2 p3))), .unset] [(.int (10 : Int32)), (.int (f1 p2 (((p3.toUInt32 >>> ((2 : Int32) &&& 31).toUInt32).toInt32) &&& (3 : Int32))))])) t := by
            intro t k
            refine XS.icmpNo X31.here hx rfl (Jvm.hb hby at_111) rfl (teq hc48).2 ?_
            exact k
          have K50 : ∀ t, Steps p.tables e below (T31.setTop (mkF m 148 #[.val (.int p1), .val (.int p2), .val (.int p3), .val (.int (f1 p1 (p3 &&& (3 : Int32)))), .val (.int (f1 p2 (((p3.toUInt32 >>> ((2 : Int32) &&& 31).toUInt32).toInt32) &&& (3 : Int32)))), .val (.int (f2 (f1 p1 (p3 &&& (3 : Int32))) (f1 p2 (((p3.toUInt32 >>> ((2 : Int32) &&& 31).toUInt32).toInt32) &&& (3 : Int32))))), .val (.int (f0_u2 p1 p2 p3)), .val (.int ((f0_u3 p1 p3) + (f0_u4 p1 p2 p3))), .val (.int (1 : Int32))] [])) t → Steps p.tables e below (T31.setTop (mkF m 114 #[.val (.int p1), .val (.int p2), .val (.int p3), .val (.int (f1 p1 (p3 &&& (3 : Int32)))), .val (.int (f1 p2 (((p3.toUInt32 >>> ((2 : Int32) &&& 31).toUInt32).toInt32) &&& (3 : Int32)))), .val (.int (f2 (f1 p1 (p3 &&& (3 : Int32))) (f1 p2 (((p3.toUInt32 >>> ((2 : Int32) &&& 31).toUInt32).toInt32) &&& (3 : Int32))))), .val (.int (f0_u2 p1 p2 p3)), .val (.int ((f0_u3 p1 p3) + (f0_u4 p1 p2 p3))), .unset] [])) t := by
            intro t k
            refine XS.iconst X31.here hx rfl (Jvm.hb hby at_114) ?_
            show Steps p.tables e below (T31.setTop (mkF m 115 #[.val (.int p1), .val (.int p2), .val (.int p3), .val (.int (f1 p1 (p3 &&& (3 : Int32)))), .val (.int (f1 p2 (((p3.toUInt32 >>> ((2 : Int32) &&& 31).toUInt32).toInt32) &&& (3 : Int32)))), .val (.int (f2 (f1 p1 (p3 &&& (3 : Int32))) (f1 p2 (((p3.toUInt32 >>> ((2 : Int32) &&& 31).toUInt32).toInt32) &&& (3 : Int32))))), .val (.int (f0_u2 p1 p2 p3)), .val (.int ((f0_u3 p1 p3) + (f0_u4 p1 p2 p3))), .unset] [(.int (1 : Int32))])) t
            refine XS.istore X31.here hx rfl (Jvm.hb hby at_115) rfl (l' := #[.val (.int p1), .val (.int p2), .val (.int p3), .val (.int (f1 p1 (p3 &&& (3 : Int32)))), .val (.int (f1 p2 (((p3.toUInt32 >>> ((2 : Int32) &&& 31).toUInt32).toInt32) &&& (3 : Int32)))), .val (.int (f2 (f1 p1 (p3 &&& (3 : Int32))) (f1 p2 (((p3.toUInt32 >>> ((2 : Int32) &&& 31).toUInt32).toInt32) &&& (3 : Int32))))), .val (.int (f0_u2 p1 p2 p3)), .val (.int ((f0_u3 p1 p3) + (f0_u4 p1 p2 p3))), .val (.int (1 : Int32))]) rfl ?_
            show Steps p.tables e below (T31.setTop (mkF m 117 #[.val (.int p1), .val (.int p2), .val (.int p3), .val (.int (f1 p1 (p3 &&& (3 : Int32)))), .val (.int (f1 p2 (((p3.toUInt32 >>> ((2 : Int32) &&& 31).toUInt32).toInt32) &&& (3 : Int32)))), .val (.int (f2 (f1 p1 (p3 &&& (3 : Int32))) (f1 p2 (((p3.toUInt32 >>> ((2 : Int32) &&& 31).toUInt32).toInt32) &&& (3 : Int32))))), .val (.int (f0_u2 p1 p2 p3)), .val (.int ((f0_u3 p1 p3) + (f0_u4 p1 p2 p3))), .val (.int (1 : Int32))] [])) t
            refine XS.goto X31.here hx rfl (pc0 := 117) (pc' := 148) rfl (Jvm.hb hby at_117) (by decide) (by decide) ?_
            show Steps p.tables e below (T31.setTop (mkF m 148 #[.val (.int p1), .val (.int p2), .val (.int p3), .val (.int (f1 p1 (p3 &&& (3 : Int32)))), .val (.int (f1 p2 (((p3.toUInt32 >>> ((2 : Int32) &&& 31).toUInt32).toInt32) &&& (3 : Int32)))), .val (.int (f2 (f1 p1 (p3 &&& (3 : Int32))) (f1 p2 (((p3.toUInt32 >>> ((2 : Int32) &&& 31).toUInt32).toInt32) &&& (3 : Int32))))), .val (.int (f0_u2 p1 p2 p3)), .val (.int ((f0_u3 p1 p3) + (f0_u4 p1 p2 p3))), .val (.int (1 : Int32))] [])) t
            exact k
          refine ⟨T31, _, X31, e31, N31, fun t k => ?_⟩
          rw [show (f0_u7 p1 p2 p3) = (1 : Int32) from (if_pos hc45).trans (if_pos hc48)] at k
          exact K46 _ (K47 _ (K49 _ (K50 _ (k))))
        · have K51 : ∀ t, Steps p.tables e below (T31.setTop (mkF m 120 #[.val (.int p1), .val (.int p2), .val (.int p3), .val (.int (f1 p1 (p3 &&& (3 : Int32)))), .val (.int (f1 p2 (((p3.toUInt32 >>> ((2 : Int32) &&& 31).toUInt32).toInt32) &&& (3 : Int32)))), .val (.int (f2 (f1 p1 (p3 &&& (3 : Int32))) (f1 p2 (((p3.toUInt32 >>> ((2 : Int32) &&& 31).toUInt32).toInt32) &&& (3 : Int32))))), .val (.int (f0_u2 p1 p2 p3)), .val (.int ((f0_u3 p1 p3) + (f0_u4 p1 p2 p3))), .unset] [])) t → Steps p.tables e below (T31.setTop (mkF m 111 #[.val (.int p1), .val (.int p2), .val (.int p3), .val (.int (f1 p1 (p3 &&& (3 : Int32)))), .val (.int (f1 p2 (((p3.toUInt32 >>> ((2 : Int32) &&& 31).toUInt32).toInt32) &&& (3 : Int32)))), .val (.int (f2 (f1 p1 (p3 &&& (3 : Int32))) (f1 p2 (((p3.toUInt32 >>> ((2 : Int32) &&& 31).toUInt32).toInt32) &&& (3 : Int32))))), .val (.int (f0_u2 p1 p2 p3)), .val (.int ((f0_u3 p1 p3) + (f0_u4 p1 p2 p3))), .unset] [(.int (10 : Int32)), (.int (f1 p2 (((p3.toUInt32 >>> ((2 : Int32) &&& 31).toUInt32).toInt32) &&& (3 : Int32))))])) t := by
            intro t k
            refine XS.icmpYes X31.here hx rfl (pc0 := 111) (pc' := 120) rfl (Jvm.hb hby at_111) rfl (feq hc48).2 (by decide) (by decide) ?_
            exact k
          have K52 : ∀ t, Steps p.tables e below (T31.setTop (mkF m 121 #[.val (.int p1), .val (.int p2), .val (.int p3), .val (.int (f1 p1 (p3 &&& (3 : Int32)))), .val (.int (f1 p2 (((p3.toUInt32 >>> ((2 : Int32) &&& 31).toUInt32).toInt32) &&& (3 : Int32)))), .val (.int (f2 (f1 p1 (p3 &&& (3 : Int32))) (f1 p2 (((p3.toUInt32 >>> ((2 : Int32) &&& 31).toUInt32).toInt32) &&& (3 : Int32))))), .val (.int (f0_u2 p1 p2 p3)), .val (.int ((f0_u3 p1 p3) + (f0_u4 p1 p2 p3))), .unset] [(.int (f1 p1 (p3 &&& (3 : Int32))))])) t → Steps p.tables e below (T31.setTop (mkF m 120 #[.val (.int p1), .val (.int p2), .val (.int p3), .val (.int (f1 p1 (p3 &&& (3 : Int32)))), .val (.int (f1 p2 (((p3.toUInt32 >>> ((2 : Int32) &&& 31).toUInt32).toInt32) &&& (3 : Int32)))), .val (.int (f2 (f1 p1 (p3 &&& (3 : Int32))) (f1 p2 (((p3.toUInt32 >>> ((2 : Int32) &&& 31).toUInt32).toInt32) &&& (3 : Int32))))), .val (.int (f0_u2 p1 p2 p3)), .val (.int ((f0_u3 p1 p3) + (f0_u4 p1 p2 p3))), .unset] [])) t := by
            intro t k
            refine XS.iloadN X31.here hx rfl (Jvm.hb hby at_120) rfl ?_
            show Steps p.tables e below (T31.setTop (mkF m 121 #[.val (.int p1), .val (.int p2), .val (.int p3), .val (.int (f1 p1 (p3 &&& (3 : Int32)))), .val (.int (f1 p2 (((p3.toUInt32 >>> ((2 : Int32) &&& 31).toUInt32).toInt32) &&& (3 : Int32)))), .val (.int (f2 (f1 p1 (p3 &&& (3 : Int32))) (f1 p2 (((p3.toUInt32 >>> ((2 : Int32) &&& 31).toUInt32).toInt32) &&& (3 : Int32))))), .val (.int (f0_u2 p1 p2 p3)), .val (.int ((f0_u3 p1 p3) + (f0_u4 p1 p2 p3))), .unset] [(.int (f1 p1 (p3 &&& (3 : Int32))))])) t
            exact k
          obtain ⟨_, _, ⟨T53, L53, k53, n53⟩, -, X53, ⟨Lc53, hQ53, l53, y53, z53⟩, st53⟩ := Jvm.LawKit.callS X31 hx (y := (⟨x.cls, "isBreak", "(C)Z"⟩ : MethodName)) hown (mvT hZ (hw _ (List.mem_of_getElem? (i := 9) rfl))) (mvT hZ (hw _ (List.mem_of_getElem? (i := 10) rfl))) (mvT hZ (hw _ (List.mem_of_getElem? (i := 2) rfl))) (mvT hZ (hw _ (List.mem_of_getElem? (i := 11) rfl))) (by decide) (backOf (W := 0) (rm3 l Z a0 hw [] (f1 p1 (p3 &&& (3 : Int32))) h0 n0 Z0 ) hZ (hw _ (List.mem_of_getElem? (i := 11) rfl)) (hw _ (List.mem_of_getElem? (i := 2) rfl)) (by decide) (by decide)) (g := (mkF m 121 #[.val (.int p1), .val (.int p2), .val (.int p3), .val (.int (f1 p1 (p3 &&& (3 : Int32)))), .val (.int (f1 p2 (((p3.toUInt32 >>> ((2 : Int32) &&& 31).toUInt32).toInt32) &&& (3 : Int32)))), .val (.int (f2 (f1 p1 (p3 &&& (3 : Int32))) (f1 p2 (((p3.toUInt32 >>> ((2 : Int32) &&& 31).toUInt32).toInt32) &&& (3 : Int32))))), .val (.int (f0_u2 p1 p2 p3)), .val (.int ((f0_u3 p1 p3) + (f0_u4 p1 p2 p3))), .unset] [(.int (f1 p1 (p3 &&& (3 : Int32))))])) rfl (by rw [hml]; rfl) (argsL := [(.int (f1 p1 (p3 &&& (3 : Int32))))]) (rest := []) (lenOf pd_2 rfl) rfl (by show 2 * 0 + _ ≤ _; exact Nat.le_of_eq rfl) (Jvm.hb hby at_121) (fun _ _ => ⟨rfl, e31, (by decide : 0 + 0 ≤ _), (by decide : 0 + 0 ≤ _)⟩)
          dsimp only [Pt.U, Pt.locs, Pt.cells, Pt.slots] at X53 l53 y53 z53 st53 hQ53
          subst l53 y53 z53
          obtain ⟨rfl, N53q, e53⟩ := hQ53
          have N53 := Fr.app N31 N53q
          have K54 : ∀ t, Steps p.tables e below (T53.setTop (mkF m 124 #[.val (.int p1), .val (.int p2), .val (.int p3), .val (.int (f1 p1 (p3 &&& (3 : Int32)))), .val (.int (f1 p2 (((p3.toUInt32 >>> ((2 : Int32) &&& 31).toUInt32).toInt32) &&& (3 : Int32)))), .val (.int (f2 (f1 p1 (p3 &&& (3 : Int32))) (f1 p2 (((p3.toUInt32 >>> ((2 : Int32) &&& 31).toUInt32).toInt32) &&& (3 : Int32))))), .val (.int (f0_u2 p1 p2 p3)), .val (.int ((f0_u3 p1 p3) + (f0_u4 p1 p2 p3))), .unset] [(.int (f3 (f1 p1 (p3 &&& (3 : Int32)))))])) t → Steps p.tables e below (T31.setTop (mkF m 121 #[.val (.int p1), .val (.int p2), .val (.int p3), .val (.int (f1 p1 (p3 &&& (3 : Int32)))), .val (.int (f1 p2 (((p3.toUInt32 >>> ((2 : Int32) &&& 31).toUInt32).toInt32) &&& (3 : Int32)))), .val (.int (f2 (f1 p1 (p3 &&& (3 : Int32))) (f1 p2 (((p3.toUInt32 >>> ((2 : Int32) &&& 31).toUInt32).toInt32) &&& (3 : Int32))))), .val (.int (f0_u2 p1 p2 p3)), .val (.int ((f0_u3 p1 p3) + (f0_u4 p1 p2 p3))), .unset] [(.int (f1 p1 (p3 &&& (3 : Int32))))])) t := fun t k => st53 _ k
          have K55 : ∀ t, Steps p.tables e below (T53.setTop (mkF m 132 #[.val (.int p1), .val (.int p2), .val (.int p3), .val (.int (f1 p1 (p3 &&& (3 : Int32)))), .val (.int (f1 p2 (((p3.toUInt32 >>> ((2 : Int32) &&& 31).toUInt32).toInt32) &&& (3 : Int32)))), .val (.int (f2 (f1 p1 (p3 &&& (3 : Int32))) (f1 p2 (((p3.toUInt32 >>> ((2 : Int32) &&& 31).toUInt32).toInt32) &&& (3 : Int32))))), .val (.int (f0_u2 p1 p2 p3)), .val (.int ((f0_u3 p1 p3) + (f0_u4 p1 p2 p3))), .unset] [(.int (f0_u5 p1 p3))])) t → Steps p.tables e below (T53.setTop (mkF m 124 #[.val (.int p1), .val (.int p2), .val (.int p3), .val (.int (f1 p1 (p3 &&& (3 : Int32)))), .val (.int (f1 p2 (((p3.toUInt32 >>> ((2 : Int32) &&& 31).toUInt32).toInt32) &&& (3 : Int32)))), .val (.int (f2 (f1 p1 (p3 &&& (3 : Int32))) (f1 p2 (((p3.toUInt32 >>> ((2 : Int32) &&& 31).toUInt32).toInt32) &&& (3 : Int32))))), .val (.int (f0_u2 p1 p2 p3)), .val (.int ((f0_u3 p1 p3) + (f0_u4 p1 p2 p3))), .unset] [(.int (f3 (f1 p1 (p3 &&& (3 : Int32)))))])) t := by
            intro t k
            by_cases hc55 : (f3 (f1 p1 (p3 &&& (3 : Int32)))) = (0 : Int32)
            · have K56 : ∀ t, Steps p.tables e below (T53.setTop (mkF m 131 #[.val (.int p1), .val (.int p2), .val (.int p3), .val (.int (f1 p1 (p3 &&& (3 : Int32)))), .val (.int (f1 p2 (((p3.toUInt32 >>> ((2 : Int32) &&& 31).toUInt32).toInt32) &&& (3 : Int32)))), .val (.int (f2 (f1 p1 (p3 &&& (3 : Int32))) (f1 p2 (((p3.toUInt32 >>> ((2 : Int32) &&& 31).toUInt32).toInt32) &&& (3 : Int32))))), .val (.int (f0_u2 p1 p2 p3)), .val (.int ((f0_u3 p1 p3) + (f0_u4 p1 p2 p3))), .unset] [])) t → Steps p.tables e below (T53.setTop (mkF m 124 #[.val (.int p1), .val (.int p2), .val (.int p3), .val (.int (f1 p1 (p3 &&& (3 : Int32)))), .val (.int (f1 p2 (((p3.toUInt32 >>> ((2 : Int32) &&& 31).toUInt32).toInt32) &&& (3 : Int32)))), .val (.int (f2 (f1 p1 (p3 &&& (3 : Int32))) (f1 p2 (((p3.toUInt32 >>> ((2 : Int32) &&& 31).toUInt32).toInt32) &&& (3 : Int32))))), .val (.int (f0_u2 p1 p2 p3)), .val (.int ((f0_u3 p1 p3) + (f0_u4 p1 p2 p3))), .unset] [(.int (f3 (f1 p1 (p3 &&& (3 : Int32)))))])) t := by
                intro t k
                refine XS.ifYes X53.here hx rfl (pc0 := 124) (pc' := 131) rfl (Jvm.hb hby at_124) rfl ((if0 _ _).trans (teq hc55).1) (by decide) (by decide) ?_
                exact k
              have K57 : ∀ t, Steps p.tables e below (T53.setTop (mkF m 132 #[.val (.int p1), .val (.int p2), .val (.int p3), .val (.int (f1 p1 (p3 &&& (3 : Int32)))), .val (.int (f1 p2 (((p3.toUInt32 >>> ((2 : Int32) &&& 31).toUInt32).toInt32) &&& (3 : Int32)))), .val (.int (f2 (f1 p1 (p3 &&& (3 : Int32))) (f1 p2 (((p3.toUInt32 >>> ((2 : Int32) &&& 31).toUInt32).toInt32) &&& (3 : Int32))))), .val (.int (f0_u2 p1 p2 p3)), .val (.int ((f0_u3 p1 p3) + (f0_u4 p1 p2 p3))), .unset] [(.int (0 : Int32))])) t → Steps p.tables e below (T53.setTop (mkF m 131 #[.val (.int p1), .val (.int p2), .val (.int p3), .val (.int (f1 p1 (p3 &&& (3 : Int32)))), .val (.int (f1 p2 (((p3.toUInt32 >>> ((2 : Int32) &&& 31).toUInt32).toInt32) &&& (3 : Int32)))), .val (.int (f2 (f1 p1 (p3 &&& (3 : Int32))) (f1 p2 (((p3.toUInt32 >>> ((2 : Int32) &&& 31).toUInt32).toInt32) &&& (3 : Int32))))), .val (.int (f0_u2 p1 p2 p3)), .val (.int ((f0_u3 p1 p3) + (f0_u4 p1 p2 p3))), .unset] [])) t := by
                intro t k
                refine XS.iconst X53.here hx rfl (Jvm.hb hby at_131) ?_
                show Steps p.tables e below (T53.setTop (mkF m 132 #[.val (.int p1), .val (.int p2), .val (.int p3), .val (.int (f1 p1 (p3 &&& (3 : Int32)))), .val (.int (f1 p2 (((p3.toUInt32 >>> ((2 : Int32) &&& 31).toUInt32).toInt32) &&& (3 : Int32)))), .val (.int (f2 (f1 p1 (p3 &&& (3 : Int32))) (f1 p2 (((p3.toUInt32 >>> ((2 : Int32) &&& 31).toUInt32).toInt32) &&& (3 : Int32))))), .val (.int (f0_u2 p1 p2 p3)), .val (.int ((f0_u3 p1 p3) + (f0_u4 p1 p2 p3))), .unset] [(.int (0 : Int32))])) t
                exact k
              rw [show (f0_u5 p1 p3) = (0 : Int32) from if_pos hc55] at k
              exact K56 _ (K57 _ (k))
            · have K58 : ∀ t, Steps p.tables e below (T53.setTop (mkF m 127 #[.val (.int p1), .val (.int p2), .val (.int p3), .val (.int (f1 p1 (p3 &&& (3 : Int32)))), .val (.int (f1 p2 (((p3.toUInt32 >>> ((2 : Int32) &&& 31).toUInt32).toInt32) &&& (3 : Int32)))), .val (.int (f2 (f1 p1 (p3 &&& (3 : Int32))) (f1 p2 (((p3.toUInt32 >>> ((2 : Int32) &&& 31).toUInt32).toInt32) &&& (3 : Int32))))), .val (.int (f0_u2 p1 p2 p3)), .val (.int ((f0_u3 p1 p3) + (f0_u4 p1 p2 p3))), .unset] [])) t → Steps p.tables e below (T53.setTop (mkF m 124 #[.val (.int p1), .val (.int p2), .val (.int p3), .val (.int (f1 p1 (p3 &&& (3 : Int32)))), .val (.int (f1 p2 (((p3.toUInt32 >>> ((2 : Int32) &&& 31).toUInt32).toInt32) &&& (3 : Int32)))), .val (.int (f2 (f1 p1 (p3 &&& (3 : Int32))) (f1 p2 (((p3.toUInt32 >>> ((2 : Int32) &&& 31).toUInt32).toInt32) &&& (3 : Int32))))), .val (.int (f0_u2 p1 p2 p3)), .val (.int ((f0_u3 p1 p3) + (f0_u4 p1 p2 p3))), .unset] [(.int (f3 (f1 p1 (p3 &&& (3 : Int32)))))])) t := by
                intro t k
                refine XS.ifNo X53.here hx rfl (Jvm.hb hby at_124) rfl ((if0 _ _).trans (feq hc55).1) ?_
                exact k
              have K59 : ∀ t, Steps p.tables e below (T53.setTop (mkF m 132 #[.val (.int p1), .val (.int p2), .val (.int p3), .val (.int (f1 p1 (p3 &&& (3 : Int32)))), .val (.int (f1 p2 (((p3.toUInt32 >>> ((2 : Int32) &&& 31).toUInt32).toInt32) &&& (3 : Int32)))), .val (.int (f2 (f1 p1 (p3 &&& (3 : Int32))) (f1 p2 (((p3.toUInt32 >>> ((2 : Int32) &&& 31).toUInt32).toInt32) &&& (3 : Int32))))), .val (.int (f0_u2 p1 p2 p3)), .val (.int ((f0_u3 p1 p3) + (f0_u4 p1 p2 p3))), .unset] [(.int (1 : Int32))])) t → Steps p.tables e below (T53.setTop (mkF m 127 #[.val (.int p1), .val (.int p2), .val (.int p3), .val (.int (f1 p1 (p3 &&& (3 : Int32)))), .val (.int (f1 p2 (((p3.toUInt32 >>> ((2 : Int32) &&& 31).toUInt32).toInt32) &&& (3 : Int32)))), .val (.int (f2 (f1 p1 (p3 &&& (3 : Int32))) (f1 p2 (((p3.toUInt32 >>> ((2 : Int32) &&& 31).toUInt32).toInt32) &&& (3 : Int32))))), .val (.int (f0_u2 p1 p2 p3)), .val (.int ((f0_u3 p1 p3) + (f0_u4 p1 p2 p3))), .unset] [])) t := by
                intro t k
                refine XS.iconst X53.here hx rfl (Jvm.hb hby at_127) ?_
                show Steps p.tables e below (T53.setTop (mkF m 128 #[.val (.int p1), .val (.int p2), .val (.int p3), .val (.int (f1 p1 (p3 &&& (3 : Int32)))), .val (.int (f1 p2 (((p3.toUInt32 >>> ((2 : Int32) &&& 31).toUInt32).toInt32) &&& (3 : Int32)))), .val (.int (f2 (f1 p1 (p3 &&& (3 : Int32))) (f1 p2 (((p3.toUInt32 >>> ((2 : Int32) &&& 31).toUInt32).toInt32) &&& (3 : Int32))))), .val (.int (f0_u2 p1 p2 p3)), .val (.int ((f0_u3 p1 p3) + (f0_u4 p1 p2 p3))), .unset] [(.int (1 : Int32))])) t
                refine XS.goto X53.here hx rfl (pc0 := 128) (pc' := 132) rfl (Jvm.hb hby at_128) (by decide) (by decide) ?_
                show Steps p.tables e below (T53.setTop (mkF m 132 #[.val (.int p1), .val (.int p2), .val (.int p3), .val (.int (f1 p1 (p3 &&& (3 : Int32)))), .val (.int (f1 p2 (((p3.toUInt32 >>> ((2 : Int32) &&& 31).toUInt32).toInt32) &&& (3 : Int32)))), .val (.int (f2 (f1 p1 (p3 &&& (3 : Int32))) (f1 p2 (((p3.toUInt32 >>> ((2 : Int32) &&& 31).toUInt32).toInt32) &&& (3 : Int32))))), .val (.int (f0_u2 p1 p2 p3)), .val (.int ((f0_u3 p1 p3) + (f0_u4 p1 p2 p3))), .unset] [(.int (1 : Int32))])) t
                exact k
              rw [show (f0_u5 p1 p3) = (1 : Int32) from if_neg hc55] at k
              exact K58 _ (K59 _ (k))
          have K60 : ∀ t, Steps p.tables e below (T53.setTop (mkF m 134 #[.val (.int p1), .val (.int p2), .val (.int p3), .val (.int (f1 p1 (p3 &&& (3 : Int32)))), .val (.int (f1 p2 (((p3.toUInt32 >>> ((2 : Int32) &&& 31).toUInt32).toInt32) &&& (3 : Int32)))), .val (.int (f2 (f1 p1 (p3 &&& (3 : Int32))) (f1 p2 (((p3.toUInt32 >>> ((2 : Int32) &&& 31).toUInt32).toInt32) &&& (3 : Int32))))), .val (.int (f0_u2 p1 p2 p3)), .val (.int ((f0_u3 p1 p3) + (f0_u4 p1 p2 p3))), .unset] [(.int (f1 p2 (((p3.toUInt32 >>> ((2 : Int32) &&& 31).toUInt32).toInt32) &&& (3 : Int32)))), (.int (f0_u5 p1 p3))])) t → Steps p.tables e below (T53.setTop (mkF m 132 #[.val (.int p1), .val (.int p2), .val (.int p3), .val (.int (f1 p1 (p3 &&& (3 : Int32)))), .val (.int (f1 p2 (((p3.toUInt32 >>> ((2 : Int32) &&& 31).toUInt32).toInt32) &&& (3 : Int32)))), .val (.int (f2 (f1 p1 (p3 &&& (3 : Int32))) (f1 p2 (((p3.toUInt32 >>> ((2 : Int32) &&& 31).toUInt32).toInt32) &&& (3 : Int32))))), .val (.int (f0_u2 p1 p2 p3)), .val (.int ((f0_u3 p1 p3) + (f0_u4 p1 p2 p3))), .unset] [(.int (f0_u5 p1 p3))])) t := by
            intro t k
            refine XS.iload X53.here hx rfl (Jvm.hb hby at_132) rfl ?_
            show Steps p.tables e below (T53.setTop (mkF m 134 #[.val (.int p1), .val (.int p2), .val (.int p3), .val (.int (f1 p1 (p3 &&& (3 : Int32)))), .val (.int (f1 p2 (((p3.toUInt32 >>> ((2 : Int32) &&& 31).toUInt32).toInt32) &&& (3 : Int32)))), .val (.int (f2 (f1 p1 (p3 &&& (3 : Int32))) (f1 p2 (((p3.toUInt32 >>> ((2 : Int32) &&& 31).toUInt32).toInt32) &&& (3 : Int32))))), .val (.int (f0_u2 p1 p2 p3)), .val (.int ((f0_u3 p1 p3) + (f0_u4 p1 p2 p3))), .unset] [(.int (f1 p2 (((p3.toUInt32 >>> ((2 : Int32) &&& 31).toUInt32).toInt32) &&& (3 : Int32)))), (.int (f0_u5 p1 p3))])) t
            exact k
          obtain ⟨_, _, ⟨T61, L61, k61, n61⟩, -, X61, ⟨Lc61, hQ61, l61, y61, z61⟩, st61⟩ := Jvm.LawKit.callS X53 hx (y := (⟨x.cls, "isBreak", "(C)Z"⟩ : MethodName)) hown (mvT hZ (hw _ (List.mem_of_getElem? (i := 9) rfl))) (mvT hZ (hw _ (List.mem_of_getElem? (i := 10) rfl))) (mvT hZ (hw _ (List.mem_of_getElem? (i := 2) rfl))) (mvT hZ (hw _ (List.mem_of_getElem? (i := 11) rfl))) (by decide) (backOf (W := 1) (rm3 l Z a0 hw [] (f1 p2 (((p3.toUInt32 >>> ((2 : Int32) &&& 31).toUInt32).toInt32) &&& (3 : Int32))) h0 n0 Z0 ) hZ (hw _ (List.mem_of_getElem? (i := 11) rfl)) (hw _ (List.mem_of_getElem? (i := 2) rfl)) (by decide) (by decide)) (g := (mkF m 134 #[.val (.int p1), .val (.int p2), .val (.int p3), .val (.int (f1 p1 (p3 &&& (3 : Int32)))), .val (.int (f1 p2 (((p3.toUInt32 >>> ((2 : Int32) &&& 31).toUInt32).toInt32) &&& (3 : Int32)))), .val (.int (f2 (f1 p1 (p3 &&& (3 : Int32))) (f1 p2 (((p3.toUInt32 >>> ((2 : Int32) &&& 31).toUInt32).toInt32) &&& (3 : Int32))))), .val (.int (f0_u2 p1 p2 p3)), .val (.int ((f0_u3 p1 p3) + (f0_u4 p1 p2 p3))), .unset] [(.int (f1 p2 (((p3.toUInt32 >>> ((2 : Int32) &&& 31).toUInt32).toInt32) &&& (3 : Int32)))), (.int (f0_u5 p1 p3))])) rfl (by rw [hml]; rfl) (argsL := [(.int (f1 p2 (((p3.toUInt32 >>> ((2 : Int32) &&& 31).toUInt32).toInt32) &&& (3 : Int32))))]) (rest := [(.int (f0_u5 p1 p3))]) (lenOf pd_2 rfl) rfl (by show 2 * 0 + _ ≤ _; exact Nat.le_of_eq rfl) (Jvm.hb hby at_134) (fun _ _ => ⟨rfl, e53, (by decide : 0 + 0 ≤ _), (by decide : 0 + 0 ≤ _)⟩)
          dsimp only [Pt.U, Pt.locs, Pt.cells, Pt.slots] at X61 l61 y61 z61 st61 hQ61
          subst l61 y61 z61
          obtain ⟨rfl, N61q, e61⟩ := hQ61
          have N61 := Fr.app N53 N61q
          have K62 : ∀ t, Steps p.tables e below (T61.setTop (mkF m 137 #[.val (.int p1), .val (.int p2), .val (.int p3), .val (.int (f1 p1 (p3 &&& (3 : Int32)))), .val (.int (f1 p2 (((p3.toUInt32 >>> ((2 : Int32) &&& 31).toUInt32).toInt32) &&& (3 : Int32)))), .val (.int (f2 (f1 p1 (p3 &&& (3 : Int32))) (f1 p2 (((p3.toUInt32 >>> ((2 : Int32) &&& 31).toUInt32).toInt32) &&& (3 : Int32))))), .val (.int (f0_u2 p1 p2 p3)), .val (.int ((f0_u3 p1 p3) + (f0_u4 p1 p2 p3))), .unset] [(.int (f3 (f1 p2 (((p3.toUInt32 >>> ((2 : Int32) &&& 31).toUInt32).toInt32) &&& (3 : Int32))))), (.int (f0_u5 p1 p3))])) t → Steps p.tables e below (T53.setTop (mkF m 134 #[.val (.int p1), .val (.int p2), .val (.int p3), .val (.int (f1 p1 (p3 &&& (3 : Int32)))), .val (.int (f1 p2 (((p3.toUInt32 >>> ((2 : Int32) &&& 31).toUInt32).toInt32) &&& (3 : Int32)))), .val (.int (f2 (f1 p1 (p3 &&& (3 : Int32))) (f1 p2 (((p3.toUInt32 >>> ((2 : Int32) &&& 31).toUInt32).toInt32) &&& (3 : Int32))))), .val (.int (f0_u2 p1 p2 p3)), .val (.int ((f0_u3 p1 p3) + (f0_u4 p1 p2 p3))), .unset] [(.int (f1 p2 (((p3.toUInt32 >>> ((2 : Int32) &&& 31).toUInt32).toInt32) &&& (3 : Int32)))), (.int (f0_u5 p1 p3))])) t := fun t k => st61 _ k
          have K63 : ∀ t, Steps p.tables e below (T61.setTop (mkF m 145 #[.val (.int p1), .val (.int p2), .val (.int p3), .val (.int (f1 p1 (p3 &&& (3 : Int32)))), .val (.int (f1 p2 (((p3.toUInt32 >>> ((2 : Int32) &&& 31).toUInt32).toInt32) &&& (3 : Int32)))), .val (.int (f2 (f1 p1 (p3 &&& (3 : Int32))) (f1 p2 (((p3.toUInt32 >>> ((2 : Int32) &&& 31).toUInt32).toInt32) &&& (3 : Int32))))), .val (.int (f0_u2 p1 p2 p3)), .val (.int ((f0_u3 p1 p3) + (f0_u4 p1 p2 p3))), .unset] [(.int (f0_u6 p2 p3)), (.int (f0_u5 p1 p3))])) t → Steps p.tables e below (T61.setTop (mkF m 137 #[.val (.int p1), .val (.int p2), .val (.int p3), .val (.int (f1 p1 (p3 &&& (3 : Int32)))), .val (.int (f1 p2 (((p3.toUInt32 >>> ((2 : Int32) &&& 31).toUInt32).toInt32) &&& (3 : Int32)))), .val (.int (f2 (f1 p1 (p3 &&& (3 : Int32))) (f1 p2 (((p3.toUInt32 >>> ((2 : Int32) &&& 31).toUInt32).toInt32) &&& (3 : Int32))))), .val (.int (f0_u2 p1 p2 p3)), .val (.int ((f0_u3 p1 p3) + (f0_u4 p1 p2 p3))), .unset] [(.int (f3 (f1 p2 (((p3.toUInt32 >>> ((2 : Int32) &&& 31).toUInt32).toInt32) &&& (3 : Int32))))), (.int (f0_u5 p1 p3))])) t := by
            intro t k
            by_cases hc63 : (f3 (f1 p2 (((p3.toUInt32 >>> ((2 : Int32) &&& 31).toUInt32).toInt32) &&& (3 : Int32)))) = (0 : Int32)
            · have K64 : ∀ t, Steps p.tables e below (T61.setTop (mkF m 144 #[.val (.int p1), .val (.int p2), .val (.int p3), .val (.int (f1 p1 (p3 &&& (3 : Int32)))), .val (.int (f1 p2 (((p3.toUInt32 >>> ((2 : Int32) &&& 31).toUInt32).toInt32) &&& (3 : Int32)))), .val (.int (f2 (f1 p1 (p3 &&& (3 : Int32))) (f1 p2 (((p3.toUInt32 >>> ((2 : Int32) &&& 31).toUInt32).toInt32) &&& (3 : Int32))))), .val (.int (f0_u2 p1 p2 p3)), .val (.int ((f0_u3 p1 p3) + (f0_u4 p1 p2 p3))), .unset] [(.int (f0_u5 p1 p3))])) t → Steps p.tables e below (T61.setTop (mkF m 137 #[.val (.int p1), .val (.int p2), .val (.int p3), .val (.int (f1 p1 (p3 &&& (3 : Int32)))), .val (.int (f1 p2 (((p3.toUInt32 >>> ((2 : Int32) &&& 31).toUInt32).toInt32) &&& (3 : Int32)))), .val (.int (f2 (f1 p1 (p3 &&& (3 : Int32))) (f1 p2 (((p3.toUInt32 >>> ((2 : Int32) &&& 31).toUInt32).toInt32) &&& (3 : Int32))))), .val (.int (f0_u2 p1 p2 p3)), .val (.int ((f0_u3 p1 p3) + (f0_u4 p1 p2 p3))), .unset] [(.int (f3 (f1 p2 (((p3.toUInt32 >>> ((2 : Int32) &&& 31).toUInt32).toInt32) &&& (3 : Int32))))), (.int (f0_u5 p1 p3))])) t := by
                intro t k
                refine XS.ifYes X61.here hx rfl (pc0 := 137) (pc' := 144) rfl (Jvm.hb hby at_137) rfl ((if0 _ _).trans (teq hc63).1) (by decide) (by decide) ?_
                exact k
              have K65 : ∀ t, Steps p.tables e below (T61.setTop (mkF m 145 #[.val (.int p1), .val (.int p2), .val (.int p3), .val (.int (f1 p1 (p3 &&& (3 : Int32)))), .val (.int (f1 p2 (((p3.toUInt32 >>> ((2 : Int32) &&& 31).toUInt32).toInt32) &&& (3 : Int32)))), .val (.int (f2 (f1 p1 (p3 &&& (3 : Int32))) (f1 p2 (((p3.toUInt32 >>> ((2 : Int32) &&& 31).toUInt32).toInt32) &&& (3 : Int32))))), .val (.int (f0_u2 p1 p2 p3)), .val (.int ((f0_u3 p1 p3) + (f0_u4 p1 p2 p3))), .unset] [(.int (0 : Int32)), (.int (f0_u5 p1 p3))])) t → Steps p.tables e below (T61.setTop (mkF m 144 #[.val (.int p1), .val (.int p2), .val (.int p3), .val (.int (f1 p1 (p3 &&& (3 : Int32)))), .val (.int (f1 p2 (((p3.toUInt32 >>> ((2 : Int32) &&& 31).toUInt32).toInt32) &&& (3 : Int32)))), .val (.int (f2 (f1 p1 (p3 &&& (3 : Int32))) (f1 p2 (((p3.toUInt32 >>> ((2 : Int32) &&& 31).toUInt32).toInt32) &&& (3 : Int32))))), .val (.int (f0_u2 p1 p2 p3)), .val (.int ((f0_u3 p1 p3) + (f0_u4 p1 p2 p3))), .unset] [(.int (f0_u5 p1 p3))])) t := by
                intro t k
                refine XS.iconst X61.here hx rfl (Jvm.hb hby at_144) ?_
                show Steps p.tables e below (T61.setTop (mkF m 145 #[.val (.int p1), .val (.int p2), .val (.int p3), .val (.int (f1 p1 (p3 &&& (3 : Int32)))), .val (.int (f1 p2 (((p3.toUInt32 >>> ((2 : Int32) &&& 31).toUInt32).toInt32) &&& (3 : Int32)))), .val (.int (f2 (f1 p1 (p3 &&& (3 : Int32))) (f1 p2 (((p3.toUInt32 >>> ((2 : Int32) &&& 31).toUInt32).toInt32) &&& (3 : Int32))))), .val (.int (f0_u2 p1 p2 p3)), .val (.int ((f0_u3 p1 p3) + (f0_u4 p1 p2 p3))), .unset] [(.int (0 : Int32)), (.int (f0_u5 p1 p3))])) t
                exact k
              rw [show (f0_u6 p2 p3) = (0 : Int32) from if_pos hc63] at k
              exact K64 _ (K65 _ (k))
            · have K66 : ∀ t, Steps p.tables e below (T61.setTop (mkF m 140 #[.val (.int p1), .val (.int p2), .val (.int p3), .val (.int (f1 p1 (p3 &&& (3 : Int32)))), .val (.int (f1 p2 (((p3.toUInt32 >>> ((2 : Int32) &&& 31).toUInt32).toInt32) &&& (3 : Int32)))), .val (.int (f2 (f1 p1 (p3 &&& (3 : Int32))) (f1 p2 (((p3.toUInt32 >>> ((2 : Int32) &&& 31).toUInt32).toInt32) &&& (3 : Int32))))), .val (.int (f0_u2 p1 p2 p3)), .val (.int ((f0_u3 p1 p3) + (f0_u4 p1 p2 p3))), .unset] [(.int (f0_u5 p1 p3))])) t → Steps p.tables e below (T61.setTop (mkF m 137 #[.val (.int p1), .val (.int p2), .val (.int p3), .val (.int (f1 p1 (p3 &&& (3 : Int32)))), .val (.int (f1 p2 (((p3.toUInt32 >>> ((2 : Int32) &&& 31).toUInt32).toInt32) &&& (3 : Int32)))), .val (.int (f2 (f1 p1 (p3 &&& (3 : Int32))) (f1 p2 (((p3.toUInt32 >>> ((2 : Int32) &&& 31).toUInt32).toInt32) &&& (3 : Int32))))), .val (.int (f0_u2 p1 p2 p3)), .val (.int ((f0_u3 p1 p3) + (f0_u4 p1 p2 p3))), .unset] [(.int (f3 (f1 p2 (((p3.toUInt32 >>> ((2 : Int32) &&& 31).toUInt32).toInt32) &&& (3 : Int32))))), (.int (f0_u5 p1 p3))])) t := by
                intro t k
                refine XS.ifNo X61.here hx rfl (Jvm.hb hby at_137) rfl ((if0 _ _).trans (feq hc63).1) ?_
                exact k
              have K67 : ∀ t, Steps p.tables e below (T61.setTop (mkF m 145 #[.val (.int p1), .val (.int p2), .val (.int p3), .val (.int (f1 p1 (p3 &&& (3 : Int32)))), .val (.int (f1 p2 (((p3.toUInt32 >>> ((2 : Int32) &&& 31).toUInt32).toInt32) &&& (3 : Int32)))), .val (.int (f2 (f1 p1 (p3 &&& (3 : Int32))) (f1 p2 (((p3.toUInt32 >>> ((2 : Int32) &&& 31).toUInt32).toInt32) &&& (3 : Int32))))), .val (.int (f0_u2 p1 p2 p3)), .val (.int ((f0_u3 p1 p3) + (f0_u4 p1 p2 p3))), .unset] [(.int (1 : Int32)), (.int (f0_u5 p1 p3))])) t → Steps p.tables e below (T61.setTop (mkF m 140 #[.val (.int p1), .val (.int p2), .val (.int p3), .val (.int (f1 p1 (p3 &&& (3 : Int32)))), .val (.int (f1 p2 (((p3.toUInt32 >>> ((2 : Int32) &&& 31).toUInt32).toInt32) &&& (3 : Int32)))), .val (.int (f2 (f1 p1 (p3 &&& (3 : Int32))) (f1 p2 (((p3.toUInt32 >>> ((2 : Int32) &&& 31).toUInt32).toInt32) &&& (3 : Int32))))), .val (.int (f0_u2 p1 p2 p3)), .val (.int ((f0_u3 p1 p3) + (f0_u4 p1 p2 p3))), .unset] [(.int (f0_u5 p1 p3))])) t := by
                intro t k
                refine XS.iconst X61.here hx rfl (Jvm.hb hby at_140) ?_
                show Steps p.tables e below (T61.setTop (mkF m 141 #[.val (.int p1), .val (.int p2), .val (.int p3), .val (.int (f1 p1 (p3 &&& (3 : Int32)))), .val (.int (f1 p2 (((p3.toUInt32 >>> ((2 : Int32) &&& 31).toUInt32).toInt32) &&& (3 : Int32)))), .val (.int (f2 (f1 p1 (p3 &&& (3 : Int32))) (f1 p2 (((p3.toUInt32 >>> ((2 : Int32) &&& 31).toUInt32).toInt32) &&& (3 : Int32))))), .val (.int (f0_u2 p1 p2 p3)), .val (.int ((f0_u3 p1 p3) + (f0_u4 p1 p2 p3))), .unset] [(.int (1 : Int32)), (.int (f0_u5 p1 p3))])) t
                refine XS.goto X61.here hx rfl (pc0 := 141) (pc' := 145) rfl (Jvm.hb hby at_141) (by decide) (by decide) ?_
                show Steps p.tables e below (T61.setTop (mkF m 145 #[.val (.int p1), .val (.int p2), .val (.int p3), .val (.int (f1 p1 (p3 &&& (3 : Int32)))), .val (.int (f1 p2 (((p3.toUInt32 >>> ((2 : Int32) &&& 31).toUInt32).toInt32) &&& (3 : Int32)))), .val (.int (f2 (f1 p1 (p3 &&& (3 : Int32))) (f1 p2 (((p3.toUInt32 >>> ((2 : Int32) &&& 31).toUInt32).toInt32) &&& (3 : Int32))))), .val (.int (f0_u2 p1 p2 p3)), .val (.int ((f0_u3 p1 p3) + (f0_u4 p1 p2 p3))), .unset] [(.int (1 : Int32)), (.int (f0_u5 p1 p3))])) t
                exact k
              rw [show (f0_u6 p2 p3) = (1 : Int32) from if_neg hc63] at k
              exact K66 _ (K67 _ (k))
          have K68 : ∀ t, Steps p.tables e below (T61.setTop (mkF m 148 #[.val (.int p1), .val (.int p2), .val (.int p3), .val (.int (f1 p1 (p3 &&& (3 : Int32)))), .val (.int (f1 p2 (((p3.toUInt32 >>> ((2 : Int32) &&& 31).toUInt32).toInt32) &&& (3 : Int32)))), .val (.int (f2 (f1 p1 (p3 &&& (3 : Int32))) (f1 p2 (((p3.toUInt32 >>> ((2 : Int32) &&& 31).toUInt32).toInt32) &&& (3 : Int32))))), .val (.int (f0_u2 p1 p2 p3)), .val (.int ((f0_u3 p1 p3) + (f0_u4 p1 p2 p3))), .val (.int ((f0_u5 p1 p3) + (f0_u6 p2 p3)))] [])) t → Steps p.tables e below (T61.setTop (mkF m 145 #[.val (.int p1), .val (.int p2), .val (.int p3), .val (.int (f1 p1 (p3 &&& (3 : Int32)))), .val (.int (f1 p2 (((p3.toUInt32 >>> ((2 : Int32) &&& 31).toUInt32).toInt32) &&& (3 : Int32)))), .val (.int (f2 (f1 p1 (p3 &&& (3 : Int32))) (f1 p2 (((p3.toUInt32 >>> ((2 : Int32) &&& 31).toUInt32).toInt32) &&& (3 : Int32))))), .val (.int (f0_u2 p1 p2 p3)), .val (.int ((f0_u3 p1 p3) + (f0_u4 p1 p2 p3))), .unset] [(.int (f0_u6 p2 p3)), (.int (f0_u5 p1 p3))])) t := by
            intro t k
            refine XS.iadd X61.here hx rfl (Jvm.hb hby at_145) rfl ?_
            show Steps p.tables e below (T61.setTop (mkF m 146 #[.val (.int p1), .val (.int p2), .val (.int p3), .val (.int (f1 p1 (p3 &&& (3 : Int32)))), .val (.int (f1 p2 (((p3.toUInt32 >>> ((2 : Int32) &&& 31).toUInt32).toInt32) &&& (3 : Int32)))), .val (.int (f2 (f1 p1 (p3 &&& (3 : Int32))) (f1 p2 (((p3.toUInt32 >>> ((2 : Int32) &&& 31).toUInt32).toInt32) &&& (3 : Int32))))), .val (.int (f0_u2 p1 p2 p3)), .val (.int ((f0_u3 p1 p3) + (f0_u4 p1 p2 p3))), .unset] [(.int ((f0_u5 p1 p3) + (f0_u6 p2 p3)))])) t
            refine XS.istore X61.here hx rfl (Jvm.hb hby at_146) rfl (l' := #[.val (.int p1), .val (.int p2), .val (.int p3), .val (.int (f1 p1 (p3 &&& (3 : Int32)))), .val (.int (f1 p2 (((p3.toUInt32 >>> ((2 : Int32) &&& 31).toUInt32).toInt32) &&& (3 : Int32)))), .val (.int (f2 (f1 p1 (p3 &&& (3 : Int32))) (f1 p2 (((p3.toUInt32 >>> ((2 : Int32) &&& 31).toUInt32).toInt32) &&& (3 : Int32))))), .val (.int (f0_u2 p1 p2 p3)), .val (.int ((f0_u3 p1 p3) + (f0_u4 p1 p2 p3))), .val (.int ((f0_u5 p1 p3) + (f0_u6 p2 p3)))]) rfl ?_
            show Steps p.tables e below (T61.setTop (mkF m 148 #[.val (.int p1), .val (.int p2), .val (.int p3), .val (.int (f1 p1 (p3 &&& (3 : Int32)))), .val (.int (f1 p2 (((p3.toUInt32 >>> ((2 : Int32) &&& 31).toUInt32).toInt32) &&& (3 : Int32)))), .val (.int (f2 (f1 p1 (p3 &&& (3 : Int32))) (f1 p2 (((p3.toUInt32 >>> ((2 : Int32) &&& 31).toUInt32).toInt32) &&& (3 : Int32))))), .val (.int (f0_u2 p1 p2 p3)), .val (.int ((f0_u3 p1 p3) + (f0_u4 p1 p2 p3))), .val (.int ((f0_u5 p1 p3) + (f0_u6 p2 p3)))] [])) t
            exact k
          refine ⟨T61, _, X61, e61, N61, fun t k => ?_⟩
          rw [show (f0_u7 p1 p2 p3) = ((f0_u5 p1 p3) + (f0_u6 p2 p3)) from (if_pos hc45).trans (if_neg hc48)] at k
          exact K46 _ (K47 _ (K51 _ (K52 _ (K54 _ (K55 _ (K60 _ (K62 _ (K63 _ (K68 _ (k))))))))))
      · have K69 : ∀ t, Steps p.tables e below (T31.setTop (mkF m 120 #[.val (.int p1), .val (.int p2), .val (.int p3), .val (.int (f1 p1 (p3 &&& (3 : Int32)))), .val (.int (f1 p2 (((p3.toUInt32 >>> ((2 : Int32) &&& 31).toUInt32).toInt32) &&& (3 : Int32)))), .val (.int (f2 (f1 p1 (p3 &&& (3 : Int32))) (f1 p2 (((p3.toUInt32 >>> ((2 : Int32) &&& 31).toUInt32).toInt32) &&& (3 : Int32))))), .val (.int (f0_u2 p1 p2 p3)), .val (.int ((f0_u3 p1 p3) + (f0_u4 p1 p2 p3))), .unset] [])) t → Steps p.tables e below (T31.setTop (mkF m 104 #[.val (.int p1), .val (.int p2), .val (.int p3), .val (.int (f1 p1 (p3 &&& (3 : Int32)))), .val (.int (f1 p2 (((p3.toUInt32 >>> ((2 : Int32) &&& 31).toUInt32).toInt32) &&& (3 : Int32)))), .val (.int (f2 (f1 p1 (p3 &&& (3 : Int32))) (f1 p2 (((p3.toUInt32 >>> ((2 : Int32) &&& 31).toUInt32).toInt32) &&& (3 : Int32))))), .val (.int (f0_u2 p1 p2 p3)), .val (.int ((f0_u3 p1 p3) + (f0_u4 p1 p2 p3))), .unset] [(.int (13 : Int32)), (.int (f1 p1 (p3 &&& (3 : Int32))))])) t := by
          intro t k
          refine XS.icmpYes X31.here hx rfl (pc0 := 104) (pc' := 120) rfl (Jvm.hb hby at_104) rfl (feq hc45).2 (by decide) (by decide) ?_
          exact k
        have K70 : ∀ t, Steps p.tables e below (T31.setTop (mkF m 121 #[.val (.int p1), .val (.int p2), .val (.int p3), .val (.int (f1 p1 (p3 &&& (3 : Int32)))), .val (.int (f1 p2 (((p3.toUInt32 >>> ((2 : Int32) &&& 31).toUInt32).toInt32) &&& (3 : Int32)))), .val (.int (f2 (f1 p1 (p3 &&& (3 : Int32))) (f1 p2 (((p3.toUInt32 >>> ((2 : Int32) &&& 31).toUInt32).toInt32) &&& (3 : Int32))))), .val (.int (f0_u2 p1 p2 p3)), .val (.int ((f0_u3 p1 p3) + (f0_u4 p1 p2 p3))), .unset] [(.int (f1 p1 (p3 &&& (3 : Int32))))])) t → Steps p.tables e below (T31.setTop (mkF m 120 #[.val (.int p1), .val (.int p2), .val (.int p3), .val (.int (f1 p1 (p3 &&& (3 : Int32)))), .val (.int (f1 p2 (((p3.toUInt32 >>> ((2 : Int32) &&& 31).toUInt32).toInt32) &&& (3 : Int32)))), .val (.int (f2 (f1 p1 (p3 &&& (3 : Int32))) (f1 p2 (((p3.toUInt32 >>> ((2 : Int32) &&& 31).toUInt32).toInt32) &&& (3 : Int32))))), .val (.int (f0_u2 p1 p2 p3)), .val (.int ((f0_u3 p1 p3) + (f0_u4 p1 p2 p3))), .unset] [])) t := by
          intro t k
          refine XS.iloadN X31.here hx rfl (Jvm.hb hby at_120) rfl ?_
          show Steps p.tables e below (T31.setTop (mkF m 121 #[.val (.int p1), .val (.int p2), .val (.int p3), .val (.int (f1 p1 (p3 &&& (3 : Int32)))), .val (.int (f1 p2 (((p3.toUInt32 >>> ((2 : Int32) &&& 31).toUInt32).toInt32) &&& (3 : Int32)))), .val (.int (f2 (f1 p1 (p3 &&& (3 : Int32))) (f1 p2 (((p3.toUInt32 >>> ((2 : Int32) &&& 31).toUInt32).toInt32) &&& (3 : Int32))))), .val (.int (f0_u2 p1 p2 p3)), .val (.int ((f0_u3 p1 p3) + (f0_u4 p1 p2 p3))), .unset] [(.int (f1 p1 (p3 &&& (3 : Int32))))])) t
          exact k
        obtain ⟨_, _, ⟨T71, L71, k71, n71⟩, -, X71, ⟨Lc71, hQ71, l71, y71, z71⟩, st71⟩ := Jvm.LawKit.callS X31 hx (y := (⟨x.cls, "isBreak", "(C)Z"⟩ : MethodName)) hown (mvT hZ (hw _ (List.mem_of_getElem? (i := 9) rfl))) (mvT hZ (hw _ (List.mem_of_getElem? (i := 10) rfl))) (mvT hZ (hw _ (List.mem_of_getElem? (i := 2) rfl))) (mvT hZ (hw _ (List.mem_of_getElem? (i := 11) rfl))) (by decide) (backOf (W := 0) (rm3 l Z a0 hw [] (f1 p1 (p3 &&& (3 : Int32))) h0 n0 Z0 ) hZ (hw _ (List.mem_of_getElem? (i := 11) rfl)) (hw _ (List.mem_of_getElem? (i := 2) rfl)) (by decide) (by decide)) (g := (mkF m 121 #[.val (.int p1), .val (.int p2), .val (.int p3), .val (.int (f1 p1 (p3 &&& (3 : Int32)))), .val (.int (f1 p2 (((p3.toUInt32 >>> ((2 : Int32) &&& 31).toUInt32).toInt32) &&& (3 : Int32)))), .val (.int (f2 (f1 p1 (p3 &&& (3 : Int32))) (f1 p2 (((p3.toUInt32 >>> ((2 : Int32) &&& 31).toUInt32).toInt32) &&& (3 : Int32))))), .val (.int (f0_u2 p1 p2 p3)), .val (.int ((f0_u3 p1 p3) + (f0_u4 p1 p2 p3))), .unset] [(.int (f1 p1 (p3 &&& (3 : Int32))))])) rfl (by rw [hml]; rfl) (argsL := [(.int (f1 p1 (p3 &&& (3 : Int32))))]) (rest := []) (lenOf pd_2 rfl) rfl (by show 2 * 0 + _ ≤ _; exact Nat.le_of_eq rfl) (Jvm.hb hby at_121) (fun _ _ => ⟨rfl, e31, (by decide : 0 + 0 ≤ _), (by decide : 0 + 0 ≤ _)⟩)
        dsimp only [Pt.U, Pt.locs, Pt.cells, Pt.slots] at X71 l71 y71 z71 st71 hQ71
        subst l71 y71 z71
        obtain ⟨rfl, N71q, e71⟩ := hQ71
        have N71 := Fr.app N31 N71q
        have K72 : ∀ t, Steps p.tables e below (T71.setTop (mkF m 124 #[.val (.int p1), .val (.int p2), .val (.int p3), .val (.int (f1 p1 (p3 &&& (3 : Int32)))), .val (.int (f1 p2 (((p3.toUInt32 >>> ((2 : Int32) &&& 31).toUInt32).toInt32) &&& (3 : Int32)))), .val (.int (f2 (f1 p1 (p3 &&& (3 : Int32))) (f1 p2 (((p3.toUInt32 >>> ((2 : Int32) &&& 31).toUInt32).toInt32) &&& (3 : Int32))))), .val (.int (f0_u2 p1 p2 p3)), .val (.int ((f0_u3 p1 p3) + (f0_u4 p1 p2 p3))), .unset] [(.int (f3 (f1 p1 (p3 &&& (3 : Int32)))))])) t → Steps p.tables e below (T31.setTop (mkF m 121 #[.val (.int p1), .val (.int p2), .val (.int p3), .val (.int (f1 p1 (p3 &&& (3 : Int32)))), .val (.int (f1 p2 (((p3.toUInt32 >>> ((2 : Int32) &&& 31).toUInt32).toInt32) &&& (3 : Int32)))), .val (.int (f2 (f1 p1 (p3 &&& (3 : Int32))) (f1 p2 (((p3.toUInt32 >>> ((2 : Int32) &&& 31).toUInt32).toInt32) &&& (3 : Int32))))), .val (.int (f0_u2 p1 p2 p3)), .val (.int ((f0_u3 p1 p3) + (f0_u4 p1 p2 p3))), .unset] [(.int (f1 p1 (p3 &&& (3 : Int32))))])) t := fun t k => st71 _ k
        have K73 : ∀ t, Steps p.tables e below (T71.setTop (mkF m 132 #[.val (.int p1), .val (.int p2), .val (.int p3), .val (.int (f1 p1 (p3 &&& (3 : Int32)))), .val (.int (f1 p2 (((p3.toUInt32 >>> ((2 : Int32) &&& 31).toUInt32).toInt32) &&& (3 : Int32)))), .val (.int (f2 (f1 p1 (p3 &&& (3 : Int32))) (f1 p2 (((p3.toUInt32 >>> ((2 : Int32) &&& 31).toUInt32).toInt32) &&& (3 : Int32))))), .val (.int (f0_u2 p1 p2 p3)), .val (.int ((f0_u3 p1 p3) + (f0_u4 p1 p2 p3))), .unset] [(.int (f0_u5 p1 p3))])) t → Steps p.tables e below (T71.setTop (mkF m 124 #[.val (.int p1), .val (.int p2), .val (.int p3), .val (.int (f1 p1 (p3 &&& (3 : Int32)))), .val (.int (f1 p2 (((p3.toUInt32 >>> ((2 : Int32) &&& 31).toUInt32).toInt32) &&& (3 : Int32)))), .val (.int (f2 (f1 p1 (p3 &&& (3 : Int32))) (f1 p2 (((p3.toUInt32 >>> ((2 : Int32) &&& 31).toUInt32).toInt32) &&& (3 : Int32))))), .val (.int (f0_u2 p1 p2 p3)), .val (.int ((f0_u3 p1 p3) + (f0_u4 p1 p2 p3))), .unset] [(.int (f3 (f1 p1 (p3 &&& (3 : Int32)))))])) t := by
          intro t k
          by_cases hc73 : (f3 (f1 p1 (p3 &&& (3 : Int32)))) = (0 : Int32)
          · have K74 : ∀ t, Steps p.tables e below (T71.setTop (mkF m 131 #[.val (.int p1), .val (.int p2), .val (.int p3), .val (.int (f1 p1 (p3 &&& (3 : Int32)))), .val (.int (f1 p2 (((p3.toUInt32 >>> ((2 : Int32) &&& 31).toUInt32).toInt32) &&& (3 : Int32)))), .val (.int (f2 (f1 p1 (p3 &&& (3 : Int32))) (f1 p2 (((p3.toUInt32 >>> ((2 : Int32) &&& 31).toUInt32).toInt32) &&& (3 : Int32))))), .val (.int (f0_u2 p1 p2 p3)), .val (.int ((f0_u3 p1 p3) + (f0_u4 p1 p2 p3))), .unset] [])) t → Steps p.tables e below (T71.setTop (mkF m 124 #[.val (.int p1), .val (.int p2), .val (.int p3), .val (.int (f1 p1 (p3 &&& (3 : Int32)))), .val (.int (f1 p2 (((p3.toUInt32 >>> ((2 : Int32) &&& 31).toUInt32).toInt32) &&& (3 : Int32)))), .val (.int (f2 (f1 p1 (p3 &&& (3 : Int32))) (f1 p2 (((p3.toUInt32 >>> ((2 : Int32) &&& 31).toUInt32).toInt32) &&& (3 : Int32))))), .val (.int (f0_u2 p1 p2 p3)), .val (.int ((f0_u3 p1 p3) + (f0_u4 p1 p2 p3))), .unset] [(.int (f3 (f1 p1 (p3 &&& (3 : Int32)))))])) t := by
              intro t k
              refine XS.ifYes X71.here hx rfl (pc0 := 124) (pc' := 131) rfl (Jvm.hb hby at_124) rfl ((if0 _ _).trans (teq hc73).1) (by decide) (by decide) ?_
              exact k
            have K75 : ∀ t, Steps p.tables e below (T71.setTop (mkF m 132 #[.val (.int p1), .val (.int p2), .val (.int p3), .val (.int (f1 p1 (p3 &&& (3 : Int32)))), .val (.int (f1 p2 (((p3.toUInt32 >>> ((2 : Int32) &&& 31).toUInt32).toInt32) &&& (3 : Int32)))), .val (.int (f2 (f1 p1 (p3 &&& (3 : Int32))) (f1 p2 (((p3.toUInt32 >>> ((2 : Int32) &&& 31).toUInt32).toInt32) &&& (3 : Int32))))), .val (.int (f0_u2 p1 p2 p3)), .val (.int ((f0_u3 p1 p3) + (f0_u4 p1 p2 p3))), .unset] [(.int (0 : Int32))])) t → Steps p.tables e below (T71.setTop (mkF m 131 #[.val (.int p1), .val (.int p2), .val (.int p3), .val (.int (f1 p1 (p3 &&& (3 : Int32)))), .val (.int (f1 p2 (((p3.toUInt32 >>> ((2 : Int32) &&& 31).toUInt32).toInt32) &&& (3 : Int32)))), .val (.int (f2 (f1 p1 (p3 &&& (3 : Int32))) (f1 p2 (((p3.toUInt32 >>> ((2 : Int32) &&& 31).toUInt32).toInt32) &&& (3 : Int32))))), .val (.int (f0_u2 p1 p2 p3)), .val (.int ((f0_u3 p1 p3) + (f0_u4 p1 p2 p3))), .unset] [])) t := by
              intro t k
              refine XS.iconst X71.here hx rfl (Jvm.hb hby at_131) ?_
              show Steps p.tables e below (T71.setTop (mkF m 132 #[.val (.int p1), .val (.int p2), .val (.int p3), .val (.int (f1 p1 (p3 &&& (3 : Int32)))), .val (.int (f1 p2 (((p3.toUInt32 >>> ((2 : Int32) &&& 31).toUInt32).toInt32) &&& (3 : Int32)))), .val (.int (f2 (f1 p1 (p3 &&& (3 : Int32))) (f1 p2 (((p3.toUInt32 >>> ((2 : Int32) &&& 31).toUInt32).toInt32) &&& (3 : Int32))))), .val (.int (f0_u2 p1 p2 p3)), .val (.int ((f0_u3 p1 p3) + (f0_u4 p1 p2 p3))), .unset] [(.int (0 : Int32))])) t
              exact k
            rw [show (f0_u5 p1 p3) = (0 : Int32) from if_pos hc73] at k
            exact K74 _ (K75 _ (k))
          · have K76 : ∀ t, Steps p.tables e below (T71.setTop (mkF m 127 #[.val (.int p1), .val (.int p2), .val (.int p3), .val (.int (f1 p1 (p3 &&& (3 : Int32)))), .val (.int (f1 p2 (((p3.toUInt32 >>> ((2 : Int32) &&& 31).toUInt32).toInt32) &&& (3 : Int32)))), .val (.int (f2 (f1 p1 (p3 &&& (3 : Int32))) (f1 p2 (((p3.toUInt32 >>> ((2 : Int32) &&& 31).toUInt32).toInt32) &&& (3 : Int32))))), .val (.int (f0_u2 p1 p2 p3)), .val (.int ((f0_u3 p1 p3) + (f0_u4 p1 p2 p3))), .unset] [])) t → Steps p.tables e below (T71.setTop (mkF m 124 #[.val (.int p1), .val (.int p2), .val (.int p3), .val (.int (f1 p1 (p3 &&& (3 : Int32)))), .val (.int (f1 p2 (((p3.toUInt32 >>> ((2 : Int32) &&& 31).toUInt32).toInt32) &&& (3 : Int32)))), .val (.int (f2 (f1 p1 (p3 &&& (3 : Int32))) (f1 p2 (((p3.toUInt32 >>> ((2 : Int32) &&& 31).toUInt32).toInt32) &&& (3 : Int32))))), .val (.int (f0_u2 p1 p2 p3)), .val (.int ((f0_u3 p1 p3) + (f0_u4 p1 p2 p3))), .unset] [(.int (f3 (f1 p1 (p3 &&& (3 : Int32)))))])) t := by
              intro t k
              refine XS.ifNo X71.here hx rfl (Jvm.hb hby at_124) rfl ((if0 _ _).trans (feq hc73).1) ?_
              exact k
            have K77 : ∀ t, Steps p.tables e below (T71.setTop (mkF m 132 #[.val (.int p1), .val (.int p2), .val (.int p3), .val (.int (f1 p1 (p3 &&& (3 : Int32)))), .val (.int (f1 p2 (((p3.toUInt32 >>> ((2 : Int32) &&& 31).toUInt32).toInt32) &&& (3 : Int32)))), .val (.int (f2 (f1 p1 (p3 &&& (3 : Int32))) (f1 p2 (((p3.toUInt32 >>> ((2 : Int32) &&& 31).toUInt32).toInt32) &&& (3 : Int32))))), .val (.int (f0_u2 p1 p2 p3)), .val (.int ((f0_u3 p1 p3) + (f0_u4 p1 p2 p3))), .unset] [(.int (1 : Int32))])) t → Steps p.tables e below (T71.setTop (mkF m 127 #[.val (.int p1), .val (.int p2), .val (.int p3), .val (.int (f1 p1 (p3 &&& (3 : Int32)))), .val (.int (f1 p2 (((p3.toUInt32 >>> ((2 : Int32) &&& 31).toUInt32).toInt32) &&& (3 : Int32)))), .val (.int (f2 (f1 p1 (p3 &&& (3 : Int32))) (f1 p2 (((p3.toUInt32 >>> ((2 : Int32) &&& 31).toUInt32).toInt32) &&& (3 : Int32))))), .val (.int (f0_u2 p1 p2 p3)), .val (.int ((f0_u3 p1 p3) + (f0_u4 p1 p2 p3))), .unset] [])) t := by
              intro t k
              refine XS.iconst X71.here hx rfl (Jvm.hb hby at_127) ?_
              show Steps p.tables e below (T71.setTop (mkF m 128 #[.val (.int p1), .val (.int p2), .val (.int p3), .val (.int (f1 p1 (p3 &&& (3 : Int32)))), .val (.int (f1 p2 (((p3.toUInt32 >>> ((2 : Int32) &&& 31).toUInt32).toInt32) &&& (3 : Int32)))), .val (.int (f2 (f1 p1 (p3 &&& (3 : Int32))) (f1 p2 (((p3.toUInt32 >>> ((2 : Int32) &&& 31).toUInt32).toInt32) &&& (3 : Int32))))), .val (.int (f0_u2 p1 p2 p3)), .val (.int ((f0_u3 p1 p3) + (f0_u4 p1 p2 p3))), .unset] [(.int (1 : Int32))])) t
              refine XS.goto X71.here hx rfl (pc0 := 128) (pc' := 132) rfl (Jvm.hb hby at_128) (by decide) (by decide) ?_
              show Steps p.tables e below (T71.setTop (mkF m 132 #[.val (.int p1), .val (.int p2), .val (.int p3), .val (.int (f1 p1 (p3 &&& (3 : Int32)))), .val (.int (f1 p2 (((p3.toUInt32 >>> ((2 : Int32) &&& 31).toUInt32).toInt32) &&& (3 : Int32)))), .val (.int (f2 (f1 p1 (p3 &&& (3 : Int32))) (f1 p2 (((p3.toUInt32 >>> ((2 : Int32) &&& 31).toUInt32).toInt32) &&& (3 : Int32))))), .val (.int (f0_u2 p1 p2 p3)), .val (.int ((f0_u3 p1 p3) + (f0_u4 p1 p2 p3))), .unset] [(.int (1 : Int32))])) t
              exact k
            rw [show (f0_u5 p1 p3) = (1 : Int32) from if_neg hc73] at k
            exact K76 _ (K77 _ (k))
        have K78 : ∀ t, Steps p.tables e below (T71.setTop (mkF m 134 #[.val (.int p1), .val (.int p2), .val (.int p3), .val (.int (f1 p1 (p3 &&& (3 : Int32)))), .val (.int (f1 p2 (((p3.toUInt32 >>> ((2 : Int32) &&& 31).toUInt32).toInt32) &&& (3 : Int32)))), .val (.int (f2 (f1 p1 (p3 &&& (3 : Int32))) (f1 p2 (((p3.toUInt32 >>> ((2 : Int32) &&& 31).toUInt32).toInt32) &&& (3 : Int32))))), .val (.int (f0_u2 p1 p2 p3)), .val (.int ((f0_u3 p1 p3) + (f0_u4 p1 p2 p3))), .unset] [(.int (f1 p2 (((p3.toUInt32 >>> ((2 : Int32) &&& 31).toUInt32).toInt32) &&& (3 : Int32)))), (.int (f0_u5 p1 p3))])) t → Steps p.tables e below (T71.setTop (mkF m 132 #[.val (.int p1), .val (.int p2), .val (.int p3), .val (.int (f1 p1 (p3 &&& (3 : Int32)))), .val (.int (f1 p2 (((p3.toUInt32 >>> ((2 : Int32) &&& 31).toUInt32).toInt32) &&& (3 : Int32)))), .val (.int (f2 (f1 p1 (p3 &&& (3 : Int32))) (f1 p2 (((p3.toUInt32 >>> ((2 : Int32) &&& 31).toUInt32).toInt32) &&& (3 : Int32))))), .val (.int (f0_u2 p1 p2 p3)), .val (.int ((f0_u3 p1 p3) + (f0_u4 p1 p2 p3))), .unset] [(.int (f0_u5 p1 p3))])) t := by
          intro t k
          refine XS.iload X71.here hx rfl (Jvm.hb hby at_132) rfl ?_
          show Steps p.tables e below (T71.setTop (mkF m 134 #[.val (.int p1), .val (.int p2), .val (.int p3), .val (.int (f1 p1 (p3 &&& (3 : Int32)))), .val (.int (f1 p2 (((p3.toUInt32 >>> ((2 : Int32) &&& 31).toUInt32).toInt32) &&& (3 : Int32)))), .val (.int (f2 (f1 p1 (p3 &&& (3 : Int32))) (f1 p2 (((p3.toUInt32 >>> ((2 : Int32) &&& 31).toUInt32).toInt32) &&& (3 : Int32))))), .val (.int (f0_u2 p1 p2 p3)), .val (.int ((f0_u3 p1 p3) + (f0_u4 p1 p2 p3))), .unset] [(.int (f1 p2 (((p3.toUInt32 >>> ((2 : Int32) &&& 31).toUInt32).toInt32) &&& (3 : Int32)))), (.int (f0_u5 p1 p3))])) t
          exact k
        obtain ⟨_, _, ⟨T79, L79, k79, n79⟩, -, X79, ⟨Lc79, hQ79, l79, y79, z79⟩, st79⟩ := Jvm.LawKit.callS X71 hx (y := (⟨x.cls, "isBreak", "(C)Z"⟩ : MethodName)) hown (mvT hZ (hw _ (List.mem_of_getElem? (i := 9) rfl))) (mvT hZ (hw _ (List.mem_of_getElem? (i := 10) rfl))) (mvT hZ (hw _ (List.mem_of_getElem? (i := 2) rfl))) (mvT hZ (hw _ (List.mem_of_getElem? (i := 11) rfl))) (by decide) (backOf (W := 1) (rm3 l Z a0 hw [] (f1 p2 (((p3.toUInt32 >>> ((2 : Int32) &&& 31).toUInt32).toInt32) &&& (3 : Int32))) h0 n0 Z0 ) hZ (hw _ (List.mem_of_getElem? (i := 11) rfl)) (hw _ (List.mem_of_getElem? (i := 2) rfl)) (by decide) (by decide)) (g := (mkF m 134 #[.val (.int p1), .val (.int p2), .val (.int p3), .val (.int (f1 p1 (p3 &&& (3 : Int32)))), .val (.int (f1 p2 (((p3.toUInt32 >>> ((2 : Int32) &&& 31).toUInt32).toInt32) &&& (3 : Int32)))), .val (.int (f2 (f1 p1 (p3 &&& (3 : Int32))) (f1 p2 (((p3.toUInt32 >>> ((2 : Int32) &&& 31).toUInt32).toInt32) &&& (3 : Int32))))), .val (.int (f0_u2 p1 p2 p3)), .val (.int ((f0_u3 p1 p3) + (f0_u4 p1 p2 p3))), .unset] [(.int (f1 p2 (((p3.toUInt32 >>> ((2 : Int32) &&& 31).toUInt32).toInt32) &&& (3 : Int32)))), (.int (f0_u5 p1 p3))])) rfl (by rw [hml]; rfl) (argsL := [(.int (f1 p2 (((p3.toUInt32 >>> ((2 : Int32) &&& 31).toUInt32).toInt32) &&& (3 : Int32))))]) (rest := [(.int (f0_u5 p1 p3))]) (lenOf pd_2 rfl) rfl (by show 2 * 0 + _ ≤ _; exact Nat.le_of_eq rfl) (Jvm.hb hby at_134) (fun _ _ => ⟨rfl, e71, (by decide : 0 + 0 ≤ _), (by decide : 0 + 0 ≤ _)⟩)
        dsimp only [Pt.U, Pt.locs, Pt.cells, Pt.slots] at X79 l79 y79 z79 st79 hQ79
        subst l79 y79 z79
        obtain ⟨rfl, N79q, e79⟩ := hQ79
        have N79 := Fr.app N71 N79q
        have K80 : ∀ t, Steps p.tables e below (T79.setTop (mkF m 137 #[.val (.int p1), .val (.int p2), .val (.int p3), .val (.int (f1 p1 (p3 &&& (3 : Int32)))), .val (.int (f1 p2 (((p3.toUInt32 >>> ((2 : Int32) &&& 31).toUInt32).toInt32) &&& (3 : Int32)))), .val (.int (f2 (f1 p1 (p3 &&& (3 : Int32))) (f1 p2 (((p3.toUInt32 >>> ((2 : Int32) &&& 31).toUInt32).toInt32) &&& (3 : Int32))))), .val (.int (f0_u2 p1 p2 p3)), .val (.int ((f0_u3 p1 p3) + (f0_u4 p1 p2 p3))), .unset] [(.int (f3 (f1 p2 (((p3.toUInt32 >>> ((2 : Int32) &&& 31).toUInt32).toInt32) &&& (3 : Int32))))), (.int (f0_u5 p1 p3))])) t → Steps p.tables e below (T71.setTop (mkF m 134 #[.val (.int p1), .val (.int p2), .val (.int p3), .val (.int (f1 p1 (p3 &&& (3 : Int32)))), .val (.int (f1 p2 (((p3.toUInt32 >>> ((2 : Int32) &&& 31).toUInt32).toInt32) &&& (3 : Int32)))), .val (.int (f2 (f1 p1 (p3 &&& (3 : Int32))) (f1 p2 (((p3.toUInt32 >>> ((2 : Int32) &&& 31).toUInt32).toInt32) &&& (3 : Int32))))), .val (.int (f0_u2 p1 p2 p3)), .val (.int ((f0_u3 p1 p3) + (f0_u4 p1 p2 p3))), .unset] [(.int (f1 p2 (((p3.toUInt32 >>> ((2 : Int32) &&& 31).toUInt32).toInt32) &&& (3 : Int32)))), (.int (f0_u5 p1 p3))])) t := fun t k => st79 _ k
        have K81 : ∀ t, Steps p.tables e below (T79.setTop (mkF m 145 #[.val (.int p1), .val (.int p2), .val (.int p3), .val (.int (f1 p1 (p3 &&& (3 : Int32)))), .val (.int (f1 p2 (((p3.toUInt32 >>> ((2 : Int32) &&& 31).toUInt32).toInt32) &&& (3 : Int32)))), .val (.int (f2 (f1 p1 (p3 &&& (3 : Int32))) (f1 p2 (((p3.toUInt32 >>> ((2 : Int32) &&& 31).toUInt32).toInt32) &&& (3 : Int32))))), .val (.int (f0_u2 p1 p2 p3)), .val (.int ((f0_u3 p1 p3) + (f0_u4 p1 p2 p3))), .unset] [(.int (f0_u6 p2 p3)), (.int (f0_u5 p1 p3))])) t → Steps p.tables e below (T79.setTop (mkF m 137 #[.val (.int p1), .val (.int p2), .val (.int p3), .val (.int (f1 p1 (p3 &&& (3 : Int32)))), .val (.int (f1 p2 (((p3.toUInt32 >>> ((2 : Int32) &&& 31).toUInt32).toInt32) &&& (3 : Int32)))), .val (.int (f2 (f1 p1 (p3 &&& (3 : Int32))) (f1 p2 (((p3.toUInt32 >>> ((2 : Int32) &&& 31).toUInt32).toInt32) &&& (3 : Int32))))), .val (.int (f0_u2 p1 p2 p3)), .val (.int ((f0_u3 p1 p3) + (f0_u4 p1 p2 p3))), .unset] [(.int (f3 (f1 p2 (((p3.toUInt32 >>> ((2 : Int32) &&& 31).toUInt32).toInt32) &&& (3 : Int32))))), (.int (f0_u5 p1 p3))])) t := by
          intro t k
          by_cases hc81 : (f3 (f1 p2 (((p3.toUInt32 >>> ((2 : Int32) &&& 31).toUInt32).toInt32) &&& (3 : Int32)))) = (0 : Int32)
          · have K82 : ∀ t, Steps p.tables e below (T79.setTop (mkF m 144 #[.val (.int p1), .val (.int p2), .val (.int p3), .val (.int (f1 p1 (p3 &&& (3 : Int32)))), .val (.int (f1 p2 (((p3.toUInt32 >>> ((2 : Int32) &&& 31).toUInt32).toInt32) &&& (3 : Int32)))), .val (.int (f2 (f1 p1 (p3 &&& (3 : Int32))) (f1 p2 (((p3.toUInt32 >>> ((2 : Int32) &&& 31).toUInt32).toInt32) &&& (3 : Int32))))), .val (.int (f0_u2 p1 p2 p3)), .val (.int ((f0_u3 p1 p3) + (f0_u4 p1 p2 p3))), .unset] [(.int (f0_u5 p1 p3))])) t → Steps p.tables e below (T79.setTop (mkF m 137 #[.val (.int p1), .val (.int p2), .val (.int p3), .val (.int (f1 p1 (p3 &&& (3 : Int32)))), .val (.int (f1 p2 (((p3.toUInt32 >>> ((2 : Int32) &&& 31).toUInt32).toInt32) &&& (3 : Int32)))), .val (.int (f2 (f1 p1 (p3 &&& (3 : Int32))) (f1 p2 (((p3.toUInt32 >>> ((2 : Int32) &&& 31).toUInt32).toInt32) &&& (3 : Int32))))), .val (.int (f0_u2 p1 p2 p3)), .val (.int ((f0_u3 p1 p3) + (f0_u4 p1 p2 p3))), .unset] [(.int (f3 (f1 p2 (((p3.toUInt32 >>> ((2 : Int32) &&& 31).toUInt32).toInt32) &&& (3 : Int32))))), (.int (f0_u5 p1 p3))])) t := by
              intro t k
              refine XS.ifYes X79.here hx rfl (pc0 := 137) (pc' := 144) rfl (Jvm.hb hby at_137) rfl ((if0 _ _).trans (teq hc81).1) (by decide) (by decide) ?_
              exact k
            have K83 : ∀ t, Steps p.tables e below (T79.setTop (mkF m 145 #[.val (.int p1), .val (.int p2), .val (.int p3), .val (.int (f1 p1 (p3 &&& (3 : Int32)))), .val (.int (f1 p2 (((p3.toUInt32 >>> ((2 : Int32) &&& 31).toUInt32).toInt32) &&& (3 : Int32)))), .val (.int (f2 (f1 p1 (p3 &&& (3 : Int32))) (f1 p2 (((p3.toUInt32 >>> ((2 : Int32) &&& 31).toUInt32).toInt32) &&& (3 : Int32))))), .val (.int (f0_u2 p1 p2 p3)), .val (.int ((f0_u3 p1 p3) + (f0_u4 p1 p2 p3))), .unset] [(.int (0 : Int32)), (.int (f0_u5 p1 p3))])) t → Steps p.tables e below (T79.setTop (mkF m 144 #[.val (.int p1), .val (.int p2), .val (.int p3), .val (.int (f1 p1 (p3 &&& (3 : Int32)))), .val (.int (f1 p2 (((p3.toUInt32 >>> ((2 : Int32) &&& 31).toUInt32).toInt32) &&& (3 : Int32)))), .val (.int (f2 (f1 p1 (p3 &&& (3 : Int32))) (f1 p2 (((p3.toUInt32 >>> ((2 : Int32) &&& 31).toUInt32).toInt32) &&& (3 : Int32))))), .val (.int (f0_u2 p1 p2 p3)), .val (.int ((f0_u3 p1 p3) + (f0_u4 p1 p2 p3))), .unset] [(.int (f0_u5 p1 p3))])) t := by
              intro t k
              refine XS.iconst X79.here hx rfl (Jvm.hb hby at_144) ?_
              show Steps p.tables e below (T79.setTop (mkF m 145 #[.val (.int p1), .val (.int p2), .val (.int p3), .val (.int (f1 p1 (p3 &&& (3 : Int32)))), .val (.int (f1 p2 (((p3.toUInt32 >>> ((2 : Int32) &&& 31).toUInt32).toInt32) &&& (3 : Int32)))), .val (.int (f2 (f1 p1 (p3 &&& (3 : Int32))) (f1 p2 (((p3.toUInt32 >>> ((2 : Int32) &&& 31).toUInt32).toInt32) &&& (3 : Int32))))), .val (.int (f0_u2 p1 p2 p3)), .val (.int ((f0_u3 p1 p3) + (f0_u4 p1 p2 p3))), .unset] [(.int (0 : Int32)), (.int (f0_u5 p1 p3))])) t
              exact k
            rw [show (f0_u6 p2 p3) = (0 : Int32) from if_pos hc81] at k
            exact K82 _ (K83 _ (k))
          · have K84 : ∀ t, Steps p.tables e below (T79.setTop (mkF m 140 #[.val (.int p1), .val (.int p2), .val (.int p3), .val (.int (f1 p1 (p3 &&& (3 : Int32)))), .val (.int (f1 p2 (((p3.toUInt32 >>> ((2 : Int32) &&& 31).toUInt32).toInt32) &&& (3 : Int32)))), .val (.int (f2 (f1 p1 (p3 &&& (3 : Int32))) (f1 p2 (((p3.toUInt32 >>> ((2 : Int32) &&& 31).toUInt32).toInt32) &&& (3 : Int32))))), .val (.int (f0_u2 p1 p2 p3)), .val (.int ((f0_u3 p1 p3) + (f0_u4 p1 p2 p3))), .unset] [(.int (f0_u5 p1 p3))])) t → Steps p.tables e below (T79.setTop (mkF m 137 #[.val (.int p1), .val (.int p2), .val (.int p3), .val (.int (f1 p1 (p3 &&& (3 : Int32)))), .val (.int (f1 p2 (((p3.toUInt32 >>> ((2 : Int32) &&& 31).toUInt32).toInt32) &&& (3 : Int32)))), .val (.int (f2 (f1 p1 (p3 &&& (3 : Int32))) (f1 p2 (((p3.toUInt32 >>> ((2 : Int32) &&& 31).toUInt32).toInt32) &&& (3 : Int32))))), .val (.int (f0_u2 p1 p2 p3)), .val (.int ((f0_u3 p1 p3) + (f0_u4 p1 p2 p3))), .unset] [(.int (f3 (f1 p2 (((p3.toUInt32 >>> ((2 : Int32) &&& 31).toUInt32).toInt32) &&& (3 : Int32))))), (.int (f0_u5 p1 p3))])) t := by
              intro t k
              refine XS.ifNo X79.here hx rfl (Jvm.hb hby at_137) rfl ((if0 _ _).trans (feq hc81).1) ?_
              exact k
            have K85 : ∀ t, Steps p.tables e below (T79.setTop (mkF m 145 #[.val (.int p1), .val (.int p2), .val (.int p3), .val (.int (f1 p1 (p3 &&& (3 : Int32)))), .val (.int (f1 p2 (((p3.toUInt32 >>> ((2 : Int32) &&& 31).toUInt32).toInt32) &&& (3 : Int32)))), .val (.int (f2 (f1 p1 (p3 &&& (3 : Int32))) (f1 p2 (((p3.toUInt32 >>> ((2 : Int32) &&& 31).toUInt32).toInt32) &&& (3 : Int32))))), .val (.int (f0_u2 p1 p2 p3)), .val (.int ((f0_u3 p1 p3) + (f0_u4 p1 p2 p3))), .unset] [(.int (1 : Int32)), (.int (f0_u5 p1 p3))])) t → Steps p.tables e below (T79.setTop (mkF m 140 #[.val (.int p1), .val (.int p2), .val (.int p3), .val (.int (f1 p1 (p3 &&& (3 : Int32)))), .val (.int (f1 p2 (((p3.toUInt32 >>> ((2 : Int32) &&& 31).toUInt32).toInt32) &&& (3 : Int32)))), .val (.int (f2 (f1 p1 (p3 &&& (3 : Int32))) (f1 p2 (((p3.toUInt32 >>> ((2 : Int32) &&& 31).toUInt32).toInt32) &&& (3 : Int32))))), .val (.int (f0_u2 p1 p2 p3)), .val (.int ((f0_u3 p1 p3) + (f0_u4 p1 p2 p3))), .unset] [(.int (f0_u5 p1 p3))])) t := by
              intro t k
              refine XS.iconst X79.here hx rfl (Jvm.hb hby at_140) ?_
              show Steps p.tables e below (T79.setTop (mkF m 141 #[.val (.int p1), .val (.int p2), .val (.int p3), .val (.int (f1 p1 (p3 &&& (3 : Int32)))), .val (.int (f1 p2 (((p3.toUInt32 >>> ((2 : Int32) &&& 31).toUInt32).toInt32) &&& (3 : Int32)))), .val (.int (f2 (f1 p1 (p3 &&& (3 : Int32))) (f1 p2 (((p3.toUInt32 >>> ((2 : Int32) &&& 31).toUInt32).toInt32) &&& (3 : Int32))))), .val (.int (f0_u2 p1 p2 p3)), .val (.int ((f0_u3 p1 p3) + (f0_u4 p1 p2 p3))), .unset] [(.int (1 : Int32)), (.int (f0_u5 p1 p3))])) t
              refine XS.goto X79.here hx rfl (pc0 := 141) (pc' := 145) rfl (Jvm.hb hby at_141) (by decide) (by decide) ?_
              show Steps p.tables e below (T79.setTop (mkF m 145 #[.val (.int p1), .val (.int p2), .val (.int p3), .val (.int (f1 p1 (p3 &&& (3 : Int32)))), .val (.int (f1 p2 (((p3.toUInt32 >>> ((2 : Int32) &&& 31).toUInt32).toInt32) &&& (3 : Int32)))), .val (.int (f2 (f1 p1 (p3 &&& (3 : Int32))) (f1 p2 (((p3.toUInt32 >>> ((2 : Int32) &&& 31).toUInt32).toInt32) &&& (3 : Int32))))), .val (.int (f0_u2 p1 p2 p3)), .val (.int ((f0_u3 p1 p3) + (f0_u4 p1 p2 p3))), .unset] [(.int (1 : Int32)), (.int (f0_u5 p1 p3))])) t
              exact k
            rw [show (f0_u6 p2 p3) = (1 : Int32) from if_neg hc81] at k
            exact K84 _ (K85 _ (k))
        have K86 : ∀ t, Steps p.tables e below (T79.setTop (mkF m 148 #[.val (.int p1), .val (.int p2), .val (.int p3), .val (.int (f1 p1 (p3 &&& (3 : Int32)))), .val (.int (f1 p2 (((p3.toUInt32 >>> ((2 : Int32) &&& 31).toUInt32).toInt32) &&& (3 : Int32)))), .val (.int (f2 (f1 p1 (p3 &&& (3 : Int32))) (f1 p2 (((p3.toUInt32 >>> ((2 : Int32) &&& 31).toUInt32).toInt32) &&& (3 : Int32))))), .val (.int (f0_u2 p1 p2 p3)), .val (.int ((f0_u3 p1 p3) + (f0_u4 p1 p2 p3))), .val (.int ((f0_u5 p1 p3) + (f0_u6 p2 p3)))] [])) t → Steps p.tables e below (T79.setTop (mkF m 145 #[.val (.int p1), .val (.int p2), .val (.int p3), .val (.int (f1 p1 (p3 &&& (3 : Int32)))), .val (.int (f1 p2 (((p3.toUInt32 >>> ((2 : Int32) &&& 31).toUInt32).toInt32) &&& (3 : Int32)))), .val (.int (f2 (f1 p1 (p3 &&& (3 : Int32))) (f1 p2 (((p3.toUInt32 >>> ((2 : Int32) &&& 31).toUInt32).toInt32) &&& (3 : Int32))))), .val (.int (f0_u2 p1 p2 p3)), .val (.int ((f0_u3 p1 p3) + (f0_u4 p1 p2 p3))), .unset] [(.int (f0_u6 p2 p3)), (.int (f0_u5 p1 p3))])) t := by
          intro t k
          refine XS.iadd X79.here hx rfl (Jvm.hb hby at_145) rfl ?_
          show Steps p.tables e below (T79.setTop (mkF m 146 #[.val (.int p1), .val (.int p2), .val (.int p3), .val (.int (f1 p1 (p3 &&& (3 : Int32)))), .val (.int (f1 p2 (((p3.toUInt32 >>> ((2 : Int32) &&& 31).toUInt32).toInt32) &&& (3 : Int32)))), .val (.int (f2 (f1 p1 (p3 &&& (3 : Int32))) (f1 p2 (((p3.toUInt32 >>> ((2 : Int32) &&& 31).toUInt32).toInt32) &&& (3 : Int32))))), .val (.int (f0_u2 p1 p2 p3)), .val (.int ((f0_u3 p1 p3) + (f0_u4 p1 p2 p3))), .unset] [(.int ((f0_u5 p1 p3) + (f0_u6 p2 p3)))])) t
          refine XS.istore X79.here hx rfl (Jvm.hb hby at_146) rfl (l' := #[.val (.int p1), .val (.int p2), .val (.int p3), .val (.int (f1 p1 (p3 &&& (3 : Int32)))), .val (.int (f1 p2 (((p3.toUInt32 >>> ((2 : Int32) &&& 31).toUInt32).toInt32) &&& (3 : Int32)))), .val (.int (f2 (f1 p1 (p3 &&& (3 : Int32))) (f1 p2 (((p3.toUInt32 >>> ((2 : Int32) &&& 31).toUInt32).toInt32) &&& (3 : Int32))))), .val (.int (f0_u2 p1 p2 p3)), .val (.int ((f0_u3 p1 p3) + (f0_u4 p1 p2 p3))), .val (.int ((f0_u5 p1 p3) + (f0_u6 p2 p3)))]) rfl ?_
          show Steps p.tables e below (T79.setTop (mkF m 148 #[.val (.int p1), .val (.int p2), .val (.int p3), .val (.int (f1 p1 (p3 &&& (3 : Int32)))), .val (.int (f1 p2 (((p3.toUInt32 >>> ((2 : Int32) &&& 31).toUInt32).toInt32) &&& (3 : Int32)))), .val (.int (f2 (f1 p1 (p3 &&& (3 : Int32))) (f1 p2 (((p3.toUInt32 >>> ((2 : Int32) &&& 31).toUInt32).toInt32) &&& (3 : Int32))))), .val (.int (f0_u2 p1 p2 p3)), .val (.int ((f0_u3 p1 p3) + (f0_u4 p1 p2 p3))), .val (.int ((f0_u5 p1 p3) + (f0_u6 p2 p3)))] [])) t
          exact k
        refine ⟨T79, _, X79, e79, N79, fun t k => ?_⟩
        rw [show (f0_u7 p1 p2 p3) = ((f0_u5 p1 p3) + (f0_u6 p2 p3)) from if_neg hc45] at k
        exact K69 _ (K70 _ (K72 _ (K73 _ (K78 _ (K80 _ (K81 _ (K86 _ (k))))))))
    have K87 : ∀ t, Steps p.tables e below (Tm45.setTop (mkF m 152 #[.val (.int p1), .val (.int p2), .val (.int p3), .val (.int (f1 p1 (p3 &&& (3 : Int32)))), .val (.int (f1 p2 (((p3.toUInt32 >>> ((2 : Int32) &&& 31).toUInt32).toInt32) &&& (3 : Int32)))), .val (.int (f2 (f1 p1 (p3 &&& (3 : Int32))) (f1 p2 (((p3.toUInt32 >>> ((2 : Int32) &&& 31).toUInt32).toInt32) &&& (3 : Int32))))), .val (.int (f0_u2 p1 p2 p3)), .val (.int ((f0_u3 p1 p3) + (f0_u4 p1 p2 p3))), .val (.int (f0_u7 p1 p2 p3))] [(.int (f0_u7 p1 p2 p3)), (.int ((f0_u3 p1 p3) + (f0_u4 p1 p2 p3)))])) t → Steps p.tables e below (Tm45.setTop (mkF m 148 #[.val (.int p1), .val (.int p2), .val (.int p3), .val (.int (f1 p1 (p3 &&& (3 : Int32)))), .val (.int (f1 p2 (((p3.toUInt32 >>> ((2 : Int32) &&& 31).toUInt32).toInt32) &&& (3 : Int32)))), .val (.int (f2 (f1 p1 (p3 &&& (3 : Int32))) (f1 p2 (((p3.toUInt32 >>> ((2 : Int32) &&& 31).toUInt32).toInt32) &&& (3 : Int32))))), .val (.int (f0_u2 p1 p2 p3)), .val (.int ((f0_u3 p1 p3) + (f0_u4 p1 p2 p3))), .val (.int (f0_u7 p1 p2 p3))] [])) t := by
      intro t k
      refine XS.iload Xm45.here hx rfl (Jvm.hb hby at_148) rfl ?_
      show Steps p.tables e below (Tm45.setTop (mkF m 150 #[.val (.int p1), .val (.int p2), .val (.int p3), .val (.int (f1 p1 (p3 &&& (3 : Int32)))), .val (.int (f1 p2 (((p3.toUInt32 >>> ((2 : Int32) &&& 31).toUInt32).toInt32) &&& (3 : Int32)))), .val (.int (f2 (f1 p1 (p3 &&& (3 : Int32))) (f1 p2 (((p3.toUInt32 >>> ((2 : Int32) &&& 31).toUInt32).toInt32) &&& (3 : Int32))))), .val (.int (f0_u2 p1 p2 p3)), .val (.int ((f0_u3 p1 p3) + (f0_u4 p1 p2 p3))), .val (.int (f0_u7 p1 p2 p3))] [(.int ((f0_u3 p1 p3) + (f0_u4 p1 p2 p3)))])) t
      refine XS.iload Xm45.here hx rfl (Jvm.hb hby at_150) rfl ?_
      show Steps p.tables e below (Tm45.setTop (mkF m 152 #[.val (.int p1), .val (.int p2), .val (.int p3), .val (.int (f1 p1 (p3 &&& (3 : Int32)))), .val (.int (f1 p2 (((p3.toUInt32 >>> ((2 : Int32) &&& 31).toUInt32).toInt32) &&& (3 : Int32)))), .val (.int (f2 (f1 p1 (p3 &&& (3 : Int32))) (f1 p2 (((p3.toUInt32 >>> ((2 : Int32) &&& 31).toUInt32).toInt32) &&& (3 : Int32))))), .val (.int (f0_u2 p1 p2 p3)), .val (.int ((f0_u3 p1 p3) + (f0_u4 p1 p2 p3))), .val (.int (f0_u7 p1 p2 p3))] [(.int (f0_u7 p1 p2 p3)), (.int ((f0_u3 p1 p3) + (f0_u4 p1 p2 p3)))])) t
      exact k
    by_cases hc88 : ((f0_u3 p1 p3) + (f0_u4 p1 p2 p3)) = (f0_u7 p1 p2 p3)
    · have K89 : ∀ t, Steps p.tables e below (Tm45.setTop (mkF m 155 #[.val (.int p1), .val (.int p2), .val (.int p3), .val (.int (f1 p1 (p3 &&& (3 : Int32)))), .val (.int (f1 p2 (((p3.toUInt32 >>> ((2 : Int32) &&& 31).toUInt32).toInt32) &&& (3 : Int32)))), .val (.int (f2 (f1 p1 (p3 &&& (3 : Int32))) (f1 p2 (((p3.toUInt32 >>> ((2 : Int32) &&& 31).toUInt32).toInt32) &&& (3 : Int32))))), .val (.int (f0_u2 p1 p2 p3)), .val (.int ((f0_u3 p1 p3) + (f0_u4 p1 p2 p3))), .val (.int (f0_u7 p1 p2 p3))] [])) t → Steps p.tables e below (Tm45.setTop (mkF m 152 #[.val (.int p1), .val (.int p2), .val (.int p3), .val (.int (f1 p1 (p3 &&& (3 : Int32)))), .val (.int (f1 p2 (((p3.toUInt32 >>> ((2 : Int32) &&& 31).toUInt32).toInt32) &&& (3 : Int32)))), .val (.int (f2 (f1 p1 (p3 &&& (3 : Int32))) (f1 p2 (((p3.toUInt32 >>> ((2 : Int32) &&& 31).toUInt32).toInt32) &&& (3 : Int32))))), .val (.int (f0_u2 p1 p2 p3)), .val (.int ((f0_u3 p1 p3) + (f0_u4 p1 p2 p3))), .val (.int (f0_u7 p1 p2 p3))] [(.int (f0_u7 p1 p2 p3)), (.int ((f0_u3 p1 p3) + (f0_u4 p1 p2 p3)))])) t := by
        intro t k
        refine XS.icmpNo Xm45.here hx rfl (Jvm.hb hby at_152) rfl (teq hc88).2 ?_
        exact k
      have K90 : ∀ t, Steps p.tables e below (Tm45.setTop (mkF m 160 #[.val (.int p1), .val (.int p2), .val (.int p3), .val (.int (f1 p1 (p3 &&& (3 : Int32)))), .val (.int (f1 p2 (((p3.toUInt32 >>> ((2 : Int32) &&& 31).toUInt32).toInt32) &&& (3 : Int32)))), .val (.int (f2 (f1 p1 (p3 &&& (3 : Int32))) (f1 p2 (((p3.toUInt32 >>> ((2 : Int32) &&& 31).toUInt32).toInt32) &&& (3 : Int32))))), .val (.int (f0_u2 p1 p2 p3)), .val (.int ((f0_u3 p1 p3) + (f0_u4 p1 p2 p3))), .val (.int (f0_u7 p1 p2 p3))] [(.int (1 : Int32))])) t → Steps p.tables e below (Tm45.setTop (mkF m 155 #[.val (.int p1), .val (.int p2), .val (.int p3), .val (.int (f1 p1 (p3 &&& (3 : Int32)))), .val (.int (f1 p2 (((p3.toUInt32 >>> ((2 : Int32) &&& 31).toUInt32).toInt32) &&& (3 : Int32)))), .val (.int (f2 (f1 p1 (p3 &&& (3 : Int32))) (f1 p2 (((p3.toUInt32 >>> ((2 : Int32) &&& 31).toUInt32).toInt32) &&& (3 : Int32))))), .val (.int (f0_u2 p1 p2 p3)), .val (.int ((f0_u3 p1 p3) + (f0_u4 p1 p2 p3))), .val (.int (f0_u7 p1 p2 p3))] [])) t := by
        intro t k
        refine XS.iconst Xm45.here hx rfl (Jvm.hb hby at_155) ?_
        show Steps p.tables e below (Tm45.setTop (mkF m 156 #[.val (.int p1), .val (.int p2), .val (.int p3), .val (.int (f1 p1 (p3 &&& (3 : Int32)))), .val (.int (f1 p2 (((p3.toUInt32 >>> ((2 : Int32) &&& 31).toUInt32).toInt32) &&& (3 : Int32)))), .val (.int (f2 (f1 p1 (p3 &&& (3 : Int32))) (f1 p2 (((p3.toUInt32 >>> ((2 : Int32) &&& 31).toUInt32).toInt32) &&& (3 : Int32))))), .val (.int (f0_u2 p1 p2 p3)), .val (.int ((f0_u3 p1 p3) + (f0_u4 p1 p2 p3))), .val (.int (f0_u7 p1 p2 p3))] [(.int (1 : Int32))])) t
        refine XS.goto Xm45.here hx rfl (pc0 := 156) (pc' := 160) rfl (Jvm.hb hby at_156) (by decide) (by decide) ?_
        show Steps p.tables e below (Tm45.setTop (mkF m 160 #[.val (.int p1), .val (.int p2), .val (.int p3), .val (.int (f1 p1 (p3 &&& (3 : Int32)))), .val (.int (f1 p2 (((p3.toUInt32 >>> ((2 : Int32) &&& 31).toUInt32).toInt32) &&& (3 : Int32)))), .val (.int (f2 (f1 p1 (p3 &&& (3 : Int32))) (f1 p2 (((p3.toUInt32 >>> ((2 : Int32) &&& 31).toUInt32).toInt32) &&& (3 : Int32))))), .val (.int (f0_u2 p1 p2 p3)), .val (.int ((f0_u3 p1 p3) + (f0_u4 p1 p2 p3))), .val (.int (f0_u7 p1 p2 p3))] [(.int (1 : Int32))])) t
        exact k
      obtain ⟨fs, hr, hrun, hended, hW, hsame⟩ := Xm45.leave (v := some (.int (1 : Int32))) (fun h => by rw [Bd.returns] at h; cases h) Bd.notSynchronized
      refine ⟨_, _, pre0 _ (K1 _ (K3 _ (K4 _ (K6 _ (K7 _ (K9 _ (K10 _ (K11 _ (K27 _ (K29 _ (K30 _ (K32 _ (K33 _ (K38 _ (K39 _ (K44 _ (Km45 _ (K87 _ (K89 _ (K90 _ (retN Xm45 hx (t := .boolean) Bd.returns (by simp) (Jvm.hb hby at_160) hr))))))))))))))))))))), hrun, hended, _, _, rfl, ?_, ⟨_, rfl⟩, hW, hsame.mono (by decide) (by decide)⟩
      show Q0 Z p1 p2 p3 h0 n0 _ Tm45.heap _
      rw [em45]
      exact ⟨congrArg (fun z => some (Value.int z)) (show (1 : Int32) = f0 p1 p2 p3 from Eq.symm ((if_pos hc28).trans (if_pos hc88))), Nm45, rfl⟩
    · have K91 : ∀ t, Steps p.tables e below (Tm45.setTop (mkF m 159 #[.val (.int p1), .val (.int p2), .val (.int p3), .val (.int (f1 p1 (p3 &&& (3 : Int32)))), .val (.int (f1 p2 (((p3.toUInt32 >>> ((2 : Int32) &&& 31).toUInt32).toInt32) &&& (3 : Int32)))), .val (.int (f2 (f1 p1 (p3 &&& (3 : Int32))) (f1 p2 (((p3.toUInt32 >>> ((2 : Int32) &&& 31).toUInt32).toInt32) &&& (3 : Int32))))), .val (.int (f0_u2 p1 p2 p3)), .val (.int ((f0_u3 p1 p3) + (f0_u4 p1 p2 p3))), .val (.int (f0_u7 p1 p2 p3))] [])) t → Steps p.tables e below (Tm45.setTop (mkF m 152 #[.val (.int p1), .val (.int p2), .val (.int p3), .val (.int (f1 p1 (p3 &&& (3 : Int32)))), .val (.int (f1 p2 (((p3.toUInt32 >>> ((2 : Int32) &&& 31).toUInt32).toInt32) &&& (3 : Int32)))), .val (.int (f2 (f1 p1 (p3 &&& (3 : Int32))) (f1 p2 (((p3.toUInt32 >>> ((2 : Int32) &&& 31).toUInt32).toInt32) &&& (3 : Int32))))), .val (.int (f0_u2 p1 p2 p3)), .val (.int ((f0_u3 p1 p3) + (f0_u4 p1 p2 p3))), .val (.int (f0_u7 p1 p2 p3))] [(.int (f0_u7 p1 p2 p3)), (.int ((f0_u3 p1 p3) + (f0_u4 p1 p2 p3)))])) t := by
        intro t k
        refine XS.icmpYes Xm45.here hx rfl (pc0 := 152) (pc' := 159) rfl (Jvm.hb hby at_152) rfl (feq hc88).2 (by decide) (by decide) ?_
        exact k
      have K92 : ∀ t, Steps p.tables e below (Tm45.setTop (mkF m 160 #[.val (.int p1), .val (.int p2), .val (.int p3), .val (.int (f1 p1 (p3 &&& (3 : Int32)))), .val (.int (f1 p2 (((p3.toUInt32 >>> ((2 : Int32) &&& 31).toUInt32).toInt32) &&& (3 : Int32)))), .val (.int (f2 (f1 p1 (p3 &&& (3 : Int32))) (f1 p2 (((p3.toUInt32 >>> ((2 : Int32) &&& 31).toUInt32).toInt32) &&& (3 : Int32))))), .val (.int (f0_u2 p1 p2 p3)), .val (.int ((f0_u3 p1 p3) + (f0_u4 p1 p2 p3))), .val (.int (f0_u7 p1 p2 p3))] [(.int (0 : Int32))])) t → Steps p.tables e below (Tm45.setTop (mkF m 159 #[.val (.int p1), .val (.int p2), .val (.int p3), .val (.int (f1 p1 (p3 &&& (3 : Int32)))), .val (.int (f1 p2 (((p3.toUInt32 >>> ((2 : Int32) &&& 31).toUInt32).toInt32) &&& (3 : Int32)))), .val (.int (f2 (f1 p1 (p3 &&& (3 : Int32))) (f1 p2 (((p3.toUInt32 >>> ((2 : Int32) &&& 31).toUInt32).toInt32) &&& (3 : Int32))))), .val (.int (f0_u2 p1 p2 p3)), .val (.int ((f0_u3 p1 p3) + (f0_u4 p1 p2 p3))), .val (.int (f0_u7 p1 p2 p3))] [])) t := by
        intro t k
        refine XS.iconst Xm45.here hx rfl (Jvm.hb hby at_159) ?_
        show Steps p.tables e below (Tm45.setTop (mkF m 160 #[.val (.int p1), .val (.int p2), .val (.int p3), .val (.int (f1 p1 (p3 &&& (3 : Int32)))), .val (.int (f1 p2 (((p3.toUInt32 >>> ((2 : Int32) &&& 31).toUInt32).toInt32) &&& (3 : Int32)))), .val (.int (f2 (f1 p1 (p3 &&& (3 : Int32))) (f1 p2 (((p3.toUInt32 >>> ((2 : Int32) &&& 31).toUInt32).toInt32) &&& (3 : Int32))))), .val (.int (f0_u2 p1 p2 p3)), .val (.int ((f0_u3 p1 p3) + (f0_u4 p1 p2 p3))), .val (.int (f0_u7 p1 p2 p3))] [(.int (0 : Int32))])) t
        exact k
      obtain ⟨fs, hr, hrun, hended, hW, hsame⟩ := Xm45.leave (v := some (.int (0 : Int32))) (fun h => by rw [Bd.returns] at h; cases h) Bd.notSynchronized
      refine ⟨_, _, pre0 _ (K1 _ (K3 _ (K4 _ (K6 _ (K7 _ (K9 _ (K10 _ (K11 _ (K27 _ (K29 _ (K30 _ (K32 _ (K33 _ (K38 _ (K39 _ (K44 _ (Km45 _ (K87 _ (K91 _ (K92 _ (retN Xm45 hx (t := .boolean) Bd.returns (by simp) (Jvm.hb hby at_160) hr))))))))))))))))))))), hrun, hended, _, _, rfl, ?_, ⟨_, rfl⟩, hW, hsame.mono (by decide) (by decide)⟩
      show Q0 Z p1 p2 p3 h0 n0 _ Tm45.heap _
      rw [em45]
      exact ⟨congrArg (fun z => some (Value.int z)) (show (0 : Int32) = f0 p1 p2 p3 from Eq.symm ((if_pos hc28).trans (if_neg hc88))), Nm45, rfl⟩
  · have K93 : ∀ t, Steps p.tables e below (T8.setTop (mkF m 73 #[.val (.int p1), .val (.int p2), .val (.int p3), .val (.int (f1 p1 (p3 &&& (3 : Int32)))), .val (.int (f1 p2 (((p3.toUInt32 >>> ((2 : Int32) &&& 31).toUInt32).toInt32) &&& (3 : Int32)))), .val (.int (f2 (f1 p1 (p3 &&& (3 : Int32))) (f1 p2 (((p3.toUInt32 >>> ((2 : Int32) &&& 31).toUInt32).toInt32) &&& (3 : Int32))))), .val (.int (f0_u2 p1 p2 p3)), .unset, .unset] [])) t → Steps p.tables e below (T8.setTop (mkF m 70 #[.val (.int p1), .val (.int p2), .val (.int p3), .val (.int (f1 p1 (p3 &&& (3 : Int32)))), .val (.int (f1 p2 (((p3.toUInt32 >>> ((2 : Int32) &&& 31).toUInt32).toInt32) &&& (3 : Int32)))), .val (.int (f2 (f1 p1 (p3 &&& (3 : Int32))) (f1 p2 (((p3.toUInt32 >>> ((2 : Int32) &&& 31).toUInt32).toInt32) &&& (3 : Int32))))), .val (.int (f0_u2 p1 p2 p3)), .unset, .unset] [(.int (f0_u2 p1 p2 p3)), (.int (f2 (f1 p1 (p3 &&& (3 : Int32))) (f1 p2 (((p3.toUInt32 >>> ((2 : Int32) &&& 31).toUInt32).toInt32) &&& (3 : Int32)))))])) t := by
      intro t k
      refine XS.icmpNo X8.here hx rfl (Jvm.hb hby at_70) rfl (feq hc28).1 ?_
      exact k
    have K94 : ∀ t, Steps p.tables e below (T8.setTop (mkF m 74 #[.val (.int p1), .val (.int p2), .val (.int p3), .val (.int (f1 p1 (p3 &&& (3 : Int32)))), .val (.int (f1 p2 (((p3.toUInt32 >>> ((2 : Int32) &&& 31).toUInt32).toInt32) &&& (3 : Int32)))), .val (.int (f2 (f1 p1 (p3 &&& (3 : Int32))) (f1 p2 (((p3.toUInt32 >>> ((2 : Int32) &&& 31).toUInt32).toInt32) &&& (3 : Int32))))), .val (.int (f0_u2 p1 p2 p3)), .unset, .unset] [(.int (0 : Int32))])) t → Steps p.tables e below (T8.setTop (mkF m 73 #[.val (.int p1), .val (.int p2), .val (.int p3), .val (.int (f1 p1 (p3 &&& (3 : Int32)))), .val (.int (f1 p2 (((p3.toUInt32 >>> ((2 : Int32) &&& 31).toUInt32).toInt32) &&& (3 : Int32)))), .val (.int (f2 (f1 p1 (p3 &&& (3 : Int32))) (f1 p2 (((p3.toUInt32 >>> ((2 : Int32) &&& 31).toUInt32).toInt32) &&& (3 : Int32))))), .val (.int (f0_u2 p1 p2 p3)), .unset, .unset] [])) t := by
      intro t k
      refine XS.iconst X8.here hx rfl (Jvm.hb hby at_73) ?_
      show Steps p.tables e below (T8.setTop (mkF m 74 #[.val (.int p1), .val (.int p2), .val (.int p3), .val (.int (f1 p1 (p3 &&& (3 : Int32)))), .val (.int (f1 p2 (((p3.toUInt32 >>> ((2 : Int32) &&& 31).toUInt32).toInt32) &&& (3 : Int32)))), .val (.int (f2 (f1 p1 (p3 &&& (3 : Int32))) (f1 p2 (((p3.toUInt32 >>> ((2 : Int32) &&& 31).toUInt32).toInt32) &&& (3 : Int32))))), .val (.int (f0_u2 p1 p2 p3)), .unset, .unset] [(.int (0 : Int32))])) t
      exact k
    obtain ⟨fs, hr, hrun, hended, hW, hsame⟩ := X8.leave (v := some (.int (0 : Int32))) (fun h => by rw [Bd.returns] at h; cases h) Bd.notSynchronized
    refine ⟨_, _, pre0 _ (K1 _ (K3 _ (K4 _ (K6 _ (K7 _ (K9 _ (K10 _ (K11 _ (K27 _ (K93 _ (K94 _ (retN X8 hx (t := .boolean) Bd.returns (by simp) (Jvm.hb hby at_74) hr)))))))))))), hrun, hended, _, _, rfl, ?_, ⟨_, rfl⟩, hW, hsame.mono (by decide) (by decide)⟩
    show Q0 Z p1 p2 p3 h0 n0 _ T8.heap _
    rw [e8]
    exact ⟨congrArg (fun z => some (Value.int z)) (show (0 : Int32) = f0 p1 p2 p3 from Eq.symm (if_neg hc28)), N8, rfl⟩
theorem plain (a b c : Int32) : f0 a b c = 1 := by
  unfold f0 f0_u7 f0_u6 f0_u5 f0_u4 f0_u3 f0_u2 f0_u1
  generalize f1 a (c &&& 3) = v
  generalize f1 b _ = w
  unfold f2 f3
  by_cases h1 : v = 13
  · subst h1
    by_cases h3 : w = 13
    · subst h3; decide
    · by_cases h4 : w = 10
      · subst h4; decide
      · simp [h3, h4]
  · by_cases h2 : v = 10
    · subst h2
      by_cases h3 : w = 13
      · subst h3; decide
      · by_cases h4 : w = 10
        · subst h4; decide
        · simp [h3, h4]
    · by_cases h3 : w = 13
      · subst h3; simp [h1, h2]
      · by_cases h4 : w = 10
        · subst h4; simp [h1, h2]
        · simp [h1, h2, h3, h4]
set_option maxRecDepth 65536 in
set_option maxHeartbeats 40000000 in
theorem comes_1 {Post : Tables → Env → Array Value → State → Outcome → State → Prop} (hpost : ∀ tb e args s v u, (limb_1_1.after args s (.returned v) u = true ∧ limb_1_2.after args s (.returned v) u = true ∧ True) → FrameEnd s (.returned v) u (Jvm.fieldLocs frame_1_writes args s ++ Jvm.arrayLocs frame_1_arrays args s ++ Jvm.staticLocs frame_1_statics s) 0 0 → Post tb e args s (.returned v) u) :
    ArmFor flags0 classFile x code maxLocals ret World_1 tables_1 room_1 Calls_1 rest_1 Pre_1 Post := by
  intro l hfl _ _ p e ha hc hk s m args below hf hA hF happ hP
  obtain ⟨hcalls, hrest, hpre⟩ := hP
  obtain ⟨-, -, -, hnamed, -, -, -, hat⟩ := (Spec.applies_iff hf).mp happ
  obtain ⟨hg, hn⟩ := and_e (Cond.before_iff.mp (show (Jvm.Cond.and given_1 narrow_1).before args s = true from hpre))
  obtain ⟨gc, g0⟩ := and_e hg
  obtain ⟨gi0, g1⟩ := and_e g0
  obtain ⟨gi1, g2⟩ := and_e g1
  have gi2 := g2
  obtain ⟨w0, w1, w2, rfl⟩ : ∃ w0 w1 w2 : Value, args = #[w0, w1, w2] := by
    have hs : args.size = 3 := by simpa [Cond.value, given_1] using gc
    obtain ⟨L⟩ := args
    match L, hs with
    | [w0, w1, w2], _ => exact ⟨w0, w1, w2, rfl⟩
  have hw := fun d (hd : d ∈ tables_1) => atoms_spec (ws := Jvm.Cond.code x code maxLocals ret :: tables_1) hat d (List.mem_cons_of_mem _ hd)
  have hfit : Fit s := fun {y c} hc i hi => by
    obtain ⟨ha, rfl⟩ := Array.getElem?_eq_some_iff.mp hc
    have q := List.all_eq_true.mp ((Array.all_eq_true_iff_forall_mem.mp hF) _ (Array.getElem_mem ha)) i (List.mem_range.mpr hi)
    simpa [Array.getElem?_eq_getElem hi] using q
  obtain ⟨i0, ei0⟩ := is_v gi0
  obtain rfl : w0 = (.int i0) := Option.some.inj ei0
  obtain ⟨i1, ei1⟩ := is_v gi1
  obtain rfl : w1 = (.int i1) := Option.some.inj ei1
  obtain ⟨i2, ei2⟩ := is_v gi2
  obtain rfl : w2 = (.int i2) := Option.some.inj ei2
  obtain ⟨n, o, h1, h2, h3, v, L, rfl, ⟨hv, N, -⟩, hq⟩ := rm0 l s _ hw tables_1 i0 i1 i2 s.heap s.heap.size (Nat.le_refl _)  p e ha hc hk s m _ below hf ((Spec.applies_iff_loose hf).mp happ).1 ⟨rfl, State.Warmed39.refl s, rfl⟩ trivial
  rw [plain i0 i1 i2] at hv
  subst hv
  refine ⟨n, _, h1, h2, h3, hpost _ _ _ _ _ _ ⟨Cond.after_iff.mpr rfl, Cond.after_iff.mpr (eq_i res_at (Term.int_eval (1)) rfl), trivial⟩ ⟨hq.1, hq.2.1, (hq.2.2.sift fun y hy => Or.inr (N y hy)).mono (by decide) (by decide)⟩⟩
theorem main_1_1 : Claimed_1_1 := comes_1 fun _ _ _ _ _ _ h hF => ⟨h.1, hF⟩
theorem main_1_2 : Claimed_1_2 := comes_1 fun _ _ _ _ _ _ h hF => ⟨h.2.1, hF⟩
end Jvm.Pilot.@@N@@
namespace Jvm.Pilot.@@N@@
open Jvm Jvm.ClassFile Sem Op Lib Jvm.Free Jvm.Stand Jvm.Pilot.@@N@@.Jvm.D
/-! MADE BY PROGRAM (witnessworld.py) out of the Statement's table words and the real class files: 9 classes; the members and pool entries that the words name. The judged class is class 1, her method 3. -/
namespace start1
open Jvm.ClassFile
def u (s : String) : CpInfo := .utf8 (stringToUtf16 s)
/-- a pool by its gaps: so many unusable entries, then the entry; so many at the end -/
def gap : Nat → List CpInfo → List CpInfo
  | 0, r => r
  | n + 1, r => .unusable :: gap n r
def poolList (es : List (Nat × CpInfo)) (last : Nat) : List CpInfo := es.foldr (fun e r => gap e.1 (e.2 :: r)) (gap last [])
def pool (es : List (Nat × CpInfo)) (last : Nat) : Array CpInfo := ⟨poolList es last⟩
def fileOf (pool : Array CpInfo) (this : Nat) (attrs : Array Attribute := #[]) (ms : Array MethodInfo := #[]) (fl : Nat := 33) (sup : Nat := 0) (ifs : Array Nat := #[]) (fds : Array FieldInfo := #[]) : ClassFile where
  minorVersion := 0
  majorVersion := 65
  constantPool := pool
  accessFlags := fl
  thisClass := this
  superClass := sup
  interfaces := ifs
  fields := fds
  methods := ms
  attributes := attrs
def plain (name : String) (sup : Option ClassId) : Class where
  name := name
  kind := .ordinary
  loader := none
  accessFlags := 33
  super := sup
  interfaces := #[]
  cf := none
  fields := #[]
  methods := #[]
  instanceTypes := #[]
  staticTypes := #[]
  resolved := #[]
  callSites := []
  init := .initialized
  statics := none
  mirror := none

def pool0 : Array CpInfo := pool [(5, u "<init>"), (0, u "()V"), (1, .class_ 10), (1, u "java/lang/Object")] 113

def k0m0 : Method := { name := "<init>", desc := "()V", sig := { parameters := [], returnType := none }, accessFlags := 1, code := none }
/-- java/lang/Object -/
def k0 : Class := { plain "java/lang/Object" none with
  accessFlags := 33
  interfaces := #[]
  cf := some (fileOf pool0 8 #[] #[{ accessFlags := 1, nameIndex := 5, descriptorIndex := 6, attributes := #[] }] 33 0 #[] #[])
  fields := #[]
  methods := #[k0m0]
  instanceTypes := #[]
  staticTypes := #[]
  resolved := Array.replicate 124 none
  statics := none }

def pool1 : Array CpInfo := pool [(2, .class_ 4), (1, u "java/lang/Object"), (0, u "<init>"), (0, u "()V"), (0, .integer 65535), (0, .methodref 9 10), (0, .class_ 11), (0, .nameAndType 12 13), (0, u x.cls), (0, u "pick"), (0, u "(II)C"), (0, .methodref 15 16), (0, .class_ 17), (0, .nameAndType 18 19), (0, u site_22.cls), (0, u "endsLine"), (0, u "(CC)Z"), (0, .methodref 9 21), (0, .nameAndType 22 23), (0, u "isBreak"), (0, u "(C)Z"), (3, u "law"), (0, u "(III)Z")] 2

def k1m0 : Method := { name := "<init>", desc := "()V", sig := { parameters := [], returnType := none }, accessFlags := 2, code := none }
def k1c1 : Code := { maxStack := 2, maxLocals := 2, code := method_2_code, exceptionTable := #[], attributes := #[] }
def k1m1 : Method := { name := "pick", desc := "(II)C", sig := { parameters := [.int, .int], returnType := some .char }, accessFlags := 10, code := some k1c1 }
def k1c2 : Code := { maxStack := 2, maxLocals := 1, code := method_3_code, exceptionTable := #[], attributes := #[] }
def k1m2 : Method := { name := "isBreak", desc := "(C)Z", sig := { parameters := [.char], returnType := some .boolean }, accessFlags := 10, code := some k1c2 }
def k1c3 : Code := { maxStack := 3, maxLocals := 9, code := code, exceptionTable := #[], attributes := #[] }
def k1m3 : Method := { name := "law", desc := "(III)Z", sig := { parameters := [.int, .int, .int], returnType := some .boolean }, accessFlags := 9, code := some k1c3 }
def k1 : Class := { plain x.cls (some 0) with
  accessFlags := 49
  interfaces := #[]
  cf := some (fileOf pool1 9 #[] #[{ accessFlags := 2, nameIndex := 5, descriptorIndex := 6, attributes := #[] }, { accessFlags := 10, nameIndex := 12, descriptorIndex := 13, attributes := #[] }, { accessFlags := 10, nameIndex := 22, descriptorIndex := 23, attributes := #[] }, { accessFlags := 9, nameIndex := 27, descriptorIndex := 28, attributes := #[] }] 49 2 #[] #[])
  fields := #[]
  methods := #[k1m0, k1m1, k1m2, k1m3]
  instanceTypes := #[]
  staticTypes := #[]
  resolved := Array.replicate 31 none
  statics := none }

def pool2 : Array CpInfo := pool [(2, .class_ 4), (1, u "java/lang/Object"), (3, .class_ 10), (1, u site_22.cls), (0, u "text"), (0, u "Ljava/lang/String;"), (2, u "source"), (2, u "firstLine"), (0, u "I"), (2, u "unit"), (2, u "position"), (252, u "endsLine"), (0, u "(CC)Z"), (9, .class_ 291), (1, u (site_22.cls ++ "$CodePointTest")), (21, u "NOT_IN_IRI"), (1, u "LOCAL_ESCAPES")] 110

def k2c0 : Code := { maxStack := 2, maxLocals := 2, code := prog_149_method_32_code, exceptionTable := #[], attributes := #[] }
def k2m0 : Method := { name := "endsLine", desc := "(CC)Z", sig := { parameters := [.char, .char], returnType := some .boolean }, accessFlags := 8, code := some k2c0 }
def k2 : Class := { plain site_22.cls (some 0) with
  accessFlags := 49
  interfaces := #[]
  cf := some (fileOf pool2 8 #[.nestMembers #[289]] #[{ accessFlags := 8, nameIndex := 278, descriptorIndex := 279, attributes := #[] }] 49 2 #[] #[{ accessFlags := 26, nameIndex := 313, descriptorIndex := 12, attributes := #[] }, { accessFlags := 26, nameIndex := 315, descriptorIndex := 12, attributes := #[] }, { accessFlags := 18, nameIndex := 11, descriptorIndex := 12, attributes := #[] }, { accessFlags := 18, nameIndex := 15, descriptorIndex := 12, attributes := #[] }, { accessFlags := 18, nameIndex := 18, descriptorIndex := 19, attributes := #[] }, { accessFlags := 18, nameIndex := 22, descriptorIndex := 12, attributes := #[] }, { accessFlags := 2, nameIndex := 25, descriptorIndex := 19, attributes := #[] }])
  fields := #[{ name := "NOT_IN_IRI", type := (.object "java/lang/String"), accessFlags := 26, slot := 0, constantValue := 0 }, { name := "LOCAL_ESCAPES", type := (.object "java/lang/String"), accessFlags := 26, slot := 1, constantValue := 0 }, { name := "text", type := (.object "java/lang/String"), accessFlags := 18, slot := 0, constantValue := 0 }, { name := "source", type := (.object "java/lang/String"), accessFlags := 18, slot := 1, constantValue := 0 }, { name := "firstLine", type := .int, accessFlags := 18, slot := 2, constantValue := 0 }, { name := "unit", type := (.object "java/lang/String"), accessFlags := 18, slot := 3, constantValue := 0 }, { name := "position", type := .int, accessFlags := 2, slot := 4, constantValue := 0 }]
  methods := #[k2m0]
  instanceTypes := #[(.object "java/lang/String"), (.object "java/lang/String"), .int, (.object "java/lang/String"), .int]
  staticTypes := #[(.object "java/lang/String"), (.object "java/lang/String")]
  resolved := Array.replicate 426 none
  statics := none }

def pool3 : Array CpInfo := pool [(1, u "java/lang/Cloneable"), (0, .class_ 1), (0, u "java/lang/Object"), (0, .class_ 3)] 3

/-- java/lang/Cloneable -/
def k3 : Class := { plain "java/lang/Cloneable" (some 0) with
  accessFlags := 1537
  interfaces := #[]
  cf := some (fileOf pool3 2 #[] #[] 1537 4 #[] #[])
  fields := #[]
  methods := #[]
  instanceTypes := #[]
  staticTypes := #[]
  resolved := Array.replicate 8 none
  statics := none }

def pool4 : Array CpInfo := pool [(1, u "java/io/Serializable"), (0, .class_ 1), (0, u "java/lang/Object"), (0, .class_ 3)] 3

/-- java/io/Serializable -/
def k4 : Class := { plain "java/io/Serializable" (some 0) with
  accessFlags := 1537
  interfaces := #[]
  cf := some (fileOf pool4 2 #[] #[] 1537 4 #[] #[])
  fields := #[]
  methods := #[]
  instanceTypes := #[]
  staticTypes := #[]
  resolved := Array.replicate 8 none
  statics := none }

/-- the primitive byte -/
def k5 : Class := { plain "byte" none with kind := .primitive 'B', accessFlags := 0x411 }
/-- [B -/
def k6 : Class := { plain "[B" (some 0) with kind := .array 5 .byte, interfaces := #[3, 4], accessFlags := 1041 }

/-- the primitive int -/
def k7 : Class := { plain "int" none with kind := .primitive 'I', accessFlags := 0x411 }
/-- [I -/
def k8 : Class := { plain "[I" (some 0) with kind := .array 7 .int, interfaces := #[3, 4], accessFlags := 1041 }

def heap : Heap := #[]
def classes : Array Class := #[k0, k1, k2, k3, k4, k5, k6, k7, k8]
def interned : List (Array UInt16 × Addr) := []
def slotsUsed : Nat := 0
def theMethod : MethodId := ⟨1, 3⟩
def args0 : Array Value := #[.int 5, .int 6, .int 7]
def aboutOver (below : List Frame) : State where
  vm := { classes := classes, interned := interned.toArray }
  heap := heap
  slotsUsed := slotsUsed
  threads := #[{ frames := .invoking theMethod args0 :: below }]
def below0 : List Frame := [.native { method := ⟨0, 0⟩, args := #[] }]
def about1 : State := aboutOver below0
def p0 : Program := .bare "" "" ""
def e0 : Env := launch0.env 0 0 0
theorem w_frames : about1.frames = Frame.invoking theMethod args0 :: below0 := rfl
set_option maxRecDepth 65536 in
theorem w_args : argsFit about1.vm theMethod args0 = true := by decide +kernel
set_option maxRecDepth 65536 in
theorem w_heap : heapFits about1 = true := by decide +kernel
set_option maxRecDepth 65536 in
theorem w_runnable : about1.curStatus? = some .runnable := by decide +kernel
set_option maxRecDepth 65536 in
theorem w_alone : about1.alone = true := by decide +kernel
set_option maxRecDepth 65536 in
theorem w_named : about1.methodNamed? x = some theMethod := by decide +kernel
set_option maxRecDepth 65536 in
theorem w_hears : about1.hears theMethod below0 = true := by decide +kernel
set_option maxRecDepth 65536 in
theorem w_ripe : about1.ripe theMethod args0 below0 = true := by decide +kernel
theorem w_running : about1.status = .running := rfl
set_option maxRecDepth 65536 in
theorem w_room : about1.hasRoom e0.platform room_1 = true :=
  launch0.hasRoom_least _ room_1 (by decide +kernel) (by decide +kernel) (by decide +kernel) (by decide +kernel) (by decide +kernel) (by decide +kernel)
theorem allAtoms_all (ts : List Jvm.Cond) (a : Array Jvm.Value) (st : Jvm.State) : (allAtoms ts).before a st = ts.all (fun c => c.before a st) := by
  induction ts with
  | nil => rfl
  | cons c t ih =>
    show (Jvm.Cond.and c (allAtoms t)).before a st = _
    rw [Jvm.Cond.before_and, ih, List.all_cons]
def words1 : List Jvm.Cond := Jvm.Cond.code x code maxLocals ret :: tables_1
/-- a 'code' word, met by the world's own term for the bytes: nothing is compared byte by byte -/
theorem code_word {y : MethodName} {bytes : ByteArray} {mx : Nat} {rt : Option FieldType} {a : Array Value} {s : State} {m : MethodId} {meth : Method} {c : Code} (h1 : s.methodNamed? y = some m) (h2 : s.vm.method? m = some meth) (h3 : meth.code = some c) (h4 : c.code = bytes)
    (h5 : (c.maxLocals == mx && c.exceptionTable.isEmpty && decide (c.maxStack ≤ mostOperands) && decide (meth.sig.returnType = rt) && !meth.locks && decide (parseMethodDescriptor y.desc = some meth.sig)) = true) : (Jvm.Cond.code y bytes mx rt).before a s = true := by
  simp only [Bool.and_eq_true, beq_iff_eq, Bool.not_eq_true', decide_eq_true_eq] at h5
  obtain ⟨⟨⟨⟨⟨g1, g2⟩, g3⟩, g4⟩, g5⟩, g6⟩ := h5
  simp [Cond.before, Cond.holds, Cond.value, h1, h2, h3, h4, g1, g2, g3, g4, g5, g6]
def isCode : Jvm.Cond → Bool
  | .code _ _ _ _ => true
  | _ => false
theorem all_split {L : List Jvm.Cond} {P : Jvm.Cond → Bool} (h1 : L.all (fun c => isCode c || P c) = true) (h2 : ∀ c ∈ L.filter isCode, P c = true) : L.all P = true := by
  refine List.all_eq_true.mpr fun c hc => ?_
  have h := List.all_eq_true.mp h1 c hc
  rcases Bool.eq_false_or_eq_true (isCode c) with hi | hi
  · exact h2 c (List.mem_filter.mpr ⟨hc, hi⟩)
  · simpa [hi] using h
set_option maxRecDepth 65536 in
theorem w_c0 : (Jvm.Cond.code x code maxLocals ret).before args0 about1 = true := code_word (m := ⟨1, 3⟩) (meth := k1m3) (c := k1c3) (by decide +kernel) rfl rfl rfl (by decide +kernel)
set_option maxRecDepth 65536 in
theorem w_c1 : (Jvm.Cond.code ({ cls := x.cls, name := "pick", desc := "(II)C" } : Jvm.MethodName) method_2_code (2 : Nat) (Option.some Jvm.ClassFile.FieldType.char)).before args0 about1 = true := code_word (m := ⟨1, 1⟩) (meth := k1m1) (c := k1c1) (by decide +kernel) rfl rfl rfl (by decide +kernel)
set_option maxRecDepth 65536 in
theorem w_c2 : (Jvm.Cond.code ({ cls := site_22.cls, name := "endsLine", desc := "(CC)Z" } : Jvm.MethodName) prog_149_method_32_code (2 : Nat) (Option.some Jvm.ClassFile.FieldType.boolean)).before args0 about1 = true := code_word (m := ⟨2, 0⟩) (meth := k2m0) (c := k2c0) (by decide +kernel) rfl rfl rfl (by decide +kernel)
set_option maxRecDepth 65536 in
theorem w_c3 : (Jvm.Cond.code ({ cls := x.cls, name := "isBreak", desc := "(C)Z" } : Jvm.MethodName) method_3_code (1 : Nat) (Option.some Jvm.ClassFile.FieldType.boolean)).before args0 about1 = true := code_word (m := ⟨1, 2⟩) (meth := k1m2) (c := k1c2) (by decide +kernel) rfl rfl rfl (by decide +kernel)
def codes1 : List Jvm.Cond := [Jvm.Cond.code x code maxLocals ret, Jvm.Cond.code ({ cls := x.cls, name := "pick", desc := "(II)C" } : Jvm.MethodName) method_2_code (2 : Nat) (Option.some Jvm.ClassFile.FieldType.char), Jvm.Cond.code ({ cls := site_22.cls, name := "endsLine", desc := "(CC)Z" } : Jvm.MethodName) prog_149_method_32_code (2 : Nat) (Option.some Jvm.ClassFile.FieldType.boolean), Jvm.Cond.code ({ cls := x.cls, name := "isBreak", desc := "(C)Z" } : Jvm.MethodName) method_3_code (1 : Nat) (Option.some Jvm.ClassFile.FieldType.boolean)]
set_option maxRecDepth 65536 in
theorem codes_eq : words1.filter isCode = codes1 := rfl
theorem w_codes : ∀ c ∈ words1.filter isCode, c.before args0 about1 = true := by
  rw [codes_eq]
  intro c hc
  simp only [codes1, List.mem_cons, List.not_mem_nil, or_false] at hc
  rcases hc with rfl | rfl | rfl | rfl
  · exact w_c0
  · exact w_c1
  · exact w_c2
  · exact w_c3
set_option maxRecDepth 65536 in
theorem w_t1 : words1.all (fun c => isCode c || c.before args0 about1) = true := by decide +kernel
theorem w_tables : (allAtoms (Jvm.Cond.code x code maxLocals ret :: tables_1)).before args0 about1 = true := by
  rw [allAtoms_all]
  show words1.all (fun c => c.before args0 about1) = true
  refine all_split ?_ w_codes
  rw [w_t1]
set_option maxRecDepth 65536 in
theorem w_case : (Jvm.Cond.and given_1 narrow_1).before args0 about1 = true := by decide +kernel
theorem w_applies : (headSpec (Jvm.Cond.code x code maxLocals ret :: tables_1) room_1).applies x e0.platform about1 = true :=
  (Spec.applies_iff w_frames).mpr ⟨w_running, w_runnable, w_alone, w_named, w_hears, w_ripe, w_room, w_tables⟩
theorem atStart : AtStart classFile x code maxLocals ret World_1 tables_1 room_1 Calls_1 rest_1 Pre_1 launch0 p0 e0 about1 theMethod args0 below0 :=
  ⟨lists_1, trivial, launch0.admits_env _ _ _, launch0.least_env, fairChoices_fair.cas, fairChoices_fair.clock, w_frames, w_args, w_heap, w_applies, trivial, trivial, w_case⟩
end start1
theorem witness_1 : WitnessClaimed_1 := ⟨start1.p0, start1.e0, start1.about1, start1.theMethod, start1.args0, start1.below0, start1.atStart⟩
end Jvm.Pilot.@@N@@
