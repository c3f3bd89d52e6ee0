import JvmDerived
import JvmDerived.Pilot.@@N@@Statement
import JvmDerived.Pilot.@@N@@Code
set_option linter.unusedVariables false
set_option linter.unusedSimpArgs false
namespace Jvm.RoadKit
open Sem ClassFile Op Lib Jvm.Stand Jvm.Free Jvm.LawKit
section New
variable {p : Program} {l : Launch} {e : Env} {R : Room} {s : State} {m : MethodId} {args : Array Value} {below : List Frame} {meth : Method} {c : Code} {T : State} {locs : List Loc} {cells slots : Nat}
theorem retI (X : Stand p l e R s m args below meth c T locs cells slots) (hx : p.tables.exec = Jvm.exec) {pc : Nat} {Ls : Array Slot} {z : Int32} {rest : List Value} (hret : meth.sig.returnType = some .int) (hd : decode c.code pc = .ok (.ireturn, 1)) {fs : List Frame}
    (hl : ∀ (f : JFrame) (acts : List Action), f.method = m → f.locked = none → f.entered = [] → (doReturn e (T.setTop f) acts (some (.int z))).1 = T.setFrames fs) : Steps p.tables e below (T.setTop (mkF m pc Ls (.int z :: rest))) (T.setFrames fs) := by
  have hm' : T.vm.method? m = some meth := X.method'
  have hn : narrow .int (.int z) = .int z := rfl
  show Steps p.tables e below (T.setTop { method := m, pc := pc, locals := Ls, stack := _ :: rest, locked := none }) _
  jvm_step X.here [X.here.top, hx, hd, hm', hret, hn]
  first | (intro acts; rw [hl _ acts rfl rfl rfl]) | rw [hl _ _ rfl rfl rfl]
  exact Steps.refl _
end New
end Jvm.RoadKit
namespace Jvm.Pilot.@@N@@
open Jvm Jvm.ClassFile Sem Op Lib Jvm.Free Jvm.Stand Jvm.LawKit Jvm.RoadKit Bundle Jvm.Pilot.@@N@@.Jvm.D
-- body 2: com/example/hilera/hilera/amqp/Frame.isKnownType(I)Z
theorem d2_0 : decode prog_4_method_2_code 0 = .ok (.iload_n 0, 1) := by decide +kernel
theorem d2_1 : decode prog_4_method_2_code 1 = .ok (.iconst 1, 1) := by decide +kernel
theorem d2_2 : decode prog_4_method_2_code 2 = .ok (.if_icmp .eq 19, 3) := by decide +kernel
theorem d2_5 : decode prog_4_method_2_code 5 = .ok (.iload_n 0, 1) := by decide +kernel
theorem d2_6 : decode prog_4_method_2_code 6 = .ok (.iconst 2, 1) := by decide +kernel
theorem d2_7 : decode prog_4_method_2_code 7 = .ok (.if_icmp .eq 14, 3) := by decide +kernel
theorem d2_10 : decode prog_4_method_2_code 10 = .ok (.iload_n 0, 1) := by decide +kernel
theorem d2_11 : decode prog_4_method_2_code 11 = .ok (.iconst 3, 1) := by decide +kernel
theorem d2_12 : decode prog_4_method_2_code 12 = .ok (.if_icmp .eq 9, 3) := by decide +kernel
theorem d2_15 : decode prog_4_method_2_code 15 = .ok (.iload_n 0, 1) := by decide +kernel
theorem d2_16 : decode prog_4_method_2_code 16 = .ok (.bipush 8, 2) := by decide +kernel
theorem d2_18 : decode prog_4_method_2_code 18 = .ok (.if_icmp .ne 7, 3) := by decide +kernel
theorem d2_21 : decode prog_4_method_2_code 21 = .ok (.iconst 1, 1) := by decide +kernel
theorem d2_22 : decode prog_4_method_2_code 22 = .ok (.goto 4, 3) := by decide +kernel
theorem d2_25 : decode prog_4_method_2_code 25 = .ok (.iconst 0, 1) := by decide +kernel
theorem d2_26 : decode prog_4_method_2_code 26 = .ok (.ireturn, 1) := by decide +kernel
theorem pn_2 : plainName "com/example/hilera/hilera/amqp/Frame" = true := by first | (simp [plainName, overriddenIn]; done) | decide +kernel
theorem ef_2 (m : MethodId) (p1 : Int32) : entryFrame m #[(.int p1)] 1 = mkF m 0 #[.val (.int p1)] [] := by first | (simp [entryFrame, mkF, argsToLocals, Value.category]; done) | rfl
def f2 (p1 : Int32) : Int32 := (if p1 = (1 : Int32) then (1 : Int32) else (if p1 = (2 : Int32) then (1 : Int32) else (if p1 = (3 : Int32) then (1 : Int32) else (if p1 = (8 : Int32) then (1 : Int32) else (0 : Int32)))))
def Q2 (Z : State) (p1 : Int32) (h0 : Heap) (n0 : Nat) (v : Option Value) (h : Heap) (L : List Loc) : Prop := v = some (.int (f2 p1)) ∧ Fr n0 L ∧ h = h0
set_option maxRecDepth 65536 in
set_option maxHeartbeats 40000000 in
theorem rm2 (l : Launch) (Z : State) (a0 : Array Value) (hw : ∀ d ∈ tables_1, d.before a0 Z = true) (ws : List Jvm.Cond) (p1 : Int32) (h0 : Heap) (n0 : Nat) (Z0 : n0 ≤ h0.size) :
    MetFree l (⟨"com/example/hilera/hilera/amqp/Frame", "isKnownType", "(I)Z"⟩ : MethodName) (head1 (Jvm.Cond.code (⟨"com/example/hilera/hilera/amqp/Frame", "isKnownType", "(I)Z"⟩ : MethodName) prog_4_method_2_code 1 (some .boolean) :: ws) ({ frames := 0, cells := 0, slots := 0, locals := 0 } : Room)) (fun a U => a = #[(.int p1)] ∧ Z.Warmed39 U.vm ∧ U.heap = h0) (fun _ _ _ _ _ => True) (fun _ U o U' => ∃ v L, o = .returned v ∧ Q2 Z p1 h0 n0 v U'.heap L ∧ FrameEnd U o U' L ({ frames := 0, cells := 0, slots := 0, locals := 0 } : Room).cells ({ frames := 0, cells := 0, slots := 0, locals := 0 } : Room).slots) := by
  refine MetFree.of_bodySF (plainFor_of_name pn_2) hisR ?_
  intro p e s m args below meth c s₁ Bd hml0 hP hK
  obtain ⟨rfl, hZ, hh⟩ := hP
  have hx := Bd.exec
  have hby := Bd.bytes
  have hml : c.maxLocals = 1 := hml0
  have hown : s.vm.findClass "com/example/hilera/hilera/amqp/Frame" = some m.cls := findClass_of_methodNamed Bd.named
  have hnm := (name_of_methodNamed Bd.named Bd.method).1
  have X0 : Stand p l e ({ frames := 0, cells := 0, slots := 0, locals := 0 } : Room) s m #[(.int p1)] below meth c s₁ [] 0 0 := Stand.of_body Bd
  have e0 : s₁.heap = h0 := by rw [← hh, Bd.state]; rfl
  have N0 := Fr.nil n0
  have pre0 : ∀ t, Steps p.tables e below (s₁.setTop (mkF m 0 #[.val (.int p1)] [])) t → Steps p.tables e below (s₁.setTop (entryFrame m #[(.int p1)] 1)) t := fun t k => castTop (ef_2 m p1) k
  have K1 : ∀ t, Steps p.tables e below (s₁.setTop (mkF m 2 #[.val (.int p1)] [(.int (1 : Int32)), (.int p1)])) t → Steps p.tables e below (s₁.setTop (mkF m 0 #[.val (.int p1)] [])) t := by
    intro t k
    refine XS.iloadN X0.here hx rfl (hb hby d2_0) rfl ?_
    show Steps p.tables e below (s₁.setTop (mkF m 1 #[.val (.int p1)] [(.int p1)])) t
    refine XS.iconst X0.here hx rfl (hb hby d2_1) ?_
    show Steps p.tables e below (s₁.setTop (mkF m 2 #[.val (.int p1)] [(.int (1 : Int32)), (.int p1)])) t
    exact k
  by_cases hc2 : p1 = (1 : Int32)
  · have K3 : ∀ t, Steps p.tables e below (s₁.setTop (mkF m 21 #[.val (.int p1)] [])) t → Steps p.tables e below (s₁.setTop (mkF m 2 #[.val (.int p1)] [(.int (1 : Int32)), (.int p1)])) t := by
      intro t k
      refine XS.icmpYes X0.here hx rfl (pc0 := 2) (pc' := 21) rfl (hb hby d2_2) rfl (teq hc2).1 (by decide) (by decide) ?_
      exact k
    have K4 : ∀ t, Steps p.tables e below (s₁.setTop (mkF m 26 #[.val (.int p1)] [(.int (1 : Int32))])) t → Steps p.tables e below (s₁.setTop (mkF m 21 #[.val (.int p1)] [])) t := by
      intro t k
      refine XS.iconst X0.here hx rfl (hb hby d2_21) ?_
      show Steps p.tables e below (s₁.setTop (mkF m 22 #[.val (.int p1)] [(.int (1 : Int32))])) t
      refine XS.goto X0.here hx rfl (pc0 := 22) (pc' := 26) rfl (hb hby d2_22) (by decide) (by decide) ?_
      show Steps p.tables e below (s₁.setTop (mkF m 26 #[.val (.int p1)] [(.int (1 : Int32))])) t
      exact k
    obtain ⟨fs, hr, hrun, hended, hW, hsame⟩ := X0.leave (v := some (.int (1 : Int32))) (fun h => by rw [Bd.returns] at h; cases h)
    refine ⟨_, _, pre0 _ (K1 _ (K3 _ (K4 _ (retN X0 hx (t := .boolean) Bd.returns (by simp) (hb hby d2_26) hr)))), hrun, hended, _, _, rfl, ?_, ⟨_, rfl⟩, hW, hsame.mono (by decide) (by decide)⟩
    show Q2 Z p1 h0 n0 _ s₁.heap _
    rw [e0]
    exact ⟨congrArg (fun z => some (Value.int z)) (show (1 : Int32) = f2 p1 from Eq.symm (if_pos hc2)), N0, rfl⟩
  · have K5 : ∀ t, Steps p.tables e below (s₁.setTop (mkF m 5 #[.val (.int p1)] [])) t → Steps p.tables e below (s₁.setTop (mkF m 2 #[.val (.int p1)] [(.int (1 : Int32)), (.int p1)])) t := by
      intro t k
      refine XS.icmpNo X0.here hx rfl (hb hby d2_2) rfl (feq hc2).1 ?_
      exact k
    have K6 : ∀ t, Steps p.tables e below (s₁.setTop (mkF m 7 #[.val (.int p1)] [(.int (2 : Int32)), (.int p1)])) t → Steps p.tables e below (s₁.setTop (mkF m 5 #[.val (.int p1)] [])) t := by
      intro t k
      refine XS.iloadN X0.here hx rfl (hb hby d2_5) rfl ?_
      show Steps p.tables e below (s₁.setTop (mkF m 6 #[.val (.int p1)] [(.int p1)])) t
      refine XS.iconst X0.here hx rfl (hb hby d2_6) ?_
      show Steps p.tables e below (s₁.setTop (mkF m 7 #[.val (.int p1)] [(.int (2 : Int32)), (.int p1)])) t
      exact k
    by_cases hc7 : p1 = (2 : Int32)
    · have K8 : ∀ t, Steps p.tables e below (s₁.setTop (mkF m 21 #[.val (.int p1)] [])) t → Steps p.tables e below (s₁.setTop (mkF m 7 #[.val (.int p1)] [(.int (2 : Int32)), (.int p1)])) t := by
        intro t k
        refine XS.icmpYes X0.here hx rfl (pc0 := 7) (pc' := 21) rfl (hb hby d2_7) rfl (teq hc7).1 (by decide) (by decide) ?_
        exact k
      have K9 : ∀ t, Steps p.tables e below (s₁.setTop (mkF m 26 #[.val (.int p1)] [(.int (1 : Int32))])) t → Steps p.tables e below (s₁.setTop (mkF m 21 #[.val (.int p1)] [])) t := by
        intro t k
        refine XS.iconst X0.here hx rfl (hb hby d2_21) ?_
        show Steps p.tables e below (s₁.setTop (mkF m 22 #[.val (.int p1)] [(.int (1 : Int32))])) t
        refine XS.goto X0.here hx rfl (pc0 := 22) (pc' := 26) rfl (hb hby d2_22) (by decide) (by decide) ?_
        show Steps p.tables e below (s₁.setTop (mkF m 26 #[.val (.int p1)] [(.int (1 : Int32))])) t
        exact k
      obtain ⟨fs, hr, hrun, hended, hW, hsame⟩ := X0.leave (v := some (.int (1 : Int32))) (fun h => by rw [Bd.returns] at h; cases h)
      refine ⟨_, _, pre0 _ (K1 _ (K5 _ (K6 _ (K8 _ (K9 _ (retN X0 hx (t := .boolean) Bd.returns (by simp) (hb hby d2_26) hr)))))), hrun, hended, _, _, rfl, ?_, ⟨_, rfl⟩, hW, hsame.mono (by decide) (by decide)⟩
      show Q2 Z p1 h0 n0 _ s₁.heap _
      rw [e0]
      exact ⟨congrArg (fun z => some (Value.int z)) (show (1 : Int32) = f2 p1 from Eq.symm ((if_neg hc2).trans (if_pos hc7))), N0, rfl⟩
    · have K10 : ∀ t, Steps p.tables e below (s₁.setTop (mkF m 10 #[.val (.int p1)] [])) t → Steps p.tables e below (s₁.setTop (mkF m 7 #[.val (.int p1)] [(.int (2 : Int32)), (.int p1)])) t := by
        intro t k
        refine XS.icmpNo X0.here hx rfl (hb hby d2_7) rfl (feq hc7).1 ?_
        exact k
      have K11 : ∀ t, Steps p.tables e below (s₁.setTop (mkF m 12 #[.val (.int p1)] [(.int (3 : Int32)), (.int p1)])) t → Steps p.tables e below (s₁.setTop (mkF m 10 #[.val (.int p1)] [])) t := by
        intro t k
        refine XS.iloadN X0.here hx rfl (hb hby d2_10) rfl ?_
        show Steps p.tables e below (s₁.setTop (mkF m 11 #[.val (.int p1)] [(.int p1)])) t
        refine XS.iconst X0.here hx rfl (hb hby d2_11) ?_
        show Steps p.tables e below (s₁.setTop (mkF m 12 #[.val (.int p1)] [(.int (3 : Int32)), (.int p1)])) t
        exact k
      by_cases hc12 : p1 = (3 : Int32)
      · have K13 : ∀ t, Steps p.tables e below (s₁.setTop (mkF m 21 #[.val (.int p1)] [])) t → Steps p.tables e below (s₁.setTop (mkF m 12 #[.val (.int p1)] [(.int (3 : Int32)), (.int p1)])) t := by
          intro t k
          refine XS.icmpYes X0.here hx rfl (pc0 := 12) (pc' := 21) rfl (hb hby d2_12) rfl (teq hc12).1 (by decide) (by decide) ?_
          exact k
        have K14 : ∀ t, Steps p.tables e below (s₁.setTop (mkF m 26 #[.val (.int p1)] [(.int (1 : Int32))])) t → Steps p.tables e below (s₁.setTop (mkF m 21 #[.val (.int p1)] [])) t := by
          intro t k
          refine XS.iconst X0.here hx rfl (hb hby d2_21) ?_
          show Steps p.tables e below (s₁.setTop (mkF m 22 #[.val (.int p1)] [(.int (1 : Int32))])) t
          refine XS.goto X0.here hx rfl (pc0 := 22) (pc' := 26) rfl (hb hby d2_22) (by decide) (by decide) ?_
          show Steps p.tables e below (s₁.setTop (mkF m 26 #[.val (.int p1)] [(.int (1 : Int32))])) t
          exact k
        obtain ⟨fs, hr, hrun, hended, hW, hsame⟩ := X0.leave (v := some (.int (1 : Int32))) (fun h => by rw [Bd.returns] at h; cases h)
        refine ⟨_, _, pre0 _ (K1 _ (K5 _ (K6 _ (K10 _ (K11 _ (K13 _ (K14 _ (retN X0 hx (t := .boolean) Bd.returns (by simp) (hb hby d2_26) hr)))))))), hrun, hended, _, _, rfl, ?_, ⟨_, rfl⟩, hW, hsame.mono (by decide) (by decide)⟩
        show Q2 Z p1 h0 n0 _ s₁.heap _
        rw [e0]
        exact ⟨congrArg (fun z => some (Value.int z)) (show (1 : Int32) = f2 p1 from Eq.symm ((if_neg hc2).trans ((if_neg hc7).trans (if_pos hc12)))), N0, rfl⟩
      · have K15 : ∀ t, Steps p.tables e below (s₁.setTop (mkF m 15 #[.val (.int p1)] [])) t → Steps p.tables e below (s₁.setTop (mkF m 12 #[.val (.int p1)] [(.int (3 : Int32)), (.int p1)])) t := by
          intro t k
          refine XS.icmpNo X0.here hx rfl (hb hby d2_12) rfl (feq hc12).1 ?_
          exact k
        have K16 : ∀ t, Steps p.tables e below (s₁.setTop (mkF m 18 #[.val (.int p1)] [(.int (8 : Int32)), (.int p1)])) t → Steps p.tables e below (s₁.setTop (mkF m 15 #[.val (.int p1)] [])) t := by
          intro t k
          refine XS.iloadN X0.here hx rfl (hb hby d2_15) rfl ?_
          show Steps p.tables e below (s₁.setTop (mkF m 16 #[.val (.int p1)] [(.int p1)])) t
          refine XS.bipush X0.here hx rfl (hb hby d2_16) ?_
          show Steps p.tables e below (s₁.setTop (mkF m 18 #[.val (.int p1)] [(.int (8 : Int32)), (.int p1)])) t
          exact k
        by_cases hc17 : p1 = (8 : Int32)
        · have K18 : ∀ t, Steps p.tables e below (s₁.setTop (mkF m 21 #[.val (.int p1)] [])) t → Steps p.tables e below (s₁.setTop (mkF m 18 #[.val (.int p1)] [(.int (8 : Int32)), (.int p1)])) t := by
            intro t k
            refine XS.icmpNo X0.here hx rfl (hb hby d2_18) rfl (teq hc17).2 ?_
            exact k
          have K19 : ∀ t, Steps p.tables e below (s₁.setTop (mkF m 26 #[.val (.int p1)] [(.int (1 : Int32))])) t → Steps p.tables e below (s₁.setTop (mkF m 21 #[.val (.int p1)] [])) t := by
            intro t k
            refine XS.iconst X0.here hx rfl (hb hby d2_21) ?_
            show Steps p.tables e below (s₁.setTop (mkF m 22 #[.val (.int p1)] [(.int (1 : Int32))])) t
            refine XS.goto X0.here hx rfl (pc0 := 22) (pc' := 26) rfl (hb hby d2_22) (by decide) (by decide) ?_
            show Steps p.tables e below (s₁.setTop (mkF m 26 #[.val (.int p1)] [(.int (1 : Int32))])) t
            exact k
          obtain ⟨fs, hr, hrun, hended, hW, hsame⟩ := X0.leave (v := some (.int (1 : Int32))) (fun h => by rw [Bd.returns] at h; cases h)
          refine ⟨_, _, pre0 _ (K1 _ (K5 _ (K6 _ (K10 _ (K11 _ (K15 _ (K16 _ (K18 _ (K19 _ (retN X0 hx (t := .boolean) Bd.returns (by simp) (hb hby d2_26) hr)))))))))), hrun, hended, _, _, rfl, ?_, ⟨_, rfl⟩, hW, hsame.mono (by decide) (by decide)⟩
          show Q2 Z p1 h0 n0 _ s₁.heap _
          rw [e0]
          exact ⟨congrArg (fun z => some (Value.int z)) (show (1 : Int32) = f2 p1 from Eq.symm ((if_neg hc2).trans ((if_neg hc7).trans ((if_neg hc12).trans (if_pos hc17))))), N0, rfl⟩
        · have K20 : ∀ t, Steps p.tables e below (s₁.setTop (mkF m 25 #[.val (.int p1)] [])) t → Steps p.tables e below (s₁.setTop (mkF m 18 #[.val (.int p1)] [(.int (8 : Int32)), (.int p1)])) t := by
            intro t k
            refine XS.icmpYes X0.here hx rfl (pc0 := 18) (pc' := 25) rfl (hb hby d2_18) rfl (feq hc17).2 (by decide) (by decide) ?_
            exact k
          have K21 : ∀ t, Steps p.tables e below (s₁.setTop (mkF m 26 #[.val (.int p1)] [(.int (0 : Int32))])) t → Steps p.tables e below (s₁.setTop (mkF m 25 #[.val (.int p1)] [])) t := by
            intro t k
            refine XS.iconst X0.here hx rfl (hb hby d2_25) ?_
            show Steps p.tables e below (s₁.setTop (mkF m 26 #[.val (.int p1)] [(.int (0 : Int32))])) t
            exact k
          obtain ⟨fs, hr, hrun, hended, hW, hsame⟩ := X0.leave (v := some (.int (0 : Int32))) (fun h => by rw [Bd.returns] at h; cases h)
          refine ⟨_, _, pre0 _ (K1 _ (K5 _ (K6 _ (K10 _ (K11 _ (K15 _ (K16 _ (K20 _ (K21 _ (retN X0 hx (t := .boolean) Bd.returns (by simp) (hb hby d2_26) hr)))))))))), hrun, hended, _, _, rfl, ?_, ⟨_, rfl⟩, hW, hsame.mono (by decide) (by decide)⟩
          show Q2 Z p1 h0 n0 _ s₁.heap _
          rw [e0]
          exact ⟨congrArg (fun z => some (Value.int z)) (show (0 : Int32) = f2 p1 from Eq.symm ((if_neg hc2).trans ((if_neg hc7).trans ((if_neg hc12).trans (if_neg hc17))))), N0, rfl⟩
-- body 3: com/example/hilera/hilera/amqp/FrameIsKnownTypePinLaw.expected(I)Z
theorem d3_0 : decode method_2_code 0 = .ok (.iload_n 0, 1) := by decide +kernel
theorem d3_1 : decode method_2_code 1 = .ok (.iconst 1, 1) := by decide +kernel
theorem d3_2 : decode method_2_code 2 = .ok (.if_icmp .lt 8, 3) := by decide +kernel
theorem d3_5 : decode method_2_code 5 = .ok (.iload_n 0, 1) := by decide +kernel
theorem d3_6 : decode method_2_code 6 = .ok (.iconst 3, 1) := by decide +kernel
theorem d3_7 : decode method_2_code 7 = .ok (.if_icmp .le 9, 3) := by decide +kernel
theorem d3_10 : decode method_2_code 10 = .ok (.iload_n 0, 1) := by decide +kernel
theorem d3_11 : decode method_2_code 11 = .ok (.bipush 8, 2) := by decide +kernel
theorem d3_13 : decode method_2_code 13 = .ok (.if_icmp .ne 7, 3) := by decide +kernel
theorem d3_16 : decode method_2_code 16 = .ok (.iconst 1, 1) := by decide +kernel
theorem d3_17 : decode method_2_code 17 = .ok (.goto 4, 3) := by decide +kernel
theorem d3_20 : decode method_2_code 20 = .ok (.iconst 0, 1) := by decide +kernel
theorem d3_21 : decode method_2_code 21 = .ok (.ireturn, 1) := by decide +kernel
theorem pn_3 : plainName "com/example/hilera/hilera/amqp/FrameIsKnownTypePinLaw" = true := by first | (simp [plainName, overriddenIn]; done) | decide +kernel
theorem ef_3 (m : MethodId) (p1 : Int32) : entryFrame m #[(.int p1)] 1 = mkF m 0 #[.val (.int p1)] [] := by first | (simp [entryFrame, mkF, argsToLocals, Value.category]; done) | rfl
def f3 (p1 : Int32) : Int32 := (if p1 < (1 : Int32) then (if p1 = (8 : Int32) then (1 : Int32) else (0 : Int32)) else (if (3 : Int32) < p1 then (if p1 = (8 : Int32) then (1 : Int32) else (0 : Int32)) else (1 : Int32)))
def Q3 (Z : State) (p1 : Int32) (h0 : Heap) (n0 : Nat) (v : Option Value) (h : Heap) (L : List Loc) : Prop := v = some (.int (f3 p1)) ∧ Fr n0 L ∧ h = h0
set_option maxRecDepth 65536 in
set_option maxHeartbeats 40000000 in
theorem rm3 (l : Launch) (Z : State) (a0 : Array Value) (hw : ∀ d ∈ tables_1, d.before a0 Z = true) (ws : List Jvm.Cond) (p1 : Int32) (h0 : Heap) (n0 : Nat) (Z0 : n0 ≤ h0.size) :
    MetFree l (⟨"com/example/hilera/hilera/amqp/FrameIsKnownTypePinLaw", "expected", "(I)Z"⟩ : MethodName) (head1 (Jvm.Cond.code (⟨"com/example/hilera/hilera/amqp/FrameIsKnownTypePinLaw", "expected", "(I)Z"⟩ : MethodName) method_2_code 1 (some .boolean) :: ws) ({ frames := 0, cells := 0, slots := 0, locals := 0 } : Room)) (fun a U => a = #[(.int p1)] ∧ Z.Warmed39 U.vm ∧ U.heap = h0) (fun _ _ _ _ _ => True) (fun _ U o U' => ∃ v L, o = .returned v ∧ Q3 Z p1 h0 n0 v U'.heap L ∧ FrameEnd U o U' L ({ frames := 0, cells := 0, slots := 0, locals := 0 } : Room).cells ({ frames := 0, cells := 0, slots := 0, locals := 0 } : Room).slots) := by
  refine MetFree.of_bodySF (plainFor_of_name pn_3) hisR ?_
  intro p e s m args below meth c s₁ Bd hml0 hP hK
  obtain ⟨rfl, hZ, hh⟩ := hP
  have hx := Bd.exec
  have hby := Bd.bytes
  have hml : c.maxLocals = 1 := hml0
  have hown : s.vm.findClass "com/example/hilera/hilera/amqp/FrameIsKnownTypePinLaw" = some m.cls := findClass_of_methodNamed Bd.named
  have hnm := (name_of_methodNamed Bd.named Bd.method).1
  have X0 : Stand p l e ({ frames := 0, cells := 0, slots := 0, locals := 0 } : Room) s m #[(.int p1)] below meth c s₁ [] 0 0 := Stand.of_body Bd
  have e0 : s₁.heap = h0 := by rw [← hh, Bd.state]; rfl
  have N0 := Fr.nil n0
  have pre0 : ∀ t, Steps p.tables e below (s₁.setTop (mkF m 0 #[.val (.int p1)] [])) t → Steps p.tables e below (s₁.setTop (entryFrame m #[(.int p1)] 1)) t := fun t k => castTop (ef_3 m p1) k
  have K1 : ∀ t, Steps p.tables e below (s₁.setTop (mkF m 2 #[.val (.int p1)] [(.int (1 : Int32)), (.int p1)])) t → Steps p.tables e below (s₁.setTop (mkF m 0 #[.val (.int p1)] [])) t := by
    intro t k
    refine XS.iloadN X0.here hx rfl (hb hby d3_0) rfl ?_
    show Steps p.tables e below (s₁.setTop (mkF m 1 #[.val (.int p1)] [(.int p1)])) t
    refine XS.iconst X0.here hx rfl (hb hby d3_1) ?_
    show Steps p.tables e below (s₁.setTop (mkF m 2 #[.val (.int p1)] [(.int (1 : Int32)), (.int p1)])) t
    exact k
  by_cases hc2 : p1 < (1 : Int32)
  · have K3 : ∀ t, Steps p.tables e below (s₁.setTop (mkF m 10 #[.val (.int p1)] [])) t → Steps p.tables e below (s₁.setTop (mkF m 2 #[.val (.int p1)] [(.int (1 : Int32)), (.int p1)])) t := by
      intro t k
      refine XS.icmpYes X0.here hx rfl (pc0 := 2) (pc' := 10) rfl (hb hby d3_2) rfl (tlt hc2).1 (by decide) (by decide) ?_
      exact k
    have K4 : ∀ t, Steps p.tables e below (s₁.setTop (mkF m 13 #[.val (.int p1)] [(.int (8 : Int32)), (.int p1)])) t → Steps p.tables e below (s₁.setTop (mkF m 10 #[.val (.int p1)] [])) t := by
      intro t k
      refine XS.iloadN X0.here hx rfl (hb hby d3_10) rfl ?_
      show Steps p.tables e below (s₁.setTop (mkF m 11 #[.val (.int p1)] [(.int p1)])) t
      refine XS.bipush X0.here hx rfl (hb hby d3_11) ?_
      show Steps p.tables e below (s₁.setTop (mkF m 13 #[.val (.int p1)] [(.int (8 : Int32)), (.int p1)])) t
      exact k
    by_cases hc5 : p1 = (8 : Int32)
    · have K6 : ∀ t, Steps p.tables e below (s₁.setTop (mkF m 16 #[.val (.int p1)] [])) t → Steps p.tables e below (s₁.setTop (mkF m 13 #[.val (.int p1)] [(.int (8 : Int32)), (.int p1)])) t := by
        intro t k
        refine XS.icmpNo X0.here hx rfl (hb hby d3_13) rfl (teq hc5).2 ?_
        exact k
      have K7 : ∀ t, Steps p.tables e below (s₁.setTop (mkF m 21 #[.val (.int p1)] [(.int (1 : Int32))])) t → Steps p.tables e below (s₁.setTop (mkF m 16 #[.val (.int p1)] [])) t := by
        intro t k
        refine XS.iconst X0.here hx rfl (hb hby d3_16) ?_
        show Steps p.tables e below (s₁.setTop (mkF m 17 #[.val (.int p1)] [(.int (1 : Int32))])) t
        refine XS.goto X0.here hx rfl (pc0 := 17) (pc' := 21) rfl (hb hby d3_17) (by decide) (by decide) ?_
        show Steps p.tables e below (s₁.setTop (mkF m 21 #[.val (.int p1)] [(.int (1 : Int32))])) t
        exact k
      obtain ⟨fs, hr, hrun, hended, hW, hsame⟩ := X0.leave (v := some (.int (1 : Int32))) (fun h => by rw [Bd.returns] at h; cases h)
      refine ⟨_, _, pre0 _ (K1 _ (K3 _ (K4 _ (K6 _ (K7 _ (retN X0 hx (t := .boolean) Bd.returns (by simp) (hb hby d3_21) hr)))))), hrun, hended, _, _, rfl, ?_, ⟨_, rfl⟩, hW, hsame.mono (by decide) (by decide)⟩
      show Q3 Z p1 h0 n0 _ s₁.heap _
      rw [e0]
      exact ⟨congrArg (fun z => some (Value.int z)) (show (1 : Int32) = f3 p1 from Eq.symm ((if_pos hc2).trans (if_pos hc5))), N0, rfl⟩
    · have K8 : ∀ t, Steps p.tables e below (s₁.setTop (mkF m 20 #[.val (.int p1)] [])) t → Steps p.tables e below (s₁.setTop (mkF m 13 #[.val (.int p1)] [(.int (8 : Int32)), (.int p1)])) t := by
        intro t k
        refine XS.icmpYes X0.here hx rfl (pc0 := 13) (pc' := 20) rfl (hb hby d3_13) rfl (feq hc5).2 (by decide) (by decide) ?_
        exact k
      have K9 : ∀ t, Steps p.tables e below (s₁.setTop (mkF m 21 #[.val (.int p1)] [(.int (0 : Int32))])) t → Steps p.tables e below (s₁.setTop (mkF m 20 #[.val (.int p1)] [])) t := by
        intro t k
        refine XS.iconst X0.here hx rfl (hb hby d3_20) ?_
        show Steps p.tables e below (s₁.setTop (mkF m 21 #[.val (.int p1)] [(.int (0 : Int32))])) t
        exact k
      obtain ⟨fs, hr, hrun, hended, hW, hsame⟩ := X0.leave (v := some (.int (0 : Int32))) (fun h => by rw [Bd.returns] at h; cases h)
      refine ⟨_, _, pre0 _ (K1 _ (K3 _ (K4 _ (K8 _ (K9 _ (retN X0 hx (t := .boolean) Bd.returns (by simp) (hb hby d3_21) hr)))))), hrun, hended, _, _, rfl, ?_, ⟨_, rfl⟩, hW, hsame.mono (by decide) (by decide)⟩
      show Q3 Z p1 h0 n0 _ s₁.heap _
      rw [e0]
      exact ⟨congrArg (fun z => some (Value.int z)) (show (0 : Int32) = f3 p1 from Eq.symm ((if_pos hc2).trans (if_neg hc5))), N0, rfl⟩
  · have K10 : ∀ t, Steps p.tables e below (s₁.setTop (mkF m 5 #[.val (.int p1)] [])) t → Steps p.tables e below (s₁.setTop (mkF m 2 #[.val (.int p1)] [(.int (1 : Int32)), (.int p1)])) t := by
      intro t k
      refine XS.icmpNo X0.here hx rfl (hb hby d3_2) rfl (flt hc2).1 ?_
      exact k
    have K11 : ∀ t, Steps p.tables e below (s₁.setTop (mkF m 7 #[.val (.int p1)] [(.int (3 : Int32)), (.int p1)])) t → Steps p.tables e below (s₁.setTop (mkF m 5 #[.val (.int p1)] [])) t := by
      intro t k
      refine XS.iloadN X0.here hx rfl (hb hby d3_5) rfl ?_
      show Steps p.tables e below (s₁.setTop (mkF m 6 #[.val (.int p1)] [(.int p1)])) t
      refine XS.iconst X0.here hx rfl (hb hby d3_6) ?_
      show Steps p.tables e below (s₁.setTop (mkF m 7 #[.val (.int p1)] [(.int (3 : Int32)), (.int p1)])) t
      exact k
    by_cases hc12 : (3 : Int32) < p1
    · have K13 : ∀ t, Steps p.tables e below (s₁.setTop (mkF m 10 #[.val (.int p1)] [])) t → Steps p.tables e below (s₁.setTop (mkF m 7 #[.val (.int p1)] [(.int (3 : Int32)), (.int p1)])) t := by
        intro t k
        refine XS.icmpNo X0.here hx rfl (hb hby d3_7) rfl (tlt hc12).2.2.2 ?_
        exact k
      have K14 : ∀ t, Steps p.tables e below (s₁.setTop (mkF m 13 #[.val (.int p1)] [(.int (8 : Int32)), (.int p1)])) t → Steps p.tables e below (s₁.setTop (mkF m 10 #[.val (.int p1)] [])) t := by
        intro t k
        refine XS.iloadN X0.here hx rfl (hb hby d3_10) rfl ?_
        show Steps p.tables e below (s₁.setTop (mkF m 11 #[.val (.int p1)] [(.int p1)])) t
        refine XS.bipush X0.here hx rfl (hb hby d3_11) ?_
        show Steps p.tables e below (s₁.setTop (mkF m 13 #[.val (.int p1)] [(.int (8 : Int32)), (.int p1)])) t
        exact k
      by_cases hc15 : p1 = (8 : Int32)
      · have K16 : ∀ t, Steps p.tables e below (s₁.setTop (mkF m 16 #[.val (.int p1)] [])) t → Steps p.tables e below (s₁.setTop (mkF m 13 #[.val (.int p1)] [(.int (8 : Int32)), (.int p1)])) t := by
          intro t k
          refine XS.icmpNo X0.here hx rfl (hb hby d3_13) rfl (teq hc15).2 ?_
          exact k
        have K17 : ∀ t, Steps p.tables e below (s₁.setTop (mkF m 21 #[.val (.int p1)] [(.int (1 : Int32))])) t → Steps p.tables e below (s₁.setTop (mkF m 16 #[.val (.int p1)] [])) t := by
          intro t k
          refine XS.iconst X0.here hx rfl (hb hby d3_16) ?_
          show Steps p.tables e below (s₁.setTop (mkF m 17 #[.val (.int p1)] [(.int (1 : Int32))])) t
          refine XS.goto X0.here hx rfl (pc0 := 17) (pc' := 21) rfl (hb hby d3_17) (by decide) (by decide) ?_
          show Steps p.tables e below (s₁.setTop (mkF m 21 #[.val (.int p1)] [(.int (1 : Int32))])) t
          exact k
        obtain ⟨fs, hr, hrun, hended, hW, hsame⟩ := X0.leave (v := some (.int (1 : Int32))) (fun h => by rw [Bd.returns] at h; cases h)
        refine ⟨_, _, pre0 _ (K1 _ (K10 _ (K11 _ (K13 _ (K14 _ (K16 _ (K17 _ (retN X0 hx (t := .boolean) Bd.returns (by simp) (hb hby d3_21) hr)))))))), hrun, hended, _, _, rfl, ?_, ⟨_, rfl⟩, hW, hsame.mono (by decide) (by decide)⟩
        show Q3 Z p1 h0 n0 _ s₁.heap _
        rw [e0]
        exact ⟨congrArg (fun z => some (Value.int z)) (show (1 : Int32) = f3 p1 from Eq.symm ((if_neg hc2).trans ((if_pos hc12).trans (if_pos hc15)))), N0, rfl⟩
      · have K18 : ∀ t, Steps p.tables e below (s₁.setTop (mkF m 20 #[.val (.int p1)] [])) t → Steps p.tables e below (s₁.setTop (mkF m 13 #[.val (.int p1)] [(.int (8 : Int32)), (.int p1)])) t := by
          intro t k
          refine XS.icmpYes X0.here hx rfl (pc0 := 13) (pc' := 20) rfl (hb hby d3_13) rfl (feq hc15).2 (by decide) (by decide) ?_
          exact k
        have K19 : ∀ t, Steps p.tables e below (s₁.setTop (mkF m 21 #[.val (.int p1)] [(.int (0 : Int32))])) t → Steps p.tables e below (s₁.setTop (mkF m 20 #[.val (.int p1)] [])) t := by
          intro t k
          refine XS.iconst X0.here hx rfl (hb hby d3_20) ?_
          show Steps p.tables e below (s₁.setTop (mkF m 21 #[.val (.int p1)] [(.int (0 : Int32))])) t
          exact k
        obtain ⟨fs, hr, hrun, hended, hW, hsame⟩ := X0.leave (v := some (.int (0 : Int32))) (fun h => by rw [Bd.returns] at h; cases h)
        refine ⟨_, _, pre0 _ (K1 _ (K10 _ (K11 _ (K13 _ (K14 _ (K18 _ (K19 _ (retN X0 hx (t := .boolean) Bd.returns (by simp) (hb hby d3_21) hr)))))))), hrun, hended, _, _, rfl, ?_, ⟨_, rfl⟩, hW, hsame.mono (by decide) (by decide)⟩
        show Q3 Z p1 h0 n0 _ s₁.heap _
        rw [e0]
        exact ⟨congrArg (fun z => some (Value.int z)) (show (0 : Int32) = f3 p1 from Eq.symm ((if_neg hc2).trans ((if_pos hc12).trans (if_neg hc15)))), N0, rfl⟩
    · have K20 : ∀ t, Steps p.tables e below (s₁.setTop (mkF m 16 #[.val (.int p1)] [])) t → Steps p.tables e below (s₁.setTop (mkF m 7 #[.val (.int p1)] [(.int (3 : Int32)), (.int p1)])) t := by
        intro t k
        refine XS.icmpYes X0.here hx rfl (pc0 := 7) (pc' := 16) rfl (hb hby d3_7) rfl (flt hc12).2.2.2 (by decide) (by decide) ?_
        exact k
      have K21 : ∀ t, Steps p.tables e below (s₁.setTop (mkF m 21 #[.val (.int p1)] [(.int (1 : Int32))])) t → Steps p.tables e below (s₁.setTop (mkF m 16 #[.val (.int p1)] [])) t := by
        intro t k
        refine XS.iconst X0.here hx rfl (hb hby d3_16) ?_
        show Steps p.tables e below (s₁.setTop (mkF m 17 #[.val (.int p1)] [(.int (1 : Int32))])) t
        refine XS.goto X0.here hx rfl (pc0 := 17) (pc' := 21) rfl (hb hby d3_17) (by decide) (by decide) ?_
        show Steps p.tables e below (s₁.setTop (mkF m 21 #[.val (.int p1)] [(.int (1 : Int32))])) t
        exact k
      obtain ⟨fs, hr, hrun, hended, hW, hsame⟩ := X0.leave (v := some (.int (1 : Int32))) (fun h => by rw [Bd.returns] at h; cases h)
      refine ⟨_, _, pre0 _ (K1 _ (K10 _ (K11 _ (K20 _ (K21 _ (retN X0 hx (t := .boolean) Bd.returns (by simp) (hb hby d3_21) hr)))))), hrun, hended, _, _, rfl, ?_, ⟨_, rfl⟩, hW, hsame.mono (by decide) (by decide)⟩
      show Q3 Z p1 h0 n0 _ s₁.heap _
      rw [e0]
      exact ⟨congrArg (fun z => some (Value.int z)) (show (1 : Int32) = f3 p1 from Eq.symm ((if_neg hc2).trans (if_neg hc12))), N0, rfl⟩
-- body 1: com/example/hilera/hilera/amqp/FrameIsKnownTypePinLaw.agrees(I)Z
theorem d1_0 : decode method_3_code 0 = .ok (.iload_n 0, 1) := by decide +kernel
theorem d1_1 : decode method_3_code 1 = .ok (.invokestatic 7, 3) := by decide +kernel
theorem d1_4 : decode method_3_code 4 = .ok (.iload_n 0, 1) := by decide +kernel
theorem d1_5 : decode method_3_code 5 = .ok (.invokestatic 13, 3) := by decide +kernel
theorem d1_8 : decode method_3_code 8 = .ok (.if_icmp .ne 7, 3) := by decide +kernel
theorem d1_11 : decode method_3_code 11 = .ok (.iconst 1, 1) := by decide +kernel
theorem d1_12 : decode method_3_code 12 = .ok (.goto 4, 3) := by decide +kernel
theorem d1_15 : decode method_3_code 15 = .ok (.iconst 0, 1) := by decide +kernel
theorem d1_16 : decode method_3_code 16 = .ok (.ireturn, 1) := by decide +kernel
theorem pn_1 : plainName "com/example/hilera/hilera/amqp/FrameIsKnownTypePinLaw" = true := by first | (simp [plainName, overriddenIn]; done) | decide +kernel
theorem pd_0 : parseMethodDescriptor "(I)Z" = some ⟨[.int], some .boolean⟩ := by decide +kernel
theorem ef_1 (m : MethodId) (p1 : Int32) : entryFrame m #[(.int p1)] 1 = mkF m 0 #[.val (.int p1)] [] := by first | (simp [entryFrame, mkF, argsToLocals, Value.category]; done) | rfl
def f1 (p1 : Int32) : Int32 := (if (f2 p1) = (f3 p1) then (1 : Int32) else (0 : Int32))
def Q1 (Z : State) (p1 : Int32) (h0 : Heap) (n0 : Nat) (v : Option Value) (h : Heap) (L : List Loc) : Prop := v = some (.int (f1 p1)) ∧ Fr n0 L ∧ h = h0
set_option maxRecDepth 65536 in
set_option maxHeartbeats 40000000 in
theorem rm1 (l : Launch) (Z : State) (a0 : Array Value) (hw : ∀ d ∈ tables_1, d.before a0 Z = true) (ws : List Jvm.Cond) (p1 : Int32) (h0 : Heap) (n0 : Nat) (Z0 : n0 ≤ h0.size) :
    MetFree l (⟨"com/example/hilera/hilera/amqp/FrameIsKnownTypePinLaw", "agrees", "(I)Z"⟩ : MethodName) (head1 (Jvm.Cond.code (⟨"com/example/hilera/hilera/amqp/FrameIsKnownTypePinLaw", "agrees", "(I)Z"⟩ : MethodName) method_3_code 1 (some .boolean) :: ws) ({ frames := 1, cells := 0, slots := 0, locals := 13 } : Room)) (fun a U => a = #[(.int p1)] ∧ Z.Warmed39 U.vm ∧ U.heap = h0) (fun _ _ _ _ _ => True) (fun _ U o U' => ∃ v L, o = .returned v ∧ Q1 Z p1 h0 n0 v U'.heap L ∧ FrameEnd U o U' L ({ frames := 1, cells := 0, slots := 0, locals := 13 } : Room).cells ({ frames := 1, cells := 0, slots := 0, locals := 13 } : Room).slots) := by
  refine MetFree.of_bodySF (plainFor_of_name pn_1) hisR ?_
  intro p e s m args below meth c s₁ Bd hml0 hP hK
  obtain ⟨rfl, hZ, hh⟩ := hP
  have hx := Bd.exec
  have hby := Bd.bytes
  have hml : c.maxLocals = 1 := hml0
  have hown : s.vm.findClass "com/example/hilera/hilera/amqp/FrameIsKnownTypePinLaw" = some m.cls := findClass_of_methodNamed Bd.named
  have hnm := (name_of_methodNamed Bd.named Bd.method).1
  have X0 : Stand p l e ({ frames := 1, cells := 0, slots := 0, locals := 13 } : Room) s m #[(.int p1)] below meth c s₁ [] 0 0 := Stand.of_body Bd
  have e0 : s₁.heap = h0 := by rw [← hh, Bd.state]; rfl
  have N0 := Fr.nil n0
  have pre0 : ∀ t, Steps p.tables e below (s₁.setTop (mkF m 0 #[.val (.int p1)] [])) t → Steps p.tables e below (s₁.setTop (entryFrame m #[(.int p1)] 1)) t := fun t k => castTop (ef_1 m p1) k
  have K1 : ∀ t, Steps p.tables e below (s₁.setTop (mkF m 1 #[.val (.int p1)] [(.int p1)])) t → Steps p.tables e below (s₁.setTop (mkF m 0 #[.val (.int p1)] [])) t := by
    intro t k
    refine XS.iloadN X0.here hx rfl (hb hby d1_0) rfl ?_
    show Steps p.tables e below (s₁.setTop (mkF m 1 #[.val (.int p1)] [(.int p1)])) t
    exact k
  obtain ⟨_, _, ⟨T2, L2, k2, n2⟩, -, X2, ⟨Lc2, hQ2, l2, y2, z2⟩, st2⟩ := Jvm.LawKit.callS X0 hx (y := (⟨"com/example/hilera/hilera/amqp/Frame", "isKnownType", "(I)Z"⟩ : MethodName)) hown (mvT hZ (hw _ (List.mem_of_getElem? (i := 4) rfl))) (mvT hZ (hw _ (List.mem_of_getElem? (i := 5) rfl))) (mvT hZ (hw _ (List.mem_of_getElem? (i := 6) rfl))) (mvT hZ (hw _ (List.mem_of_getElem? (i := 7) rfl))) (by decide) (backOf (W := 0) (rm2 l Z a0 hw [] p1 h0 n0 Z0 ) hZ (hw _ (List.mem_of_getElem? (i := 7) rfl)) (hw _ (List.mem_of_getElem? (i := 6) rfl)) (by decide) (by decide)) (g := (mkF m 1 #[.val (.int p1)] [(.int p1)])) rfl (by rw [hml]; rfl) (argsL := [(.int p1)]) (rest := []) (lenOf pd_0 rfl) rfl (by show 2 * 0 + _ ≤ _; exact Nat.le_of_eq rfl) (hb hby d1_1) (fun _ _ => ⟨rfl, e0, (by decide : 0 + 0 ≤ _), (by decide : 0 + 0 ≤ _)⟩)
  dsimp only [Pt.U, Pt.locs, Pt.cells, Pt.slots] at X2 l2 y2 z2 st2 hQ2
  subst l2 y2 z2
  obtain ⟨rfl, N2q, e2⟩ := hQ2
  have N2 := Fr.app N0 N2q
  have K3 : ∀ t, Steps p.tables e below (T2.setTop (mkF m 4 #[.val (.int p1)] [(.int (f2 p1))])) t → Steps p.tables e below (s₁.setTop (mkF m 1 #[.val (.int p1)] [(.int p1)])) t := fun t k => st2 _ k
  have K4 : ∀ t, Steps p.tables e below (T2.setTop (mkF m 5 #[.val (.int p1)] [(.int p1), (.int (f2 p1))])) t → Steps p.tables e below (T2.setTop (mkF m 4 #[.val (.int p1)] [(.int (f2 p1))])) t := by
    intro t k
    refine XS.iloadN X2.here hx rfl (hb hby d1_4) rfl ?_
    show Steps p.tables e below (T2.setTop (mkF m 5 #[.val (.int p1)] [(.int p1), (.int (f2 p1))])) t
    exact k
  obtain ⟨_, _, ⟨T5, L5, k5, n5⟩, -, X5, ⟨Lc5, hQ5, l5, y5, z5⟩, st5⟩ := Jvm.LawKit.callS X2 hx (y := (⟨"com/example/hilera/hilera/amqp/FrameIsKnownTypePinLaw", "expected", "(I)Z"⟩ : MethodName)) hown (mvT hZ (hw _ (List.mem_of_getElem? (i := 8) rfl))) (mvT hZ (hw _ (List.mem_of_getElem? (i := 9) rfl))) (mvT hZ (hw _ (List.mem_of_getElem? (i := 2) rfl))) (mvT hZ (hw _ (List.mem_of_getElem? (i := 10) rfl))) (by decide) (backOf (W := 1) (rm3 l Z a0 hw [] p1 h0 n0 Z0 ) hZ (hw _ (List.mem_of_getElem? (i := 10) rfl)) (hw _ (List.mem_of_getElem? (i := 2) rfl)) (by decide) (by decide)) (g := (mkF m 5 #[.val (.int p1)] [(.int p1), (.int (f2 p1))])) rfl (by rw [hml]; rfl) (argsL := [(.int p1)]) (rest := [(.int (f2 p1))]) (lenOf pd_0 rfl) rfl (by show 2 * 0 + _ ≤ _; exact Nat.le_of_eq rfl) (hb hby d1_5) (fun _ _ => ⟨rfl, e2, (by decide : 0 + 0 ≤ _), (by decide : 0 + 0 ≤ _)⟩)
  dsimp only [Pt.U, Pt.locs, Pt.cells, Pt.slots] at X5 l5 y5 z5 st5 hQ5
  subst l5 y5 z5
  obtain ⟨rfl, N5q, e5⟩ := hQ5
  have N5 := Fr.app N2 N5q
  have K6 : ∀ t, Steps p.tables e below (T5.setTop (mkF m 8 #[.val (.int p1)] [(.int (f3 p1)), (.int (f2 p1))])) t → Steps p.tables e below (T2.setTop (mkF m 5 #[.val (.int p1)] [(.int p1), (.int (f2 p1))])) t := fun t k => st5 _ k
  by_cases hc7 : (f2 p1) = (f3 p1)
  · have K8 : ∀ t, Steps p.tables e below (T5.setTop (mkF m 11 #[.val (.int p1)] [])) t → Steps p.tables e below (T5.setTop (mkF m 8 #[.val (.int p1)] [(.int (f3 p1)), (.int (f2 p1))])) t := by
      intro t k
      refine XS.icmpNo X5.here hx rfl (hb hby d1_8) rfl (teq hc7).2 ?_
      exact k
    have K9 : ∀ t, Steps p.tables e below (T5.setTop (mkF m 16 #[.val (.int p1)] [(.int (1 : Int32))])) t → Steps p.tables e below (T5.setTop (mkF m 11 #[.val (.int p1)] [])) t := by
      intro t k
      refine XS.iconst X5.here hx rfl (hb hby d1_11) ?_
      show Steps p.tables e below (T5.setTop (mkF m 12 #[.val (.int p1)] [(.int (1 : Int32))])) t
      refine XS.goto X5.here hx rfl (pc0 := 12) (pc' := 16) rfl (hb hby d1_12) (by decide) (by decide) ?_
      show Steps p.tables e below (T5.setTop (mkF m 16 #[.val (.int p1)] [(.int (1 : Int32))])) t
      exact k
    obtain ⟨fs, hr, hrun, hended, hW, hsame⟩ := X5.leave (v := some (.int (1 : Int32))) (fun h => by rw [Bd.returns] at h; cases h)
    refine ⟨_, _, pre0 _ (K1 _ (K3 _ (K4 _ (K6 _ (K8 _ (K9 _ (retN X5 hx (t := .boolean) Bd.returns (by simp) (hb hby d1_16) hr))))))), hrun, hended, _, _, rfl, ?_, ⟨_, rfl⟩, hW, hsame.mono (by decide) (by decide)⟩
    show Q1 Z p1 h0 n0 _ T5.heap _
    rw [e5]
    exact ⟨congrArg (fun z => some (Value.int z)) (show (1 : Int32) = f1 p1 from Eq.symm (if_pos hc7)), N5, rfl⟩
  · have K10 : ∀ t, Steps p.tables e below (T5.setTop (mkF m 15 #[.val (.int p1)] [])) t → Steps p.tables e below (T5.setTop (mkF m 8 #[.val (.int p1)] [(.int (f3 p1)), (.int (f2 p1))])) t := by
      intro t k
      refine XS.icmpYes X5.here hx rfl (pc0 := 8) (pc' := 15) rfl (hb hby d1_8) rfl (feq hc7).2 (by decide) (by decide) ?_
      exact k
    have K11 : ∀ t, Steps p.tables e below (T5.setTop (mkF m 16 #[.val (.int p1)] [(.int (0 : Int32))])) t → Steps p.tables e below (T5.setTop (mkF m 15 #[.val (.int p1)] [])) t := by
      intro t k
      refine XS.iconst X5.here hx rfl (hb hby d1_15) ?_
      show Steps p.tables e below (T5.setTop (mkF m 16 #[.val (.int p1)] [(.int (0 : Int32))])) t
      exact k
    obtain ⟨fs, hr, hrun, hended, hW, hsame⟩ := X5.leave (v := some (.int (0 : Int32))) (fun h => by rw [Bd.returns] at h; cases h)
    refine ⟨_, _, pre0 _ (K1 _ (K3 _ (K4 _ (K6 _ (K10 _ (K11 _ (retN X5 hx (t := .boolean) Bd.returns (by simp) (hb hby d1_16) hr))))))), hrun, hended, _, _, rfl, ?_, ⟨_, rfl⟩, hW, hsame.mono (by decide) (by decide)⟩
    show Q1 Z p1 h0 n0 _ T5.heap _
    rw [e5]
    exact ⟨congrArg (fun z => some (Value.int z)) (show (0 : Int32) = f1 p1 from Eq.symm (if_neg hc7)), N5, rfl⟩
-- body 0: com/example/hilera/hilera/amqp/FrameIsKnownTypePinLaw.law(II)Z
theorem pn_0 : plainName "com/example/hilera/hilera/amqp/FrameIsKnownTypePinLaw" = true := by first | (simp [plainName, overriddenIn]; done) | decide +kernel
theorem ef_0 (m : MethodId) (p1 : Int32) (p2 : Int32) : entryFrame m #[(.int p1), (.int p2)] maxLocals = mkF m 0 #[.val (.int p1), .val (.int p2), .unset] [] := by first | (simp [entryFrame, mkF, argsToLocals, Value.category, maxLocals]; done) | rfl
def f0 (p1 : Int32) (p2 : Int32) : Int32 := (if (f1 p1) = (0 : Int32) then (0 : Int32) else (if (f1 ((p2 &&& (15 : Int32)) - (3 : Int32))) = (0 : Int32) then (0 : Int32) else (1 : Int32)))
def Q0 (Z : State) (p1 : Int32) (p2 : Int32) (h0 : Heap) (n0 : Nat) (v : Option Value) (h : Heap) (L : List Loc) : Prop := v = some (.int (f0 p1 p2)) ∧ Fr n0 L ∧ h = h0
set_option maxRecDepth 65536 in
set_option maxHeartbeats 40000000 in
theorem rm0 (l : Launch) (Z : State) (a0 : Array Value) (hw : ∀ d ∈ tables_1, d.before a0 Z = true) (ws : List Jvm.Cond) (p1 : Int32) (p2 : Int32) (h0 : Heap) (n0 : Nat) (Z0 : n0 ≤ h0.size) :
    MetFree l x (head1 (Jvm.Cond.code x code maxLocals ret :: ws) room_1) (fun a U => a = #[(.int p1), (.int p2)] ∧ Z.Warmed39 U.vm ∧ U.heap = h0) (fun _ _ _ _ _ => True) (fun _ U o U' => ∃ v L, o = .returned v ∧ Q0 Z p1 p2 h0 n0 v U'.heap L ∧ FrameEnd U o U' L room_1.cells room_1.slots) := by
  refine MetFree.of_bodySF (plainFor_of_name pn_0) hisR ?_
  intro p e s m args below meth c s₁ Bd hml0 hP hK
  obtain ⟨rfl, hZ, hh⟩ := hP
  have hx := Bd.exec
  have hby := Bd.bytes
  have hml : c.maxLocals = 3 := hml0
  have hown : s.vm.findClass "com/example/hilera/hilera/amqp/FrameIsKnownTypePinLaw" = some m.cls := findClass_of_methodNamed Bd.named
  have hnm := (name_of_methodNamed Bd.named Bd.method).1
  have X0 : Stand p l e room_1 s m #[(.int p1), (.int p2)] below meth c s₁ [] 0 0 := Stand.of_body Bd
  have e0 : s₁.heap = h0 := by rw [← hh, Bd.state]; rfl
  have N0 := Fr.nil n0
  have pre0 : ∀ t, Steps p.tables e below (s₁.setTop (mkF m 0 #[.val (.int p1), .val (.int p2), .unset] [])) t → Steps p.tables e below (s₁.setTop (entryFrame m #[(.int p1), (.int p2)] maxLocals)) t := fun t k => castTop (ef_0 m p1 p2) k
  have K1 : ∀ t, Steps p.tables e below (s₁.setTop (mkF m 8 #[.val (.int p1), .val (.int p2), .val (.int ((p2 &&& (15 : Int32)) - (3 : Int32)))] [(.int p1)])) t → Steps p.tables e below (s₁.setTop (mkF m 0 #[.val (.int p1), .val (.int p2), .unset] [])) t := by
    intro t k
    refine XS.iloadN X0.here hx rfl (hb hby at_0) rfl ?_
    show Steps p.tables e below (s₁.setTop (mkF m 1 #[.val (.int p1), .val (.int p2), .unset] [(.int p2)])) t
    refine XS.bipush X0.here hx rfl (hb hby at_1) ?_
    show Steps p.tables e below (s₁.setTop (mkF m 3 #[.val (.int p1), .val (.int p2), .unset] [(.int (15 : Int32)), (.int p2)])) t
    refine XS.iand X0.here hx rfl (hb hby at_3) rfl ?_
    show Steps p.tables e below (s₁.setTop (mkF m 4 #[.val (.int p1), .val (.int p2), .unset] [(.int (p2 &&& (15 : Int32)))])) t
    refine XS.iconst X0.here hx rfl (hb hby at_4) ?_
    show Steps p.tables e below (s₁.setTop (mkF m 5 #[.val (.int p1), .val (.int p2), .unset] [(.int (3 : Int32)), (.int (p2 &&& (15 : Int32)))])) t
    refine XS.isub X0.here hx rfl (hb hby at_5) rfl ?_
    show Steps p.tables e below (s₁.setTop (mkF m 6 #[.val (.int p1), .val (.int p2), .unset] [(.int ((p2 &&& (15 : Int32)) - (3 : Int32)))])) t
    refine XS.istoreN X0.here hx rfl (hb hby at_6) rfl (l' := #[.val (.int p1), .val (.int p2), .val (.int ((p2 &&& (15 : Int32)) - (3 : Int32)))]) rfl ?_
    show Steps p.tables e below (s₁.setTop (mkF m 7 #[.val (.int p1), .val (.int p2), .val (.int ((p2 &&& (15 : Int32)) - (3 : Int32)))] [])) t
    refine XS.iloadN X0.here hx rfl (hb hby at_7) rfl ?_
    show Steps p.tables e below (s₁.setTop (mkF m 8 #[.val (.int p1), .val (.int p2), .val (.int ((p2 &&& (15 : Int32)) - (3 : Int32)))] [(.int p1)])) t
    exact k
  obtain ⟨_, _, ⟨T2, L2, k2, n2⟩, -, X2, ⟨Lc2, hQ2, l2, y2, z2⟩, st2⟩ := Jvm.LawKit.callS X0 hx (y := (⟨"com/example/hilera/hilera/amqp/FrameIsKnownTypePinLaw", "agrees", "(I)Z"⟩ : MethodName)) hown (mvT hZ (hw _ (List.mem_of_getElem? (i := 0) rfl))) (mvT hZ (hw _ (List.mem_of_getElem? (i := 1) rfl))) (mvT hZ (hw _ (List.mem_of_getElem? (i := 2) rfl))) (mvT hZ (hw _ (List.mem_of_getElem? (i := 3) rfl))) (by decide) (backOf (W := 0) (rm1 l Z a0 hw [] p1 h0 n0 Z0 ) hZ (hw _ (List.mem_of_getElem? (i := 3) rfl)) (hw _ (List.mem_of_getElem? (i := 2) rfl)) (by decide) (by decide)) (g := (mkF m 8 #[.val (.int p1), .val (.int p2), .val (.int ((p2 &&& (15 : Int32)) - (3 : Int32)))] [(.int p1)])) rfl (by rw [hml]; rfl) (argsL := [(.int p1)]) (rest := []) (lenOf pd_0 rfl) rfl (by show 2 * 0 + _ ≤ _; exact Nat.le_of_eq rfl) (hb hby at_8) (fun _ _ => ⟨rfl, e0, (by decide : 0 + 0 ≤ _), (by decide : 0 + 0 ≤ _)⟩)
  dsimp only [Pt.U, Pt.locs, Pt.cells, Pt.slots] at X2 l2 y2 z2 st2 hQ2
  subst l2 y2 z2
  obtain ⟨rfl, N2q, e2⟩ := hQ2
  have N2 := Fr.app N0 N2q
  have K3 : ∀ t, Steps p.tables e below (T2.setTop (mkF m 11 #[.val (.int p1), .val (.int p2), .val (.int ((p2 &&& (15 : Int32)) - (3 : Int32)))] [(.int (f1 p1))])) t → Steps p.tables e below (s₁.setTop (mkF m 8 #[.val (.int p1), .val (.int p2), .val (.int ((p2 &&& (15 : Int32)) - (3 : Int32)))] [(.int p1)])) t := fun t k => st2 _ k
  by_cases hc4 : (f1 p1) = (0 : Int32)
  · have K5 : ∀ t, Steps p.tables e below (T2.setTop (mkF m 25 #[.val (.int p1), .val (.int p2), .val (.int ((p2 &&& (15 : Int32)) - (3 : Int32)))] [])) t → Steps p.tables e below (T2.setTop (mkF m 11 #[.val (.int p1), .val (.int p2), .val (.int ((p2 &&& (15 : Int32)) - (3 : Int32)))] [(.int (f1 p1))])) t := by
      intro t k
      refine XS.ifYes X2.here hx rfl (pc0 := 11) (pc' := 25) rfl (hb hby at_11) rfl ((if0 _ _).trans (teq hc4).1) (by decide) (by decide) ?_
      exact k
    have K6 : ∀ t, Steps p.tables e below (T2.setTop (mkF m 26 #[.val (.int p1), .val (.int p2), .val (.int ((p2 &&& (15 : Int32)) - (3 : Int32)))] [(.int (0 : Int32))])) t → Steps p.tables e below (T2.setTop (mkF m 25 #[.val (.int p1), .val (.int p2), .val (.int ((p2 &&& (15 : Int32)) - (3 : Int32)))] [])) t := by
      intro t k
      refine XS.iconst X2.here hx rfl (hb hby at_25) ?_
      show Steps p.tables e below (T2.setTop (mkF m 26 #[.val (.int p1), .val (.int p2), .val (.int ((p2 &&& (15 : Int32)) - (3 : Int32)))] [(.int (0 : Int32))])) t
      exact k
    obtain ⟨fs, hr, hrun, hended, hW, hsame⟩ := X2.leave (v := some (.int (0 : Int32))) (fun h => by rw [Bd.returns] at h; cases h)
    refine ⟨_, _, pre0 _ (K1 _ (K3 _ (K5 _ (K6 _ (retN X2 hx (t := .boolean) Bd.returns (by simp) (hb hby at_26) hr))))), hrun, hended, _, _, rfl, ?_, ⟨_, rfl⟩, hW, hsame.mono (by decide) (by decide)⟩
    show Q0 Z p1 p2 h0 n0 _ T2.heap _
    rw [e2]
    exact ⟨congrArg (fun z => some (Value.int z)) (show (0 : Int32) = f0 p1 p2 from Eq.symm (if_pos hc4)), N2, rfl⟩
  · have K7 : ∀ t, Steps p.tables e below (T2.setTop (mkF m 14 #[.val (.int p1), .val (.int p2), .val (.int ((p2 &&& (15 : Int32)) - (3 : Int32)))] [])) t → Steps p.tables e below (T2.setTop (mkF m 11 #[.val (.int p1), .val (.int p2), .val (.int ((p2 &&& (15 : Int32)) - (3 : Int32)))] [(.int (f1 p1))])) t := by
      intro t k
      refine XS.ifNo X2.here hx rfl (hb hby at_11) rfl ((if0 _ _).trans (feq hc4).1) ?_
      exact k
    have K8 : ∀ t, Steps p.tables e below (T2.setTop (mkF m 15 #[.val (.int p1), .val (.int p2), .val (.int ((p2 &&& (15 : Int32)) - (3 : Int32)))] [(.int ((p2 &&& (15 : Int32)) - (3 : Int32)))])) t → Steps p.tables e below (T2.setTop (mkF m 14 #[.val (.int p1), .val (.int p2), .val (.int ((p2 &&& (15 : Int32)) - (3 : Int32)))] [])) t := by
      intro t k
      refine XS.iloadN X2.here hx rfl (hb hby at_14) rfl ?_
      show Steps p.tables e below (T2.setTop (mkF m 15 #[.val (.int p1), .val (.int p2), .val (.int ((p2 &&& (15 : Int32)) - (3 : Int32)))] [(.int ((p2 &&& (15 : Int32)) - (3 : Int32)))])) t
      exact k
    obtain ⟨_, _, ⟨T9, L9, k9, n9⟩, -, X9, ⟨Lc9, hQ9, l9, y9, z9⟩, st9⟩ := Jvm.LawKit.callS X2 hx (y := (⟨"com/example/hilera/hilera/amqp/FrameIsKnownTypePinLaw", "agrees", "(I)Z"⟩ : MethodName)) hown (mvT hZ (hw _ (List.mem_of_getElem? (i := 0) rfl))) (mvT hZ (hw _ (List.mem_of_getElem? (i := 1) rfl))) (mvT hZ (hw _ (List.mem_of_getElem? (i := 2) rfl))) (mvT hZ (hw _ (List.mem_of_getElem? (i := 3) rfl))) (by decide) (backOf (W := 0) (rm1 l Z a0 hw [] ((p2 &&& (15 : Int32)) - (3 : Int32)) h0 n0 Z0 ) hZ (hw _ (List.mem_of_getElem? (i := 3) rfl)) (hw _ (List.mem_of_getElem? (i := 2) rfl)) (by decide) (by decide)) (g := (mkF m 15 #[.val (.int p1), .val (.int p2), .val (.int ((p2 &&& (15 : Int32)) - (3 : Int32)))] [(.int ((p2 &&& (15 : Int32)) - (3 : Int32)))])) rfl (by rw [hml]; rfl) (argsL := [(.int ((p2 &&& (15 : Int32)) - (3 : Int32)))]) (rest := []) (lenOf pd_0 rfl) rfl (by show 2 * 0 + _ ≤ _; exact Nat.le_of_eq rfl) (hb hby at_15) (fun _ _ => ⟨rfl, e2, (by decide : 0 + 0 ≤ _), (by decide : 0 + 0 ≤ _)⟩)
    dsimp only [Pt.U, Pt.locs, Pt.cells, Pt.slots] at X9 l9 y9 z9 st9 hQ9
    subst l9 y9 z9
    obtain ⟨rfl, N9q, e9⟩ := hQ9
    have N9 := Fr.app N2 N9q
    have K10 : ∀ t, Steps p.tables e below (T9.setTop (mkF m 18 #[.val (.int p1), .val (.int p2), .val (.int ((p2 &&& (15 : Int32)) - (3 : Int32)))] [(.int (f1 ((p2 &&& (15 : Int32)) - (3 : Int32))))])) t → Steps p.tables e below (T2.setTop (mkF m 15 #[.val (.int p1), .val (.int p2), .val (.int ((p2 &&& (15 : Int32)) - (3 : Int32)))] [(.int ((p2 &&& (15 : Int32)) - (3 : Int32)))])) t := fun t k => st9 _ k
    by_cases hc11 : (f1 ((p2 &&& (15 : Int32)) - (3 : Int32))) = (0 : Int32)
    · have K12 : ∀ t, Steps p.tables e below (T9.setTop (mkF m 25 #[.val (.int p1), .val (.int p2), .val (.int ((p2 &&& (15 : Int32)) - (3 : Int32)))] [])) t → Steps p.tables e below (T9.setTop (mkF m 18 #[.val (.int p1), .val (.int p2), .val (.int ((p2 &&& (15 : Int32)) - (3 : Int32)))] [(.int (f1 ((p2 &&& (15 : Int32)) - (3 : Int32))))])) t := by
        intro t k
        refine XS.ifYes X9.here hx rfl (pc0 := 18) (pc' := 25) rfl (hb hby at_18) rfl ((if0 _ _).trans (teq hc11).1) (by decide) (by decide) ?_
        exact k
      have K13 : ∀ t, Steps p.tables e below (T9.setTop (mkF m 26 #[.val (.int p1), .val (.int p2), .val (.int ((p2 &&& (15 : Int32)) - (3 : Int32)))] [(.int (0 : Int32))])) t → Steps p.tables e below (T9.setTop (mkF m 25 #[.val (.int p1), .val (.int p2), .val (.int ((p2 &&& (15 : Int32)) - (3 : Int32)))] [])) t := by
        intro t k
        refine XS.iconst X9.here hx rfl (hb hby at_25) ?_
        show Steps p.tables e below (T9.setTop (mkF m 26 #[.val (.int p1), .val (.int p2), .val (.int ((p2 &&& (15 : Int32)) - (3 : Int32)))] [(.int (0 : Int32))])) t
        exact k
      obtain ⟨fs, hr, hrun, hended, hW, hsame⟩ := X9.leave (v := some (.int (0 : Int32))) (fun h => by rw [Bd.returns] at h; cases h)
      refine ⟨_, _, pre0 _ (K1 _ (K3 _ (K7 _ (K8 _ (K10 _ (K12 _ (K13 _ (retN X9 hx (t := .boolean) Bd.returns (by simp) (hb hby at_26) hr)))))))), hrun, hended, _, _, rfl, ?_, ⟨_, rfl⟩, hW, hsame.mono (by decide) (by decide)⟩
      show Q0 Z p1 p2 h0 n0 _ T9.heap _
      rw [e9]
      exact ⟨congrArg (fun z => some (Value.int z)) (show (0 : Int32) = f0 p1 p2 from Eq.symm ((if_neg hc4).trans (if_pos hc11))), N9, rfl⟩
    · have K14 : ∀ t, Steps p.tables e below (T9.setTop (mkF m 21 #[.val (.int p1), .val (.int p2), .val (.int ((p2 &&& (15 : Int32)) - (3 : Int32)))] [])) t → Steps p.tables e below (T9.setTop (mkF m 18 #[.val (.int p1), .val (.int p2), .val (.int ((p2 &&& (15 : Int32)) - (3 : Int32)))] [(.int (f1 ((p2 &&& (15 : Int32)) - (3 : Int32))))])) t := by
        intro t k
        refine XS.ifNo X9.here hx rfl (hb hby at_18) rfl ((if0 _ _).trans (feq hc11).1) ?_
        exact k
      have K15 : ∀ t, Steps p.tables e below (T9.setTop (mkF m 26 #[.val (.int p1), .val (.int p2), .val (.int ((p2 &&& (15 : Int32)) - (3 : Int32)))] [(.int (1 : Int32))])) t → Steps p.tables e below (T9.setTop (mkF m 21 #[.val (.int p1), .val (.int p2), .val (.int ((p2 &&& (15 : Int32)) - (3 : Int32)))] [])) t := by
        intro t k
        refine XS.iconst X9.here hx rfl (hb hby at_21) ?_
        show Steps p.tables e below (T9.setTop (mkF m 22 #[.val (.int p1), .val (.int p2), .val (.int ((p2 &&& (15 : Int32)) - (3 : Int32)))] [(.int (1 : Int32))])) t
        refine XS.goto X9.here hx rfl (pc0 := 22) (pc' := 26) rfl (hb hby at_22) (by decide) (by decide) ?_
        show Steps p.tables e below (T9.setTop (mkF m 26 #[.val (.int p1), .val (.int p2), .val (.int ((p2 &&& (15 : Int32)) - (3 : Int32)))] [(.int (1 : Int32))])) t
        exact k
      obtain ⟨fs, hr, hrun, hended, hW, hsame⟩ := X9.leave (v := some (.int (1 : Int32))) (fun h => by rw [Bd.returns] at h; cases h)
      refine ⟨_, _, pre0 _ (K1 _ (K3 _ (K7 _ (K8 _ (K10 _ (K14 _ (K15 _ (retN X9 hx (t := .boolean) Bd.returns (by simp) (hb hby at_26) hr)))))))), hrun, hended, _, _, rfl, ?_, ⟨_, rfl⟩, hW, hsame.mono (by decide) (by decide)⟩
      show Q0 Z p1 p2 h0 n0 _ T9.heap _
      rw [e9]
      exact ⟨congrArg (fun z => some (Value.int z)) (show (1 : Int32) = f0 p1 p2 from Eq.symm ((if_neg hc4).trans (if_neg hc11))), N9, rfl⟩
theorem own_eq (x : Int32) : f2 x = f3 x := by
  have e1 : (1 : Int32).toInt = 1 := by decide
  have e2 : (2 : Int32).toInt = 2 := by decide
  have e3 : (3 : Int32).toInt = 3 := by decide
  have e8 : (8 : Int32).toInt = 8 := by decide
  unfold f2 f3
  simp only [Int32.lt_iff_toInt_lt, ← Int32.toInt_inj]
  repeat' split
  all_goals first | rfl | (exfalso; omega)
theorem own_one (x : Int32) : f1 x = 1 := if_pos (own_eq x)
theorem plain (a b : Int32) : f0 a b = 1 := by
  unfold f0
  rw [own_one, own_one]
  decide
set_option maxRecDepth 65536 in
set_option maxHeartbeats 40000000 in
theorem comes_1 {Post : Tables → Env → Array Value → State → Outcome → State → Prop} (hpost : ∀ tb e args s v u, (limb_1_1.after args s (.returned v) u = true ∧ limb_1_2.after args s (.returned v) u = true ∧ True) → FrameEnd s (.returned v) u (Jvm.fieldLocs frame_1_writes args s ++ Jvm.arrayLocs frame_1_arrays args s ++ Jvm.staticLocs frame_1_statics s) 0 0 → Post tb e args s (.returned v) u) :
    ArmFor flags0 classFile x code maxLocals ret World_1 tables_1 room_1 Calls_1 rest_1 Pre_1 Post := by
  intro l hfl _ _ p e ha hc hk s m args below hf hA hF happ hP
  obtain ⟨hcalls, hrest, hpre⟩ := hP
  obtain ⟨-, -, -, hnamed, -, -, -, hat⟩ := (Spec.applies_iff hf).mp happ
  obtain ⟨hg, hn⟩ := and_e (Cond.before_iff.mp (show (Jvm.Cond.and given_1 narrow_1).before args s = true from hpre))
  obtain ⟨gc, g0⟩ := and_e hg
  obtain ⟨gi0, g1⟩ := and_e g0
  have gi1 := g1
  obtain ⟨w0, w1, rfl⟩ : ∃ w0 w1 : Value, args = #[w0, w1] := by
    have hs : args.size = 2 := by simpa [Cond.value, given_1] using gc
    obtain ⟨L⟩ := args
    match L, hs with
    | [w0, w1], _ => exact ⟨w0, w1, rfl⟩
  have hw := fun d (hd : d ∈ tables_1) => atoms_spec (ws := Jvm.Cond.code x code maxLocals ret :: tables_1) hat d (List.mem_cons_of_mem _ hd)
  have hfit : Fit s := fun {y c} hc i hi => by
    obtain ⟨ha, rfl⟩ := Array.getElem?_eq_some_iff.mp hc
    have q := List.all_eq_true.mp ((Array.all_eq_true_iff_forall_mem.mp hF) _ (Array.getElem_mem ha)) i (List.mem_range.mpr hi)
    simpa [Array.getElem?_eq_getElem hi] using q
  obtain ⟨i0, ei0⟩ := is_v gi0
  obtain rfl : w0 = (.int i0) := Option.some.inj ei0
  obtain ⟨i1, ei1⟩ := is_v gi1
  obtain rfl : w1 = (.int i1) := Option.some.inj ei1
  obtain ⟨n, o, h1, h2, h3, v, L, rfl, ⟨hv, N, -⟩, hq⟩ := rm0 l s _ hw tables_1 i0 i1 s.heap s.heap.size (Nat.le_refl _)  p e ha hc hk s m _ below hf ((Spec.applies_iff_loose hf).mp happ).1 ⟨rfl, State.Warmed39.refl s, rfl⟩ trivial
  rw [plain i0 i1] at hv
  subst hv
  refine ⟨n, _, h1, h2, h3, hpost _ _ _ _ _ _ ⟨Cond.after_iff.mpr rfl, Cond.after_iff.mpr (eq_i res_at (Term.int_eval (1)) rfl), trivial⟩ ⟨hq.1, hq.2.1, (hq.2.2.sift fun y hy => Or.inr (N y hy)).mono (by decide) (by decide)⟩⟩
theorem main_1_1 : Claimed_1_1 := comes_1 fun _ _ _ _ _ _ h hF => ⟨h.1, hF⟩
theorem main_1_2 : Claimed_1_2 := comes_1 fun _ _ _ _ _ _ h hF => ⟨h.2.1, hF⟩
end Jvm.Pilot.@@N@@
namespace Jvm.Pilot.@@N@@
open Jvm Jvm.ClassFile Sem Op Lib Jvm.Free Jvm.Stand Jvm.Pilot.@@N@@.Jvm.D
/-! MADE BY PROGRAM (witnessworld.py) out of the Statement's table words and the real class files: 9 classes; the members and pool entries that the words name. The judged class is class 1, her method 3. -/
namespace start1
open Jvm.ClassFile
def u (s : String) : CpInfo := .utf8 (stringToUtf16 s)
/-- a pool by its gaps: so many unusable entries, then the entry; so many at the end -/
def gap : Nat → List CpInfo → List CpInfo
  | 0, r => r
  | n + 1, r => .unusable :: gap n r
def poolList (es : List (Nat × CpInfo)) (last : Nat) : List CpInfo := es.foldr (fun e r => gap e.1 (e.2 :: r)) (gap last [])
def pool (es : List (Nat × CpInfo)) (last : Nat) : Array CpInfo := ⟨poolList es last⟩
def fileOf (pool : Array CpInfo) (this : Nat) (attrs : Array Attribute := #[]) (ms : Array MethodInfo := #[]) (fl : Nat := 33) (sup : Nat := 0) (ifs : Array Nat := #[]) (fds : Array FieldInfo := #[]) : ClassFile where
  minorVersion := 0
  majorVersion := 65
  constantPool := pool
  accessFlags := fl
  thisClass := this
  superClass := sup
  interfaces := ifs
  fields := fds
  methods := ms
  attributes := attrs
def plain (name : String) (sup : Option ClassId) : Class where
  name := name
  kind := .ordinary
  loader := none
  accessFlags := 33
  super := sup
  interfaces := #[]
  cf := none
  fields := #[]
  methods := #[]
  instanceTypes := #[]
  staticTypes := #[]
  resolved := #[]
  callSites := []
  init := .initialized
  statics := none
  mirror := none

def pool0 : Array CpInfo := pool [(5, u "<init>"), (0, u "()V"), (1, .class_ 10), (1, u "java/lang/Object")] 113

def k0m0 : Method := { name := "<init>", desc := "()V", sig := { parameters := [], returnType := none }, accessFlags := 1, code := none }
/-- java/lang/Object -/
def k0 : Class := { plain "java/lang/Object" none with
  accessFlags := 33
  interfaces := #[]
  cf := some (fileOf pool0 8 #[] #[{ accessFlags := 1, nameIndex := 5, descriptorIndex := 6, attributes := #[] }] 33 0 #[] #[])
  fields := #[]
  methods := #[k0m0]
  instanceTypes := #[]
  staticTypes := #[]
  resolved := Array.replicate 124 none
  statics := none }

def pool1 : Array CpInfo := pool [(2, .class_ 4), (1, u "java/lang/Object"), (0, u "<init>"), (0, u "()V"), (0, .methodref 8 9), (0, .class_ 10), (0, .nameAndType 11 12), (0, u "com/example/hilera/hilera/amqp/Frame"), (0, u "isKnownType"), (0, u "(I)Z"), (0, .methodref 14 15), (0, .class_ 16), (0, .nameAndType 17 12), (0, u "com/example/hilera/hilera/amqp/FrameIsKnownTypePinLaw"), (0, u "expected"), (0, .methodref 14 19), (0, .nameAndType 20 12), (0, u "agrees"), (3, u "law"), (0, u "(II)Z")] 2

def k1m0 : Method := { name := "<init>", desc := "()V", sig := { parameters := [], returnType := none }, accessFlags := 1, code := none }
def k1c1 : Code := { maxStack := 2, maxLocals := 1, code := method_2_code, exceptionTable := #[], attributes := #[] }
def k1m1 : Method := { name := "expected", desc := "(I)Z", sig := { parameters := [.int], returnType := some .boolean }, accessFlags := 10, code := some k1c1 }
def k1c2 : Code := { maxStack := 2, maxLocals := 1, code := method_3_code, exceptionTable := #[], attributes := #[] }
def k1m2 : Method := { name := "agrees", desc := "(I)Z", sig := { parameters := [.int], returnType := some .boolean }, accessFlags := 10, code := some k1c2 }
def k1c3 : Code := { maxStack := 2, maxLocals := 3, code := code, exceptionTable := #[], attributes := #[] }
def k1m3 : Method := { name := "law", desc := "(II)Z", sig := { parameters := [.int, .int], returnType := some .boolean }, accessFlags := 9, code := some k1c3 }
/-- com/example/hilera/hilera/amqp/FrameIsKnownTypePinLaw -/
def k1 : Class := { plain "com/example/hilera/hilera/amqp/FrameIsKnownTypePinLaw" (some 0) with
  accessFlags := 49
  interfaces := #[]
  cf := some (fileOf pool1 14 #[] #[{ accessFlags := 1, nameIndex := 5, descriptorIndex := 6, attributes := #[] }, { accessFlags := 10, nameIndex := 17, descriptorIndex := 12, attributes := #[] }, { accessFlags := 10, nameIndex := 20, descriptorIndex := 12, attributes := #[] }, { accessFlags := 9, nameIndex := 24, descriptorIndex := 25, attributes := #[] }] 49 2 #[] #[])
  fields := #[]
  methods := #[k1m0, k1m1, k1m2, k1m3]
  instanceTypes := #[]
  staticTypes := #[]
  resolved := Array.replicate 28 none
  statics := none }

def pool2 : Array CpInfo := pool [(2, .class_ 4), (1, u "java/lang/Object"), (3, .class_ 10), (1, u "com/example/hilera/hilera/amqp/Frame"), (0, u "type"), (0, u "I"), (2, u "channel"), (2, u "payload"), (0, u "[B"), (26, u "HEARTBEAT_FRAME"), (7, u "METHOD"), (2, u "HEADER"), (1, u "BODY"), (1, u "HEARTBEAT"), (1, u "FRAME_END"), (1, u "OVERHEAD"), (0, u "HEAD_BYTES"), (4, u "isKnownType"), (0, u "(I)Z")] 12

def k2c0 : Code := { maxStack := 2, maxLocals := 1, code := prog_4_method_2_code, exceptionTable := #[], attributes := #[] }
def k2m0 : Method := { name := "isKnownType", desc := "(I)Z", sig := { parameters := [.int], returnType := some .boolean }, accessFlags := 8, code := some k2c0 }
/-- com/example/hilera/hilera/amqp/Frame -/
def k2 : Class := { plain "com/example/hilera/hilera/amqp/Frame" (some 0) with
  accessFlags := 32
  interfaces := #[]
  cf := some (fileOf pool2 8 #[] #[{ accessFlags := 8, nameIndex := 71, descriptorIndex := 72, attributes := #[] }] 32 2 #[] #[{ accessFlags := 24, nameIndex := 54, descriptorIndex := 12, attributes := #[] }, { accessFlags := 24, nameIndex := 57, descriptorIndex := 12, attributes := #[] }, { accessFlags := 24, nameIndex := 59, descriptorIndex := 12, attributes := #[] }, { accessFlags := 24, nameIndex := 61, descriptorIndex := 12, attributes := #[] }, { accessFlags := 24, nameIndex := 63, descriptorIndex := 12, attributes := #[] }, { accessFlags := 24, nameIndex := 65, descriptorIndex := 12, attributes := #[] }, { accessFlags := 24, nameIndex := 66, descriptorIndex := 12, attributes := #[] }, { accessFlags := 26, nameIndex := 46, descriptorIndex := 19, attributes := #[] }, { accessFlags := 18, nameIndex := 11, descriptorIndex := 12, attributes := #[] }, { accessFlags := 18, nameIndex := 15, descriptorIndex := 12, attributes := #[] }, { accessFlags := 18, nameIndex := 18, descriptorIndex := 19, attributes := #[] }])
  fields := #[{ name := "METHOD", type := .int, accessFlags := 24, slot := 0, constantValue := 0 }, { name := "HEADER", type := .int, accessFlags := 24, slot := 1, constantValue := 0 }, { name := "BODY", type := .int, accessFlags := 24, slot := 2, constantValue := 0 }, { name := "HEARTBEAT", type := .int, accessFlags := 24, slot := 3, constantValue := 0 }, { name := "FRAME_END", type := .int, accessFlags := 24, slot := 4, constantValue := 0 }, { name := "OVERHEAD", type := .int, accessFlags := 24, slot := 5, constantValue := 0 }, { name := "HEAD_BYTES", type := .int, accessFlags := 24, slot := 6, constantValue := 0 }, { name := "HEARTBEAT_FRAME", type := (.array .byte), accessFlags := 26, slot := 7, constantValue := 0 }, { name := "type", type := .int, accessFlags := 18, slot := 0, constantValue := 0 }, { name := "channel", type := .int, accessFlags := 18, slot := 1, constantValue := 0 }, { name := "payload", type := (.array .byte), accessFlags := 18, slot := 2, constantValue := 0 }]
  methods := #[k2m0]
  instanceTypes := #[.int, .int, (.array .byte)]
  staticTypes := #[.int, .int, .int, .int, .int, .int, .int, (.array .byte)]
  resolved := Array.replicate 85 none
  statics := none }

def pool3 : Array CpInfo := pool [(1, u "java/lang/Cloneable"), (0, .class_ 1), (0, u "java/lang/Object"), (0, .class_ 3)] 3

/-- java/lang/Cloneable -/
def k3 : Class := { plain "java/lang/Cloneable" (some 0) with
  accessFlags := 1537
  interfaces := #[]
  cf := some (fileOf pool3 2 #[] #[] 1537 4 #[] #[])
  fields := #[]
  methods := #[]
  instanceTypes := #[]
  staticTypes := #[]
  resolved := Array.replicate 8 none
  statics := none }

def pool4 : Array CpInfo := pool [(1, u "java/io/Serializable"), (0, .class_ 1), (0, u "java/lang/Object"), (0, .class_ 3)] 3

/-- java/io/Serializable -/
def k4 : Class := { plain "java/io/Serializable" (some 0) with
  accessFlags := 1537
  interfaces := #[]
  cf := some (fileOf pool4 2 #[] #[] 1537 4 #[] #[])
  fields := #[]
  methods := #[]
  instanceTypes := #[]
  staticTypes := #[]
  resolved := Array.replicate 8 none
  statics := none }

/-- the primitive byte -/
def k5 : Class := { plain "byte" none with kind := .primitive 'B', accessFlags := 0x411 }
/-- [B -/
def k6 : Class := { plain "[B" (some 0) with kind := .array 5 .byte, interfaces := #[3, 4], accessFlags := 1041 }

/-- the primitive int -/
def k7 : Class := { plain "int" none with kind := .primitive 'I', accessFlags := 0x411 }
/-- [I -/
def k8 : Class := { plain "[I" (some 0) with kind := .array 7 .int, interfaces := #[3, 4], accessFlags := 1041 }

def heap : Heap := #[]
def classes : Array Class := #[k0, k1, k2, k3, k4, k5, k6, k7, k8]
def interned : List (Array UInt16 × Addr) := []
def slotsUsed : Nat := 0
def theMethod : MethodId := ⟨1, 3⟩
def args0 : Array Value := #[.int 5, .int 6]
def aboutOver (below : List Frame) : State where
  vm := { classes := classes, interned := interned.toArray }
  heap := heap
  slotsUsed := slotsUsed
  threads := #[{ frames := .invoking theMethod args0 :: below }]
def below0 : List Frame := [.native { method := ⟨0, 0⟩, args := #[] }]
def about1 : State := aboutOver below0
def p0 : Program := .bare "" "" ""
def e0 : Env := launch0.env 0 0 0
theorem w_frames : about1.frames = Frame.invoking theMethod args0 :: below0 := rfl
set_option maxRecDepth 65536 in
theorem w_args : argsFit about1.vm theMethod args0 = true := by decide +kernel
set_option maxRecDepth 65536 in
theorem w_heap : heapFits about1 = true := by decide +kernel
set_option maxRecDepth 65536 in
theorem w_runnable : about1.curStatus? = some .runnable := by decide +kernel
set_option maxRecDepth 65536 in
theorem w_alone : about1.alone = true := by decide +kernel
set_option maxRecDepth 65536 in
theorem w_named : about1.methodNamed? x = some theMethod := by decide +kernel
set_option maxRecDepth 65536 in
theorem w_hears : about1.hears theMethod below0 = true := by decide +kernel
set_option maxRecDepth 65536 in
theorem w_ripe : about1.ripe theMethod args0 below0 = true := by decide +kernel
theorem w_running : about1.status = .running := rfl
set_option maxRecDepth 65536 in
theorem w_room : about1.hasRoom e0.platform room_1 = true :=
  launch0.hasRoom_least _ room_1 (by decide +kernel) (by decide +kernel) (by decide +kernel) (by decide +kernel) (by decide +kernel) (by decide +kernel)
theorem allAtoms_all (ts : List Jvm.Cond) (a : Array Jvm.Value) (st : Jvm.State) : (allAtoms ts).before a st = ts.all (fun c => c.before a st) := by
  induction ts with
  | nil => rfl
  | cons c t ih =>
    show (Jvm.Cond.and c (allAtoms t)).before a st = _
    rw [Jvm.Cond.before_and, ih, List.all_cons]
def words1 : List Jvm.Cond := Jvm.Cond.code x code maxLocals ret :: tables_1
/-- a 'code' word, met by the world's own term for the bytes: nothing is compared byte by byte -/
theorem code_word {y : MethodName} {bytes : ByteArray} {mx : Nat} {rt : Option FieldType} {a : Array Value} {s : State} {m : MethodId} {meth : Method} {c : Code} (h1 : s.methodNamed? y = some m) (h2 : s.vm.method? m = some meth) (h3 : meth.code = some c) (h4 : c.code = bytes)
    (h5 : (c.maxLocals == mx && c.exceptionTable.isEmpty && decide (c.maxStack ≤ mostOperands) && decide (meth.sig.returnType = rt) && !meth.locks && decide (parseMethodDescriptor y.desc = some meth.sig)) = true) : (Jvm.Cond.code y bytes mx rt).before a s = true := by
  simp only [Bool.and_eq_true, beq_iff_eq, Bool.not_eq_true', decide_eq_true_eq] at h5
  obtain ⟨⟨⟨⟨⟨g1, g2⟩, g3⟩, g4⟩, g5⟩, g6⟩ := h5
  simp [Cond.before, Cond.holds, Cond.value, h1, h2, h3, h4, g1, g2, g3, g4, g5, g6]
def isCode : Jvm.Cond → Bool
  | .code _ _ _ _ => true
  | _ => false
theorem all_split {L : List Jvm.Cond} {P : Jvm.Cond → Bool} (h1 : L.all (fun c => isCode c || P c) = true) (h2 : ∀ c ∈ L.filter isCode, P c = true) : L.all P = true := by
  refine List.all_eq_true.mpr fun c hc => ?_
  have h := List.all_eq_true.mp h1 c hc
  rcases Bool.eq_false_or_eq_true (isCode c) with hi | hi
  · exact h2 c (List.mem_filter.mpr ⟨hc, hi⟩)
  · simpa [hi] using h
set_option maxRecDepth 65536 in
theorem w_c0 : (Jvm.Cond.code x code maxLocals ret).before args0 about1 = true := code_word (m := ⟨1, 3⟩) (meth := k1m3) (c := k1c3) (by decide +kernel) rfl rfl rfl (by decide +kernel)
set_option maxRecDepth 65536 in
theorem w_c1 : (Jvm.Cond.code ({ cls := "com/example/hilera/hilera/amqp/FrameIsKnownTypePinLaw", name := "agrees", desc := "(I)Z" } : Jvm.MethodName) method_3_code (1 : Nat) (Option.some Jvm.ClassFile.FieldType.boolean)).before args0 about1 = true := code_word (m := ⟨1, 2⟩) (meth := k1m2) (c := k1c2) (by decide +kernel) rfl rfl rfl (by decide +kernel)
set_option maxRecDepth 65536 in
theorem w_c2 : (Jvm.Cond.code ({ cls := "com/example/hilera/hilera/amqp/Frame", name := "isKnownType", desc := "(I)Z" } : Jvm.MethodName) prog_4_method_2_code (1 : Nat) (Option.some Jvm.ClassFile.FieldType.boolean)).before args0 about1 = true := code_word (m := ⟨2, 0⟩) (meth := k2m0) (c := k2c0) (by decide +kernel) rfl rfl rfl (by decide +kernel)
set_option maxRecDepth 65536 in
theorem w_c3 : (Jvm.Cond.code ({ cls := "com/example/hilera/hilera/amqp/FrameIsKnownTypePinLaw", name := "expected", desc := "(I)Z" } : Jvm.MethodName) method_2_code (1 : Nat) (Option.some Jvm.ClassFile.FieldType.boolean)).before args0 about1 = true := code_word (m := ⟨1, 1⟩) (meth := k1m1) (c := k1c1) (by decide +kernel) rfl rfl rfl (by decide +kernel)
def codes1 : List Jvm.Cond := [Jvm.Cond.code x code maxLocals ret, Jvm.Cond.code ({ cls := "com/example/hilera/hilera/amqp/FrameIsKnownTypePinLaw", name := "agrees", desc := "(I)Z" } : Jvm.MethodName) method_3_code (1 : Nat) (Option.some Jvm.ClassFile.FieldType.boolean), Jvm.Cond.code ({ cls := "com/example/hilera/hilera/amqp/Frame", name := "isKnownType", desc := "(I)Z" } : Jvm.MethodName) prog_4_method_2_code (1 : Nat) (Option.some Jvm.ClassFile.FieldType.boolean), Jvm.Cond.code ({ cls := "com/example/hilera/hilera/amqp/FrameIsKnownTypePinLaw", name := "expected", desc := "(I)Z" } : Jvm.MethodName) method_2_code (1 : Nat) (Option.some Jvm.ClassFile.FieldType.boolean)]
set_option maxRecDepth 65536 in
theorem codes_eq : words1.filter isCode = codes1 := rfl
theorem w_codes : ∀ c ∈ words1.filter isCode, c.before args0 about1 = true := by
  rw [codes_eq]
  intro c hc
  simp only [codes1, List.mem_cons, List.not_mem_nil, or_false] at hc
  rcases hc with rfl | rfl | rfl | rfl
  · exact w_c0
  · exact w_c1
  · exact w_c2
  · exact w_c3
set_option maxRecDepth 65536 in
theorem w_t1 : words1.all (fun c => isCode c || c.before args0 about1) = true := by decide +kernel
theorem w_tables : (allAtoms (Jvm.Cond.code x code maxLocals ret :: tables_1)).before args0 about1 = true := by
  rw [allAtoms_all]
  show words1.all (fun c => c.before args0 about1) = true
  refine all_split ?_ w_codes
  rw [w_t1]
set_option maxRecDepth 65536 in
theorem w_case : (Jvm.Cond.and given_1 narrow_1).before args0 about1 = true := by decide +kernel
theorem w_applies : (headSpec (Jvm.Cond.code x code maxLocals ret :: tables_1) room_1).applies x e0.platform about1 = true :=
  (Spec.applies_iff w_frames).mpr ⟨w_running, w_runnable, w_alone, w_named, w_hears, w_ripe, w_room, w_tables⟩
theorem atStart : AtStart classFile x code maxLocals ret World_1 tables_1 room_1 Calls_1 rest_1 Pre_1 launch0 p0 e0 about1 theMethod args0 below0 :=
  ⟨lists_1, trivial, launch0.admits_env _ _ _, launch0.least_env, fairChoices_fair.cas, fairChoices_fair.clock, w_frames, w_args, w_heap, w_applies, trivial, trivial, w_case⟩
end start1
theorem witness_1 : WitnessClaimed_1 := ⟨start1.p0, start1.e0, start1.about1, start1.theMethod, start1.args0, start1.below0, start1.atStart⟩
end Jvm.Pilot.@@N@@
