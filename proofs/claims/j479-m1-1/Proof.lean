import JvmDerived
import JvmDerived.Pilot.@@N@@Statement
import JvmDerived.Pilot.@@N@@Code
set_option linter.unusedVariables false
set_option linter.unusedSimpArgs false
namespace Jvm.RoadKit
open Sem ClassFile Op Lib Jvm.Stand Jvm.Free Jvm.LawKit
section New
variable {p : Program} {l : Launch} {e : Env} {R : Room} {s : State} {m : MethodId} {args : Array Value} {below : List Frame} {meth : Method} {c : Code} {T : State} {locs : List Loc} {cells slots : Nat}
theorem retI (X : Stand p l e R s m args below meth c T locs cells slots) (hx : p.tables.exec = Jvm.exec) {pc : Nat} {Ls : Array Slot} {z : Int32} {rest : List Value} (hret : meth.sig.returnType = some .int) (hd : decode c.code pc = .ok (.ireturn, 1)) {fs : List Frame}
    (hl : ∀ (f : JFrame) (acts : List Action), f.method = m → f.locked = none → f.entered = [] → (doReturn e (T.setTop f) acts (some (.int z))).1 = T.setFrames fs) : Steps p.tables e below (T.setTop (mkF m pc Ls (.int z :: rest))) (T.setFrames fs) := by
  have hm' : T.vm.method? m = some meth := X.method'
  have hn : narrow .int (.int z) = .int z := rfl
  show Steps p.tables e below (T.setTop { method := m, pc := pc, locals := Ls, stack := _ :: rest, locked := none }) _
  jvm_step X.here [X.here.top, hx, hd, hm', hret, hn]
  first | (intro acts; rw [hl _ acts rfl rfl rfl]) | rw [hl _ _ rfl rfl rfl]
  exact Steps.refl _
end New
end Jvm.RoadKit
namespace Jvm.Pilot.@@N@@
open Jvm Jvm.ClassFile Sem Op Lib Jvm.Free Jvm.Stand Jvm.LawKit Jvm.RoadKit Bundle Jvm.Pilot.@@N@@.Jvm.D
-- body 1: com/example/kirjatieto/kirjatieto/xml/Utf8Bytes.length(I)I
theorem d1_0 : decode prog_83_method_2_code 0 = .ok (.iload_n 0, 1) := by decide +kernel
theorem d1_1 : decode prog_83_method_2_code 1 = .ok (.sipush 128, 3) := by decide +kernel
theorem d1_4 : decode prog_83_method_2_code 4 = .ok (.if_icmp .ge 5, 3) := by decide +kernel
theorem d1_7 : decode prog_83_method_2_code 7 = .ok (.iconst 1, 1) := by decide +kernel
theorem d1_8 : decode prog_83_method_2_code 8 = .ok (.ireturn, 1) := by decide +kernel
theorem d1_9 : decode prog_83_method_2_code 9 = .ok (.iload_n 0, 1) := by decide +kernel
theorem d1_10 : decode prog_83_method_2_code 10 = .ok (.sipush 194, 3) := by decide +kernel
theorem d1_13 : decode prog_83_method_2_code 13 = .ok (.if_icmp .lt 10, 3) := by decide +kernel
theorem d1_16 : decode prog_83_method_2_code 16 = .ok (.iload_n 0, 1) := by decide +kernel
theorem d1_17 : decode prog_83_method_2_code 17 = .ok (.sipush 244, 3) := by decide +kernel
theorem d1_20 : decode prog_83_method_2_code 20 = .ok (.if_icmp .le 5, 3) := by decide +kernel
theorem d1_23 : decode prog_83_method_2_code 23 = .ok (.iconst 0, 1) := by decide +kernel
theorem d1_24 : decode prog_83_method_2_code 24 = .ok (.ireturn, 1) := by decide +kernel
theorem d1_25 : decode prog_83_method_2_code 25 = .ok (.iload_n 0, 1) := by decide +kernel
theorem d1_26 : decode prog_83_method_2_code 26 = .ok (.sipush 224, 3) := by decide +kernel
theorem d1_29 : decode prog_83_method_2_code 29 = .ok (.if_icmp .ge 7, 3) := by decide +kernel
theorem d1_32 : decode prog_83_method_2_code 32 = .ok (.iconst 2, 1) := by decide +kernel
theorem d1_33 : decode prog_83_method_2_code 33 = .ok (.goto 15, 3) := by decide +kernel
theorem d1_36 : decode prog_83_method_2_code 36 = .ok (.iload_n 0, 1) := by decide +kernel
theorem d1_37 : decode prog_83_method_2_code 37 = .ok (.sipush 240, 3) := by decide +kernel
theorem d1_40 : decode prog_83_method_2_code 40 = .ok (.if_icmp .ge 7, 3) := by decide +kernel
theorem d1_43 : decode prog_83_method_2_code 43 = .ok (.iconst 3, 1) := by decide +kernel
theorem d1_44 : decode prog_83_method_2_code 44 = .ok (.goto 4, 3) := by decide +kernel
theorem d1_47 : decode prog_83_method_2_code 47 = .ok (.iconst 4, 1) := by decide +kernel
theorem d1_48 : decode prog_83_method_2_code 48 = .ok (.ireturn, 1) := by decide +kernel
theorem pn_1 : plainName "com/example/kirjatieto/kirjatieto/xml/Utf8Bytes" = true := by first | (simp [plainName, overriddenIn]; done) | decide +kernel
theorem ef_1 (m : MethodId) (p1 : Int32) : entryFrame m #[(.int p1)] 1 = mkF m 0 #[.val (.int p1)] [] := by first | (simp [entryFrame, mkF, argsToLocals, Value.category]; done) | rfl
def f1 (p1 : Int32) : Int32 := (if p1 < (128 : Int32) then (1 : Int32) else (if p1 < (194 : Int32) then (0 : Int32) else (if (244 : Int32) < p1 then (0 : Int32) else (if p1 < (224 : Int32) then (2 : Int32) else (if p1 < (240 : Int32) then (3 : Int32) else (4 : Int32))))))
def Q1 (Z : State) (p1 : Int32) (h0 : Heap) (n0 : Nat) (v : Option Value) (h : Heap) (L : List Loc) : Prop := v = some (.int (f1 p1)) ∧ Fr n0 L ∧ h = h0
set_option maxRecDepth 65536 in
set_option maxHeartbeats 40000000 in
theorem rm1 (l : Launch) (Z : State) (a0 : Array Value) (hw : ∀ d ∈ tables_1, d.before a0 Z = true) (ws : List Jvm.Cond) (p1 : Int32) (h0 : Heap) (n0 : Nat) (Z0 : n0 ≤ h0.size) :
    MetFree l (⟨"com/example/kirjatieto/kirjatieto/xml/Utf8Bytes", "length", "(I)I"⟩ : MethodName) (head1 (Jvm.Cond.code (⟨"com/example/kirjatieto/kirjatieto/xml/Utf8Bytes", "length", "(I)I"⟩ : MethodName) prog_83_method_2_code 1 (some .int) :: ws) ({ frames := 0, cells := 0, slots := 0, locals := 0 } : Room)) (fun a U => a = #[(.int p1)] ∧ Z.Warmed39 U.vm ∧ U.heap = h0) (fun _ _ _ _ _ => True) (fun _ U o U' => ∃ v L, o = .returned v ∧ Q1 Z p1 h0 n0 v U'.heap L ∧ FrameEnd U o U' L ({ frames := 0, cells := 0, slots := 0, locals := 0 } : Room).cells ({ frames := 0, cells := 0, slots := 0, locals := 0 } : Room).slots) := by
  refine MetFree.of_bodySF (plainFor_of_name pn_1) hisR ?_
  intro p e s m args below meth c s₁ Bd hml0 hP hK
  obtain ⟨rfl, hZ, hh⟩ := hP
  have hx := Bd.exec
  have hby := Bd.bytes
  have hml : c.maxLocals = 1 := hml0
  have hown : s.vm.findClass "com/example/kirjatieto/kirjatieto/xml/Utf8Bytes" = some m.cls := findClass_of_methodNamed Bd.named
  have hnm := (name_of_methodNamed Bd.named Bd.method).1
  have X0 : Stand p l e ({ frames := 0, cells := 0, slots := 0, locals := 0 } : Room) s m #[(.int p1)] below meth c s₁ [] 0 0 := Stand.of_body Bd
  have e0 : s₁.heap = h0 := by rw [← hh, Bd.state]; rfl
  have N0 := Fr.nil n0
  have pre0 : ∀ t, Steps p.tables e below (s₁.setTop (mkF m 0 #[.val (.int p1)] [])) t → Steps p.tables e below (s₁.setTop (entryFrame m #[(.int p1)] 1)) t := fun t k => castTop (ef_1 m p1) k
  have K1 : ∀ t, Steps p.tables e below (s₁.setTop (mkF m 4 #[.val (.int p1)] [(.int (128 : Int32)), (.int p1)])) t → Steps p.tables e below (s₁.setTop (mkF m 0 #[.val (.int p1)] [])) t := by
    intro t k
    refine XS.iloadN X0.here hx rfl (hb hby d1_0) rfl ?_
    show Steps p.tables e below (s₁.setTop (mkF m 1 #[.val (.int p1)] [(.int p1)])) t
    refine XS.sipush X0.here hx rfl (hb hby d1_1) ?_
    show Steps p.tables e below (s₁.setTop (mkF m 4 #[.val (.int p1)] [(.int (128 : Int32)), (.int p1)])) t
    exact k
  by_cases hc2 : p1 < (128 : Int32)
  · have K3 : ∀ t, Steps p.tables e below (s₁.setTop (mkF m 7 #[.val (.int p1)] [])) t → Steps p.tables e below (s₁.setTop (mkF m 4 #[.val (.int p1)] [(.int (128 : Int32)), (.int p1)])) t := by
      intro t k
      refine XS.icmpNo X0.here hx rfl (hb hby d1_4) rfl (tlt hc2).2.1 ?_
      exact k
    have K4 : ∀ t, Steps p.tables e below (s₁.setTop (mkF m 8 #[.val (.int p1)] [(.int (1 : Int32))])) t → Steps p.tables e below (s₁.setTop (mkF m 7 #[.val (.int p1)] [])) t := by
      intro t k
      refine XS.iconst X0.here hx rfl (hb hby d1_7) ?_
      show Steps p.tables e below (s₁.setTop (mkF m 8 #[.val (.int p1)] [(.int (1 : Int32))])) t
      exact k
    obtain ⟨fs, hr, hrun, hended, hW, hsame⟩ := X0.leave (v := some (.int (1 : Int32))) (fun h => by rw [Bd.returns] at h; cases h)
    refine ⟨_, _, pre0 _ (K1 _ (K3 _ (K4 _ (retI X0 hx Bd.returns (hb hby d1_8) hr)))), hrun, hended, _, _, rfl, ?_, ⟨_, rfl⟩, hW, hsame.mono (by decide) (by decide)⟩
    show Q1 Z p1 h0 n0 _ s₁.heap _
    rw [e0]
    exact ⟨congrArg (fun z => some (Value.int z)) (show (1 : Int32) = f1 p1 from Eq.symm (if_pos hc2)), N0, rfl⟩
  · have K5 : ∀ t, Steps p.tables e below (s₁.setTop (mkF m 9 #[.val (.int p1)] [])) t → Steps p.tables e below (s₁.setTop (mkF m 4 #[.val (.int p1)] [(.int (128 : Int32)), (.int p1)])) t := by
      intro t k
      refine XS.icmpYes X0.here hx rfl (pc0 := 4) (pc' := 9) rfl (hb hby d1_4) rfl (flt hc2).2.1 (by decide) (by decide) ?_
      exact k
    have K6 : ∀ t, Steps p.tables e below (s₁.setTop (mkF m 13 #[.val (.int p1)] [(.int (194 : Int32)), (.int p1)])) t → Steps p.tables e below (s₁.setTop (mkF m 9 #[.val (.int p1)] [])) t := by
      intro t k
      refine XS.iloadN X0.here hx rfl (hb hby d1_9) rfl ?_
      show Steps p.tables e below (s₁.setTop (mkF m 10 #[.val (.int p1)] [(.int p1)])) t
      refine XS.sipush X0.here hx rfl (hb hby d1_10) ?_
      show Steps p.tables e below (s₁.setTop (mkF m 13 #[.val (.int p1)] [(.int (194 : Int32)), (.int p1)])) t
      exact k
    by_cases hc7 : p1 < (194 : Int32)
    · have K8 : ∀ t, Steps p.tables e below (s₁.setTop (mkF m 23 #[.val (.int p1)] [])) t → Steps p.tables e below (s₁.setTop (mkF m 13 #[.val (.int p1)] [(.int (194 : Int32)), (.int p1)])) t := by
        intro t k
        refine XS.icmpYes X0.here hx rfl (pc0 := 13) (pc' := 23) rfl (hb hby d1_13) rfl (tlt hc7).1 (by decide) (by decide) ?_
        exact k
      have K9 : ∀ t, Steps p.tables e below (s₁.setTop (mkF m 24 #[.val (.int p1)] [(.int (0 : Int32))])) t → Steps p.tables e below (s₁.setTop (mkF m 23 #[.val (.int p1)] [])) t := by
        intro t k
        refine XS.iconst X0.here hx rfl (hb hby d1_23) ?_
        show Steps p.tables e below (s₁.setTop (mkF m 24 #[.val (.int p1)] [(.int (0 : Int32))])) t
        exact k
      obtain ⟨fs, hr, hrun, hended, hW, hsame⟩ := X0.leave (v := some (.int (0 : Int32))) (fun h => by rw [Bd.returns] at h; cases h)
      refine ⟨_, _, pre0 _ (K1 _ (K5 _ (K6 _ (K8 _ (K9 _ (retI X0 hx Bd.returns (hb hby d1_24) hr)))))), hrun, hended, _, _, rfl, ?_, ⟨_, rfl⟩, hW, hsame.mono (by decide) (by decide)⟩
      show Q1 Z p1 h0 n0 _ s₁.heap _
      rw [e0]
      exact ⟨congrArg (fun z => some (Value.int z)) (show (0 : Int32) = f1 p1 from Eq.symm ((if_neg hc2).trans (if_pos hc7))), N0, rfl⟩
    · have K10 : ∀ t, Steps p.tables e below (s₁.setTop (mkF m 16 #[.val (.int p1)] [])) t → Steps p.tables e below (s₁.setTop (mkF m 13 #[.val (.int p1)] [(.int (194 : Int32)), (.int p1)])) t := by
        intro t k
        refine XS.icmpNo X0.here hx rfl (hb hby d1_13) rfl (flt hc7).1 ?_
        exact k
      have K11 : ∀ t, Steps p.tables e below (s₁.setTop (mkF m 20 #[.val (.int p1)] [(.int (244 : Int32)), (.int p1)])) t → Steps p.tables e below (s₁.setTop (mkF m 16 #[.val (.int p1)] [])) t := by
        intro t k
        refine XS.iloadN X0.here hx rfl (hb hby d1_16) rfl ?_
        show Steps p.tables e below (s₁.setTop (mkF m 17 #[.val (.int p1)] [(.int p1)])) t
        refine XS.sipush X0.here hx rfl (hb hby d1_17) ?_
        show Steps p.tables e below (s₁.setTop (mkF m 20 #[.val (.int p1)] [(.int (244 : Int32)), (.int p1)])) t
        exact k
      by_cases hc12 : (244 : Int32) < p1
      · have K13 : ∀ t, Steps p.tables e below (s₁.setTop (mkF m 23 #[.val (.int p1)] [])) t → Steps p.tables e below (s₁.setTop (mkF m 20 #[.val (.int p1)] [(.int (244 : Int32)), (.int p1)])) t := by
          intro t k
          refine XS.icmpNo X0.here hx rfl (hb hby d1_20) rfl (tlt hc12).2.2.2 ?_
          exact k
        have K14 : ∀ t, Steps p.tables e below (s₁.setTop (mkF m 24 #[.val (.int p1)] [(.int (0 : Int32))])) t → Steps p.tables e below (s₁.setTop (mkF m 23 #[.val (.int p1)] [])) t := by
          intro t k
          refine XS.iconst X0.here hx rfl (hb hby d1_23) ?_
          show Steps p.tables e below (s₁.setTop (mkF m 24 #[.val (.int p1)] [(.int (0 : Int32))])) t
          exact k
        obtain ⟨fs, hr, hrun, hended, hW, hsame⟩ := X0.leave (v := some (.int (0 : Int32))) (fun h => by rw [Bd.returns] at h; cases h)
        refine ⟨_, _, pre0 _ (K1 _ (K5 _ (K6 _ (K10 _ (K11 _ (K13 _ (K14 _ (retI X0 hx Bd.returns (hb hby d1_24) hr)))))))), hrun, hended, _, _, rfl, ?_, ⟨_, rfl⟩, hW, hsame.mono (by decide) (by decide)⟩
        show Q1 Z p1 h0 n0 _ s₁.heap _
        rw [e0]
        exact ⟨congrArg (fun z => some (Value.int z)) (show (0 : Int32) = f1 p1 from Eq.symm ((if_neg hc2).trans ((if_neg hc7).trans (if_pos hc12)))), N0, rfl⟩
      · have K15 : ∀ t, Steps p.tables e below (s₁.setTop (mkF m 25 #[.val (.int p1)] [])) t → Steps p.tables e below (s₁.setTop (mkF m 20 #[.val (.int p1)] [(.int (244 : Int32)), (.int p1)])) t := by
          intro t k
          refine XS.icmpYes X0.here hx rfl (pc0 := 20) (pc' := 25) rfl (hb hby d1_20) rfl (flt hc12).2.2.2 (by decide) (by decide) ?_
          exact k
        have K16 : ∀ t, Steps p.tables e below (s₁.setTop (mkF m 29 #[.val (.int p1)] [(.int (224 : Int32)), (.int p1)])) t → Steps p.tables e below (s₁.setTop (mkF m 25 #[.val (.int p1)] [])) t := by
          intro t k
          refine XS.iloadN X0.here hx rfl (hb hby d1_25) rfl ?_
          show Steps p.tables e below (s₁.setTop (mkF m 26 #[.val (.int p1)] [(.int p1)])) t
          refine XS.sipush X0.here hx rfl (hb hby d1_26) ?_
          show Steps p.tables e below (s₁.setTop (mkF m 29 #[.val (.int p1)] [(.int (224 : Int32)), (.int p1)])) t
          exact k
        by_cases hc17 : p1 < (224 : Int32)
        · have K18 : ∀ t, Steps p.tables e below (s₁.setTop (mkF m 32 #[.val (.int p1)] [])) t → Steps p.tables e below (s₁.setTop (mkF m 29 #[.val (.int p1)] [(.int (224 : Int32)), (.int p1)])) t := by
            intro t k
            refine XS.icmpNo X0.here hx rfl (hb hby d1_29) rfl (tlt hc17).2.1 ?_
            exact k
          have K19 : ∀ t, Steps p.tables e below (s₁.setTop (mkF m 48 #[.val (.int p1)] [(.int (2 : Int32))])) t → Steps p.tables e below (s₁.setTop (mkF m 32 #[.val (.int p1)] [])) t := by
            intro t k
            refine XS.iconst X0.here hx rfl (hb hby d1_32) ?_
            show Steps p.tables e below (s₁.setTop (mkF m 33 #[.val (.int p1)] [(.int (2 : Int32))])) t
            refine XS.goto X0.here hx rfl (pc0 := 33) (pc' := 48) rfl (hb hby d1_33) (by decide) (by decide) ?_
            show Steps p.tables e below (s₁.setTop (mkF m 48 #[.val (.int p1)] [(.int (2 : Int32))])) t
            exact k
          obtain ⟨fs, hr, hrun, hended, hW, hsame⟩ := X0.leave (v := some (.int (2 : Int32))) (fun h => by rw [Bd.returns] at h; cases h)
          refine ⟨_, _, pre0 _ (K1 _ (K5 _ (K6 _ (K10 _ (K11 _ (K15 _ (K16 _ (K18 _ (K19 _ (retI X0 hx Bd.returns (hb hby d1_48) hr)))))))))), hrun, hended, _, _, rfl, ?_, ⟨_, rfl⟩, hW, hsame.mono (by decide) (by decide)⟩
          show Q1 Z p1 h0 n0 _ s₁.heap _
          rw [e0]
          exact ⟨congrArg (fun z => some (Value.int z)) (show (2 : Int32) = f1 p1 from Eq.symm ((if_neg hc2).trans ((if_neg hc7).trans ((if_neg hc12).trans (if_pos hc17))))), N0, rfl⟩
        · have K20 : ∀ t, Steps p.tables e below (s₁.setTop (mkF m 36 #[.val (.int p1)] [])) t → Steps p.tables e below (s₁.setTop (mkF m 29 #[.val (.int p1)] [(.int (224 : Int32)), (.int p1)])) t := by
            intro t k
            refine XS.icmpYes X0.here hx rfl (pc0 := 29) (pc' := 36) rfl (hb hby d1_29) rfl (flt hc17).2.1 (by decide) (by decide) ?_
            exact k
          have K21 : ∀ t, Steps p.tables e below (s₁.setTop (mkF m 40 #[.val (.int p1)] [(.int (240 : Int32)), (.int p1)])) t → Steps p.tables e below (s₁.setTop (mkF m 36 #[.val (.int p1)] [])) t := by
            intro t k
            refine XS.iloadN X0.here hx rfl (hb hby d1_36) rfl ?_
            show Steps p.tables e below (s₁.setTop (mkF m 37 #[.val (.int p1)] [(.int p1)])) t
            refine XS.sipush X0.here hx rfl (hb hby d1_37) ?_
            show Steps p.tables e below (s₁.setTop (mkF m 40 #[.val (.int p1)] [(.int (240 : Int32)), (.int p1)])) t
            exact k
          by_cases hc22 : p1 < (240 : Int32)
          · have K23 : ∀ t, Steps p.tables e below (s₁.setTop (mkF m 43 #[.val (.int p1)] [])) t → Steps p.tables e below (s₁.setTop (mkF m 40 #[.val (.int p1)] [(.int (240 : Int32)), (.int p1)])) t := by
              intro t k
              refine XS.icmpNo X0.here hx rfl (hb hby d1_40) rfl (tlt hc22).2.1 ?_
              exact k
            have K24 : ∀ t, Steps p.tables e below (s₁.setTop (mkF m 48 #[.val (.int p1)] [(.int (3 : Int32))])) t → Steps p.tables e below (s₁.setTop (mkF m 43 #[.val (.int p1)] [])) t := by
              intro t k
              refine XS.iconst X0.here hx rfl (hb hby d1_43) ?_
              show Steps p.tables e below (s₁.setTop (mkF m 44 #[.val (.int p1)] [(.int (3 : Int32))])) t
              refine XS.goto X0.here hx rfl (pc0 := 44) (pc' := 48) rfl (hb hby d1_44) (by decide) (by decide) ?_
              show Steps p.tables e below (s₁.setTop (mkF m 48 #[.val (.int p1)] [(.int (3 : Int32))])) t
              exact k
            obtain ⟨fs, hr, hrun, hended, hW, hsame⟩ := X0.leave (v := some (.int (3 : Int32))) (fun h => by rw [Bd.returns] at h; cases h)
            refine ⟨_, _, pre0 _ (K1 _ (K5 _ (K6 _ (K10 _ (K11 _ (K15 _ (K16 _ (K20 _ (K21 _ (K23 _ (K24 _ (retI X0 hx Bd.returns (hb hby d1_48) hr)))))))))))), hrun, hended, _, _, rfl, ?_, ⟨_, rfl⟩, hW, hsame.mono (by decide) (by decide)⟩
            show Q1 Z p1 h0 n0 _ s₁.heap _
            rw [e0]
            exact ⟨congrArg (fun z => some (Value.int z)) (show (3 : Int32) = f1 p1 from Eq.symm ((if_neg hc2).trans ((if_neg hc7).trans ((if_neg hc12).trans ((if_neg hc17).trans (if_pos hc22)))))), N0, rfl⟩
          · have K25 : ∀ t, Steps p.tables e below (s₁.setTop (mkF m 47 #[.val (.int p1)] [])) t → Steps p.tables e below (s₁.setTop (mkF m 40 #[.val (.int p1)] [(.int (240 : Int32)), (.int p1)])) t := by
              intro t k
              refine XS.icmpYes X0.here hx rfl (pc0 := 40) (pc' := 47) rfl (hb hby d1_40) rfl (flt hc22).2.1 (by decide) (by decide) ?_
              exact k
            have K26 : ∀ t, Steps p.tables e below (s₁.setTop (mkF m 48 #[.val (.int p1)] [(.int (4 : Int32))])) t → Steps p.tables e below (s₁.setTop (mkF m 47 #[.val (.int p1)] [])) t := by
              intro t k
              refine XS.iconst X0.here hx rfl (hb hby d1_47) ?_
              show Steps p.tables e below (s₁.setTop (mkF m 48 #[.val (.int p1)] [(.int (4 : Int32))])) t
              exact k
            obtain ⟨fs, hr, hrun, hended, hW, hsame⟩ := X0.leave (v := some (.int (4 : Int32))) (fun h => by rw [Bd.returns] at h; cases h)
            refine ⟨_, _, pre0 _ (K1 _ (K5 _ (K6 _ (K10 _ (K11 _ (K15 _ (K16 _ (K20 _ (K21 _ (K25 _ (K26 _ (retI X0 hx Bd.returns (hb hby d1_48) hr)))))))))))), hrun, hended, _, _, rfl, ?_, ⟨_, rfl⟩, hW, hsame.mono (by decide) (by decide)⟩
            show Q1 Z p1 h0 n0 _ s₁.heap _
            rw [e0]
            exact ⟨congrArg (fun z => some (Value.int z)) (show (4 : Int32) = f1 p1 from Eq.symm ((if_neg hc2).trans ((if_neg hc7).trans ((if_neg hc12).trans ((if_neg hc17).trans (if_neg hc22)))))), N0, rfl⟩
-- body 2: com/example/kirjatieto/kirjatieto/xml/Utf8BytesLengthPinLaw.expected(I)I
theorem d2_0 : decode method_2_code 0 = .ok (.iload_n 0, 1) := by decide +kernel
theorem d2_1 : decode method_2_code 1 = .ok (.sipush 128, 3) := by decide +kernel
theorem d2_4 : decode method_2_code 4 = .ok (.iand, 1) := by decide +kernel
theorem d2_5 : decode method_2_code 5 = .ok (.ifCond .ne 5, 3) := by decide +kernel
theorem d2_8 : decode method_2_code 8 = .ok (.iconst 1, 1) := by decide +kernel
theorem d2_9 : decode method_2_code 9 = .ok (.ireturn, 1) := by decide +kernel
theorem d2_10 : decode method_2_code 10 = .ok (.iload_n 0, 1) := by decide +kernel
theorem d2_11 : decode method_2_code 11 = .ok (.sipush 224, 3) := by decide +kernel
theorem d2_14 : decode method_2_code 14 = .ok (.iand, 1) := by decide +kernel
theorem d2_15 : decode method_2_code 15 = .ok (.sipush 192, 3) := by decide +kernel
theorem d2_18 : decode method_2_code 18 = .ok (.if_icmp .ne 21, 3) := by decide +kernel
theorem d2_21 : decode method_2_code 21 = .ok (.iload_n 0, 1) := by decide +kernel
theorem d2_22 : decode method_2_code 22 = .ok (.sipush 192, 3) := by decide +kernel
theorem d2_25 : decode method_2_code 25 = .ok (.if_icmp .eq 10, 3) := by decide +kernel
theorem d2_28 : decode method_2_code 28 = .ok (.iload_n 0, 1) := by decide +kernel
theorem d2_29 : decode method_2_code 29 = .ok (.sipush 193, 3) := by decide +kernel
theorem d2_32 : decode method_2_code 32 = .ok (.if_icmp .ne 5, 3) := by decide +kernel
theorem d2_35 : decode method_2_code 35 = .ok (.iconst 0, 1) := by decide +kernel
theorem d2_36 : decode method_2_code 36 = .ok (.ireturn, 1) := by decide +kernel
theorem d2_37 : decode method_2_code 37 = .ok (.iconst 2, 1) := by decide +kernel
theorem d2_38 : decode method_2_code 38 = .ok (.ireturn, 1) := by decide +kernel
theorem d2_39 : decode method_2_code 39 = .ok (.iload_n 0, 1) := by decide +kernel
theorem d2_40 : decode method_2_code 40 = .ok (.sipush 240, 3) := by decide +kernel
theorem d2_43 : decode method_2_code 43 = .ok (.iand, 1) := by decide +kernel
theorem d2_44 : decode method_2_code 44 = .ok (.sipush 224, 3) := by decide +kernel
theorem d2_47 : decode method_2_code 47 = .ok (.if_icmp .ne 5, 3) := by decide +kernel
theorem d2_50 : decode method_2_code 50 = .ok (.iconst 3, 1) := by decide +kernel
theorem d2_51 : decode method_2_code 51 = .ok (.ireturn, 1) := by decide +kernel
theorem d2_52 : decode method_2_code 52 = .ok (.iload_n 0, 1) := by decide +kernel
theorem d2_53 : decode method_2_code 53 = .ok (.sipush 248, 3) := by decide +kernel
theorem d2_56 : decode method_2_code 56 = .ok (.iand, 1) := by decide +kernel
theorem d2_57 : decode method_2_code 57 = .ok (.sipush 240, 3) := by decide +kernel
theorem d2_60 : decode method_2_code 60 = .ok (.if_icmp .ne 28, 3) := by decide +kernel
theorem d2_63 : decode method_2_code 63 = .ok (.iload_n 0, 1) := by decide +kernel
theorem d2_64 : decode method_2_code 64 = .ok (.sipush 245, 3) := by decide +kernel
theorem d2_67 : decode method_2_code 67 = .ok (.if_icmp .eq 17, 3) := by decide +kernel
theorem d2_70 : decode method_2_code 70 = .ok (.iload_n 0, 1) := by decide +kernel
theorem d2_71 : decode method_2_code 71 = .ok (.sipush 246, 3) := by decide +kernel
theorem d2_74 : decode method_2_code 74 = .ok (.if_icmp .eq 10, 3) := by decide +kernel
theorem d2_77 : decode method_2_code 77 = .ok (.iload_n 0, 1) := by decide +kernel
theorem d2_78 : decode method_2_code 78 = .ok (.sipush 247, 3) := by decide +kernel
theorem d2_81 : decode method_2_code 81 = .ok (.if_icmp .ne 5, 3) := by decide +kernel
theorem d2_84 : decode method_2_code 84 = .ok (.iconst 0, 1) := by decide +kernel
theorem d2_85 : decode method_2_code 85 = .ok (.ireturn, 1) := by decide +kernel
theorem d2_86 : decode method_2_code 86 = .ok (.iconst 4, 1) := by decide +kernel
theorem d2_87 : decode method_2_code 87 = .ok (.ireturn, 1) := by decide +kernel
theorem d2_88 : decode method_2_code 88 = .ok (.iconst 0, 1) := by decide +kernel
theorem d2_89 : decode method_2_code 89 = .ok (.ireturn, 1) := by decide +kernel
theorem pn_2 : plainName "com/example/kirjatieto/kirjatieto/xml/Utf8BytesLengthPinLaw" = true := by first | (simp [plainName, overriddenIn]; done) | decide +kernel
theorem ef_2 (m : MethodId) (p1 : Int32) : entryFrame m #[(.int p1)] 1 = mkF m 0 #[.val (.int p1)] [] := by first | (simp [entryFrame, mkF, argsToLocals, Value.category]; done) | rfl
def f2 (p1 : Int32) : Int32 := (if (p1 &&& (128 : Int32)) = (0 : Int32) then (1 : Int32) else (if (p1 &&& (224 : Int32)) = (192 : Int32) then (if p1 = (192 : Int32) then (0 : Int32) else (if p1 = (193 : Int32) then (0 : Int32) else (2 : Int32))) else (if (p1 &&& (240 : Int32)) = (224 : Int32) then (3 : Int32) else (if (p1 &&& (248 : Int32)) = (240 : Int32) then (if p1 = (245 : Int32) then (0 : Int32) else (if p1 = (246 : Int32) then (0 : Int32) else (if p1 = (247 : Int32) then (0 : Int32) else (4 : Int32)))) else (0 : Int32)))))
def Q2 (Z : State) (p1 : Int32) (h0 : Heap) (n0 : Nat) (v : Option Value) (h : Heap) (L : List Loc) : Prop := v = some (.int (f2 p1)) ∧ Fr n0 L ∧ h = h0
set_option maxRecDepth 65536 in
set_option maxHeartbeats 40000000 in
theorem rm2 (l : Launch) (Z : State) (a0 : Array Value) (hw : ∀ d ∈ tables_1, d.before a0 Z = true) (ws : List Jvm.Cond) (p1 : Int32) (h0 : Heap) (n0 : Nat) (Z0 : n0 ≤ h0.size) :
    MetFree l (⟨"com/example/kirjatieto/kirjatieto/xml/Utf8BytesLengthPinLaw", "expected", "(I)I"⟩ : MethodName) (head1 (Jvm.Cond.code (⟨"com/example/kirjatieto/kirjatieto/xml/Utf8BytesLengthPinLaw", "expected", "(I)I"⟩ : MethodName) method_2_code 1 (some .int) :: ws) ({ frames := 0, cells := 0, slots := 0, locals := 0 } : Room)) (fun a U => a = #[(.int p1)] ∧ Z.Warmed39 U.vm ∧ U.heap = h0) (fun _ _ _ _ _ => True) (fun _ U o U' => ∃ v L, o = .returned v ∧ Q2 Z p1 h0 n0 v U'.heap L ∧ FrameEnd U o U' L ({ frames := 0, cells := 0, slots := 0, locals := 0 } : Room).cells ({ frames := 0, cells := 0, slots := 0, locals := 0 } : Room).slots) := by
  refine MetFree.of_bodySF (plainFor_of_name pn_2) hisR ?_
  intro p e s m args below meth c s₁ Bd hml0 hP hK
  obtain ⟨rfl, hZ, hh⟩ := hP
  have hx := Bd.exec
  have hby := Bd.bytes
  have hml : c.maxLocals = 1 := hml0
  have hown : s.vm.findClass "com/example/kirjatieto/kirjatieto/xml/Utf8BytesLengthPinLaw" = some m.cls := findClass_of_methodNamed Bd.named
  have hnm := (name_of_methodNamed Bd.named Bd.method).1
  have X0 : Stand p l e ({ frames := 0, cells := 0, slots := 0, locals := 0 } : Room) s m #[(.int p1)] below meth c s₁ [] 0 0 := Stand.of_body Bd
  have e0 : s₁.heap = h0 := by rw [← hh, Bd.state]; rfl
  have N0 := Fr.nil n0
  have pre0 : ∀ t, Steps p.tables e below (s₁.setTop (mkF m 0 #[.val (.int p1)] [])) t → Steps p.tables e below (s₁.setTop (entryFrame m #[(.int p1)] 1)) t := fun t k => castTop (ef_2 m p1) k
  have K1 : ∀ t, Steps p.tables e below (s₁.setTop (mkF m 5 #[.val (.int p1)] [(.int (p1 &&& (128 : Int32)))])) t → Steps p.tables e below (s₁.setTop (mkF m 0 #[.val (.int p1)] [])) t := by
    intro t k
    refine XS.iloadN X0.here hx rfl (hb hby d2_0) rfl ?_
    show Steps p.tables e below (s₁.setTop (mkF m 1 #[.val (.int p1)] [(.int p1)])) t
    refine XS.sipush X0.here hx rfl (hb hby d2_1) ?_
    show Steps p.tables e below (s₁.setTop (mkF m 4 #[.val (.int p1)] [(.int (128 : Int32)), (.int p1)])) t
    refine XS.iand X0.here hx rfl (hb hby d2_4) rfl ?_
    show Steps p.tables e below (s₁.setTop (mkF m 5 #[.val (.int p1)] [(.int (p1 &&& (128 : Int32)))])) t
    exact k
  by_cases hc2 : (p1 &&& (128 : Int32)) = (0 : Int32)
  · have K3 : ∀ t, Steps p.tables e below (s₁.setTop (mkF m 8 #[.val (.int p1)] [])) t → Steps p.tables e below (s₁.setTop (mkF m 5 #[.val (.int p1)] [(.int (p1 &&& (128 : Int32)))])) t := by
      intro t k
      refine XS.ifNo X0.here hx rfl (hb hby d2_5) rfl ((if0 _ _).trans (teq hc2).2) ?_
      exact k
    have K4 : ∀ t, Steps p.tables e below (s₁.setTop (mkF m 9 #[.val (.int p1)] [(.int (1 : Int32))])) t → Steps p.tables e below (s₁.setTop (mkF m 8 #[.val (.int p1)] [])) t := by
      intro t k
      refine XS.iconst X0.here hx rfl (hb hby d2_8) ?_
      show Steps p.tables e below (s₁.setTop (mkF m 9 #[.val (.int p1)] [(.int (1 : Int32))])) t
      exact k
    obtain ⟨fs, hr, hrun, hended, hW, hsame⟩ := X0.leave (v := some (.int (1 : Int32))) (fun h => by rw [Bd.returns] at h; cases h)
    refine ⟨_, _, pre0 _ (K1 _ (K3 _ (K4 _ (retI X0 hx Bd.returns (hb hby d2_9) hr)))), hrun, hended, _, _, rfl, ?_, ⟨_, rfl⟩, hW, hsame.mono (by decide) (by decide)⟩
    show Q2 Z p1 h0 n0 _ s₁.heap _
    rw [e0]
    exact ⟨congrArg (fun z => some (Value.int z)) (show (1 : Int32) = f2 p1 from Eq.symm (if_pos hc2)), N0, rfl⟩
  · have K5 : ∀ t, Steps p.tables e below (s₁.setTop (mkF m 10 #[.val (.int p1)] [])) t → Steps p.tables e below (s₁.setTop (mkF m 5 #[.val (.int p1)] [(.int (p1 &&& (128 : Int32)))])) t := by
      intro t k
      refine XS.ifYes X0.here hx rfl (pc0 := 5) (pc' := 10) rfl (hb hby d2_5) rfl ((if0 _ _).trans (feq hc2).2) (by decide) (by decide) ?_
      exact k
    have K6 : ∀ t, Steps p.tables e below (s₁.setTop (mkF m 18 #[.val (.int p1)] [(.int (192 : Int32)), (.int (p1 &&& (224 : Int32)))])) t → Steps p.tables e below (s₁.setTop (mkF m 10 #[.val (.int p1)] [])) t := by
      intro t k
      refine XS.iloadN X0.here hx rfl (hb hby d2_10) rfl ?_
      show Steps p.tables e below (s₁.setTop (mkF m 11 #[.val (.int p1)] [(.int p1)])) t
      refine XS.sipush X0.here hx rfl (hb hby d2_11) ?_
      show Steps p.tables e below (s₁.setTop (mkF m 14 #[.val (.int p1)] [(.int (224 : Int32)), (.int p1)])) t
      refine XS.iand X0.here hx rfl (hb hby d2_14) rfl ?_
      show Steps p.tables e below (s₁.setTop (mkF m 15 #[.val (.int p1)] [(.int (p1 &&& (224 : Int32)))])) t
      refine XS.sipush X0.here hx rfl (hb hby d2_15) ?_
      show Steps p.tables e below (s₁.setTop (mkF m 18 #[.val (.int p1)] [(.int (192 : Int32)), (.int (p1 &&& (224 : Int32)))])) t
      exact k
    by_cases hc7 : (p1 &&& (224 : Int32)) = (192 : Int32)
    · have K8 : ∀ t, Steps p.tables e below (s₁.setTop (mkF m 21 #[.val (.int p1)] [])) t → Steps p.tables e below (s₁.setTop (mkF m 18 #[.val (.int p1)] [(.int (192 : Int32)), (.int (p1 &&& (224 : Int32)))])) t := by
        intro t k
        refine XS.icmpNo X0.here hx rfl (hb hby d2_18) rfl (teq hc7).2 ?_
        exact k
      have K9 : ∀ t, Steps p.tables e below (s₁.setTop (mkF m 25 #[.val (.int p1)] [(.int (192 : Int32)), (.int p1)])) t → Steps p.tables e below (s₁.setTop (mkF m 21 #[.val (.int p1)] [])) t := by
        intro t k
        refine XS.iloadN X0.here hx rfl (hb hby d2_21) rfl ?_
        show Steps p.tables e below (s₁.setTop (mkF m 22 #[.val (.int p1)] [(.int p1)])) t
        refine XS.sipush X0.here hx rfl (hb hby d2_22) ?_
        show Steps p.tables e below (s₁.setTop (mkF m 25 #[.val (.int p1)] [(.int (192 : Int32)), (.int p1)])) t
        exact k
      by_cases hc10 : p1 = (192 : Int32)
      · have K11 : ∀ t, Steps p.tables e below (s₁.setTop (mkF m 35 #[.val (.int p1)] [])) t → Steps p.tables e below (s₁.setTop (mkF m 25 #[.val (.int p1)] [(.int (192 : Int32)), (.int p1)])) t := by
          intro t k
          refine XS.icmpYes X0.here hx rfl (pc0 := 25) (pc' := 35) rfl (hb hby d2_25) rfl (teq hc10).1 (by decide) (by decide) ?_
          exact k
        have K12 : ∀ t, Steps p.tables e below (s₁.setTop (mkF m 36 #[.val (.int p1)] [(.int (0 : Int32))])) t → Steps p.tables e below (s₁.setTop (mkF m 35 #[.val (.int p1)] [])) t := by
          intro t k
          refine XS.iconst X0.here hx rfl (hb hby d2_35) ?_
          show Steps p.tables e below (s₁.setTop (mkF m 36 #[.val (.int p1)] [(.int (0 : Int32))])) t
          exact k
        obtain ⟨fs, hr, hrun, hended, hW, hsame⟩ := X0.leave (v := some (.int (0 : Int32))) (fun h => by rw [Bd.returns] at h; cases h)
        refine ⟨_, _, pre0 _ (K1 _ (K5 _ (K6 _ (K8 _ (K9 _ (K11 _ (K12 _ (retI X0 hx Bd.returns (hb hby d2_36) hr)))))))), hrun, hended, _, _, rfl, ?_, ⟨_, rfl⟩, hW, hsame.mono (by decide) (by decide)⟩
        show Q2 Z p1 h0 n0 _ s₁.heap _
        rw [e0]
        exact ⟨congrArg (fun z => some (Value.int z)) (show (0 : Int32) = f2 p1 from Eq.symm ((if_neg hc2).trans ((if_pos hc7).trans (if_pos hc10)))), N0, rfl⟩
      · have K13 : ∀ t, Steps p.tables e below (s₁.setTop (mkF m 28 #[.val (.int p1)] [])) t → Steps p.tables e below (s₁.setTop (mkF m 25 #[.val (.int p1)] [(.int (192 : Int32)), (.int p1)])) t := by
          intro t k
          refine XS.icmpNo X0.here hx rfl (hb hby d2_25) rfl (feq hc10).1 ?_
          exact k
        have K14 : ∀ t, Steps p.tables e below (s₁.setTop (mkF m 32 #[.val (.int p1)] [(.int (193 : Int32)), (.int p1)])) t → Steps p.tables e below (s₁.setTop (mkF m 28 #[.val (.int p1)] [])) t := by
          intro t k
          refine XS.iloadN X0.here hx rfl (hb hby d2_28) rfl ?_
          show Steps p.tables e below (s₁.setTop (mkF m 29 #[.val (.int p1)] [(.int p1)])) t
          refine XS.sipush X0.here hx rfl (hb hby d2_29) ?_
          show Steps p.tables e below (s₁.setTop (mkF m 32 #[.val (.int p1)] [(.int (193 : Int32)), (.int p1)])) t
          exact k
        by_cases hc15 : p1 = (193 : Int32)
        · have K16 : ∀ t, Steps p.tables e below (s₁.setTop (mkF m 35 #[.val (.int p1)] [])) t → Steps p.tables e below (s₁.setTop (mkF m 32 #[.val (.int p1)] [(.int (193 : Int32)), (.int p1)])) t := by
            intro t k
            refine XS.icmpNo X0.here hx rfl (hb hby d2_32) rfl (teq hc15).2 ?_
            exact k
          have K17 : ∀ t, Steps p.tables e below (s₁.setTop (mkF m 36 #[.val (.int p1)] [(.int (0 : Int32))])) t → Steps p.tables e below (s₁.setTop (mkF m 35 #[.val (.int p1)] [])) t := by
            intro t k
            refine XS.iconst X0.here hx rfl (hb hby d2_35) ?_
            show Steps p.tables e below (s₁.setTop (mkF m 36 #[.val (.int p1)] [(.int (0 : Int32))])) t
            exact k
          obtain ⟨fs, hr, hrun, hended, hW, hsame⟩ := X0.leave (v := some (.int (0 : Int32))) (fun h => by rw [Bd.returns] at h; cases h)
          refine ⟨_, _, pre0 _ (K1 _ (K5 _ (K6 _ (K8 _ (K9 _ (K13 _ (K14 _ (K16 _ (K17 _ (retI X0 hx Bd.returns (hb hby d2_36) hr)))))))))), hrun, hended, _, _, rfl, ?_, ⟨_, rfl⟩, hW, hsame.mono (by decide) (by decide)⟩
          show Q2 Z p1 h0 n0 _ s₁.heap _
          rw [e0]
          exact ⟨congrArg (fun z => some (Value.int z)) (show (0 : Int32) = f2 p1 from Eq.symm ((if_neg hc2).trans ((if_pos hc7).trans ((if_neg hc10).trans (if_pos hc15))))), N0, rfl⟩
        · have K18 : ∀ t, Steps p.tables e below (s₁.setTop (mkF m 37 #[.val (.int p1)] [])) t → Steps p.tables e below (s₁.setTop (mkF m 32 #[.val (.int p1)] [(.int (193 : Int32)), (.int p1)])) t := by
            intro t k
            refine XS.icmpYes X0.here hx rfl (pc0 := 32) (pc' := 37) rfl (hb hby d2_32) rfl (feq hc15).2 (by decide) (by decide) ?_
            exact k
          have K19 : ∀ t, Steps p.tables e below (s₁.setTop (mkF m 38 #[.val (.int p1)] [(.int (2 : Int32))])) t → Steps p.tables e below (s₁.setTop (mkF m 37 #[.val (.int p1)] [])) t := by
            intro t k
            refine XS.iconst X0.here hx rfl (hb hby d2_37) ?_
            show Steps p.tables e below (s₁.setTop (mkF m 38 #[.val (.int p1)] [(.int (2 : Int32))])) t
            exact k
          obtain ⟨fs, hr, hrun, hended, hW, hsame⟩ := X0.leave (v := some (.int (2 : Int32))) (fun h => by rw [Bd.returns] at h; cases h)
          refine ⟨_, _, pre0 _ (K1 _ (K5 _ (K6 _ (K8 _ (K9 _ (K13 _ (K14 _ (K18 _ (K19 _ (retI X0 hx Bd.returns (hb hby d2_38) hr)))))))))), hrun, hended, _, _, rfl, ?_, ⟨_, rfl⟩, hW, hsame.mono (by decide) (by decide)⟩
          show Q2 Z p1 h0 n0 _ s₁.heap _
          rw [e0]
          exact ⟨congrArg (fun z => some (Value.int z)) (show (2 : Int32) = f2 p1 from Eq.symm ((if_neg hc2).trans ((if_pos hc7).trans ((if_neg hc10).trans (if_neg hc15))))), N0, rfl⟩
    · have K20 : ∀ t, Steps p.tables e below (s₁.setTop (mkF m 39 #[.val (.int p1)] [])) t → Steps p.tables e below (s₁.setTop (mkF m 18 #[.val (.int p1)] [(.int (192 : Int32)), (.int (p1 &&& (224 : Int32)))])) t := by
        intro t k
        refine XS.icmpYes X0.here hx rfl (pc0 := 18) (pc' := 39) rfl (hb hby d2_18) rfl (feq hc7).2 (by decide) (by decide) ?_
        exact k
      have K21 : ∀ t, Steps p.tables e below (s₁.setTop (mkF m 47 #[.val (.int p1)] [(.int (224 : Int32)), (.int (p1 &&& (240 : Int32)))])) t → Steps p.tables e below (s₁.setTop (mkF m 39 #[.val (.int p1)] [])) t := by
        intro t k
        refine XS.iloadN X0.here hx rfl (hb hby d2_39) rfl ?_
        show Steps p.tables e below (s₁.setTop (mkF m 40 #[.val (.int p1)] [(.int p1)])) t
        refine XS.sipush X0.here hx rfl (hb hby d2_40) ?_
        show Steps p.tables e below (s₁.setTop (mkF m 43 #[.val (.int p1)] [(.int (240 : Int32)), (.int p1)])) t
        refine XS.iand X0.here hx rfl (hb hby d2_43) rfl ?_
        show Steps p.tables e below (s₁.setTop (mkF m 44 #[.val (.int p1)] [(.int (p1 &&& (240 : Int32)))])) t
        refine XS.sipush X0.here hx rfl (hb hby d2_44) ?_
        show Steps p.tables e below (s₁.setTop (mkF m 47 #[.val (.int p1)] [(.int (224 : Int32)), (.int (p1 &&& (240 : Int32)))])) t
        exact k
      by_cases hc22 : (p1 &&& (240 : Int32)) = (224 : Int32)
      · have K23 : ∀ t, Steps p.tables e below (s₁.setTop (mkF m 50 #[.val (.int p1)] [])) t → Steps p.tables e below (s₁.setTop (mkF m 47 #[.val (.int p1)] [(.int (224 : Int32)), (.int (p1 &&& (240 : Int32)))])) t := by
          intro t k
          refine XS.icmpNo X0.here hx rfl (hb hby d2_47) rfl (teq hc22).2 ?_
          exact k
        have K24 : ∀ t, Steps p.tables e below (s₁.setTop (mkF m 51 #[.val (.int p1)] [(.int (3 : Int32))])) t → Steps p.tables e below (s₁.setTop (mkF m 50 #[.val (.int p1)] [])) t := by
          intro t k
          refine XS.iconst X0.here hx rfl (hb hby d2_50) ?_
          show Steps p.tables e below (s₁.setTop (mkF m 51 #[.val (.int p1)] [(.int (3 : Int32))])) t
          exact k
        obtain ⟨fs, hr, hrun, hended, hW, hsame⟩ := X0.leave (v := some (.int (3 : Int32))) (fun h => by rw [Bd.returns] at h; cases h)
        refine ⟨_, _, pre0 _ (K1 _ (K5 _ (K6 _ (K20 _ (K21 _ (K23 _ (K24 _ (retI X0 hx Bd.returns (hb hby d2_51) hr)))))))), hrun, hended, _, _, rfl, ?_, ⟨_, rfl⟩, hW, hsame.mono (by decide) (by decide)⟩
        show Q2 Z p1 h0 n0 _ s₁.heap _
        rw [e0]
        exact ⟨congrArg (fun z => some (Value.int z)) (show (3 : Int32) = f2 p1 from Eq.symm ((if_neg hc2).trans ((if_neg hc7).trans (if_pos hc22)))), N0, rfl⟩
      · have K25 : ∀ t, Steps p.tables e below (s₁.setTop (mkF m 52 #[.val (.int p1)] [])) t → Steps p.tables e below (s₁.setTop (mkF m 47 #[.val (.int p1)] [(.int (224 : Int32)), (.int (p1 &&& (240 : Int32)))])) t := by
          intro t k
          refine XS.icmpYes X0.here hx rfl (pc0 := 47) (pc' := 52) rfl (hb hby d2_47) rfl (feq hc22).2 (by decide) (by decide) ?_
          exact k
        have K26 : ∀ t, Steps p.tables e below (s₁.setTop (mkF m 60 #[.val (.int p1)] [(.int (240 : Int32)), (.int (p1 &&& (248 : Int32)))])) t → Steps p.tables e below (s₁.setTop (mkF m 52 #[.val (.int p1)] [])) t := by
          intro t k
          refine XS.iloadN X0.here hx rfl (hb hby d2_52) rfl ?_
          show Steps p.tables e below (s₁.setTop (mkF m 53 #[.val (.int p1)] [(.int p1)])) t
          refine XS.sipush X0.here hx rfl (hb hby d2_53) ?_
          show Steps p.tables e below (s₁.setTop (mkF m 56 #[.val (.int p1)] [(.int (248 : Int32)), (.int p1)])) t
          refine XS.iand X0.here hx rfl (hb hby d2_56) rfl ?_
          show Steps p.tables e below (s₁.setTop (mkF m 57 #[.val (.int p1)] [(.int (p1 &&& (248 : Int32)))])) t
          refine XS.sipush X0.here hx rfl (hb hby d2_57) ?_
          show Steps p.tables e below (s₁.setTop (mkF m 60 #[.val (.int p1)] [(.int (240 : Int32)), (.int (p1 &&& (248 : Int32)))])) t
          exact k
        by_cases hc27 : (p1 &&& (248 : Int32)) = (240 : Int32)
        · have K28 : ∀ t, Steps p.tables e below (s₁.setTop (mkF m 63 #[.val (.int p1)] [])) t → Steps p.tables e below (s₁.setTop (mkF m 60 #[.val (.int p1)] [(.int (240 : Int32)), (.int (p1 &&& (248 : Int32)))])) t := by
            intro t k
            refine XS.icmpNo X0.here hx rfl (hb hby d2_60) rfl (teq hc27).2 ?_
            exact k
          have K29 : ∀ t, Steps p.tables e below (s₁.setTop (mkF m 67 #[.val (.int p1)] [(.int (245 : Int32)), (.int p1)])) t → Steps p.tables e below (s₁.setTop (mkF m 63 #[.val (.int p1)] [])) t := by
            intro t k
            refine XS.iloadN X0.here hx rfl (hb hby d2_63) rfl ?_
            show Steps p.tables e below (s₁.setTop (mkF m 64 #[.val (.int p1)] [(.int p1)])) t
            refine XS.sipush X0.here hx rfl (hb hby d2_64) ?_
            show Steps p.tables e below (s₁.setTop (mkF m 67 #[.val (.int p1)] [(.int (245 : Int32)), (.int p1)])) t
            exact k
          by_cases hc30 : p1 = (245 : Int32)
          · have K31 : ∀ t, Steps p.tables e below (s₁.setTop (mkF m 84 #[.val (.int p1)] [])) t → Steps p.tables e below (s₁.setTop (mkF m 67 #[.val (.int p1)] [(.int (245 : Int32)), (.int p1)])) t := by
              intro t k
              refine XS.icmpYes X0.here hx rfl (pc0 := 67) (pc' := 84) rfl (hb hby d2_67) rfl (teq hc30).1 (by decide) (by decide) ?_
              exact k
            have K32 : ∀ t, Steps p.tables e below (s₁.setTop (mkF m 85 #[.val (.int p1)] [(.int (0 : Int32))])) t → Steps p.tables e below (s₁.setTop (mkF m 84 #[.val (.int p1)] [])) t := by
              intro t k
              refine XS.iconst X0.here hx rfl (hb hby d2_84) ?_
              show Steps p.tables e below (s₁.setTop (mkF m 85 #[.val (.int p1)] [(.int (0 : Int32))])) t
              exact k
            obtain ⟨fs, hr, hrun, hended, hW, hsame⟩ := X0.leave (v := some (.int (0 : Int32))) (fun h => by rw [Bd.returns] at h; cases h)
            refine ⟨_, _, pre0 _ (K1 _ (K5 _ (K6 _ (K20 _ (K21 _ (K25 _ (K26 _ (K28 _ (K29 _ (K31 _ (K32 _ (retI X0 hx Bd.returns (hb hby d2_85) hr)))))))))))), hrun, hended, _, _, rfl, ?_, ⟨_, rfl⟩, hW, hsame.mono (by decide) (by decide)⟩
            show Q2 Z p1 h0 n0 _ s₁.heap _
            rw [e0]
            exact ⟨congrArg (fun z => some (Value.int z)) (show (0 : Int32) = f2 p1 from Eq.symm ((if_neg hc2).trans ((if_neg hc7).trans ((if_neg hc22).trans ((if_pos hc27).trans (if_pos hc30)))))), N0, rfl⟩
          · have K33 : ∀ t, Steps p.tables e below (s₁.setTop (mkF m 70 #[.val (.int p1)] [])) t → Steps p.tables e below (s₁.setTop (mkF m 67 #[.val (.int p1)] [(.int (245 : Int32)), (.int p1)])) t := by
              intro t k
              refine XS.icmpNo X0.here hx rfl (hb hby d2_67) rfl (feq hc30).1 ?_
              exact k
            have K34 : ∀ t, Steps p.tables e below (s₁.setTop (mkF m 74 #[.val (.int p1)] [(.int (246 : Int32)), (.int p1)])) t → Steps p.tables e below (s₁.setTop (mkF m 70 #[.val (.int p1)] [])) t := by
              intro t k
              refine XS.iloadN X0.here hx rfl (hb hby d2_70) rfl ?_
              show Steps p.tables e below (s₁.setTop (mkF m 71 #[.val (.int p1)] [(.int p1)])) t
              refine XS.sipush X0.here hx rfl (hb hby d2_71) ?_
              show Steps p.tables e below (s₁.setTop (mkF m 74 #[.val (.int p1)] [(.int (246 : Int32)), (.int p1)])) t
              exact k
            by_cases hc35 : p1 = (246 : Int32)
            · have K36 : ∀ t, Steps p.tables e below (s₁.setTop (mkF m 84 #[.val (.int p1)] [])) t → Steps p.tables e below (s₁.setTop (mkF m 74 #[.val (.int p1)] [(.int (246 : Int32)), (.int p1)])) t := by
                intro t k
                refine XS.icmpYes X0.here hx rfl (pc0 := 74) (pc' := 84) rfl (hb hby d2_74) rfl (teq hc35).1 (by decide) (by decide) ?_
                exact k
              have K37 : ∀ t, Steps p.tables e below (s₁.setTop (mkF m 85 #[.val (.int p1)] [(.int (0 : Int32))])) t → Steps p.tables e below (s₁.setTop (mkF m 84 #[.val (.int p1)] [])) t := by
                intro t k
                refine XS.iconst X0.here hx rfl (hb hby d2_84) ?_
                show Steps p.tables e below (s₁.setTop (mkF m 85 #[.val (.int p1)] [(.int (0 : Int32))])) t
                exact k
              obtain ⟨fs, hr, hrun, hended, hW, hsame⟩ := X0.leave (v := some (.int (0 : Int32))) (fun h => by rw [Bd.returns] at h; cases h)
              refine ⟨_, _, pre0 _ (K1 _ (K5 _ (K6 _ (K20 _ (K21 _ (K25 _ (K26 _ (K28 _ (K29 _ (K33 _ (K34 _ (K36 _ (K37 _ (retI X0 hx Bd.returns (hb hby d2_85) hr)))))))))))))), hrun, hended, _, _, rfl, ?_, ⟨_, rfl⟩, hW, hsame.mono (by decide) (by decide)⟩
              show Q2 Z p1 h0 n0 _ s₁.heap _
              rw [e0]
              exact ⟨congrArg (fun z => some (Value.int z)) (show (0 : Int32) = f2 p1 from Eq.symm ((if_neg hc2).trans ((if_neg hc7).trans ((if_neg hc22).trans ((if_pos hc27).trans ((if_neg hc30).trans (if_pos hc35))))))), N0, rfl⟩
            · have K38 : ∀ t, Steps p.tables e below (s₁.setTop (mkF m 77 #[.val (.int p1)] [])) t → Steps p.tables e below (s₁.setTop (mkF m 74 #[.val (.int p1)] [(.int (246 : Int32)), (.int p1)])) t := by
                intro t k
                refine XS.icmpNo X0.here hx rfl (hb hby d2_74) rfl (feq hc35).1 ?_
                exact k
              have K39 : ∀ t, Steps p.tables e below (s₁.setTop (mkF m 81 #[.val (.int p1)] [(.int (247 : Int32)), (.int p1)])) t → Steps p.tables e below (s₁.setTop (mkF m 77 #[.val (.int p1)] [])) t := by
                intro t k
                refine XS.iloadN X0.here hx rfl (hb hby d2_77) rfl ?_
                show Steps p.tables e below (s₁.setTop (mkF m 78 #[.val (.int p1)] [(.int p1)])) t
                refine XS.sipush X0.here hx rfl (hb hby d2_78) ?_
                show Steps p.tables e below (s₁.setTop (mkF m 81 #[.val (.int p1)] [(.int (247 : Int32)), (.int p1)])) t
                exact k
              by_cases hc40 : p1 = (247 : Int32)
              · have K41 : ∀ t, Steps p.tables e below (s₁.setTop (mkF m 84 #[.val (.int p1)] [])) t → Steps p.tables e below (s₁.setTop (mkF m 81 #[.val (.int p1)] [(.int (247 : Int32)), (.int p1)])) t := by
                  intro t k
                  refine XS.icmpNo X0.here hx rfl (hb hby d2_81) rfl (teq hc40).2 ?_
                  exact k
                have K42 : ∀ t, Steps p.tables e below (s₁.setTop (mkF m 85 #[.val (.int p1)] [(.int (0 : Int32))])) t → Steps p.tables e below (s₁.setTop (mkF m 84 #[.val (.int p1)] [])) t := by
                  intro t k
                  refine XS.iconst X0.here hx rfl (hb hby d2_84) ?_
                  show Steps p.tables e below (s₁.setTop (mkF m 85 #[.val (.int p1)] [(.int (0 : Int32))])) t
                  exact k
                obtain ⟨fs, hr, hrun, hended, hW, hsame⟩ := X0.leave (v := some (.int (0 : Int32))) (fun h => by rw [Bd.returns] at h; cases h)
                refine ⟨_, _, pre0 _ (K1 _ (K5 _ (K6 _ (K20 _ (K21 _ (K25 _ (K26 _ (K28 _ (K29 _ (K33 _ (K34 _ (K38 _ (K39 _ (K41 _ (K42 _ (retI X0 hx Bd.returns (hb hby d2_85) hr)))))))))))))))), hrun, hended, _, _, rfl, ?_, ⟨_, rfl⟩, hW, hsame.mono (by decide) (by decide)⟩
                show Q2 Z p1 h0 n0 _ s₁.heap _
                rw [e0]
                exact ⟨congrArg (fun z => some (Value.int z)) (show (0 : Int32) = f2 p1 from Eq.symm ((if_neg hc2).trans ((if_neg hc7).trans ((if_neg hc22).trans ((if_pos hc27).trans ((if_neg hc30).trans ((if_neg hc35).trans (if_pos hc40)))))))), N0, rfl⟩
              · have K43 : ∀ t, Steps p.tables e below (s₁.setTop (mkF m 86 #[.val (.int p1)] [])) t → Steps p.tables e below (s₁.setTop (mkF m 81 #[.val (.int p1)] [(.int (247 : Int32)), (.int p1)])) t := by
                  intro t k
                  refine XS.icmpYes X0.here hx rfl (pc0 := 81) (pc' := 86) rfl (hb hby d2_81) rfl (feq hc40).2 (by decide) (by decide) ?_
                  exact k
                have K44 : ∀ t, Steps p.tables e below (s₁.setTop (mkF m 87 #[.val (.int p1)] [(.int (4 : Int32))])) t → Steps p.tables e below (s₁.setTop (mkF m 86 #[.val (.int p1)] [])) t := by
                  intro t k
                  refine XS.iconst X0.here hx rfl (hb hby d2_86) ?_
                  show Steps p.tables e below (s₁.setTop (mkF m 87 #[.val (.int p1)] [(.int (4 : Int32))])) t
                  exact k
                obtain ⟨fs, hr, hrun, hended, hW, hsame⟩ := X0.leave (v := some (.int (4 : Int32))) (fun h => by rw [Bd.returns] at h; cases h)
                refine ⟨_, _, pre0 _ (K1 _ (K5 _ (K6 _ (K20 _ (K21 _ (K25 _ (K26 _ (K28 _ (K29 _ (K33 _ (K34 _ (K38 _ (K39 _ (K43 _ (K44 _ (retI X0 hx Bd.returns (hb hby d2_87) hr)))))))))))))))), hrun, hended, _, _, rfl, ?_, ⟨_, rfl⟩, hW, hsame.mono (by decide) (by decide)⟩
                show Q2 Z p1 h0 n0 _ s₁.heap _
                rw [e0]
                exact ⟨congrArg (fun z => some (Value.int z)) (show (4 : Int32) = f2 p1 from Eq.symm ((if_neg hc2).trans ((if_neg hc7).trans ((if_neg hc22).trans ((if_pos hc27).trans ((if_neg hc30).trans ((if_neg hc35).trans (if_neg hc40)))))))), N0, rfl⟩
        · have K45 : ∀ t, Steps p.tables e below (s₁.setTop (mkF m 88 #[.val (.int p1)] [])) t → Steps p.tables e below (s₁.setTop (mkF m 60 #[.val (.int p1)] [(.int (240 : Int32)), (.int (p1 &&& (248 : Int32)))])) t := by
            intro t k
            refine XS.icmpYes X0.here hx rfl (pc0 := 60) (pc' := 88) rfl (hb hby d2_60) rfl (feq hc27).2 (by decide) (by decide) ?_
            exact k
          have K46 : ∀ t, Steps p.tables e below (s₁.setTop (mkF m 89 #[.val (.int p1)] [(.int (0 : Int32))])) t → Steps p.tables e below (s₁.setTop (mkF m 88 #[.val (.int p1)] [])) t := by
            intro t k
            refine XS.iconst X0.here hx rfl (hb hby d2_88) ?_
            show Steps p.tables e below (s₁.setTop (mkF m 89 #[.val (.int p1)] [(.int (0 : Int32))])) t
            exact k
          obtain ⟨fs, hr, hrun, hended, hW, hsame⟩ := X0.leave (v := some (.int (0 : Int32))) (fun h => by rw [Bd.returns] at h; cases h)
          refine ⟨_, _, pre0 _ (K1 _ (K5 _ (K6 _ (K20 _ (K21 _ (K25 _ (K26 _ (K45 _ (K46 _ (retI X0 hx Bd.returns (hb hby d2_89) hr)))))))))), hrun, hended, _, _, rfl, ?_, ⟨_, rfl⟩, hW, hsame.mono (by decide) (by decide)⟩
          show Q2 Z p1 h0 n0 _ s₁.heap _
          rw [e0]
          exact ⟨congrArg (fun z => some (Value.int z)) (show (0 : Int32) = f2 p1 from Eq.symm ((if_neg hc2).trans ((if_neg hc7).trans ((if_neg hc22).trans (if_neg hc27))))), N0, rfl⟩
-- body 0: com/example/kirjatieto/kirjatieto/xml/Utf8BytesLengthPinLaw.law(I)Z
theorem pn_0 : plainName "com/example/kirjatieto/kirjatieto/xml/Utf8BytesLengthPinLaw" = true := by first | (simp [plainName, overriddenIn]; done) | decide +kernel
theorem pd_0 : parseMethodDescriptor "(I)I" = some ⟨[.int], some .int⟩ := by decide +kernel
theorem ef_0 (m : MethodId) (p1 : Int32) : entryFrame m #[(.int p1)] maxLocals = mkF m 0 #[.val (.int p1), .unset] [] := by first | (simp [entryFrame, mkF, argsToLocals, Value.category, maxLocals]; done) | rfl
def f0 (p1 : Int32) : Int32 := (if (f1 (p1 &&& (255 : Int32))) = (f2 (p1 &&& (255 : Int32))) then (1 : Int32) else (0 : Int32))
def Q0 (Z : State) (p1 : Int32) (h0 : Heap) (n0 : Nat) (v : Option Value) (h : Heap) (L : List Loc) : Prop := v = some (.int (f0 p1)) ∧ Fr n0 L ∧ h = h0
set_option maxRecDepth 65536 in
set_option maxHeartbeats 40000000 in
theorem rm0 (l : Launch) (Z : State) (a0 : Array Value) (hw : ∀ d ∈ tables_1, d.before a0 Z = true) (ws : List Jvm.Cond) (p1 : Int32) (h0 : Heap) (n0 : Nat) (Z0 : n0 ≤ h0.size) :
    MetFree l x (head1 (Jvm.Cond.code x code maxLocals ret :: ws) room_1) (fun a U => a = #[(.int p1)] ∧ Z.Warmed39 U.vm ∧ U.heap = h0) (fun _ _ _ _ _ => True) (fun _ U o U' => ∃ v L, o = .returned v ∧ Q0 Z p1 h0 n0 v U'.heap L ∧ FrameEnd U o U' L room_1.cells room_1.slots) := by
  refine MetFree.of_bodySF (plainFor_of_name pn_0) hisR ?_
  intro p e s m args below meth c s₁ Bd hml0 hP hK
  obtain ⟨rfl, hZ, hh⟩ := hP
  have hx := Bd.exec
  have hby := Bd.bytes
  have hml : c.maxLocals = 2 := hml0
  have hown : s.vm.findClass "com/example/kirjatieto/kirjatieto/xml/Utf8BytesLengthPinLaw" = some m.cls := findClass_of_methodNamed Bd.named
  have hnm := (name_of_methodNamed Bd.named Bd.method).1
  have X0 : Stand p l e room_1 s m #[(.int p1)] below meth c s₁ [] 0 0 := Stand.of_body Bd
  have e0 : s₁.heap = h0 := by rw [← hh, Bd.state]; rfl
  have N0 := Fr.nil n0
  have pre0 : ∀ t, Steps p.tables e below (s₁.setTop (mkF m 0 #[.val (.int p1), .unset] [])) t → Steps p.tables e below (s₁.setTop (entryFrame m #[(.int p1)] maxLocals)) t := fun t k => castTop (ef_0 m p1) k
  have K1 : ∀ t, Steps p.tables e below (s₁.setTop (mkF m 7 #[.val (.int p1), .val (.int (p1 &&& (255 : Int32)))] [(.int (p1 &&& (255 : Int32)))])) t → Steps p.tables e below (s₁.setTop (mkF m 0 #[.val (.int p1), .unset] [])) t := by
    intro t k
    refine XS.iloadN X0.here hx rfl (hb hby at_0) rfl ?_
    show Steps p.tables e below (s₁.setTop (mkF m 1 #[.val (.int p1), .unset] [(.int p1)])) t
    refine XS.sipush X0.here hx rfl (hb hby at_1) ?_
    show Steps p.tables e below (s₁.setTop (mkF m 4 #[.val (.int p1), .unset] [(.int (255 : Int32)), (.int p1)])) t
    refine XS.iand X0.here hx rfl (hb hby at_4) rfl ?_
    show Steps p.tables e below (s₁.setTop (mkF m 5 #[.val (.int p1), .unset] [(.int (p1 &&& (255 : Int32)))])) t
    refine XS.istoreN X0.here hx rfl (hb hby at_5) rfl (l' := #[.val (.int p1), .val (.int (p1 &&& (255 : Int32)))]) rfl ?_
    show Steps p.tables e below (s₁.setTop (mkF m 6 #[.val (.int p1), .val (.int (p1 &&& (255 : Int32)))] [])) t
    refine XS.iloadN X0.here hx rfl (hb hby at_6) rfl ?_
    show Steps p.tables e below (s₁.setTop (mkF m 7 #[.val (.int p1), .val (.int (p1 &&& (255 : Int32)))] [(.int (p1 &&& (255 : Int32)))])) t
    exact k
  obtain ⟨_, _, ⟨T2, L2, k2, n2⟩, -, X2, ⟨Lc2, hQ2, l2, y2, z2⟩, st2⟩ := Jvm.LawKit.callS X0 hx (y := (⟨"com/example/kirjatieto/kirjatieto/xml/Utf8Bytes", "length", "(I)I"⟩ : MethodName)) hown (mvT hZ (hw _ (List.mem_of_getElem? (i := 0) rfl))) (mvT hZ (hw _ (List.mem_of_getElem? (i := 1) rfl))) (mvT hZ (hw _ (List.mem_of_getElem? (i := 2) rfl))) (mvT hZ (hw _ (List.mem_of_getElem? (i := 3) rfl))) (by decide) (backOf (W := 0) (rm1 l Z a0 hw [] (p1 &&& (255 : Int32)) h0 n0 Z0 ) hZ (hw _ (List.mem_of_getElem? (i := 3) rfl)) (hw _ (List.mem_of_getElem? (i := 2) rfl)) (by decide) (by decide)) (g := (mkF m 7 #[.val (.int p1), .val (.int (p1 &&& (255 : Int32)))] [(.int (p1 &&& (255 : Int32)))])) rfl (by rw [hml]; rfl) (argsL := [(.int (p1 &&& (255 : Int32)))]) (rest := []) (lenOf pd_0 rfl) rfl (by show 2 * 0 + _ ≤ _; exact Nat.le_of_eq rfl) (hb hby at_7) (fun _ _ => ⟨rfl, e0, (by decide : 0 + 0 ≤ _), (by decide : 0 + 0 ≤ _)⟩)
  dsimp only [Pt.U, Pt.locs, Pt.cells, Pt.slots] at X2 l2 y2 z2 st2 hQ2
  subst l2 y2 z2
  obtain ⟨rfl, N2q, e2⟩ := hQ2
  have N2 := Fr.app N0 N2q
  have K3 : ∀ t, Steps p.tables e below (T2.setTop (mkF m 10 #[.val (.int p1), .val (.int (p1 &&& (255 : Int32)))] [(.int (f1 (p1 &&& (255 : Int32))))])) t → Steps p.tables e below (s₁.setTop (mkF m 7 #[.val (.int p1), .val (.int (p1 &&& (255 : Int32)))] [(.int (p1 &&& (255 : Int32)))])) t := fun t k => st2 _ k
  have K4 : ∀ t, Steps p.tables e below (T2.setTop (mkF m 11 #[.val (.int p1), .val (.int (p1 &&& (255 : Int32)))] [(.int (p1 &&& (255 : Int32))), (.int (f1 (p1 &&& (255 : Int32))))])) t → Steps p.tables e below (T2.setTop (mkF m 10 #[.val (.int p1), .val (.int (p1 &&& (255 : Int32)))] [(.int (f1 (p1 &&& (255 : Int32))))])) t := by
    intro t k
    refine XS.iloadN X2.here hx rfl (hb hby at_10) rfl ?_
    show Steps p.tables e below (T2.setTop (mkF m 11 #[.val (.int p1), .val (.int (p1 &&& (255 : Int32)))] [(.int (p1 &&& (255 : Int32))), (.int (f1 (p1 &&& (255 : Int32))))])) t
    exact k
  obtain ⟨_, _, ⟨T5, L5, k5, n5⟩, -, X5, ⟨Lc5, hQ5, l5, y5, z5⟩, st5⟩ := Jvm.LawKit.callS X2 hx (y := (⟨"com/example/kirjatieto/kirjatieto/xml/Utf8BytesLengthPinLaw", "expected", "(I)I"⟩ : MethodName)) hown (mvT hZ (hw _ (List.mem_of_getElem? (i := 4) rfl))) (mvT hZ (hw _ (List.mem_of_getElem? (i := 5) rfl))) (mvT hZ (hw _ (List.mem_of_getElem? (i := 6) rfl))) (mvT hZ (hw _ (List.mem_of_getElem? (i := 7) rfl))) (by decide) (backOf (W := 1) (rm2 l Z a0 hw [] (p1 &&& (255 : Int32)) h0 n0 Z0 ) hZ (hw _ (List.mem_of_getElem? (i := 7) rfl)) (hw _ (List.mem_of_getElem? (i := 6) rfl)) (by decide) (by decide)) (g := (mkF m 11 #[.val (.int p1), .val (.int (p1 &&& (255 : Int32)))] [(.int (p1 &&& (255 : Int32))), (.int (f1 (p1 &&& (255 : Int32))))])) rfl (by rw [hml]; rfl) (argsL := [(.int (p1 &&& (255 : Int32)))]) (rest := [(.int (f1 (p1 &&& (255 : Int32))))]) (lenOf pd_0 rfl) rfl (by show 2 * 0 + _ ≤ _; exact Nat.le_of_eq rfl) (hb hby at_11) (fun _ _ => ⟨rfl, e2, (by decide : 0 + 0 ≤ _), (by decide : 0 + 0 ≤ _)⟩)
  dsimp only [Pt.U, Pt.locs, Pt.cells, Pt.slots] at X5 l5 y5 z5 st5 hQ5
  subst l5 y5 z5
  obtain ⟨rfl, N5q, e5⟩ := hQ5
  have N5 := Fr.app N2 N5q
  have K6 : ∀ t, Steps p.tables e below (T5.setTop (mkF m 14 #[.val (.int p1), .val (.int (p1 &&& (255 : Int32)))] [(.int (f2 (p1 &&& (255 : Int32)))), (.int (f1 (p1 &&& (255 : Int32))))])) t → Steps p.tables e below (T2.setTop (mkF m 11 #[.val (.int p1), .val (.int (p1 &&& (255 : Int32)))] [(.int (p1 &&& (255 : Int32))), (.int (f1 (p1 &&& (255 : Int32))))])) t := fun t k => st5 _ k
  by_cases hc7 : (f1 (p1 &&& (255 : Int32))) = (f2 (p1 &&& (255 : Int32)))
  · have K8 : ∀ t, Steps p.tables e below (T5.setTop (mkF m 17 #[.val (.int p1), .val (.int (p1 &&& (255 : Int32)))] [])) t → Steps p.tables e below (T5.setTop (mkF m 14 #[.val (.int p1), .val (.int (p1 &&& (255 : Int32)))] [(.int (f2 (p1 &&& (255 : Int32)))), (.int (f1 (p1 &&& (255 : Int32))))])) t := by
      intro t k
      refine XS.icmpNo X5.here hx rfl (hb hby at_14) rfl (teq hc7).2 ?_
      exact k
    have K9 : ∀ t, Steps p.tables e below (T5.setTop (mkF m 22 #[.val (.int p1), .val (.int (p1 &&& (255 : Int32)))] [(.int (1 : Int32))])) t → Steps p.tables e below (T5.setTop (mkF m 17 #[.val (.int p1), .val (.int (p1 &&& (255 : Int32)))] [])) t := by
      intro t k
      refine XS.iconst X5.here hx rfl (hb hby at_17) ?_
      show Steps p.tables e below (T5.setTop (mkF m 18 #[.val (.int p1), .val (.int (p1 &&& (255 : Int32)))] [(.int (1 : Int32))])) t
      refine XS.goto X5.here hx rfl (pc0 := 18) (pc' := 22) rfl (hb hby at_18) (by decide) (by decide) ?_
      show Steps p.tables e below (T5.setTop (mkF m 22 #[.val (.int p1), .val (.int (p1 &&& (255 : Int32)))] [(.int (1 : Int32))])) t
      exact k
    obtain ⟨fs, hr, hrun, hended, hW, hsame⟩ := X5.leave (v := some (.int (1 : Int32))) (fun h => by rw [Bd.returns] at h; cases h)
    refine ⟨_, _, pre0 _ (K1 _ (K3 _ (K4 _ (K6 _ (K8 _ (K9 _ (retN X5 hx (t := .boolean) Bd.returns (by simp) (hb hby at_22) hr))))))), hrun, hended, _, _, rfl, ?_, ⟨_, rfl⟩, hW, hsame.mono (by decide) (by decide)⟩
    show Q0 Z p1 h0 n0 _ T5.heap _
    rw [e5]
    exact ⟨congrArg (fun z => some (Value.int z)) (show (1 : Int32) = f0 p1 from Eq.symm (if_pos hc7)), N5, rfl⟩
  · have K10 : ∀ t, Steps p.tables e below (T5.setTop (mkF m 21 #[.val (.int p1), .val (.int (p1 &&& (255 : Int32)))] [])) t → Steps p.tables e below (T5.setTop (mkF m 14 #[.val (.int p1), .val (.int (p1 &&& (255 : Int32)))] [(.int (f2 (p1 &&& (255 : Int32)))), (.int (f1 (p1 &&& (255 : Int32))))])) t := by
      intro t k
      refine XS.icmpYes X5.here hx rfl (pc0 := 14) (pc' := 21) rfl (hb hby at_14) rfl (feq hc7).2 (by decide) (by decide) ?_
      exact k
    have K11 : ∀ t, Steps p.tables e below (T5.setTop (mkF m 22 #[.val (.int p1), .val (.int (p1 &&& (255 : Int32)))] [(.int (0 : Int32))])) t → Steps p.tables e below (T5.setTop (mkF m 21 #[.val (.int p1), .val (.int (p1 &&& (255 : Int32)))] [])) t := by
      intro t k
      refine XS.iconst X5.here hx rfl (hb hby at_21) ?_
      show Steps p.tables e below (T5.setTop (mkF m 22 #[.val (.int p1), .val (.int (p1 &&& (255 : Int32)))] [(.int (0 : Int32))])) t
      exact k
    obtain ⟨fs, hr, hrun, hended, hW, hsame⟩ := X5.leave (v := some (.int (0 : Int32))) (fun h => by rw [Bd.returns] at h; cases h)
    refine ⟨_, _, pre0 _ (K1 _ (K3 _ (K4 _ (K6 _ (K10 _ (K11 _ (retN X5 hx (t := .boolean) Bd.returns (by simp) (hb hby at_22) hr))))))), hrun, hended, _, _, rfl, ?_, ⟨_, rfl⟩, hW, hsame.mono (by decide) (by decide)⟩
    show Q0 Z p1 h0 n0 _ T5.heap _
    rw [e5]
    exact ⟨congrArg (fun z => some (Value.int z)) (show (0 : Int32) = f0 p1 from Eq.symm (if_neg hc7)), N5, rfl⟩
theorem own_nat (b : Int32) : b = Int32.ofNat b.toBitVec.toNat := by
  apply Int32.toBitVec_inj.mp
  simp
theorem own_mask (a m : Int32) (k : Nat) (h : m.toBitVec.toNat = k) : ∃ n, n < k + 1 ∧ a &&& m = Int32.ofNat n := by
  refine ⟨(a &&& m).toBitVec.toNat, ?_, own_nat _⟩
  have : (a &&& m).toBitVec.toNat = a.toBitVec.toNat &&& m.toBitVec.toNat := by simp
  rw [this, h]
  exact Nat.lt_succ_of_le Nat.and_le_right
theorem own_ofNat (n : Nat) (h : n < 2147483648) : (Int32.ofNat n).toInt = (n : Int) := Int32.toInt_ofNat_of_lt h
theorem own_rem (n k : Nat) (h : n < 2147483648) (h1 : k < 2147483648) : Int32.ofNat n % Int32.ofNat k = Int32.ofNat (n % k) := by
  apply Int32.toInt_inj.mp
  rw [Int32.toInt_mod, own_ofNat n h, own_ofNat k h1, own_ofNat (n % k) (Nat.lt_of_le_of_lt (Nat.mod_le n k) h)]
  rw [Int.tmod_eq_emod_of_nonneg (by omega)]
  exact (Int.natCast_emod n k).symm
theorem own_all : ∀ n : Fin 256, f1 (Int32.ofNat n.val) = f2 (Int32.ofNat n.val) := by decide +kernel
theorem plain (a : Int32) : f0 a = 1 := by
  obtain ⟨n, hn, e⟩ := own_mask a 255 255 (by decide)
  unfold f0
  rw [e, own_all ⟨n, hn⟩]
  exact if_pos rfl
set_option maxRecDepth 65536 in
set_option maxHeartbeats 40000000 in
theorem comes_1 {Post : Tables → Env → Array Value → State → Outcome → State → Prop} (hpost : ∀ tb e args s v u, (limb_1_1.after args s (.returned v) u = true ∧ limb_1_2.after args s (.returned v) u = true ∧ True) → FrameEnd s (.returned v) u (Jvm.fieldLocs frame_1_writes args s ++ Jvm.arrayLocs frame_1_arrays args s ++ Jvm.staticLocs frame_1_statics s) 0 0 → Post tb e args s (.returned v) u) :
    ArmFor flags0 classFile x code maxLocals ret World_1 tables_1 room_1 Calls_1 rest_1 Pre_1 Post := by
  intro l hfl _ _ p e ha hc hk s m args below hf hA hF happ hP
  obtain ⟨hcalls, hrest, hpre⟩ := hP
  obtain ⟨-, -, -, hnamed, -, -, -, hat⟩ := (Spec.applies_iff hf).mp happ
  obtain ⟨hg, hn⟩ := and_e (Cond.before_iff.mp (show (Jvm.Cond.and given_1 narrow_1).before args s = true from hpre))
  obtain ⟨gc, g0⟩ := and_e hg
  have gi0 := g0
  obtain ⟨w0, rfl⟩ : ∃ w0 : Value, args = #[w0] := by
    have hs : args.size = 1 := by simpa [Cond.value, given_1] using gc
    obtain ⟨L⟩ := args
    match L, hs with
    | [w0], _ => exact ⟨w0, rfl⟩
  have hw := fun d (hd : d ∈ tables_1) => atoms_spec (ws := Jvm.Cond.code x code maxLocals ret :: tables_1) hat d (List.mem_cons_of_mem _ hd)
  have hfit : Fit s := fun {y c} hc i hi => by
    obtain ⟨ha, rfl⟩ := Array.getElem?_eq_some_iff.mp hc
    have q := List.all_eq_true.mp ((Array.all_eq_true_iff_forall_mem.mp hF) _ (Array.getElem_mem ha)) i (List.mem_range.mpr hi)
    simpa [Array.getElem?_eq_getElem hi] using q
  obtain ⟨i0, ei0⟩ := is_v gi0
  obtain rfl : w0 = (.int i0) := Option.some.inj ei0
  obtain ⟨n, o, h1, h2, h3, v, L, rfl, ⟨hv, N, -⟩, hq⟩ := rm0 l s _ hw tables_1 i0 s.heap s.heap.size (Nat.le_refl _)  p e ha hc hk s m _ below hf ((Spec.applies_iff_loose hf).mp happ).1 ⟨rfl, State.Warmed39.refl s, rfl⟩ trivial
  rw [plain i0] at hv
  subst hv
  refine ⟨n, _, h1, h2, h3, hpost _ _ _ _ _ _ ⟨Cond.after_iff.mpr rfl, Cond.after_iff.mpr (eq_i res_at (Term.int_eval (1)) rfl), trivial⟩ ⟨hq.1, hq.2.1, (hq.2.2.sift fun y hy => Or.inr (N y hy)).mono (by decide) (by decide)⟩⟩
theorem main_1_1 : Claimed_1_1 := comes_1 fun _ _ _ _ _ _ h hF => ⟨h.1, hF⟩
theorem main_1_2 : Claimed_1_2 := comes_1 fun _ _ _ _ _ _ h hF => ⟨h.2.1, hF⟩
end Jvm.Pilot.@@N@@
namespace Jvm.Pilot.@@N@@
open Jvm Jvm.ClassFile Sem Op Lib Jvm.Free Jvm.Stand Jvm.Pilot.@@N@@.Jvm.D
/-! MADE BY PROGRAM (witnessworld.py) out of the Statement's table words and the real class files: 9 classes; the members and pool entries that the words name. The judged class is class 1, her method 2. -/
namespace start1
open Jvm.ClassFile
def u (s : String) : CpInfo := .utf8 (stringToUtf16 s)
/-- a pool by its gaps: so many unusable entries, then the entry; so many at the end -/
def gap : Nat → List CpInfo → List CpInfo
  | 0, r => r
  | n + 1, r => .unusable :: gap n r
def poolList (es : List (Nat × CpInfo)) (last : Nat) : List CpInfo := es.foldr (fun e r => gap e.1 (e.2 :: r)) (gap last [])
def pool (es : List (Nat × CpInfo)) (last : Nat) : Array CpInfo := ⟨poolList es last⟩
def fileOf (pool : Array CpInfo) (this : Nat) (attrs : Array Attribute := #[]) (ms : Array MethodInfo := #[]) (fl : Nat := 33) (sup : Nat := 0) (ifs : Array Nat := #[]) (fds : Array FieldInfo := #[]) : ClassFile where
  minorVersion := 0
  majorVersion := 65
  constantPool := pool
  accessFlags := fl
  thisClass := this
  superClass := sup
  interfaces := ifs
  fields := fds
  methods := ms
  attributes := attrs
def plain (name : String) (sup : Option ClassId) : Class where
  name := name
  kind := .ordinary
  loader := none
  accessFlags := 33
  super := sup
  interfaces := #[]
  cf := none
  fields := #[]
  methods := #[]
  instanceTypes := #[]
  staticTypes := #[]
  resolved := #[]
  callSites := []
  init := .initialized
  statics := none
  mirror := none

def pool0 : Array CpInfo := pool [(5, u "<init>"), (0, u "()V"), (1, .class_ 10), (1, u "java/lang/Object")] 113

def k0m0 : Method := { name := "<init>", desc := "()V", sig := { parameters := [], returnType := none }, accessFlags := 1, code := none }
/-- java/lang/Object -/
def k0 : Class := { plain "java/lang/Object" none with
  accessFlags := 33
  interfaces := #[]
  cf := some (fileOf pool0 8 #[] #[{ accessFlags := 1, nameIndex := 5, descriptorIndex := 6, attributes := #[] }] 33 0 #[] #[])
  fields := #[]
  methods := #[k0m0]
  instanceTypes := #[]
  staticTypes := #[]
  resolved := Array.replicate 124 none
  statics := none }

def pool1 : Array CpInfo := pool [(2, .class_ 4), (1, u "java/lang/Object"), (0, u "<init>"), (0, u "()V"), (0, .methodref 8 9), (0, .class_ 10), (0, .nameAndType 11 12), (0, u "com/example/kirjatieto/kirjatieto/xml/Utf8Bytes"), (0, u "length"), (0, u "(I)I"), (0, .methodref 14 15), (0, .class_ 16), (0, .nameAndType 17 12), (0, u "com/example/kirjatieto/kirjatieto/xml/Utf8BytesLengthPinLaw"), (0, u "expected"), (3, u "law"), (0, u "(I)Z")] 2

def k1m0 : Method := { name := "<init>", desc := "()V", sig := { parameters := [], returnType := none }, accessFlags := 2, code := none }
def k1c1 : Code := { maxStack := 2, maxLocals := 1, code := method_2_code, exceptionTable := #[], attributes := #[] }
def k1m1 : Method := { name := "expected", desc := "(I)I", sig := { parameters := [.int], returnType := some .int }, accessFlags := 10, code := some k1c1 }
def k1c2 : Code := { maxStack := 2, maxLocals := 2, code := code, exceptionTable := #[], attributes := #[] }
def k1m2 : Method := { name := "law", desc := "(I)Z", sig := { parameters := [.int], returnType := some .boolean }, accessFlags := 9, code := some k1c2 }
/-- com/example/kirjatieto/kirjatieto/xml/Utf8BytesLengthPinLaw -/
def k1 : Class := { plain "com/example/kirjatieto/kirjatieto/xml/Utf8BytesLengthPinLaw" (some 0) with
  accessFlags := 49
  interfaces := #[]
  cf := some (fileOf pool1 14 #[] #[{ accessFlags := 2, nameIndex := 5, descriptorIndex := 6, attributes := #[] }, { accessFlags := 10, nameIndex := 17, descriptorIndex := 12, attributes := #[] }, { accessFlags := 9, nameIndex := 21, descriptorIndex := 22, attributes := #[] }] 49 2 #[] #[])
  fields := #[]
  methods := #[k1m0, k1m1, k1m2]
  instanceTypes := #[]
  staticTypes := #[]
  resolved := Array.replicate 25 none
  statics := none }

def pool2 : Array CpInfo := pool [(2, .class_ 4), (1, u "java/lang/Object"), (0, u "<init>"), (0, u "()V"), (0, .class_ 8), (0, u "com/example/kirjatieto/kirjatieto/xml/Utf8Bytes"), (0, u "NEXT_LEAST"), (0, u "I"), (2, u "NEXT_MOST"), (3, u "length"), (0, u "(I)I")] 5

def k2m0 : Method := { name := "<init>", desc := "()V", sig := { parameters := [], returnType := none }, accessFlags := 2, code := none }
def k2c1 : Code := { maxStack := 2, maxLocals := 1, code := prog_83_method_2_code, exceptionTable := #[], attributes := #[] }
def k2m1 : Method := { name := "length", desc := "(I)I", sig := { parameters := [.int], returnType := some .int }, accessFlags := 8, code := some k2c1 }
/-- com/example/kirjatieto/kirjatieto/xml/Utf8Bytes -/
def k2 : Class := { plain "com/example/kirjatieto/kirjatieto/xml/Utf8Bytes" (some 0) with
  accessFlags := 48
  interfaces := #[]
  cf := some (fileOf pool2 7 #[] #[{ accessFlags := 2, nameIndex := 5, descriptorIndex := 6, attributes := #[] }, { accessFlags := 8, nameIndex := 17, descriptorIndex := 18, attributes := #[] }] 48 2 #[] #[{ accessFlags := 24, nameIndex := 9, descriptorIndex := 10, attributes := #[] }, { accessFlags := 24, nameIndex := 13, descriptorIndex := 10, attributes := #[] }])
  fields := #[{ name := "NEXT_LEAST", type := .int, accessFlags := 24, slot := 0, constantValue := 0 }, { name := "NEXT_MOST", type := .int, accessFlags := 24, slot := 1, constantValue := 0 }]
  methods := #[k2m0, k2m1]
  instanceTypes := #[]
  staticTypes := #[.int, .int]
  resolved := Array.replicate 24 none
  statics := none }

def pool3 : Array CpInfo := pool [(1, u "java/lang/Cloneable"), (0, .class_ 1), (0, u "java/lang/Object"), (0, .class_ 3)] 3

/-- java/lang/Cloneable -/
def k3 : Class := { plain "java/lang/Cloneable" (some 0) with
  accessFlags := 1537
  interfaces := #[]
  cf := some (fileOf pool3 2 #[] #[] 1537 4 #[] #[])
  fields := #[]
  methods := #[]
  instanceTypes := #[]
  staticTypes := #[]
  resolved := Array.replicate 8 none
  statics := none }

def pool4 : Array CpInfo := pool [(1, u "java/io/Serializable"), (0, .class_ 1), (0, u "java/lang/Object"), (0, .class_ 3)] 3

/-- java/io/Serializable -/
def k4 : Class := { plain "java/io/Serializable" (some 0) with
  accessFlags := 1537
  interfaces := #[]
  cf := some (fileOf pool4 2 #[] #[] 1537 4 #[] #[])
  fields := #[]
  methods := #[]
  instanceTypes := #[]
  staticTypes := #[]
  resolved := Array.replicate 8 none
  statics := none }

/-- the primitive byte -/
def k5 : Class := { plain "byte" none with kind := .primitive 'B', accessFlags := 0x411 }
/-- [B -/
def k6 : Class := { plain "[B" (some 0) with kind := .array 5 .byte, interfaces := #[3, 4], accessFlags := 1041 }

/-- the primitive int -/
def k7 : Class := { plain "int" none with kind := .primitive 'I', accessFlags := 0x411 }
/-- [I -/
def k8 : Class := { plain "[I" (some 0) with kind := .array 7 .int, interfaces := #[3, 4], accessFlags := 1041 }

def heap : Heap := #[]
def classes : Array Class := #[k0, k1, k2, k3, k4, k5, k6, k7, k8]
def interned : List (Array UInt16 × Addr) := []
def slotsUsed : Nat := 0
def theMethod : MethodId := ⟨1, 2⟩
def args0 : Array Value := #[.int 5]
def aboutOver (below : List Frame) : State where
  vm := { classes := classes, interned := interned.toArray }
  heap := heap
  slotsUsed := slotsUsed
  threads := #[{ frames := .invoking theMethod args0 :: below }]
def below0 : List Frame := [.native { method := ⟨0, 0⟩, args := #[] }]
def about1 : State := aboutOver below0
def p0 : Program := .bare "" "" ""
def e0 : Env := launch0.env 0 0 0
theorem w_frames : about1.frames = Frame.invoking theMethod args0 :: below0 := rfl
set_option maxRecDepth 65536 in
theorem w_args : argsFit about1.vm theMethod args0 = true := by decide +kernel
set_option maxRecDepth 65536 in
theorem w_heap : heapFits about1 = true := by decide +kernel
set_option maxRecDepth 65536 in
theorem w_runnable : about1.curStatus? = some .runnable := by decide +kernel
set_option maxRecDepth 65536 in
theorem w_alone : about1.alone = true := by decide +kernel
set_option maxRecDepth 65536 in
theorem w_named : about1.methodNamed? x = some theMethod := by decide +kernel
set_option maxRecDepth 65536 in
theorem w_hears : about1.hears theMethod below0 = true := by decide +kernel
set_option maxRecDepth 65536 in
theorem w_ripe : about1.ripe theMethod args0 below0 = true := by decide +kernel
theorem w_running : about1.status = .running := rfl
set_option maxRecDepth 65536 in
theorem w_room : about1.hasRoom e0.platform room_1 = true :=
  launch0.hasRoom_least _ room_1 (by decide +kernel) (by decide +kernel) (by decide +kernel) (by decide +kernel) (by decide +kernel) (by decide +kernel)
theorem allAtoms_all (ts : List Jvm.Cond) (a : Array Jvm.Value) (st : Jvm.State) : (allAtoms ts).before a st = ts.all (fun c => c.before a st) := by
  induction ts with
  | nil => rfl
  | cons c t ih =>
    show (Jvm.Cond.and c (allAtoms t)).before a st = _
    rw [Jvm.Cond.before_and, ih, List.all_cons]
def words1 : List Jvm.Cond := Jvm.Cond.code x code maxLocals ret :: tables_1
/-- a 'code' word, met by the world's own term for the bytes: nothing is compared byte by byte -/
theorem code_word {y : MethodName} {bytes : ByteArray} {mx : Nat} {rt : Option FieldType} {a : Array Value} {s : State} {m : MethodId} {meth : Method} {c : Code} (h1 : s.methodNamed? y = some m) (h2 : s.vm.method? m = some meth) (h3 : meth.code = some c) (h4 : c.code = bytes)
    (h5 : (c.maxLocals == mx && c.exceptionTable.isEmpty && decide (c.maxStack ≤ mostOperands) && decide (meth.sig.returnType = rt) && !meth.locks && decide (parseMethodDescriptor y.desc = some meth.sig)) = true) : (Jvm.Cond.code y bytes mx rt).before a s = true := by
  simp only [Bool.and_eq_true, beq_iff_eq, Bool.not_eq_true', decide_eq_true_eq] at h5
  obtain ⟨⟨⟨⟨⟨g1, g2⟩, g3⟩, g4⟩, g5⟩, g6⟩ := h5
  simp [Cond.before, Cond.holds, Cond.value, h1, h2, h3, h4, g1, g2, g3, g4, g5, g6]
def isCode : Jvm.Cond → Bool
  | .code _ _ _ _ => true
  | _ => false
theorem all_split {L : List Jvm.Cond} {P : Jvm.Cond → Bool} (h1 : L.all (fun c => isCode c || P c) = true) (h2 : ∀ c ∈ L.filter isCode, P c = true) : L.all P = true := by
  refine List.all_eq_true.mpr fun c hc => ?_
  have h := List.all_eq_true.mp h1 c hc
  rcases Bool.eq_false_or_eq_true (isCode c) with hi | hi
  · exact h2 c (List.mem_filter.mpr ⟨hc, hi⟩)
  · simpa [hi] using h
set_option maxRecDepth 65536 in
theorem w_c0 : (Jvm.Cond.code x code maxLocals ret).before args0 about1 = true := code_word (m := ⟨1, 2⟩) (meth := k1m2) (c := k1c2) (by decide +kernel) rfl rfl rfl (by decide +kernel)
set_option maxRecDepth 65536 in
theorem w_c1 : (Jvm.Cond.code ({ cls := "com/example/kirjatieto/kirjatieto/xml/Utf8Bytes", name := "length", desc := "(I)I" } : Jvm.MethodName) prog_83_method_2_code (1 : Nat) (Option.some Jvm.ClassFile.FieldType.int)).before args0 about1 = true := code_word (m := ⟨2, 1⟩) (meth := k2m1) (c := k2c1) (by decide +kernel) rfl rfl rfl (by decide +kernel)
set_option maxRecDepth 65536 in
theorem w_c2 : (Jvm.Cond.code ({ cls := "com/example/kirjatieto/kirjatieto/xml/Utf8BytesLengthPinLaw", name := "expected", desc := "(I)I" } : Jvm.MethodName) method_2_code (1 : Nat) (Option.some Jvm.ClassFile.FieldType.int)).before args0 about1 = true := code_word (m := ⟨1, 1⟩) (meth := k1m1) (c := k1c1) (by decide +kernel) rfl rfl rfl (by decide +kernel)
def codes1 : List Jvm.Cond := [Jvm.Cond.code x code maxLocals ret, Jvm.Cond.code ({ cls := "com/example/kirjatieto/kirjatieto/xml/Utf8Bytes", name := "length", desc := "(I)I" } : Jvm.MethodName) prog_83_method_2_code (1 : Nat) (Option.some Jvm.ClassFile.FieldType.int), Jvm.Cond.code ({ cls := "com/example/kirjatieto/kirjatieto/xml/Utf8BytesLengthPinLaw", name := "expected", desc := "(I)I" } : Jvm.MethodName) method_2_code (1 : Nat) (Option.some Jvm.ClassFile.FieldType.int)]
set_option maxRecDepth 65536 in
theorem codes_eq : words1.filter isCode = codes1 := rfl
theorem w_codes : ∀ c ∈ words1.filter isCode, c.before args0 about1 = true := by
  rw [codes_eq]
  intro c hc
  simp only [codes1, List.mem_cons, List.not_mem_nil, or_false] at hc
  rcases hc with rfl | rfl | rfl
  · exact w_c0
  · exact w_c1
  · exact w_c2
set_option maxRecDepth 65536 in
theorem w_t1 : words1.all (fun c => isCode c || c.before args0 about1) = true := by decide +kernel
theorem w_tables : (allAtoms (Jvm.Cond.code x code maxLocals ret :: tables_1)).before args0 about1 = true := by
  rw [allAtoms_all]
  show words1.all (fun c => c.before args0 about1) = true
  refine all_split ?_ w_codes
  rw [w_t1]
set_option maxRecDepth 65536 in
theorem w_case : (Jvm.Cond.and given_1 narrow_1).before args0 about1 = true := by decide +kernel
theorem w_applies : (headSpec (Jvm.Cond.code x code maxLocals ret :: tables_1) room_1).applies x e0.platform about1 = true :=
  (Spec.applies_iff w_frames).mpr ⟨w_running, w_runnable, w_alone, w_named, w_hears, w_ripe, w_room, w_tables⟩
theorem atStart : AtStart classFile x code maxLocals ret World_1 tables_1 room_1 Calls_1 rest_1 Pre_1 launch0 p0 e0 about1 theMethod args0 below0 :=
  ⟨lists_1, trivial, launch0.admits_env _ _ _, launch0.least_env, fairChoices_fair.cas, fairChoices_fair.clock, w_frames, w_args, w_heap, w_applies, trivial, trivial, w_case⟩
end start1
theorem witness_1 : WitnessClaimed_1 := ⟨start1.p0, start1.e0, start1.about1, start1.theMethod, start1.args0, start1.below0, start1.atStart⟩
end Jvm.Pilot.@@N@@
