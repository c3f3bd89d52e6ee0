import JvmDerived
import JvmDerived.Pilot.@@N@@Statement
import JvmDerived.Pilot.@@N@@Code
set_option linter.unusedVariables false
set_option linter.unusedSimpArgs false
namespace Jvm.RoadKit
open Sem ClassFile Op Lib Jvm.Stand Jvm.Free Jvm.LawKit
section New
variable {p : Program} {l : Launch} {e : Env} {R : Room} {s : State} {m : MethodId} {args : Array Value} {below : List Frame} {meth : Method} {c : Code} {T : State} {locs : List Loc} {cells slots : Nat}
theorem retI (X : Stand p l e R s m args below meth c T locs cells slots) (hx : p.tables.exec = Jvm.exec) {pc : Nat} {Ls : Array Slot} {z : Int32} {rest : List Value} (hret : meth.sig.returnType = some .int) (hd : decode c.code pc = .ok (.ireturn, 1)) {fs : List Frame}
    (hl : ∀ (f : JFrame) (acts : List Action), f.method = m → f.locked = none → f.entered = [] → (doReturn e (T.setTop f) acts (some (.int z))).1 = T.setFrames fs) : Steps p.tables e below (T.setTop (mkF m pc Ls (.int z :: rest))) (T.setFrames fs) := by
  have hm' : T.vm.method? m = some meth := X.method'
  have hn : narrow .int (.int z) = .int z := rfl
  show Steps p.tables e below (T.setTop { method := m, pc := pc, locals := Ls, stack := _ :: rest, locked := none }) _
  jvm_step X.here [X.here.top, hx, hd, hm', hret, hn]
  first | (intro acts; rw [hl _ acts rfl rfl rfl]) | rw [hl _ _ rfl rfl rfl]
  exact Steps.refl _
end New
end Jvm.RoadKit
namespace Jvm.Pilot.@@N@@
open Jvm Jvm.ClassFile Sem Op Lib Jvm.Free Jvm.Stand Jvm.LawKit Jvm.RoadKit Bundle Jvm.Pilot.@@N@@.Jvm.D
def own_cmp (x y : Int64) : Int32 := lcmpW x y
theorem own_lt (x y : Int64) : own_cmp x y < 0 ↔ x < y := by
  unfold own_cmp lcmpW; split <;> (try split) <;> simp_all [Int64.lt_iff_toInt_lt, ← Int64.toInt_inj] <;> omega
theorem own_gt (x y : Int64) : 0 < own_cmp x y ↔ y < x := by
  unfold own_cmp lcmpW; split <;> (try split) <;> simp_all [Int64.lt_iff_toInt_lt, ← Int64.toInt_inj] <;> omega
theorem own_eq0 (x y : Int64) : own_cmp x y = 0 ↔ x = y := by
  unfold own_cmp lcmpW; split <;> (try split) <;> simp_all [Int64.lt_iff_toInt_lt, ← Int64.toInt_inj] <;> omega
theorem own_fld {s : State} {args : Array Value} {t : Term} {x : Addr} {C n d : String} {k : Int32} (ev : t.eval args s none [] s = some (.ref x)) (h : (Jvm.Cond.eq (.field t C n d) (.int k)).value args s none s [] = some true) : Fld s s.heap x C n d (.int k) := by
  have hf := fld_at (C := C) (n := n) (dd := d) ev
  have hk : (Term.int k).eval args s none [] s = some (.int k) := Term.int_eval k
  cases hq : s.fieldOf? x C n d with
  | none => rw [hq] at hf; simp [Cond.value, hf] at h
  | some v =>
    rw [hq] at hf
    cases v <;> simp [Cond.value, hf, hk] at h
    subst h
    exact Fld.start hq
-- body 1: com/example/kirjatieto/kirjatieto/onix/TagForm.initial(I)Z
theorem d1_0 : decode prog_66_method_8_code 0 = .ok (.aload_n 0, 1) := by decide +kernel
theorem d1_1 : decode prog_66_method_8_code 1 = .ok (.getstatic 3, 3) := by decide +kernel
theorem d1_4 : decode prog_66_method_8_code 4 = .ok (.if_acmp .ne 23, 3) := by decide +kernel
theorem d1_7 : decode prog_66_method_8_code 7 = .ok (.iload_n 1, 1) := by decide +kernel
theorem d1_8 : decode prog_66_method_8_code 8 = .ok (.bipush 65, 2) := by decide +kernel
theorem d1_10 : decode prog_66_method_8_code 10 = .ok (.if_icmp .lt 13, 3) := by decide +kernel
theorem d1_13 : decode prog_66_method_8_code 13 = .ok (.iload_n 1, 1) := by decide +kernel
theorem d1_14 : decode prog_66_method_8_code 14 = .ok (.bipush 90, 2) := by decide +kernel
theorem d1_16 : decode prog_66_method_8_code 16 = .ok (.if_icmp .gt 7, 3) := by decide +kernel
theorem d1_19 : decode prog_66_method_8_code 19 = .ok (.iconst 1, 1) := by decide +kernel
theorem d1_20 : decode prog_66_method_8_code 20 = .ok (.goto 24, 3) := by decide +kernel
theorem d1_23 : decode prog_66_method_8_code 23 = .ok (.iconst 0, 1) := by decide +kernel
theorem d1_24 : decode prog_66_method_8_code 24 = .ok (.goto 20, 3) := by decide +kernel
theorem d1_27 : decode prog_66_method_8_code 27 = .ok (.iload_n 1, 1) := by decide +kernel
theorem d1_28 : decode prog_66_method_8_code 28 = .ok (.bipush 97, 2) := by decide +kernel
theorem d1_30 : decode prog_66_method_8_code 30 = .ok (.if_icmp .lt 13, 3) := by decide +kernel
theorem d1_33 : decode prog_66_method_8_code 33 = .ok (.iload_n 1, 1) := by decide +kernel
theorem d1_34 : decode prog_66_method_8_code 34 = .ok (.bipush 122, 2) := by decide +kernel
theorem d1_36 : decode prog_66_method_8_code 36 = .ok (.if_icmp .gt 7, 3) := by decide +kernel
theorem d1_39 : decode prog_66_method_8_code 39 = .ok (.iconst 1, 1) := by decide +kernel
theorem d1_40 : decode prog_66_method_8_code 40 = .ok (.goto 4, 3) := by decide +kernel
theorem d1_43 : decode prog_66_method_8_code 43 = .ok (.iconst 0, 1) := by decide +kernel
theorem d1_44 : decode prog_66_method_8_code 44 = .ok (.ireturn, 1) := by decide +kernel
theorem pn_1 : plainName "com/example/kirjatieto/kirjatieto/onix/TagForm" = true := by first | (simp [plainName, overriddenIn]; done) | decide +kernel
theorem ef_1 (m : MethodId) (a1 : Addr) (p2 : Int32) : entryFrame m #[(.ref a1), (.int p2)] 2 = mkF m 0 #[.val (.ref a1), .val (.int p2)] [] := by first | (simp [entryFrame, mkF, argsToLocals, Value.category]; done) | rfl
def f1 (a1 : Addr) (p2 : Int32) (w_REFERENCE_NAMES : Addr) : Int32 := (if a1 = w_REFERENCE_NAMES then (if p2 < (65 : Int32) then (0 : Int32) else (if (90 : Int32) < p2 then (0 : Int32) else (1 : Int32))) else (if p2 < (97 : Int32) then (0 : Int32) else (if (122 : Int32) < p2 then (0 : Int32) else (1 : Int32))))
def Q1 (Z : State) (a1 : Addr) (p2 : Int32) (w_REFERENCE_NAMES : Addr) (h0 : Heap) (n0 : Nat) (v : Option Value) (h : Heap) (L : List Loc) : Prop := v = some (.int (f1 a1 p2 w_REFERENCE_NAMES)) ∧ Fr n0 L ∧ h = h0
set_option maxRecDepth 65536 in
set_option maxHeartbeats 40000000 in
theorem rm1 (l : Launch) (Z : State) (a0 : Array Value) (hw : ∀ d ∈ tables_1, d.before a0 Z = true) (ws : List Jvm.Cond) (a1 : Addr) (p2 : Int32) (w_REFERENCE_NAMES : Addr) (h0 : Heap) (n0 : Nat) (Z0 : n0 ≤ h0.size) (S_REFERENCE_NAMES : Sta Z h0 "com/example/kirjatieto/kirjatieto/onix/TagForm" "REFERENCE_NAMES" "Lcom/example/kirjatieto/kirjatieto/onix/TagForm;" (.ref w_REFERENCE_NAMES)) :
    MetFree l (⟨"com/example/kirjatieto/kirjatieto/onix/TagForm", "initial", "(I)Z"⟩ : MethodName) (head1 (Jvm.Cond.code (⟨"com/example/kirjatieto/kirjatieto/onix/TagForm", "initial", "(I)Z"⟩ : MethodName) prog_66_method_8_code 2 (some .boolean) :: ws) ({ frames := 0, cells := 0, slots := 0, locals := 0 } : Room)) (fun a U => a = #[(.ref a1), (.int p2)] ∧ Z.Warmed39 U.vm ∧ U.heap = h0) (fun _ _ _ _ _ => True) (fun _ U o U' => ∃ v L, o = .returned v ∧ Q1 Z a1 p2 w_REFERENCE_NAMES h0 n0 v U'.heap L ∧ FrameEnd U o U' L ({ frames := 0, cells := 0, slots := 0, locals := 0 } : Room).cells ({ frames := 0, cells := 0, slots := 0, locals := 0 } : Room).slots) := by
  refine MetFree.of_bodySF (plainFor_of_name pn_1) hisR ?_
  intro p e s m args below meth c s₁ Bd hml0 hP hK
  obtain ⟨rfl, hZ, hh⟩ := hP
  have hx := Bd.exec
  have hby := Bd.bytes
  have hml : c.maxLocals = 2 := hml0
  have hown : s.vm.findClass "com/example/kirjatieto/kirjatieto/onix/TagForm" = some m.cls := findClass_of_methodNamed Bd.named
  have hnm := (name_of_methodNamed Bd.named Bd.method).1
  have X0 : Stand p l e ({ frames := 0, cells := 0, slots := 0, locals := 0 } : Room) s m #[(.ref a1), (.int p2)] below meth c s₁ [] 0 0 := Stand.of_body Bd
  have e0 : s₁.heap = h0 := by rw [← hh, Bd.state]; rfl
  have N0 := Fr.nil n0
  have pre0 : ∀ t, Steps p.tables e below (s₁.setTop (mkF m 0 #[.val (.ref a1), .val (.int p2)] [])) t → Steps p.tables e below (s₁.setTop (entryFrame m #[(.ref a1), (.int p2)] 2)) t := fun t k => castTop (ef_1 m a1 p2) k
  have K1 : ∀ t, Steps p.tables e below (s₁.setTop (mkF m 1 #[.val (.ref a1), .val (.int p2)] [(.ref a1)])) t → Steps p.tables e below (s₁.setTop (mkF m 0 #[.val (.ref a1), .val (.int p2)] [])) t := by
    intro t k
    refine XS.aloadN X0.here hx rfl (hb hby d1_0) rfl rfl ?_
    show Steps p.tables e below (s₁.setTop (mkF m 1 #[.val (.ref a1), .val (.int p2)] [(.ref a1)])) t
    exact k
  obtain ⟨T2, X2, e2, st2⟩ := getS2 X0 hx hZ hown (host := "") (Or.inl (hw _ (List.mem_of_getElem? (i := 8) rfl))) Via.refl e0 S_REFERENCE_NAMES (g := (mkF m 1 #[.val (.ref a1), .val (.int p2)] [(.ref a1)])) rfl (hb hby d1_1)
  have K3 : ∀ t, Steps p.tables e below (T2.setTop (mkF m 4 #[.val (.ref a1), .val (.int p2)] [(.ref w_REFERENCE_NAMES), (.ref a1)])) t → Steps p.tables e below (s₁.setTop (mkF m 1 #[.val (.ref a1), .val (.int p2)] [(.ref a1)])) t := fun t k => st2 _ k
  by_cases hc4 : a1 = w_REFERENCE_NAMES
  · have K5 : ∀ t, Steps p.tables e below (T2.setTop (mkF m 7 #[.val (.ref a1), .val (.int p2)] [])) t → Steps p.tables e below (T2.setTop (mkF m 4 #[.val (.ref a1), .val (.int p2)] [(.ref w_REFERENCE_NAMES), (.ref a1)])) t := by
      intro t k
      refine Jvm.RoadKit.acmp (g := (mkF m 4 #[.val (.ref a1), .val (.int p2)] [(.ref w_REFERENCE_NAMES), (.ref a1)])) X2 hx rfl rfl rfl (pc0 := 4) (pc' := 7) (same := true) rfl (hb hby d1_4) rfl (decide_eq_true (congrArg Value.ref hc4)) (by decide) (by decide) ?_
      exact k
    have K6 : ∀ t, Steps p.tables e below (T2.setTop (mkF m 10 #[.val (.ref a1), .val (.int p2)] [(.int (65 : Int32)), (.int p2)])) t → Steps p.tables e below (T2.setTop (mkF m 7 #[.val (.ref a1), .val (.int p2)] [])) t := by
      intro t k
      refine XS.iloadN X2.here hx rfl (hb hby d1_7) rfl ?_
      show Steps p.tables e below (T2.setTop (mkF m 8 #[.val (.ref a1), .val (.int p2)] [(.int p2)])) t
      refine XS.bipush X2.here hx rfl (hb hby d1_8) ?_
      show Steps p.tables e below (T2.setTop (mkF m 10 #[.val (.ref a1), .val (.int p2)] [(.int (65 : Int32)), (.int p2)])) t
      exact k
    by_cases hc7 : p2 < (65 : Int32)
    · have K8 : ∀ t, Steps p.tables e below (T2.setTop (mkF m 23 #[.val (.ref a1), .val (.int p2)] [])) t → Steps p.tables e below (T2.setTop (mkF m 10 #[.val (.ref a1), .val (.int p2)] [(.int (65 : Int32)), (.int p2)])) t := by
        intro t k
        refine XS.icmpYes X2.here hx rfl (pc0 := 10) (pc' := 23) rfl (hb hby d1_10) rfl (tlt hc7).1 (by decide) (by decide) ?_
        exact k
      have K9 : ∀ t, Steps p.tables e below (T2.setTop (mkF m 44 #[.val (.ref a1), .val (.int p2)] [(.int (0 : Int32))])) t → Steps p.tables e below (T2.setTop (mkF m 23 #[.val (.ref a1), .val (.int p2)] [])) t := by
        intro t k
        refine XS.iconst X2.here hx rfl (hb hby d1_23) ?_
        show Steps p.tables e below (T2.setTop (mkF m 24 #[.val (.ref a1), .val (.int p2)] [(.int (0 : Int32))])) t
        refine XS.goto X2.here hx rfl (pc0 := 24) (pc' := 44) rfl (hb hby d1_24) (by decide) (by decide) ?_
        show Steps p.tables e below (T2.setTop (mkF m 44 #[.val (.ref a1), .val (.int p2)] [(.int (0 : Int32))])) t
        exact k
      obtain ⟨fs, hr, hrun, hended, hW, hsame⟩ := X2.leave (v := some (.int (0 : Int32))) (fun h => by rw [Bd.returns] at h; cases h)
      refine ⟨_, _, pre0 _ (K1 _ (K3 _ (K5 _ (K6 _ (K8 _ (K9 _ (retN X2 hx (t := .boolean) Bd.returns (by simp) (hb hby d1_44) hr))))))), hrun, hended, _, _, rfl, ?_, ⟨_, rfl⟩, hW, hsame.mono (by decide) (by decide)⟩
      show Q1 Z a1 p2 w_REFERENCE_NAMES h0 n0 _ T2.heap _
      rw [e2]
      exact ⟨congrArg (fun z => some (Value.int z)) (show (0 : Int32) = f1 a1 p2 w_REFERENCE_NAMES from Eq.symm ((if_pos hc4).trans (if_pos hc7))), N0, rfl⟩
    · have K10 : ∀ t, Steps p.tables e below (T2.setTop (mkF m 13 #[.val (.ref a1), .val (.int p2)] [])) t → Steps p.tables e below (T2.setTop (mkF m 10 #[.val (.ref a1), .val (.int p2)] [(.int (65 : Int32)), (.int p2)])) t := by
        intro t k
        refine XS.icmpNo X2.here hx rfl (hb hby d1_10) rfl (flt hc7).1 ?_
        exact k
      have K11 : ∀ t, Steps p.tables e below (T2.setTop (mkF m 16 #[.val (.ref a1), .val (.int p2)] [(.int (90 : Int32)), (.int p2)])) t → Steps p.tables e below (T2.setTop (mkF m 13 #[.val (.ref a1), .val (.int p2)] [])) t := by
        intro t k
        refine XS.iloadN X2.here hx rfl (hb hby d1_13) rfl ?_
        show Steps p.tables e below (T2.setTop (mkF m 14 #[.val (.ref a1), .val (.int p2)] [(.int p2)])) t
        refine XS.bipush X2.here hx rfl (hb hby d1_14) ?_
        show Steps p.tables e below (T2.setTop (mkF m 16 #[.val (.ref a1), .val (.int p2)] [(.int (90 : Int32)), (.int p2)])) t
        exact k
      by_cases hc12 : (90 : Int32) < p2
      · have K13 : ∀ t, Steps p.tables e below (T2.setTop (mkF m 23 #[.val (.ref a1), .val (.int p2)] [])) t → Steps p.tables e below (T2.setTop (mkF m 16 #[.val (.ref a1), .val (.int p2)] [(.int (90 : Int32)), (.int p2)])) t := by
          intro t k
          refine XS.icmpYes X2.here hx rfl (pc0 := 16) (pc' := 23) rfl (hb hby d1_16) rfl (tlt hc12).2.2.1 (by decide) (by decide) ?_
          exact k
        have K14 : ∀ t, Steps p.tables e below (T2.setTop (mkF m 44 #[.val (.ref a1), .val (.int p2)] [(.int (0 : Int32))])) t → Steps p.tables e below (T2.setTop (mkF m 23 #[.val (.ref a1), .val (.int p2)] [])) t := by
          intro t k
          refine XS.iconst X2.here hx rfl (hb hby d1_23) ?_
          show Steps p.tables e below (T2.setTop (mkF m 24 #[.val (.ref a1), .val (.int p2)] [(.int (0 : Int32))])) t
          refine XS.goto X2.here hx rfl (pc0 := 24) (pc' := 44) rfl (hb hby d1_24) (by decide) (by decide) ?_
          show Steps p.tables e below (T2.setTop (mkF m 44 #[.val (.ref a1), .val (.int p2)] [(.int (0 : Int32))])) t
          exact k
        obtain ⟨fs, hr, hrun, hended, hW, hsame⟩ := X2.leave (v := some (.int (0 : Int32))) (fun h => by rw [Bd.returns] at h; cases h)
        refine ⟨_, _, pre0 _ (K1 _ (K3 _ (K5 _ (K6 _ (K10 _ (K11 _ (K13 _ (K14 _ (retN X2 hx (t := .boolean) Bd.returns (by simp) (hb hby d1_44) hr))))))))), hrun, hended, _, _, rfl, ?_, ⟨_, rfl⟩, hW, hsame.mono (by decide) (by decide)⟩
        show Q1 Z a1 p2 w_REFERENCE_NAMES h0 n0 _ T2.heap _
        rw [e2]
        exact ⟨congrArg (fun z => some (Value.int z)) (show (0 : Int32) = f1 a1 p2 w_REFERENCE_NAMES from Eq.symm ((if_pos hc4).trans ((if_neg hc7).trans (if_pos hc12)))), N0, rfl⟩
      · have K15 : ∀ t, Steps p.tables e below (T2.setTop (mkF m 19 #[.val (.ref a1), .val (.int p2)] [])) t → Steps p.tables e below (T2.setTop (mkF m 16 #[.val (.ref a1), .val (.int p2)] [(.int (90 : Int32)), (.int p2)])) t := by
          intro t k
          refine XS.icmpNo X2.here hx rfl (hb hby d1_16) rfl (flt hc12).2.2.1 ?_
          exact k
        have K16 : ∀ t, Steps p.tables e below (T2.setTop (mkF m 44 #[.val (.ref a1), .val (.int p2)] [(.int (1 : Int32))])) t → Steps p.tables e below (T2.setTop (mkF m 19 #[.val (.ref a1), .val (.int p2)] [])) t := by
          intro t k
          refine XS.iconst X2.here hx rfl (hb hby d1_19) ?_
          show Steps p.tables e below (T2.setTop (mkF m 20 #[.val (.ref a1), .val (.int p2)] [(.int (1 : Int32))])) t
          refine XS.goto X2.here hx rfl (pc0 := 20) (pc' := 44) rfl (hb hby d1_20) (by decide) (by decide) ?_
          show Steps p.tables e below (T2.setTop (mkF m 44 #[.val (.ref a1), .val (.int p2)] [(.int (1 : Int32))])) t
          exact k
        obtain ⟨fs, hr, hrun, hended, hW, hsame⟩ := X2.leave (v := some (.int (1 : Int32))) (fun h => by rw [Bd.returns] at h; cases h)
        refine ⟨_, _, pre0 _ (K1 _ (K3 _ (K5 _ (K6 _ (K10 _ (K11 _ (K15 _ (K16 _ (retN X2 hx (t := .boolean) Bd.returns (by simp) (hb hby d1_44) hr))))))))), hrun, hended, _, _, rfl, ?_, ⟨_, rfl⟩, hW, hsame.mono (by decide) (by decide)⟩
        show Q1 Z a1 p2 w_REFERENCE_NAMES h0 n0 _ T2.heap _
        rw [e2]
        exact ⟨congrArg (fun z => some (Value.int z)) (show (1 : Int32) = f1 a1 p2 w_REFERENCE_NAMES from Eq.symm ((if_pos hc4).trans ((if_neg hc7).trans (if_neg hc12)))), N0, rfl⟩
  · have K17 : ∀ t, Steps p.tables e below (T2.setTop (mkF m 27 #[.val (.ref a1), .val (.int p2)] [])) t → Steps p.tables e below (T2.setTop (mkF m 4 #[.val (.ref a1), .val (.int p2)] [(.ref w_REFERENCE_NAMES), (.ref a1)])) t := by
      intro t k
      refine Jvm.RoadKit.acmp (g := (mkF m 4 #[.val (.ref a1), .val (.int p2)] [(.ref w_REFERENCE_NAMES), (.ref a1)])) X2 hx rfl rfl rfl (pc0 := 4) (pc' := 27) (same := false) rfl (hb hby d1_4) rfl (decide_eq_false fun q => hc4 (Value.ref.inj q)) (by decide) (by decide) ?_
      exact k
    have K18 : ∀ t, Steps p.tables e below (T2.setTop (mkF m 30 #[.val (.ref a1), .val (.int p2)] [(.int (97 : Int32)), (.int p2)])) t → Steps p.tables e below (T2.setTop (mkF m 27 #[.val (.ref a1), .val (.int p2)] [])) t := by
      intro t k
      refine XS.iloadN X2.here hx rfl (hb hby d1_27) rfl ?_
      show Steps p.tables e below (T2.setTop (mkF m 28 #[.val (.ref a1), .val (.int p2)] [(.int p2)])) t
      refine XS.bipush X2.here hx rfl (hb hby d1_28) ?_
      show Steps p.tables e below (T2.setTop (mkF m 30 #[.val (.ref a1), .val (.int p2)] [(.int (97 : Int32)), (.int p2)])) t
      exact k
    by_cases hc19 : p2 < (97 : Int32)
    · have K20 : ∀ t, Steps p.tables e below (T2.setTop (mkF m 43 #[.val (.ref a1), .val (.int p2)] [])) t → Steps p.tables e below (T2.setTop (mkF m 30 #[.val (.ref a1), .val (.int p2)] [(.int (97 : Int32)), (.int p2)])) t := by
        intro t k
        refine XS.icmpYes X2.here hx rfl (pc0 := 30) (pc' := 43) rfl (hb hby d1_30) rfl (tlt hc19).1 (by decide) (by decide) ?_
        exact k
      have K21 : ∀ t, Steps p.tables e below (T2.setTop (mkF m 44 #[.val (.ref a1), .val (.int p2)] [(.int (0 : Int32))])) t → Steps p.tables e below (T2.setTop (mkF m 43 #[.val (.ref a1), .val (.int p2)] [])) t := by
        intro t k
        refine XS.iconst X2.here hx rfl (hb hby d1_43) ?_
        show Steps p.tables e below (T2.setTop (mkF m 44 #[.val (.ref a1), .val (.int p2)] [(.int (0 : Int32))])) t
        exact k
      obtain ⟨fs, hr, hrun, hended, hW, hsame⟩ := X2.leave (v := some (.int (0 : Int32))) (fun h => by rw [Bd.returns] at h; cases h)
      refine ⟨_, _, pre0 _ (K1 _ (K3 _ (K17 _ (K18 _ (K20 _ (K21 _ (retN X2 hx (t := .boolean) Bd.returns (by simp) (hb hby d1_44) hr))))))), hrun, hended, _, _, rfl, ?_, ⟨_, rfl⟩, hW, hsame.mono (by decide) (by decide)⟩
      show Q1 Z a1 p2 w_REFERENCE_NAMES h0 n0 _ T2.heap _
      rw [e2]
      exact ⟨congrArg (fun z => some (Value.int z)) (show (0 : Int32) = f1 a1 p2 w_REFERENCE_NAMES from Eq.symm ((if_neg hc4).trans (if_pos hc19))), N0, rfl⟩
    · have K22 : ∀ t, Steps p.tables e below (T2.setTop (mkF m 33 #[.val (.ref a1), .val (.int p2)] [])) t → Steps p.tables e below (T2.setTop (mkF m 30 #[.val (.ref a1), .val (.int p2)] [(.int (97 : Int32)), (.int p2)])) t := by
        intro t k
        refine XS.icmpNo X2.here hx rfl (hb hby d1_30) rfl (flt hc19).1 ?_
        exact k
      have K23 : ∀ t, Steps p.tables e below (T2.setTop (mkF m 36 #[.val (.ref a1), .val (.int p2)] [(.int (122 : Int32)), (.int p2)])) t → Steps p.tables e below (T2.setTop (mkF m 33 #[.val (.ref a1), .val (.int p2)] [])) t := by
        intro t k
        refine XS.iloadN X2.here hx rfl (hb hby d1_33) rfl ?_
        show Steps p.tables e below (T2.setTop (mkF m 34 #[.val (.ref a1), .val (.int p2)] [(.int p2)])) t
        refine XS.bipush X2.here hx rfl (hb hby d1_34) ?_
        show Steps p.tables e below (T2.setTop (mkF m 36 #[.val (.ref a1), .val (.int p2)] [(.int (122 : Int32)), (.int p2)])) t
        exact k
      by_cases hc24 : (122 : Int32) < p2
      · have K25 : ∀ t, Steps p.tables e below (T2.setTop (mkF m 43 #[.val (.ref a1), .val (.int p2)] [])) t → Steps p.tables e below (T2.setTop (mkF m 36 #[.val (.ref a1), .val (.int p2)] [(.int (122 : Int32)), (.int p2)])) t := by
          intro t k
          refine XS.icmpYes X2.here hx rfl (pc0 := 36) (pc' := 43) rfl (hb hby d1_36) rfl (tlt hc24).2.2.1 (by decide) (by decide) ?_
          exact k
        have K26 : ∀ t, Steps p.tables e below (T2.setTop (mkF m 44 #[.val (.ref a1), .val (.int p2)] [(.int (0 : Int32))])) t → Steps p.tables e below (T2.setTop (mkF m 43 #[.val (.ref a1), .val (.int p2)] [])) t := by
          intro t k
          refine XS.iconst X2.here hx rfl (hb hby d1_43) ?_
          show Steps p.tables e below (T2.setTop (mkF m 44 #[.val (.ref a1), .val (.int p2)] [(.int (0 : Int32))])) t
          exact k
        obtain ⟨fs, hr, hrun, hended, hW, hsame⟩ := X2.leave (v := some (.int (0 : Int32))) (fun h => by rw [Bd.returns] at h; cases h)
        refine ⟨_, _, pre0 _ (K1 _ (K3 _ (K17 _ (K18 _ (K22 _ (K23 _ (K25 _ (K26 _ (retN X2 hx (t := .boolean) Bd.returns (by simp) (hb hby d1_44) hr))))))))), hrun, hended, _, _, rfl, ?_, ⟨_, rfl⟩, hW, hsame.mono (by decide) (by decide)⟩
        show Q1 Z a1 p2 w_REFERENCE_NAMES h0 n0 _ T2.heap _
        rw [e2]
        exact ⟨congrArg (fun z => some (Value.int z)) (show (0 : Int32) = f1 a1 p2 w_REFERENCE_NAMES from Eq.symm ((if_neg hc4).trans ((if_neg hc19).trans (if_pos hc24)))), N0, rfl⟩
      · have K27 : ∀ t, Steps p.tables e below (T2.setTop (mkF m 39 #[.val (.ref a1), .val (.int p2)] [])) t → Steps p.tables e below (T2.setTop (mkF m 36 #[.val (.ref a1), .val (.int p2)] [(.int (122 : Int32)), (.int p2)])) t := by
          intro t k
          refine XS.icmpNo X2.here hx rfl (hb hby d1_36) rfl (flt hc24).2.2.1 ?_
          exact k
        have K28 : ∀ t, Steps p.tables e below (T2.setTop (mkF m 44 #[.val (.ref a1), .val (.int p2)] [(.int (1 : Int32))])) t → Steps p.tables e below (T2.setTop (mkF m 39 #[.val (.ref a1), .val (.int p2)] [])) t := by
          intro t k
          refine XS.iconst X2.here hx rfl (hb hby d1_39) ?_
          show Steps p.tables e below (T2.setTop (mkF m 40 #[.val (.ref a1), .val (.int p2)] [(.int (1 : Int32))])) t
          refine XS.goto X2.here hx rfl (pc0 := 40) (pc' := 44) rfl (hb hby d1_40) (by decide) (by decide) ?_
          show Steps p.tables e below (T2.setTop (mkF m 44 #[.val (.ref a1), .val (.int p2)] [(.int (1 : Int32))])) t
          exact k
        obtain ⟨fs, hr, hrun, hended, hW, hsame⟩ := X2.leave (v := some (.int (1 : Int32))) (fun h => by rw [Bd.returns] at h; cases h)
        refine ⟨_, _, pre0 _ (K1 _ (K3 _ (K17 _ (K18 _ (K22 _ (K23 _ (K27 _ (K28 _ (retN X2 hx (t := .boolean) Bd.returns (by simp) (hb hby d1_44) hr))))))))), hrun, hended, _, _, rfl, ?_, ⟨_, rfl⟩, hW, hsame.mono (by decide) (by decide)⟩
        show Q1 Z a1 p2 w_REFERENCE_NAMES h0 n0 _ T2.heap _
        rw [e2]
        exact ⟨congrArg (fun z => some (Value.int z)) (show (1 : Int32) = f1 a1 p2 w_REFERENCE_NAMES from Eq.symm ((if_neg hc4).trans ((if_neg hc19).trans (if_neg hc24)))), N0, rfl⟩
-- body 2: com/example/kirjatieto/kirjatieto/onix/TagFormInitialPinLaw.expected(ZI)Z
theorem d2_0 : decode method_2_code 0 = .ok (.iload_n 1, 1) := by decide +kernel
theorem d2_1 : decode method_2_code 1 = .ok (.i2l, 1) := by decide +kernel
theorem d2_2 : decode method_2_code 2 = .ok (.iload_n 0, 1) := by decide +kernel
theorem d2_3 : decode method_2_code 3 = .ok (.ifCond .eq 9, 3) := by decide +kernel
theorem d2_6 : decode method_2_code 6 = .ok (.ldc2_w 7, 3) := by decide +kernel
theorem d2_9 : decode method_2_code 9 = .ok (.goto 6, 3) := by decide +kernel
theorem d2_12 : decode method_2_code 12 = .ok (.ldc2_w 9, 3) := by decide +kernel
theorem d2_15 : decode method_2_code 15 = .ok (.lsub, 1) := by decide +kernel
theorem d2_16 : decode method_2_code 16 = .ok (.lstore_n 2, 1) := by decide +kernel
theorem d2_17 : decode method_2_code 17 = .ok (.lload_n 2, 1) := by decide +kernel
theorem d2_18 : decode method_2_code 18 = .ok (.lconst 0, 1) := by decide +kernel
theorem d2_19 : decode method_2_code 19 = .ok (.lcmp, 1) := by decide +kernel
theorem d2_20 : decode method_2_code 20 = .ok (.ifCond .lt 15, 3) := by decide +kernel
theorem d2_23 : decode method_2_code 23 = .ok (.lload_n 2, 1) := by decide +kernel
theorem d2_24 : decode method_2_code 24 = .ok (.ldc2_w 11, 3) := by decide +kernel
theorem d2_27 : decode method_2_code 27 = .ok (.lcmp, 1) := by decide +kernel
theorem d2_28 : decode method_2_code 28 = .ok (.ifCond .ge 7, 3) := by decide +kernel
theorem d2_31 : decode method_2_code 31 = .ok (.iconst 1, 1) := by decide +kernel
theorem d2_32 : decode method_2_code 32 = .ok (.goto 4, 3) := by decide +kernel
theorem d2_35 : decode method_2_code 35 = .ok (.iconst 0, 1) := by decide +kernel
theorem d2_36 : decode method_2_code 36 = .ok (.ireturn, 1) := by decide +kernel
theorem pn_2 : plainName "com/example/kirjatieto/kirjatieto/onix/TagFormInitialPinLaw" = true := by first | (simp [plainName, overriddenIn]; done) | decide +kernel
theorem ef_2 (m : MethodId) (p1 : Int32) (p2 : Int32) : entryFrame m #[(.int p1), (.int p2)] 4 = mkF m 0 #[.val (.int p1), .val (.int p2), .unset, .unset] [] := by first | (simp [entryFrame, mkF, argsToLocals, Value.category]; done) | rfl
def f2_u1 (p1 : Int32) : Int64 := (if p1 = (0 : Int32) then (97 : Int64) else (65 : Int64))
def f2 (p1 : Int32) (p2 : Int32) : Int32 := (if (own_cmp ((p2.toInt64) - (f2_u1 p1)) (0 : Int64)) < (0 : Int32) then (0 : Int32) else (if (own_cmp ((p2.toInt64) - (f2_u1 p1)) (26 : Int64)) < (0 : Int32) then (1 : Int32) else (0 : Int32)))
def Q2 (Z : State) (p1 : Int32) (p2 : Int32) (h0 : Heap) (n0 : Nat) (v : Option Value) (h : Heap) (L : List Loc) : Prop := v = some (.int (f2 p1 p2)) ∧ Fr n0 L ∧ h = h0
set_option maxRecDepth 65536 in
set_option maxHeartbeats 40000000 in
theorem rm2 (l : Launch) (Z : State) (a0 : Array Value) (hw : ∀ d ∈ tables_1, d.before a0 Z = true) (ws : List Jvm.Cond) (p1 : Int32) (p2 : Int32) (h0 : Heap) (n0 : Nat) (Z0 : n0 ≤ h0.size) :
    MetFree l (⟨"com/example/kirjatieto/kirjatieto/onix/TagFormInitialPinLaw", "expected", "(ZI)Z"⟩ : MethodName) (head1 (Jvm.Cond.code (⟨"com/example/kirjatieto/kirjatieto/onix/TagFormInitialPinLaw", "expected", "(ZI)Z"⟩ : MethodName) method_2_code 4 (some .boolean) :: ws) ({ frames := 0, cells := 0, slots := 0, locals := 0 } : Room)) (fun a U => a = #[(.int p1), (.int p2)] ∧ Z.Warmed39 U.vm ∧ U.heap = h0) (fun _ _ _ _ _ => True) (fun _ U o U' => ∃ v L, o = .returned v ∧ Q2 Z p1 p2 h0 n0 v U'.heap L ∧ FrameEnd U o U' L ({ frames := 0, cells := 0, slots := 0, locals := 0 } : Room).cells ({ frames := 0, cells := 0, slots := 0, locals := 0 } : Room).slots) := by
  refine MetFree.of_bodySF (plainFor_of_name pn_2) hisR ?_
  intro p e s m args below meth c s₁ Bd hml0 hP hK
  obtain ⟨rfl, hZ, hh⟩ := hP
  have hx := Bd.exec
  have hby := Bd.bytes
  have hml : c.maxLocals = 4 := hml0
  have hown : s.vm.findClass "com/example/kirjatieto/kirjatieto/onix/TagFormInitialPinLaw" = some m.cls := findClass_of_methodNamed Bd.named
  have hnm := (name_of_methodNamed Bd.named Bd.method).1
  have X0 : Stand p l e ({ frames := 0, cells := 0, slots := 0, locals := 0 } : Room) s m #[(.int p1), (.int p2)] below meth c s₁ [] 0 0 := Stand.of_body Bd
  have e0 : s₁.heap = h0 := by rw [← hh, Bd.state]; rfl
  have N0 := Fr.nil n0
  have pre0 : ∀ t, Steps p.tables e below (s₁.setTop (mkF m 0 #[.val (.int p1), .val (.int p2), .unset, .unset] [])) t → Steps p.tables e below (s₁.setTop (entryFrame m #[(.int p1), (.int p2)] 4)) t := fun t k => castTop (ef_2 m p1 p2) k
  have K1 : ∀ t, Steps p.tables e below (s₁.setTop (mkF m 3 #[.val (.int p1), .val (.int p2), .unset, .unset] [(.int p1), (.long (p2.toInt64))])) t → Steps p.tables e below (s₁.setTop (mkF m 0 #[.val (.int p1), .val (.int p2), .unset, .unset] [])) t := by
    intro t k
    refine XS.iloadN X0.here hx rfl (hb hby d2_0) rfl ?_
    show Steps p.tables e below (s₁.setTop (mkF m 1 #[.val (.int p1), .val (.int p2), .unset, .unset] [(.int p2)])) t
    refine XS.i2l X0.here hx rfl (hb hby d2_1) rfl ?_
    show Steps p.tables e below (s₁.setTop (mkF m 2 #[.val (.int p1), .val (.int p2), .unset, .unset] [(.long (p2.toInt64))])) t
    refine XS.iloadN X0.here hx rfl (hb hby d2_2) rfl ?_
    show Steps p.tables e below (s₁.setTop (mkF m 3 #[.val (.int p1), .val (.int p2), .unset, .unset] [(.int p1), (.long (p2.toInt64))])) t
    exact k
  have K2 : ∀ t, Steps p.tables e below (s₁.setTop (mkF m 15 #[.val (.int p1), .val (.int p2), .unset, .unset] [(.long (f2_u1 p1)), (.long (p2.toInt64))])) t → Steps p.tables e below (s₁.setTop (mkF m 3 #[.val (.int p1), .val (.int p2), .unset, .unset] [(.int p1), (.long (p2.toInt64))])) t := by
    intro t k
    by_cases hc2 : p1 = (0 : Int32)
    · have K3 : ∀ t, Steps p.tables e below (s₁.setTop (mkF m 12 #[.val (.int p1), .val (.int p2), .unset, .unset] [(.long (p2.toInt64))])) t → Steps p.tables e below (s₁.setTop (mkF m 3 #[.val (.int p1), .val (.int p2), .unset, .unset] [(.int p1), (.long (p2.toInt64))])) t := by
        intro t k
        refine XS.ifYes X0.here hx rfl (pc0 := 3) (pc' := 12) rfl (hb hby d2_3) rfl ((if0 _ _).trans (teq hc2).1) (by decide) (by decide) ?_
        exact k
      have K4 : ∀ t, Steps p.tables e below (s₁.setTop (mkF m 15 #[.val (.int p1), .val (.int p2), .unset, .unset] [(.long (97 : Int64)), (.long (p2.toInt64))])) t → Steps p.tables e below (s₁.setTop (mkF m 12 #[.val (.int p1), .val (.int p2), .unset, .unset] [(.long (p2.toInt64))])) t := by
        intro t k
        refine X0.ldc2Long hx hown (mvT hZ (hw _ (List.mem_of_getElem? (i := 16) rfl))) (g := (mkF m 12 #[.val (.int p1), .val (.int p2), .unset, .unset] [(.long (p2.toInt64))])) rfl (hb hby d2_12) _ ?_
        show Steps p.tables e below (s₁.setTop (mkF m 15 #[.val (.int p1), .val (.int p2), .unset, .unset] [(.long (97 : Int64)), (.long (p2.toInt64))])) t
        exact k
      rw [show (f2_u1 p1) = (97 : Int64) from if_pos hc2] at k
      exact K3 _ (K4 _ (k))
    · have K5 : ∀ t, Steps p.tables e below (s₁.setTop (mkF m 6 #[.val (.int p1), .val (.int p2), .unset, .unset] [(.long (p2.toInt64))])) t → Steps p.tables e below (s₁.setTop (mkF m 3 #[.val (.int p1), .val (.int p2), .unset, .unset] [(.int p1), (.long (p2.toInt64))])) t := by
        intro t k
        refine XS.ifNo X0.here hx rfl (hb hby d2_3) rfl ((if0 _ _).trans (feq hc2).1) ?_
        exact k
      have K6 : ∀ t, Steps p.tables e below (s₁.setTop (mkF m 15 #[.val (.int p1), .val (.int p2), .unset, .unset] [(.long (65 : Int64)), (.long (p2.toInt64))])) t → Steps p.tables e below (s₁.setTop (mkF m 6 #[.val (.int p1), .val (.int p2), .unset, .unset] [(.long (p2.toInt64))])) t := by
        intro t k
        refine X0.ldc2Long hx hown (mvT hZ (hw _ (List.mem_of_getElem? (i := 13) rfl))) (g := (mkF m 6 #[.val (.int p1), .val (.int p2), .unset, .unset] [(.long (p2.toInt64))])) rfl (hb hby d2_6) _ ?_
        show Steps p.tables e below (s₁.setTop (mkF m 9 #[.val (.int p1), .val (.int p2), .unset, .unset] [(.long (65 : Int64)), (.long (p2.toInt64))])) t
        refine XS.goto X0.here hx rfl (pc0 := 9) (pc' := 15) rfl (hb hby d2_9) (by decide) (by decide) ?_
        show Steps p.tables e below (s₁.setTop (mkF m 15 #[.val (.int p1), .val (.int p2), .unset, .unset] [(.long (65 : Int64)), (.long (p2.toInt64))])) t
        exact k
      rw [show (f2_u1 p1) = (65 : Int64) from if_neg hc2] at k
      exact K5 _ (K6 _ (k))
  have K7 : ∀ t, Steps p.tables e below (s₁.setTop (mkF m 20 #[.val (.int p1), .val (.int p2), .val (.long ((p2.toInt64) - (f2_u1 p1))), .second] [(.int (own_cmp ((p2.toInt64) - (f2_u1 p1)) (0 : Int64)))])) t → Steps p.tables e below (s₁.setTop (mkF m 15 #[.val (.int p1), .val (.int p2), .unset, .unset] [(.long (f2_u1 p1)), (.long (p2.toInt64))])) t := by
    intro t k
    refine XS.lsub X0.here hx rfl (hb hby d2_15) rfl ?_
    show Steps p.tables e below (s₁.setTop (mkF m 16 #[.val (.int p1), .val (.int p2), .unset, .unset] [(.long ((p2.toInt64) - (f2_u1 p1)))])) t
    refine XS.lstoreN X0.here hx rfl (hb hby d2_16) rfl (l' := #[.val (.int p1), .val (.int p2), .val (.long ((p2.toInt64) - (f2_u1 p1))), .second]) rfl ?_
    show Steps p.tables e below (s₁.setTop (mkF m 17 #[.val (.int p1), .val (.int p2), .val (.long ((p2.toInt64) - (f2_u1 p1))), .second] [])) t
    refine XS.lloadN X0.here hx rfl (hb hby d2_17) rfl ?_
    show Steps p.tables e below (s₁.setTop (mkF m 18 #[.val (.int p1), .val (.int p2), .val (.long ((p2.toInt64) - (f2_u1 p1))), .second] [(.long ((p2.toInt64) - (f2_u1 p1)))])) t
    refine XS.lconst X0.here hx rfl (hb hby d2_18) ?_
    show Steps p.tables e below (s₁.setTop (mkF m 19 #[.val (.int p1), .val (.int p2), .val (.long ((p2.toInt64) - (f2_u1 p1))), .second] [(.long (0 : Int64)), (.long ((p2.toInt64) - (f2_u1 p1)))])) t
    refine XS.lcmp X0.here hx rfl (hb hby d2_19) rfl ?_
    show Steps p.tables e below (s₁.setTop (mkF m 20 #[.val (.int p1), .val (.int p2), .val (.long ((p2.toInt64) - (f2_u1 p1))), .second] [(.int (own_cmp ((p2.toInt64) - (f2_u1 p1)) (0 : Int64)))])) t
    exact k
  by_cases hc8 : (own_cmp ((p2.toInt64) - (f2_u1 p1)) (0 : Int64)) < (0 : Int32)
  · have K9 : ∀ t, Steps p.tables e below (s₁.setTop (mkF m 35 #[.val (.int p1), .val (.int p2), .val (.long ((p2.toInt64) - (f2_u1 p1))), .second] [])) t → Steps p.tables e below (s₁.setTop (mkF m 20 #[.val (.int p1), .val (.int p2), .val (.long ((p2.toInt64) - (f2_u1 p1))), .second] [(.int (own_cmp ((p2.toInt64) - (f2_u1 p1)) (0 : Int64)))])) t := by
      intro t k
      refine XS.ifYes X0.here hx rfl (pc0 := 20) (pc' := 35) rfl (hb hby d2_20) rfl ((if0 _ _).trans (tlt hc8).1) (by decide) (by decide) ?_
      exact k
    have K10 : ∀ t, Steps p.tables e below (s₁.setTop (mkF m 36 #[.val (.int p1), .val (.int p2), .val (.long ((p2.toInt64) - (f2_u1 p1))), .second] [(.int (0 : Int32))])) t → Steps p.tables e below (s₁.setTop (mkF m 35 #[.val (.int p1), .val (.int p2), .val (.long ((p2.toInt64) - (f2_u1 p1))), .second] [])) t := by
      intro t k
      refine XS.iconst X0.here hx rfl (hb hby d2_35) ?_
      show Steps p.tables e below (s₁.setTop (mkF m 36 #[.val (.int p1), .val (.int p2), .val (.long ((p2.toInt64) - (f2_u1 p1))), .second] [(.int (0 : Int32))])) t
      exact k
    obtain ⟨fs, hr, hrun, hended, hW, hsame⟩ := X0.leave (v := some (.int (0 : Int32))) (fun h => by rw [Bd.returns] at h; cases h)
    refine ⟨_, _, pre0 _ (K1 _ (K2 _ (K7 _ (K9 _ (K10 _ (retN X0 hx (t := .boolean) Bd.returns (by simp) (hb hby d2_36) hr)))))), hrun, hended, _, _, rfl, ?_, ⟨_, rfl⟩, hW, hsame.mono (by decide) (by decide)⟩
    show Q2 Z p1 p2 h0 n0 _ s₁.heap _
    rw [e0]
    exact ⟨congrArg (fun z => some (Value.int z)) (show (0 : Int32) = f2 p1 p2 from Eq.symm (if_pos hc8)), N0, rfl⟩
  · have K11 : ∀ t, Steps p.tables e below (s₁.setTop (mkF m 23 #[.val (.int p1), .val (.int p2), .val (.long ((p2.toInt64) - (f2_u1 p1))), .second] [])) t → Steps p.tables e below (s₁.setTop (mkF m 20 #[.val (.int p1), .val (.int p2), .val (.long ((p2.toInt64) - (f2_u1 p1))), .second] [(.int (own_cmp ((p2.toInt64) - (f2_u1 p1)) (0 : Int64)))])) t := by
      intro t k
      refine XS.ifNo X0.here hx rfl (hb hby d2_20) rfl ((if0 _ _).trans (flt hc8).1) ?_
      exact k
    have K12 : ∀ t, Steps p.tables e below (s₁.setTop (mkF m 28 #[.val (.int p1), .val (.int p2), .val (.long ((p2.toInt64) - (f2_u1 p1))), .second] [(.int (own_cmp ((p2.toInt64) - (f2_u1 p1)) (26 : Int64)))])) t → Steps p.tables e below (s₁.setTop (mkF m 23 #[.val (.int p1), .val (.int p2), .val (.long ((p2.toInt64) - (f2_u1 p1))), .second] [])) t := by
      intro t k
      refine XS.lloadN X0.here hx rfl (hb hby d2_23) rfl ?_
      show Steps p.tables e below (s₁.setTop (mkF m 24 #[.val (.int p1), .val (.int p2), .val (.long ((p2.toInt64) - (f2_u1 p1))), .second] [(.long ((p2.toInt64) - (f2_u1 p1)))])) t
      refine X0.ldc2Long hx hown (mvT hZ (hw _ (List.mem_of_getElem? (i := 17) rfl))) (g := (mkF m 24 #[.val (.int p1), .val (.int p2), .val (.long ((p2.toInt64) - (f2_u1 p1))), .second] [(.long ((p2.toInt64) - (f2_u1 p1)))])) rfl (hb hby d2_24) _ ?_
      show Steps p.tables e below (s₁.setTop (mkF m 27 #[.val (.int p1), .val (.int p2), .val (.long ((p2.toInt64) - (f2_u1 p1))), .second] [(.long (26 : Int64)), (.long ((p2.toInt64) - (f2_u1 p1)))])) t
      refine XS.lcmp X0.here hx rfl (hb hby d2_27) rfl ?_
      show Steps p.tables e below (s₁.setTop (mkF m 28 #[.val (.int p1), .val (.int p2), .val (.long ((p2.toInt64) - (f2_u1 p1))), .second] [(.int (own_cmp ((p2.toInt64) - (f2_u1 p1)) (26 : Int64)))])) t
      exact k
    by_cases hc13 : (own_cmp ((p2.toInt64) - (f2_u1 p1)) (26 : Int64)) < (0 : Int32)
    · have K14 : ∀ t, Steps p.tables e below (s₁.setTop (mkF m 31 #[.val (.int p1), .val (.int p2), .val (.long ((p2.toInt64) - (f2_u1 p1))), .second] [])) t → Steps p.tables e below (s₁.setTop (mkF m 28 #[.val (.int p1), .val (.int p2), .val (.long ((p2.toInt64) - (f2_u1 p1))), .second] [(.int (own_cmp ((p2.toInt64) - (f2_u1 p1)) (26 : Int64)))])) t := by
        intro t k
        refine XS.ifNo X0.here hx rfl (hb hby d2_28) rfl ((if0 _ _).trans (tlt hc13).2.1) ?_
        exact k
      have K15 : ∀ t, Steps p.tables e below (s₁.setTop (mkF m 36 #[.val (.int p1), .val (.int p2), .val (.long ((p2.toInt64) - (f2_u1 p1))), .second] [(.int (1 : Int32))])) t → Steps p.tables e below (s₁.setTop (mkF m 31 #[.val (.int p1), .val (.int p2), .val (.long ((p2.toInt64) - (f2_u1 p1))), .second] [])) t := by
        intro t k
        refine XS.iconst X0.here hx rfl (hb hby d2_31) ?_
        show Steps p.tables e below (s₁.setTop (mkF m 32 #[.val (.int p1), .val (.int p2), .val (.long ((p2.toInt64) - (f2_u1 p1))), .second] [(.int (1 : Int32))])) t
        refine XS.goto X0.here hx rfl (pc0 := 32) (pc' := 36) rfl (hb hby d2_32) (by decide) (by decide) ?_
        show Steps p.tables e below (s₁.setTop (mkF m 36 #[.val (.int p1), .val (.int p2), .val (.long ((p2.toInt64) - (f2_u1 p1))), .second] [(.int (1 : Int32))])) t
        exact k
      obtain ⟨fs, hr, hrun, hended, hW, hsame⟩ := X0.leave (v := some (.int (1 : Int32))) (fun h => by rw [Bd.returns] at h; cases h)
      refine ⟨_, _, pre0 _ (K1 _ (K2 _ (K7 _ (K11 _ (K12 _ (K14 _ (K15 _ (retN X0 hx (t := .boolean) Bd.returns (by simp) (hb hby d2_36) hr)))))))), hrun, hended, _, _, rfl, ?_, ⟨_, rfl⟩, hW, hsame.mono (by decide) (by decide)⟩
      show Q2 Z p1 p2 h0 n0 _ s₁.heap _
      rw [e0]
      exact ⟨congrArg (fun z => some (Value.int z)) (show (1 : Int32) = f2 p1 p2 from Eq.symm ((if_neg hc8).trans (if_pos hc13))), N0, rfl⟩
    · have K16 : ∀ t, Steps p.tables e below (s₁.setTop (mkF m 35 #[.val (.int p1), .val (.int p2), .val (.long ((p2.toInt64) - (f2_u1 p1))), .second] [])) t → Steps p.tables e below (s₁.setTop (mkF m 28 #[.val (.int p1), .val (.int p2), .val (.long ((p2.toInt64) - (f2_u1 p1))), .second] [(.int (own_cmp ((p2.toInt64) - (f2_u1 p1)) (26 : Int64)))])) t := by
        intro t k
        refine XS.ifYes X0.here hx rfl (pc0 := 28) (pc' := 35) rfl (hb hby d2_28) rfl ((if0 _ _).trans (flt hc13).2.1) (by decide) (by decide) ?_
        exact k
      have K17 : ∀ t, Steps p.tables e below (s₁.setTop (mkF m 36 #[.val (.int p1), .val (.int p2), .val (.long ((p2.toInt64) - (f2_u1 p1))), .second] [(.int (0 : Int32))])) t → Steps p.tables e below (s₁.setTop (mkF m 35 #[.val (.int p1), .val (.int p2), .val (.long ((p2.toInt64) - (f2_u1 p1))), .second] [])) t := by
        intro t k
        refine XS.iconst X0.here hx rfl (hb hby d2_35) ?_
        show Steps p.tables e below (s₁.setTop (mkF m 36 #[.val (.int p1), .val (.int p2), .val (.long ((p2.toInt64) - (f2_u1 p1))), .second] [(.int (0 : Int32))])) t
        exact k
      obtain ⟨fs, hr, hrun, hended, hW, hsame⟩ := X0.leave (v := some (.int (0 : Int32))) (fun h => by rw [Bd.returns] at h; cases h)
      refine ⟨_, _, pre0 _ (K1 _ (K2 _ (K7 _ (K11 _ (K12 _ (K16 _ (K17 _ (retN X0 hx (t := .boolean) Bd.returns (by simp) (hb hby d2_36) hr)))))))), hrun, hended, _, _, rfl, ?_, ⟨_, rfl⟩, hW, hsame.mono (by decide) (by decide)⟩
      show Q2 Z p1 p2 h0 n0 _ s₁.heap _
      rw [e0]
      exact ⟨congrArg (fun z => some (Value.int z)) (show (0 : Int32) = f2 p1 p2 from Eq.symm ((if_neg hc8).trans (if_neg hc13))), N0, rfl⟩
-- body 0: com/example/kirjatieto/kirjatieto/onix/TagFormInitialPinLaw.law(II)Z
theorem pn_0 : plainName "com/example/kirjatieto/kirjatieto/onix/TagFormInitialPinLaw" = true := by first | (simp [plainName, overriddenIn]; done) | decide +kernel
theorem pd_0 : parseMethodDescriptor "(I)Z" = some ⟨[.int], some .boolean⟩ := by decide +kernel
theorem pd_1 : parseMethodDescriptor "(ZI)Z" = some ⟨[.boolean, .int], some .boolean⟩ := by decide +kernel
theorem ef_0 (m : MethodId) (p1 : Int32) (p2 : Int32) : entryFrame m #[(.int p1), (.int p2)] maxLocals = mkF m 0 #[.val (.int p1), .val (.int p2), .unset, .unset, .unset, .unset, .unset, .unset] [] := by first | (simp [entryFrame, mkF, argsToLocals, Value.category, maxLocals]; done) | rfl
def f0_u1 (p1 : Int32) (w_REFERENCE_NAMES : Addr) : Int32 := (if (f1 w_REFERENCE_NAMES p1 w_REFERENCE_NAMES) = (f2 (1 : Int32) p1) then (1 : Int32) else (0 : Int32))
def f0_u2 (p1 : Int32) (w_REFERENCE_NAMES : Addr) (w_SHORT_TAGS : Addr) : Int32 := (if (f1 w_SHORT_TAGS p1 w_REFERENCE_NAMES) = (f2 (0 : Int32) p1) then (1 : Int32) else (0 : Int32))
def f0_u3 (p2 : Int32) (w_REFERENCE_NAMES : Addr) : Int32 := (if (f1 w_REFERENCE_NAMES ((62 : Int32) + (p2 &&& (31 : Int32))) w_REFERENCE_NAMES) = (f2 (1 : Int32) ((62 : Int32) + (p2 &&& (31 : Int32)))) then (1 : Int32) else (0 : Int32))
def f0_u4 (p2 : Int32) (w_REFERENCE_NAMES : Addr) (w_SHORT_TAGS : Addr) : Int32 := (if (f1 w_SHORT_TAGS ((94 : Int32) + (p2 &&& (31 : Int32))) w_REFERENCE_NAMES) = (f2 (0 : Int32) ((94 : Int32) + (p2 &&& (31 : Int32)))) then (1 : Int32) else (0 : Int32))
def f0 (p1 : Int32) (p2 : Int32) (w_REFERENCE_NAMES : Addr) (w_SHORT_TAGS : Addr) : Int32 := (if (f0_u1 p1 w_REFERENCE_NAMES) = (0 : Int32) then (0 : Int32) else (if (f0_u2 p1 w_REFERENCE_NAMES w_SHORT_TAGS) = (0 : Int32) then (0 : Int32) else (if (f0_u3 p2 w_REFERENCE_NAMES) = (0 : Int32) then (0 : Int32) else (if (f0_u4 p2 w_REFERENCE_NAMES w_SHORT_TAGS) = (0 : Int32) then (0 : Int32) else (1 : Int32)))))
def Q0 (Z : State) (p1 : Int32) (p2 : Int32) (w_REFERENCE_NAMES : Addr) (w_SHORT_TAGS : Addr) (h0 : Heap) (n0 : Nat) (v : Option Value) (h : Heap) (L : List Loc) : Prop := v = some (.int (f0 p1 p2 w_REFERENCE_NAMES w_SHORT_TAGS)) ∧ Fr n0 L ∧ h = h0
set_option maxRecDepth 65536 in
set_option maxHeartbeats 40000000 in
theorem rm0 (l : Launch) (Z : State) (a0 : Array Value) (hw : ∀ d ∈ tables_1, d.before a0 Z = true) (ws : List Jvm.Cond) (p1 : Int32) (p2 : Int32) (w_REFERENCE_NAMES : Addr) (w_SHORT_TAGS : Addr) (h0 : Heap) (n0 : Nat) (Z0 : n0 ≤ h0.size) (S_REFERENCE_NAMES : Sta Z h0 "com/example/kirjatieto/kirjatieto/onix/TagForm" "REFERENCE_NAMES" "Lcom/example/kirjatieto/kirjatieto/onix/TagForm;" (.ref w_REFERENCE_NAMES)) (E_w_REFERENCE_NAMES : Exa Z h0 w_REFERENCE_NAMES "com/example/kirjatieto/kirjatieto/onix/TagForm") (S_SHORT_TAGS : Sta Z h0 "com/example/kirjatieto/kirjatieto/onix/TagForm" "SHORT_TAGS" "Lcom/example/kirjatieto/kirjatieto/onix/TagForm;" (.ref w_SHORT_TAGS)) (E_w_SHORT_TAGS : Exa Z h0 w_SHORT_TAGS "com/example/kirjatieto/kirjatieto/onix/TagForm") :
    MetFree l x (head1 (Jvm.Cond.code x code maxLocals ret :: ws) room_1) (fun a U => a = #[(.int p1), (.int p2)] ∧ Z.Warmed39 U.vm ∧ U.heap = h0) (fun _ _ _ _ _ => True) (fun _ U o U' => ∃ v L, o = .returned v ∧ Q0 Z p1 p2 w_REFERENCE_NAMES w_SHORT_TAGS h0 n0 v U'.heap L ∧ FrameEnd U o U' L room_1.cells room_1.slots) := by
  refine MetFree.of_bodySF (plainFor_of_name pn_0) hisR ?_
  intro p e s m args below meth c s₁ Bd hml0 hP hK
  obtain ⟨rfl, hZ, hh⟩ := hP
  have hx := Bd.exec
  have hby := Bd.bytes
  have hml : c.maxLocals = 8 := hml0
  have hown : s.vm.findClass "com/example/kirjatieto/kirjatieto/onix/TagFormInitialPinLaw" = some m.cls := findClass_of_methodNamed Bd.named
  have hnm := (name_of_methodNamed Bd.named Bd.method).1
  have X0 : Stand p l e room_1 s m #[(.int p1), (.int p2)] below meth c s₁ [] 0 0 := Stand.of_body Bd
  have e0 : s₁.heap = h0 := by rw [← hh, Bd.state]; rfl
  have N0 := Fr.nil n0
  have pre0 : ∀ t, Steps p.tables e below (s₁.setTop (mkF m 0 #[.val (.int p1), .val (.int p2), .unset, .unset, .unset, .unset, .unset, .unset] [])) t → Steps p.tables e below (s₁.setTop (entryFrame m #[(.int p1), (.int p2)] maxLocals)) t := fun t k => castTop (ef_0 m p1 p2) k
  have K1 : ∀ t, Steps p.tables e below (s₁.setTop (mkF m 16 #[.val (.int p1), .val (.int p2), .val (.int ((62 : Int32) + (p2 &&& (31 : Int32)))), .val (.int ((94 : Int32) + (p2 &&& (31 : Int32)))), .unset, .unset, .unset, .unset] [])) t → Steps p.tables e below (s₁.setTop (mkF m 0 #[.val (.int p1), .val (.int p2), .unset, .unset, .unset, .unset, .unset, .unset] [])) t := by
    intro t k
    refine XS.bipush X0.here hx rfl (hb hby at_0) ?_
    show Steps p.tables e below (s₁.setTop (mkF m 2 #[.val (.int p1), .val (.int p2), .unset, .unset, .unset, .unset, .unset, .unset] [(.int (62 : Int32))])) t
    refine XS.iloadN X0.here hx rfl (hb hby at_2) rfl ?_
    show Steps p.tables e below (s₁.setTop (mkF m 3 #[.val (.int p1), .val (.int p2), .unset, .unset, .unset, .unset, .unset, .unset] [(.int p2), (.int (62 : Int32))])) t
    refine XS.bipush X0.here hx rfl (hb hby at_3) ?_
    show Steps p.tables e below (s₁.setTop (mkF m 5 #[.val (.int p1), .val (.int p2), .unset, .unset, .unset, .unset, .unset, .unset] [(.int (31 : Int32)), (.int p2), (.int (62 : Int32))])) t
    refine XS.iand X0.here hx rfl (hb hby at_5) rfl ?_
    show Steps p.tables e below (s₁.setTop (mkF m 6 #[.val (.int p1), .val (.int p2), .unset, .unset, .unset, .unset, .unset, .unset] [(.int (p2 &&& (31 : Int32))), (.int (62 : Int32))])) t
    refine XS.iadd X0.here hx rfl (hb hby at_6) rfl ?_
    show Steps p.tables e below (s₁.setTop (mkF m 7 #[.val (.int p1), .val (.int p2), .unset, .unset, .unset, .unset, .unset, .unset] [(.int ((62 : Int32) + (p2 &&& (31 : Int32))))])) t
    refine XS.istoreN X0.here hx rfl (hb hby at_7) rfl (l' := #[.val (.int p1), .val (.int p2), .val (.int ((62 : Int32) + (p2 &&& (31 : Int32)))), .unset, .unset, .unset, .unset, .unset]) rfl ?_
    show Steps p.tables e below (s₁.setTop (mkF m 8 #[.val (.int p1), .val (.int p2), .val (.int ((62 : Int32) + (p2 &&& (31 : Int32)))), .unset, .unset, .unset, .unset, .unset] [])) t
    refine XS.bipush X0.here hx rfl (hb hby at_8) ?_
    show Steps p.tables e below (s₁.setTop (mkF m 10 #[.val (.int p1), .val (.int p2), .val (.int ((62 : Int32) + (p2 &&& (31 : Int32)))), .unset, .unset, .unset, .unset, .unset] [(.int (94 : Int32))])) t
    refine XS.iloadN X0.here hx rfl (hb hby at_10) rfl ?_
    show Steps p.tables e below (s₁.setTop (mkF m 11 #[.val (.int p1), .val (.int p2), .val (.int ((62 : Int32) + (p2 &&& (31 : Int32)))), .unset, .unset, .unset, .unset, .unset] [(.int p2), (.int (94 : Int32))])) t
    refine XS.bipush X0.here hx rfl (hb hby at_11) ?_
    show Steps p.tables e below (s₁.setTop (mkF m 13 #[.val (.int p1), .val (.int p2), .val (.int ((62 : Int32) + (p2 &&& (31 : Int32)))), .unset, .unset, .unset, .unset, .unset] [(.int (31 : Int32)), (.int p2), (.int (94 : Int32))])) t
    refine XS.iand X0.here hx rfl (hb hby at_13) rfl ?_
    show Steps p.tables e below (s₁.setTop (mkF m 14 #[.val (.int p1), .val (.int p2), .val (.int ((62 : Int32) + (p2 &&& (31 : Int32)))), .unset, .unset, .unset, .unset, .unset] [(.int (p2 &&& (31 : Int32))), (.int (94 : Int32))])) t
    refine XS.iadd X0.here hx rfl (hb hby at_14) rfl ?_
    show Steps p.tables e below (s₁.setTop (mkF m 15 #[.val (.int p1), .val (.int p2), .val (.int ((62 : Int32) + (p2 &&& (31 : Int32)))), .unset, .unset, .unset, .unset, .unset] [(.int ((94 : Int32) + (p2 &&& (31 : Int32))))])) t
    refine XS.istoreN X0.here hx rfl (hb hby at_15) rfl (l' := #[.val (.int p1), .val (.int p2), .val (.int ((62 : Int32) + (p2 &&& (31 : Int32)))), .val (.int ((94 : Int32) + (p2 &&& (31 : Int32)))), .unset, .unset, .unset, .unset]) rfl ?_
    show Steps p.tables e below (s₁.setTop (mkF m 16 #[.val (.int p1), .val (.int p2), .val (.int ((62 : Int32) + (p2 &&& (31 : Int32)))), .val (.int ((94 : Int32) + (p2 &&& (31 : Int32)))), .unset, .unset, .unset, .unset] [])) t
    exact k
  obtain ⟨T2, X2, e2, st2⟩ := getS2 X0 hx hZ hown (host := "") (Or.inl (hw _ (List.mem_of_getElem? (i := 0) rfl))) Via.refl e0 S_REFERENCE_NAMES (g := (mkF m 16 #[.val (.int p1), .val (.int p2), .val (.int ((62 : Int32) + (p2 &&& (31 : Int32)))), .val (.int ((94 : Int32) + (p2 &&& (31 : Int32)))), .unset, .unset, .unset, .unset] [])) rfl (hb hby at_16)
  have K3 : ∀ t, Steps p.tables e below (T2.setTop (mkF m 19 #[.val (.int p1), .val (.int p2), .val (.int ((62 : Int32) + (p2 &&& (31 : Int32)))), .val (.int ((94 : Int32) + (p2 &&& (31 : Int32)))), .unset, .unset, .unset, .unset] [(.ref w_REFERENCE_NAMES)])) t → Steps p.tables e below (s₁.setTop (mkF m 16 #[.val (.int p1), .val (.int p2), .val (.int ((62 : Int32) + (p2 &&& (31 : Int32)))), .val (.int ((94 : Int32) + (p2 &&& (31 : Int32)))), .unset, .unset, .unset, .unset] [])) t := fun t k => st2 _ k
  have K4 : ∀ t, Steps p.tables e below (T2.setTop (mkF m 20 #[.val (.int p1), .val (.int p2), .val (.int ((62 : Int32) + (p2 &&& (31 : Int32)))), .val (.int ((94 : Int32) + (p2 &&& (31 : Int32)))), .unset, .unset, .unset, .unset] [(.int p1), (.ref w_REFERENCE_NAMES)])) t → Steps p.tables e below (T2.setTop (mkF m 19 #[.val (.int p1), .val (.int p2), .val (.int ((62 : Int32) + (p2 &&& (31 : Int32)))), .val (.int ((94 : Int32) + (p2 &&& (31 : Int32)))), .unset, .unset, .unset, .unset] [(.ref w_REFERENCE_NAMES)])) t := by
    intro t k
    refine XS.iloadN X2.here hx rfl (hb hby at_19) rfl ?_
    show Steps p.tables e below (T2.setTop (mkF m 20 #[.val (.int p1), .val (.int p2), .val (.int ((62 : Int32) + (p2 &&& (31 : Int32)))), .val (.int ((94 : Int32) + (p2 &&& (31 : Int32)))), .unset, .unset, .unset, .unset] [(.int p1), (.ref w_REFERENCE_NAMES)])) t
    exact k
  obtain ⟨cq5, kq5, q5a, q5b, q5c⟩ := isOf hZ e2 E_w_REFERENCE_NAMES
  obtain ⟨_, _, ⟨T5, L5, k5, n5⟩, -, X5, ⟨Lc5, hQ5, l5, y5, z5⟩, st5⟩ := X2.virtualBack hx (y := (⟨"com/example/kirjatieto/kirjatieto/onix/TagForm", "initial", "(I)Z"⟩ : MethodName)) (z := (⟨"com/example/kirjatieto/kirjatieto/onix/TagForm", "initial", "(I)Z"⟩ : MethodName)) hown (mvT hZ (hw _ (List.mem_of_getElem? (i := 3) rfl))) (mvT hZ (hw _ (List.mem_of_getElem? (i := 4) rfl))) (notFace_of_selects (args := #[]) (mvT hZ (hw _ (List.mem_of_getElem? (i := 6) rfl)))) (mvT hZ (hw _ (List.mem_of_getElem? (i := 6) rfl))) (mvT hZ (hw _ (List.mem_of_getElem? (i := 5) rfl))) (by decide) (backOf (W := 0) (rm1 l Z a0 hw [] w_REFERENCE_NAMES p1 w_REFERENCE_NAMES h0 n0 Z0 S_REFERENCE_NAMES) hZ (hw _ (List.mem_of_getElem? (i := 7) rfl)) (hw _ (List.mem_of_getElem? (i := 1) rfl)) (by decide) (by decide)) q5a q5c (g := (mkF m 20 #[.val (.int p1), .val (.int p2), .val (.int ((62 : Int32) + (p2 &&& (31 : Int32)))), .val (.int ((94 : Int32) + (p2 &&& (31 : Int32)))), .unset, .unset, .unset, .unset] [(.int p1), (.ref w_REFERENCE_NAMES)])) rfl (by rw [hml]; rfl) (Steps.refl _) (argsL := [(.int p1)]) (rest := []) (lenOf pd_0 rfl) rfl (by show 2 * 0 + _ ≤ _; exact Nat.le_of_eq rfl) (hb hby at_20) (fun _ _ => ⟨rfl, e2, (by decide : 0 + 0 ≤ _), (by decide : 0 + 0 ≤ _)⟩)
  dsimp only [Pt.U, Pt.locs, Pt.cells, Pt.slots] at X5 l5 y5 z5 st5 hQ5
  subst l5 y5 z5
  obtain ⟨rfl, N5q, e5⟩ := hQ5
  have N5 := Fr.app N0 N5q
  have K6 : ∀ t, Steps p.tables e below (T5.setTop (mkF m 23 #[.val (.int p1), .val (.int p2), .val (.int ((62 : Int32) + (p2 &&& (31 : Int32)))), .val (.int ((94 : Int32) + (p2 &&& (31 : Int32)))), .unset, .unset, .unset, .unset] [(.int (f1 w_REFERENCE_NAMES p1 w_REFERENCE_NAMES))])) t → Steps p.tables e below (T2.setTop (mkF m 20 #[.val (.int p1), .val (.int p2), .val (.int ((62 : Int32) + (p2 &&& (31 : Int32)))), .val (.int ((94 : Int32) + (p2 &&& (31 : Int32)))), .unset, .unset, .unset, .unset] [(.int p1), (.ref w_REFERENCE_NAMES)])) t := fun t k => st5.trans k
  have K7 : ∀ t, Steps p.tables e below (T5.setTop (mkF m 25 #[.val (.int p1), .val (.int p2), .val (.int ((62 : Int32) + (p2 &&& (31 : Int32)))), .val (.int ((94 : Int32) + (p2 &&& (31 : Int32)))), .unset, .unset, .unset, .unset] [(.int p1), (.int (1 : Int32)), (.int (f1 w_REFERENCE_NAMES p1 w_REFERENCE_NAMES))])) t → Steps p.tables e below (T5.setTop (mkF m 23 #[.val (.int p1), .val (.int p2), .val (.int ((62 : Int32) + (p2 &&& (31 : Int32)))), .val (.int ((94 : Int32) + (p2 &&& (31 : Int32)))), .unset, .unset, .unset, .unset] [(.int (f1 w_REFERENCE_NAMES p1 w_REFERENCE_NAMES))])) t := by
    intro t k
    refine XS.iconst X5.here hx rfl (hb hby at_23) ?_
    show Steps p.tables e below (T5.setTop (mkF m 24 #[.val (.int p1), .val (.int p2), .val (.int ((62 : Int32) + (p2 &&& (31 : Int32)))), .val (.int ((94 : Int32) + (p2 &&& (31 : Int32)))), .unset, .unset, .unset, .unset] [(.int (1 : Int32)), (.int (f1 w_REFERENCE_NAMES p1 w_REFERENCE_NAMES))])) t
    refine XS.iloadN X5.here hx rfl (hb hby at_24) rfl ?_
    show Steps p.tables e below (T5.setTop (mkF m 25 #[.val (.int p1), .val (.int p2), .val (.int ((62 : Int32) + (p2 &&& (31 : Int32)))), .val (.int ((94 : Int32) + (p2 &&& (31 : Int32)))), .unset, .unset, .unset, .unset] [(.int p1), (.int (1 : Int32)), (.int (f1 w_REFERENCE_NAMES p1 w_REFERENCE_NAMES))])) t
    exact k
  obtain ⟨_, _, ⟨T8, L8, k8, n8⟩, -, X8, ⟨Lc8, hQ8, l8, y8, z8⟩, st8⟩ := Jvm.LawKit.callS X5 hx (y := (⟨"com/example/kirjatieto/kirjatieto/onix/TagFormInitialPinLaw", "expected", "(ZI)Z"⟩ : MethodName)) hown (mvT hZ (hw _ (List.mem_of_getElem? (i := 9) rfl))) (mvT hZ (hw _ (List.mem_of_getElem? (i := 10) rfl))) (mvT hZ (hw _ (List.mem_of_getElem? (i := 11) rfl))) (mvT hZ (hw _ (List.mem_of_getElem? (i := 12) rfl))) (by decide) (backOf (W := 1) (rm2 l Z a0 hw [] (1 : Int32) p1 h0 n0 Z0 ) hZ (hw _ (List.mem_of_getElem? (i := 12) rfl)) (hw _ (List.mem_of_getElem? (i := 11) rfl)) (by decide) (by decide)) (g := (mkF m 25 #[.val (.int p1), .val (.int p2), .val (.int ((62 : Int32) + (p2 &&& (31 : Int32)))), .val (.int ((94 : Int32) + (p2 &&& (31 : Int32)))), .unset, .unset, .unset, .unset] [(.int p1), (.int (1 : Int32)), (.int (f1 w_REFERENCE_NAMES p1 w_REFERENCE_NAMES))])) rfl (by rw [hml]; rfl) (argsL := [(.int (1 : Int32)), (.int p1)]) (rest := [(.int (f1 w_REFERENCE_NAMES p1 w_REFERENCE_NAMES))]) (lenOf pd_1 rfl) rfl (by show 2 * 0 + _ ≤ _; exact Nat.le_of_eq rfl) (hb hby at_25) (fun _ _ => ⟨rfl, e5, (by decide : 0 + 0 ≤ _), (by decide : 0 + 0 ≤ _)⟩)
  dsimp only [Pt.U, Pt.locs, Pt.cells, Pt.slots] at X8 l8 y8 z8 st8 hQ8
  subst l8 y8 z8
  obtain ⟨rfl, N8q, e8⟩ := hQ8
  have N8 := Fr.app N5 N8q
  have K9 : ∀ t, Steps p.tables e below (T8.setTop (mkF m 28 #[.val (.int p1), .val (.int p2), .val (.int ((62 : Int32) + (p2 &&& (31 : Int32)))), .val (.int ((94 : Int32) + (p2 &&& (31 : Int32)))), .unset, .unset, .unset, .unset] [(.int (f2 (1 : Int32) p1)), (.int (f1 w_REFERENCE_NAMES p1 w_REFERENCE_NAMES))])) t → Steps p.tables e below (T5.setTop (mkF m 25 #[.val (.int p1), .val (.int p2), .val (.int ((62 : Int32) + (p2 &&& (31 : Int32)))), .val (.int ((94 : Int32) + (p2 &&& (31 : Int32)))), .unset, .unset, .unset, .unset] [(.int p1), (.int (1 : Int32)), (.int (f1 w_REFERENCE_NAMES p1 w_REFERENCE_NAMES))])) t := fun t k => st8 _ k
  have K10 : ∀ t, Steps p.tables e below (T8.setTop (mkF m 36 #[.val (.int p1), .val (.int p2), .val (.int ((62 : Int32) + (p2 &&& (31 : Int32)))), .val (.int ((94 : Int32) + (p2 &&& (31 : Int32)))), .unset, .unset, .unset, .unset] [(.int (f0_u1 p1 w_REFERENCE_NAMES))])) t → Steps p.tables e below (T8.setTop (mkF m 28 #[.val (.int p1), .val (.int p2), .val (.int ((62 : Int32) + (p2 &&& (31 : Int32)))), .val (.int ((94 : Int32) + (p2 &&& (31 : Int32)))), .unset, .unset, .unset, .unset] [(.int (f2 (1 : Int32) p1)), (.int (f1 w_REFERENCE_NAMES p1 w_REFERENCE_NAMES))])) t := by
    intro t k
    by_cases hc10 : (f1 w_REFERENCE_NAMES p1 w_REFERENCE_NAMES) = (f2 (1 : Int32) p1)
    · have K11 : ∀ t, Steps p.tables e below (T8.setTop (mkF m 31 #[.val (.int p1), .val (.int p2), .val (.int ((62 : Int32) + (p2 &&& (31 : Int32)))), .val (.int ((94 : Int32) + (p2 &&& (31 : Int32)))), .unset, .unset, .unset, .unset] [])) t → Steps p.tables e below (T8.setTop (mkF m 28 #[.val (.int p1), .val (.int p2), .val (.int ((62 : Int32) + (p2 &&& (31 : Int32)))), .val (.int ((94 : Int32) + (p2 &&& (31 : Int32)))), .unset, .unset, .unset, .unset] [(.int (f2 (1 : Int32) p1)), (.int (f1 w_REFERENCE_NAMES p1 w_REFERENCE_NAMES))])) t := by
        intro t k
        refine XS.icmpNo X8.here hx rfl (hb hby at_28) rfl (teq hc10).2 ?_
        exact k
      have K12 : ∀ t, Steps p.tables e below (T8.setTop (mkF m 36 #[.val (.int p1), .val (.int p2), .val (.int ((62 : Int32) + (p2 &&& (31 : Int32)))), .val (.int ((94 : Int32) + (p2 &&& (31 : Int32)))), .unset, .unset, .unset, .unset] [(.int (1 : Int32))])) t → Steps p.tables e below (T8.setTop (mkF m 31 #[.val (.int p1), .val (.int p2), .val (.int ((62 : Int32) + (p2 &&& (31 : Int32)))), .val (.int ((94 : Int32) + (p2 &&& (31 : Int32)))), .unset, .unset, .unset, .unset] [])) t := by
        intro t k
        refine XS.iconst X8.here hx rfl (hb hby at_31) ?_
        show Steps p.tables e below (T8.setTop (mkF m 32 #[.val (.int p1), .val (.int p2), .val (.int ((62 : Int32) + (p2 &&& (31 : Int32)))), .val (.int ((94 : Int32) + (p2 &&& (31 : Int32)))), .unset, .unset, .unset, .unset] [(.int (1 : Int32))])) t
        refine XS.goto X8.here hx rfl (pc0 := 32) (pc' := 36) rfl (hb hby at_32) (by decide) (by decide) ?_
        show Steps p.tables e below (T8.setTop (mkF m 36 #[.val (.int p1), .val (.int p2), .val (.int ((62 : Int32) + (p2 &&& (31 : Int32)))), .val (.int ((94 : Int32) + (p2 &&& (31 : Int32)))), .unset, .unset, .unset, .unset] [(.int (1 : Int32))])) t
        exact k
      rw [show (f0_u1 p1 w_REFERENCE_NAMES) = (1 : Int32) from if_pos hc10] at k
      exact K11 _ (K12 _ (k))
    · have K13 : ∀ t, Steps p.tables e below (T8.setTop (mkF m 35 #[.val (.int p1), .val (.int p2), .val (.int ((62 : Int32) + (p2 &&& (31 : Int32)))), .val (.int ((94 : Int32) + (p2 &&& (31 : Int32)))), .unset, .unset, .unset, .unset] [])) t → Steps p.tables e below (T8.setTop (mkF m 28 #[.val (.int p1), .val (.int p2), .val (.int ((62 : Int32) + (p2 &&& (31 : Int32)))), .val (.int ((94 : Int32) + (p2 &&& (31 : Int32)))), .unset, .unset, .unset, .unset] [(.int (f2 (1 : Int32) p1)), (.int (f1 w_REFERENCE_NAMES p1 w_REFERENCE_NAMES))])) t := by
        intro t k
        refine XS.icmpYes X8.here hx rfl (pc0 := 28) (pc' := 35) rfl (hb hby at_28) rfl (feq hc10).2 (by decide) (by decide) ?_
        exact k
      have K14 : ∀ t, Steps p.tables e below (T8.setTop (mkF m 36 #[.val (.int p1), .val (.int p2), .val (.int ((62 : Int32) + (p2 &&& (31 : Int32)))), .val (.int ((94 : Int32) + (p2 &&& (31 : Int32)))), .unset, .unset, .unset, .unset] [(.int (0 : Int32))])) t → Steps p.tables e below (T8.setTop (mkF m 35 #[.val (.int p1), .val (.int p2), .val (.int ((62 : Int32) + (p2 &&& (31 : Int32)))), .val (.int ((94 : Int32) + (p2 &&& (31 : Int32)))), .unset, .unset, .unset, .unset] [])) t := by
        intro t k
        refine XS.iconst X8.here hx rfl (hb hby at_35) ?_
        show Steps p.tables e below (T8.setTop (mkF m 36 #[.val (.int p1), .val (.int p2), .val (.int ((62 : Int32) + (p2 &&& (31 : Int32)))), .val (.int ((94 : Int32) + (p2 &&& (31 : Int32)))), .unset, .unset, .unset, .unset] [(.int (0 : Int32))])) t
        exact k
      rw [show (f0_u1 p1 w_REFERENCE_NAMES) = (0 : Int32) from if_neg hc10] at k
      exact K13 _ (K14 _ (k))
  have K15 : ∀ t, Steps p.tables e below (T8.setTop (mkF m 38 #[.val (.int p1), .val (.int p2), .val (.int ((62 : Int32) + (p2 &&& (31 : Int32)))), .val (.int ((94 : Int32) + (p2 &&& (31 : Int32)))), .val (.int (f0_u1 p1 w_REFERENCE_NAMES)), .unset, .unset, .unset] [])) t → Steps p.tables e below (T8.setTop (mkF m 36 #[.val (.int p1), .val (.int p2), .val (.int ((62 : Int32) + (p2 &&& (31 : Int32)))), .val (.int ((94 : Int32) + (p2 &&& (31 : Int32)))), .unset, .unset, .unset, .unset] [(.int (f0_u1 p1 w_REFERENCE_NAMES))])) t := by
    intro t k
    refine XS.istore X8.here hx rfl (hb hby at_36) rfl (l' := #[.val (.int p1), .val (.int p2), .val (.int ((62 : Int32) + (p2 &&& (31 : Int32)))), .val (.int ((94 : Int32) + (p2 &&& (31 : Int32)))), .val (.int (f0_u1 p1 w_REFERENCE_NAMES)), .unset, .unset, .unset]) rfl ?_
    show Steps p.tables e below (T8.setTop (mkF m 38 #[.val (.int p1), .val (.int p2), .val (.int ((62 : Int32) + (p2 &&& (31 : Int32)))), .val (.int ((94 : Int32) + (p2 &&& (31 : Int32)))), .val (.int (f0_u1 p1 w_REFERENCE_NAMES)), .unset, .unset, .unset] [])) t
    exact k
  obtain ⟨T16, X16, e16, st16⟩ := getS2 X8 hx hZ hown (host := "") (Or.inl (hw _ (List.mem_of_getElem? (i := 14) rfl))) Via.refl e8 S_SHORT_TAGS (g := (mkF m 38 #[.val (.int p1), .val (.int p2), .val (.int ((62 : Int32) + (p2 &&& (31 : Int32)))), .val (.int ((94 : Int32) + (p2 &&& (31 : Int32)))), .val (.int (f0_u1 p1 w_REFERENCE_NAMES)), .unset, .unset, .unset] [])) rfl (hb hby at_38)
  have K17 : ∀ t, Steps p.tables e below (T16.setTop (mkF m 41 #[.val (.int p1), .val (.int p2), .val (.int ((62 : Int32) + (p2 &&& (31 : Int32)))), .val (.int ((94 : Int32) + (p2 &&& (31 : Int32)))), .val (.int (f0_u1 p1 w_REFERENCE_NAMES)), .unset, .unset, .unset] [(.ref w_SHORT_TAGS)])) t → Steps p.tables e below (T8.setTop (mkF m 38 #[.val (.int p1), .val (.int p2), .val (.int ((62 : Int32) + (p2 &&& (31 : Int32)))), .val (.int ((94 : Int32) + (p2 &&& (31 : Int32)))), .val (.int (f0_u1 p1 w_REFERENCE_NAMES)), .unset, .unset, .unset] [])) t := fun t k => st16 _ k
  have K18 : ∀ t, Steps p.tables e below (T16.setTop (mkF m 42 #[.val (.int p1), .val (.int p2), .val (.int ((62 : Int32) + (p2 &&& (31 : Int32)))), .val (.int ((94 : Int32) + (p2 &&& (31 : Int32)))), .val (.int (f0_u1 p1 w_REFERENCE_NAMES)), .unset, .unset, .unset] [(.int p1), (.ref w_SHORT_TAGS)])) t → Steps p.tables e below (T16.setTop (mkF m 41 #[.val (.int p1), .val (.int p2), .val (.int ((62 : Int32) + (p2 &&& (31 : Int32)))), .val (.int ((94 : Int32) + (p2 &&& (31 : Int32)))), .val (.int (f0_u1 p1 w_REFERENCE_NAMES)), .unset, .unset, .unset] [(.ref w_SHORT_TAGS)])) t := by
    intro t k
    refine XS.iloadN X16.here hx rfl (hb hby at_41) rfl ?_
    show Steps p.tables e below (T16.setTop (mkF m 42 #[.val (.int p1), .val (.int p2), .val (.int ((62 : Int32) + (p2 &&& (31 : Int32)))), .val (.int ((94 : Int32) + (p2 &&& (31 : Int32)))), .val (.int (f0_u1 p1 w_REFERENCE_NAMES)), .unset, .unset, .unset] [(.int p1), (.ref w_SHORT_TAGS)])) t
    exact k
  obtain ⟨cq19, kq19, q19a, q19b, q19c⟩ := isOf hZ e16 E_w_SHORT_TAGS
  obtain ⟨_, _, ⟨T19, L19, k19, n19⟩, -, X19, ⟨Lc19, hQ19, l19, y19, z19⟩, st19⟩ := X16.virtualBack hx (y := (⟨"com/example/kirjatieto/kirjatieto/onix/TagForm", "initial", "(I)Z"⟩ : MethodName)) (z := (⟨"com/example/kirjatieto/kirjatieto/onix/TagForm", "initial", "(I)Z"⟩ : MethodName)) hown (mvT hZ (hw _ (List.mem_of_getElem? (i := 3) rfl))) (mvT hZ (hw _ (List.mem_of_getElem? (i := 4) rfl))) (notFace_of_selects (args := #[]) (mvT hZ (hw _ (List.mem_of_getElem? (i := 6) rfl)))) (mvT hZ (hw _ (List.mem_of_getElem? (i := 6) rfl))) (mvT hZ (hw _ (List.mem_of_getElem? (i := 5) rfl))) (by decide) (backOf (W := 0) (rm1 l Z a0 hw [] w_SHORT_TAGS p1 w_REFERENCE_NAMES h0 n0 Z0 S_REFERENCE_NAMES) hZ (hw _ (List.mem_of_getElem? (i := 7) rfl)) (hw _ (List.mem_of_getElem? (i := 1) rfl)) (by decide) (by decide)) q19a q19c (g := (mkF m 42 #[.val (.int p1), .val (.int p2), .val (.int ((62 : Int32) + (p2 &&& (31 : Int32)))), .val (.int ((94 : Int32) + (p2 &&& (31 : Int32)))), .val (.int (f0_u1 p1 w_REFERENCE_NAMES)), .unset, .unset, .unset] [(.int p1), (.ref w_SHORT_TAGS)])) rfl (by rw [hml]; rfl) (Steps.refl _) (argsL := [(.int p1)]) (rest := []) (lenOf pd_0 rfl) rfl (by show 2 * 0 + _ ≤ _; exact Nat.le_of_eq rfl) (hb hby at_42) (fun _ _ => ⟨rfl, e16, (by decide : 0 + 0 ≤ _), (by decide : 0 + 0 ≤ _)⟩)
  dsimp only [Pt.U, Pt.locs, Pt.cells, Pt.slots] at X19 l19 y19 z19 st19 hQ19
  subst l19 y19 z19
  obtain ⟨rfl, N19q, e19⟩ := hQ19
  have N19 := Fr.app N8 N19q
  have K20 : ∀ t, Steps p.tables e below (T19.setTop (mkF m 45 #[.val (.int p1), .val (.int p2), .val (.int ((62 : Int32) + (p2 &&& (31 : Int32)))), .val (.int ((94 : Int32) + (p2 &&& (31 : Int32)))), .val (.int (f0_u1 p1 w_REFERENCE_NAMES)), .unset, .unset, .unset] [(.int (f1 w_SHORT_TAGS p1 w_REFERENCE_NAMES))])) t → Steps p.tables e below (T16.setTop (mkF m 42 #[.val (.int p1), .val (.int p2), .val (.int ((62 : Int32) + (p2 &&& (31 : Int32)))), .val (.int ((94 : Int32) + (p2 &&& (31 : Int32)))), .val (.int (f0_u1 p1 w_REFERENCE_NAMES)), .unset, .unset, .unset] [(.int p1), (.ref w_SHORT_TAGS)])) t := fun t k => st19.trans k
  have K21 : ∀ t, Steps p.tables e below (T19.setTop (mkF m 47 #[.val (.int p1), .val (.int p2), .val (.int ((62 : Int32) + (p2 &&& (31 : Int32)))), .val (.int ((94 : Int32) + (p2 &&& (31 : Int32)))), .val (.int (f0_u1 p1 w_REFERENCE_NAMES)), .unset, .unset, .unset] [(.int p1), (.int (0 : Int32)), (.int (f1 w_SHORT_TAGS p1 w_REFERENCE_NAMES))])) t → Steps p.tables e below (T19.setTop (mkF m 45 #[.val (.int p1), .val (.int p2), .val (.int ((62 : Int32) + (p2 &&& (31 : Int32)))), .val (.int ((94 : Int32) + (p2 &&& (31 : Int32)))), .val (.int (f0_u1 p1 w_REFERENCE_NAMES)), .unset, .unset, .unset] [(.int (f1 w_SHORT_TAGS p1 w_REFERENCE_NAMES))])) t := by
    intro t k
    refine XS.iconst X19.here hx rfl (hb hby at_45) ?_
    show Steps p.tables e below (T19.setTop (mkF m 46 #[.val (.int p1), .val (.int p2), .val (.int ((62 : Int32) + (p2 &&& (31 : Int32)))), .val (.int ((94 : Int32) + (p2 &&& (31 : Int32)))), .val (.int (f0_u1 p1 w_REFERENCE_NAMES)), .unset, .unset, .unset] [(.int (0 : Int32)), (.int (f1 w_SHORT_TAGS p1 w_REFERENCE_NAMES))])) t
    refine XS.iloadN X19.here hx rfl (hb hby at_46) rfl ?_
    show Steps p.tables e below (T19.setTop (mkF m 47 #[.val (.int p1), .val (.int p2), .val (.int ((62 : Int32) + (p2 &&& (31 : Int32)))), .val (.int ((94 : Int32) + (p2 &&& (31 : Int32)))), .val (.int (f0_u1 p1 w_REFERENCE_NAMES)), .unset, .unset, .unset] [(.int p1), (.int (0 : Int32)), (.int (f1 w_SHORT_TAGS p1 w_REFERENCE_NAMES))])) t
    exact k
  obtain ⟨_, _, ⟨T22, L22, k22, n22⟩, -, X22, ⟨Lc22, hQ22, l22, y22, z22⟩, st22⟩ := Jvm.LawKit.callS X19 hx (y := (⟨"com/example/kirjatieto/kirjatieto/onix/TagFormInitialPinLaw", "expected", "(ZI)Z"⟩ : MethodName)) hown (mvT hZ (hw _ (List.mem_of_getElem? (i := 9) rfl))) (mvT hZ (hw _ (List.mem_of_getElem? (i := 10) rfl))) (mvT hZ (hw _ (List.mem_of_getElem? (i := 11) rfl))) (mvT hZ (hw _ (List.mem_of_getElem? (i := 12) rfl))) (by decide) (backOf (W := 1) (rm2 l Z a0 hw [] (0 : Int32) p1 h0 n0 Z0 ) hZ (hw _ (List.mem_of_getElem? (i := 12) rfl)) (hw _ (List.mem_of_getElem? (i := 11) rfl)) (by decide) (by decide)) (g := (mkF m 47 #[.val (.int p1), .val (.int p2), .val (.int ((62 : Int32) + (p2 &&& (31 : Int32)))), .val (.int ((94 : Int32) + (p2 &&& (31 : Int32)))), .val (.int (f0_u1 p1 w_REFERENCE_NAMES)), .unset, .unset, .unset] [(.int p1), (.int (0 : Int32)), (.int (f1 w_SHORT_TAGS p1 w_REFERENCE_NAMES))])) rfl (by rw [hml]; rfl) (argsL := [(.int (0 : Int32)), (.int p1)]) (rest := [(.int (f1 w_SHORT_TAGS p1 w_REFERENCE_NAMES))]) (lenOf pd_1 rfl) rfl (by show 2 * 0 + _ ≤ _; exact Nat.le_of_eq rfl) (hb hby at_47) (fun _ _ => ⟨rfl, e19, (by decide : 0 + 0 ≤ _), (by decide : 0 + 0 ≤ _)⟩)
  dsimp only [Pt.U, Pt.locs, Pt.cells, Pt.slots] at X22 l22 y22 z22 st22 hQ22
  subst l22 y22 z22
  obtain ⟨rfl, N22q, e22⟩ := hQ22
  have N22 := Fr.app N19 N22q
  have K23 : ∀ t, Steps p.tables e below (T22.setTop (mkF m 50 #[.val (.int p1), .val (.int p2), .val (.int ((62 : Int32) + (p2 &&& (31 : Int32)))), .val (.int ((94 : Int32) + (p2 &&& (31 : Int32)))), .val (.int (f0_u1 p1 w_REFERENCE_NAMES)), .unset, .unset, .unset] [(.int (f2 (0 : Int32) p1)), (.int (f1 w_SHORT_TAGS p1 w_REFERENCE_NAMES))])) t → Steps p.tables e below (T19.setTop (mkF m 47 #[.val (.int p1), .val (.int p2), .val (.int ((62 : Int32) + (p2 &&& (31 : Int32)))), .val (.int ((94 : Int32) + (p2 &&& (31 : Int32)))), .val (.int (f0_u1 p1 w_REFERENCE_NAMES)), .unset, .unset, .unset] [(.int p1), (.int (0 : Int32)), (.int (f1 w_SHORT_TAGS p1 w_REFERENCE_NAMES))])) t := fun t k => st22 _ k
  have K24 : ∀ t, Steps p.tables e below (T22.setTop (mkF m 58 #[.val (.int p1), .val (.int p2), .val (.int ((62 : Int32) + (p2 &&& (31 : Int32)))), .val (.int ((94 : Int32) + (p2 &&& (31 : Int32)))), .val (.int (f0_u1 p1 w_REFERENCE_NAMES)), .unset, .unset, .unset] [(.int (f0_u2 p1 w_REFERENCE_NAMES w_SHORT_TAGS))])) t → Steps p.tables e below (T22.setTop (mkF m 50 #[.val (.int p1), .val (.int p2), .val (.int ((62 : Int32) + (p2 &&& (31 : Int32)))), .val (.int ((94 : Int32) + (p2 &&& (31 : Int32)))), .val (.int (f0_u1 p1 w_REFERENCE_NAMES)), .unset, .unset, .unset] [(.int (f2 (0 : Int32) p1)), (.int (f1 w_SHORT_TAGS p1 w_REFERENCE_NAMES))])) t := by
    intro t k
    by_cases hc24 : (f1 w_SHORT_TAGS p1 w_REFERENCE_NAMES) = (f2 (0 : Int32) p1)
    · have K25 : ∀ t, Steps p.tables e below (T22.setTop (mkF m 53 #[.val (.int p1), .val (.int p2), .val (.int ((62 : Int32) + (p2 &&& (31 : Int32)))), .val (.int ((94 : Int32) + (p2 &&& (31 : Int32)))), .val (.int (f0_u1 p1 w_REFERENCE_NAMES)), .unset, .unset, .unset] [])) t → Steps p.tables e below (T22.setTop (mkF m 50 #[.val (.int p1), .val (.int p2), .val (.int ((62 : Int32) + (p2 &&& (31 : Int32)))), .val (.int ((94 : Int32) + (p2 &&& (31 : Int32)))), .val (.int (f0_u1 p1 w_REFERENCE_NAMES)), .unset, .unset, .unset] [(.int (f2 (0 : Int32) p1)), (.int (f1 w_SHORT_TAGS p1 w_REFERENCE_NAMES))])) t := by
        intro t k
        refine XS.icmpNo X22.here hx rfl (hb hby at_50) rfl (teq hc24).2 ?_
        exact k
      have K26 : ∀ t, Steps p.tables e below (T22.setTop (mkF m 58 #[.val (.int p1), .val (.int p2), .val (.int ((62 : Int32) + (p2 &&& (31 : Int32)))), .val (.int ((94 : Int32) + (p2 &&& (31 : Int32)))), .val (.int (f0_u1 p1 w_REFERENCE_NAMES)), .unset, .unset, .unset] [(.int (1 : Int32))])) t → Steps p.tables e below (T22.setTop (mkF m 53 #[.val (.int p1), .val (.int p2), .val (.int ((62 : Int32) + (p2 &&& (31 : Int32)))), .val (.int ((94 : Int32) + (p2 &&& (31 : Int32)))), .val (.int (f0_u1 p1 w_REFERENCE_NAMES)), .unset, .unset, .unset] [])) t := by
        intro t k
        refine XS.iconst X22.here hx rfl (hb hby at_53) ?_
        show Steps p.tables e below (T22.setTop (mkF m 54 #[.val (.int p1), .val (.int p2), .val (.int ((62 : Int32) + (p2 &&& (31 : Int32)))), .val (.int ((94 : Int32) + (p2 &&& (31 : Int32)))), .val (.int (f0_u1 p1 w_REFERENCE_NAMES)), .unset, .unset, .unset] [(.int (1 : Int32))])) t
        refine XS.goto X22.here hx rfl (pc0 := 54) (pc' := 58) rfl (hb hby at_54) (by decide) (by decide) ?_
        show Steps p.tables e below (T22.setTop (mkF m 58 #[.val (.int p1), .val (.int p2), .val (.int ((62 : Int32) + (p2 &&& (31 : Int32)))), .val (.int ((94 : Int32) + (p2 &&& (31 : Int32)))), .val (.int (f0_u1 p1 w_REFERENCE_NAMES)), .unset, .unset, .unset] [(.int (1 : Int32))])) t
        exact k
      rw [show (f0_u2 p1 w_REFERENCE_NAMES w_SHORT_TAGS) = (1 : Int32) from if_pos hc24] at k
      exact K25 _ (K26 _ (k))
    · have K27 : ∀ t, Steps p.tables e below (T22.setTop (mkF m 57 #[.val (.int p1), .val (.int p2), .val (.int ((62 : Int32) + (p2 &&& (31 : Int32)))), .val (.int ((94 : Int32) + (p2 &&& (31 : Int32)))), .val (.int (f0_u1 p1 w_REFERENCE_NAMES)), .unset, .unset, .unset] [])) t → Steps p.tables e below (T22.setTop (mkF m 50 #[.val (.int p1), .val (.int p2), .val (.int ((62 : Int32) + (p2 &&& (31 : Int32)))), .val (.int ((94 : Int32) + (p2 &&& (31 : Int32)))), .val (.int (f0_u1 p1 w_REFERENCE_NAMES)), .unset, .unset, .unset] [(.int (f2 (0 : Int32) p1)), (.int (f1 w_SHORT_TAGS p1 w_REFERENCE_NAMES))])) t := by
        intro t k
        refine XS.icmpYes X22.here hx rfl (pc0 := 50) (pc' := 57) rfl (hb hby at_50) rfl (feq hc24).2 (by decide) (by decide) ?_
        exact k
      have K28 : ∀ t, Steps p.tables e below (T22.setTop (mkF m 58 #[.val (.int p1), .val (.int p2), .val (.int ((62 : Int32) + (p2 &&& (31 : Int32)))), .val (.int ((94 : Int32) + (p2 &&& (31 : Int32)))), .val (.int (f0_u1 p1 w_REFERENCE_NAMES)), .unset, .unset, .unset] [(.int (0 : Int32))])) t → Steps p.tables e below (T22.setTop (mkF m 57 #[.val (.int p1), .val (.int p2), .val (.int ((62 : Int32) + (p2 &&& (31 : Int32)))), .val (.int ((94 : Int32) + (p2 &&& (31 : Int32)))), .val (.int (f0_u1 p1 w_REFERENCE_NAMES)), .unset, .unset, .unset] [])) t := by
        intro t k
        refine XS.iconst X22.here hx rfl (hb hby at_57) ?_
        show Steps p.tables e below (T22.setTop (mkF m 58 #[.val (.int p1), .val (.int p2), .val (.int ((62 : Int32) + (p2 &&& (31 : Int32)))), .val (.int ((94 : Int32) + (p2 &&& (31 : Int32)))), .val (.int (f0_u1 p1 w_REFERENCE_NAMES)), .unset, .unset, .unset] [(.int (0 : Int32))])) t
        exact k
      rw [show (f0_u2 p1 w_REFERENCE_NAMES w_SHORT_TAGS) = (0 : Int32) from if_neg hc24] at k
      exact K27 _ (K28 _ (k))
  have K29 : ∀ t, Steps p.tables e below (T22.setTop (mkF m 60 #[.val (.int p1), .val (.int p2), .val (.int ((62 : Int32) + (p2 &&& (31 : Int32)))), .val (.int ((94 : Int32) + (p2 &&& (31 : Int32)))), .val (.int (f0_u1 p1 w_REFERENCE_NAMES)), .val (.int (f0_u2 p1 w_REFERENCE_NAMES w_SHORT_TAGS)), .unset, .unset] [])) t → Steps p.tables e below (T22.setTop (mkF m 58 #[.val (.int p1), .val (.int p2), .val (.int ((62 : Int32) + (p2 &&& (31 : Int32)))), .val (.int ((94 : Int32) + (p2 &&& (31 : Int32)))), .val (.int (f0_u1 p1 w_REFERENCE_NAMES)), .unset, .unset, .unset] [(.int (f0_u2 p1 w_REFERENCE_NAMES w_SHORT_TAGS))])) t := by
    intro t k
    refine XS.istore X22.here hx rfl (hb hby at_58) rfl (l' := #[.val (.int p1), .val (.int p2), .val (.int ((62 : Int32) + (p2 &&& (31 : Int32)))), .val (.int ((94 : Int32) + (p2 &&& (31 : Int32)))), .val (.int (f0_u1 p1 w_REFERENCE_NAMES)), .val (.int (f0_u2 p1 w_REFERENCE_NAMES w_SHORT_TAGS)), .unset, .unset]) rfl ?_
    show Steps p.tables e below (T22.setTop (mkF m 60 #[.val (.int p1), .val (.int p2), .val (.int ((62 : Int32) + (p2 &&& (31 : Int32)))), .val (.int ((94 : Int32) + (p2 &&& (31 : Int32)))), .val (.int (f0_u1 p1 w_REFERENCE_NAMES)), .val (.int (f0_u2 p1 w_REFERENCE_NAMES w_SHORT_TAGS)), .unset, .unset] [])) t
    exact k
  obtain ⟨T30, X30, e30, st30⟩ := getS2 X22 hx hZ hown (host := "") (Or.inl (hw _ (List.mem_of_getElem? (i := 0) rfl))) Via.refl e22 S_REFERENCE_NAMES (g := (mkF m 60 #[.val (.int p1), .val (.int p2), .val (.int ((62 : Int32) + (p2 &&& (31 : Int32)))), .val (.int ((94 : Int32) + (p2 &&& (31 : Int32)))), .val (.int (f0_u1 p1 w_REFERENCE_NAMES)), .val (.int (f0_u2 p1 w_REFERENCE_NAMES w_SHORT_TAGS)), .unset, .unset] [])) rfl (hb hby at_60)
  have K31 : ∀ t, Steps p.tables e below (T30.setTop (mkF m 63 #[.val (.int p1), .val (.int p2), .val (.int ((62 : Int32) + (p2 &&& (31 : Int32)))), .val (.int ((94 : Int32) + (p2 &&& (31 : Int32)))), .val (.int (f0_u1 p1 w_REFERENCE_NAMES)), .val (.int (f0_u2 p1 w_REFERENCE_NAMES w_SHORT_TAGS)), .unset, .unset] [(.ref w_REFERENCE_NAMES)])) t → Steps p.tables e below (T22.setTop (mkF m 60 #[.val (.int p1), .val (.int p2), .val (.int ((62 : Int32) + (p2 &&& (31 : Int32)))), .val (.int ((94 : Int32) + (p2 &&& (31 : Int32)))), .val (.int (f0_u1 p1 w_REFERENCE_NAMES)), .val (.int (f0_u2 p1 w_REFERENCE_NAMES w_SHORT_TAGS)), .unset, .unset] [])) t := fun t k => st30 _ k
  have K32 : ∀ t, Steps p.tables e below (T30.setTop (mkF m 64 #[.val (.int p1), .val (.int p2), .val (.int ((62 : Int32) + (p2 &&& (31 : Int32)))), .val (.int ((94 : Int32) + (p2 &&& (31 : Int32)))), .val (.int (f0_u1 p1 w_REFERENCE_NAMES)), .val (.int (f0_u2 p1 w_REFERENCE_NAMES w_SHORT_TAGS)), .unset, .unset] [(.int ((62 : Int32) + (p2 &&& (31 : Int32)))), (.ref w_REFERENCE_NAMES)])) t → Steps p.tables e below (T30.setTop (mkF m 63 #[.val (.int p1), .val (.int p2), .val (.int ((62 : Int32) + (p2 &&& (31 : Int32)))), .val (.int ((94 : Int32) + (p2 &&& (31 : Int32)))), .val (.int (f0_u1 p1 w_REFERENCE_NAMES)), .val (.int (f0_u2 p1 w_REFERENCE_NAMES w_SHORT_TAGS)), .unset, .unset] [(.ref w_REFERENCE_NAMES)])) t := by
    intro t k
    refine XS.iloadN X30.here hx rfl (hb hby at_63) rfl ?_
    show Steps p.tables e below (T30.setTop (mkF m 64 #[.val (.int p1), .val (.int p2), .val (.int ((62 : Int32) + (p2 &&& (31 : Int32)))), .val (.int ((94 : Int32) + (p2 &&& (31 : Int32)))), .val (.int (f0_u1 p1 w_REFERENCE_NAMES)), .val (.int (f0_u2 p1 w_REFERENCE_NAMES w_SHORT_TAGS)), .unset, .unset] [(.int ((62 : Int32) + (p2 &&& (31 : Int32)))), (.ref w_REFERENCE_NAMES)])) t
    exact k
  obtain ⟨cq33, kq33, q33a, q33b, q33c⟩ := isOf hZ e30 E_w_REFERENCE_NAMES
  obtain ⟨_, _, ⟨T33, L33, k33, n33⟩, -, X33, ⟨Lc33, hQ33, l33, y33, z33⟩, st33⟩ := X30.virtualBack hx (y := (⟨"com/example/kirjatieto/kirjatieto/onix/TagForm", "initial", "(I)Z"⟩ : MethodName)) (z := (⟨"com/example/kirjatieto/kirjatieto/onix/TagForm", "initial", "(I)Z"⟩ : MethodName)) hown (mvT hZ (hw _ (List.mem_of_getElem? (i := 3) rfl))) (mvT hZ (hw _ (List.mem_of_getElem? (i := 4) rfl))) (notFace_of_selects (args := #[]) (mvT hZ (hw _ (List.mem_of_getElem? (i := 6) rfl)))) (mvT hZ (hw _ (List.mem_of_getElem? (i := 6) rfl))) (mvT hZ (hw _ (List.mem_of_getElem? (i := 5) rfl))) (by decide) (backOf (W := 0) (rm1 l Z a0 hw [] w_REFERENCE_NAMES ((62 : Int32) + (p2 &&& (31 : Int32))) w_REFERENCE_NAMES h0 n0 Z0 S_REFERENCE_NAMES) hZ (hw _ (List.mem_of_getElem? (i := 7) rfl)) (hw _ (List.mem_of_getElem? (i := 1) rfl)) (by decide) (by decide)) q33a q33c (g := (mkF m 64 #[.val (.int p1), .val (.int p2), .val (.int ((62 : Int32) + (p2 &&& (31 : Int32)))), .val (.int ((94 : Int32) + (p2 &&& (31 : Int32)))), .val (.int (f0_u1 p1 w_REFERENCE_NAMES)), .val (.int (f0_u2 p1 w_REFERENCE_NAMES w_SHORT_TAGS)), .unset, .unset] [(.int ((62 : Int32) + (p2 &&& (31 : Int32)))), (.ref w_REFERENCE_NAMES)])) rfl (by rw [hml]; rfl) (Steps.refl _) (argsL := [(.int ((62 : Int32) + (p2 &&& (31 : Int32))))]) (rest := []) (lenOf pd_0 rfl) rfl (by show 2 * 0 + _ ≤ _; exact Nat.le_of_eq rfl) (hb hby at_64) (fun _ _ => ⟨rfl, e30, (by decide : 0 + 0 ≤ _), (by decide : 0 + 0 ≤ _)⟩)
  dsimp only [Pt.U, Pt.locs, Pt.cells, Pt.slots] at X33 l33 y33 z33 st33 hQ33
  subst l33 y33 z33
  obtain ⟨rfl, N33q, e33⟩ := hQ33
  have N33 := Fr.app N22 N33q
  have K34 : ∀ t, Steps p.tables e below (T33.setTop (mkF m 67 #[.val (.int p1), .val (.int p2), .val (.int ((62 : Int32) + (p2 &&& (31 : Int32)))), .val (.int ((94 : Int32) + (p2 &&& (31 : Int32)))), .val (.int (f0_u1 p1 w_REFERENCE_NAMES)), .val (.int (f0_u2 p1 w_REFERENCE_NAMES w_SHORT_TAGS)), .unset, .unset] [(.int (f1 w_REFERENCE_NAMES ((62 : Int32) + (p2 &&& (31 : Int32))) w_REFERENCE_NAMES))])) t → Steps p.tables e below (T30.setTop (mkF m 64 #[.val (.int p1), .val (.int p2), .val (.int ((62 : Int32) + (p2 &&& (31 : Int32)))), .val (.int ((94 : Int32) + (p2 &&& (31 : Int32)))), .val (.int (f0_u1 p1 w_REFERENCE_NAMES)), .val (.int (f0_u2 p1 w_REFERENCE_NAMES w_SHORT_TAGS)), .unset, .unset] [(.int ((62 : Int32) + (p2 &&& (31 : Int32)))), (.ref w_REFERENCE_NAMES)])) t := fun t k => st33.trans k
  have K35 : ∀ t, Steps p.tables e below (T33.setTop (mkF m 69 #[.val (.int p1), .val (.int p2), .val (.int ((62 : Int32) + (p2 &&& (31 : Int32)))), .val (.int ((94 : Int32) + (p2 &&& (31 : Int32)))), .val (.int (f0_u1 p1 w_REFERENCE_NAMES)), .val (.int (f0_u2 p1 w_REFERENCE_NAMES w_SHORT_TAGS)), .unset, .unset] [(.int ((62 : Int32) + (p2 &&& (31 : Int32)))), (.int (1 : Int32)), (.int (f1 w_REFERENCE_NAMES ((62 : Int32) + (p2 &&& (31 : Int32))) w_REFERENCE_NAMES))])) t → Steps p.tables e below (T33.setTop (mkF m 67 #[.val (.int p1), .val (.int p2), .val (.int ((62 : Int32) + (p2 &&& (31 : Int32)))), .val (.int ((94 : Int32) + (p2 &&& (31 : Int32)))), .val (.int (f0_u1 p1 w_REFERENCE_NAMES)), .val (.int (f0_u2 p1 w_REFERENCE_NAMES w_SHORT_TAGS)), .unset, .unset] [(.int (f1 w_REFERENCE_NAMES ((62 : Int32) + (p2 &&& (31 : Int32))) w_REFERENCE_NAMES))])) t := by
    intro t k
    refine XS.iconst X33.here hx rfl (hb hby at_67) ?_
    show Steps p.tables e below (T33.setTop (mkF m 68 #[.val (.int p1), .val (.int p2), .val (.int ((62 : Int32) + (p2 &&& (31 : Int32)))), .val (.int ((94 : Int32) + (p2 &&& (31 : Int32)))), .val (.int (f0_u1 p1 w_REFERENCE_NAMES)), .val (.int (f0_u2 p1 w_REFERENCE_NAMES w_SHORT_TAGS)), .unset, .unset] [(.int (1 : Int32)), (.int (f1 w_REFERENCE_NAMES ((62 : Int32) + (p2 &&& (31 : Int32))) w_REFERENCE_NAMES))])) t
    refine XS.iloadN X33.here hx rfl (hb hby at_68) rfl ?_
    show Steps p.tables e below (T33.setTop (mkF m 69 #[.val (.int p1), .val (.int p2), .val (.int ((62 : Int32) + (p2 &&& (31 : Int32)))), .val (.int ((94 : Int32) + (p2 &&& (31 : Int32)))), .val (.int (f0_u1 p1 w_REFERENCE_NAMES)), .val (.int (f0_u2 p1 w_REFERENCE_NAMES w_SHORT_TAGS)), .unset, .unset] [(.int ((62 : Int32) + (p2 &&& (31 : Int32)))), (.int (1 : Int32)), (.int (f1 w_REFERENCE_NAMES ((62 : Int32) + (p2 &&& (31 : Int32))) w_REFERENCE_NAMES))])) t
    exact k
  obtain ⟨_, _, ⟨T36, L36, k36, n36⟩, -, X36, ⟨Lc36, hQ36, l36, y36, z36⟩, st36⟩ := Jvm.LawKit.callS X33 hx (y := (⟨"com/example/kirjatieto/kirjatieto/onix/TagFormInitialPinLaw", "expected", "(ZI)Z"⟩ : MethodName)) hown (mvT hZ (hw _ (List.mem_of_getElem? (i := 9) rfl))) (mvT hZ (hw _ (List.mem_of_getElem? (i := 10) rfl))) (mvT hZ (hw _ (List.mem_of_getElem? (i := 11) rfl))) (mvT hZ (hw _ (List.mem_of_getElem? (i := 12) rfl))) (by decide) (backOf (W := 1) (rm2 l Z a0 hw [] (1 : Int32) ((62 : Int32) + (p2 &&& (31 : Int32))) h0 n0 Z0 ) hZ (hw _ (List.mem_of_getElem? (i := 12) rfl)) (hw _ (List.mem_of_getElem? (i := 11) rfl)) (by decide) (by decide)) (g := (mkF m 69 #[.val (.int p1), .val (.int p2), .val (.int ((62 : Int32) + (p2 &&& (31 : Int32)))), .val (.int ((94 : Int32) + (p2 &&& (31 : Int32)))), .val (.int (f0_u1 p1 w_REFERENCE_NAMES)), .val (.int (f0_u2 p1 w_REFERENCE_NAMES w_SHORT_TAGS)), .unset, .unset] [(.int ((62 : Int32) + (p2 &&& (31 : Int32)))), (.int (1 : Int32)), (.int (f1 w_REFERENCE_NAMES ((62 : Int32) + (p2 &&& (31 : Int32))) w_REFERENCE_NAMES))])) rfl (by rw [hml]; rfl) (argsL := [(.int (1 : Int32)), (.int ((62 : Int32) + (p2 &&& (31 : Int32))))]) (rest := [(.int (f1 w_REFERENCE_NAMES ((62 : Int32) + (p2 &&& (31 : Int32))) w_REFERENCE_NAMES))]) (lenOf pd_1 rfl) rfl (by show 2 * 0 + _ ≤ _; exact Nat.le_of_eq rfl) (hb hby at_69) (fun _ _ => ⟨rfl, e33, (by decide : 0 + 0 ≤ _), (by decide : 0 + 0 ≤ _)⟩)
  dsimp only [Pt.U, Pt.locs, Pt.cells, Pt.slots] at X36 l36 y36 z36 st36 hQ36
  subst l36 y36 z36
  obtain ⟨rfl, N36q, e36⟩ := hQ36
  have N36 := Fr.app N33 N36q
  have K37 : ∀ t, Steps p.tables e below (T36.setTop (mkF m 72 #[.val (.int p1), .val (.int p2), .val (.int ((62 : Int32) + (p2 &&& (31 : Int32)))), .val (.int ((94 : Int32) + (p2 &&& (31 : Int32)))), .val (.int (f0_u1 p1 w_REFERENCE_NAMES)), .val (.int (f0_u2 p1 w_REFERENCE_NAMES w_SHORT_TAGS)), .unset, .unset] [(.int (f2 (1 : Int32) ((62 : Int32) + (p2 &&& (31 : Int32))))), (.int (f1 w_REFERENCE_NAMES ((62 : Int32) + (p2 &&& (31 : Int32))) w_REFERENCE_NAMES))])) t → Steps p.tables e below (T33.setTop (mkF m 69 #[.val (.int p1), .val (.int p2), .val (.int ((62 : Int32) + (p2 &&& (31 : Int32)))), .val (.int ((94 : Int32) + (p2 &&& (31 : Int32)))), .val (.int (f0_u1 p1 w_REFERENCE_NAMES)), .val (.int (f0_u2 p1 w_REFERENCE_NAMES w_SHORT_TAGS)), .unset, .unset] [(.int ((62 : Int32) + (p2 &&& (31 : Int32)))), (.int (1 : Int32)), (.int (f1 w_REFERENCE_NAMES ((62 : Int32) + (p2 &&& (31 : Int32))) w_REFERENCE_NAMES))])) t := fun t k => st36 _ k
  have K38 : ∀ t, Steps p.tables e below (T36.setTop (mkF m 80 #[.val (.int p1), .val (.int p2), .val (.int ((62 : Int32) + (p2 &&& (31 : Int32)))), .val (.int ((94 : Int32) + (p2 &&& (31 : Int32)))), .val (.int (f0_u1 p1 w_REFERENCE_NAMES)), .val (.int (f0_u2 p1 w_REFERENCE_NAMES w_SHORT_TAGS)), .unset, .unset] [(.int (f0_u3 p2 w_REFERENCE_NAMES))])) t → Steps p.tables e below (T36.setTop (mkF m 72 #[.val (.int p1), .val (.int p2), .val (.int ((62 : Int32) + (p2 &&& (31 : Int32)))), .val (.int ((94 : Int32) + (p2 &&& (31 : Int32)))), .val (.int (f0_u1 p1 w_REFERENCE_NAMES)), .val (.int (f0_u2 p1 w_REFERENCE_NAMES w_SHORT_TAGS)), .unset, .unset] [(.int (f2 (1 : Int32) ((62 : Int32) + (p2 &&& (31 : Int32))))), (.int (f1 w_REFERENCE_NAMES ((62 : Int32) + (p2 &&& (31 : Int32))) w_REFERENCE_NAMES))])) t := by
    intro t k
    by_cases hc38 : (f1 w_REFERENCE_NAMES ((62 : Int32) + (p2 &&& (31 : Int32))) w_REFERENCE_NAMES) = (f2 (1 : Int32) ((62 : Int32) + (p2 &&& (31 : Int32))))
    · have K39 : ∀ t, Steps p.tables e below (T36.setTop (mkF m 75 #[.val (.int p1), .val (.int p2), .val (.int ((62 : Int32) + (p2 &&& (31 : Int32)))), .val (.int ((94 : Int32) + (p2 &&& (31 : Int32)))), .val (.int (f0_u1 p1 w_REFERENCE_NAMES)), .val (.int (f0_u2 p1 w_REFERENCE_NAMES w_SHORT_TAGS)), .unset, .unset] [])) t → Steps p.tables e below (T36.setTop (mkF m 72 #[.val (.int p1), .val (.int p2), .val (.int ((62 : Int32) + (p2 &&& (31 : Int32)))), .val (.int ((94 : Int32) + (p2 &&& (31 : Int32)))), .val (.int (f0_u1 p1 w_REFERENCE_NAMES)), .val (.int (f0_u2 p1 w_REFERENCE_NAMES w_SHORT_TAGS)), .unset, .unset] [(.int (f2 (1 : Int32) ((62 : Int32) + (p2 &&& (31 : Int32))))), (.int (f1 w_REFERENCE_NAMES ((62 : Int32) + (p2 &&& (31 : Int32))) w_REFERENCE_NAMES))])) t := by
        intro t k
        refine XS.icmpNo X36.here hx rfl (hb hby at_72) rfl (teq hc38).2 ?_
        exact k
      have K40 : ∀ t, Steps p.tables e below (T36.setTop (mkF m 80 #[.val (.int p1), .val (.int p2), .val (.int ((62 : Int32) + (p2 &&& (31 : Int32)))), .val (.int ((94 : Int32) + (p2 &&& (31 : Int32)))), .val (.int (f0_u1 p1 w_REFERENCE_NAMES)), .val (.int (f0_u2 p1 w_REFERENCE_NAMES w_SHORT_TAGS)), .unset, .unset] [(.int (1 : Int32))])) t → Steps p.tables e below (T36.setTop (mkF m 75 #[.val (.int p1), .val (.int p2), .val (.int ((62 : Int32) + (p2 &&& (31 : Int32)))), .val (.int ((94 : Int32) + (p2 &&& (31 : Int32)))), .val (.int (f0_u1 p1 w_REFERENCE_NAMES)), .val (.int (f0_u2 p1 w_REFERENCE_NAMES w_SHORT_TAGS)), .unset, .unset] [])) t := by
        intro t k
        refine XS.iconst X36.here hx rfl (hb hby at_75) ?_
        show Steps p.tables e below (T36.setTop (mkF m 76 #[.val (.int p1), .val (.int p2), .val (.int ((62 : Int32) + (p2 &&& (31 : Int32)))), .val (.int ((94 : Int32) + (p2 &&& (31 : Int32)))), .val (.int (f0_u1 p1 w_REFERENCE_NAMES)), .val (.int (f0_u2 p1 w_REFERENCE_NAMES w_SHORT_TAGS)), .unset, .unset] [(.int (1 : Int32))])) t
        refine XS.goto X36.here hx rfl (pc0 := 76) (pc' := 80) rfl (hb hby at_76) (by decide) (by decide) ?_
        show Steps p.tables e below (T36.setTop (mkF m 80 #[.val (.int p1), .val (.int p2), .val (.int ((62 : Int32) + (p2 &&& (31 : Int32)))), .val (.int ((94 : Int32) + (p2 &&& (31 : Int32)))), .val (.int (f0_u1 p1 w_REFERENCE_NAMES)), .val (.int (f0_u2 p1 w_REFERENCE_NAMES w_SHORT_TAGS)), .unset, .unset] [(.int (1 : Int32))])) t
        exact k
      rw [show (f0_u3 p2 w_REFERENCE_NAMES) = (1 : Int32) from if_pos hc38] at k
      exact K39 _ (K40 _ (k))
    · have K41 : ∀ t, Steps p.tables e below (T36.setTop (mkF m 79 #[.val (.int p1), .val (.int p2), .val (.int ((62 : Int32) + (p2 &&& (31 : Int32)))), .val (.int ((94 : Int32) + (p2 &&& (31 : Int32)))), .val (.int (f0_u1 p1 w_REFERENCE_NAMES)), .val (.int (f0_u2 p1 w_REFERENCE_NAMES w_SHORT_TAGS)), .unset, .unset] [])) t → Steps p.tables e below (T36.setTop (mkF m 72 #[.val (.int p1), .val (.int p2), .val (.int ((62 : Int32) + (p2 &&& (31 : Int32)))), .val (.int ((94 : Int32) + (p2 &&& (31 : Int32)))), .val (.int (f0_u1 p1 w_REFERENCE_NAMES)), .val (.int (f0_u2 p1 w_REFERENCE_NAMES w_SHORT_TAGS)), .unset, .unset] [(.int (f2 (1 : Int32) ((62 : Int32) + (p2 &&& (31 : Int32))))), (.int (f1 w_REFERENCE_NAMES ((62 : Int32) + (p2 &&& (31 : Int32))) w_REFERENCE_NAMES))])) t := by
        intro t k
        refine XS.icmpYes X36.here hx rfl (pc0 := 72) (pc' := 79) rfl (hb hby at_72) rfl (feq hc38).2 (by decide) (by decide) ?_
        exact k
      have K42 : ∀ t, Steps p.tables e below (T36.setTop (mkF m 80 #[.val (.int p1), .val (.int p2), .val (.int ((62 : Int32) + (p2 &&& (31 : Int32)))), .val (.int ((94 : Int32) + (p2 &&& (31 : Int32)))), .val (.int (f0_u1 p1 w_REFERENCE_NAMES)), .val (.int (f0_u2 p1 w_REFERENCE_NAMES w_SHORT_TAGS)), .unset, .unset] [(.int (0 : Int32))])) t → Steps p.tables e below (T36.setTop (mkF m 79 #[.val (.int p1), .val (.int p2), .val (.int ((62 : Int32) + (p2 &&& (31 : Int32)))), .val (.int ((94 : Int32) + (p2 &&& (31 : Int32)))), .val (.int (f0_u1 p1 w_REFERENCE_NAMES)), .val (.int (f0_u2 p1 w_REFERENCE_NAMES w_SHORT_TAGS)), .unset, .unset] [])) t := by
        intro t k
        refine XS.iconst X36.here hx rfl (hb hby at_79) ?_
        show Steps p.tables e below (T36.setTop (mkF m 80 #[.val (.int p1), .val (.int p2), .val (.int ((62 : Int32) + (p2 &&& (31 : Int32)))), .val (.int ((94 : Int32) + (p2 &&& (31 : Int32)))), .val (.int (f0_u1 p1 w_REFERENCE_NAMES)), .val (.int (f0_u2 p1 w_REFERENCE_NAMES w_SHORT_TAGS)), .unset, .unset] [(.int (0 : Int32))])) t
        exact k
      rw [show (f0_u3 p2 w_REFERENCE_NAMES) = (0 : Int32) from if_neg hc38] at k
      exact K41 _ (K42 _ (k))
  have K43 : ∀ t, Steps p.tables e below (T36.setTop (mkF m 82 #[.val (.int p1), .val (.int p2), .val (.int ((62 : Int32) + (p2 &&& (31 : Int32)))), .val (.int ((94 : Int32) + (p2 &&& (31 : Int32)))), .val (.int (f0_u1 p1 w_REFERENCE_NAMES)), .val (.int (f0_u2 p1 w_REFERENCE_NAMES w_SHORT_TAGS)), .val (.int (f0_u3 p2 w_REFERENCE_NAMES)), .unset] [])) t → Steps p.tables e below (T36.setTop (mkF m 80 #[.val (.int p1), .val (.int p2), .val (.int ((62 : Int32) + (p2 &&& (31 : Int32)))), .val (.int ((94 : Int32) + (p2 &&& (31 : Int32)))), .val (.int (f0_u1 p1 w_REFERENCE_NAMES)), .val (.int (f0_u2 p1 w_REFERENCE_NAMES w_SHORT_TAGS)), .unset, .unset] [(.int (f0_u3 p2 w_REFERENCE_NAMES))])) t := by
    intro t k
    refine XS.istore X36.here hx rfl (hb hby at_80) rfl (l' := #[.val (.int p1), .val (.int p2), .val (.int ((62 : Int32) + (p2 &&& (31 : Int32)))), .val (.int ((94 : Int32) + (p2 &&& (31 : Int32)))), .val (.int (f0_u1 p1 w_REFERENCE_NAMES)), .val (.int (f0_u2 p1 w_REFERENCE_NAMES w_SHORT_TAGS)), .val (.int (f0_u3 p2 w_REFERENCE_NAMES)), .unset]) rfl ?_
    show Steps p.tables e below (T36.setTop (mkF m 82 #[.val (.int p1), .val (.int p2), .val (.int ((62 : Int32) + (p2 &&& (31 : Int32)))), .val (.int ((94 : Int32) + (p2 &&& (31 : Int32)))), .val (.int (f0_u1 p1 w_REFERENCE_NAMES)), .val (.int (f0_u2 p1 w_REFERENCE_NAMES w_SHORT_TAGS)), .val (.int (f0_u3 p2 w_REFERENCE_NAMES)), .unset] [])) t
    exact k
  obtain ⟨T44, X44, e44, st44⟩ := getS2 X36 hx hZ hown (host := "") (Or.inl (hw _ (List.mem_of_getElem? (i := 14) rfl))) Via.refl e36 S_SHORT_TAGS (g := (mkF m 82 #[.val (.int p1), .val (.int p2), .val (.int ((62 : Int32) + (p2 &&& (31 : Int32)))), .val (.int ((94 : Int32) + (p2 &&& (31 : Int32)))), .val (.int (f0_u1 p1 w_REFERENCE_NAMES)), .val (.int (f0_u2 p1 w_REFERENCE_NAMES w_SHORT_TAGS)), .val (.int (f0_u3 p2 w_REFERENCE_NAMES)), .unset] [])) rfl (hb hby at_82)
  have K45 : ∀ t, Steps p.tables e below (T44.setTop (mkF m 85 #[.val (.int p1), .val (.int p2), .val (.int ((62 : Int32) + (p2 &&& (31 : Int32)))), .val (.int ((94 : Int32) + (p2 &&& (31 : Int32)))), .val (.int (f0_u1 p1 w_REFERENCE_NAMES)), .val (.int (f0_u2 p1 w_REFERENCE_NAMES w_SHORT_TAGS)), .val (.int (f0_u3 p2 w_REFERENCE_NAMES)), .unset] [(.ref w_SHORT_TAGS)])) t → Steps p.tables e below (T36.setTop (mkF m 82 #[.val (.int p1), .val (.int p2), .val (.int ((62 : Int32) + (p2 &&& (31 : Int32)))), .val (.int ((94 : Int32) + (p2 &&& (31 : Int32)))), .val (.int (f0_u1 p1 w_REFERENCE_NAMES)), .val (.int (f0_u2 p1 w_REFERENCE_NAMES w_SHORT_TAGS)), .val (.int (f0_u3 p2 w_REFERENCE_NAMES)), .unset] [])) t := fun t k => st44 _ k
  have K46 : ∀ t, Steps p.tables e below (T44.setTop (mkF m 86 #[.val (.int p1), .val (.int p2), .val (.int ((62 : Int32) + (p2 &&& (31 : Int32)))), .val (.int ((94 : Int32) + (p2 &&& (31 : Int32)))), .val (.int (f0_u1 p1 w_REFERENCE_NAMES)), .val (.int (f0_u2 p1 w_REFERENCE_NAMES w_SHORT_TAGS)), .val (.int (f0_u3 p2 w_REFERENCE_NAMES)), .unset] [(.int ((94 : Int32) + (p2 &&& (31 : Int32)))), (.ref w_SHORT_TAGS)])) t → Steps p.tables e below (T44.setTop (mkF m 85 #[.val (.int p1), .val (.int p2), .val (.int ((62 : Int32) + (p2 &&& (31 : Int32)))), .val (.int ((94 : Int32) + (p2 &&& (31 : Int32)))), .val (.int (f0_u1 p1 w_REFERENCE_NAMES)), .val (.int (f0_u2 p1 w_REFERENCE_NAMES w_SHORT_TAGS)), .val (.int (f0_u3 p2 w_REFERENCE_NAMES)), .unset] [(.ref w_SHORT_TAGS)])) t := by
    intro t k
    refine XS.iloadN X44.here hx rfl (hb hby at_85) rfl ?_
    show Steps p.tables e below (T44.setTop (mkF m 86 #[.val (.int p1), .val (.int p2), .val (.int ((62 : Int32) + (p2 &&& (31 : Int32)))), .val (.int ((94 : Int32) + (p2 &&& (31 : Int32)))), .val (.int (f0_u1 p1 w_REFERENCE_NAMES)), .val (.int (f0_u2 p1 w_REFERENCE_NAMES w_SHORT_TAGS)), .val (.int (f0_u3 p2 w_REFERENCE_NAMES)), .unset] [(.int ((94 : Int32) + (p2 &&& (31 : Int32)))), (.ref w_SHORT_TAGS)])) t
    exact k
  obtain ⟨cq47, kq47, q47a, q47b, q47c⟩ := isOf hZ e44 E_w_SHORT_TAGS
  obtain ⟨_, _, ⟨T47, L47, k47, n47⟩, -, X47, ⟨Lc47, hQ47, l47, y47, z47⟩, st47⟩ := X44.virtualBack hx (y := (⟨"com/example/kirjatieto/kirjatieto/onix/TagForm", "initial", "(I)Z"⟩ : MethodName)) (z := (⟨"com/example/kirjatieto/kirjatieto/onix/TagForm", "initial", "(I)Z"⟩ : MethodName)) hown (mvT hZ (hw _ (List.mem_of_getElem? (i := 3) rfl))) (mvT hZ (hw _ (List.mem_of_getElem? (i := 4) rfl))) (notFace_of_selects (args := #[]) (mvT hZ (hw _ (List.mem_of_getElem? (i := 6) rfl)))) (mvT hZ (hw _ (List.mem_of_getElem? (i := 6) rfl))) (mvT hZ (hw _ (List.mem_of_getElem? (i := 5) rfl))) (by decide) (backOf (W := 0) (rm1 l Z a0 hw [] w_SHORT_TAGS ((94 : Int32) + (p2 &&& (31 : Int32))) w_REFERENCE_NAMES h0 n0 Z0 S_REFERENCE_NAMES) hZ (hw _ (List.mem_of_getElem? (i := 7) rfl)) (hw _ (List.mem_of_getElem? (i := 1) rfl)) (by decide) (by decide)) q47a q47c (g := (mkF m 86 #[.val (.int p1), .val (.int p2), .val (.int ((62 : Int32) + (p2 &&& (31 : Int32)))), .val (.int ((94 : Int32) + (p2 &&& (31 : Int32)))), .val (.int (f0_u1 p1 w_REFERENCE_NAMES)), .val (.int (f0_u2 p1 w_REFERENCE_NAMES w_SHORT_TAGS)), .val (.int (f0_u3 p2 w_REFERENCE_NAMES)), .unset] [(.int ((94 : Int32) + (p2 &&& (31 : Int32)))), (.ref w_SHORT_TAGS)])) rfl (by rw [hml]; rfl) (Steps.refl _) (argsL := [(.int ((94 : Int32) + (p2 &&& (31 : Int32))))]) (rest := []) (lenOf pd_0 rfl) rfl (by show 2 * 0 + _ ≤ _; exact Nat.le_of_eq rfl) (hb hby at_86) (fun _ _ => ⟨rfl, e44, (by decide : 0 + 0 ≤ _), (by decide : 0 + 0 ≤ _)⟩)
  dsimp only [Pt.U, Pt.locs, Pt.cells, Pt.slots] at X47 l47 y47 z47 st47 hQ47
  subst l47 y47 z47
  obtain ⟨rfl, N47q, e47⟩ := hQ47
  have N47 := Fr.app N36 N47q
  have K48 : ∀ t, Steps p.tables e below (T47.setTop (mkF m 89 #[.val (.int p1), .val (.int p2), .val (.int ((62 : Int32) + (p2 &&& (31 : Int32)))), .val (.int ((94 : Int32) + (p2 &&& (31 : Int32)))), .val (.int (f0_u1 p1 w_REFERENCE_NAMES)), .val (.int (f0_u2 p1 w_REFERENCE_NAMES w_SHORT_TAGS)), .val (.int (f0_u3 p2 w_REFERENCE_NAMES)), .unset] [(.int (f1 w_SHORT_TAGS ((94 : Int32) + (p2 &&& (31 : Int32))) w_REFERENCE_NAMES))])) t → Steps p.tables e below (T44.setTop (mkF m 86 #[.val (.int p1), .val (.int p2), .val (.int ((62 : Int32) + (p2 &&& (31 : Int32)))), .val (.int ((94 : Int32) + (p2 &&& (31 : Int32)))), .val (.int (f0_u1 p1 w_REFERENCE_NAMES)), .val (.int (f0_u2 p1 w_REFERENCE_NAMES w_SHORT_TAGS)), .val (.int (f0_u3 p2 w_REFERENCE_NAMES)), .unset] [(.int ((94 : Int32) + (p2 &&& (31 : Int32)))), (.ref w_SHORT_TAGS)])) t := fun t k => st47.trans k
  have K49 : ∀ t, Steps p.tables e below (T47.setTop (mkF m 91 #[.val (.int p1), .val (.int p2), .val (.int ((62 : Int32) + (p2 &&& (31 : Int32)))), .val (.int ((94 : Int32) + (p2 &&& (31 : Int32)))), .val (.int (f0_u1 p1 w_REFERENCE_NAMES)), .val (.int (f0_u2 p1 w_REFERENCE_NAMES w_SHORT_TAGS)), .val (.int (f0_u3 p2 w_REFERENCE_NAMES)), .unset] [(.int ((94 : Int32) + (p2 &&& (31 : Int32)))), (.int (0 : Int32)), (.int (f1 w_SHORT_TAGS ((94 : Int32) + (p2 &&& (31 : Int32))) w_REFERENCE_NAMES))])) t → Steps p.tables e below (T47.setTop (mkF m 89 #[.val (.int p1), .val (.int p2), .val (.int ((62 : Int32) + (p2 &&& (31 : Int32)))), .val (.int ((94 : Int32) + (p2 &&& (31 : Int32)))), .val (.int (f0_u1 p1 w_REFERENCE_NAMES)), .val (.int (f0_u2 p1 w_REFERENCE_NAMES w_SHORT_TAGS)), .val (.int (f0_u3 p2 w_REFERENCE_NAMES)), .unset] [(.int (f1 w_SHORT_TAGS ((94 : Int32) + (p2 &&& (31 : Int32))) w_REFERENCE_NAMES))])) t := by
    intro t k
    refine XS.iconst X47.here hx rfl (hb hby at_89) ?_
    show Steps p.tables e below (T47.setTop (mkF m 90 #[.val (.int p1), .val (.int p2), .val (.int ((62 : Int32) + (p2 &&& (31 : Int32)))), .val (.int ((94 : Int32) + (p2 &&& (31 : Int32)))), .val (.int (f0_u1 p1 w_REFERENCE_NAMES)), .val (.int (f0_u2 p1 w_REFERENCE_NAMES w_SHORT_TAGS)), .val (.int (f0_u3 p2 w_REFERENCE_NAMES)), .unset] [(.int (0 : Int32)), (.int (f1 w_SHORT_TAGS ((94 : Int32) + (p2 &&& (31 : Int32))) w_REFERENCE_NAMES))])) t
    refine XS.iloadN X47.here hx rfl (hb hby at_90) rfl ?_
    show Steps p.tables e below (T47.setTop (mkF m 91 #[.val (.int p1), .val (.int p2), .val (.int ((62 : Int32) + (p2 &&& (31 : Int32)))), .val (.int ((94 : Int32) + (p2 &&& (31 : Int32)))), .val (.int (f0_u1 p1 w_REFERENCE_NAMES)), .val (.int (f0_u2 p1 w_REFERENCE_NAMES w_SHORT_TAGS)), .val (.int (f0_u3 p2 w_REFERENCE_NAMES)), .unset] [(.int ((94 : Int32) + (p2 &&& (31 : Int32)))), (.int (0 : Int32)), (.int (f1 w_SHORT_TAGS ((94 : Int32) + (p2 &&& (31 : Int32))) w_REFERENCE_NAMES))])) t
    exact k
  obtain ⟨_, _, ⟨T50, L50, k50, n50⟩, -, X50, ⟨Lc50, hQ50, l50, y50, z50⟩, st50⟩ := Jvm.LawKit.callS X47 hx (y := (⟨"com/example/kirjatieto/kirjatieto/onix/TagFormInitialPinLaw", "expected", "(ZI)Z"⟩ : MethodName)) hown (mvT hZ (hw _ (List.mem_of_getElem? (i := 9) rfl))) (mvT hZ (hw _ (List.mem_of_getElem? (i := 10) rfl))) (mvT hZ (hw _ (List.mem_of_getElem? (i := 11) rfl))) (mvT hZ (hw _ (List.mem_of_getElem? (i := 12) rfl))) (by decide) (backOf (W := 1) (rm2 l Z a0 hw [] (0 : Int32) ((94 : Int32) + (p2 &&& (31 : Int32))) h0 n0 Z0 ) hZ (hw _ (List.mem_of_getElem? (i := 12) rfl)) (hw _ (List.mem_of_getElem? (i := 11) rfl)) (by decide) (by decide)) (g := (mkF m 91 #[.val (.int p1), .val (.int p2), .val (.int ((62 : Int32) + (p2 &&& (31 : Int32)))), .val (.int ((94 : Int32) + (p2 &&& (31 : Int32)))), .val (.int (f0_u1 p1 w_REFERENCE_NAMES)), .val (.int (f0_u2 p1 w_REFERENCE_NAMES w_SHORT_TAGS)), .val (.int (f0_u3 p2 w_REFERENCE_NAMES)), .unset] [(.int ((94 : Int32) + (p2 &&& (31 : Int32)))), (.int (0 : Int32)), (.int (f1 w_SHORT_TAGS ((94 : Int32) + (p2 &&& (31 : Int32))) w_REFERENCE_NAMES))])) rfl (by rw [hml]; rfl) (argsL := [(.int (0 : Int32)), (.int ((94 : Int32) + (p2 &&& (31 : Int32))))]) (rest := [(.int (f1 w_SHORT_TAGS ((94 : Int32) + (p2 &&& (31 : Int32))) w_REFERENCE_NAMES))]) (lenOf pd_1 rfl) rfl (by show 2 * 0 + _ ≤ _; exact Nat.le_of_eq rfl) (hb hby at_91) (fun _ _ => ⟨rfl, e47, (by decide : 0 + 0 ≤ _), (by decide : 0 + 0 ≤ _)⟩)
  dsimp only [Pt.U, Pt.locs, Pt.cells, Pt.slots] at X50 l50 y50 z50 st50 hQ50
  subst l50 y50 z50
  obtain ⟨rfl, N50q, e50⟩ := hQ50
  have N50 := Fr.app N47 N50q
  have K51 : ∀ t, Steps p.tables e below (T50.setTop (mkF m 94 #[.val (.int p1), .val (.int p2), .val (.int ((62 : Int32) + (p2 &&& (31 : Int32)))), .val (.int ((94 : Int32) + (p2 &&& (31 : Int32)))), .val (.int (f0_u1 p1 w_REFERENCE_NAMES)), .val (.int (f0_u2 p1 w_REFERENCE_NAMES w_SHORT_TAGS)), .val (.int (f0_u3 p2 w_REFERENCE_NAMES)), .unset] [(.int (f2 (0 : Int32) ((94 : Int32) + (p2 &&& (31 : Int32))))), (.int (f1 w_SHORT_TAGS ((94 : Int32) + (p2 &&& (31 : Int32))) w_REFERENCE_NAMES))])) t → Steps p.tables e below (T47.setTop (mkF m 91 #[.val (.int p1), .val (.int p2), .val (.int ((62 : Int32) + (p2 &&& (31 : Int32)))), .val (.int ((94 : Int32) + (p2 &&& (31 : Int32)))), .val (.int (f0_u1 p1 w_REFERENCE_NAMES)), .val (.int (f0_u2 p1 w_REFERENCE_NAMES w_SHORT_TAGS)), .val (.int (f0_u3 p2 w_REFERENCE_NAMES)), .unset] [(.int ((94 : Int32) + (p2 &&& (31 : Int32)))), (.int (0 : Int32)), (.int (f1 w_SHORT_TAGS ((94 : Int32) + (p2 &&& (31 : Int32))) w_REFERENCE_NAMES))])) t := fun t k => st50 _ k
  have K52 : ∀ t, Steps p.tables e below (T50.setTop (mkF m 102 #[.val (.int p1), .val (.int p2), .val (.int ((62 : Int32) + (p2 &&& (31 : Int32)))), .val (.int ((94 : Int32) + (p2 &&& (31 : Int32)))), .val (.int (f0_u1 p1 w_REFERENCE_NAMES)), .val (.int (f0_u2 p1 w_REFERENCE_NAMES w_SHORT_TAGS)), .val (.int (f0_u3 p2 w_REFERENCE_NAMES)), .unset] [(.int (f0_u4 p2 w_REFERENCE_NAMES w_SHORT_TAGS))])) t → Steps p.tables e below (T50.setTop (mkF m 94 #[.val (.int p1), .val (.int p2), .val (.int ((62 : Int32) + (p2 &&& (31 : Int32)))), .val (.int ((94 : Int32) + (p2 &&& (31 : Int32)))), .val (.int (f0_u1 p1 w_REFERENCE_NAMES)), .val (.int (f0_u2 p1 w_REFERENCE_NAMES w_SHORT_TAGS)), .val (.int (f0_u3 p2 w_REFERENCE_NAMES)), .unset] [(.int (f2 (0 : Int32) ((94 : Int32) + (p2 &&& (31 : Int32))))), (.int (f1 w_SHORT_TAGS ((94 : Int32) + (p2 &&& (31 : Int32))) w_REFERENCE_NAMES))])) t := by
    intro t k
    by_cases hc52 : (f1 w_SHORT_TAGS ((94 : Int32) + (p2 &&& (31 : Int32))) w_REFERENCE_NAMES) = (f2 (0 : Int32) ((94 : Int32) + (p2 &&& (31 : Int32))))
    · have K53 : ∀ t, Steps p.tables e below (T50.setTop (mkF m 97 #[.val (.int p1), .val (.int p2), .val (.int ((62 : Int32) + (p2 &&& (31 : Int32)))), .val (.int ((94 : Int32) + (p2 &&& (31 : Int32)))), .val (.int (f0_u1 p1 w_REFERENCE_NAMES)), .val (.int (f0_u2 p1 w_REFERENCE_NAMES w_SHORT_TAGS)), .val (.int (f0_u3 p2 w_REFERENCE_NAMES)), .unset] [])) t → Steps p.tables e below (T50.setTop (mkF m 94 #[.val (.int p1), .val (.int p2), .val (.int ((62 : Int32) + (p2 &&& (31 : Int32)))), .val (.int ((94 : Int32) + (p2 &&& (31 : Int32)))), .val (.int (f0_u1 p1 w_REFERENCE_NAMES)), .val (.int (f0_u2 p1 w_REFERENCE_NAMES w_SHORT_TAGS)), .val (.int (f0_u3 p2 w_REFERENCE_NAMES)), .unset] [(.int (f2 (0 : Int32) ((94 : Int32) + (p2 &&& (31 : Int32))))), (.int (f1 w_SHORT_TAGS ((94 : Int32) + (p2 &&& (31 : Int32))) w_REFERENCE_NAMES))])) t := by
        intro t k
        refine XS.icmpNo X50.here hx rfl (hb hby at_94) rfl (teq hc52).2 ?_
        exact k
      have K54 : ∀ t, Steps p.tables e below (T50.setTop (mkF m 102 #[.val (.int p1), .val (.int p2), .val (.int ((62 : Int32) + (p2 &&& (31 : Int32)))), .val (.int ((94 : Int32) + (p2 &&& (31 : Int32)))), .val (.int (f0_u1 p1 w_REFERENCE_NAMES)), .val (.int (f0_u2 p1 w_REFERENCE_NAMES w_SHORT_TAGS)), .val (.int (f0_u3 p2 w_REFERENCE_NAMES)), .unset] [(.int (1 : Int32))])) t → Steps p.tables e below (T50.setTop (mkF m 97 #[.val (.int p1), .val (.int p2), .val (.int ((62 : Int32) + (p2 &&& (31 : Int32)))), .val (.int ((94 : Int32) + (p2 &&& (31 : Int32)))), .val (.int (f0_u1 p1 w_REFERENCE_NAMES)), .val (.int (f0_u2 p1 w_REFERENCE_NAMES w_SHORT_TAGS)), .val (.int (f0_u3 p2 w_REFERENCE_NAMES)), .unset] [])) t := by
        intro t k
        refine XS.iconst X50.here hx rfl (hb hby at_97) ?_
        show Steps p.tables e below (T50.setTop (mkF m 98 #[.val (.int p1), .val (.int p2), .val (.int ((62 : Int32) + (p2 &&& (31 : Int32)))), .val (.int ((94 : Int32) + (p2 &&& (31 : Int32)))), .val (.int (f0_u1 p1 w_REFERENCE_NAMES)), .val (.int (f0_u2 p1 w_REFERENCE_NAMES w_SHORT_TAGS)), .val (.int (f0_u3 p2 w_REFERENCE_NAMES)), .unset] [(.int (1 : Int32))])) t
        refine XS.goto X50.here hx rfl (pc0 := 98) (pc' := 102) rfl (hb hby at_98) (by decide) (by decide) ?_
        show Steps p.tables e below (T50.setTop (mkF m 102 #[.val (.int p1), .val (.int p2), .val (.int ((62 : Int32) + (p2 &&& (31 : Int32)))), .val (.int ((94 : Int32) + (p2 &&& (31 : Int32)))), .val (.int (f0_u1 p1 w_REFERENCE_NAMES)), .val (.int (f0_u2 p1 w_REFERENCE_NAMES w_SHORT_TAGS)), .val (.int (f0_u3 p2 w_REFERENCE_NAMES)), .unset] [(.int (1 : Int32))])) t
        exact k
      rw [show (f0_u4 p2 w_REFERENCE_NAMES w_SHORT_TAGS) = (1 : Int32) from if_pos hc52] at k
      exact K53 _ (K54 _ (k))
    · have K55 : ∀ t, Steps p.tables e below (T50.setTop (mkF m 101 #[.val (.int p1), .val (.int p2), .val (.int ((62 : Int32) + (p2 &&& (31 : Int32)))), .val (.int ((94 : Int32) + (p2 &&& (31 : Int32)))), .val (.int (f0_u1 p1 w_REFERENCE_NAMES)), .val (.int (f0_u2 p1 w_REFERENCE_NAMES w_SHORT_TAGS)), .val (.int (f0_u3 p2 w_REFERENCE_NAMES)), .unset] [])) t → Steps p.tables e below (T50.setTop (mkF m 94 #[.val (.int p1), .val (.int p2), .val (.int ((62 : Int32) + (p2 &&& (31 : Int32)))), .val (.int ((94 : Int32) + (p2 &&& (31 : Int32)))), .val (.int (f0_u1 p1 w_REFERENCE_NAMES)), .val (.int (f0_u2 p1 w_REFERENCE_NAMES w_SHORT_TAGS)), .val (.int (f0_u3 p2 w_REFERENCE_NAMES)), .unset] [(.int (f2 (0 : Int32) ((94 : Int32) + (p2 &&& (31 : Int32))))), (.int (f1 w_SHORT_TAGS ((94 : Int32) + (p2 &&& (31 : Int32))) w_REFERENCE_NAMES))])) t := by
        intro t k
        refine XS.icmpYes X50.here hx rfl (pc0 := 94) (pc' := 101) rfl (hb hby at_94) rfl (feq hc52).2 (by decide) (by decide) ?_
        exact k
      have K56 : ∀ t, Steps p.tables e below (T50.setTop (mkF m 102 #[.val (.int p1), .val (.int p2), .val (.int ((62 : Int32) + (p2 &&& (31 : Int32)))), .val (.int ((94 : Int32) + (p2 &&& (31 : Int32)))), .val (.int (f0_u1 p1 w_REFERENCE_NAMES)), .val (.int (f0_u2 p1 w_REFERENCE_NAMES w_SHORT_TAGS)), .val (.int (f0_u3 p2 w_REFERENCE_NAMES)), .unset] [(.int (0 : Int32))])) t → Steps p.tables e below (T50.setTop (mkF m 101 #[.val (.int p1), .val (.int p2), .val (.int ((62 : Int32) + (p2 &&& (31 : Int32)))), .val (.int ((94 : Int32) + (p2 &&& (31 : Int32)))), .val (.int (f0_u1 p1 w_REFERENCE_NAMES)), .val (.int (f0_u2 p1 w_REFERENCE_NAMES w_SHORT_TAGS)), .val (.int (f0_u3 p2 w_REFERENCE_NAMES)), .unset] [])) t := by
        intro t k
        refine XS.iconst X50.here hx rfl (hb hby at_101) ?_
        show Steps p.tables e below (T50.setTop (mkF m 102 #[.val (.int p1), .val (.int p2), .val (.int ((62 : Int32) + (p2 &&& (31 : Int32)))), .val (.int ((94 : Int32) + (p2 &&& (31 : Int32)))), .val (.int (f0_u1 p1 w_REFERENCE_NAMES)), .val (.int (f0_u2 p1 w_REFERENCE_NAMES w_SHORT_TAGS)), .val (.int (f0_u3 p2 w_REFERENCE_NAMES)), .unset] [(.int (0 : Int32))])) t
        exact k
      rw [show (f0_u4 p2 w_REFERENCE_NAMES w_SHORT_TAGS) = (0 : Int32) from if_neg hc52] at k
      exact K55 _ (K56 _ (k))
  have K57 : ∀ t, Steps p.tables e below (T50.setTop (mkF m 106 #[.val (.int p1), .val (.int p2), .val (.int ((62 : Int32) + (p2 &&& (31 : Int32)))), .val (.int ((94 : Int32) + (p2 &&& (31 : Int32)))), .val (.int (f0_u1 p1 w_REFERENCE_NAMES)), .val (.int (f0_u2 p1 w_REFERENCE_NAMES w_SHORT_TAGS)), .val (.int (f0_u3 p2 w_REFERENCE_NAMES)), .val (.int (f0_u4 p2 w_REFERENCE_NAMES w_SHORT_TAGS))] [(.int (f0_u1 p1 w_REFERENCE_NAMES))])) t → Steps p.tables e below (T50.setTop (mkF m 102 #[.val (.int p1), .val (.int p2), .val (.int ((62 : Int32) + (p2 &&& (31 : Int32)))), .val (.int ((94 : Int32) + (p2 &&& (31 : Int32)))), .val (.int (f0_u1 p1 w_REFERENCE_NAMES)), .val (.int (f0_u2 p1 w_REFERENCE_NAMES w_SHORT_TAGS)), .val (.int (f0_u3 p2 w_REFERENCE_NAMES)), .unset] [(.int (f0_u4 p2 w_REFERENCE_NAMES w_SHORT_TAGS))])) t := by
    intro t k
    refine XS.istore X50.here hx rfl (hb hby at_102) rfl (l' := #[.val (.int p1), .val (.int p2), .val (.int ((62 : Int32) + (p2 &&& (31 : Int32)))), .val (.int ((94 : Int32) + (p2 &&& (31 : Int32)))), .val (.int (f0_u1 p1 w_REFERENCE_NAMES)), .val (.int (f0_u2 p1 w_REFERENCE_NAMES w_SHORT_TAGS)), .val (.int (f0_u3 p2 w_REFERENCE_NAMES)), .val (.int (f0_u4 p2 w_REFERENCE_NAMES w_SHORT_TAGS))]) rfl ?_
    show Steps p.tables e below (T50.setTop (mkF m 104 #[.val (.int p1), .val (.int p2), .val (.int ((62 : Int32) + (p2 &&& (31 : Int32)))), .val (.int ((94 : Int32) + (p2 &&& (31 : Int32)))), .val (.int (f0_u1 p1 w_REFERENCE_NAMES)), .val (.int (f0_u2 p1 w_REFERENCE_NAMES w_SHORT_TAGS)), .val (.int (f0_u3 p2 w_REFERENCE_NAMES)), .val (.int (f0_u4 p2 w_REFERENCE_NAMES w_SHORT_TAGS))] [])) t
    refine XS.iload X50.here hx rfl (hb hby at_104) rfl ?_
    show Steps p.tables e below (T50.setTop (mkF m 106 #[.val (.int p1), .val (.int p2), .val (.int ((62 : Int32) + (p2 &&& (31 : Int32)))), .val (.int ((94 : Int32) + (p2 &&& (31 : Int32)))), .val (.int (f0_u1 p1 w_REFERENCE_NAMES)), .val (.int (f0_u2 p1 w_REFERENCE_NAMES w_SHORT_TAGS)), .val (.int (f0_u3 p2 w_REFERENCE_NAMES)), .val (.int (f0_u4 p2 w_REFERENCE_NAMES w_SHORT_TAGS))] [(.int (f0_u1 p1 w_REFERENCE_NAMES))])) t
    exact k
  by_cases hc58 : (f0_u1 p1 w_REFERENCE_NAMES) = (0 : Int32)
  · have K59 : ∀ t, Steps p.tables e below (T50.setTop (mkF m 128 #[.val (.int p1), .val (.int p2), .val (.int ((62 : Int32) + (p2 &&& (31 : Int32)))), .val (.int ((94 : Int32) + (p2 &&& (31 : Int32)))), .val (.int (f0_u1 p1 w_REFERENCE_NAMES)), .val (.int (f0_u2 p1 w_REFERENCE_NAMES w_SHORT_TAGS)), .val (.int (f0_u3 p2 w_REFERENCE_NAMES)), .val (.int (f0_u4 p2 w_REFERENCE_NAMES w_SHORT_TAGS))] [])) t → Steps p.tables e below (T50.setTop (mkF m 106 #[.val (.int p1), .val (.int p2), .val (.int ((62 : Int32) + (p2 &&& (31 : Int32)))), .val (.int ((94 : Int32) + (p2 &&& (31 : Int32)))), .val (.int (f0_u1 p1 w_REFERENCE_NAMES)), .val (.int (f0_u2 p1 w_REFERENCE_NAMES w_SHORT_TAGS)), .val (.int (f0_u3 p2 w_REFERENCE_NAMES)), .val (.int (f0_u4 p2 w_REFERENCE_NAMES w_SHORT_TAGS))] [(.int (f0_u1 p1 w_REFERENCE_NAMES))])) t := by
      intro t k
      refine XS.ifYes X50.here hx rfl (pc0 := 106) (pc' := 128) rfl (hb hby at_106) rfl ((if0 _ _).trans (teq hc58).1) (by decide) (by decide) ?_
      exact k
    have K60 : ∀ t, Steps p.tables e below (T50.setTop (mkF m 129 #[.val (.int p1), .val (.int p2), .val (.int ((62 : Int32) + (p2 &&& (31 : Int32)))), .val (.int ((94 : Int32) + (p2 &&& (31 : Int32)))), .val (.int (f0_u1 p1 w_REFERENCE_NAMES)), .val (.int (f0_u2 p1 w_REFERENCE_NAMES w_SHORT_TAGS)), .val (.int (f0_u3 p2 w_REFERENCE_NAMES)), .val (.int (f0_u4 p2 w_REFERENCE_NAMES w_SHORT_TAGS))] [(.int (0 : Int32))])) t → Steps p.tables e below (T50.setTop (mkF m 128 #[.val (.int p1), .val (.int p2), .val (.int ((62 : Int32) + (p2 &&& (31 : Int32)))), .val (.int ((94 : Int32) + (p2 &&& (31 : Int32)))), .val (.int (f0_u1 p1 w_REFERENCE_NAMES)), .val (.int (f0_u2 p1 w_REFERENCE_NAMES w_SHORT_TAGS)), .val (.int (f0_u3 p2 w_REFERENCE_NAMES)), .val (.int (f0_u4 p2 w_REFERENCE_NAMES w_SHORT_TAGS))] [])) t := by
      intro t k
      refine XS.iconst X50.here hx rfl (hb hby at_128) ?_
      show Steps p.tables e below (T50.setTop (mkF m 129 #[.val (.int p1), .val (.int p2), .val (.int ((62 : Int32) + (p2 &&& (31 : Int32)))), .val (.int ((94 : Int32) + (p2 &&& (31 : Int32)))), .val (.int (f0_u1 p1 w_REFERENCE_NAMES)), .val (.int (f0_u2 p1 w_REFERENCE_NAMES w_SHORT_TAGS)), .val (.int (f0_u3 p2 w_REFERENCE_NAMES)), .val (.int (f0_u4 p2 w_REFERENCE_NAMES w_SHORT_TAGS))] [(.int (0 : Int32))])) t
      exact k
    obtain ⟨fs, hr, hrun, hended, hW, hsame⟩ := X50.leave (v := some (.int (0 : Int32))) (fun h => by rw [Bd.returns] at h; cases h)
    refine ⟨_, _, pre0 _ (K1 _ (K3 _ (K4 _ (K6 _ (K7 _ (K9 _ (K10 _ (K15 _ (K17 _ (K18 _ (K20 _ (K21 _ (K23 _ (K24 _ (K29 _ (K31 _ (K32 _ (K34 _ (K35 _ (K37 _ (K38 _ (K43 _ (K45 _ (K46 _ (K48 _ (K49 _ (K51 _ (K52 _ (K57 _ (K59 _ (K60 _ (retN X50 hx (t := .boolean) Bd.returns (by simp) (hb hby at_129) hr)))))))))))))))))))))))))))))))), hrun, hended, _, _, rfl, ?_, ⟨_, rfl⟩, hW, hsame.mono (by decide) (by decide)⟩
    show Q0 Z p1 p2 w_REFERENCE_NAMES w_SHORT_TAGS h0 n0 _ T50.heap _
    rw [e50]
    exact ⟨congrArg (fun z => some (Value.int z)) (show (0 : Int32) = f0 p1 p2 w_REFERENCE_NAMES w_SHORT_TAGS from Eq.symm (if_pos hc58)), N50, rfl⟩
  · have K61 : ∀ t, Steps p.tables e below (T50.setTop (mkF m 109 #[.val (.int p1), .val (.int p2), .val (.int ((62 : Int32) + (p2 &&& (31 : Int32)))), .val (.int ((94 : Int32) + (p2 &&& (31 : Int32)))), .val (.int (f0_u1 p1 w_REFERENCE_NAMES)), .val (.int (f0_u2 p1 w_REFERENCE_NAMES w_SHORT_TAGS)), .val (.int (f0_u3 p2 w_REFERENCE_NAMES)), .val (.int (f0_u4 p2 w_REFERENCE_NAMES w_SHORT_TAGS))] [])) t → Steps p.tables e below (T50.setTop (mkF m 106 #[.val (.int p1), .val (.int p2), .val (.int ((62 : Int32) + (p2 &&& (31 : Int32)))), .val (.int ((94 : Int32) + (p2 &&& (31 : Int32)))), .val (.int (f0_u1 p1 w_REFERENCE_NAMES)), .val (.int (f0_u2 p1 w_REFERENCE_NAMES w_SHORT_TAGS)), .val (.int (f0_u3 p2 w_REFERENCE_NAMES)), .val (.int (f0_u4 p2 w_REFERENCE_NAMES w_SHORT_TAGS))] [(.int (f0_u1 p1 w_REFERENCE_NAMES))])) t := by
      intro t k
      refine XS.ifNo X50.here hx rfl (hb hby at_106) rfl ((if0 _ _).trans (feq hc58).1) ?_
      exact k
    have K62 : ∀ t, Steps p.tables e below (T50.setTop (mkF m 111 #[.val (.int p1), .val (.int p2), .val (.int ((62 : Int32) + (p2 &&& (31 : Int32)))), .val (.int ((94 : Int32) + (p2 &&& (31 : Int32)))), .val (.int (f0_u1 p1 w_REFERENCE_NAMES)), .val (.int (f0_u2 p1 w_REFERENCE_NAMES w_SHORT_TAGS)), .val (.int (f0_u3 p2 w_REFERENCE_NAMES)), .val (.int (f0_u4 p2 w_REFERENCE_NAMES w_SHORT_TAGS))] [(.int (f0_u2 p1 w_REFERENCE_NAMES w_SHORT_TAGS))])) t → Steps p.tables e below (T50.setTop (mkF m 109 #[.val (.int p1), .val (.int p2), .val (.int ((62 : Int32) + (p2 &&& (31 : Int32)))), .val (.int ((94 : Int32) + (p2 &&& (31 : Int32)))), .val (.int (f0_u1 p1 w_REFERENCE_NAMES)), .val (.int (f0_u2 p1 w_REFERENCE_NAMES w_SHORT_TAGS)), .val (.int (f0_u3 p2 w_REFERENCE_NAMES)), .val (.int (f0_u4 p2 w_REFERENCE_NAMES w_SHORT_TAGS))] [])) t := by
      intro t k
      refine XS.iload X50.here hx rfl (hb hby at_109) rfl ?_
      show Steps p.tables e below (T50.setTop (mkF m 111 #[.val (.int p1), .val (.int p2), .val (.int ((62 : Int32) + (p2 &&& (31 : Int32)))), .val (.int ((94 : Int32) + (p2 &&& (31 : Int32)))), .val (.int (f0_u1 p1 w_REFERENCE_NAMES)), .val (.int (f0_u2 p1 w_REFERENCE_NAMES w_SHORT_TAGS)), .val (.int (f0_u3 p2 w_REFERENCE_NAMES)), .val (.int (f0_u4 p2 w_REFERENCE_NAMES w_SHORT_TAGS))] [(.int (f0_u2 p1 w_REFERENCE_NAMES w_SHORT_TAGS))])) t
      exact k
    by_cases hc63 : (f0_u2 p1 w_REFERENCE_NAMES w_SHORT_TAGS) = (0 : Int32)
    · have K64 : ∀ t, Steps p.tables e below (T50.setTop (mkF m 128 #[.val (.int p1), .val (.int p2), .val (.int ((62 : Int32) + (p2 &&& (31 : Int32)))), .val (.int ((94 : Int32) + (p2 &&& (31 : Int32)))), .val (.int (f0_u1 p1 w_REFERENCE_NAMES)), .val (.int (f0_u2 p1 w_REFERENCE_NAMES w_SHORT_TAGS)), .val (.int (f0_u3 p2 w_REFERENCE_NAMES)), .val (.int (f0_u4 p2 w_REFERENCE_NAMES w_SHORT_TAGS))] [])) t → Steps p.tables e below (T50.setTop (mkF m 111 #[.val (.int p1), .val (.int p2), .val (.int ((62 : Int32) + (p2 &&& (31 : Int32)))), .val (.int ((94 : Int32) + (p2 &&& (31 : Int32)))), .val (.int (f0_u1 p1 w_REFERENCE_NAMES)), .val (.int (f0_u2 p1 w_REFERENCE_NAMES w_SHORT_TAGS)), .val (.int (f0_u3 p2 w_REFERENCE_NAMES)), .val (.int (f0_u4 p2 w_REFERENCE_NAMES w_SHORT_TAGS))] [(.int (f0_u2 p1 w_REFERENCE_NAMES w_SHORT_TAGS))])) t := by
        intro t k
        refine XS.ifYes X50.here hx rfl (pc0 := 111) (pc' := 128) rfl (hb hby at_111) rfl ((if0 _ _).trans (teq hc63).1) (by decide) (by decide) ?_
        exact k
      have K65 : ∀ t, Steps p.tables e below (T50.setTop (mkF m 129 #[.val (.int p1), .val (.int p2), .val (.int ((62 : Int32) + (p2 &&& (31 : Int32)))), .val (.int ((94 : Int32) + (p2 &&& (31 : Int32)))), .val (.int (f0_u1 p1 w_REFERENCE_NAMES)), .val (.int (f0_u2 p1 w_REFERENCE_NAMES w_SHORT_TAGS)), .val (.int (f0_u3 p2 w_REFERENCE_NAMES)), .val (.int (f0_u4 p2 w_REFERENCE_NAMES w_SHORT_TAGS))] [(.int (0 : Int32))])) t → Steps p.tables e below (T50.setTop (mkF m 128 #[.val (.int p1), .val (.int p2), .val (.int ((62 : Int32) + (p2 &&& (31 : Int32)))), .val (.int ((94 : Int32) + (p2 &&& (31 : Int32)))), .val (.int (f0_u1 p1 w_REFERENCE_NAMES)), .val (.int (f0_u2 p1 w_REFERENCE_NAMES w_SHORT_TAGS)), .val (.int (f0_u3 p2 w_REFERENCE_NAMES)), .val (.int (f0_u4 p2 w_REFERENCE_NAMES w_SHORT_TAGS))] [])) t := by
        intro t k
        refine XS.iconst X50.here hx rfl (hb hby at_128) ?_
        show Steps p.tables e below (T50.setTop (mkF m 129 #[.val (.int p1), .val (.int p2), .val (.int ((62 : Int32) + (p2 &&& (31 : Int32)))), .val (.int ((94 : Int32) + (p2 &&& (31 : Int32)))), .val (.int (f0_u1 p1 w_REFERENCE_NAMES)), .val (.int (f0_u2 p1 w_REFERENCE_NAMES w_SHORT_TAGS)), .val (.int (f0_u3 p2 w_REFERENCE_NAMES)), .val (.int (f0_u4 p2 w_REFERENCE_NAMES w_SHORT_TAGS))] [(.int (0 : Int32))])) t
        exact k
      obtain ⟨fs, hr, hrun, hended, hW, hsame⟩ := X50.leave (v := some (.int (0 : Int32))) (fun h => by rw [Bd.returns] at h; cases h)
      refine ⟨_, _, pre0 _ (K1 _ (K3 _ (K4 _ (K6 _ (K7 _ (K9 _ (K10 _ (K15 _ (K17 _ (K18 _ (K20 _ (K21 _ (K23 _ (K24 _ (K29 _ (K31 _ (K32 _ (K34 _ (K35 _ (K37 _ (K38 _ (K43 _ (K45 _ (K46 _ (K48 _ (K49 _ (K51 _ (K52 _ (K57 _ (K61 _ (K62 _ (K64 _ (K65 _ (retN X50 hx (t := .boolean) Bd.returns (by simp) (hb hby at_129) hr)))))))))))))))))))))))))))))))))), hrun, hended, _, _, rfl, ?_, ⟨_, rfl⟩, hW, hsame.mono (by decide) (by decide)⟩
      show Q0 Z p1 p2 w_REFERENCE_NAMES w_SHORT_TAGS h0 n0 _ T50.heap _
      rw [e50]
      exact ⟨congrArg (fun z => some (Value.int z)) (show (0 : Int32) = f0 p1 p2 w_REFERENCE_NAMES w_SHORT_TAGS from Eq.symm ((if_neg hc58).trans (if_pos hc63))), N50, rfl⟩
    · have K66 : ∀ t, Steps p.tables e below (T50.setTop (mkF m 114 #[.val (.int p1), .val (.int p2), .val (.int ((62 : Int32) + (p2 &&& (31 : Int32)))), .val (.int ((94 : Int32) + (p2 &&& (31 : Int32)))), .val (.int (f0_u1 p1 w_REFERENCE_NAMES)), .val (.int (f0_u2 p1 w_REFERENCE_NAMES w_SHORT_TAGS)), .val (.int (f0_u3 p2 w_REFERENCE_NAMES)), .val (.int (f0_u4 p2 w_REFERENCE_NAMES w_SHORT_TAGS))] [])) t → Steps p.tables e below (T50.setTop (mkF m 111 #[.val (.int p1), .val (.int p2), .val (.int ((62 : Int32) + (p2 &&& (31 : Int32)))), .val (.int ((94 : Int32) + (p2 &&& (31 : Int32)))), .val (.int (f0_u1 p1 w_REFERENCE_NAMES)), .val (.int (f0_u2 p1 w_REFERENCE_NAMES w_SHORT_TAGS)), .val (.int (f0_u3 p2 w_REFERENCE_NAMES)), .val (.int (f0_u4 p2 w_REFERENCE_NAMES w_SHORT_TAGS))] [(.int (f0_u2 p1 w_REFERENCE_NAMES w_SHORT_TAGS))])) t := by
        intro t k
        refine XS.ifNo X50.here hx rfl (hb hby at_111) rfl ((if0 _ _).trans (feq hc63).1) ?_
        exact k
      have K67 : ∀ t, Steps p.tables e below (T50.setTop (mkF m 116 #[.val (.int p1), .val (.int p2), .val (.int ((62 : Int32) + (p2 &&& (31 : Int32)))), .val (.int ((94 : Int32) + (p2 &&& (31 : Int32)))), .val (.int (f0_u1 p1 w_REFERENCE_NAMES)), .val (.int (f0_u2 p1 w_REFERENCE_NAMES w_SHORT_TAGS)), .val (.int (f0_u3 p2 w_REFERENCE_NAMES)), .val (.int (f0_u4 p2 w_REFERENCE_NAMES w_SHORT_TAGS))] [(.int (f0_u3 p2 w_REFERENCE_NAMES))])) t → Steps p.tables e below (T50.setTop (mkF m 114 #[.val (.int p1), .val (.int p2), .val (.int ((62 : Int32) + (p2 &&& (31 : Int32)))), .val (.int ((94 : Int32) + (p2 &&& (31 : Int32)))), .val (.int (f0_u1 p1 w_REFERENCE_NAMES)), .val (.int (f0_u2 p1 w_REFERENCE_NAMES w_SHORT_TAGS)), .val (.int (f0_u3 p2 w_REFERENCE_NAMES)), .val (.int (f0_u4 p2 w_REFERENCE_NAMES w_SHORT_TAGS))] [])) t := by
        intro t k
        refine XS.iload X50.here hx rfl (hb hby at_114) rfl ?_
        show Steps p.tables e below (T50.setTop (mkF m 116 #[.val (.int p1), .val (.int p2), .val (.int ((62 : Int32) + (p2 &&& (31 : Int32)))), .val (.int ((94 : Int32) + (p2 &&& (31 : Int32)))), .val (.int (f0_u1 p1 w_REFERENCE_NAMES)), .val (.int (f0_u2 p1 w_REFERENCE_NAMES w_SHORT_TAGS)), .val (.int (f0_u3 p2 w_REFERENCE_NAMES)), .val (.int (f0_u4 p2 w_REFERENCE_NAMES w_SHORT_TAGS))] [(.int (f0_u3 p2 w_REFERENCE_NAMES))])) t
        exact k
      by_cases hc68 : (f0_u3 p2 w_REFERENCE_NAMES) = (0 : Int32)
      · have K69 : ∀ t, Steps p.tables e below (T50.setTop (mkF m 128 #[.val (.int p1), .val (.int p2), .val (.int ((62 : Int32) + (p2 &&& (31 : Int32)))), .val (.int ((94 : Int32) + (p2 &&& (31 : Int32)))), .val (.int (f0_u1 p1 w_REFERENCE_NAMES)), .val (.int (f0_u2 p1 w_REFERENCE_NAMES w_SHORT_TAGS)), .val (.int (f0_u3 p2 w_REFERENCE_NAMES)), .val (.int (f0_u4 p2 w_REFERENCE_NAMES w_SHORT_TAGS))] [])) t → Steps p.tables e below (T50.setTop (mkF m 116 #[.val (.int p1), .val (.int p2), .val (.int ((62 : Int32) + (p2 &&& (31 : Int32)))), .val (.int ((94 : Int32) + (p2 &&& (31 : Int32)))), .val (.int (f0_u1 p1 w_REFERENCE_NAMES)), .val (.int (f0_u2 p1 w_REFERENCE_NAMES w_SHORT_TAGS)), .val (.int (f0_u3 p2 w_REFERENCE_NAMES)), .val (.int (f0_u4 p2 w_REFERENCE_NAMES w_SHORT_TAGS))] [(.int (f0_u3 p2 w_REFERENCE_NAMES))])) t := by
          intro t k
          refine XS.ifYes X50.here hx rfl (pc0 := 116) (pc' := 128) rfl (hb hby at_116) rfl ((if0 _ _).trans (teq hc68).1) (by decide) (by decide) ?_
          exact k
        have K70 : ∀ t, Steps p.tables e below (T50.setTop (mkF m 129 #[.val (.int p1), .val (.int p2), .val (.int ((62 : Int32) + (p2 &&& (31 : Int32)))), .val (.int ((94 : Int32) + (p2 &&& (31 : Int32)))), .val (.int (f0_u1 p1 w_REFERENCE_NAMES)), .val (.int (f0_u2 p1 w_REFERENCE_NAMES w_SHORT_TAGS)), .val (.int (f0_u3 p2 w_REFERENCE_NAMES)), .val (.int (f0_u4 p2 w_REFERENCE_NAMES w_SHORT_TAGS))] [(.int (0 : Int32))])) t → Steps p.tables e below (T50.setTop (mkF m 128 #[.val (.int p1), .val (.int p2), .val (.int ((62 : Int32) + (p2 &&& (31 : Int32)))), .val (.int ((94 : Int32) + (p2 &&& (31 : Int32)))), .val (.int (f0_u1 p1 w_REFERENCE_NAMES)), .val (.int (f0_u2 p1 w_REFERENCE_NAMES w_SHORT_TAGS)), .val (.int (f0_u3 p2 w_REFERENCE_NAMES)), .val (.int (f0_u4 p2 w_REFERENCE_NAMES w_SHORT_TAGS))] [])) t := by
          intro t k
          refine XS.iconst X50.here hx rfl (hb hby at_128) ?_
          show Steps p.tables e below (T50.setTop (mkF m 129 #[.val (.int p1), .val (.int p2), .val (.int ((62 : Int32) + (p2 &&& (31 : Int32)))), .val (.int ((94 : Int32) + (p2 &&& (31 : Int32)))), .val (.int (f0_u1 p1 w_REFERENCE_NAMES)), .val (.int (f0_u2 p1 w_REFERENCE_NAMES w_SHORT_TAGS)), .val (.int (f0_u3 p2 w_REFERENCE_NAMES)), .val (.int (f0_u4 p2 w_REFERENCE_NAMES w_SHORT_TAGS))] [(.int (0 : Int32))])) t
          exact k
        obtain ⟨fs, hr, hrun, hended, hW, hsame⟩ := X50.leave (v := some (.int (0 : Int32))) (fun h => by rw [Bd.returns] at h; cases h)
        refine ⟨_, _, pre0 _ (K1 _ (K3 _ (K4 _ (K6 _ (K7 _ (K9 _ (K10 _ (K15 _ (K17 _ (K18 _ (K20 _ (K21 _ (K23 _ (K24 _ (K29 _ (K31 _ (K32 _ (K34 _ (K35 _ (K37 _ (K38 _ (K43 _ (K45 _ (K46 _ (K48 _ (K49 _ (K51 _ (K52 _ (K57 _ (K61 _ (K62 _ (K66 _ (K67 _ (K69 _ (K70 _ (retN X50 hx (t := .boolean) Bd.returns (by simp) (hb hby at_129) hr)))))))))))))))))))))))))))))))))))), hrun, hended, _, _, rfl, ?_, ⟨_, rfl⟩, hW, hsame.mono (by decide) (by decide)⟩
        show Q0 Z p1 p2 w_REFERENCE_NAMES w_SHORT_TAGS h0 n0 _ T50.heap _
        rw [e50]
        exact ⟨congrArg (fun z => some (Value.int z)) (show (0 : Int32) = f0 p1 p2 w_REFERENCE_NAMES w_SHORT_TAGS from Eq.symm ((if_neg hc58).trans ((if_neg hc63).trans (if_pos hc68)))), N50, rfl⟩
      · have K71 : ∀ t, Steps p.tables e below (T50.setTop (mkF m 119 #[.val (.int p1), .val (.int p2), .val (.int ((62 : Int32) + (p2 &&& (31 : Int32)))), .val (.int ((94 : Int32) + (p2 &&& (31 : Int32)))), .val (.int (f0_u1 p1 w_REFERENCE_NAMES)), .val (.int (f0_u2 p1 w_REFERENCE_NAMES w_SHORT_TAGS)), .val (.int (f0_u3 p2 w_REFERENCE_NAMES)), .val (.int (f0_u4 p2 w_REFERENCE_NAMES w_SHORT_TAGS))] [])) t → Steps p.tables e below (T50.setTop (mkF m 116 #[.val (.int p1), .val (.int p2), .val (.int ((62 : Int32) + (p2 &&& (31 : Int32)))), .val (.int ((94 : Int32) + (p2 &&& (31 : Int32)))), .val (.int (f0_u1 p1 w_REFERENCE_NAMES)), .val (.int (f0_u2 p1 w_REFERENCE_NAMES w_SHORT_TAGS)), .val (.int (f0_u3 p2 w_REFERENCE_NAMES)), .val (.int (f0_u4 p2 w_REFERENCE_NAMES w_SHORT_TAGS))] [(.int (f0_u3 p2 w_REFERENCE_NAMES))])) t := by
          intro t k
          refine XS.ifNo X50.here hx rfl (hb hby at_116) rfl ((if0 _ _).trans (feq hc68).1) ?_
          exact k
        have K72 : ∀ t, Steps p.tables e below (T50.setTop (mkF m 121 #[.val (.int p1), .val (.int p2), .val (.int ((62 : Int32) + (p2 &&& (31 : Int32)))), .val (.int ((94 : Int32) + (p2 &&& (31 : Int32)))), .val (.int (f0_u1 p1 w_REFERENCE_NAMES)), .val (.int (f0_u2 p1 w_REFERENCE_NAMES w_SHORT_TAGS)), .val (.int (f0_u3 p2 w_REFERENCE_NAMES)), .val (.int (f0_u4 p2 w_REFERENCE_NAMES w_SHORT_TAGS))] [(.int (f0_u4 p2 w_REFERENCE_NAMES w_SHORT_TAGS))])) t → Steps p.tables e below (T50.setTop (mkF m 119 #[.val (.int p1), .val (.int p2), .val (.int ((62 : Int32) + (p2 &&& (31 : Int32)))), .val (.int ((94 : Int32) + (p2 &&& (31 : Int32)))), .val (.int (f0_u1 p1 w_REFERENCE_NAMES)), .val (.int (f0_u2 p1 w_REFERENCE_NAMES w_SHORT_TAGS)), .val (.int (f0_u3 p2 w_REFERENCE_NAMES)), .val (.int (f0_u4 p2 w_REFERENCE_NAMES w_SHORT_TAGS))] [])) t := by
          intro t k
          refine XS.iload X50.here hx rfl (hb hby at_119) rfl ?_
          show Steps p.tables e below (T50.setTop (mkF m 121 #[.val (.int p1), .val (.int p2), .val (.int ((62 : Int32) + (p2 &&& (31 : Int32)))), .val (.int ((94 : Int32) + (p2 &&& (31 : Int32)))), .val (.int (f0_u1 p1 w_REFERENCE_NAMES)), .val (.int (f0_u2 p1 w_REFERENCE_NAMES w_SHORT_TAGS)), .val (.int (f0_u3 p2 w_REFERENCE_NAMES)), .val (.int (f0_u4 p2 w_REFERENCE_NAMES w_SHORT_TAGS))] [(.int (f0_u4 p2 w_REFERENCE_NAMES w_SHORT_TAGS))])) t
          exact k
        by_cases hc73 : (f0_u4 p2 w_REFERENCE_NAMES w_SHORT_TAGS) = (0 : Int32)
        · have K74 : ∀ t, Steps p.tables e below (T50.setTop (mkF m 128 #[.val (.int p1), .val (.int p2), .val (.int ((62 : Int32) + (p2 &&& (31 : Int32)))), .val (.int ((94 : Int32) + (p2 &&& (31 : Int32)))), .val (.int (f0_u1 p1 w_REFERENCE_NAMES)), .val (.int (f0_u2 p1 w_REFERENCE_NAMES w_SHORT_TAGS)), .val (.int (f0_u3 p2 w_REFERENCE_NAMES)), .val (.int (f0_u4 p2 w_REFERENCE_NAMES w_SHORT_TAGS))] [])) t → Steps p.tables e below (T50.setTop (mkF m 121 #[.val (.int p1), .val (.int p2), .val (.int ((62 : Int32) + (p2 &&& (31 : Int32)))), .val (.int ((94 : Int32) + (p2 &&& (31 : Int32)))), .val (.int (f0_u1 p1 w_REFERENCE_NAMES)), .val (.int (f0_u2 p1 w_REFERENCE_NAMES w_SHORT_TAGS)), .val (.int (f0_u3 p2 w_REFERENCE_NAMES)), .val (.int (f0_u4 p2 w_REFERENCE_NAMES w_SHORT_TAGS))] [(.int (f0_u4 p2 w_REFERENCE_NAMES w_SHORT_TAGS))])) t := by
            intro t k
            refine XS.ifYes X50.here hx rfl (pc0 := 121) (pc' := 128) rfl (hb hby at_121) rfl ((if0 _ _).trans (teq hc73).1) (by decide) (by decide) ?_
            exact k
          have K75 : ∀ t, Steps p.tables e below (T50.setTop (mkF m 129 #[.val (.int p1), .val (.int p2), .val (.int ((62 : Int32) + (p2 &&& (31 : Int32)))), .val (.int ((94 : Int32) + (p2 &&& (31 : Int32)))), .val (.int (f0_u1 p1 w_REFERENCE_NAMES)), .val (.int (f0_u2 p1 w_REFERENCE_NAMES w_SHORT_TAGS)), .val (.int (f0_u3 p2 w_REFERENCE_NAMES)), .val (.int (f0_u4 p2 w_REFERENCE_NAMES w_SHORT_TAGS))] [(.int (0 : Int32))])) t → Steps p.tables e below (T50.setTop (mkF m 128 #[.val (.int p1), .val (.int p2), .val (.int ((62 : Int32) + (p2 &&& (31 : Int32)))), .val (.int ((94 : Int32) + (p2 &&& (31 : Int32)))), .val (.int (f0_u1 p1 w_REFERENCE_NAMES)), .val (.int (f0_u2 p1 w_REFERENCE_NAMES w_SHORT_TAGS)), .val (.int (f0_u3 p2 w_REFERENCE_NAMES)), .val (.int (f0_u4 p2 w_REFERENCE_NAMES w_SHORT_TAGS))] [])) t := by
            intro t k
            refine XS.iconst X50.here hx rfl (hb hby at_128) ?_
            show Steps p.tables e below (T50.setTop (mkF m 129 #[.val (.int p1), .val (.int p2), .val (.int ((62 : Int32) + (p2 &&& (31 : Int32)))), .val (.int ((94 : Int32) + (p2 &&& (31 : Int32)))), .val (.int (f0_u1 p1 w_REFERENCE_NAMES)), .val (.int (f0_u2 p1 w_REFERENCE_NAMES w_SHORT_TAGS)), .val (.int (f0_u3 p2 w_REFERENCE_NAMES)), .val (.int (f0_u4 p2 w_REFERENCE_NAMES w_SHORT_TAGS))] [(.int (0 : Int32))])) t
            exact k
          obtain ⟨fs, hr, hrun, hended, hW, hsame⟩ := X50.leave (v := some (.int (0 : Int32))) (fun h => by rw [Bd.returns] at h; cases h)
          refine ⟨_, _, pre0 _ (K1 _ (K3 _ (K4 _ (K6 _ (K7 _ (K9 _ (K10 _ (K15 _ (K17 _ (K18 _ (K20 _ (K21 _ (K23 _ (K24 _ (K29 _ (K31 _ (K32 _ (K34 _ (K35 _ (K37 _ (K38 _ (K43 _ (K45 _ (K46 _ (K48 _ (K49 _ (K51 _ (K52 _ (K57 _ (K61 _ (K62 _ (K66 _ (K67 _ (K71 _ (K72 _ (K74 _ (K75 _ (retN X50 hx (t := .boolean) Bd.returns (by simp) (hb hby at_129) hr)))))))))))))))))))))))))))))))))))))), hrun, hended, _, _, rfl, ?_, ⟨_, rfl⟩, hW, hsame.mono (by decide) (by decide)⟩
          show Q0 Z p1 p2 w_REFERENCE_NAMES w_SHORT_TAGS h0 n0 _ T50.heap _
          rw [e50]
          exact ⟨congrArg (fun z => some (Value.int z)) (show (0 : Int32) = f0 p1 p2 w_REFERENCE_NAMES w_SHORT_TAGS from Eq.symm ((if_neg hc58).trans ((if_neg hc63).trans ((if_neg hc68).trans (if_pos hc73))))), N50, rfl⟩
        · have K76 : ∀ t, Steps p.tables e below (T50.setTop (mkF m 124 #[.val (.int p1), .val (.int p2), .val (.int ((62 : Int32) + (p2 &&& (31 : Int32)))), .val (.int ((94 : Int32) + (p2 &&& (31 : Int32)))), .val (.int (f0_u1 p1 w_REFERENCE_NAMES)), .val (.int (f0_u2 p1 w_REFERENCE_NAMES w_SHORT_TAGS)), .val (.int (f0_u3 p2 w_REFERENCE_NAMES)), .val (.int (f0_u4 p2 w_REFERENCE_NAMES w_SHORT_TAGS))] [])) t → Steps p.tables e below (T50.setTop (mkF m 121 #[.val (.int p1), .val (.int p2), .val (.int ((62 : Int32) + (p2 &&& (31 : Int32)))), .val (.int ((94 : Int32) + (p2 &&& (31 : Int32)))), .val (.int (f0_u1 p1 w_REFERENCE_NAMES)), .val (.int (f0_u2 p1 w_REFERENCE_NAMES w_SHORT_TAGS)), .val (.int (f0_u3 p2 w_REFERENCE_NAMES)), .val (.int (f0_u4 p2 w_REFERENCE_NAMES w_SHORT_TAGS))] [(.int (f0_u4 p2 w_REFERENCE_NAMES w_SHORT_TAGS))])) t := by
            intro t k
            refine XS.ifNo X50.here hx rfl (hb hby at_121) rfl ((if0 _ _).trans (feq hc73).1) ?_
            exact k
          have K77 : ∀ t, Steps p.tables e below (T50.setTop (mkF m 129 #[.val (.int p1), .val (.int p2), .val (.int ((62 : Int32) + (p2 &&& (31 : Int32)))), .val (.int ((94 : Int32) + (p2 &&& (31 : Int32)))), .val (.int (f0_u1 p1 w_REFERENCE_NAMES)), .val (.int (f0_u2 p1 w_REFERENCE_NAMES w_SHORT_TAGS)), .val (.int (f0_u3 p2 w_REFERENCE_NAMES)), .val (.int (f0_u4 p2 w_REFERENCE_NAMES w_SHORT_TAGS))] [(.int (1 : Int32))])) t → Steps p.tables e below (T50.setTop (mkF m 124 #[.val (.int p1), .val (.int p2), .val (.int ((62 : Int32) + (p2 &&& (31 : Int32)))), .val (.int ((94 : Int32) + (p2 &&& (31 : Int32)))), .val (.int (f0_u1 p1 w_REFERENCE_NAMES)), .val (.int (f0_u2 p1 w_REFERENCE_NAMES w_SHORT_TAGS)), .val (.int (f0_u3 p2 w_REFERENCE_NAMES)), .val (.int (f0_u4 p2 w_REFERENCE_NAMES w_SHORT_TAGS))] [])) t := by
            intro t k
            refine XS.iconst X50.here hx rfl (hb hby at_124) ?_
            show Steps p.tables e below (T50.setTop (mkF m 125 #[.val (.int p1), .val (.int p2), .val (.int ((62 : Int32) + (p2 &&& (31 : Int32)))), .val (.int ((94 : Int32) + (p2 &&& (31 : Int32)))), .val (.int (f0_u1 p1 w_REFERENCE_NAMES)), .val (.int (f0_u2 p1 w_REFERENCE_NAMES w_SHORT_TAGS)), .val (.int (f0_u3 p2 w_REFERENCE_NAMES)), .val (.int (f0_u4 p2 w_REFERENCE_NAMES w_SHORT_TAGS))] [(.int (1 : Int32))])) t
            refine XS.goto X50.here hx rfl (pc0 := 125) (pc' := 129) rfl (hb hby at_125) (by decide) (by decide) ?_
            show Steps p.tables e below (T50.setTop (mkF m 129 #[.val (.int p1), .val (.int p2), .val (.int ((62 : Int32) + (p2 &&& (31 : Int32)))), .val (.int ((94 : Int32) + (p2 &&& (31 : Int32)))), .val (.int (f0_u1 p1 w_REFERENCE_NAMES)), .val (.int (f0_u2 p1 w_REFERENCE_NAMES w_SHORT_TAGS)), .val (.int (f0_u3 p2 w_REFERENCE_NAMES)), .val (.int (f0_u4 p2 w_REFERENCE_NAMES w_SHORT_TAGS))] [(.int (1 : Int32))])) t
            exact k
          obtain ⟨fs, hr, hrun, hended, hW, hsame⟩ := X50.leave (v := some (.int (1 : Int32))) (fun h => by rw [Bd.returns] at h; cases h)
          refine ⟨_, _, pre0 _ (K1 _ (K3 _ (K4 _ (K6 _ (K7 _ (K9 _ (K10 _ (K15 _ (K17 _ (K18 _ (K20 _ (K21 _ (K23 _ (K24 _ (K29 _ (K31 _ (K32 _ (K34 _ (K35 _ (K37 _ (K38 _ (K43 _ (K45 _ (K46 _ (K48 _ (K49 _ (K51 _ (K52 _ (K57 _ (K61 _ (K62 _ (K66 _ (K67 _ (K71 _ (K72 _ (K76 _ (K77 _ (retN X50 hx (t := .boolean) Bd.returns (by simp) (hb hby at_129) hr)))))))))))))))))))))))))))))))))))))), hrun, hended, _, _, rfl, ?_, ⟨_, rfl⟩, hW, hsame.mono (by decide) (by decide)⟩
          show Q0 Z p1 p2 w_REFERENCE_NAMES w_SHORT_TAGS h0 n0 _ T50.heap _
          rw [e50]
          exact ⟨congrArg (fun z => some (Value.int z)) (show (1 : Int32) = f0 p1 p2 w_REFERENCE_NAMES w_SHORT_TAGS from Eq.symm ((if_neg hc58).trans ((if_neg hc63).trans ((if_neg hc68).trans (if_neg hc73))))), N50, rfl⟩
theorem own_sub (c : Int32) (k : Int64) (h : k = 65 ∨ k = 97) : (c.toInt64 - k).toInt = c.toInt - k.toInt := by
  have e1 : c.toInt64.toInt = c.toInt := Int32.toInt_toInt64 c
  have r1 := c.le_toInt
  have r2 := c.toInt_lt
  have e65 : (65 : Int64).toInt = 65 := by decide
  have e97 : (97 : Int64).toInt = 97 := by decide
  rw [Int64.toInt_sub, e1]
  rcases h with rfl | rfl
  · rw [e65]; exact Int.bmod_eq_of_le (by omega) (by omega)
  · rw [e97]; exact Int.bmod_eq_of_le (by omega) (by omega)
theorem own_a (a : Addr) (c : Int32) : f1 a c a = f2 1 c := by
  have e0 : (0 : Int64).toInt = 0 := by decide
  have e26 : (26 : Int64).toInt = 26 := by decide
  have e65 : (65 : Int64).toInt = 65 := by decide
  have i65 : (65 : Int32).toInt = 65 := by decide
  have i90 : (90 : Int32).toInt = 90 := by decide
  have hu : f2_u1 1 = 65 := if_neg (by decide)
  have hs := own_sub c 65 (Or.inl rfl)
  unfold f1 f2
  rw [hu, if_pos rfl]
  simp only [own_lt]
  simp only [Int32.lt_iff_toInt_lt, Int64.lt_iff_toInt_lt, hs]
  repeat' split
  all_goals first | rfl | (exfalso; omega)
theorem own_b (a w : Addr) (h : a ≠ w) (c : Int32) : f1 a c w = f2 0 c := by
  have e0 : (0 : Int64).toInt = 0 := by decide
  have e26 : (26 : Int64).toInt = 26 := by decide
  have e97 : (97 : Int64).toInt = 97 := by decide
  have i97 : (97 : Int32).toInt = 97 := by decide
  have i122 : (122 : Int32).toInt = 122 := by decide
  have hu : f2_u1 0 = 97 := if_pos rfl
  have hs := own_sub c 97 (Or.inr rfl)
  unfold f1 f2
  rw [hu, if_neg h]
  simp only [own_lt]
  simp only [Int32.lt_iff_toInt_lt, Int64.lt_iff_toInt_lt, hs]
  repeat' split
  all_goals first | rfl | (exfalso; omega)
theorem plain (c k : Int32) (r s : Addr) (h : s ≠ r) : f0 c k r s = 1 := by
  have h1 : f0_u1 c r = 1 := if_pos (own_a _ _)
  have h2 : f0_u2 c r s = 1 := if_pos (own_b _ _ h _)
  have h3 : f0_u3 k r = 1 := if_pos (own_a _ _)
  have h4 : f0_u4 k r s = 1 := if_pos (own_b _ _ h _)
  unfold f0
  rw [h1, h2, h3, h4]
  decide
set_option maxRecDepth 65536 in
set_option maxHeartbeats 40000000 in
theorem comes_1 {Post : Tables → Env → Array Value → State → Outcome → State → Prop} (hpost : ∀ tb e args s v u, (limb_1_1.after args s (.returned v) u = true ∧ limb_1_2.after args s (.returned v) u = true ∧ True) → FrameEnd s (.returned v) u (Jvm.fieldLocs frame_1_writes args s ++ Jvm.arrayLocs frame_1_arrays args s ++ Jvm.staticLocs frame_1_statics s) 0 0 → Post tb e args s (.returned v) u) :
    ArmFor flags0 classFile x code maxLocals ret World_1 tables_1 room_1 Calls_1 rest_1 Pre_1 Post := by
  intro l hfl _ _ p e ha hc hk s m args below hf hA hF happ hP
  obtain ⟨hcalls, hrest, hpre⟩ := hP
  obtain ⟨-, -, -, hnamed, -, -, -, hat⟩ := (Spec.applies_iff hf).mp happ
  obtain ⟨hg, hn⟩ := and_e (Cond.before_iff.mp (show (Jvm.Cond.and given_1 narrow_1).before args s = true from hpre))
  obtain ⟨gc, g0⟩ := and_e hg
  obtain ⟨gi0, g1⟩ := and_e g0
  have gi1 := g1
  obtain ⟨w0, w1, rfl⟩ : ∃ w0 w1 : Value, args = #[w0, w1] := by
    have hs : args.size = 2 := by simpa [Cond.value, given_1] using gc
    obtain ⟨L⟩ := args
    match L, hs with
    | [w0, w1], _ => exact ⟨w0, w1, rfl⟩
  have hw := fun d (hd : d ∈ tables_1) => atoms_spec (ws := Jvm.Cond.code x code maxLocals ret :: tables_1) hat d (List.mem_cons_of_mem _ hd)
  have hfit : Fit s := fun {y c} hc i hi => by
    obtain ⟨ha, rfl⟩ := Array.getElem?_eq_some_iff.mp hc
    have q := List.all_eq_true.mp ((Array.all_eq_true_iff_forall_mem.mp hF) _ (Array.getElem_mem ha)) i (List.mem_range.mpr hi)
    simpa [Array.getElem?_eq_getElem hi] using q
  obtain ⟨i0, ei0⟩ := is_v gi0
  obtain rfl : w0 = (.int i0) := Option.some.inj ei0
  obtain ⟨i1, ei1⟩ := is_v gi1
  obtain rfl : w1 = (.int i1) := Option.some.inj ei1
  obtain ⟨hm0, hn0⟩ := and_e hn
  obtain ⟨hm1, hn1⟩ := and_e hn0
  obtain ⟨hm2, hn2⟩ := and_e hn1
  obtain ⟨w_REFERENCE_NAMES, ev_REFERENCE_NAMES⟩ := exa_v hm0
  have E_w_REFERENCE_NAMES : Exa s s.heap w_REFERENCE_NAMES "com/example/kirjatieto/kirjatieto/onix/TagForm" := Exa.start ev_REFERENCE_NAMES hm0
  have S_REFERENCE_NAMES : Sta s s.heap "com/example/kirjatieto/kirjatieto/onix/TagForm" "REFERENCE_NAMES" "Lcom/example/kirjatieto/kirjatieto/onix/TagForm;" (.ref w_REFERENCE_NAMES) := Sta.start ev_REFERENCE_NAMES (Or.inr ⟨(hw _ (List.mem_of_getElem? (i := 1) rfl)), (hw _ (List.mem_of_getElem? (i := 2) rfl))⟩)
  obtain ⟨w_SHORT_TAGS, ev_SHORT_TAGS⟩ := exa_v hm1
  have E_w_SHORT_TAGS : Exa s s.heap w_SHORT_TAGS "com/example/kirjatieto/kirjatieto/onix/TagForm" := Exa.start ev_SHORT_TAGS hm1
  have S_SHORT_TAGS : Sta s s.heap "com/example/kirjatieto/kirjatieto/onix/TagForm" "SHORT_TAGS" "Lcom/example/kirjatieto/kirjatieto/onix/TagForm;" (.ref w_SHORT_TAGS) := Sta.start ev_SHORT_TAGS (Or.inr ⟨(hw _ (List.mem_of_getElem? (i := 1) rfl)), (hw _ (List.mem_of_getElem? (i := 15) rfl))⟩)
  have F_ordinal_SHORT_TAGS : Fld s s.heap w_SHORT_TAGS "java/lang/Enum" "ordinal" "I" (.int (1 : Int32)) := own_fld ev_SHORT_TAGS hm2
  have F_ordinal_REFERENCE_NAMES : Fld s s.heap w_REFERENCE_NAMES "java/lang/Enum" "ordinal" "I" (.int (0 : Int32)) := own_fld ev_REFERENCE_NAMES hn2
  obtain ⟨n, o, h1, h2, h3, v, L, rfl, ⟨hv, N, -⟩, hq⟩ := rm0 l s _ hw tables_1 i0 i1 w_REFERENCE_NAMES w_SHORT_TAGS s.heap s.heap.size (Nat.le_refl _) S_REFERENCE_NAMES E_w_REFERENCE_NAMES S_SHORT_TAGS E_w_SHORT_TAGS p e ha hc hk s m _ below hf ((Spec.applies_iff_loose hf).mp happ).1 ⟨rfl, State.Warmed39.refl s, rfl⟩ trivial
  rw [plain i0 i1 w_REFERENCE_NAMES w_SHORT_TAGS (Fld.ne F_ordinal_SHORT_TAGS F_ordinal_REFERENCE_NAMES (by decide))] at hv
  subst hv
  refine ⟨n, _, h1, h2, h3, hpost _ _ _ _ _ _ ⟨Cond.after_iff.mpr rfl, Cond.after_iff.mpr (eq_i res_at (Term.int_eval (1)) rfl), trivial⟩ ⟨hq.1, hq.2.1, (hq.2.2.sift fun y hy => Or.inr (N y hy)).mono (by decide) (by decide)⟩⟩
theorem main_1_1 : Claimed_1_1 := comes_1 fun _ _ _ _ _ _ h hF => ⟨h.1, hF⟩
theorem main_1_2 : Claimed_1_2 := comes_1 fun _ _ _ _ _ _ h hF => ⟨h.2.1, hF⟩
end Jvm.Pilot.@@N@@
namespace Jvm.Pilot.@@N@@
open Jvm Jvm.ClassFile Sem Op Lib Jvm.Free Jvm.Stand Jvm.Pilot.@@N@@.Jvm.D
/-! MADE BY PROGRAM (witnessworld.py) out of the Statement's table words and the real class files: 12 classes; the members and pool entries that the words name. The judged class is class 1, her method 2. -/
namespace start1
open Jvm.ClassFile
def u (s : String) : CpInfo := .utf8 (stringToUtf16 s)
/-- a pool by its gaps: so many unusable entries, then the entry; so many at the end -/
def gap : Nat → List CpInfo → List CpInfo
  | 0, r => r
  | n + 1, r => .unusable :: gap n r
def poolList (es : List (Nat × CpInfo)) (last : Nat) : List CpInfo := es.foldr (fun e r => gap e.1 (e.2 :: r)) (gap last [])
def pool (es : List (Nat × CpInfo)) (last : Nat) : Array CpInfo := ⟨poolList es last⟩
def fileOf (pool : Array CpInfo) (this : Nat) (attrs : Array Attribute := #[]) (ms : Array MethodInfo := #[]) (fl : Nat := 33) (sup : Nat := 0) (ifs : Array Nat := #[]) (fds : Array FieldInfo := #[]) : ClassFile where
  minorVersion := 0
  majorVersion := 65
  constantPool := pool
  accessFlags := fl
  thisClass := this
  superClass := sup
  interfaces := ifs
  fields := fds
  methods := ms
  attributes := attrs
def plain (name : String) (sup : Option ClassId) : Class where
  name := name
  kind := .ordinary
  loader := none
  accessFlags := 33
  super := sup
  interfaces := #[]
  cf := none
  fields := #[]
  methods := #[]
  instanceTypes := #[]
  staticTypes := #[]
  resolved := #[]
  callSites := []
  init := .initialized
  statics := none
  mirror := none

def pool0 : Array CpInfo := pool [(5, u "<init>"), (0, u "()V"), (1, .class_ 10), (1, u "java/lang/Object")] 113

def k0m0 : Method := { name := "<init>", desc := "()V", sig := { parameters := [], returnType := none }, accessFlags := 1, code := none }
/-- java/lang/Object -/
def k0 : Class := { plain "java/lang/Object" none with
  accessFlags := 33
  interfaces := #[]
  cf := some (fileOf pool0 8 #[] #[{ accessFlags := 1, nameIndex := 5, descriptorIndex := 6, attributes := #[] }] 33 0 #[] #[])
  fields := #[]
  methods := #[k0m0]
  instanceTypes := #[]
  staticTypes := #[]
  resolved := Array.replicate 124 none
  statics := none }

def pool1 : Array CpInfo := pool [(2, .class_ 4), (1, u "java/lang/Object"), (0, u "<init>"), (0, u "()V"), (0, .long 65), (1, .long 97), (1, .long 26), (1, .fieldref 14 15), (0, .class_ 16), (0, .nameAndType 17 18), (0, u "com/example/kirjatieto/kirjatieto/onix/TagForm"), (0, u "REFERENCE_NAMES"), (0, u "Lcom/example/kirjatieto/kirjatieto/onix/TagForm;"), (0, .methodref 14 20), (0, .nameAndType 21 22), (0, u "initial"), (0, u "(I)Z"), (0, .methodref 24 25), (0, .class_ 26), (0, .nameAndType 27 28), (0, u "com/example/kirjatieto/kirjatieto/onix/TagFormInitialPinLaw"), (0, u "expected"), (0, u "(ZI)Z"), (0, .fieldref 14 30), (0, .nameAndType 31 18), (0, u "SHORT_TAGS"), (3, u "law"), (0, u "(II)Z")] 2

def k1m0 : Method := { name := "<init>", desc := "()V", sig := { parameters := [], returnType := none }, accessFlags := 2, code := none }
def k1c1 : Code := { maxStack := 4, maxLocals := 4, code := method_2_code, exceptionTable := #[], attributes := #[] }
def k1m1 : Method := { name := "expected", desc := "(ZI)Z", sig := { parameters := [.boolean, .int], returnType := some .boolean }, accessFlags := 10, code := some k1c1 }
def k1c2 : Code := { maxStack := 3, maxLocals := 8, code := code, exceptionTable := #[], attributes := #[] }
def k1m2 : Method := { name := "law", desc := "(II)Z", sig := { parameters := [.int, .int], returnType := some .boolean }, accessFlags := 9, code := some k1c2 }
/-- com/example/kirjatieto/kirjatieto/onix/TagFormInitialPinLaw -/
def k1 : Class := { plain "com/example/kirjatieto/kirjatieto/onix/TagFormInitialPinLaw" (some 0) with
  accessFlags := 49
  interfaces := #[]
  cf := some (fileOf pool1 24 #[] #[{ accessFlags := 2, nameIndex := 5, descriptorIndex := 6, attributes := #[] }, { accessFlags := 10, nameIndex := 27, descriptorIndex := 28, attributes := #[] }, { accessFlags := 9, nameIndex := 35, descriptorIndex := 36, attributes := #[] }] 49 2 #[] #[])
  fields := #[]
  methods := #[k1m0, k1m1, k1m2]
  instanceTypes := #[]
  staticTypes := #[]
  resolved := Array.replicate 39 none
  statics := none }

def pool2 : Array CpInfo := pool [(1, .class_ 2), (0, u "java/lang/constant/Constable"), (0, .class_ 4), (0, u "java/lang/Object")] 6

/-- java/lang/constant/Constable -/
def k2 : Class := { plain "java/lang/constant/Constable" (some 0) with
  accessFlags := 1537
  interfaces := #[]
  cf := some (fileOf pool2 1 #[] #[] 1537 3 #[] #[])
  fields := #[]
  methods := #[]
  instanceTypes := #[]
  staticTypes := #[]
  resolved := Array.replicate 11 none
  statics := none }

def pool3 : Array CpInfo := pool [(1, .class_ 2), (0, u "java/lang/Comparable"), (0, .class_ 4), (0, u "java/lang/Object")] 7

/-- java/lang/Comparable -/
def k3 : Class := { plain "java/lang/Comparable" (some 0) with
  accessFlags := 1537
  interfaces := #[]
  cf := some (fileOf pool3 1 #[] #[] 1537 3 #[] #[])
  fields := #[]
  methods := #[]
  instanceTypes := #[]
  staticTypes := #[]
  resolved := Array.replicate 12 none
  statics := none }

def pool4 : Array CpInfo := pool [(1, .class_ 2), (0, u "java/io/Serializable"), (0, .class_ 4), (0, u "java/lang/Object")] 2

/-- java/io/Serializable -/
def k4 : Class := { plain "java/io/Serializable" (some 0) with
  accessFlags := 1537
  interfaces := #[]
  cf := some (fileOf pool4 1 #[] #[] 1537 3 #[] #[])
  fields := #[]
  methods := #[]
  instanceTypes := #[]
  staticTypes := #[]
  resolved := Array.replicate 7 none
  statics := none }

def pool5 : Array CpInfo := pool [(2, .class_ 4), (1, u "java/lang/Enum"), (0, u "name"), (0, u "Ljava/lang/String;"), (2, u "ordinal"), (0, u "I"), (1, .class_ 14), (1, u "java/lang/Object"), (4, u "hash"), (86, .class_ 108), (1, u "java/lang/Enum$EnumDesc"), (2, .class_ 112), (0, u "java/lang/constant/Constable"), (0, .class_ 114), (0, u "java/lang/Comparable"), (0, .class_ 116), (0, u "java/io/Serializable")] 87

/-- java/lang/Enum -/
def k5 : Class := { plain "java/lang/Enum" (some 0) with
  accessFlags := 1057
  interfaces := #[2, 3, 4]
  cf := some (fileOf pool5 2 #[.nestMembers #[106]] #[] 1057 12 #[111, 113, 115] #[{ accessFlags := 18, nameIndex := 5, descriptorIndex := 6, attributes := #[] }, { accessFlags := 18, nameIndex := 9, descriptorIndex := 10, attributes := #[] }, { accessFlags := 2, nameIndex := 19, descriptorIndex := 10, attributes := #[] }])
  fields := #[{ name := "name", type := (.object "java/lang/String"), accessFlags := 18, slot := 0, constantValue := 0 }, { name := "ordinal", type := .int, accessFlags := 18, slot := 1, constantValue := 0 }, { name := "hash", type := .int, accessFlags := 2, slot := 2, constantValue := 0 }]
  methods := #[]
  instanceTypes := #[(.object "java/lang/String"), .int, .int]
  staticTypes := #[]
  resolved := Array.replicate 204 none
  statics := none }

def pool6 : Array CpInfo := pool [(1, .class_ 2), (0, u "com/example/kirjatieto/kirjatieto/onix/TagForm"), (0, .fieldref 1 4), (0, .nameAndType 5 6), (0, u "REFERENCE_NAMES"), (0, u "Lcom/example/kirjatieto/kirjatieto/onix/TagForm;"), (2, u "SHORT_TAGS"), (2, u "$VALUES"), (0, u "[Lcom/example/kirjatieto/kirjatieto/onix/TagForm;"), (6, .class_ 22), (1, u "java/lang/Enum"), (8, u "label"), (0, u "Ljava/lang/String;"), (2, u "root"), (2, u "namespace"), (12, u "initial"), (0, u "(I)Z")] 91

def k6c0 : Code := { maxStack := 2, maxLocals := 2, code := prog_66_method_8_code, exceptionTable := #[], attributes := #[] }
def k6m0 : Method := { name := "initial", desc := "(I)Z", sig := { parameters := [.int], returnType := some .boolean }, accessFlags := 0, code := some k6c0 }
/-- com/example/kirjatieto/kirjatieto/onix/TagForm -/
def k6 : Class := { plain "com/example/kirjatieto/kirjatieto/onix/TagForm" (some 5) with
  accessFlags := 16432
  interfaces := #[]
  cf := some (fileOf pool6 1 #[] #[{ accessFlags := 0, nameIndex := 51, descriptorIndex := 52, attributes := #[] }] 16432 20 #[] #[{ accessFlags := 16409, nameIndex := 5, descriptorIndex := 6, attributes := #[] }, { accessFlags := 16409, nameIndex := 9, descriptorIndex := 6, attributes := #[] }, { accessFlags := 18, nameIndex := 31, descriptorIndex := 32, attributes := #[] }, { accessFlags := 18, nameIndex := 35, descriptorIndex := 32, attributes := #[] }, { accessFlags := 18, nameIndex := 38, descriptorIndex := 32, attributes := #[] }, { accessFlags := 4122, nameIndex := 12, descriptorIndex := 13, attributes := #[] }])
  fields := #[{ name := "REFERENCE_NAMES", type := (.object "com/example/kirjatieto/kirjatieto/onix/TagForm"), accessFlags := 16409, slot := 0, constantValue := 0 }, { name := "SHORT_TAGS", type := (.object "com/example/kirjatieto/kirjatieto/onix/TagForm"), accessFlags := 16409, slot := 1, constantValue := 0 }, { name := "label", type := (.object "java/lang/String"), accessFlags := 18, slot := 3, constantValue := 0 }, { name := "root", type := (.object "java/lang/String"), accessFlags := 18, slot := 4, constantValue := 0 }, { name := "namespace", type := (.object "java/lang/String"), accessFlags := 18, slot := 5, constantValue := 0 }, { name := "$VALUES", type := (.array (.object "com/example/kirjatieto/kirjatieto/onix/TagForm")), accessFlags := 4122, slot := 2, constantValue := 0 }]
  methods := #[k6m0]
  instanceTypes := #[(.object "java/lang/String"), .int, .int, (.object "java/lang/String"), (.object "java/lang/String"), (.object "java/lang/String")]
  staticTypes := #[(.object "com/example/kirjatieto/kirjatieto/onix/TagForm"), (.object "com/example/kirjatieto/kirjatieto/onix/TagForm"), (.array (.object "com/example/kirjatieto/kirjatieto/onix/TagForm"))]
  resolved := Array.replicate 144 none
  statics := some 0 }

def pool7 : Array CpInfo := pool [(1, u "java/lang/Cloneable"), (0, .class_ 1), (0, u "java/lang/Object"), (0, .class_ 3)] 3

/-- java/lang/Cloneable -/
def k7 : Class := { plain "java/lang/Cloneable" (some 0) with
  accessFlags := 1537
  interfaces := #[]
  cf := some (fileOf pool7 2 #[] #[] 1537 4 #[] #[])
  fields := #[]
  methods := #[]
  instanceTypes := #[]
  staticTypes := #[]
  resolved := Array.replicate 8 none
  statics := none }

/-- the primitive byte -/
def k8 : Class := { plain "byte" none with kind := .primitive 'B', accessFlags := 0x411 }
/-- [B -/
def k9 : Class := { plain "[B" (some 0) with kind := .array 8 .byte, interfaces := #[7, 4], accessFlags := 1041 }

/-- the primitive int -/
def k10 : Class := { plain "int" none with kind := .primitive 'I', accessFlags := 0x411 }
/-- [I -/
def k11 : Class := { plain "[I" (some 0) with kind := .array 10 .int, interfaces := #[7, 4], accessFlags := 1041 }

def heap : Heap := #[{ cls := 6, slots := #[.ref 1, .ref 2, .null], vm := .statics 6 },
  { cls := 6, slots := #[.null, .int 0, .int 0, .null, .null, .null], vm := .none },
  { cls := 6, slots := #[.null, .int 1, .int 0, .null, .null, .null], vm := .none }]
def classes : Array Class := #[k0, k1, k2, k3, k4, k5, k6, k7, k8, k9, k10, k11]
def interned : List (Array UInt16 × Addr) := []
def slotsUsed : Nat := 15
def theMethod : MethodId := ⟨1, 2⟩
def args0 : Array Value := #[.int 5, .int 6]
def aboutOver (below : List Frame) : State where
  vm := { classes := classes, interned := interned.toArray }
  heap := heap
  slotsUsed := slotsUsed
  threads := #[{ frames := .invoking theMethod args0 :: below }]
def below0 : List Frame := [.native { method := ⟨0, 0⟩, args := #[] }]
def about1 : State := aboutOver below0
def p0 : Program := .bare "" "" ""
def e0 : Env := launch0.env 0 0 0
theorem w_frames : about1.frames = Frame.invoking theMethod args0 :: below0 := rfl
set_option maxRecDepth 65536 in
theorem w_args : argsFit about1.vm theMethod args0 = true := by decide +kernel
set_option maxRecDepth 65536 in
theorem w_heap : heapFits about1 = true := by decide +kernel
set_option maxRecDepth 65536 in
theorem w_runnable : about1.curStatus? = some .runnable := by decide +kernel
set_option maxRecDepth 65536 in
theorem w_alone : about1.alone = true := by decide +kernel
set_option maxRecDepth 65536 in
theorem w_named : about1.methodNamed? x = some theMethod := by decide +kernel
set_option maxRecDepth 65536 in
theorem w_hears : about1.hears theMethod below0 = true := by decide +kernel
set_option maxRecDepth 65536 in
theorem w_ripe : about1.ripe theMethod args0 below0 = true := by decide +kernel
theorem w_running : about1.status = .running := rfl
set_option maxRecDepth 65536 in
theorem w_room : about1.hasRoom e0.platform room_1 = true :=
  launch0.hasRoom_least _ room_1 (by decide +kernel) (by decide +kernel) (by decide +kernel) (by decide +kernel) (by decide +kernel) (by decide +kernel)
theorem allAtoms_all (ts : List Jvm.Cond) (a : Array Jvm.Value) (st : Jvm.State) : (allAtoms ts).before a st = ts.all (fun c => c.before a st) := by
  induction ts with
  | nil => rfl
  | cons c t ih =>
    show (Jvm.Cond.and c (allAtoms t)).before a st = _
    rw [Jvm.Cond.before_and, ih, List.all_cons]
def words1 : List Jvm.Cond := Jvm.Cond.code x code maxLocals ret :: tables_1
/-- a 'code' word, met by the world's own term for the bytes: nothing is compared byte by byte -/
theorem code_word {y : MethodName} {bytes : ByteArray} {mx : Nat} {rt : Option FieldType} {a : Array Value} {s : State} {m : MethodId} {meth : Method} {c : Code} (h1 : s.methodNamed? y = some m) (h2 : s.vm.method? m = some meth) (h3 : meth.code = some c) (h4 : c.code = bytes)
    (h5 : (c.maxLocals == mx && c.exceptionTable.isEmpty && decide (c.maxStack ≤ mostOperands) && decide (meth.sig.returnType = rt) && !meth.locks && decide (parseMethodDescriptor y.desc = some meth.sig)) = true) : (Jvm.Cond.code y bytes mx rt).before a s = true := by
  simp only [Bool.and_eq_true, beq_iff_eq, Bool.not_eq_true', decide_eq_true_eq] at h5
  obtain ⟨⟨⟨⟨⟨g1, g2⟩, g3⟩, g4⟩, g5⟩, g6⟩ := h5
  simp [Cond.before, Cond.holds, Cond.value, h1, h2, h3, h4, g1, g2, g3, g4, g5, g6]
def isCode : Jvm.Cond → Bool
  | .code _ _ _ _ => true
  | _ => false
theorem all_split {L : List Jvm.Cond} {P : Jvm.Cond → Bool} (h1 : L.all (fun c => isCode c || P c) = true) (h2 : ∀ c ∈ L.filter isCode, P c = true) : L.all P = true := by
  refine List.all_eq_true.mpr fun c hc => ?_
  have h := List.all_eq_true.mp h1 c hc
  rcases Bool.eq_false_or_eq_true (isCode c) with hi | hi
  · exact h2 c (List.mem_filter.mpr ⟨hc, hi⟩)
  · simpa [hi] using h
set_option maxRecDepth 65536 in
theorem w_c0 : (Jvm.Cond.code x code maxLocals ret).before args0 about1 = true := code_word (m := ⟨1, 2⟩) (meth := k1m2) (c := k1c2) (by decide +kernel) rfl rfl rfl (by decide +kernel)
set_option maxRecDepth 65536 in
theorem w_c1 : (Jvm.Cond.code ({ cls := "com/example/kirjatieto/kirjatieto/onix/TagForm", name := "initial", desc := "(I)Z" } : Jvm.MethodName) prog_66_method_8_code (2 : Nat) (Option.some Jvm.ClassFile.FieldType.boolean)).before args0 about1 = true := code_word (m := ⟨6, 0⟩) (meth := k6m0) (c := k6c0) (by decide +kernel) rfl rfl rfl (by decide +kernel)
set_option maxRecDepth 65536 in
theorem w_c2 : (Jvm.Cond.code ({ cls := "com/example/kirjatieto/kirjatieto/onix/TagFormInitialPinLaw", name := "expected", desc := "(ZI)Z" } : Jvm.MethodName) method_2_code (4 : Nat) (Option.some Jvm.ClassFile.FieldType.boolean)).before args0 about1 = true := code_word (m := ⟨1, 1⟩) (meth := k1m1) (c := k1c1) (by decide +kernel) rfl rfl rfl (by decide +kernel)
def codes1 : List Jvm.Cond := [Jvm.Cond.code x code maxLocals ret, Jvm.Cond.code ({ cls := "com/example/kirjatieto/kirjatieto/onix/TagForm", name := "initial", desc := "(I)Z" } : Jvm.MethodName) prog_66_method_8_code (2 : Nat) (Option.some Jvm.ClassFile.FieldType.boolean), Jvm.Cond.code ({ cls := "com/example/kirjatieto/kirjatieto/onix/TagFormInitialPinLaw", name := "expected", desc := "(ZI)Z" } : Jvm.MethodName) method_2_code (4 : Nat) (Option.some Jvm.ClassFile.FieldType.boolean)]
set_option maxRecDepth 65536 in
theorem codes_eq : words1.filter isCode = codes1 := rfl
theorem w_codes : ∀ c ∈ words1.filter isCode, c.before args0 about1 = true := by
  rw [codes_eq]
  intro c hc
  simp only [codes1, List.mem_cons, List.not_mem_nil, or_false] at hc
  rcases hc with rfl | rfl | rfl
  · exact w_c0
  · exact w_c1
  · exact w_c2
set_option maxRecDepth 65536 in
theorem w_t1 : words1.all (fun c => isCode c || c.before args0 about1) = true := by decide +kernel
theorem w_tables : (allAtoms (Jvm.Cond.code x code maxLocals ret :: tables_1)).before args0 about1 = true := by
  rw [allAtoms_all]
  show words1.all (fun c => c.before args0 about1) = true
  refine all_split ?_ w_codes
  rw [w_t1]
set_option maxRecDepth 65536 in
theorem w_case : (Jvm.Cond.and given_1 narrow_1).before args0 about1 = true := by decide +kernel
theorem w_applies : (headSpec (Jvm.Cond.code x code maxLocals ret :: tables_1) room_1).applies x e0.platform about1 = true :=
  (Spec.applies_iff w_frames).mpr ⟨w_running, w_runnable, w_alone, w_named, w_hears, w_ripe, w_room, w_tables⟩
theorem atStart : AtStart classFile x code maxLocals ret World_1 tables_1 room_1 Calls_1 rest_1 Pre_1 launch0 p0 e0 about1 theMethod args0 below0 :=
  ⟨lists_1, trivial, launch0.admits_env _ _ _, launch0.least_env, fairChoices_fair.cas, fairChoices_fair.clock, w_frames, w_args, w_heap, w_applies, trivial, trivial, w_case⟩
end start1
theorem witness_1 : WitnessClaimed_1 := ⟨start1.p0, start1.e0, start1.about1, start1.theMethod, start1.args0, start1.below0, start1.atStart⟩
end Jvm.Pilot.@@N@@
