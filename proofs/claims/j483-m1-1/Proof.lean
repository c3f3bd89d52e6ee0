import JvmDerived
import JvmDerived.Pilot.@@N@@Statement
import JvmDerived.Pilot.@@N@@Code
set_option linter.unusedVariables false
set_option linter.unusedSimpArgs false
namespace Jvm.RoadKit
open Sem ClassFile Op Lib Jvm.Stand Jvm.Free Jvm.LawKit
section New
variable {p : Program} {l : Launch} {e : Env} {R : Room} {s : State} {m : MethodId} {args : Array Value} {below : List Frame} {meth : Method} {c : Code} {T : State} {locs : List Loc} {cells slots : Nat}
theorem retI (X : Stand p l e R s m args below meth c T locs cells slots) (hx : p.tables.exec = Jvm.exec) {pc : Nat} {Ls : Array Slot} {z : Int32} {rest : List Value} (hret : meth.sig.returnType = some .int) (hd : decode c.code pc = .ok (.ireturn, 1)) {fs : List Frame}
    (hl : ∀ (f : JFrame) (acts : List Action), f.method = m → f.locked = none → f.entered = [] → (doReturn e (T.setTop f) acts (some (.int z))).1 = T.setFrames fs) : Steps p.tables e below (T.setTop (mkF m pc Ls (.int z :: rest))) (T.setFrames fs) := by
  have hm' : T.vm.method? m = some meth := X.method'
  have hn : narrow .int (.int z) = .int z := rfl
  show Steps p.tables e below (T.setTop { method := m, pc := pc, locals := Ls, stack := _ :: rest, locked := none }) _
  jvm_step X.here [X.here.top, hx, hd, hm', hret, hn]
  first | (intro acts; rw [hl _ acts rfl rfl rfl]) | rw [hl _ _ rfl rfl rfl]
  exact Steps.refl _
end New
end Jvm.RoadKit
namespace Jvm.Pilot.@@N@@
open Jvm Jvm.ClassFile Sem Op Lib Jvm.Free Jvm.Stand Jvm.LawKit Jvm.RoadKit Bundle Jvm.Pilot.@@N@@.Jvm.D
-- body 1: com/example/hilera/hilera/http/ErrorCode.forStatus(I)Lcom/example/hilera/hilera/http/ErrorCode;
theorem d1_0 : decode prog_20_method_8_code 0 = .ok (.iload_n 0, 1) := by decide +kernel
theorem d1_1 : decode prog_20_method_8_code 1 = .ok (.lookupswitch 75 #[(404, 59), (405, 63), (413, 67), (414, 67), (431, 67), (505, 71)], 59) := by decide +kernel
theorem d1_60 : decode prog_20_method_8_code 60 = .ok (.getstatic 16, 3) := by decide +kernel
theorem d1_63 : decode prog_20_method_8_code 63 = .ok (.areturn, 1) := by decide +kernel
theorem d1_64 : decode prog_20_method_8_code 64 = .ok (.getstatic 19, 3) := by decide +kernel
theorem d1_67 : decode prog_20_method_8_code 67 = .ok (.areturn, 1) := by decide +kernel
theorem d1_68 : decode prog_20_method_8_code 68 = .ok (.getstatic 31, 3) := by decide +kernel
theorem d1_71 : decode prog_20_method_8_code 71 = .ok (.areturn, 1) := by decide +kernel
theorem d1_72 : decode prog_20_method_8_code 72 = .ok (.getstatic 3, 3) := by decide +kernel
theorem d1_75 : decode prog_20_method_8_code 75 = .ok (.areturn, 1) := by decide +kernel
theorem d1_76 : decode prog_20_method_8_code 76 = .ok (.iload_n 0, 1) := by decide +kernel
theorem d1_77 : decode prog_20_method_8_code 77 = .ok (.sipush 500, 3) := by decide +kernel
theorem d1_80 : decode prog_20_method_8_code 80 = .ok (.if_icmp .ge 9, 3) := by decide +kernel
theorem d1_83 : decode prog_20_method_8_code 83 = .ok (.getstatic 3, 3) := by decide +kernel
theorem d1_86 : decode prog_20_method_8_code 86 = .ok (.goto 6, 3) := by decide +kernel
theorem d1_89 : decode prog_20_method_8_code 89 = .ok (.getstatic 37, 3) := by decide +kernel
theorem d1_92 : decode prog_20_method_8_code 92 = .ok (.areturn, 1) := by decide +kernel
theorem pn_1 : plainName "com/example/hilera/hilera/http/ErrorCode" = true := by first | (simp [plainName, overriddenIn]; done) | decide +kernel
theorem ef_1 (m : MethodId) (p1 : Int32) : entryFrame m #[(.int p1)] 1 = mkF m 0 #[.val (.int p1)] [] := by first | (simp [entryFrame, mkF, argsToLocals, Value.category]; done) | rfl
def f1 (p1 : Int32) (w_NOT_FOUND : Addr) (w_METHOD_NOT_ALLOWED : Addr) (w_TOO_LARGE : Addr) (w_BAD_REQUEST : Addr) (w_INTERNAL_ERROR : Addr) : Addr := (if p1 = (404 : Int32) then w_NOT_FOUND else (if p1 = (405 : Int32) then w_METHOD_NOT_ALLOWED else (if p1 = (413 : Int32) then w_TOO_LARGE else (if p1 = (414 : Int32) then w_TOO_LARGE else (if p1 = (431 : Int32) then w_TOO_LARGE else (if p1 = (505 : Int32) then w_BAD_REQUEST else (if p1 < (500 : Int32) then w_BAD_REQUEST else w_INTERNAL_ERROR)))))))
def Q1 (Z : State) (p1 : Int32) (w_NOT_FOUND : Addr) (w_METHOD_NOT_ALLOWED : Addr) (w_TOO_LARGE : Addr) (w_BAD_REQUEST : Addr) (w_INTERNAL_ERROR : Addr) (h0 : Heap) (n0 : Nat) (v : Option Value) (h : Heap) (L : List Loc) : Prop := v = some (.ref (f1 p1 w_NOT_FOUND w_METHOD_NOT_ALLOWED w_TOO_LARGE w_BAD_REQUEST w_INTERNAL_ERROR)) ∧ Fr n0 L ∧ h = h0
set_option maxRecDepth 65536 in
set_option maxHeartbeats 40000000 in
theorem rm1 (l : Launch) (Z : State) (a0 : Array Value) (hw : ∀ d ∈ tables_1, d.before a0 Z = true) (ws : List Jvm.Cond) (p1 : Int32) (w_NOT_FOUND : Addr) (w_METHOD_NOT_ALLOWED : Addr) (w_TOO_LARGE : Addr) (w_BAD_REQUEST : Addr) (w_INTERNAL_ERROR : Addr) (h0 : Heap) (n0 : Nat) (Z0 : n0 ≤ h0.size) (S_NOT_FOUND : Sta Z h0 "com/example/hilera/hilera/http/ErrorCode" "NOT_FOUND" "Lcom/example/hilera/hilera/http/ErrorCode;" (.ref w_NOT_FOUND)) (S_METHOD_NOT_ALLOWED : Sta Z h0 "com/example/hilera/hilera/http/ErrorCode" "METHOD_NOT_ALLOWED" "Lcom/example/hilera/hilera/http/ErrorCode;" (.ref w_METHOD_NOT_ALLOWED)) (S_TOO_LARGE : Sta Z h0 "com/example/hilera/hilera/http/ErrorCode" "TOO_LARGE" "Lcom/example/hilera/hilera/http/ErrorCode;" (.ref w_TOO_LARGE)) (S_BAD_REQUEST : Sta Z h0 "com/example/hilera/hilera/http/ErrorCode" "BAD_REQUEST" "Lcom/example/hilera/hilera/http/ErrorCode;" (.ref w_BAD_REQUEST)) (S_INTERNAL_ERROR : Sta Z h0 "com/example/hilera/hilera/http/ErrorCode" "INTERNAL_ERROR" "Lcom/example/hilera/hilera/http/ErrorCode;" (.ref w_INTERNAL_ERROR)) :
    MetFree l (⟨"com/example/hilera/hilera/http/ErrorCode", "forStatus", "(I)Lcom/example/hilera/hilera/http/ErrorCode;"⟩ : MethodName) (head1 (Jvm.Cond.code (⟨"com/example/hilera/hilera/http/ErrorCode", "forStatus", "(I)Lcom/example/hilera/hilera/http/ErrorCode;"⟩ : MethodName) prog_20_method_8_code 1 (some (.object "com/example/hilera/hilera/http/ErrorCode")) :: ws) ({ frames := 0, cells := 0, slots := 0, locals := 0 } : Room)) (fun a U => a = #[(.int p1)] ∧ Z.Warmed39 U.vm ∧ U.heap = h0) (fun _ _ _ _ _ => True) (fun _ U o U' => ∃ v L, o = .returned v ∧ Q1 Z p1 w_NOT_FOUND w_METHOD_NOT_ALLOWED w_TOO_LARGE w_BAD_REQUEST w_INTERNAL_ERROR h0 n0 v U'.heap L ∧ FrameEnd U o U' L ({ frames := 0, cells := 0, slots := 0, locals := 0 } : Room).cells ({ frames := 0, cells := 0, slots := 0, locals := 0 } : Room).slots) := by
  refine MetFree.of_bodySF (plainFor_of_name pn_1) hisR ?_
  intro p e s m args below meth c s₁ Bd hml0 hP hK
  obtain ⟨rfl, hZ, hh⟩ := hP
  have hx := Bd.exec
  have hby := Bd.bytes
  have hml : c.maxLocals = 1 := hml0
  have hown : s.vm.findClass "com/example/hilera/hilera/http/ErrorCode" = some m.cls := findClass_of_methodNamed Bd.named
  have hnm := (name_of_methodNamed Bd.named Bd.method).1
  have X0 : Stand p l e ({ frames := 0, cells := 0, slots := 0, locals := 0 } : Room) s m #[(.int p1)] below meth c s₁ [] 0 0 := Stand.of_body Bd
  have e0 : s₁.heap = h0 := by rw [← hh, Bd.state]; rfl
  have N0 := Fr.nil n0
  have pre0 : ∀ t, Steps p.tables e below (s₁.setTop (mkF m 0 #[.val (.int p1)] [])) t → Steps p.tables e below (s₁.setTop (entryFrame m #[(.int p1)] 1)) t := fun t k => castTop (ef_1 m p1) k
  have K1 : ∀ t, Steps p.tables e below (s₁.setTop (mkF m 1 #[.val (.int p1)] [(.int p1)])) t → Steps p.tables e below (s₁.setTop (mkF m 0 #[.val (.int p1)] [])) t := by
    intro t k
    refine XS.iloadN X0.here hx rfl (hb hby d1_0) rfl ?_
    show Steps p.tables e below (s₁.setTop (mkF m 1 #[.val (.int p1)] [(.int p1)])) t
    exact k
  by_cases hc2 : p1 = (404 : Int32)
  · have K3 : ∀ t, Steps p.tables e below (s₁.setTop (mkF m 60 #[.val (.int p1)] [])) t → Steps p.tables e below (s₁.setTop (mkF m 1 #[.val (.int p1)] [(.int p1)])) t := by
      intro t k
      exact X0.lookupswitchHit hx (g := (mkF m 1 #[.val (.int p1)] [(.int p1)])) rfl rfl (hb hby d1_1) (by decide) (a := 404) (off := 59) (by rw [hc2]; rfl) (by show (0 : Int) ≤ ((1 : Nat) : Int) + 59; decide) _ k
    obtain ⟨T4, X4, e4, st4⟩ := getS2 X0 hx hZ hown (host := "") (Or.inl (hw _ (List.mem_of_getElem? (i := 21) rfl))) Via.refl e0 S_NOT_FOUND (g := (mkF m 60 #[.val (.int p1)] [])) rfl (hb hby d1_60)
    have K5 : ∀ t, Steps p.tables e below (T4.setTop (mkF m 63 #[.val (.int p1)] [(.ref w_NOT_FOUND)])) t → Steps p.tables e below (s₁.setTop (mkF m 60 #[.val (.int p1)] [])) t := fun t k => st4 _ k
    obtain ⟨fs, hr, hrun, hended, hW, hsame⟩ := X4.leave (v := some (.ref w_NOT_FOUND)) (fun h => by rw [Bd.returns] at h; cases h)
    refine ⟨_, _, pre0 _ (K1 _ (K3 _ (K5 _ (retOut X4 hx Bd.returns rfl (Or.inr (Or.inr (Or.inr (Or.inr ⟨rfl, rfl, rfl⟩)))) (hb hby d1_63) hr)))), hrun, hended, _, _, rfl, ?_, ⟨_, rfl⟩, hW, hsame.mono (by decide) (by decide)⟩
    show Q1 Z p1 w_NOT_FOUND w_METHOD_NOT_ALLOWED w_TOO_LARGE w_BAD_REQUEST w_INTERNAL_ERROR h0 n0 _ T4.heap _
    rw [e4]
    exact ⟨congrArg (fun z => some (Value.ref z)) (show w_NOT_FOUND = f1 p1 w_NOT_FOUND w_METHOD_NOT_ALLOWED w_TOO_LARGE w_BAD_REQUEST w_INTERNAL_ERROR from Eq.symm (if_pos hc2)), N0, rfl⟩
  · by_cases hc6 : p1 = (405 : Int32)
    · have K7 : ∀ t, Steps p.tables e below (s₁.setTop (mkF m 64 #[.val (.int p1)] [])) t → Steps p.tables e below (s₁.setTop (mkF m 1 #[.val (.int p1)] [(.int p1)])) t := by
        intro t k
        exact X0.lookupswitchHit hx (g := (mkF m 1 #[.val (.int p1)] [(.int p1)])) rfl rfl (hb hby d1_1) (by decide) (a := 405) (off := 63) (by rw [hc6]; rfl) (by show (0 : Int) ≤ ((1 : Nat) : Int) + 63; decide) _ k
      obtain ⟨T8, X8, e8, st8⟩ := getS2 X0 hx hZ hown (host := "") (Or.inl (hw _ (List.mem_of_getElem? (i := 18) rfl))) Via.refl e0 S_METHOD_NOT_ALLOWED (g := (mkF m 64 #[.val (.int p1)] [])) rfl (hb hby d1_64)
      have K9 : ∀ t, Steps p.tables e below (T8.setTop (mkF m 67 #[.val (.int p1)] [(.ref w_METHOD_NOT_ALLOWED)])) t → Steps p.tables e below (s₁.setTop (mkF m 64 #[.val (.int p1)] [])) t := fun t k => st8 _ k
      obtain ⟨fs, hr, hrun, hended, hW, hsame⟩ := X8.leave (v := some (.ref w_METHOD_NOT_ALLOWED)) (fun h => by rw [Bd.returns] at h; cases h)
      refine ⟨_, _, pre0 _ (K1 _ (K7 _ (K9 _ (retOut X8 hx Bd.returns rfl (Or.inr (Or.inr (Or.inr (Or.inr ⟨rfl, rfl, rfl⟩)))) (hb hby d1_67) hr)))), hrun, hended, _, _, rfl, ?_, ⟨_, rfl⟩, hW, hsame.mono (by decide) (by decide)⟩
      show Q1 Z p1 w_NOT_FOUND w_METHOD_NOT_ALLOWED w_TOO_LARGE w_BAD_REQUEST w_INTERNAL_ERROR h0 n0 _ T8.heap _
      rw [e8]
      exact ⟨congrArg (fun z => some (Value.ref z)) (show w_METHOD_NOT_ALLOWED = f1 p1 w_NOT_FOUND w_METHOD_NOT_ALLOWED w_TOO_LARGE w_BAD_REQUEST w_INTERNAL_ERROR from Eq.symm ((if_neg hc2).trans (if_pos hc6))), N0, rfl⟩
    · by_cases hc10 : p1 = (413 : Int32)
      · have K11 : ∀ t, Steps p.tables e below (s₁.setTop (mkF m 68 #[.val (.int p1)] [])) t → Steps p.tables e below (s₁.setTop (mkF m 1 #[.val (.int p1)] [(.int p1)])) t := by
          intro t k
          exact X0.lookupswitchHit hx (g := (mkF m 1 #[.val (.int p1)] [(.int p1)])) rfl rfl (hb hby d1_1) (by decide) (a := 413) (off := 67) (by rw [hc10]; rfl) (by show (0 : Int) ≤ ((1 : Nat) : Int) + 67; decide) _ k
        obtain ⟨T12, X12, e12, st12⟩ := getS2 X0 hx hZ hown (host := "") (Or.inl (hw _ (List.mem_of_getElem? (i := 12) rfl))) Via.refl e0 S_TOO_LARGE (g := (mkF m 68 #[.val (.int p1)] [])) rfl (hb hby d1_68)
        have K13 : ∀ t, Steps p.tables e below (T12.setTop (mkF m 71 #[.val (.int p1)] [(.ref w_TOO_LARGE)])) t → Steps p.tables e below (s₁.setTop (mkF m 68 #[.val (.int p1)] [])) t := fun t k => st12 _ k
        obtain ⟨fs, hr, hrun, hended, hW, hsame⟩ := X12.leave (v := some (.ref w_TOO_LARGE)) (fun h => by rw [Bd.returns] at h; cases h)
        refine ⟨_, _, pre0 _ (K1 _ (K11 _ (K13 _ (retOut X12 hx Bd.returns rfl (Or.inr (Or.inr (Or.inr (Or.inr ⟨rfl, rfl, rfl⟩)))) (hb hby d1_71) hr)))), hrun, hended, _, _, rfl, ?_, ⟨_, rfl⟩, hW, hsame.mono (by decide) (by decide)⟩
        show Q1 Z p1 w_NOT_FOUND w_METHOD_NOT_ALLOWED w_TOO_LARGE w_BAD_REQUEST w_INTERNAL_ERROR h0 n0 _ T12.heap _
        rw [e12]
        exact ⟨congrArg (fun z => some (Value.ref z)) (show w_TOO_LARGE = f1 p1 w_NOT_FOUND w_METHOD_NOT_ALLOWED w_TOO_LARGE w_BAD_REQUEST w_INTERNAL_ERROR from Eq.symm ((if_neg hc2).trans ((if_neg hc6).trans (if_pos hc10)))), N0, rfl⟩
      · by_cases hc14 : p1 = (414 : Int32)
        · have K15 : ∀ t, Steps p.tables e below (s₁.setTop (mkF m 68 #[.val (.int p1)] [])) t → Steps p.tables e below (s₁.setTop (mkF m 1 #[.val (.int p1)] [(.int p1)])) t := by
            intro t k
            exact X0.lookupswitchHit hx (g := (mkF m 1 #[.val (.int p1)] [(.int p1)])) rfl rfl (hb hby d1_1) (by decide) (a := 414) (off := 67) (by rw [hc14]; rfl) (by show (0 : Int) ≤ ((1 : Nat) : Int) + 67; decide) _ k
          obtain ⟨T16, X16, e16, st16⟩ := getS2 X0 hx hZ hown (host := "") (Or.inl (hw _ (List.mem_of_getElem? (i := 12) rfl))) Via.refl e0 S_TOO_LARGE (g := (mkF m 68 #[.val (.int p1)] [])) rfl (hb hby d1_68)
          have K17 : ∀ t, Steps p.tables e below (T16.setTop (mkF m 71 #[.val (.int p1)] [(.ref w_TOO_LARGE)])) t → Steps p.tables e below (s₁.setTop (mkF m 68 #[.val (.int p1)] [])) t := fun t k => st16 _ k
          obtain ⟨fs, hr, hrun, hended, hW, hsame⟩ := X16.leave (v := some (.ref w_TOO_LARGE)) (fun h => by rw [Bd.returns] at h; cases h)
          refine ⟨_, _, pre0 _ (K1 _ (K15 _ (K17 _ (retOut X16 hx Bd.returns rfl (Or.inr (Or.inr (Or.inr (Or.inr ⟨rfl, rfl, rfl⟩)))) (hb hby d1_71) hr)))), hrun, hended, _, _, rfl, ?_, ⟨_, rfl⟩, hW, hsame.mono (by decide) (by decide)⟩
          show Q1 Z p1 w_NOT_FOUND w_METHOD_NOT_ALLOWED w_TOO_LARGE w_BAD_REQUEST w_INTERNAL_ERROR h0 n0 _ T16.heap _
          rw [e16]
          exact ⟨congrArg (fun z => some (Value.ref z)) (show w_TOO_LARGE = f1 p1 w_NOT_FOUND w_METHOD_NOT_ALLOWED w_TOO_LARGE w_BAD_REQUEST w_INTERNAL_ERROR from Eq.symm ((if_neg hc2).trans ((if_neg hc6).trans ((if_neg hc10).trans (if_pos hc14))))), N0, rfl⟩
        · by_cases hc18 : p1 = (431 : Int32)
          · have K19 : ∀ t, Steps p.tables e below (s₁.setTop (mkF m 68 #[.val (.int p1)] [])) t → Steps p.tables e below (s₁.setTop (mkF m 1 #[.val (.int p1)] [(.int p1)])) t := by
              intro t k
              exact X0.lookupswitchHit hx (g := (mkF m 1 #[.val (.int p1)] [(.int p1)])) rfl rfl (hb hby d1_1) (by decide) (a := 431) (off := 67) (by rw [hc18]; rfl) (by show (0 : Int) ≤ ((1 : Nat) : Int) + 67; decide) _ k
            obtain ⟨T20, X20, e20, st20⟩ := getS2 X0 hx hZ hown (host := "") (Or.inl (hw _ (List.mem_of_getElem? (i := 12) rfl))) Via.refl e0 S_TOO_LARGE (g := (mkF m 68 #[.val (.int p1)] [])) rfl (hb hby d1_68)
            have K21 : ∀ t, Steps p.tables e below (T20.setTop (mkF m 71 #[.val (.int p1)] [(.ref w_TOO_LARGE)])) t → Steps p.tables e below (s₁.setTop (mkF m 68 #[.val (.int p1)] [])) t := fun t k => st20 _ k
            obtain ⟨fs, hr, hrun, hended, hW, hsame⟩ := X20.leave (v := some (.ref w_TOO_LARGE)) (fun h => by rw [Bd.returns] at h; cases h)
            refine ⟨_, _, pre0 _ (K1 _ (K19 _ (K21 _ (retOut X20 hx Bd.returns rfl (Or.inr (Or.inr (Or.inr (Or.inr ⟨rfl, rfl, rfl⟩)))) (hb hby d1_71) hr)))), hrun, hended, _, _, rfl, ?_, ⟨_, rfl⟩, hW, hsame.mono (by decide) (by decide)⟩
            show Q1 Z p1 w_NOT_FOUND w_METHOD_NOT_ALLOWED w_TOO_LARGE w_BAD_REQUEST w_INTERNAL_ERROR h0 n0 _ T20.heap _
            rw [e20]
            exact ⟨congrArg (fun z => some (Value.ref z)) (show w_TOO_LARGE = f1 p1 w_NOT_FOUND w_METHOD_NOT_ALLOWED w_TOO_LARGE w_BAD_REQUEST w_INTERNAL_ERROR from Eq.symm ((if_neg hc2).trans ((if_neg hc6).trans ((if_neg hc10).trans ((if_neg hc14).trans (if_pos hc18)))))), N0, rfl⟩
          · by_cases hc22 : p1 = (505 : Int32)
            · have K23 : ∀ t, Steps p.tables e below (s₁.setTop (mkF m 72 #[.val (.int p1)] [])) t → Steps p.tables e below (s₁.setTop (mkF m 1 #[.val (.int p1)] [(.int p1)])) t := by
                intro t k
                exact X0.lookupswitchHit hx (g := (mkF m 1 #[.val (.int p1)] [(.int p1)])) rfl rfl (hb hby d1_1) (by decide) (a := 505) (off := 71) (by rw [hc22]; rfl) (by show (0 : Int) ≤ ((1 : Nat) : Int) + 71; decide) _ k
              obtain ⟨T24, X24, e24, st24⟩ := getS2 X0 hx hZ hown (host := "") (Or.inl (hw _ (List.mem_of_getElem? (i := 5) rfl))) Via.refl e0 S_BAD_REQUEST (g := (mkF m 72 #[.val (.int p1)] [])) rfl (hb hby d1_72)
              have K25 : ∀ t, Steps p.tables e below (T24.setTop (mkF m 75 #[.val (.int p1)] [(.ref w_BAD_REQUEST)])) t → Steps p.tables e below (s₁.setTop (mkF m 72 #[.val (.int p1)] [])) t := fun t k => st24 _ k
              obtain ⟨fs, hr, hrun, hended, hW, hsame⟩ := X24.leave (v := some (.ref w_BAD_REQUEST)) (fun h => by rw [Bd.returns] at h; cases h)
              refine ⟨_, _, pre0 _ (K1 _ (K23 _ (K25 _ (retOut X24 hx Bd.returns rfl (Or.inr (Or.inr (Or.inr (Or.inr ⟨rfl, rfl, rfl⟩)))) (hb hby d1_75) hr)))), hrun, hended, _, _, rfl, ?_, ⟨_, rfl⟩, hW, hsame.mono (by decide) (by decide)⟩
              show Q1 Z p1 w_NOT_FOUND w_METHOD_NOT_ALLOWED w_TOO_LARGE w_BAD_REQUEST w_INTERNAL_ERROR h0 n0 _ T24.heap _
              rw [e24]
              exact ⟨congrArg (fun z => some (Value.ref z)) (show w_BAD_REQUEST = f1 p1 w_NOT_FOUND w_METHOD_NOT_ALLOWED w_TOO_LARGE w_BAD_REQUEST w_INTERNAL_ERROR from Eq.symm ((if_neg hc2).trans ((if_neg hc6).trans ((if_neg hc10).trans ((if_neg hc14).trans ((if_neg hc18).trans (if_pos hc22))))))), N0, rfl⟩
            · have K26 : ∀ t, Steps p.tables e below (s₁.setTop (mkF m 76 #[.val (.int p1)] [])) t → Steps p.tables e below (s₁.setTop (mkF m 1 #[.val (.int p1)] [(.int p1)])) t := by
                intro t k
                refine X0.lookupswitchMiss hx (g := (mkF m 1 #[.val (.int p1)] [(.int p1)])) rfl rfl (hb hby d1_1) (by decide) (find_miss (by intro q hq; simp only [List.mem_cons, List.not_mem_nil, or_false] at hq; rcases hq with rfl | rfl | rfl | rfl | rfl | rfl <;> first | exact fun q => hc2 (Int32.toInt_inj.mp q.symm) | exact fun q => hc6 (Int32.toInt_inj.mp q.symm) | exact fun q => hc10 (Int32.toInt_inj.mp q.symm) | exact fun q => hc14 (Int32.toInt_inj.mp q.symm) | exact fun q => hc18 (Int32.toInt_inj.mp q.symm) | exact fun q => hc22 (Int32.toInt_inj.mp q.symm))) (by show (0 : Int) ≤ ((1 : Nat) : Int) + 75; decide) _ ?_
                exact k
              have K27 : ∀ t, Steps p.tables e below (s₁.setTop (mkF m 80 #[.val (.int p1)] [(.int (500 : Int32)), (.int p1)])) t → Steps p.tables e below (s₁.setTop (mkF m 76 #[.val (.int p1)] [])) t := by
                intro t k
                refine XS.iloadN X0.here hx rfl (hb hby d1_76) rfl ?_
                show Steps p.tables e below (s₁.setTop (mkF m 77 #[.val (.int p1)] [(.int p1)])) t
                refine XS.sipush X0.here hx rfl (hb hby d1_77) ?_
                show Steps p.tables e below (s₁.setTop (mkF m 80 #[.val (.int p1)] [(.int (500 : Int32)), (.int p1)])) t
                exact k
              by_cases hc28 : p1 < (500 : Int32)
              · have K29 : ∀ t, Steps p.tables e below (s₁.setTop (mkF m 83 #[.val (.int p1)] [])) t → Steps p.tables e below (s₁.setTop (mkF m 80 #[.val (.int p1)] [(.int (500 : Int32)), (.int p1)])) t := by
                  intro t k
                  refine XS.icmpNo X0.here hx rfl (hb hby d1_80) rfl (tlt hc28).2.1 ?_
                  exact k
                obtain ⟨T30, X30, e30, st30⟩ := getS2 X0 hx hZ hown (host := "") (Or.inl (hw _ (List.mem_of_getElem? (i := 5) rfl))) Via.refl e0 S_BAD_REQUEST (g := (mkF m 83 #[.val (.int p1)] [])) rfl (hb hby d1_83)
                have K31 : ∀ t, Steps p.tables e below (T30.setTop (mkF m 86 #[.val (.int p1)] [(.ref w_BAD_REQUEST)])) t → Steps p.tables e below (s₁.setTop (mkF m 83 #[.val (.int p1)] [])) t := fun t k => st30 _ k
                have K32 : ∀ t, Steps p.tables e below (T30.setTop (mkF m 92 #[.val (.int p1)] [(.ref w_BAD_REQUEST)])) t → Steps p.tables e below (T30.setTop (mkF m 86 #[.val (.int p1)] [(.ref w_BAD_REQUEST)])) t := by
                  intro t k
                  refine XS.goto X30.here hx rfl (pc0 := 86) (pc' := 92) rfl (hb hby d1_86) (by decide) (by decide) ?_
                  show Steps p.tables e below (T30.setTop (mkF m 92 #[.val (.int p1)] [(.ref w_BAD_REQUEST)])) t
                  exact k
                obtain ⟨fs, hr, hrun, hended, hW, hsame⟩ := X30.leave (v := some (.ref w_BAD_REQUEST)) (fun h => by rw [Bd.returns] at h; cases h)
                refine ⟨_, _, pre0 _ (K1 _ (K26 _ (K27 _ (K29 _ (K31 _ (K32 _ (retOut X30 hx Bd.returns rfl (Or.inr (Or.inr (Or.inr (Or.inr ⟨rfl, rfl, rfl⟩)))) (hb hby d1_92) hr))))))), hrun, hended, _, _, rfl, ?_, ⟨_, rfl⟩, hW, hsame.mono (by decide) (by decide)⟩
                show Q1 Z p1 w_NOT_FOUND w_METHOD_NOT_ALLOWED w_TOO_LARGE w_BAD_REQUEST w_INTERNAL_ERROR h0 n0 _ T30.heap _
                rw [e30]
                exact ⟨congrArg (fun z => some (Value.ref z)) (show w_BAD_REQUEST = f1 p1 w_NOT_FOUND w_METHOD_NOT_ALLOWED w_TOO_LARGE w_BAD_REQUEST w_INTERNAL_ERROR from Eq.symm ((if_neg hc2).trans ((if_neg hc6).trans ((if_neg hc10).trans ((if_neg hc14).trans ((if_neg hc18).trans ((if_neg hc22).trans (if_pos hc28)))))))), N0, rfl⟩
              · have K33 : ∀ t, Steps p.tables e below (s₁.setTop (mkF m 89 #[.val (.int p1)] [])) t → Steps p.tables e below (s₁.setTop (mkF m 80 #[.val (.int p1)] [(.int (500 : Int32)), (.int p1)])) t := by
                  intro t k
                  refine XS.icmpYes X0.here hx rfl (pc0 := 80) (pc' := 89) rfl (hb hby d1_80) rfl (flt hc28).2.1 (by decide) (by decide) ?_
                  exact k
                obtain ⟨T34, X34, e34, st34⟩ := getS2 X0 hx hZ hown (host := "") (Or.inl (hw _ (List.mem_of_getElem? (i := 15) rfl))) Via.refl e0 S_INTERNAL_ERROR (g := (mkF m 89 #[.val (.int p1)] [])) rfl (hb hby d1_89)
                have K35 : ∀ t, Steps p.tables e below (T34.setTop (mkF m 92 #[.val (.int p1)] [(.ref w_INTERNAL_ERROR)])) t → Steps p.tables e below (s₁.setTop (mkF m 89 #[.val (.int p1)] [])) t := fun t k => st34 _ k
                obtain ⟨fs, hr, hrun, hended, hW, hsame⟩ := X34.leave (v := some (.ref w_INTERNAL_ERROR)) (fun h => by rw [Bd.returns] at h; cases h)
                refine ⟨_, _, pre0 _ (K1 _ (K26 _ (K27 _ (K33 _ (K35 _ (retOut X34 hx Bd.returns rfl (Or.inr (Or.inr (Or.inr (Or.inr ⟨rfl, rfl, rfl⟩)))) (hb hby d1_92) hr)))))), hrun, hended, _, _, rfl, ?_, ⟨_, rfl⟩, hW, hsame.mono (by decide) (by decide)⟩
                show Q1 Z p1 w_NOT_FOUND w_METHOD_NOT_ALLOWED w_TOO_LARGE w_BAD_REQUEST w_INTERNAL_ERROR h0 n0 _ T34.heap _
                rw [e34]
                exact ⟨congrArg (fun z => some (Value.ref z)) (show w_INTERNAL_ERROR = f1 p1 w_NOT_FOUND w_METHOD_NOT_ALLOWED w_TOO_LARGE w_BAD_REQUEST w_INTERNAL_ERROR from Eq.symm ((if_neg hc2).trans ((if_neg hc6).trans ((if_neg hc10).trans ((if_neg hc14).trans ((if_neg hc18).trans ((if_neg hc22).trans (if_neg hc28)))))))), N0, rfl⟩
-- body 2: com/example/hilera/hilera/http/ErrorCodeForStatusPinLaw.expected(I)Lcom/example/hilera/hilera/http/ErrorCode;
theorem d2_0 : decode method_3_code 0 = .ok (.iload_n 0, 1) := by decide +kernel
theorem d2_1 : decode method_3_code 1 = .ok (.sipush 404, 3) := by decide +kernel
theorem d2_4 : decode method_3_code 4 = .ok (.if_icmp .ne 7, 3) := by decide +kernel
theorem d2_7 : decode method_3_code 7 = .ok (.getstatic 19, 3) := by decide +kernel
theorem d2_10 : decode method_3_code 10 = .ok (.areturn, 1) := by decide +kernel
theorem d2_11 : decode method_3_code 11 = .ok (.iload_n 0, 1) := by decide +kernel
theorem d2_12 : decode method_3_code 12 = .ok (.sipush 405, 3) := by decide +kernel
theorem d2_15 : decode method_3_code 15 = .ok (.if_icmp .ne 7, 3) := by decide +kernel
theorem d2_18 : decode method_3_code 18 = .ok (.getstatic 23, 3) := by decide +kernel
theorem d2_21 : decode method_3_code 21 = .ok (.areturn, 1) := by decide +kernel
theorem d2_22 : decode method_3_code 22 = .ok (.iload_n 0, 1) := by decide +kernel
theorem d2_23 : decode method_3_code 23 = .ok (.sipush 413, 3) := by decide +kernel
theorem d2_26 : decode method_3_code 26 = .ok (.if_icmp .eq 17, 3) := by decide +kernel
theorem d2_29 : decode method_3_code 29 = .ok (.iload_n 0, 1) := by decide +kernel
theorem d2_30 : decode method_3_code 30 = .ok (.sipush 414, 3) := by decide +kernel
theorem d2_33 : decode method_3_code 33 = .ok (.if_icmp .eq 10, 3) := by decide +kernel
theorem d2_36 : decode method_3_code 36 = .ok (.iload_n 0, 1) := by decide +kernel
theorem d2_37 : decode method_3_code 37 = .ok (.sipush 431, 3) := by decide +kernel
theorem d2_40 : decode method_3_code 40 = .ok (.if_icmp .ne 7, 3) := by decide +kernel
theorem d2_43 : decode method_3_code 43 = .ok (.getstatic 26, 3) := by decide +kernel
theorem d2_46 : decode method_3_code 46 = .ok (.areturn, 1) := by decide +kernel
theorem d2_47 : decode method_3_code 47 = .ok (.iload_n 0, 1) := by decide +kernel
theorem d2_48 : decode method_3_code 48 = .ok (.sipush 500, 3) := by decide +kernel
theorem d2_51 : decode method_3_code 51 = .ok (.if_icmp .lt 14, 3) := by decide +kernel
theorem d2_54 : decode method_3_code 54 = .ok (.iload_n 0, 1) := by decide +kernel
theorem d2_55 : decode method_3_code 55 = .ok (.sipush 505, 3) := by decide +kernel
theorem d2_58 : decode method_3_code 58 = .ok (.if_icmp .eq 7, 3) := by decide +kernel
theorem d2_61 : decode method_3_code 61 = .ok (.getstatic 29, 3) := by decide +kernel
theorem d2_64 : decode method_3_code 64 = .ok (.areturn, 1) := by decide +kernel
theorem d2_65 : decode method_3_code 65 = .ok (.getstatic 32, 3) := by decide +kernel
theorem d2_68 : decode method_3_code 68 = .ok (.areturn, 1) := by decide +kernel
theorem pn_2 : plainName "com/example/hilera/hilera/http/ErrorCodeForStatusPinLaw" = true := by first | (simp [plainName, overriddenIn]; done) | decide +kernel
theorem ef_2 (m : MethodId) (p1 : Int32) : entryFrame m #[(.int p1)] 1 = mkF m 0 #[.val (.int p1)] [] := by first | (simp [entryFrame, mkF, argsToLocals, Value.category]; done) | rfl
def f2 (p1 : Int32) (w_NOT_FOUND : Addr) (w_METHOD_NOT_ALLOWED : Addr) (w_TOO_LARGE : Addr) (w_BAD_REQUEST : Addr) (w_INTERNAL_ERROR : Addr) : Addr := (if p1 = (404 : Int32) then w_NOT_FOUND else (if p1 = (405 : Int32) then w_METHOD_NOT_ALLOWED else (if p1 = (413 : Int32) then w_TOO_LARGE else (if p1 = (414 : Int32) then w_TOO_LARGE else (if p1 = (431 : Int32) then w_TOO_LARGE else (if p1 < (500 : Int32) then w_BAD_REQUEST else (if p1 = (505 : Int32) then w_BAD_REQUEST else w_INTERNAL_ERROR)))))))
def Q2 (Z : State) (p1 : Int32) (w_NOT_FOUND : Addr) (w_METHOD_NOT_ALLOWED : Addr) (w_TOO_LARGE : Addr) (w_BAD_REQUEST : Addr) (w_INTERNAL_ERROR : Addr) (h0 : Heap) (n0 : Nat) (v : Option Value) (h : Heap) (L : List Loc) : Prop := v = some (.ref (f2 p1 w_NOT_FOUND w_METHOD_NOT_ALLOWED w_TOO_LARGE w_BAD_REQUEST w_INTERNAL_ERROR)) ∧ Fr n0 L ∧ h = h0
set_option maxRecDepth 65536 in
set_option maxHeartbeats 40000000 in
theorem rm2 (l : Launch) (Z : State) (a0 : Array Value) (hw : ∀ d ∈ tables_1, d.before a0 Z = true) (ws : List Jvm.Cond) (p1 : Int32) (w_NOT_FOUND : Addr) (w_METHOD_NOT_ALLOWED : Addr) (w_TOO_LARGE : Addr) (w_BAD_REQUEST : Addr) (w_INTERNAL_ERROR : Addr) (h0 : Heap) (n0 : Nat) (Z0 : n0 ≤ h0.size) (S_NOT_FOUND : Sta Z h0 "com/example/hilera/hilera/http/ErrorCode" "NOT_FOUND" "Lcom/example/hilera/hilera/http/ErrorCode;" (.ref w_NOT_FOUND)) (S_METHOD_NOT_ALLOWED : Sta Z h0 "com/example/hilera/hilera/http/ErrorCode" "METHOD_NOT_ALLOWED" "Lcom/example/hilera/hilera/http/ErrorCode;" (.ref w_METHOD_NOT_ALLOWED)) (S_TOO_LARGE : Sta Z h0 "com/example/hilera/hilera/http/ErrorCode" "TOO_LARGE" "Lcom/example/hilera/hilera/http/ErrorCode;" (.ref w_TOO_LARGE)) (S_BAD_REQUEST : Sta Z h0 "com/example/hilera/hilera/http/ErrorCode" "BAD_REQUEST" "Lcom/example/hilera/hilera/http/ErrorCode;" (.ref w_BAD_REQUEST)) (S_INTERNAL_ERROR : Sta Z h0 "com/example/hilera/hilera/http/ErrorCode" "INTERNAL_ERROR" "Lcom/example/hilera/hilera/http/ErrorCode;" (.ref w_INTERNAL_ERROR)) :
    MetFree l (⟨"com/example/hilera/hilera/http/ErrorCodeForStatusPinLaw", "expected", "(I)Lcom/example/hilera/hilera/http/ErrorCode;"⟩ : MethodName) (head1 (Jvm.Cond.code (⟨"com/example/hilera/hilera/http/ErrorCodeForStatusPinLaw", "expected", "(I)Lcom/example/hilera/hilera/http/ErrorCode;"⟩ : MethodName) method_3_code 1 (some (.object "com/example/hilera/hilera/http/ErrorCode")) :: ws) ({ frames := 0, cells := 0, slots := 0, locals := 0 } : Room)) (fun a U => a = #[(.int p1)] ∧ Z.Warmed39 U.vm ∧ U.heap = h0) (fun _ _ _ _ _ => True) (fun _ U o U' => ∃ v L, o = .returned v ∧ Q2 Z p1 w_NOT_FOUND w_METHOD_NOT_ALLOWED w_TOO_LARGE w_BAD_REQUEST w_INTERNAL_ERROR h0 n0 v U'.heap L ∧ FrameEnd U o U' L ({ frames := 0, cells := 0, slots := 0, locals := 0 } : Room).cells ({ frames := 0, cells := 0, slots := 0, locals := 0 } : Room).slots) := by
  refine MetFree.of_bodySF (plainFor_of_name pn_2) hisR ?_
  intro p e s m args below meth c s₁ Bd hml0 hP hK
  obtain ⟨rfl, hZ, hh⟩ := hP
  have hx := Bd.exec
  have hby := Bd.bytes
  have hml : c.maxLocals = 1 := hml0
  have hown : s.vm.findClass "com/example/hilera/hilera/http/ErrorCodeForStatusPinLaw" = some m.cls := findClass_of_methodNamed Bd.named
  have hnm := (name_of_methodNamed Bd.named Bd.method).1
  have X0 : Stand p l e ({ frames := 0, cells := 0, slots := 0, locals := 0 } : Room) s m #[(.int p1)] below meth c s₁ [] 0 0 := Stand.of_body Bd
  have e0 : s₁.heap = h0 := by rw [← hh, Bd.state]; rfl
  have N0 := Fr.nil n0
  have pre0 : ∀ t, Steps p.tables e below (s₁.setTop (mkF m 0 #[.val (.int p1)] [])) t → Steps p.tables e below (s₁.setTop (entryFrame m #[(.int p1)] 1)) t := fun t k => castTop (ef_2 m p1) k
  have K1 : ∀ t, Steps p.tables e below (s₁.setTop (mkF m 4 #[.val (.int p1)] [(.int (404 : Int32)), (.int p1)])) t → Steps p.tables e below (s₁.setTop (mkF m 0 #[.val (.int p1)] [])) t := by
    intro t k
    refine XS.iloadN X0.here hx rfl (hb hby d2_0) rfl ?_
    show Steps p.tables e below (s₁.setTop (mkF m 1 #[.val (.int p1)] [(.int p1)])) t
    refine XS.sipush X0.here hx rfl (hb hby d2_1) ?_
    show Steps p.tables e below (s₁.setTop (mkF m 4 #[.val (.int p1)] [(.int (404 : Int32)), (.int p1)])) t
    exact k
  by_cases hc2 : p1 = (404 : Int32)
  · have K3 : ∀ t, Steps p.tables e below (s₁.setTop (mkF m 7 #[.val (.int p1)] [])) t → Steps p.tables e below (s₁.setTop (mkF m 4 #[.val (.int p1)] [(.int (404 : Int32)), (.int p1)])) t := by
      intro t k
      refine XS.icmpNo X0.here hx rfl (hb hby d2_4) rfl (teq hc2).2 ?_
      exact k
    obtain ⟨T4, X4, e4, st4⟩ := getS2 X0 hx hZ hown (host := "") (Or.inl (hw _ (List.mem_of_getElem? (i := 23) rfl))) Via.refl e0 S_NOT_FOUND (g := (mkF m 7 #[.val (.int p1)] [])) rfl (hb hby d2_7)
    have K5 : ∀ t, Steps p.tables e below (T4.setTop (mkF m 10 #[.val (.int p1)] [(.ref w_NOT_FOUND)])) t → Steps p.tables e below (s₁.setTop (mkF m 7 #[.val (.int p1)] [])) t := fun t k => st4 _ k
    obtain ⟨fs, hr, hrun, hended, hW, hsame⟩ := X4.leave (v := some (.ref w_NOT_FOUND)) (fun h => by rw [Bd.returns] at h; cases h)
    refine ⟨_, _, pre0 _ (K1 _ (K3 _ (K5 _ (retOut X4 hx Bd.returns rfl (Or.inr (Or.inr (Or.inr (Or.inr ⟨rfl, rfl, rfl⟩)))) (hb hby d2_10) hr)))), hrun, hended, _, _, rfl, ?_, ⟨_, rfl⟩, hW, hsame.mono (by decide) (by decide)⟩
    show Q2 Z p1 w_NOT_FOUND w_METHOD_NOT_ALLOWED w_TOO_LARGE w_BAD_REQUEST w_INTERNAL_ERROR h0 n0 _ T4.heap _
    rw [e4]
    exact ⟨congrArg (fun z => some (Value.ref z)) (show w_NOT_FOUND = f2 p1 w_NOT_FOUND w_METHOD_NOT_ALLOWED w_TOO_LARGE w_BAD_REQUEST w_INTERNAL_ERROR from Eq.symm (if_pos hc2)), N0, rfl⟩
  · have K6 : ∀ t, Steps p.tables e below (s₁.setTop (mkF m 11 #[.val (.int p1)] [])) t → Steps p.tables e below (s₁.setTop (mkF m 4 #[.val (.int p1)] [(.int (404 : Int32)), (.int p1)])) t := by
      intro t k
      refine XS.icmpYes X0.here hx rfl (pc0 := 4) (pc' := 11) rfl (hb hby d2_4) rfl (feq hc2).2 (by decide) (by decide) ?_
      exact k
    have K7 : ∀ t, Steps p.tables e below (s₁.setTop (mkF m 15 #[.val (.int p1)] [(.int (405 : Int32)), (.int p1)])) t → Steps p.tables e below (s₁.setTop (mkF m 11 #[.val (.int p1)] [])) t := by
      intro t k
      refine XS.iloadN X0.here hx rfl (hb hby d2_11) rfl ?_
      show Steps p.tables e below (s₁.setTop (mkF m 12 #[.val (.int p1)] [(.int p1)])) t
      refine XS.sipush X0.here hx rfl (hb hby d2_12) ?_
      show Steps p.tables e below (s₁.setTop (mkF m 15 #[.val (.int p1)] [(.int (405 : Int32)), (.int p1)])) t
      exact k
    by_cases hc8 : p1 = (405 : Int32)
    · have K9 : ∀ t, Steps p.tables e below (s₁.setTop (mkF m 18 #[.val (.int p1)] [])) t → Steps p.tables e below (s₁.setTop (mkF m 15 #[.val (.int p1)] [(.int (405 : Int32)), (.int p1)])) t := by
        intro t k
        refine XS.icmpNo X0.here hx rfl (hb hby d2_15) rfl (teq hc8).2 ?_
        exact k
      obtain ⟨T10, X10, e10, st10⟩ := getS2 X0 hx hZ hown (host := "") (Or.inl (hw _ (List.mem_of_getElem? (i := 20) rfl))) Via.refl e0 S_METHOD_NOT_ALLOWED (g := (mkF m 18 #[.val (.int p1)] [])) rfl (hb hby d2_18)
      have K11 : ∀ t, Steps p.tables e below (T10.setTop (mkF m 21 #[.val (.int p1)] [(.ref w_METHOD_NOT_ALLOWED)])) t → Steps p.tables e below (s₁.setTop (mkF m 18 #[.val (.int p1)] [])) t := fun t k => st10 _ k
      obtain ⟨fs, hr, hrun, hended, hW, hsame⟩ := X10.leave (v := some (.ref w_METHOD_NOT_ALLOWED)) (fun h => by rw [Bd.returns] at h; cases h)
      refine ⟨_, _, pre0 _ (K1 _ (K6 _ (K7 _ (K9 _ (K11 _ (retOut X10 hx Bd.returns rfl (Or.inr (Or.inr (Or.inr (Or.inr ⟨rfl, rfl, rfl⟩)))) (hb hby d2_21) hr)))))), hrun, hended, _, _, rfl, ?_, ⟨_, rfl⟩, hW, hsame.mono (by decide) (by decide)⟩
      show Q2 Z p1 w_NOT_FOUND w_METHOD_NOT_ALLOWED w_TOO_LARGE w_BAD_REQUEST w_INTERNAL_ERROR h0 n0 _ T10.heap _
      rw [e10]
      exact ⟨congrArg (fun z => some (Value.ref z)) (show w_METHOD_NOT_ALLOWED = f2 p1 w_NOT_FOUND w_METHOD_NOT_ALLOWED w_TOO_LARGE w_BAD_REQUEST w_INTERNAL_ERROR from Eq.symm ((if_neg hc2).trans (if_pos hc8))), N0, rfl⟩
    · have K12 : ∀ t, Steps p.tables e below (s₁.setTop (mkF m 22 #[.val (.int p1)] [])) t → Steps p.tables e below (s₁.setTop (mkF m 15 #[.val (.int p1)] [(.int (405 : Int32)), (.int p1)])) t := by
        intro t k
        refine XS.icmpYes X0.here hx rfl (pc0 := 15) (pc' := 22) rfl (hb hby d2_15) rfl (feq hc8).2 (by decide) (by decide) ?_
        exact k
      have K13 : ∀ t, Steps p.tables e below (s₁.setTop (mkF m 26 #[.val (.int p1)] [(.int (413 : Int32)), (.int p1)])) t → Steps p.tables e below (s₁.setTop (mkF m 22 #[.val (.int p1)] [])) t := by
        intro t k
        refine XS.iloadN X0.here hx rfl (hb hby d2_22) rfl ?_
        show Steps p.tables e below (s₁.setTop (mkF m 23 #[.val (.int p1)] [(.int p1)])) t
        refine XS.sipush X0.here hx rfl (hb hby d2_23) ?_
        show Steps p.tables e below (s₁.setTop (mkF m 26 #[.val (.int p1)] [(.int (413 : Int32)), (.int p1)])) t
        exact k
      by_cases hc14 : p1 = (413 : Int32)
      · have K15 : ∀ t, Steps p.tables e below (s₁.setTop (mkF m 43 #[.val (.int p1)] [])) t → Steps p.tables e below (s₁.setTop (mkF m 26 #[.val (.int p1)] [(.int (413 : Int32)), (.int p1)])) t := by
          intro t k
          refine XS.icmpYes X0.here hx rfl (pc0 := 26) (pc' := 43) rfl (hb hby d2_26) rfl (teq hc14).1 (by decide) (by decide) ?_
          exact k
        obtain ⟨T16, X16, e16, st16⟩ := getS2 X0 hx hZ hown (host := "") (Or.inl (hw _ (List.mem_of_getElem? (i := 14) rfl))) Via.refl e0 S_TOO_LARGE (g := (mkF m 43 #[.val (.int p1)] [])) rfl (hb hby d2_43)
        have K17 : ∀ t, Steps p.tables e below (T16.setTop (mkF m 46 #[.val (.int p1)] [(.ref w_TOO_LARGE)])) t → Steps p.tables e below (s₁.setTop (mkF m 43 #[.val (.int p1)] [])) t := fun t k => st16 _ k
        obtain ⟨fs, hr, hrun, hended, hW, hsame⟩ := X16.leave (v := some (.ref w_TOO_LARGE)) (fun h => by rw [Bd.returns] at h; cases h)
        refine ⟨_, _, pre0 _ (K1 _ (K6 _ (K7 _ (K12 _ (K13 _ (K15 _ (K17 _ (retOut X16 hx Bd.returns rfl (Or.inr (Or.inr (Or.inr (Or.inr ⟨rfl, rfl, rfl⟩)))) (hb hby d2_46) hr)))))))), hrun, hended, _, _, rfl, ?_, ⟨_, rfl⟩, hW, hsame.mono (by decide) (by decide)⟩
        show Q2 Z p1 w_NOT_FOUND w_METHOD_NOT_ALLOWED w_TOO_LARGE w_BAD_REQUEST w_INTERNAL_ERROR h0 n0 _ T16.heap _
        rw [e16]
        exact ⟨congrArg (fun z => some (Value.ref z)) (show w_TOO_LARGE = f2 p1 w_NOT_FOUND w_METHOD_NOT_ALLOWED w_TOO_LARGE w_BAD_REQUEST w_INTERNAL_ERROR from Eq.symm ((if_neg hc2).trans ((if_neg hc8).trans (if_pos hc14)))), N0, rfl⟩
      · have K18 : ∀ t, Steps p.tables e below (s₁.setTop (mkF m 29 #[.val (.int p1)] [])) t → Steps p.tables e below (s₁.setTop (mkF m 26 #[.val (.int p1)] [(.int (413 : Int32)), (.int p1)])) t := by
          intro t k
          refine XS.icmpNo X0.here hx rfl (hb hby d2_26) rfl (feq hc14).1 ?_
          exact k
        have K19 : ∀ t, Steps p.tables e below (s₁.setTop (mkF m 33 #[.val (.int p1)] [(.int (414 : Int32)), (.int p1)])) t → Steps p.tables e below (s₁.setTop (mkF m 29 #[.val (.int p1)] [])) t := by
          intro t k
          refine XS.iloadN X0.here hx rfl (hb hby d2_29) rfl ?_
          show Steps p.tables e below (s₁.setTop (mkF m 30 #[.val (.int p1)] [(.int p1)])) t
          refine XS.sipush X0.here hx rfl (hb hby d2_30) ?_
          show Steps p.tables e below (s₁.setTop (mkF m 33 #[.val (.int p1)] [(.int (414 : Int32)), (.int p1)])) t
          exact k
        by_cases hc20 : p1 = (414 : Int32)
        · have K21 : ∀ t, Steps p.tables e below (s₁.setTop (mkF m 43 #[.val (.int p1)] [])) t → Steps p.tables e below (s₁.setTop (mkF m 33 #[.val (.int p1)] [(.int (414 : Int32)), (.int p1)])) t := by
            intro t k
            refine XS.icmpYes X0.here hx rfl (pc0 := 33) (pc' := 43) rfl (hb hby d2_33) rfl (teq hc20).1 (by decide) (by decide) ?_
            exact k
          obtain ⟨T22, X22, e22, st22⟩ := getS2 X0 hx hZ hown (host := "") (Or.inl (hw _ (List.mem_of_getElem? (i := 14) rfl))) Via.refl e0 S_TOO_LARGE (g := (mkF m 43 #[.val (.int p1)] [])) rfl (hb hby d2_43)
          have K23 : ∀ t, Steps p.tables e below (T22.setTop (mkF m 46 #[.val (.int p1)] [(.ref w_TOO_LARGE)])) t → Steps p.tables e below (s₁.setTop (mkF m 43 #[.val (.int p1)] [])) t := fun t k => st22 _ k
          obtain ⟨fs, hr, hrun, hended, hW, hsame⟩ := X22.leave (v := some (.ref w_TOO_LARGE)) (fun h => by rw [Bd.returns] at h; cases h)
          refine ⟨_, _, pre0 _ (K1 _ (K6 _ (K7 _ (K12 _ (K13 _ (K18 _ (K19 _ (K21 _ (K23 _ (retOut X22 hx Bd.returns rfl (Or.inr (Or.inr (Or.inr (Or.inr ⟨rfl, rfl, rfl⟩)))) (hb hby d2_46) hr)))))))))), hrun, hended, _, _, rfl, ?_, ⟨_, rfl⟩, hW, hsame.mono (by decide) (by decide)⟩
          show Q2 Z p1 w_NOT_FOUND w_METHOD_NOT_ALLOWED w_TOO_LARGE w_BAD_REQUEST w_INTERNAL_ERROR h0 n0 _ T22.heap _
          rw [e22]
          exact ⟨congrArg (fun z => some (Value.ref z)) (show w_TOO_LARGE = f2 p1 w_NOT_FOUND w_METHOD_NOT_ALLOWED w_TOO_LARGE w_BAD_REQUEST w_INTERNAL_ERROR from Eq.symm ((if_neg hc2).trans ((if_neg hc8).trans ((if_neg hc14).trans (if_pos hc20))))), N0, rfl⟩
        · have K24 : ∀ t, Steps p.tables e below (s₁.setTop (mkF m 36 #[.val (.int p1)] [])) t → Steps p.tables e below (s₁.setTop (mkF m 33 #[.val (.int p1)] [(.int (414 : Int32)), (.int p1)])) t := by
            intro t k
            refine XS.icmpNo X0.here hx rfl (hb hby d2_33) rfl (feq hc20).1 ?_
            exact k
          have K25 : ∀ t, Steps p.tables e below (s₁.setTop (mkF m 40 #[.val (.int p1)] [(.int (431 : Int32)), (.int p1)])) t → Steps p.tables e below (s₁.setTop (mkF m 36 #[.val (.int p1)] [])) t := by
            intro t k
            refine XS.iloadN X0.here hx rfl (hb hby d2_36) rfl ?_
            show Steps p.tables e below (s₁.setTop (mkF m 37 #[.val (.int p1)] [(.int p1)])) t
            refine XS.sipush X0.here hx rfl (hb hby d2_37) ?_
            show Steps p.tables e below (s₁.setTop (mkF m 40 #[.val (.int p1)] [(.int (431 : Int32)), (.int p1)])) t
            exact k
          by_cases hc26 : p1 = (431 : Int32)
          · have K27 : ∀ t, Steps p.tables e below (s₁.setTop (mkF m 43 #[.val (.int p1)] [])) t → Steps p.tables e below (s₁.setTop (mkF m 40 #[.val (.int p1)] [(.int (431 : Int32)), (.int p1)])) t := by
              intro t k
              refine XS.icmpNo X0.here hx rfl (hb hby d2_40) rfl (teq hc26).2 ?_
              exact k
            obtain ⟨T28, X28, e28, st28⟩ := getS2 X0 hx hZ hown (host := "") (Or.inl (hw _ (List.mem_of_getElem? (i := 14) rfl))) Via.refl e0 S_TOO_LARGE (g := (mkF m 43 #[.val (.int p1)] [])) rfl (hb hby d2_43)
            have K29 : ∀ t, Steps p.tables e below (T28.setTop (mkF m 46 #[.val (.int p1)] [(.ref w_TOO_LARGE)])) t → Steps p.tables e below (s₁.setTop (mkF m 43 #[.val (.int p1)] [])) t := fun t k => st28 _ k
            obtain ⟨fs, hr, hrun, hended, hW, hsame⟩ := X28.leave (v := some (.ref w_TOO_LARGE)) (fun h => by rw [Bd.returns] at h; cases h)
            refine ⟨_, _, pre0 _ (K1 _ (K6 _ (K7 _ (K12 _ (K13 _ (K18 _ (K19 _ (K24 _ (K25 _ (K27 _ (K29 _ (retOut X28 hx Bd.returns rfl (Or.inr (Or.inr (Or.inr (Or.inr ⟨rfl, rfl, rfl⟩)))) (hb hby d2_46) hr)))))))))))), hrun, hended, _, _, rfl, ?_, ⟨_, rfl⟩, hW, hsame.mono (by decide) (by decide)⟩
            show Q2 Z p1 w_NOT_FOUND w_METHOD_NOT_ALLOWED w_TOO_LARGE w_BAD_REQUEST w_INTERNAL_ERROR h0 n0 _ T28.heap _
            rw [e28]
            exact ⟨congrArg (fun z => some (Value.ref z)) (show w_TOO_LARGE = f2 p1 w_NOT_FOUND w_METHOD_NOT_ALLOWED w_TOO_LARGE w_BAD_REQUEST w_INTERNAL_ERROR from Eq.symm ((if_neg hc2).trans ((if_neg hc8).trans ((if_neg hc14).trans ((if_neg hc20).trans (if_pos hc26)))))), N0, rfl⟩
          · have K30 : ∀ t, Steps p.tables e below (s₁.setTop (mkF m 47 #[.val (.int p1)] [])) t → Steps p.tables e below (s₁.setTop (mkF m 40 #[.val (.int p1)] [(.int (431 : Int32)), (.int p1)])) t := by
              intro t k
              refine XS.icmpYes X0.here hx rfl (pc0 := 40) (pc' := 47) rfl (hb hby d2_40) rfl (feq hc26).2 (by decide) (by decide) ?_
              exact k
            have K31 : ∀ t, Steps p.tables e below (s₁.setTop (mkF m 51 #[.val (.int p1)] [(.int (500 : Int32)), (.int p1)])) t → Steps p.tables e below (s₁.setTop (mkF m 47 #[.val (.int p1)] [])) t := by
              intro t k
              refine XS.iloadN X0.here hx rfl (hb hby d2_47) rfl ?_
              show Steps p.tables e below (s₁.setTop (mkF m 48 #[.val (.int p1)] [(.int p1)])) t
              refine XS.sipush X0.here hx rfl (hb hby d2_48) ?_
              show Steps p.tables e below (s₁.setTop (mkF m 51 #[.val (.int p1)] [(.int (500 : Int32)), (.int p1)])) t
              exact k
            by_cases hc32 : p1 < (500 : Int32)
            · have K33 : ∀ t, Steps p.tables e below (s₁.setTop (mkF m 65 #[.val (.int p1)] [])) t → Steps p.tables e below (s₁.setTop (mkF m 51 #[.val (.int p1)] [(.int (500 : Int32)), (.int p1)])) t := by
                intro t k
                refine XS.icmpYes X0.here hx rfl (pc0 := 51) (pc' := 65) rfl (hb hby d2_51) rfl (tlt hc32).1 (by decide) (by decide) ?_
                exact k
              obtain ⟨T34, X34, e34, st34⟩ := getS2 X0 hx hZ hown (host := "") (Or.inl (hw _ (List.mem_of_getElem? (i := 11) rfl))) Via.refl e0 S_BAD_REQUEST (g := (mkF m 65 #[.val (.int p1)] [])) rfl (hb hby d2_65)
              have K35 : ∀ t, Steps p.tables e below (T34.setTop (mkF m 68 #[.val (.int p1)] [(.ref w_BAD_REQUEST)])) t → Steps p.tables e below (s₁.setTop (mkF m 65 #[.val (.int p1)] [])) t := fun t k => st34 _ k
              obtain ⟨fs, hr, hrun, hended, hW, hsame⟩ := X34.leave (v := some (.ref w_BAD_REQUEST)) (fun h => by rw [Bd.returns] at h; cases h)
              refine ⟨_, _, pre0 _ (K1 _ (K6 _ (K7 _ (K12 _ (K13 _ (K18 _ (K19 _ (K24 _ (K25 _ (K30 _ (K31 _ (K33 _ (K35 _ (retOut X34 hx Bd.returns rfl (Or.inr (Or.inr (Or.inr (Or.inr ⟨rfl, rfl, rfl⟩)))) (hb hby d2_68) hr)))))))))))))), hrun, hended, _, _, rfl, ?_, ⟨_, rfl⟩, hW, hsame.mono (by decide) (by decide)⟩
              show Q2 Z p1 w_NOT_FOUND w_METHOD_NOT_ALLOWED w_TOO_LARGE w_BAD_REQUEST w_INTERNAL_ERROR h0 n0 _ T34.heap _
              rw [e34]
              exact ⟨congrArg (fun z => some (Value.ref z)) (show w_BAD_REQUEST = f2 p1 w_NOT_FOUND w_METHOD_NOT_ALLOWED w_TOO_LARGE w_BAD_REQUEST w_INTERNAL_ERROR from Eq.symm ((if_neg hc2).trans ((if_neg hc8).trans ((if_neg hc14).trans ((if_neg hc20).trans ((if_neg hc26).trans (if_pos hc32))))))), N0, rfl⟩
            · have K36 : ∀ t, Steps p.tables e below (s₁.setTop (mkF m 54 #[.val (.int p1)] [])) t → Steps p.tables e below (s₁.setTop (mkF m 51 #[.val (.int p1)] [(.int (500 : Int32)), (.int p1)])) t := by
                intro t k
                refine XS.icmpNo X0.here hx rfl (hb hby d2_51) rfl (flt hc32).1 ?_
                exact k
              have K37 : ∀ t, Steps p.tables e below (s₁.setTop (mkF m 58 #[.val (.int p1)] [(.int (505 : Int32)), (.int p1)])) t → Steps p.tables e below (s₁.setTop (mkF m 54 #[.val (.int p1)] [])) t := by
                intro t k
                refine XS.iloadN X0.here hx rfl (hb hby d2_54) rfl ?_
                show Steps p.tables e below (s₁.setTop (mkF m 55 #[.val (.int p1)] [(.int p1)])) t
                refine XS.sipush X0.here hx rfl (hb hby d2_55) ?_
                show Steps p.tables e below (s₁.setTop (mkF m 58 #[.val (.int p1)] [(.int (505 : Int32)), (.int p1)])) t
                exact k
              by_cases hc38 : p1 = (505 : Int32)
              · have K39 : ∀ t, Steps p.tables e below (s₁.setTop (mkF m 65 #[.val (.int p1)] [])) t → Steps p.tables e below (s₁.setTop (mkF m 58 #[.val (.int p1)] [(.int (505 : Int32)), (.int p1)])) t := by
                  intro t k
                  refine XS.icmpYes X0.here hx rfl (pc0 := 58) (pc' := 65) rfl (hb hby d2_58) rfl (teq hc38).1 (by decide) (by decide) ?_
                  exact k
                obtain ⟨T40, X40, e40, st40⟩ := getS2 X0 hx hZ hown (host := "") (Or.inl (hw _ (List.mem_of_getElem? (i := 11) rfl))) Via.refl e0 S_BAD_REQUEST (g := (mkF m 65 #[.val (.int p1)] [])) rfl (hb hby d2_65)
                have K41 : ∀ t, Steps p.tables e below (T40.setTop (mkF m 68 #[.val (.int p1)] [(.ref w_BAD_REQUEST)])) t → Steps p.tables e below (s₁.setTop (mkF m 65 #[.val (.int p1)] [])) t := fun t k => st40 _ k
                obtain ⟨fs, hr, hrun, hended, hW, hsame⟩ := X40.leave (v := some (.ref w_BAD_REQUEST)) (fun h => by rw [Bd.returns] at h; cases h)
                refine ⟨_, _, pre0 _ (K1 _ (K6 _ (K7 _ (K12 _ (K13 _ (K18 _ (K19 _ (K24 _ (K25 _ (K30 _ (K31 _ (K36 _ (K37 _ (K39 _ (K41 _ (retOut X40 hx Bd.returns rfl (Or.inr (Or.inr (Or.inr (Or.inr ⟨rfl, rfl, rfl⟩)))) (hb hby d2_68) hr)))))))))))))))), hrun, hended, _, _, rfl, ?_, ⟨_, rfl⟩, hW, hsame.mono (by decide) (by decide)⟩
                show Q2 Z p1 w_NOT_FOUND w_METHOD_NOT_ALLOWED w_TOO_LARGE w_BAD_REQUEST w_INTERNAL_ERROR h0 n0 _ T40.heap _
                rw [e40]
                exact ⟨congrArg (fun z => some (Value.ref z)) (show w_BAD_REQUEST = f2 p1 w_NOT_FOUND w_METHOD_NOT_ALLOWED w_TOO_LARGE w_BAD_REQUEST w_INTERNAL_ERROR from Eq.symm ((if_neg hc2).trans ((if_neg hc8).trans ((if_neg hc14).trans ((if_neg hc20).trans ((if_neg hc26).trans ((if_neg hc32).trans (if_pos hc38)))))))), N0, rfl⟩
              · have K42 : ∀ t, Steps p.tables e below (s₁.setTop (mkF m 61 #[.val (.int p1)] [])) t → Steps p.tables e below (s₁.setTop (mkF m 58 #[.val (.int p1)] [(.int (505 : Int32)), (.int p1)])) t := by
                  intro t k
                  refine XS.icmpNo X0.here hx rfl (hb hby d2_58) rfl (feq hc38).1 ?_
                  exact k
                obtain ⟨T43, X43, e43, st43⟩ := getS2 X0 hx hZ hown (host := "") (Or.inl (hw _ (List.mem_of_getElem? (i := 17) rfl))) Via.refl e0 S_INTERNAL_ERROR (g := (mkF m 61 #[.val (.int p1)] [])) rfl (hb hby d2_61)
                have K44 : ∀ t, Steps p.tables e below (T43.setTop (mkF m 64 #[.val (.int p1)] [(.ref w_INTERNAL_ERROR)])) t → Steps p.tables e below (s₁.setTop (mkF m 61 #[.val (.int p1)] [])) t := fun t k => st43 _ k
                obtain ⟨fs, hr, hrun, hended, hW, hsame⟩ := X43.leave (v := some (.ref w_INTERNAL_ERROR)) (fun h => by rw [Bd.returns] at h; cases h)
                refine ⟨_, _, pre0 _ (K1 _ (K6 _ (K7 _ (K12 _ (K13 _ (K18 _ (K19 _ (K24 _ (K25 _ (K30 _ (K31 _ (K36 _ (K37 _ (K42 _ (K44 _ (retOut X43 hx Bd.returns rfl (Or.inr (Or.inr (Or.inr (Or.inr ⟨rfl, rfl, rfl⟩)))) (hb hby d2_64) hr)))))))))))))))), hrun, hended, _, _, rfl, ?_, ⟨_, rfl⟩, hW, hsame.mono (by decide) (by decide)⟩
                show Q2 Z p1 w_NOT_FOUND w_METHOD_NOT_ALLOWED w_TOO_LARGE w_BAD_REQUEST w_INTERNAL_ERROR h0 n0 _ T43.heap _
                rw [e43]
                exact ⟨congrArg (fun z => some (Value.ref z)) (show w_INTERNAL_ERROR = f2 p1 w_NOT_FOUND w_METHOD_NOT_ALLOWED w_TOO_LARGE w_BAD_REQUEST w_INTERNAL_ERROR from Eq.symm ((if_neg hc2).trans ((if_neg hc8).trans ((if_neg hc14).trans ((if_neg hc20).trans ((if_neg hc26).trans ((if_neg hc32).trans (if_neg hc38)))))))), N0, rfl⟩
-- body 0: com/example/hilera/hilera/http/ErrorCodeForStatusPinLaw.law(II)Z
theorem pn_0 : plainName "com/example/hilera/hilera/http/ErrorCodeForStatusPinLaw" = true := by first | (simp [plainName, overriddenIn]; done) | decide +kernel
theorem pd_0 : parseMethodDescriptor "(I)Lcom/example/hilera/hilera/http/ErrorCode;" = some ⟨[.int], some (.object "com/example/hilera/hilera/http/ErrorCode")⟩ := by decide +kernel
theorem ef_0 (m : MethodId) (p1 : Int32) (p2 : Int32) : entryFrame m #[(.int p1), (.int p2)] maxLocals = mkF m 0 #[.val (.int p1), .val (.int p2), .unset, .unset] [] := by first | (simp [entryFrame, mkF, argsToLocals, Value.category, maxLocals]; done) | rfl
def f0_u1 (p1 : Int32) (p2 : Int32) : Int32 := (if (p2 &&& (1 : Int32)) = (0 : Int32) then p1 else ((400 : Int32) + ((p1 &&& (2147483647 : Int32)) % (200 : Int32))))
def f0 (p1 : Int32) (p2 : Int32) (w_NOT_FOUND : Addr) (w_METHOD_NOT_ALLOWED : Addr) (w_TOO_LARGE : Addr) (w_BAD_REQUEST : Addr) (w_INTERNAL_ERROR : Addr) : Int32 := (if (f1 (f0_u1 p1 p2) w_NOT_FOUND w_METHOD_NOT_ALLOWED w_TOO_LARGE w_BAD_REQUEST w_INTERNAL_ERROR) = (f2 (f0_u1 p1 p2) w_NOT_FOUND w_METHOD_NOT_ALLOWED w_TOO_LARGE w_BAD_REQUEST w_INTERNAL_ERROR) then (1 : Int32) else (0 : Int32))
def Q0 (Z : State) (p1 : Int32) (p2 : Int32) (w_NOT_FOUND : Addr) (w_METHOD_NOT_ALLOWED : Addr) (w_TOO_LARGE : Addr) (w_BAD_REQUEST : Addr) (w_INTERNAL_ERROR : Addr) (h0 : Heap) (n0 : Nat) (v : Option Value) (h : Heap) (L : List Loc) : Prop := v = some (.int (f0 p1 p2 w_NOT_FOUND w_METHOD_NOT_ALLOWED w_TOO_LARGE w_BAD_REQUEST w_INTERNAL_ERROR)) ∧ Fr n0 L ∧ h = h0
set_option maxRecDepth 65536 in
set_option maxHeartbeats 40000000 in
theorem rm0 (l : Launch) (Z : State) (a0 : Array Value) (hw : ∀ d ∈ tables_1, d.before a0 Z = true) (ws : List Jvm.Cond) (p1 : Int32) (p2 : Int32) (w_NOT_FOUND : Addr) (w_METHOD_NOT_ALLOWED : Addr) (w_TOO_LARGE : Addr) (w_BAD_REQUEST : Addr) (w_INTERNAL_ERROR : Addr) (h0 : Heap) (n0 : Nat) (Z0 : n0 ≤ h0.size) (S_NOT_FOUND : Sta Z h0 "com/example/hilera/hilera/http/ErrorCode" "NOT_FOUND" "Lcom/example/hilera/hilera/http/ErrorCode;" (.ref w_NOT_FOUND)) (S_METHOD_NOT_ALLOWED : Sta Z h0 "com/example/hilera/hilera/http/ErrorCode" "METHOD_NOT_ALLOWED" "Lcom/example/hilera/hilera/http/ErrorCode;" (.ref w_METHOD_NOT_ALLOWED)) (S_TOO_LARGE : Sta Z h0 "com/example/hilera/hilera/http/ErrorCode" "TOO_LARGE" "Lcom/example/hilera/hilera/http/ErrorCode;" (.ref w_TOO_LARGE)) (S_BAD_REQUEST : Sta Z h0 "com/example/hilera/hilera/http/ErrorCode" "BAD_REQUEST" "Lcom/example/hilera/hilera/http/ErrorCode;" (.ref w_BAD_REQUEST)) (S_INTERNAL_ERROR : Sta Z h0 "com/example/hilera/hilera/http/ErrorCode" "INTERNAL_ERROR" "Lcom/example/hilera/hilera/http/ErrorCode;" (.ref w_INTERNAL_ERROR)) :
    MetFree l x (head1 (Jvm.Cond.code x code maxLocals ret :: ws) room_1) (fun a U => a = #[(.int p1), (.int p2)] ∧ Z.Warmed39 U.vm ∧ U.heap = h0) (fun _ _ _ _ _ => True) (fun _ U o U' => ∃ v L, o = .returned v ∧ Q0 Z p1 p2 w_NOT_FOUND w_METHOD_NOT_ALLOWED w_TOO_LARGE w_BAD_REQUEST w_INTERNAL_ERROR h0 n0 v U'.heap L ∧ FrameEnd U o U' L room_1.cells room_1.slots) := by
  refine MetFree.of_bodySF (plainFor_of_name pn_0) hisR ?_
  intro p e s m args below meth c s₁ Bd hml0 hP hK
  obtain ⟨rfl, hZ, hh⟩ := hP
  have hx := Bd.exec
  have hby := Bd.bytes
  have hml : c.maxLocals = 4 := hml0
  have hown : s.vm.findClass "com/example/hilera/hilera/http/ErrorCodeForStatusPinLaw" = some m.cls := findClass_of_methodNamed Bd.named
  have hnm := (name_of_methodNamed Bd.named Bd.method).1
  have X0 : Stand p l e room_1 s m #[(.int p1), (.int p2)] below meth c s₁ [] 0 0 := Stand.of_body Bd
  have e0 : s₁.heap = h0 := by rw [← hh, Bd.state]; rfl
  have N0 := Fr.nil n0
  have pre0 : ∀ t, Steps p.tables e below (s₁.setTop (mkF m 0 #[.val (.int p1), .val (.int p2), .unset, .unset] [])) t → Steps p.tables e below (s₁.setTop (entryFrame m #[(.int p1), (.int p2)] maxLocals)) t := fun t k => castTop (ef_0 m p1 p2) k
  have K1 : ∀ t, Steps p.tables e below (s₁.setTop (mkF m 3 #[.val (.int p1), .val (.int p2), .unset, .unset] [(.int (p2 &&& (1 : Int32)))])) t → Steps p.tables e below (s₁.setTop (mkF m 0 #[.val (.int p1), .val (.int p2), .unset, .unset] [])) t := by
    intro t k
    refine XS.iloadN X0.here hx rfl (hb hby at_0) rfl ?_
    show Steps p.tables e below (s₁.setTop (mkF m 1 #[.val (.int p1), .val (.int p2), .unset, .unset] [(.int p2)])) t
    refine XS.iconst X0.here hx rfl (hb hby at_1) ?_
    show Steps p.tables e below (s₁.setTop (mkF m 2 #[.val (.int p1), .val (.int p2), .unset, .unset] [(.int (1 : Int32)), (.int p2)])) t
    refine XS.iand X0.here hx rfl (hb hby at_2) rfl ?_
    show Steps p.tables e below (s₁.setTop (mkF m 3 #[.val (.int p1), .val (.int p2), .unset, .unset] [(.int (p2 &&& (1 : Int32)))])) t
    exact k
  have K2 : ∀ t, Steps p.tables e below (s₁.setTop (mkF m 22 #[.val (.int p1), .val (.int p2), .unset, .unset] [(.int (f0_u1 p1 p2))])) t → Steps p.tables e below (s₁.setTop (mkF m 3 #[.val (.int p1), .val (.int p2), .unset, .unset] [(.int (p2 &&& (1 : Int32)))])) t := by
    intro t k
    by_cases hc2 : (p2 &&& (1 : Int32)) = (0 : Int32)
    · have K3 : ∀ t, Steps p.tables e below (s₁.setTop (mkF m 6 #[.val (.int p1), .val (.int p2), .unset, .unset] [])) t → Steps p.tables e below (s₁.setTop (mkF m 3 #[.val (.int p1), .val (.int p2), .unset, .unset] [(.int (p2 &&& (1 : Int32)))])) t := by
        intro t k
        refine XS.ifNo X0.here hx rfl (hb hby at_3) rfl ((if0 _ _).trans (teq hc2).2) ?_
        exact k
      have K4 : ∀ t, Steps p.tables e below (s₁.setTop (mkF m 22 #[.val (.int p1), .val (.int p2), .unset, .unset] [(.int p1)])) t → Steps p.tables e below (s₁.setTop (mkF m 6 #[.val (.int p1), .val (.int p2), .unset, .unset] [])) t := by
        intro t k
        refine XS.iloadN X0.here hx rfl (hb hby at_6) rfl ?_
        show Steps p.tables e below (s₁.setTop (mkF m 7 #[.val (.int p1), .val (.int p2), .unset, .unset] [(.int p1)])) t
        refine XS.goto X0.here hx rfl (pc0 := 7) (pc' := 22) rfl (hb hby at_7) (by decide) (by decide) ?_
        show Steps p.tables e below (s₁.setTop (mkF m 22 #[.val (.int p1), .val (.int p2), .unset, .unset] [(.int p1)])) t
        exact k
      rw [show (f0_u1 p1 p2) = p1 from if_pos hc2] at k
      exact K3 _ (K4 _ (k))
    · have K5 : ∀ t, Steps p.tables e below (s₁.setTop (mkF m 10 #[.val (.int p1), .val (.int p2), .unset, .unset] [])) t → Steps p.tables e below (s₁.setTop (mkF m 3 #[.val (.int p1), .val (.int p2), .unset, .unset] [(.int (p2 &&& (1 : Int32)))])) t := by
        intro t k
        refine XS.ifYes X0.here hx rfl (pc0 := 3) (pc' := 10) rfl (hb hby at_3) rfl ((if0 _ _).trans (feq hc2).2) (by decide) (by decide) ?_
        exact k
      have K6 : ∀ t, Steps p.tables e below (s₁.setTop (mkF m 22 #[.val (.int p1), .val (.int p2), .unset, .unset] [(.int ((400 : Int32) + ((p1 &&& (2147483647 : Int32)) % (200 : Int32))))])) t → Steps p.tables e below (s₁.setTop (mkF m 10 #[.val (.int p1), .val (.int p2), .unset, .unset] [])) t := by
        intro t k
        refine XS.sipush X0.here hx rfl (hb hby at_10) ?_
        show Steps p.tables e below (s₁.setTop (mkF m 13 #[.val (.int p1), .val (.int p2), .unset, .unset] [(.int (400 : Int32))])) t
        refine XS.iloadN X0.here hx rfl (hb hby at_13) rfl ?_
        show Steps p.tables e below (s₁.setTop (mkF m 14 #[.val (.int p1), .val (.int p2), .unset, .unset] [(.int p1), (.int (400 : Int32))])) t
        refine X0.ldcInt hx hown (mvT hZ (hw _ (List.mem_of_getElem? (i := 0) rfl))) (g := (mkF m 14 #[.val (.int p1), .val (.int p2), .unset, .unset] [(.int p1), (.int (400 : Int32))])) rfl (hb hby at_14) _ ?_
        show Steps p.tables e below (s₁.setTop (mkF m 16 #[.val (.int p1), .val (.int p2), .unset, .unset] [(.int (2147483647 : Int32)), (.int p1), (.int (400 : Int32))])) t
        refine XS.iand X0.here hx rfl (hb hby at_16) rfl ?_
        show Steps p.tables e below (s₁.setTop (mkF m 17 #[.val (.int p1), .val (.int p2), .unset, .unset] [(.int (p1 &&& (2147483647 : Int32))), (.int (400 : Int32))])) t
        refine XS.sipush X0.here hx rfl (hb hby at_17) ?_
        show Steps p.tables e below (s₁.setTop (mkF m 20 #[.val (.int p1), .val (.int p2), .unset, .unset] [(.int (200 : Int32)), (.int (p1 &&& (2147483647 : Int32))), (.int (400 : Int32))])) t
        refine iremM X0 hx rfl (hb hby at_20) rfl (show (200 : Int32) ≠ (0 : Int32) from (by decide)) ?_
        show Steps p.tables e below (s₁.setTop (mkF m 21 #[.val (.int p1), .val (.int p2), .unset, .unset] [(.int ((p1 &&& (2147483647 : Int32)) % (200 : Int32))), (.int (400 : Int32))])) t
        refine XS.iadd X0.here hx rfl (hb hby at_21) rfl ?_
        show Steps p.tables e below (s₁.setTop (mkF m 22 #[.val (.int p1), .val (.int p2), .unset, .unset] [(.int ((400 : Int32) + ((p1 &&& (2147483647 : Int32)) % (200 : Int32))))])) t
        exact k
      rw [show (f0_u1 p1 p2) = ((400 : Int32) + ((p1 &&& (2147483647 : Int32)) % (200 : Int32))) from if_neg hc2] at k
      exact K5 _ (K6 _ (k))
  have K7 : ∀ t, Steps p.tables e below (s₁.setTop (mkF m 24 #[.val (.int p1), .val (.int p2), .val (.int (f0_u1 p1 p2)), .unset] [(.int (f0_u1 p1 p2))])) t → Steps p.tables e below (s₁.setTop (mkF m 22 #[.val (.int p1), .val (.int p2), .unset, .unset] [(.int (f0_u1 p1 p2))])) t := by
    intro t k
    refine XS.istoreN X0.here hx rfl (hb hby at_22) rfl (l' := #[.val (.int p1), .val (.int p2), .val (.int (f0_u1 p1 p2)), .unset]) rfl ?_
    show Steps p.tables e below (s₁.setTop (mkF m 23 #[.val (.int p1), .val (.int p2), .val (.int (f0_u1 p1 p2)), .unset] [])) t
    refine XS.iloadN X0.here hx rfl (hb hby at_23) rfl ?_
    show Steps p.tables e below (s₁.setTop (mkF m 24 #[.val (.int p1), .val (.int p2), .val (.int (f0_u1 p1 p2)), .unset] [(.int (f0_u1 p1 p2))])) t
    exact k
  obtain ⟨_, _, ⟨T8, L8, k8, n8⟩, -, X8, ⟨Lc8, hQ8, l8, y8, z8⟩, st8⟩ := Jvm.LawKit.callS X0 hx (y := (⟨"com/example/hilera/hilera/http/ErrorCode", "forStatus", "(I)Lcom/example/hilera/hilera/http/ErrorCode;"⟩ : MethodName)) hown (mvT hZ (hw _ (List.mem_of_getElem? (i := 1) rfl))) (mvT hZ (hw _ (List.mem_of_getElem? (i := 2) rfl))) (mvT hZ (hw _ (List.mem_of_getElem? (i := 3) rfl))) (mvT hZ (hw _ (List.mem_of_getElem? (i := 4) rfl))) (by decide) (backOf (W := 0) (rm1 l Z a0 hw [] (f0_u1 p1 p2) w_NOT_FOUND w_METHOD_NOT_ALLOWED w_TOO_LARGE w_BAD_REQUEST w_INTERNAL_ERROR h0 n0 Z0 S_NOT_FOUND S_METHOD_NOT_ALLOWED S_TOO_LARGE S_BAD_REQUEST S_INTERNAL_ERROR) hZ (hw _ (List.mem_of_getElem? (i := 4) rfl)) (hw _ (List.mem_of_getElem? (i := 3) rfl)) (by decide) (by decide)) (g := (mkF m 24 #[.val (.int p1), .val (.int p2), .val (.int (f0_u1 p1 p2)), .unset] [(.int (f0_u1 p1 p2))])) rfl (by rw [hml]; rfl) (argsL := [(.int (f0_u1 p1 p2))]) (rest := []) (lenOf pd_0 rfl) rfl (by show 2 * 0 + _ ≤ _; exact Nat.le_of_eq rfl) (hb hby at_24) (fun _ _ => ⟨rfl, e0, (by decide : 0 + 0 ≤ _), (by decide : 0 + 0 ≤ _)⟩)
  dsimp only [Pt.U, Pt.locs, Pt.cells, Pt.slots] at X8 l8 y8 z8 st8 hQ8
  subst l8 y8 z8
  obtain ⟨rfl, N8q, e8⟩ := hQ8
  have N8 := Fr.app N0 N8q
  have K9 : ∀ t, Steps p.tables e below (T8.setTop (mkF m 27 #[.val (.int p1), .val (.int p2), .val (.int (f0_u1 p1 p2)), .unset] [(.ref (f1 (f0_u1 p1 p2) w_NOT_FOUND w_METHOD_NOT_ALLOWED w_TOO_LARGE w_BAD_REQUEST w_INTERNAL_ERROR))])) t → Steps p.tables e below (s₁.setTop (mkF m 24 #[.val (.int p1), .val (.int p2), .val (.int (f0_u1 p1 p2)), .unset] [(.int (f0_u1 p1 p2))])) t := fun t k => st8 _ k
  have K10 : ∀ t, Steps p.tables e below (T8.setTop (mkF m 30 #[.val (.int p1), .val (.int p2), .val (.int (f0_u1 p1 p2)), .val (.ref (f1 (f0_u1 p1 p2) w_NOT_FOUND w_METHOD_NOT_ALLOWED w_TOO_LARGE w_BAD_REQUEST w_INTERNAL_ERROR))] [(.int (f0_u1 p1 p2)), (.ref (f1 (f0_u1 p1 p2) w_NOT_FOUND w_METHOD_NOT_ALLOWED w_TOO_LARGE w_BAD_REQUEST w_INTERNAL_ERROR))])) t → Steps p.tables e below (T8.setTop (mkF m 27 #[.val (.int p1), .val (.int p2), .val (.int (f0_u1 p1 p2)), .unset] [(.ref (f1 (f0_u1 p1 p2) w_NOT_FOUND w_METHOD_NOT_ALLOWED w_TOO_LARGE w_BAD_REQUEST w_INTERNAL_ERROR))])) t := by
    intro t k
    refine XS.astoreN X8.here hx rfl (hb hby at_27) rfl rfl (l' := #[.val (.int p1), .val (.int p2), .val (.int (f0_u1 p1 p2)), .val (.ref (f1 (f0_u1 p1 p2) w_NOT_FOUND w_METHOD_NOT_ALLOWED w_TOO_LARGE w_BAD_REQUEST w_INTERNAL_ERROR))]) rfl ?_
    show Steps p.tables e below (T8.setTop (mkF m 28 #[.val (.int p1), .val (.int p2), .val (.int (f0_u1 p1 p2)), .val (.ref (f1 (f0_u1 p1 p2) w_NOT_FOUND w_METHOD_NOT_ALLOWED w_TOO_LARGE w_BAD_REQUEST w_INTERNAL_ERROR))] [])) t
    refine XS.aloadN X8.here hx rfl (hb hby at_28) rfl rfl ?_
    show Steps p.tables e below (T8.setTop (mkF m 29 #[.val (.int p1), .val (.int p2), .val (.int (f0_u1 p1 p2)), .val (.ref (f1 (f0_u1 p1 p2) w_NOT_FOUND w_METHOD_NOT_ALLOWED w_TOO_LARGE w_BAD_REQUEST w_INTERNAL_ERROR))] [(.ref (f1 (f0_u1 p1 p2) w_NOT_FOUND w_METHOD_NOT_ALLOWED w_TOO_LARGE w_BAD_REQUEST w_INTERNAL_ERROR))])) t
    refine XS.iloadN X8.here hx rfl (hb hby at_29) rfl ?_
    show Steps p.tables e below (T8.setTop (mkF m 30 #[.val (.int p1), .val (.int p2), .val (.int (f0_u1 p1 p2)), .val (.ref (f1 (f0_u1 p1 p2) w_NOT_FOUND w_METHOD_NOT_ALLOWED w_TOO_LARGE w_BAD_REQUEST w_INTERNAL_ERROR))] [(.int (f0_u1 p1 p2)), (.ref (f1 (f0_u1 p1 p2) w_NOT_FOUND w_METHOD_NOT_ALLOWED w_TOO_LARGE w_BAD_REQUEST w_INTERNAL_ERROR))])) t
    exact k
  obtain ⟨_, _, ⟨T11, L11, k11, n11⟩, -, X11, ⟨Lc11, hQ11, l11, y11, z11⟩, st11⟩ := Jvm.LawKit.callS X8 hx (y := (⟨"com/example/hilera/hilera/http/ErrorCodeForStatusPinLaw", "expected", "(I)Lcom/example/hilera/hilera/http/ErrorCode;"⟩ : MethodName)) hown (mvT hZ (hw _ (List.mem_of_getElem? (i := 7) rfl))) (mvT hZ (hw _ (List.mem_of_getElem? (i := 8) rfl))) (mvT hZ (hw _ (List.mem_of_getElem? (i := 9) rfl))) (mvT hZ (hw _ (List.mem_of_getElem? (i := 10) rfl))) (by decide) (backOf (W := 1) (rm2 l Z a0 hw [] (f0_u1 p1 p2) w_NOT_FOUND w_METHOD_NOT_ALLOWED w_TOO_LARGE w_BAD_REQUEST w_INTERNAL_ERROR h0 n0 Z0 S_NOT_FOUND S_METHOD_NOT_ALLOWED S_TOO_LARGE S_BAD_REQUEST S_INTERNAL_ERROR) hZ (hw _ (List.mem_of_getElem? (i := 10) rfl)) (hw _ (List.mem_of_getElem? (i := 9) rfl)) (by decide) (by decide)) (g := (mkF m 30 #[.val (.int p1), .val (.int p2), .val (.int (f0_u1 p1 p2)), .val (.ref (f1 (f0_u1 p1 p2) w_NOT_FOUND w_METHOD_NOT_ALLOWED w_TOO_LARGE w_BAD_REQUEST w_INTERNAL_ERROR))] [(.int (f0_u1 p1 p2)), (.ref (f1 (f0_u1 p1 p2) w_NOT_FOUND w_METHOD_NOT_ALLOWED w_TOO_LARGE w_BAD_REQUEST w_INTERNAL_ERROR))])) rfl (by rw [hml]; rfl) (argsL := [(.int (f0_u1 p1 p2))]) (rest := [(.ref (f1 (f0_u1 p1 p2) w_NOT_FOUND w_METHOD_NOT_ALLOWED w_TOO_LARGE w_BAD_REQUEST w_INTERNAL_ERROR))]) (lenOf pd_0 rfl) rfl (by show 2 * 0 + _ ≤ _; exact Nat.le_of_eq rfl) (hb hby at_30) (fun _ _ => ⟨rfl, e8, (by decide : 0 + 0 ≤ _), (by decide : 0 + 0 ≤ _)⟩)
  dsimp only [Pt.U, Pt.locs, Pt.cells, Pt.slots] at X11 l11 y11 z11 st11 hQ11
  subst l11 y11 z11
  obtain ⟨rfl, N11q, e11⟩ := hQ11
  have N11 := Fr.app N8 N11q
  have K12 : ∀ t, Steps p.tables e below (T11.setTop (mkF m 33 #[.val (.int p1), .val (.int p2), .val (.int (f0_u1 p1 p2)), .val (.ref (f1 (f0_u1 p1 p2) w_NOT_FOUND w_METHOD_NOT_ALLOWED w_TOO_LARGE w_BAD_REQUEST w_INTERNAL_ERROR))] [(.ref (f2 (f0_u1 p1 p2) w_NOT_FOUND w_METHOD_NOT_ALLOWED w_TOO_LARGE w_BAD_REQUEST w_INTERNAL_ERROR)), (.ref (f1 (f0_u1 p1 p2) w_NOT_FOUND w_METHOD_NOT_ALLOWED w_TOO_LARGE w_BAD_REQUEST w_INTERNAL_ERROR))])) t → Steps p.tables e below (T8.setTop (mkF m 30 #[.val (.int p1), .val (.int p2), .val (.int (f0_u1 p1 p2)), .val (.ref (f1 (f0_u1 p1 p2) w_NOT_FOUND w_METHOD_NOT_ALLOWED w_TOO_LARGE w_BAD_REQUEST w_INTERNAL_ERROR))] [(.int (f0_u1 p1 p2)), (.ref (f1 (f0_u1 p1 p2) w_NOT_FOUND w_METHOD_NOT_ALLOWED w_TOO_LARGE w_BAD_REQUEST w_INTERNAL_ERROR))])) t := fun t k => st11 _ k
  by_cases hc13 : (f1 (f0_u1 p1 p2) w_NOT_FOUND w_METHOD_NOT_ALLOWED w_TOO_LARGE w_BAD_REQUEST w_INTERNAL_ERROR) = (f2 (f0_u1 p1 p2) w_NOT_FOUND w_METHOD_NOT_ALLOWED w_TOO_LARGE w_BAD_REQUEST w_INTERNAL_ERROR)
  · have K14 : ∀ t, Steps p.tables e below (T11.setTop (mkF m 36 #[.val (.int p1), .val (.int p2), .val (.int (f0_u1 p1 p2)), .val (.ref (f1 (f0_u1 p1 p2) w_NOT_FOUND w_METHOD_NOT_ALLOWED w_TOO_LARGE w_BAD_REQUEST w_INTERNAL_ERROR))] [])) t → Steps p.tables e below (T11.setTop (mkF m 33 #[.val (.int p1), .val (.int p2), .val (.int (f0_u1 p1 p2)), .val (.ref (f1 (f0_u1 p1 p2) w_NOT_FOUND w_METHOD_NOT_ALLOWED w_TOO_LARGE w_BAD_REQUEST w_INTERNAL_ERROR))] [(.ref (f2 (f0_u1 p1 p2) w_NOT_FOUND w_METHOD_NOT_ALLOWED w_TOO_LARGE w_BAD_REQUEST w_INTERNAL_ERROR)), (.ref (f1 (f0_u1 p1 p2) w_NOT_FOUND w_METHOD_NOT_ALLOWED w_TOO_LARGE w_BAD_REQUEST w_INTERNAL_ERROR))])) t := by
      intro t k
      refine Jvm.RoadKit.acmp (g := (mkF m 33 #[.val (.int p1), .val (.int p2), .val (.int (f0_u1 p1 p2)), .val (.ref (f1 (f0_u1 p1 p2) w_NOT_FOUND w_METHOD_NOT_ALLOWED w_TOO_LARGE w_BAD_REQUEST w_INTERNAL_ERROR))] [(.ref (f2 (f0_u1 p1 p2) w_NOT_FOUND w_METHOD_NOT_ALLOWED w_TOO_LARGE w_BAD_REQUEST w_INTERNAL_ERROR)), (.ref (f1 (f0_u1 p1 p2) w_NOT_FOUND w_METHOD_NOT_ALLOWED w_TOO_LARGE w_BAD_REQUEST w_INTERNAL_ERROR))])) X11 hx rfl rfl rfl (pc0 := 33) (pc' := 36) (same := true) rfl (hb hby at_33) rfl (decide_eq_true (congrArg Value.ref hc13)) (by decide) (by decide) ?_
      exact k
    have K15 : ∀ t, Steps p.tables e below (T11.setTop (mkF m 41 #[.val (.int p1), .val (.int p2), .val (.int (f0_u1 p1 p2)), .val (.ref (f1 (f0_u1 p1 p2) w_NOT_FOUND w_METHOD_NOT_ALLOWED w_TOO_LARGE w_BAD_REQUEST w_INTERNAL_ERROR))] [(.int (1 : Int32))])) t → Steps p.tables e below (T11.setTop (mkF m 36 #[.val (.int p1), .val (.int p2), .val (.int (f0_u1 p1 p2)), .val (.ref (f1 (f0_u1 p1 p2) w_NOT_FOUND w_METHOD_NOT_ALLOWED w_TOO_LARGE w_BAD_REQUEST w_INTERNAL_ERROR))] [])) t := by
      intro t k
      refine XS.iconst X11.here hx rfl (hb hby at_36) ?_
      show Steps p.tables e below (T11.setTop (mkF m 37 #[.val (.int p1), .val (.int p2), .val (.int (f0_u1 p1 p2)), .val (.ref (f1 (f0_u1 p1 p2) w_NOT_FOUND w_METHOD_NOT_ALLOWED w_TOO_LARGE w_BAD_REQUEST w_INTERNAL_ERROR))] [(.int (1 : Int32))])) t
      refine XS.goto X11.here hx rfl (pc0 := 37) (pc' := 41) rfl (hb hby at_37) (by decide) (by decide) ?_
      show Steps p.tables e below (T11.setTop (mkF m 41 #[.val (.int p1), .val (.int p2), .val (.int (f0_u1 p1 p2)), .val (.ref (f1 (f0_u1 p1 p2) w_NOT_FOUND w_METHOD_NOT_ALLOWED w_TOO_LARGE w_BAD_REQUEST w_INTERNAL_ERROR))] [(.int (1 : Int32))])) t
      exact k
    obtain ⟨fs, hr, hrun, hended, hW, hsame⟩ := X11.leave (v := some (.int (1 : Int32))) (fun h => by rw [Bd.returns] at h; cases h)
    refine ⟨_, _, pre0 _ (K1 _ (K2 _ (K7 _ (K9 _ (K10 _ (K12 _ (K14 _ (K15 _ (retN X11 hx (t := .boolean) Bd.returns (by simp) (hb hby at_41) hr))))))))), hrun, hended, _, _, rfl, ?_, ⟨_, rfl⟩, hW, hsame.mono (by decide) (by decide)⟩
    show Q0 Z p1 p2 w_NOT_FOUND w_METHOD_NOT_ALLOWED w_TOO_LARGE w_BAD_REQUEST w_INTERNAL_ERROR h0 n0 _ T11.heap _
    rw [e11]
    exact ⟨congrArg (fun z => some (Value.int z)) (show (1 : Int32) = f0 p1 p2 w_NOT_FOUND w_METHOD_NOT_ALLOWED w_TOO_LARGE w_BAD_REQUEST w_INTERNAL_ERROR from Eq.symm (if_pos hc13)), N11, rfl⟩
  · have K16 : ∀ t, Steps p.tables e below (T11.setTop (mkF m 40 #[.val (.int p1), .val (.int p2), .val (.int (f0_u1 p1 p2)), .val (.ref (f1 (f0_u1 p1 p2) w_NOT_FOUND w_METHOD_NOT_ALLOWED w_TOO_LARGE w_BAD_REQUEST w_INTERNAL_ERROR))] [])) t → Steps p.tables e below (T11.setTop (mkF m 33 #[.val (.int p1), .val (.int p2), .val (.int (f0_u1 p1 p2)), .val (.ref (f1 (f0_u1 p1 p2) w_NOT_FOUND w_METHOD_NOT_ALLOWED w_TOO_LARGE w_BAD_REQUEST w_INTERNAL_ERROR))] [(.ref (f2 (f0_u1 p1 p2) w_NOT_FOUND w_METHOD_NOT_ALLOWED w_TOO_LARGE w_BAD_REQUEST w_INTERNAL_ERROR)), (.ref (f1 (f0_u1 p1 p2) w_NOT_FOUND w_METHOD_NOT_ALLOWED w_TOO_LARGE w_BAD_REQUEST w_INTERNAL_ERROR))])) t := by
      intro t k
      refine Jvm.RoadKit.acmp (g := (mkF m 33 #[.val (.int p1), .val (.int p2), .val (.int (f0_u1 p1 p2)), .val (.ref (f1 (f0_u1 p1 p2) w_NOT_FOUND w_METHOD_NOT_ALLOWED w_TOO_LARGE w_BAD_REQUEST w_INTERNAL_ERROR))] [(.ref (f2 (f0_u1 p1 p2) w_NOT_FOUND w_METHOD_NOT_ALLOWED w_TOO_LARGE w_BAD_REQUEST w_INTERNAL_ERROR)), (.ref (f1 (f0_u1 p1 p2) w_NOT_FOUND w_METHOD_NOT_ALLOWED w_TOO_LARGE w_BAD_REQUEST w_INTERNAL_ERROR))])) X11 hx rfl rfl rfl (pc0 := 33) (pc' := 40) (same := false) rfl (hb hby at_33) rfl (decide_eq_false fun q => hc13 (Value.ref.inj q)) (by decide) (by decide) ?_
      exact k
    have K17 : ∀ t, Steps p.tables e below (T11.setTop (mkF m 41 #[.val (.int p1), .val (.int p2), .val (.int (f0_u1 p1 p2)), .val (.ref (f1 (f0_u1 p1 p2) w_NOT_FOUND w_METHOD_NOT_ALLOWED w_TOO_LARGE w_BAD_REQUEST w_INTERNAL_ERROR))] [(.int (0 : Int32))])) t → Steps p.tables e below (T11.setTop (mkF m 40 #[.val (.int p1), .val (.int p2), .val (.int (f0_u1 p1 p2)), .val (.ref (f1 (f0_u1 p1 p2) w_NOT_FOUND w_METHOD_NOT_ALLOWED w_TOO_LARGE w_BAD_REQUEST w_INTERNAL_ERROR))] [])) t := by
      intro t k
      refine XS.iconst X11.here hx rfl (hb hby at_40) ?_
      show Steps p.tables e below (T11.setTop (mkF m 41 #[.val (.int p1), .val (.int p2), .val (.int (f0_u1 p1 p2)), .val (.ref (f1 (f0_u1 p1 p2) w_NOT_FOUND w_METHOD_NOT_ALLOWED w_TOO_LARGE w_BAD_REQUEST w_INTERNAL_ERROR))] [(.int (0 : Int32))])) t
      exact k
    obtain ⟨fs, hr, hrun, hended, hW, hsame⟩ := X11.leave (v := some (.int (0 : Int32))) (fun h => by rw [Bd.returns] at h; cases h)
    refine ⟨_, _, pre0 _ (K1 _ (K2 _ (K7 _ (K9 _ (K10 _ (K12 _ (K16 _ (K17 _ (retN X11 hx (t := .boolean) Bd.returns (by simp) (hb hby at_41) hr))))))))), hrun, hended, _, _, rfl, ?_, ⟨_, rfl⟩, hW, hsame.mono (by decide) (by decide)⟩
    show Q0 Z p1 p2 w_NOT_FOUND w_METHOD_NOT_ALLOWED w_TOO_LARGE w_BAD_REQUEST w_INTERNAL_ERROR h0 n0 _ T11.heap _
    rw [e11]
    exact ⟨congrArg (fun z => some (Value.int z)) (show (0 : Int32) = f0 p1 p2 w_NOT_FOUND w_METHOD_NOT_ALLOWED w_TOO_LARGE w_BAD_REQUEST w_INTERNAL_ERROR from Eq.symm (if_neg hc13)), N11, rfl⟩
theorem own_eq (x : Int32) (a b c d e : Addr) : f1 x a b c d e = f2 x a b c d e := by
  unfold f1 f2
  by_cases h1 : x = 505
  · subst h1; (simp; done)
  · by_cases h2 : x < 500 <;> simp [h1, h2]
theorem plain (x k : Int32) (a b c d e : Addr) : f0 x k a b c d e = 1 := if_pos (own_eq _ a b c d e)
set_option maxRecDepth 65536 in
set_option maxHeartbeats 40000000 in
theorem comes_1 {Post : Tables → Env → Array Value → State → Outcome → State → Prop} (hpost : ∀ tb e args s v u, (limb_1_1.after args s (.returned v) u = true ∧ limb_1_2.after args s (.returned v) u = true ∧ True) → FrameEnd s (.returned v) u (Jvm.fieldLocs frame_1_writes args s ++ Jvm.arrayLocs frame_1_arrays args s ++ Jvm.staticLocs frame_1_statics s) 0 0 → Post tb e args s (.returned v) u) :
    ArmFor flags0 classFile x code maxLocals ret World_1 tables_1 room_1 Calls_1 rest_1 Pre_1 Post := by
  intro l hfl _ _ p e ha hc hk s m args below hf hA hF happ hP
  obtain ⟨hcalls, hrest, hpre⟩ := hP
  obtain ⟨-, -, -, hnamed, -, -, -, hat⟩ := (Spec.applies_iff hf).mp happ
  obtain ⟨hg, hn⟩ := and_e (Cond.before_iff.mp (show (Jvm.Cond.and given_1 narrow_1).before args s = true from hpre))
  obtain ⟨gc, g0⟩ := and_e hg
  obtain ⟨gi0, g1⟩ := and_e g0
  have gi1 := g1
  obtain ⟨w0, w1, rfl⟩ : ∃ w0 w1 : Value, args = #[w0, w1] := by
    have hs : args.size = 2 := by simpa [Cond.value, given_1] using gc
    obtain ⟨L⟩ := args
    match L, hs with
    | [w0, w1], _ => exact ⟨w0, w1, rfl⟩
  have hw := fun d (hd : d ∈ tables_1) => atoms_spec (ws := Jvm.Cond.code x code maxLocals ret :: tables_1) hat d (List.mem_cons_of_mem _ hd)
  have hfit : Fit s := fun {y c} hc i hi => by
    obtain ⟨ha, rfl⟩ := Array.getElem?_eq_some_iff.mp hc
    have q := List.all_eq_true.mp ((Array.all_eq_true_iff_forall_mem.mp hF) _ (Array.getElem_mem ha)) i (List.mem_range.mpr hi)
    simpa [Array.getElem?_eq_getElem hi] using q
  obtain ⟨i0, ei0⟩ := is_v gi0
  obtain rfl : w0 = (.int i0) := Option.some.inj ei0
  obtain ⟨i1, ei1⟩ := is_v gi1
  obtain rfl : w1 = (.int i1) := Option.some.inj ei1
  obtain ⟨hm0, hn0⟩ := and_e hn
  obtain ⟨hm1, hn1⟩ := and_e hn0
  obtain ⟨hm2, hn2⟩ := and_e hn1
  obtain ⟨hm3, hn3⟩ := and_e hn2
  obtain ⟨w_BAD_REQUEST, ev_BAD_REQUEST⟩ := exa_v hm0
  have E_w_BAD_REQUEST : Exa s s.heap w_BAD_REQUEST "com/example/hilera/hilera/http/ErrorCode" := Exa.start ev_BAD_REQUEST hm0
  have S_BAD_REQUEST : Sta s s.heap "com/example/hilera/hilera/http/ErrorCode" "BAD_REQUEST" "Lcom/example/hilera/hilera/http/ErrorCode;" (.ref w_BAD_REQUEST) := Sta.start ev_BAD_REQUEST (Or.inr ⟨(hw _ (List.mem_of_getElem? (i := 3) rfl)), (hw _ (List.mem_of_getElem? (i := 6) rfl))⟩)
  obtain ⟨w_TOO_LARGE, ev_TOO_LARGE⟩ := exa_v hm1
  have E_w_TOO_LARGE : Exa s s.heap w_TOO_LARGE "com/example/hilera/hilera/http/ErrorCode" := Exa.start ev_TOO_LARGE hm1
  have S_TOO_LARGE : Sta s s.heap "com/example/hilera/hilera/http/ErrorCode" "TOO_LARGE" "Lcom/example/hilera/hilera/http/ErrorCode;" (.ref w_TOO_LARGE) := Sta.start ev_TOO_LARGE (Or.inr ⟨(hw _ (List.mem_of_getElem? (i := 3) rfl)), (hw _ (List.mem_of_getElem? (i := 13) rfl))⟩)
  obtain ⟨w_INTERNAL_ERROR, ev_INTERNAL_ERROR⟩ := exa_v hm2
  have E_w_INTERNAL_ERROR : Exa s s.heap w_INTERNAL_ERROR "com/example/hilera/hilera/http/ErrorCode" := Exa.start ev_INTERNAL_ERROR hm2
  have S_INTERNAL_ERROR : Sta s s.heap "com/example/hilera/hilera/http/ErrorCode" "INTERNAL_ERROR" "Lcom/example/hilera/hilera/http/ErrorCode;" (.ref w_INTERNAL_ERROR) := Sta.start ev_INTERNAL_ERROR (Or.inr ⟨(hw _ (List.mem_of_getElem? (i := 3) rfl)), (hw _ (List.mem_of_getElem? (i := 16) rfl))⟩)
  obtain ⟨w_METHOD_NOT_ALLOWED, ev_METHOD_NOT_ALLOWED⟩ := exa_v hm3
  have E_w_METHOD_NOT_ALLOWED : Exa s s.heap w_METHOD_NOT_ALLOWED "com/example/hilera/hilera/http/ErrorCode" := Exa.start ev_METHOD_NOT_ALLOWED hm3
  have S_METHOD_NOT_ALLOWED : Sta s s.heap "com/example/hilera/hilera/http/ErrorCode" "METHOD_NOT_ALLOWED" "Lcom/example/hilera/hilera/http/ErrorCode;" (.ref w_METHOD_NOT_ALLOWED) := Sta.start ev_METHOD_NOT_ALLOWED (Or.inr ⟨(hw _ (List.mem_of_getElem? (i := 3) rfl)), (hw _ (List.mem_of_getElem? (i := 19) rfl))⟩)
  obtain ⟨w_NOT_FOUND, ev_NOT_FOUND⟩ := exa_v hn3
  have E_w_NOT_FOUND : Exa s s.heap w_NOT_FOUND "com/example/hilera/hilera/http/ErrorCode" := Exa.start ev_NOT_FOUND hn3
  have S_NOT_FOUND : Sta s s.heap "com/example/hilera/hilera/http/ErrorCode" "NOT_FOUND" "Lcom/example/hilera/hilera/http/ErrorCode;" (.ref w_NOT_FOUND) := Sta.start ev_NOT_FOUND (Or.inr ⟨(hw _ (List.mem_of_getElem? (i := 3) rfl)), (hw _ (List.mem_of_getElem? (i := 22) rfl))⟩)
  obtain ⟨n, o, h1, h2, h3, v, L, rfl, ⟨hv, N, -⟩, hq⟩ := rm0 l s _ hw tables_1 i0 i1 w_NOT_FOUND w_METHOD_NOT_ALLOWED w_TOO_LARGE w_BAD_REQUEST w_INTERNAL_ERROR s.heap s.heap.size (Nat.le_refl _) S_NOT_FOUND S_METHOD_NOT_ALLOWED S_TOO_LARGE S_BAD_REQUEST S_INTERNAL_ERROR p e ha hc hk s m _ below hf ((Spec.applies_iff_loose hf).mp happ).1 ⟨rfl, State.Warmed39.refl s, rfl⟩ trivial
  rw [plain i0 i1 w_NOT_FOUND w_METHOD_NOT_ALLOWED w_TOO_LARGE w_BAD_REQUEST w_INTERNAL_ERROR] at hv
  subst hv
  refine ⟨n, _, h1, h2, h3, hpost _ _ _ _ _ _ ⟨Cond.after_iff.mpr rfl, Cond.after_iff.mpr (eq_i res_at (Term.int_eval (1)) rfl), trivial⟩ ⟨hq.1, hq.2.1, (hq.2.2.sift fun y hy => Or.inr (N y hy)).mono (by decide) (by decide)⟩⟩
theorem main_1_1 : Claimed_1_1 := comes_1 fun _ _ _ _ _ _ h hF => ⟨h.1, hF⟩
theorem main_1_2 : Claimed_1_2 := comes_1 fun _ _ _ _ _ _ h hF => ⟨h.2.1, hF⟩
end Jvm.Pilot.@@N@@
namespace Jvm.Pilot.@@N@@
open Jvm Jvm.ClassFile Sem Op Lib Jvm.Free Jvm.Stand Jvm.Pilot.@@N@@.Jvm.D
/-! MADE BY PROGRAM (witnessworld.py) out of the Statement's table words and the real class files: 12 classes; the members and pool entries that the words name. The judged class is class 1, her method 1. -/
namespace start1
open Jvm.ClassFile
def u (s : String) : CpInfo := .utf8 (stringToUtf16 s)
/-- a pool by its gaps: so many unusable entries, then the entry; so many at the end -/
def gap : Nat → List CpInfo → List CpInfo
  | 0, r => r
  | n + 1, r => .unusable :: gap n r
def poolList (es : List (Nat × CpInfo)) (last : Nat) : List CpInfo := es.foldr (fun e r => gap e.1 (e.2 :: r)) (gap last [])
def pool (es : List (Nat × CpInfo)) (last : Nat) : Array CpInfo := ⟨poolList es last⟩
def fileOf (pool : Array CpInfo) (this : Nat) (attrs : Array Attribute := #[]) (ms : Array MethodInfo := #[]) (fl : Nat := 33) (sup : Nat := 0) (ifs : Array Nat := #[]) (fds : Array FieldInfo := #[]) : ClassFile where
  minorVersion := 0
  majorVersion := 65
  constantPool := pool
  accessFlags := fl
  thisClass := this
  superClass := sup
  interfaces := ifs
  fields := fds
  methods := ms
  attributes := attrs
def plain (name : String) (sup : Option ClassId) : Class where
  name := name
  kind := .ordinary
  loader := none
  accessFlags := 33
  super := sup
  interfaces := #[]
  cf := none
  fields := #[]
  methods := #[]
  instanceTypes := #[]
  staticTypes := #[]
  resolved := #[]
  callSites := []
  init := .initialized
  statics := none
  mirror := none

def pool0 : Array CpInfo := pool [(5, u "<init>"), (0, u "()V"), (1, .class_ 10), (1, u "java/lang/Object")] 113

def k0m0 : Method := { name := "<init>", desc := "()V", sig := { parameters := [], returnType := none }, accessFlags := 1, code := none }
/-- java/lang/Object -/
def k0 : Class := { plain "java/lang/Object" none with
  accessFlags := 33
  interfaces := #[]
  cf := some (fileOf pool0 8 #[] #[{ accessFlags := 1, nameIndex := 5, descriptorIndex := 6, attributes := #[] }] 33 0 #[] #[])
  fields := #[]
  methods := #[k0m0]
  instanceTypes := #[]
  staticTypes := #[]
  resolved := Array.replicate 124 none
  statics := none }

def pool1 : Array CpInfo := pool [(2, .class_ 4), (1, u "java/lang/Object"), (0, u "<init>"), (0, u "()V"), (0, .integer 2147483647), (0, .methodref 9 10), (0, .class_ 11), (0, .nameAndType 12 13), (0, u "com/example/hilera/hilera/http/ErrorCode"), (0, u "forStatus"), (0, u "(I)Lcom/example/hilera/hilera/http/ErrorCode;"), (0, .methodref 15 16), (0, .class_ 17), (0, .nameAndType 18 13), (0, u "com/example/hilera/hilera/http/ErrorCodeForStatusPinLaw"), (0, u "expected"), (0, .fieldref 9 20), (0, .nameAndType 21 22), (0, u "NOT_FOUND"), (0, u "Lcom/example/hilera/hilera/http/ErrorCode;"), (0, .fieldref 9 24), (0, .nameAndType 25 22), (0, u "METHOD_NOT_ALLOWED"), (0, .fieldref 9 27), (0, .nameAndType 28 22), (0, u "TOO_LARGE"), (0, .fieldref 9 30), (0, .nameAndType 31 22), (0, u "INTERNAL_ERROR"), (0, .fieldref 9 33), (0, .nameAndType 34 22), (0, u "BAD_REQUEST"), (2, u "law"), (0, u "(II)Z")] 3

def k1m0 : Method := { name := "<init>", desc := "()V", sig := { parameters := [], returnType := none }, accessFlags := 1, code := none }
def k1c1 : Code := { maxStack := 3, maxLocals := 4, code := code, exceptionTable := #[], attributes := #[] }
def k1m1 : Method := { name := "law", desc := "(II)Z", sig := { parameters := [.int, .int], returnType := some .boolean }, accessFlags := 9, code := some k1c1 }
def k1c2 : Code := { maxStack := 2, maxLocals := 1, code := method_3_code, exceptionTable := #[], attributes := #[] }
def k1m2 : Method := { name := "expected", desc := "(I)Lcom/example/hilera/hilera/http/ErrorCode;", sig := { parameters := [.int], returnType := some (.object "com/example/hilera/hilera/http/ErrorCode") }, accessFlags := 10, code := some k1c2 }
/-- com/example/hilera/hilera/http/ErrorCodeForStatusPinLaw -/
def k1 : Class := { plain "com/example/hilera/hilera/http/ErrorCodeForStatusPinLaw" (some 0) with
  accessFlags := 49
  interfaces := #[]
  cf := some (fileOf pool1 15 #[] #[{ accessFlags := 1, nameIndex := 5, descriptorIndex := 6, attributes := #[] }, { accessFlags := 9, nameIndex := 37, descriptorIndex := 38, attributes := #[] }, { accessFlags := 10, nameIndex := 18, descriptorIndex := 13, attributes := #[] }] 49 2 #[] #[])
  fields := #[]
  methods := #[k1m0, k1m1, k1m2]
  instanceTypes := #[]
  staticTypes := #[]
  resolved := Array.replicate 42 none
  statics := none }

def pool2 : Array CpInfo := pool [(1, .class_ 2), (0, u "java/lang/constant/Constable"), (0, .class_ 4), (0, u "java/lang/Object")] 6

/-- java/lang/constant/Constable -/
def k2 : Class := { plain "java/lang/constant/Constable" (some 0) with
  accessFlags := 1537
  interfaces := #[]
  cf := some (fileOf pool2 1 #[] #[] 1537 3 #[] #[])
  fields := #[]
  methods := #[]
  instanceTypes := #[]
  staticTypes := #[]
  resolved := Array.replicate 11 none
  statics := none }

def pool3 : Array CpInfo := pool [(1, .class_ 2), (0, u "java/lang/Comparable"), (0, .class_ 4), (0, u "java/lang/Object")] 7

/-- java/lang/Comparable -/
def k3 : Class := { plain "java/lang/Comparable" (some 0) with
  accessFlags := 1537
  interfaces := #[]
  cf := some (fileOf pool3 1 #[] #[] 1537 3 #[] #[])
  fields := #[]
  methods := #[]
  instanceTypes := #[]
  staticTypes := #[]
  resolved := Array.replicate 12 none
  statics := none }

def pool4 : Array CpInfo := pool [(1, .class_ 2), (0, u "java/io/Serializable"), (0, .class_ 4), (0, u "java/lang/Object")] 2

/-- java/io/Serializable -/
def k4 : Class := { plain "java/io/Serializable" (some 0) with
  accessFlags := 1537
  interfaces := #[]
  cf := some (fileOf pool4 1 #[] #[] 1537 3 #[] #[])
  fields := #[]
  methods := #[]
  instanceTypes := #[]
  staticTypes := #[]
  resolved := Array.replicate 7 none
  statics := none }

def pool5 : Array CpInfo := pool [(2, .class_ 4), (1, u "java/lang/Enum"), (0, u "name"), (0, u "Ljava/lang/String;"), (2, u "ordinal"), (0, u "I"), (1, .class_ 14), (1, u "java/lang/Object"), (4, u "hash"), (86, .class_ 108), (1, u "java/lang/Enum$EnumDesc"), (2, .class_ 112), (0, u "java/lang/constant/Constable"), (0, .class_ 114), (0, u "java/lang/Comparable"), (0, .class_ 116), (0, u "java/io/Serializable")] 87

/-- java/lang/Enum -/
def k5 : Class := { plain "java/lang/Enum" (some 0) with
  accessFlags := 1057
  interfaces := #[2, 3, 4]
  cf := some (fileOf pool5 2 #[.nestMembers #[106]] #[] 1057 12 #[111, 113, 115] #[{ accessFlags := 18, nameIndex := 5, descriptorIndex := 6, attributes := #[] }, { accessFlags := 18, nameIndex := 9, descriptorIndex := 10, attributes := #[] }, { accessFlags := 2, nameIndex := 19, descriptorIndex := 10, attributes := #[] }])
  fields := #[{ name := "name", type := (.object "java/lang/String"), accessFlags := 18, slot := 0, constantValue := 0 }, { name := "ordinal", type := .int, accessFlags := 18, slot := 1, constantValue := 0 }, { name := "hash", type := .int, accessFlags := 2, slot := 2, constantValue := 0 }]
  methods := #[]
  instanceTypes := #[(.object "java/lang/String"), .int, .int]
  staticTypes := #[]
  resolved := Array.replicate 204 none
  statics := none }

def pool6 : Array CpInfo := pool [(1, .class_ 2), (0, u "com/example/hilera/hilera/http/ErrorCode"), (0, .fieldref 1 4), (0, .nameAndType 5 6), (0, u "BAD_REQUEST"), (0, u "Lcom/example/hilera/hilera/http/ErrorCode;"), (2, u "UNAUTHORIZED"), (2, u "FORBIDDEN"), (2, u "UNKNOWN_QUEUE"), (0, .fieldref 1 17), (0, .nameAndType 18 6), (0, u "NOT_FOUND"), (0, .fieldref 1 20), (0, .nameAndType 21 6), (0, u "METHOD_NOT_ALLOWED"), (2, u "QUEUE_CONFLICT"), (2, u "QUEUE_LOCKED"), (2, u "STALE_RECEIPT"), (0, .fieldref 1 32), (0, .nameAndType 33 6), (0, u "TOO_LARGE"), (2, u "TOO_MANY_LOGINS"), (0, .fieldref 1 38), (0, .nameAndType 39 6), (0, u "INTERNAL_ERROR"), (2, u "SERVER_BUSY"), (2, u "$VALUES"), (0, u "[Lcom/example/hilera/hilera/http/ErrorCode;"), (6, .class_ 55), (1, u "java/lang/Enum"), (11, u "code"), (0, u "Ljava/lang/String;"), (2, u "status"), (0, u "I"), (2, u "retryAfterSeconds"), (60, u "forStatus"), (0, u "(I)Lcom/example/hilera/hilera/http/ErrorCode;")] 6

def k6c0 : Code := { maxStack := 2, maxLocals := 1, code := prog_20_method_8_code, exceptionTable := #[], attributes := #[] }
def k6m0 : Method := { name := "forStatus", desc := "(I)Lcom/example/hilera/hilera/http/ErrorCode;", sig := { parameters := [.int], returnType := some (.object "com/example/hilera/hilera/http/ErrorCode") }, accessFlags := 8, code := some k6c0 }
/-- com/example/hilera/hilera/http/ErrorCode -/
def k6 : Class := { plain "com/example/hilera/hilera/http/ErrorCode" (some 5) with
  accessFlags := 16433
  interfaces := #[]
  cf := some (fileOf pool6 1 #[] #[{ accessFlags := 8, nameIndex := 136, descriptorIndex := 137, attributes := #[] }] 16433 53 #[] #[{ accessFlags := 16409, nameIndex := 5, descriptorIndex := 6, attributes := #[] }, { accessFlags := 16409, nameIndex := 9, descriptorIndex := 6, attributes := #[] }, { accessFlags := 16409, nameIndex := 12, descriptorIndex := 6, attributes := #[] }, { accessFlags := 16409, nameIndex := 15, descriptorIndex := 6, attributes := #[] }, { accessFlags := 16409, nameIndex := 18, descriptorIndex := 6, attributes := #[] }, { accessFlags := 16409, nameIndex := 21, descriptorIndex := 6, attributes := #[] }, { accessFlags := 16409, nameIndex := 24, descriptorIndex := 6, attributes := #[] }, { accessFlags := 16409, nameIndex := 27, descriptorIndex := 6, attributes := #[] }, { accessFlags := 16409, nameIndex := 30, descriptorIndex := 6, attributes := #[] }, { accessFlags := 16409, nameIndex := 33, descriptorIndex := 6, attributes := #[] }, { accessFlags := 16409, nameIndex := 36, descriptorIndex := 6, attributes := #[] }, { accessFlags := 16409, nameIndex := 39, descriptorIndex := 6, attributes := #[] }, { accessFlags := 16409, nameIndex := 42, descriptorIndex := 6, attributes := #[] }, { accessFlags := 18, nameIndex := 67, descriptorIndex := 68, attributes := #[] }, { accessFlags := 18, nameIndex := 71, descriptorIndex := 72, attributes := #[] }, { accessFlags := 18, nameIndex := 75, descriptorIndex := 68, attributes := #[] }, { accessFlags := 4122, nameIndex := 45, descriptorIndex := 46, attributes := #[] }])
  fields := #[{ name := "BAD_REQUEST", type := (.object "com/example/hilera/hilera/http/ErrorCode"), accessFlags := 16409, slot := 0, constantValue := 0 }, { name := "UNAUTHORIZED", type := (.object "com/example/hilera/hilera/http/ErrorCode"), accessFlags := 16409, slot := 1, constantValue := 0 }, { name := "FORBIDDEN", type := (.object "com/example/hilera/hilera/http/ErrorCode"), accessFlags := 16409, slot := 2, constantValue := 0 }, { name := "UNKNOWN_QUEUE", type := (.object "com/example/hilera/hilera/http/ErrorCode"), accessFlags := 16409, slot := 3, constantValue := 0 }, { name := "NOT_FOUND", type := (.object "com/example/hilera/hilera/http/ErrorCode"), accessFlags := 16409, slot := 4, constantValue := 0 }, { name := "METHOD_NOT_ALLOWED", type := (.object "com/example/hilera/hilera/http/ErrorCode"), accessFlags := 16409, slot := 5, constantValue := 0 }, { name := "QUEUE_CONFLICT", type := (.object "com/example/hilera/hilera/http/ErrorCode"), accessFlags := 16409, slot := 6, constantValue := 0 }, { name := "QUEUE_LOCKED", type := (.object "com/example/hilera/hilera/http/ErrorCode"), accessFlags := 16409, slot := 7, constantValue := 0 }, { name := "STALE_RECEIPT", type := (.object "com/example/hilera/hilera/http/ErrorCode"), accessFlags := 16409, slot := 8, constantValue := 0 }, { name := "TOO_LARGE", type := (.object "com/example/hilera/hilera/http/ErrorCode"), accessFlags := 16409, slot := 9, constantValue := 0 }, { name := "TOO_MANY_LOGINS", type := (.object "com/example/hilera/hilera/http/ErrorCode"), accessFlags := 16409, slot := 10, constantValue := 0 }, { name := "INTERNAL_ERROR", type := (.object "com/example/hilera/hilera/http/ErrorCode"), accessFlags := 16409, slot := 11, constantValue := 0 }, { name := "SERVER_BUSY", type := (.object "com/example/hilera/hilera/http/ErrorCode"), accessFlags := 16409, slot := 12, constantValue := 0 }, { name := "code", type := (.object "java/lang/String"), accessFlags := 18, slot := 3, constantValue := 0 }, { name := "status", type := .int, accessFlags := 18, slot := 4, constantValue := 0 }, { name := "retryAfterSeconds", type := (.object "java/lang/String"), accessFlags := 18, slot := 5, constantValue := 0 }, { name := "$VALUES", type := (.array (.object "com/example/hilera/hilera/http/ErrorCode")), accessFlags := 4122, slot := 13, constantValue := 0 }]
  methods := #[k6m0]
  instanceTypes := #[(.object "java/lang/String"), .int, .int, (.object "java/lang/String"), .int, (.object "java/lang/String")]
  staticTypes := #[(.object "com/example/hilera/hilera/http/ErrorCode"), (.object "com/example/hilera/hilera/http/ErrorCode"), (.object "com/example/hilera/hilera/http/ErrorCode"), (.object "com/example/hilera/hilera/http/ErrorCode"), (.object "com/example/hilera/hilera/http/ErrorCode"), (.object "com/example/hilera/hilera/http/ErrorCode"), (.object "com/example/hilera/hilera/http/ErrorCode"), (.object "com/example/hilera/hilera/http/ErrorCode"), (.object "com/example/hilera/hilera/http/ErrorCode"), (.object "com/example/hilera/hilera/http/ErrorCode"), (.object "com/example/hilera/hilera/http/ErrorCode"), (.object "com/example/hilera/hilera/http/ErrorCode"), (.object "com/example/hilera/hilera/http/ErrorCode"), (.array (.object "com/example/hilera/hilera/http/ErrorCode"))]
  resolved := Array.replicate 144 none
  statics := some 0 }

def pool7 : Array CpInfo := pool [(1, u "java/lang/Cloneable"), (0, .class_ 1), (0, u "java/lang/Object"), (0, .class_ 3)] 3

/-- java/lang/Cloneable -/
def k7 : Class := { plain "java/lang/Cloneable" (some 0) with
  accessFlags := 1537
  interfaces := #[]
  cf := some (fileOf pool7 2 #[] #[] 1537 4 #[] #[])
  fields := #[]
  methods := #[]
  instanceTypes := #[]
  staticTypes := #[]
  resolved := Array.replicate 8 none
  statics := none }

/-- the primitive byte -/
def k8 : Class := { plain "byte" none with kind := .primitive 'B', accessFlags := 0x411 }
/-- [B -/
def k9 : Class := { plain "[B" (some 0) with kind := .array 8 .byte, interfaces := #[7, 4], accessFlags := 1041 }

/-- the primitive int -/
def k10 : Class := { plain "int" none with kind := .primitive 'I', accessFlags := 0x411 }
/-- [I -/
def k11 : Class := { plain "[I" (some 0) with kind := .array 10 .int, interfaces := #[7, 4], accessFlags := 1041 }

def heap : Heap := #[{ cls := 6, slots := #[.ref 1, .null, .null, .null, .ref 5, .ref 4, .null, .null, .null, .ref 2, .null, .ref 3, .null, .null], vm := .statics 6 },
  { cls := 6, slots := #[.null, .int 0, .int 0, .null, .int 0, .null], vm := .none },
  { cls := 6, slots := #[.null, .int 1, .int 0, .null, .int 0, .null], vm := .none },
  { cls := 6, slots := #[.null, .int 2, .int 0, .null, .int 0, .null], vm := .none },
  { cls := 6, slots := #[.null, .int 3, .int 0, .null, .int 0, .null], vm := .none },
  { cls := 6, slots := #[.null, .int 4, .int 0, .null, .int 0, .null], vm := .none }]
def classes : Array Class := #[k0, k1, k2, k3, k4, k5, k6, k7, k8, k9, k10, k11]
def interned : List (Array UInt16 × Addr) := []
def slotsUsed : Nat := 44
def theMethod : MethodId := ⟨1, 1⟩
def args0 : Array Value := #[.int 5, .int 6]
def aboutOver (below : List Frame) : State where
  vm := { classes := classes, interned := interned.toArray }
  heap := heap
  slotsUsed := slotsUsed
  threads := #[{ frames := .invoking theMethod args0 :: below }]
def below0 : List Frame := [.native { method := ⟨0, 0⟩, args := #[] }]
def about1 : State := aboutOver below0
def p0 : Program := .bare "" "" ""
def e0 : Env := launch0.env 0 0 0
theorem w_frames : about1.frames = Frame.invoking theMethod args0 :: below0 := rfl
set_option maxRecDepth 65536 in
theorem w_args : argsFit about1.vm theMethod args0 = true := by decide +kernel
set_option maxRecDepth 65536 in
theorem w_heap : heapFits about1 = true := by decide +kernel
set_option maxRecDepth 65536 in
theorem w_runnable : about1.curStatus? = some .runnable := by decide +kernel
set_option maxRecDepth 65536 in
theorem w_alone : about1.alone = true := by decide +kernel
set_option maxRecDepth 65536 in
theorem w_named : about1.methodNamed? x = some theMethod := by decide +kernel
set_option maxRecDepth 65536 in
theorem w_hears : about1.hears theMethod below0 = true := by decide +kernel
set_option maxRecDepth 65536 in
theorem w_ripe : about1.ripe theMethod args0 below0 = true := by decide +kernel
theorem w_running : about1.status = .running := rfl
set_option maxRecDepth 65536 in
theorem w_room : about1.hasRoom e0.platform room_1 = true :=
  launch0.hasRoom_least _ room_1 (by decide +kernel) (by decide +kernel) (by decide +kernel) (by decide +kernel) (by decide +kernel) (by decide +kernel)
theorem allAtoms_all (ts : List Jvm.Cond) (a : Array Jvm.Value) (st : Jvm.State) : (allAtoms ts).before a st = ts.all (fun c => c.before a st) := by
  induction ts with
  | nil => rfl
  | cons c t ih =>
    show (Jvm.Cond.and c (allAtoms t)).before a st = _
    rw [Jvm.Cond.before_and, ih, List.all_cons]
def words1 : List Jvm.Cond := Jvm.Cond.code x code maxLocals ret :: tables_1
/-- a 'code' word, met by the world's own term for the bytes: nothing is compared byte by byte -/
theorem code_word {y : MethodName} {bytes : ByteArray} {mx : Nat} {rt : Option FieldType} {a : Array Value} {s : State} {m : MethodId} {meth : Method} {c : Code} (h1 : s.methodNamed? y = some m) (h2 : s.vm.method? m = some meth) (h3 : meth.code = some c) (h4 : c.code = bytes)
    (h5 : (c.maxLocals == mx && c.exceptionTable.isEmpty && decide (c.maxStack ≤ mostOperands) && decide (meth.sig.returnType = rt) && !meth.locks && decide (parseMethodDescriptor y.desc = some meth.sig)) = true) : (Jvm.Cond.code y bytes mx rt).before a s = true := by
  simp only [Bool.and_eq_true, beq_iff_eq, Bool.not_eq_true', decide_eq_true_eq] at h5
  obtain ⟨⟨⟨⟨⟨g1, g2⟩, g3⟩, g4⟩, g5⟩, g6⟩ := h5
  simp [Cond.before, Cond.holds, Cond.value, h1, h2, h3, h4, g1, g2, g3, g4, g5, g6]
def isCode : Jvm.Cond → Bool
  | .code _ _ _ _ => true
  | _ => false
theorem all_split {L : List Jvm.Cond} {P : Jvm.Cond → Bool} (h1 : L.all (fun c => isCode c || P c) = true) (h2 : ∀ c ∈ L.filter isCode, P c = true) : L.all P = true := by
  refine List.all_eq_true.mpr fun c hc => ?_
  have h := List.all_eq_true.mp h1 c hc
  rcases Bool.eq_false_or_eq_true (isCode c) with hi | hi
  · exact h2 c (List.mem_filter.mpr ⟨hc, hi⟩)
  · simpa [hi] using h
set_option maxRecDepth 65536 in
theorem w_c0 : (Jvm.Cond.code x code maxLocals ret).before args0 about1 = true := code_word (m := ⟨1, 1⟩) (meth := k1m1) (c := k1c1) (by decide +kernel) rfl rfl rfl (by decide +kernel)
set_option maxRecDepth 65536 in
theorem w_c1 : (Jvm.Cond.code ({ cls := "com/example/hilera/hilera/http/ErrorCode", name := "forStatus", desc := "(I)Lcom/example/hilera/hilera/http/ErrorCode;" } : Jvm.MethodName) prog_20_method_8_code (1 : Nat) (Option.some (Jvm.ClassFile.FieldType.object "com/example/hilera/hilera/http/ErrorCode"))).before args0 about1 = true := code_word (m := ⟨6, 0⟩) (meth := k6m0) (c := k6c0) (by decide +kernel) rfl rfl rfl (by decide +kernel)
set_option maxRecDepth 65536 in
theorem w_c2 : (Jvm.Cond.code ({ cls := "com/example/hilera/hilera/http/ErrorCodeForStatusPinLaw", name := "expected", desc := "(I)Lcom/example/hilera/hilera/http/ErrorCode;" } : Jvm.MethodName) method_3_code (1 : Nat) (Option.some (Jvm.ClassFile.FieldType.object "com/example/hilera/hilera/http/ErrorCode"))).before args0 about1 = true := code_word (m := ⟨1, 2⟩) (meth := k1m2) (c := k1c2) (by decide +kernel) rfl rfl rfl (by decide +kernel)
def codes1 : List Jvm.Cond := [Jvm.Cond.code x code maxLocals ret, Jvm.Cond.code ({ cls := "com/example/hilera/hilera/http/ErrorCode", name := "forStatus", desc := "(I)Lcom/example/hilera/hilera/http/ErrorCode;" } : Jvm.MethodName) prog_20_method_8_code (1 : Nat) (Option.some (Jvm.ClassFile.FieldType.object "com/example/hilera/hilera/http/ErrorCode")), Jvm.Cond.code ({ cls := "com/example/hilera/hilera/http/ErrorCodeForStatusPinLaw", name := "expected", desc := "(I)Lcom/example/hilera/hilera/http/ErrorCode;" } : Jvm.MethodName) method_3_code (1 : Nat) (Option.some (Jvm.ClassFile.FieldType.object "com/example/hilera/hilera/http/ErrorCode"))]
set_option maxRecDepth 65536 in
theorem codes_eq : words1.filter isCode = codes1 := rfl
theorem w_codes : ∀ c ∈ words1.filter isCode, c.before args0 about1 = true := by
  rw [codes_eq]
  intro c hc
  simp only [codes1, List.mem_cons, List.not_mem_nil, or_false] at hc
  rcases hc with rfl | rfl | rfl
  · exact w_c0
  · exact w_c1
  · exact w_c2
set_option maxRecDepth 65536 in
theorem w_t1 : (words1.take 24).all (fun c => isCode c || c.before args0 about1) = true := by decide +kernel
set_option maxRecDepth 65536 in
theorem w_t2 : (words1.drop 24).all (fun c => isCode c || c.before args0 about1) = true := by decide +kernel
theorem w_tables : (allAtoms (Jvm.Cond.code x code maxLocals ret :: tables_1)).before args0 about1 = true := by
  rw [allAtoms_all]
  show words1.all (fun c => c.before args0 about1) = true
  refine all_split ?_ w_codes
  rw [← List.take_append_drop 24 words1, List.all_append, w_t1, w_t2]
  rfl
set_option maxRecDepth 65536 in
theorem w_case : (Jvm.Cond.and given_1 narrow_1).before args0 about1 = true := by decide +kernel
theorem w_applies : (headSpec (Jvm.Cond.code x code maxLocals ret :: tables_1) room_1).applies x e0.platform about1 = true :=
  (Spec.applies_iff w_frames).mpr ⟨w_running, w_runnable, w_alone, w_named, w_hears, w_ripe, w_room, w_tables⟩
theorem atStart : AtStart classFile x code maxLocals ret World_1 tables_1 room_1 Calls_1 rest_1 Pre_1 launch0 p0 e0 about1 theMethod args0 below0 :=
  ⟨lists_1, trivial, launch0.admits_env _ _ _, launch0.least_env, fairChoices_fair.cas, fairChoices_fair.clock, w_frames, w_args, w_heap, w_applies, trivial, trivial, w_case⟩
end start1
theorem witness_1 : WitnessClaimed_1 := ⟨start1.p0, start1.e0, start1.about1, start1.theMethod, start1.args0, start1.below0, start1.atStart⟩
end Jvm.Pilot.@@N@@
