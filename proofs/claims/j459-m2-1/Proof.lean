import JvmDerived
import JvmDerived.Pilot.@@N@@Statement
import JvmDerived.Pilot.@@N@@Code
set_option linter.unusedVariables false
set_option linter.unusedSimpArgs false
namespace Jvm.RoadKit
open Sem ClassFile Op Lib Jvm.Stand Jvm.Free Jvm.LawKit
section New
variable {p : Program} {l : Launch} {e : Env} {R : Room} {s : State} {m : MethodId} {args : Array Value} {below : List Frame} {meth : Method} {c : Code} {T : State} {locs : List Loc} {cells slots : Nat}
theorem retI (X : Stand p l e R s m args below meth c T locs cells slots) (hx : p.tables.exec = Jvm.exec) {pc : Nat} {Ls : Array Slot} {z : Int32} {rest : List Value} (hret : meth.sig.returnType = some .int) (hd : decode c.code pc = .ok (.ireturn, 1)) {fs : List Frame}
    (hl : ∀ (f : JFrame) (acts : List Action), f.method = m → f.locked = none → f.entered = [] → (doReturn e (T.setTop f) acts (some (.int z))).1 = T.setFrames fs) : Steps p.tables e below (T.setTop (mkF m pc Ls (.int z :: rest))) (T.setFrames fs) := by
  have hm' : T.vm.method? m = some meth := X.method'
  have hn : narrow .int (.int z) = .int z := rfl
  show Steps p.tables e below (T.setTop { method := m, pc := pc, locals := Ls, stack := _ :: rest, locked := none }) _
  jvm_step X.here [X.here.top, hx, hd, hm', hret, hn]
  first | (intro acts; rw [hl _ acts rfl rfl rfl]) | rw [hl _ _ rfl rfl rfl]
  exact Steps.refl _
end New
end Jvm.RoadKit
namespace Jvm.Pilot.@@N@@
open Jvm Jvm.ClassFile Sem Op Lib Jvm.Free Jvm.Stand Jvm.LawKit Jvm.RoadKit Bundle Jvm.Pilot.@@N@@.Jvm.D
theorem own_fld {s : State} {args : Array Value} {t : Term} {x : Addr} {C n d : String} {k : Int32} (ev : t.eval args s none [] s = some (.ref x)) (h : (Jvm.Cond.eq (.field t C n d) (.int k)).value args s none s [] = some true) : Fld s s.heap x C n d (.int k) := by
  have hf := fld_at (C := C) (n := n) (dd := d) ev
  have hk : (Term.int k).eval args s none [] s = some (.int k) := Term.int_eval k
  cases hq : s.fieldOf? x C n d with
  | none => rw [hq] at hf; simp [Cond.value, hf] at h
  | some v =>
    rw [hq] at hf
    cases v <;> simp [Cond.value, hf, hk] at h
    subst h
    exact Fld.start hq
def own_least (s : Int32) : Int32 := (if s = (0 : Int32) then (3 : Int32) else (if s = (1 : Int32) then (0 : Int32) else (if s = (2 : Int32) then (2 : Int32) else (if s = (3 : Int32) then (1 : Int32) else (if s = (4 : Int32) then (0 : Int32) else (if s = (5 : Int32) then (2 : Int32) else (if s = (6 : Int32) then (3 : Int32) else (if s = (7 : Int32) then (0 : Int32) else (if s = (8 : Int32) then (0 : Int32) else (if s = (9 : Int32) then (2 : Int32) else (if s = (10 : Int32) then (0 : Int32) else (if s = (11 : Int32) then (2 : Int32) else (if s = (12 : Int32) then (1 : Int32) else (if s = (13 : Int32) then (1 : Int32) else (if s = (14 : Int32) then (0 : Int32) else (1 : Int32))))))))))))))))
def own_most (s : Int32) : Int32 := (if s = (0 : Int32) then (3 : Int32) else (if s = (1 : Int32) then (2147483647 : Int32) else (if s = (2 : Int32) then (2 : Int32) else (if s = (3 : Int32) then (1 : Int32) else (if s = (4 : Int32) then (1 : Int32) else (if s = (5 : Int32) then (3 : Int32) else (if s = (6 : Int32) then (4 : Int32) else (if s = (7 : Int32) then (0 : Int32) else (if s = (8 : Int32) then (2147483647 : Int32) else (if s = (9 : Int32) then (3 : Int32) else (if s = (10 : Int32) then (0 : Int32) else (if s = (11 : Int32) then (2 : Int32) else (if s = (12 : Int32) then (1 : Int32) else (if s = (13 : Int32) then (1 : Int32) else (if s = (14 : Int32) then (0 : Int32) else (1 : Int32))))))))))))))))
-- body 1: com/example/nestway/nestway/sparql/FunctionTakesPinLaw.pick(I)Lcom/example/nestway/nestway/sparql/Function;
theorem d1_0 : decode method_2_code 0 = .ok (.iload_n 0, 1) := by decide +kernel
theorem d1_1 : decode method_2_code 1 = .ok (.ifCond .ne 7, 3) := by decide +kernel
theorem d1_4 : decode method_2_code 4 = .ok (.getstatic 7, 3) := by decide +kernel
theorem d1_7 : decode method_2_code 7 = .ok (.areturn, 1) := by decide +kernel
theorem d1_8 : decode method_2_code 8 = .ok (.iload_n 0, 1) := by decide +kernel
theorem d1_9 : decode method_2_code 9 = .ok (.iconst 1, 1) := by decide +kernel
theorem d1_10 : decode method_2_code 10 = .ok (.if_icmp .ne 7, 3) := by decide +kernel
theorem d1_13 : decode method_2_code 13 = .ok (.getstatic 13, 3) := by decide +kernel
theorem d1_16 : decode method_2_code 16 = .ok (.areturn, 1) := by decide +kernel
theorem d1_17 : decode method_2_code 17 = .ok (.iload_n 0, 1) := by decide +kernel
theorem d1_18 : decode method_2_code 18 = .ok (.iconst 2, 1) := by decide +kernel
theorem d1_19 : decode method_2_code 19 = .ok (.if_icmp .ne 7, 3) := by decide +kernel
theorem d1_22 : decode method_2_code 22 = .ok (.getstatic 16, 3) := by decide +kernel
theorem d1_25 : decode method_2_code 25 = .ok (.areturn, 1) := by decide +kernel
theorem d1_26 : decode method_2_code 26 = .ok (.iload_n 0, 1) := by decide +kernel
theorem d1_27 : decode method_2_code 27 = .ok (.iconst 3, 1) := by decide +kernel
theorem d1_28 : decode method_2_code 28 = .ok (.if_icmp .ne 7, 3) := by decide +kernel
theorem d1_31 : decode method_2_code 31 = .ok (.getstatic 19, 3) := by decide +kernel
theorem d1_34 : decode method_2_code 34 = .ok (.areturn, 1) := by decide +kernel
theorem d1_35 : decode method_2_code 35 = .ok (.iload_n 0, 1) := by decide +kernel
theorem d1_36 : decode method_2_code 36 = .ok (.iconst 4, 1) := by decide +kernel
theorem d1_37 : decode method_2_code 37 = .ok (.if_icmp .ne 7, 3) := by decide +kernel
theorem d1_40 : decode method_2_code 40 = .ok (.getstatic 22, 3) := by decide +kernel
theorem d1_43 : decode method_2_code 43 = .ok (.areturn, 1) := by decide +kernel
theorem d1_44 : decode method_2_code 44 = .ok (.iload_n 0, 1) := by decide +kernel
theorem d1_45 : decode method_2_code 45 = .ok (.iconst 5, 1) := by decide +kernel
theorem d1_46 : decode method_2_code 46 = .ok (.if_icmp .ne 7, 3) := by decide +kernel
theorem d1_49 : decode method_2_code 49 = .ok (.getstatic 25, 3) := by decide +kernel
theorem d1_52 : decode method_2_code 52 = .ok (.areturn, 1) := by decide +kernel
theorem d1_53 : decode method_2_code 53 = .ok (.iload_n 0, 1) := by decide +kernel
theorem d1_54 : decode method_2_code 54 = .ok (.bipush 6, 2) := by decide +kernel
theorem d1_56 : decode method_2_code 56 = .ok (.if_icmp .ne 7, 3) := by decide +kernel
theorem d1_59 : decode method_2_code 59 = .ok (.getstatic 28, 3) := by decide +kernel
theorem d1_62 : decode method_2_code 62 = .ok (.areturn, 1) := by decide +kernel
theorem d1_63 : decode method_2_code 63 = .ok (.iload_n 0, 1) := by decide +kernel
theorem d1_64 : decode method_2_code 64 = .ok (.bipush 7, 2) := by decide +kernel
theorem d1_66 : decode method_2_code 66 = .ok (.if_icmp .ne 7, 3) := by decide +kernel
theorem d1_69 : decode method_2_code 69 = .ok (.getstatic 31, 3) := by decide +kernel
theorem d1_72 : decode method_2_code 72 = .ok (.areturn, 1) := by decide +kernel
theorem d1_73 : decode method_2_code 73 = .ok (.iload_n 0, 1) := by decide +kernel
theorem d1_74 : decode method_2_code 74 = .ok (.bipush 8, 2) := by decide +kernel
theorem d1_76 : decode method_2_code 76 = .ok (.if_icmp .ne 7, 3) := by decide +kernel
theorem d1_79 : decode method_2_code 79 = .ok (.getstatic 34, 3) := by decide +kernel
theorem d1_82 : decode method_2_code 82 = .ok (.areturn, 1) := by decide +kernel
theorem d1_83 : decode method_2_code 83 = .ok (.iload_n 0, 1) := by decide +kernel
theorem d1_84 : decode method_2_code 84 = .ok (.bipush 9, 2) := by decide +kernel
theorem d1_86 : decode method_2_code 86 = .ok (.if_icmp .ne 7, 3) := by decide +kernel
theorem d1_89 : decode method_2_code 89 = .ok (.getstatic 37, 3) := by decide +kernel
theorem d1_92 : decode method_2_code 92 = .ok (.areturn, 1) := by decide +kernel
theorem d1_93 : decode method_2_code 93 = .ok (.iload_n 0, 1) := by decide +kernel
theorem d1_94 : decode method_2_code 94 = .ok (.bipush 10, 2) := by decide +kernel
theorem d1_96 : decode method_2_code 96 = .ok (.if_icmp .ne 7, 3) := by decide +kernel
theorem d1_99 : decode method_2_code 99 = .ok (.getstatic 40, 3) := by decide +kernel
theorem d1_102 : decode method_2_code 102 = .ok (.areturn, 1) := by decide +kernel
theorem d1_103 : decode method_2_code 103 = .ok (.iload_n 0, 1) := by decide +kernel
theorem d1_104 : decode method_2_code 104 = .ok (.bipush 11, 2) := by decide +kernel
theorem d1_106 : decode method_2_code 106 = .ok (.if_icmp .ne 7, 3) := by decide +kernel
theorem d1_109 : decode method_2_code 109 = .ok (.getstatic 43, 3) := by decide +kernel
theorem d1_112 : decode method_2_code 112 = .ok (.areturn, 1) := by decide +kernel
theorem d1_113 : decode method_2_code 113 = .ok (.iload_n 0, 1) := by decide +kernel
theorem d1_114 : decode method_2_code 114 = .ok (.bipush 12, 2) := by decide +kernel
theorem d1_116 : decode method_2_code 116 = .ok (.if_icmp .ne 7, 3) := by decide +kernel
theorem d1_119 : decode method_2_code 119 = .ok (.getstatic 46, 3) := by decide +kernel
theorem d1_122 : decode method_2_code 122 = .ok (.areturn, 1) := by decide +kernel
theorem d1_123 : decode method_2_code 123 = .ok (.iload_n 0, 1) := by decide +kernel
theorem d1_124 : decode method_2_code 124 = .ok (.bipush 13, 2) := by decide +kernel
theorem d1_126 : decode method_2_code 126 = .ok (.if_icmp .ne 7, 3) := by decide +kernel
theorem d1_129 : decode method_2_code 129 = .ok (.getstatic 49, 3) := by decide +kernel
theorem d1_132 : decode method_2_code 132 = .ok (.areturn, 1) := by decide +kernel
theorem d1_133 : decode method_2_code 133 = .ok (.iload_n 0, 1) := by decide +kernel
theorem d1_134 : decode method_2_code 134 = .ok (.bipush 14, 2) := by decide +kernel
theorem d1_136 : decode method_2_code 136 = .ok (.if_icmp .ne 7, 3) := by decide +kernel
theorem d1_139 : decode method_2_code 139 = .ok (.getstatic 52, 3) := by decide +kernel
theorem d1_142 : decode method_2_code 142 = .ok (.areturn, 1) := by decide +kernel
theorem d1_143 : decode method_2_code 143 = .ok (.getstatic 55, 3) := by decide +kernel
theorem d1_146 : decode method_2_code 146 = .ok (.areturn, 1) := by decide +kernel
theorem pn_1 : plainName "com/example/nestway/nestway/sparql/FunctionTakesPinLaw" = true := by first | (simp [plainName, overriddenIn]; done) | decide +kernel
theorem ef_1 (m : MethodId) (p1 : Int32) : entryFrame m #[(.int p1)] 1 = mkF m 0 #[.val (.int p1)] [] := by first | (simp [entryFrame, mkF, argsToLocals, Value.category]; done) | rfl
def f1 (p1 : Int32) (w_IF : Addr) (w_COALESCE : Addr) (w_SAME_TERM : Addr) (w_STRLEN : Addr) (w_BNODE : Addr) (w_SUBSTR : Addr) (w_REPLACE : Addr) (w_UUID : Addr) (w_CONCAT : Addr) (w_REGEX : Addr) (w_RAND : Addr) (w_STRDT : Addr) (w_MD5 : Addr) (w_IS_IRI : Addr) (w_NOW : Addr) (w_SHA512 : Addr) : Addr := (if p1 = (0 : Int32) then w_IF else (if p1 = (1 : Int32) then w_COALESCE else (if p1 = (2 : Int32) then w_SAME_TERM else (if p1 = (3 : Int32) then w_STRLEN else (if p1 = (4 : Int32) then w_BNODE else (if p1 = (5 : Int32) then w_SUBSTR else (if p1 = (6 : Int32) then w_REPLACE else (if p1 = (7 : Int32) then w_UUID else (if p1 = (8 : Int32) then w_CONCAT else (if p1 = (9 : Int32) then w_REGEX else (if p1 = (10 : Int32) then w_RAND else (if p1 = (11 : Int32) then w_STRDT else (if p1 = (12 : Int32) then w_MD5 else (if p1 = (13 : Int32) then w_IS_IRI else (if p1 = (14 : Int32) then w_NOW else w_SHA512)))))))))))))))
def Q1 (Z : State) (p1 : Int32) (w_IF : Addr) (w_COALESCE : Addr) (w_SAME_TERM : Addr) (w_STRLEN : Addr) (w_BNODE : Addr) (w_SUBSTR : Addr) (w_REPLACE : Addr) (w_UUID : Addr) (w_CONCAT : Addr) (w_REGEX : Addr) (w_RAND : Addr) (w_STRDT : Addr) (w_MD5 : Addr) (w_IS_IRI : Addr) (w_NOW : Addr) (w_SHA512 : Addr) (h0 : Heap) (n0 : Nat) (v : Option Value) (h : Heap) (L : List Loc) : Prop := v = some (.ref (f1 p1 w_IF w_COALESCE w_SAME_TERM w_STRLEN w_BNODE w_SUBSTR w_REPLACE w_UUID w_CONCAT w_REGEX w_RAND w_STRDT w_MD5 w_IS_IRI w_NOW w_SHA512)) ∧ Fr n0 L ∧ h = h0
set_option maxRecDepth 65536 in
set_option maxHeartbeats 40000000 in
theorem rm1 (l : Launch) (Z : State) (a0 : Array Value) (hw : ∀ d ∈ tables_1, d.before a0 Z = true) (ws : List Jvm.Cond) (p1 : Int32) (w_IF : Addr) (w_COALESCE : Addr) (w_SAME_TERM : Addr) (w_STRLEN : Addr) (w_BNODE : Addr) (w_SUBSTR : Addr) (w_REPLACE : Addr) (w_UUID : Addr) (w_CONCAT : Addr) (w_REGEX : Addr) (w_RAND : Addr) (w_STRDT : Addr) (w_MD5 : Addr) (w_IS_IRI : Addr) (w_NOW : Addr) (w_SHA512 : Addr) (h0 : Heap) (n0 : Nat) (Z0 : n0 ≤ h0.size) (S_IF : Sta Z h0 "com/example/nestway/nestway/sparql/Function" "IF" "Lcom/example/nestway/nestway/sparql/Function;" (.ref w_IF)) (S_COALESCE : Sta Z h0 "com/example/nestway/nestway/sparql/Function" "COALESCE" "Lcom/example/nestway/nestway/sparql/Function;" (.ref w_COALESCE)) (S_SAME_TERM : Sta Z h0 "com/example/nestway/nestway/sparql/Function" "SAME_TERM" "Lcom/example/nestway/nestway/sparql/Function;" (.ref w_SAME_TERM)) (S_STRLEN : Sta Z h0 "com/example/nestway/nestway/sparql/Function" "STRLEN" "Lcom/example/nestway/nestway/sparql/Function;" (.ref w_STRLEN)) (S_BNODE : Sta Z h0 "com/example/nestway/nestway/sparql/Function" "BNODE" "Lcom/example/nestway/nestway/sparql/Function;" (.ref w_BNODE)) (S_SUBSTR : Sta Z h0 "com/example/nestway/nestway/sparql/Function" "SUBSTR" "Lcom/example/nestway/nestway/sparql/Function;" (.ref w_SUBSTR)) (S_REPLACE : Sta Z h0 "com/example/nestway/nestway/sparql/Function" "REPLACE" "Lcom/example/nestway/nestway/sparql/Function;" (.ref w_REPLACE)) (S_UUID : Sta Z h0 "com/example/nestway/nestway/sparql/Function" "UUID" "Lcom/example/nestway/nestway/sparql/Function;" (.ref w_UUID)) (S_CONCAT : Sta Z h0 "com/example/nestway/nestway/sparql/Function" "CONCAT" "Lcom/example/nestway/nestway/sparql/Function;" (.ref w_CONCAT)) (S_REGEX : Sta Z h0 "com/example/nestway/nestway/sparql/Function" "REGEX" "Lcom/example/nestway/nestway/sparql/Function;" (.ref w_REGEX)) (S_RAND : Sta Z h0 "com/example/nestway/nestway/sparql/Function" "RAND" "Lcom/example/nestway/nestway/sparql/Function;" (.ref w_RAND)) (S_STRDT : Sta Z h0 "com/example/nestway/nestway/sparql/Function" "STRDT" "Lcom/example/nestway/nestway/sparql/Function;" (.ref w_STRDT)) (S_MD5 : Sta Z h0 "com/example/nestway/nestway/sparql/Function" "MD5" "Lcom/example/nestway/nestway/sparql/Function;" (.ref w_MD5)) (S_IS_IRI : Sta Z h0 "com/example/nestway/nestway/sparql/Function" "IS_IRI" "Lcom/example/nestway/nestway/sparql/Function;" (.ref w_IS_IRI)) (S_NOW : Sta Z h0 "com/example/nestway/nestway/sparql/Function" "NOW" "Lcom/example/nestway/nestway/sparql/Function;" (.ref w_NOW)) (S_SHA512 : Sta Z h0 "com/example/nestway/nestway/sparql/Function" "SHA512" "Lcom/example/nestway/nestway/sparql/Function;" (.ref w_SHA512)) :
    MetFree l (⟨"com/example/nestway/nestway/sparql/FunctionTakesPinLaw", "pick", "(I)Lcom/example/nestway/nestway/sparql/Function;"⟩ : MethodName) (head1 (Jvm.Cond.code (⟨"com/example/nestway/nestway/sparql/FunctionTakesPinLaw", "pick", "(I)Lcom/example/nestway/nestway/sparql/Function;"⟩ : MethodName) method_2_code 1 (some (.object "com/example/nestway/nestway/sparql/Function")) :: ws) ({ frames := 0, cells := 0, slots := 0, locals := 0 } : Room)) (fun a U => a = #[(.int p1)] ∧ Z.Warmed39 U.vm ∧ U.heap = h0) (fun _ _ _ _ _ => True) (fun _ U o U' => ∃ v L, o = .returned v ∧ Q1 Z p1 w_IF w_COALESCE w_SAME_TERM w_STRLEN w_BNODE w_SUBSTR w_REPLACE w_UUID w_CONCAT w_REGEX w_RAND w_STRDT w_MD5 w_IS_IRI w_NOW w_SHA512 h0 n0 v U'.heap L ∧ FrameEnd U o U' L ({ frames := 0, cells := 0, slots := 0, locals := 0 } : Room).cells ({ frames := 0, cells := 0, slots := 0, locals := 0 } : Room).slots) := by
  refine MetFree.of_bodySF (plainFor_of_name pn_1) hisR ?_
  intro p e s m args below meth c s₁ Bd hml0 hP hK
  obtain ⟨rfl, hZ, hh⟩ := hP
  have hx := Bd.exec
  have hby := Bd.bytes
  have hml : c.maxLocals = 1 := hml0
  have hown : s.vm.findClass "com/example/nestway/nestway/sparql/FunctionTakesPinLaw" = some m.cls := findClass_of_methodNamed Bd.named
  have hnm := (name_of_methodNamed Bd.named Bd.method).1
  have X0 : Stand p l e ({ frames := 0, cells := 0, slots := 0, locals := 0 } : Room) s m #[(.int p1)] below meth c s₁ [] 0 0 := Stand.of_body Bd
  have e0 : s₁.heap = h0 := by rw [← hh, Bd.state]; rfl
  have N0 := Fr.nil n0
  have pre0 : ∀ t, Steps p.tables e below (s₁.setTop (mkF m 0 #[.val (.int p1)] [])) t → Steps p.tables e below (s₁.setTop (entryFrame m #[(.int p1)] 1)) t := fun t k => castTop (ef_1 m p1) k
  have K1 : ∀ t, Steps p.tables e below (s₁.setTop (mkF m 1 #[.val (.int p1)] [(.int p1)])) t → Steps p.tables e below (s₁.setTop (mkF m 0 #[.val (.int p1)] [])) t := by
    intro t k
    refine XS.iloadN X0.here hx rfl (Jvm.hb hby d1_0) rfl ?_
    show Steps p.tables e below (s₁.setTop (mkF m 1 #[.val (.int p1)] [(.int p1)])) t
    exact k
  by_cases hc2 : p1 = (0 : Int32)
  · have K3 : ∀ t, Steps p.tables e below (s₁.setTop (mkF m 4 #[.val (.int p1)] [])) t → Steps p.tables e below (s₁.setTop (mkF m 1 #[.val (.int p1)] [(.int p1)])) t := by
      intro t k
      refine XS.ifNo X0.here hx rfl (Jvm.hb hby d1_1) rfl ((if0 _ _).trans (teq hc2).2) ?_
      exact k
    obtain ⟨T4, X4, e4, st4⟩ := getS2 X0 hx hZ hown (host := "") (Or.inl (hw _ (List.mem_of_getElem? (i := 4) rfl))) Via.refl e0 S_IF (g := (mkF m 4 #[.val (.int p1)] [])) rfl (Jvm.hb hby d1_4)
    have K5 : ∀ t, Steps p.tables e below (T4.setTop (mkF m 7 #[.val (.int p1)] [(.ref w_IF)])) t → Steps p.tables e below (s₁.setTop (mkF m 4 #[.val (.int p1)] [])) t := fun t k => st4 _ k
    obtain ⟨fs, hr, hrun, hended, hW, hsame⟩ := X4.leave (v := some (.ref w_IF)) (fun h => by rw [Bd.returns] at h; cases h) Bd.notSynchronized
    refine ⟨_, _, pre0 _ (K1 _ (K3 _ (K5 _ (retOut X4 hx Bd.returns rfl (Or.inr (Or.inr (Or.inr (Or.inr ⟨rfl, rfl, rfl⟩)))) (Jvm.hb hby d1_7) hr)))), hrun, hended, _, _, rfl, ?_, ⟨_, rfl⟩, hW, hsame.mono (by decide) (by decide)⟩
    show Q1 Z p1 w_IF w_COALESCE w_SAME_TERM w_STRLEN w_BNODE w_SUBSTR w_REPLACE w_UUID w_CONCAT w_REGEX w_RAND w_STRDT w_MD5 w_IS_IRI w_NOW w_SHA512 h0 n0 _ T4.heap _
    rw [e4]
    exact ⟨congrArg (fun z => some (Value.ref z)) (show w_IF = f1 p1 w_IF w_COALESCE w_SAME_TERM w_STRLEN w_BNODE w_SUBSTR w_REPLACE w_UUID w_CONCAT w_REGEX w_RAND w_STRDT w_MD5 w_IS_IRI w_NOW w_SHA512 from Eq.symm (if_pos hc2)), N0, rfl⟩
  · have K6 : ∀ t, Steps p.tables e below (s₁.setTop (mkF m 8 #[.val (.int p1)] [])) t → Steps p.tables e below (s₁.setTop (mkF m 1 #[.val (.int p1)] [(.int p1)])) t := by
      intro t k
      refine XS.ifYes X0.here hx rfl (pc0 := 1) (pc' := 8) rfl (Jvm.hb hby d1_1) rfl ((if0 _ _).trans (feq hc2).2) (by decide) (by decide) ?_
      exact k
    have K7 : ∀ t, Steps p.tables e below (s₁.setTop (mkF m 10 #[.val (.int p1)] [(.int (1 : Int32)), (.int p1)])) t → Steps p.tables e below (s₁.setTop (mkF m 8 #[.val (.int p1)] [])) t := by
      intro t k
      refine XS.iloadN X0.here hx rfl (Jvm.hb hby d1_8) rfl ?_
      show Steps p.tables e below (s₁.setTop (mkF m 9 #[.val (.int p1)] [(.int p1)])) t
      refine XS.iconst X0.here hx rfl (Jvm.hb hby d1_9) ?_
      show Steps p.tables e below (s₁.setTop (mkF m 10 #[.val (.int p1)] [(.int (1 : Int32)), (.int p1)])) t
      exact k
    by_cases hc8 : p1 = (1 : Int32)
    · have K9 : ∀ t, Steps p.tables e below (s₁.setTop (mkF m 13 #[.val (.int p1)] [])) t → Steps p.tables e below (s₁.setTop (mkF m 10 #[.val (.int p1)] [(.int (1 : Int32)), (.int p1)])) t := by
        intro t k
        refine XS.icmpNo X0.here hx rfl (Jvm.hb hby d1_10) rfl (teq hc8).2 ?_
        exact k
      obtain ⟨T10, X10, e10, st10⟩ := getS2 X0 hx hZ hown (host := "") (Or.inl (hw _ (List.mem_of_getElem? (i := 19) rfl))) Via.refl e0 S_COALESCE (g := (mkF m 13 #[.val (.int p1)] [])) rfl (Jvm.hb hby d1_13)
      have K11 : ∀ t, Steps p.tables e below (T10.setTop (mkF m 16 #[.val (.int p1)] [(.ref w_COALESCE)])) t → Steps p.tables e below (s₁.setTop (mkF m 13 #[.val (.int p1)] [])) t := fun t k => st10 _ k
      obtain ⟨fs, hr, hrun, hended, hW, hsame⟩ := X10.leave (v := some (.ref w_COALESCE)) (fun h => by rw [Bd.returns] at h; cases h) Bd.notSynchronized
      refine ⟨_, _, pre0 _ (K1 _ (K6 _ (K7 _ (K9 _ (K11 _ (retOut X10 hx Bd.returns rfl (Or.inr (Or.inr (Or.inr (Or.inr ⟨rfl, rfl, rfl⟩)))) (Jvm.hb hby d1_16) hr)))))), hrun, hended, _, _, rfl, ?_, ⟨_, rfl⟩, hW, hsame.mono (by decide) (by decide)⟩
      show Q1 Z p1 w_IF w_COALESCE w_SAME_TERM w_STRLEN w_BNODE w_SUBSTR w_REPLACE w_UUID w_CONCAT w_REGEX w_RAND w_STRDT w_MD5 w_IS_IRI w_NOW w_SHA512 h0 n0 _ T10.heap _
      rw [e10]
      exact ⟨congrArg (fun z => some (Value.ref z)) (show w_COALESCE = f1 p1 w_IF w_COALESCE w_SAME_TERM w_STRLEN w_BNODE w_SUBSTR w_REPLACE w_UUID w_CONCAT w_REGEX w_RAND w_STRDT w_MD5 w_IS_IRI w_NOW w_SHA512 from Eq.symm ((if_neg hc2).trans (if_pos hc8))), N0, rfl⟩
    · have K12 : ∀ t, Steps p.tables e below (s₁.setTop (mkF m 17 #[.val (.int p1)] [])) t → Steps p.tables e below (s₁.setTop (mkF m 10 #[.val (.int p1)] [(.int (1 : Int32)), (.int p1)])) t := by
        intro t k
        refine XS.icmpYes X0.here hx rfl (pc0 := 10) (pc' := 17) rfl (Jvm.hb hby d1_10) rfl (feq hc8).2 (by decide) (by decide) ?_
        exact k
      have K13 : ∀ t, Steps p.tables e below (s₁.setTop (mkF m 19 #[.val (.int p1)] [(.int (2 : Int32)), (.int p1)])) t → Steps p.tables e below (s₁.setTop (mkF m 17 #[.val (.int p1)] [])) t := by
        intro t k
        refine XS.iloadN X0.here hx rfl (Jvm.hb hby d1_17) rfl ?_
        show Steps p.tables e below (s₁.setTop (mkF m 18 #[.val (.int p1)] [(.int p1)])) t
        refine XS.iconst X0.here hx rfl (Jvm.hb hby d1_18) ?_
        show Steps p.tables e below (s₁.setTop (mkF m 19 #[.val (.int p1)] [(.int (2 : Int32)), (.int p1)])) t
        exact k
      by_cases hc14 : p1 = (2 : Int32)
      · have K15 : ∀ t, Steps p.tables e below (s₁.setTop (mkF m 22 #[.val (.int p1)] [])) t → Steps p.tables e below (s₁.setTop (mkF m 19 #[.val (.int p1)] [(.int (2 : Int32)), (.int p1)])) t := by
          intro t k
          refine XS.icmpNo X0.here hx rfl (Jvm.hb hby d1_19) rfl (teq hc14).2 ?_
          exact k
        obtain ⟨T16, X16, e16, st16⟩ := getS2 X0 hx hZ hown (host := "") (Or.inl (hw _ (List.mem_of_getElem? (i := 27) rfl))) Via.refl e0 S_SAME_TERM (g := (mkF m 22 #[.val (.int p1)] [])) rfl (Jvm.hb hby d1_22)
        have K17 : ∀ t, Steps p.tables e below (T16.setTop (mkF m 25 #[.val (.int p1)] [(.ref w_SAME_TERM)])) t → Steps p.tables e below (s₁.setTop (mkF m 22 #[.val (.int p1)] [])) t := fun t k => st16 _ k
        obtain ⟨fs, hr, hrun, hended, hW, hsame⟩ := X16.leave (v := some (.ref w_SAME_TERM)) (fun h => by rw [Bd.returns] at h; cases h) Bd.notSynchronized
        refine ⟨_, _, pre0 _ (K1 _ (K6 _ (K7 _ (K12 _ (K13 _ (K15 _ (K17 _ (retOut X16 hx Bd.returns rfl (Or.inr (Or.inr (Or.inr (Or.inr ⟨rfl, rfl, rfl⟩)))) (Jvm.hb hby d1_25) hr)))))))), hrun, hended, _, _, rfl, ?_, ⟨_, rfl⟩, hW, hsame.mono (by decide) (by decide)⟩
        show Q1 Z p1 w_IF w_COALESCE w_SAME_TERM w_STRLEN w_BNODE w_SUBSTR w_REPLACE w_UUID w_CONCAT w_REGEX w_RAND w_STRDT w_MD5 w_IS_IRI w_NOW w_SHA512 h0 n0 _ T16.heap _
        rw [e16]
        exact ⟨congrArg (fun z => some (Value.ref z)) (show w_SAME_TERM = f1 p1 w_IF w_COALESCE w_SAME_TERM w_STRLEN w_BNODE w_SUBSTR w_REPLACE w_UUID w_CONCAT w_REGEX w_RAND w_STRDT w_MD5 w_IS_IRI w_NOW w_SHA512 from Eq.symm ((if_neg hc2).trans ((if_neg hc8).trans (if_pos hc14)))), N0, rfl⟩
      · have K18 : ∀ t, Steps p.tables e below (s₁.setTop (mkF m 26 #[.val (.int p1)] [])) t → Steps p.tables e below (s₁.setTop (mkF m 19 #[.val (.int p1)] [(.int (2 : Int32)), (.int p1)])) t := by
          intro t k
          refine XS.icmpYes X0.here hx rfl (pc0 := 19) (pc' := 26) rfl (Jvm.hb hby d1_19) rfl (feq hc14).2 (by decide) (by decide) ?_
          exact k
        have K19 : ∀ t, Steps p.tables e below (s₁.setTop (mkF m 28 #[.val (.int p1)] [(.int (3 : Int32)), (.int p1)])) t → Steps p.tables e below (s₁.setTop (mkF m 26 #[.val (.int p1)] [])) t := by
          intro t k
          refine XS.iloadN X0.here hx rfl (Jvm.hb hby d1_26) rfl ?_
          show Steps p.tables e below (s₁.setTop (mkF m 27 #[.val (.int p1)] [(.int p1)])) t
          refine XS.iconst X0.here hx rfl (Jvm.hb hby d1_27) ?_
          show Steps p.tables e below (s₁.setTop (mkF m 28 #[.val (.int p1)] [(.int (3 : Int32)), (.int p1)])) t
          exact k
        by_cases hc20 : p1 = (3 : Int32)
        · have K21 : ∀ t, Steps p.tables e below (s₁.setTop (mkF m 31 #[.val (.int p1)] [])) t → Steps p.tables e below (s₁.setTop (mkF m 28 #[.val (.int p1)] [(.int (3 : Int32)), (.int p1)])) t := by
            intro t k
            refine XS.icmpNo X0.here hx rfl (Jvm.hb hby d1_28) rfl (teq hc20).2 ?_
            exact k
          obtain ⟨T22, X22, e22, st22⟩ := getS2 X0 hx hZ hown (host := "") (Or.inl (hw _ (List.mem_of_getElem? (i := 29) rfl))) Via.refl e0 S_STRLEN (g := (mkF m 31 #[.val (.int p1)] [])) rfl (Jvm.hb hby d1_31)
          have K23 : ∀ t, Steps p.tables e below (T22.setTop (mkF m 34 #[.val (.int p1)] [(.ref w_STRLEN)])) t → Steps p.tables e below (s₁.setTop (mkF m 31 #[.val (.int p1)] [])) t := fun t k => st22 _ k
          obtain ⟨fs, hr, hrun, hended, hW, hsame⟩ := X22.leave (v := some (.ref w_STRLEN)) (fun h => by rw [Bd.returns] at h; cases h) Bd.notSynchronized
          refine ⟨_, _, pre0 _ (K1 _ (K6 _ (K7 _ (K12 _ (K13 _ (K18 _ (K19 _ (K21 _ (K23 _ (retOut X22 hx Bd.returns rfl (Or.inr (Or.inr (Or.inr (Or.inr ⟨rfl, rfl, rfl⟩)))) (Jvm.hb hby d1_34) hr)))))))))), hrun, hended, _, _, rfl, ?_, ⟨_, rfl⟩, hW, hsame.mono (by decide) (by decide)⟩
          show Q1 Z p1 w_IF w_COALESCE w_SAME_TERM w_STRLEN w_BNODE w_SUBSTR w_REPLACE w_UUID w_CONCAT w_REGEX w_RAND w_STRDT w_MD5 w_IS_IRI w_NOW w_SHA512 h0 n0 _ T22.heap _
          rw [e22]
          exact ⟨congrArg (fun z => some (Value.ref z)) (show w_STRLEN = f1 p1 w_IF w_COALESCE w_SAME_TERM w_STRLEN w_BNODE w_SUBSTR w_REPLACE w_UUID w_CONCAT w_REGEX w_RAND w_STRDT w_MD5 w_IS_IRI w_NOW w_SHA512 from Eq.symm ((if_neg hc2).trans ((if_neg hc8).trans ((if_neg hc14).trans (if_pos hc20))))), N0, rfl⟩
        · have K24 : ∀ t, Steps p.tables e below (s₁.setTop (mkF m 35 #[.val (.int p1)] [])) t → Steps p.tables e below (s₁.setTop (mkF m 28 #[.val (.int p1)] [(.int (3 : Int32)), (.int p1)])) t := by
            intro t k
            refine XS.icmpYes X0.here hx rfl (pc0 := 28) (pc' := 35) rfl (Jvm.hb hby d1_28) rfl (feq hc20).2 (by decide) (by decide) ?_
            exact k
          have K25 : ∀ t, Steps p.tables e below (s₁.setTop (mkF m 37 #[.val (.int p1)] [(.int (4 : Int32)), (.int p1)])) t → Steps p.tables e below (s₁.setTop (mkF m 35 #[.val (.int p1)] [])) t := by
            intro t k
            refine XS.iloadN X0.here hx rfl (Jvm.hb hby d1_35) rfl ?_
            show Steps p.tables e below (s₁.setTop (mkF m 36 #[.val (.int p1)] [(.int p1)])) t
            refine XS.iconst X0.here hx rfl (Jvm.hb hby d1_36) ?_
            show Steps p.tables e below (s₁.setTop (mkF m 37 #[.val (.int p1)] [(.int (4 : Int32)), (.int p1)])) t
            exact k
          by_cases hc26 : p1 = (4 : Int32)
          · have K27 : ∀ t, Steps p.tables e below (s₁.setTop (mkF m 40 #[.val (.int p1)] [])) t → Steps p.tables e below (s₁.setTop (mkF m 37 #[.val (.int p1)] [(.int (4 : Int32)), (.int p1)])) t := by
              intro t k
              refine XS.icmpNo X0.here hx rfl (Jvm.hb hby d1_37) rfl (teq hc26).2 ?_
              exact k
            obtain ⟨T28, X28, e28, st28⟩ := getS2 X0 hx hZ hown (host := "") (Or.inl (hw _ (List.mem_of_getElem? (i := 21) rfl))) Via.refl e0 S_BNODE (g := (mkF m 40 #[.val (.int p1)] [])) rfl (Jvm.hb hby d1_40)
            have K29 : ∀ t, Steps p.tables e below (T28.setTop (mkF m 43 #[.val (.int p1)] [(.ref w_BNODE)])) t → Steps p.tables e below (s₁.setTop (mkF m 40 #[.val (.int p1)] [])) t := fun t k => st28 _ k
            obtain ⟨fs, hr, hrun, hended, hW, hsame⟩ := X28.leave (v := some (.ref w_BNODE)) (fun h => by rw [Bd.returns] at h; cases h) Bd.notSynchronized
            refine ⟨_, _, pre0 _ (K1 _ (K6 _ (K7 _ (K12 _ (K13 _ (K18 _ (K19 _ (K24 _ (K25 _ (K27 _ (K29 _ (retOut X28 hx Bd.returns rfl (Or.inr (Or.inr (Or.inr (Or.inr ⟨rfl, rfl, rfl⟩)))) (Jvm.hb hby d1_43) hr)))))))))))), hrun, hended, _, _, rfl, ?_, ⟨_, rfl⟩, hW, hsame.mono (by decide) (by decide)⟩
            show Q1 Z p1 w_IF w_COALESCE w_SAME_TERM w_STRLEN w_BNODE w_SUBSTR w_REPLACE w_UUID w_CONCAT w_REGEX w_RAND w_STRDT w_MD5 w_IS_IRI w_NOW w_SHA512 h0 n0 _ T28.heap _
            rw [e28]
            exact ⟨congrArg (fun z => some (Value.ref z)) (show w_BNODE = f1 p1 w_IF w_COALESCE w_SAME_TERM w_STRLEN w_BNODE w_SUBSTR w_REPLACE w_UUID w_CONCAT w_REGEX w_RAND w_STRDT w_MD5 w_IS_IRI w_NOW w_SHA512 from Eq.symm ((if_neg hc2).trans ((if_neg hc8).trans ((if_neg hc14).trans ((if_neg hc20).trans (if_pos hc26)))))), N0, rfl⟩
          · have K30 : ∀ t, Steps p.tables e below (s₁.setTop (mkF m 44 #[.val (.int p1)] [])) t → Steps p.tables e below (s₁.setTop (mkF m 37 #[.val (.int p1)] [(.int (4 : Int32)), (.int p1)])) t := by
              intro t k
              refine XS.icmpYes X0.here hx rfl (pc0 := 37) (pc' := 44) rfl (Jvm.hb hby d1_37) rfl (feq hc26).2 (by decide) (by decide) ?_
              exact k
            have K31 : ∀ t, Steps p.tables e below (s₁.setTop (mkF m 46 #[.val (.int p1)] [(.int (5 : Int32)), (.int p1)])) t → Steps p.tables e below (s₁.setTop (mkF m 44 #[.val (.int p1)] [])) t := by
              intro t k
              refine XS.iloadN X0.here hx rfl (Jvm.hb hby d1_44) rfl ?_
              show Steps p.tables e below (s₁.setTop (mkF m 45 #[.val (.int p1)] [(.int p1)])) t
              refine XS.iconst X0.here hx rfl (Jvm.hb hby d1_45) ?_
              show Steps p.tables e below (s₁.setTop (mkF m 46 #[.val (.int p1)] [(.int (5 : Int32)), (.int p1)])) t
              exact k
            by_cases hc32 : p1 = (5 : Int32)
            · have K33 : ∀ t, Steps p.tables e below (s₁.setTop (mkF m 49 #[.val (.int p1)] [])) t → Steps p.tables e below (s₁.setTop (mkF m 46 #[.val (.int p1)] [(.int (5 : Int32)), (.int p1)])) t := by
                intro t k
                refine XS.icmpNo X0.here hx rfl (Jvm.hb hby d1_46) rfl (teq hc32).2 ?_
                exact k
              obtain ⟨T34, X34, e34, st34⟩ := getS2 X0 hx hZ hown (host := "") (Or.inl (hw _ (List.mem_of_getElem? (i := 41) rfl))) Via.refl e0 S_SUBSTR (g := (mkF m 49 #[.val (.int p1)] [])) rfl (Jvm.hb hby d1_49)
              have K35 : ∀ t, Steps p.tables e below (T34.setTop (mkF m 52 #[.val (.int p1)] [(.ref w_SUBSTR)])) t → Steps p.tables e below (s₁.setTop (mkF m 49 #[.val (.int p1)] [])) t := fun t k => st34 _ k
              obtain ⟨fs, hr, hrun, hended, hW, hsame⟩ := X34.leave (v := some (.ref w_SUBSTR)) (fun h => by rw [Bd.returns] at h; cases h) Bd.notSynchronized
              refine ⟨_, _, pre0 _ (K1 _ (K6 _ (K7 _ (K12 _ (K13 _ (K18 _ (K19 _ (K24 _ (K25 _ (K30 _ (K31 _ (K33 _ (K35 _ (retOut X34 hx Bd.returns rfl (Or.inr (Or.inr (Or.inr (Or.inr ⟨rfl, rfl, rfl⟩)))) (Jvm.hb hby d1_52) hr)))))))))))))), hrun, hended, _, _, rfl, ?_, ⟨_, rfl⟩, hW, hsame.mono (by decide) (by decide)⟩
              show Q1 Z p1 w_IF w_COALESCE w_SAME_TERM w_STRLEN w_BNODE w_SUBSTR w_REPLACE w_UUID w_CONCAT w_REGEX w_RAND w_STRDT w_MD5 w_IS_IRI w_NOW w_SHA512 h0 n0 _ T34.heap _
              rw [e34]
              exact ⟨congrArg (fun z => some (Value.ref z)) (show w_SUBSTR = f1 p1 w_IF w_COALESCE w_SAME_TERM w_STRLEN w_BNODE w_SUBSTR w_REPLACE w_UUID w_CONCAT w_REGEX w_RAND w_STRDT w_MD5 w_IS_IRI w_NOW w_SHA512 from Eq.symm ((if_neg hc2).trans ((if_neg hc8).trans ((if_neg hc14).trans ((if_neg hc20).trans ((if_neg hc26).trans (if_pos hc32))))))), N0, rfl⟩
            · have K36 : ∀ t, Steps p.tables e below (s₁.setTop (mkF m 53 #[.val (.int p1)] [])) t → Steps p.tables e below (s₁.setTop (mkF m 46 #[.val (.int p1)] [(.int (5 : Int32)), (.int p1)])) t := by
                intro t k
                refine XS.icmpYes X0.here hx rfl (pc0 := 46) (pc' := 53) rfl (Jvm.hb hby d1_46) rfl (feq hc32).2 (by decide) (by decide) ?_
                exact k
              have K37 : ∀ t, Steps p.tables e below (s₁.setTop (mkF m 56 #[.val (.int p1)] [(.int (6 : Int32)), (.int p1)])) t → Steps p.tables e below (s₁.setTop (mkF m 53 #[.val (.int p1)] [])) t := by
                intro t k
                refine XS.iloadN X0.here hx rfl (Jvm.hb hby d1_53) rfl ?_
                show Steps p.tables e below (s₁.setTop (mkF m 54 #[.val (.int p1)] [(.int p1)])) t
                refine XS.bipush X0.here hx rfl (Jvm.hb hby d1_54) ?_
                show Steps p.tables e below (s₁.setTop (mkF m 56 #[.val (.int p1)] [(.int (6 : Int32)), (.int p1)])) t
                exact k
              by_cases hc38 : p1 = (6 : Int32)
              · have K39 : ∀ t, Steps p.tables e below (s₁.setTop (mkF m 59 #[.val (.int p1)] [])) t → Steps p.tables e below (s₁.setTop (mkF m 56 #[.val (.int p1)] [(.int (6 : Int32)), (.int p1)])) t := by
                  intro t k
                  refine XS.icmpNo X0.here hx rfl (Jvm.hb hby d1_56) rfl (teq hc38).2 ?_
                  exact k
                obtain ⟨T40, X40, e40, st40⟩ := getS2 X0 hx hZ hown (host := "") (Or.inl (hw _ (List.mem_of_getElem? (i := 45) rfl))) Via.refl e0 S_REPLACE (g := (mkF m 59 #[.val (.int p1)] [])) rfl (Jvm.hb hby d1_59)
                have K41 : ∀ t, Steps p.tables e below (T40.setTop (mkF m 62 #[.val (.int p1)] [(.ref w_REPLACE)])) t → Steps p.tables e below (s₁.setTop (mkF m 59 #[.val (.int p1)] [])) t := fun t k => st40 _ k
                obtain ⟨fs, hr, hrun, hended, hW, hsame⟩ := X40.leave (v := some (.ref w_REPLACE)) (fun h => by rw [Bd.returns] at h; cases h) Bd.notSynchronized
                refine ⟨_, _, pre0 _ (K1 _ (K6 _ (K7 _ (K12 _ (K13 _ (K18 _ (K19 _ (K24 _ (K25 _ (K30 _ (K31 _ (K36 _ (K37 _ (K39 _ (K41 _ (retOut X40 hx Bd.returns rfl (Or.inr (Or.inr (Or.inr (Or.inr ⟨rfl, rfl, rfl⟩)))) (Jvm.hb hby d1_62) hr)))))))))))))))), hrun, hended, _, _, rfl, ?_, ⟨_, rfl⟩, hW, hsame.mono (by decide) (by decide)⟩
                show Q1 Z p1 w_IF w_COALESCE w_SAME_TERM w_STRLEN w_BNODE w_SUBSTR w_REPLACE w_UUID w_CONCAT w_REGEX w_RAND w_STRDT w_MD5 w_IS_IRI w_NOW w_SHA512 h0 n0 _ T40.heap _
                rw [e40]
                exact ⟨congrArg (fun z => some (Value.ref z)) (show w_REPLACE = f1 p1 w_IF w_COALESCE w_SAME_TERM w_STRLEN w_BNODE w_SUBSTR w_REPLACE w_UUID w_CONCAT w_REGEX w_RAND w_STRDT w_MD5 w_IS_IRI w_NOW w_SHA512 from Eq.symm ((if_neg hc2).trans ((if_neg hc8).trans ((if_neg hc14).trans ((if_neg hc20).trans ((if_neg hc26).trans ((if_neg hc32).trans (if_pos hc38)))))))), N0, rfl⟩
              · have K42 : ∀ t, Steps p.tables e below (s₁.setTop (mkF m 63 #[.val (.int p1)] [])) t → Steps p.tables e below (s₁.setTop (mkF m 56 #[.val (.int p1)] [(.int (6 : Int32)), (.int p1)])) t := by
                  intro t k
                  refine XS.icmpYes X0.here hx rfl (pc0 := 56) (pc' := 63) rfl (Jvm.hb hby d1_56) rfl (feq hc38).2 (by decide) (by decide) ?_
                  exact k
                have K43 : ∀ t, Steps p.tables e below (s₁.setTop (mkF m 66 #[.val (.int p1)] [(.int (7 : Int32)), (.int p1)])) t → Steps p.tables e below (s₁.setTop (mkF m 63 #[.val (.int p1)] [])) t := by
                  intro t k
                  refine XS.iloadN X0.here hx rfl (Jvm.hb hby d1_63) rfl ?_
                  show Steps p.tables e below (s₁.setTop (mkF m 64 #[.val (.int p1)] [(.int p1)])) t
                  refine XS.bipush X0.here hx rfl (Jvm.hb hby d1_64) ?_
                  show Steps p.tables e below (s₁.setTop (mkF m 66 #[.val (.int p1)] [(.int (7 : Int32)), (.int p1)])) t
                  exact k
                by_cases hc44 : p1 = (7 : Int32)
                · have K45 : ∀ t, Steps p.tables e below (s₁.setTop (mkF m 69 #[.val (.int p1)] [])) t → Steps p.tables e below (s₁.setTop (mkF m 66 #[.val (.int p1)] [(.int (7 : Int32)), (.int p1)])) t := by
                    intro t k
                    refine XS.icmpNo X0.here hx rfl (Jvm.hb hby d1_66) rfl (teq hc44).2 ?_
                    exact k
                  obtain ⟨T46, X46, e46, st46⟩ := getS2 X0 hx hZ hown (host := "") (Or.inl (hw _ (List.mem_of_getElem? (i := 39) rfl))) Via.refl e0 S_UUID (g := (mkF m 69 #[.val (.int p1)] [])) rfl (Jvm.hb hby d1_69)
                  have K47 : ∀ t, Steps p.tables e below (T46.setTop (mkF m 72 #[.val (.int p1)] [(.ref w_UUID)])) t → Steps p.tables e below (s₁.setTop (mkF m 69 #[.val (.int p1)] [])) t := fun t k => st46 _ k
                  obtain ⟨fs, hr, hrun, hended, hW, hsame⟩ := X46.leave (v := some (.ref w_UUID)) (fun h => by rw [Bd.returns] at h; cases h) Bd.notSynchronized
                  refine ⟨_, _, pre0 _ (K1 _ (K6 _ (K7 _ (K12 _ (K13 _ (K18 _ (K19 _ (K24 _ (K25 _ (K30 _ (K31 _ (K36 _ (K37 _ (K42 _ (K43 _ (K45 _ (K47 _ (retOut X46 hx Bd.returns rfl (Or.inr (Or.inr (Or.inr (Or.inr ⟨rfl, rfl, rfl⟩)))) (Jvm.hb hby d1_72) hr)))))))))))))))))), hrun, hended, _, _, rfl, ?_, ⟨_, rfl⟩, hW, hsame.mono (by decide) (by decide)⟩
                  show Q1 Z p1 w_IF w_COALESCE w_SAME_TERM w_STRLEN w_BNODE w_SUBSTR w_REPLACE w_UUID w_CONCAT w_REGEX w_RAND w_STRDT w_MD5 w_IS_IRI w_NOW w_SHA512 h0 n0 _ T46.heap _
                  rw [e46]
                  exact ⟨congrArg (fun z => some (Value.ref z)) (show w_UUID = f1 p1 w_IF w_COALESCE w_SAME_TERM w_STRLEN w_BNODE w_SUBSTR w_REPLACE w_UUID w_CONCAT w_REGEX w_RAND w_STRDT w_MD5 w_IS_IRI w_NOW w_SHA512 from Eq.symm ((if_neg hc2).trans ((if_neg hc8).trans ((if_neg hc14).trans ((if_neg hc20).trans ((if_neg hc26).trans ((if_neg hc32).trans ((if_neg hc38).trans (if_pos hc44))))))))), N0, rfl⟩
                · have K48 : ∀ t, Steps p.tables e below (s₁.setTop (mkF m 73 #[.val (.int p1)] [])) t → Steps p.tables e below (s₁.setTop (mkF m 66 #[.val (.int p1)] [(.int (7 : Int32)), (.int p1)])) t := by
                    intro t k
                    refine XS.icmpYes X0.here hx rfl (pc0 := 66) (pc' := 73) rfl (Jvm.hb hby d1_66) rfl (feq hc44).2 (by decide) (by decide) ?_
                    exact k
                  have K49 : ∀ t, Steps p.tables e below (s₁.setTop (mkF m 76 #[.val (.int p1)] [(.int (8 : Int32)), (.int p1)])) t → Steps p.tables e below (s₁.setTop (mkF m 73 #[.val (.int p1)] [])) t := by
                    intro t k
                    refine XS.iloadN X0.here hx rfl (Jvm.hb hby d1_73) rfl ?_
                    show Steps p.tables e below (s₁.setTop (mkF m 74 #[.val (.int p1)] [(.int p1)])) t
                    refine XS.bipush X0.here hx rfl (Jvm.hb hby d1_74) ?_
                    show Steps p.tables e below (s₁.setTop (mkF m 76 #[.val (.int p1)] [(.int (8 : Int32)), (.int p1)])) t
                    exact k
                  by_cases hc50 : p1 = (8 : Int32)
                  · have K51 : ∀ t, Steps p.tables e below (s₁.setTop (mkF m 79 #[.val (.int p1)] [])) t → Steps p.tables e below (s₁.setTop (mkF m 76 #[.val (.int p1)] [(.int (8 : Int32)), (.int p1)])) t := by
                      intro t k
                      refine XS.icmpNo X0.here hx rfl (Jvm.hb hby d1_76) rfl (teq hc50).2 ?_
                      exact k
                    obtain ⟨T52, X52, e52, st52⟩ := getS2 X0 hx hZ hown (host := "") (Or.inl (hw _ (List.mem_of_getElem? (i := 25) rfl))) Via.refl e0 S_CONCAT (g := (mkF m 79 #[.val (.int p1)] [])) rfl (Jvm.hb hby d1_79)
                    have K53 : ∀ t, Steps p.tables e below (T52.setTop (mkF m 82 #[.val (.int p1)] [(.ref w_CONCAT)])) t → Steps p.tables e below (s₁.setTop (mkF m 79 #[.val (.int p1)] [])) t := fun t k => st52 _ k
                    obtain ⟨fs, hr, hrun, hended, hW, hsame⟩ := X52.leave (v := some (.ref w_CONCAT)) (fun h => by rw [Bd.returns] at h; cases h) Bd.notSynchronized
                    refine ⟨_, _, pre0 _ (K1 _ (K6 _ (K7 _ (K12 _ (K13 _ (K18 _ (K19 _ (K24 _ (K25 _ (K30 _ (K31 _ (K36 _ (K37 _ (K42 _ (K43 _ (K48 _ (K49 _ (K51 _ (K53 _ (retOut X52 hx Bd.returns rfl (Or.inr (Or.inr (Or.inr (Or.inr ⟨rfl, rfl, rfl⟩)))) (Jvm.hb hby d1_82) hr)))))))))))))))))))), hrun, hended, _, _, rfl, ?_, ⟨_, rfl⟩, hW, hsame.mono (by decide) (by decide)⟩
                    show Q1 Z p1 w_IF w_COALESCE w_SAME_TERM w_STRLEN w_BNODE w_SUBSTR w_REPLACE w_UUID w_CONCAT w_REGEX w_RAND w_STRDT w_MD5 w_IS_IRI w_NOW w_SHA512 h0 n0 _ T52.heap _
                    rw [e52]
                    exact ⟨congrArg (fun z => some (Value.ref z)) (show w_CONCAT = f1 p1 w_IF w_COALESCE w_SAME_TERM w_STRLEN w_BNODE w_SUBSTR w_REPLACE w_UUID w_CONCAT w_REGEX w_RAND w_STRDT w_MD5 w_IS_IRI w_NOW w_SHA512 from Eq.symm ((if_neg hc2).trans ((if_neg hc8).trans ((if_neg hc14).trans ((if_neg hc20).trans ((if_neg hc26).trans ((if_neg hc32).trans ((if_neg hc38).trans ((if_neg hc44).trans (if_pos hc50)))))))))), N0, rfl⟩
                  · have K54 : ∀ t, Steps p.tables e below (s₁.setTop (mkF m 83 #[.val (.int p1)] [])) t → Steps p.tables e below (s₁.setTop (mkF m 76 #[.val (.int p1)] [(.int (8 : Int32)), (.int p1)])) t := by
                      intro t k
                      refine XS.icmpYes X0.here hx rfl (pc0 := 76) (pc' := 83) rfl (Jvm.hb hby d1_76) rfl (feq hc50).2 (by decide) (by decide) ?_
                      exact k
                    have K55 : ∀ t, Steps p.tables e below (s₁.setTop (mkF m 86 #[.val (.int p1)] [(.int (9 : Int32)), (.int p1)])) t → Steps p.tables e below (s₁.setTop (mkF m 83 #[.val (.int p1)] [])) t := by
                      intro t k
                      refine XS.iloadN X0.here hx rfl (Jvm.hb hby d1_83) rfl ?_
                      show Steps p.tables e below (s₁.setTop (mkF m 84 #[.val (.int p1)] [(.int p1)])) t
                      refine XS.bipush X0.here hx rfl (Jvm.hb hby d1_84) ?_
                      show Steps p.tables e below (s₁.setTop (mkF m 86 #[.val (.int p1)] [(.int (9 : Int32)), (.int p1)])) t
                      exact k
                    by_cases hc56 : p1 = (9 : Int32)
                    · have K57 : ∀ t, Steps p.tables e below (s₁.setTop (mkF m 89 #[.val (.int p1)] [])) t → Steps p.tables e below (s₁.setTop (mkF m 86 #[.val (.int p1)] [(.int (9 : Int32)), (.int p1)])) t := by
                        intro t k
                        refine XS.icmpNo X0.here hx rfl (Jvm.hb hby d1_86) rfl (teq hc56).2 ?_
                        exact k
                      obtain ⟨T58, X58, e58, st58⟩ := getS2 X0 hx hZ hown (host := "") (Or.inl (hw _ (List.mem_of_getElem? (i := 37) rfl))) Via.refl e0 S_REGEX (g := (mkF m 89 #[.val (.int p1)] [])) rfl (Jvm.hb hby d1_89)
                      have K59 : ∀ t, Steps p.tables e below (T58.setTop (mkF m 92 #[.val (.int p1)] [(.ref w_REGEX)])) t → Steps p.tables e below (s₁.setTop (mkF m 89 #[.val (.int p1)] [])) t := fun t k => st58 _ k
                      obtain ⟨fs, hr, hrun, hended, hW, hsame⟩ := X58.leave (v := some (.ref w_REGEX)) (fun h => by rw [Bd.returns] at h; cases h) Bd.notSynchronized
                      refine ⟨_, _, pre0 _ (K1 _ (K6 _ (K7 _ (K12 _ (K13 _ (K18 _ (K19 _ (K24 _ (K25 _ (K30 _ (K31 _ (K36 _ (K37 _ (K42 _ (K43 _ (K48 _ (K49 _ (K54 _ (K55 _ (K57 _ (K59 _ (retOut X58 hx Bd.returns rfl (Or.inr (Or.inr (Or.inr (Or.inr ⟨rfl, rfl, rfl⟩)))) (Jvm.hb hby d1_92) hr)))))))))))))))))))))), hrun, hended, _, _, rfl, ?_, ⟨_, rfl⟩, hW, hsame.mono (by decide) (by decide)⟩
                      show Q1 Z p1 w_IF w_COALESCE w_SAME_TERM w_STRLEN w_BNODE w_SUBSTR w_REPLACE w_UUID w_CONCAT w_REGEX w_RAND w_STRDT w_MD5 w_IS_IRI w_NOW w_SHA512 h0 n0 _ T58.heap _
                      rw [e58]
                      exact ⟨congrArg (fun z => some (Value.ref z)) (show w_REGEX = f1 p1 w_IF w_COALESCE w_SAME_TERM w_STRLEN w_BNODE w_SUBSTR w_REPLACE w_UUID w_CONCAT w_REGEX w_RAND w_STRDT w_MD5 w_IS_IRI w_NOW w_SHA512 from Eq.symm ((if_neg hc2).trans ((if_neg hc8).trans ((if_neg hc14).trans ((if_neg hc20).trans ((if_neg hc26).trans ((if_neg hc32).trans ((if_neg hc38).trans ((if_neg hc44).trans ((if_neg hc50).trans (if_pos hc56))))))))))), N0, rfl⟩
                    · have K60 : ∀ t, Steps p.tables e below (s₁.setTop (mkF m 93 #[.val (.int p1)] [])) t → Steps p.tables e below (s₁.setTop (mkF m 86 #[.val (.int p1)] [(.int (9 : Int32)), (.int p1)])) t := by
                        intro t k
                        refine XS.icmpYes X0.here hx rfl (pc0 := 86) (pc' := 93) rfl (Jvm.hb hby d1_86) rfl (feq hc56).2 (by decide) (by decide) ?_
                        exact k
                      have K61 : ∀ t, Steps p.tables e below (s₁.setTop (mkF m 96 #[.val (.int p1)] [(.int (10 : Int32)), (.int p1)])) t → Steps p.tables e below (s₁.setTop (mkF m 93 #[.val (.int p1)] [])) t := by
                        intro t k
                        refine XS.iloadN X0.here hx rfl (Jvm.hb hby d1_93) rfl ?_
                        show Steps p.tables e below (s₁.setTop (mkF m 94 #[.val (.int p1)] [(.int p1)])) t
                        refine XS.bipush X0.here hx rfl (Jvm.hb hby d1_94) ?_
                        show Steps p.tables e below (s₁.setTop (mkF m 96 #[.val (.int p1)] [(.int (10 : Int32)), (.int p1)])) t
                        exact k
                      by_cases hc62 : p1 = (10 : Int32)
                      · have K63 : ∀ t, Steps p.tables e below (s₁.setTop (mkF m 99 #[.val (.int p1)] [])) t → Steps p.tables e below (s₁.setTop (mkF m 96 #[.val (.int p1)] [(.int (10 : Int32)), (.int p1)])) t := by
                          intro t k
                          refine XS.icmpNo X0.here hx rfl (Jvm.hb hby d1_96) rfl (teq hc62).2 ?_
                          exact k
                        obtain ⟨T64, X64, e64, st64⟩ := getS2 X0 hx hZ hown (host := "") (Or.inl (hw _ (List.mem_of_getElem? (i := 31) rfl))) Via.refl e0 S_RAND (g := (mkF m 99 #[.val (.int p1)] [])) rfl (Jvm.hb hby d1_99)
                        have K65 : ∀ t, Steps p.tables e below (T64.setTop (mkF m 102 #[.val (.int p1)] [(.ref w_RAND)])) t → Steps p.tables e below (s₁.setTop (mkF m 99 #[.val (.int p1)] [])) t := fun t k => st64 _ k
                        obtain ⟨fs, hr, hrun, hended, hW, hsame⟩ := X64.leave (v := some (.ref w_RAND)) (fun h => by rw [Bd.returns] at h; cases h) Bd.notSynchronized
                        refine ⟨_, _, pre0 _ (K1 _ (K6 _ (K7 _ (K12 _ (K13 _ (K18 _ (K19 _ (K24 _ (K25 _ (K30 _ (K31 _ (K36 _ (K37 _ (K42 _ (K43 _ (K48 _ (K49 _ (K54 _ (K55 _ (K60 _ (K61 _ (K63 _ (K65 _ (retOut X64 hx Bd.returns rfl (Or.inr (Or.inr (Or.inr (Or.inr ⟨rfl, rfl, rfl⟩)))) (Jvm.hb hby d1_102) hr)))))))))))))))))))))))), hrun, hended, _, _, rfl, ?_, ⟨_, rfl⟩, hW, hsame.mono (by decide) (by decide)⟩
                        show Q1 Z p1 w_IF w_COALESCE w_SAME_TERM w_STRLEN w_BNODE w_SUBSTR w_REPLACE w_UUID w_CONCAT w_REGEX w_RAND w_STRDT w_MD5 w_IS_IRI w_NOW w_SHA512 h0 n0 _ T64.heap _
                        rw [e64]
                        exact ⟨congrArg (fun z => some (Value.ref z)) (show w_RAND = f1 p1 w_IF w_COALESCE w_SAME_TERM w_STRLEN w_BNODE w_SUBSTR w_REPLACE w_UUID w_CONCAT w_REGEX w_RAND w_STRDT w_MD5 w_IS_IRI w_NOW w_SHA512 from Eq.symm ((if_neg hc2).trans ((if_neg hc8).trans ((if_neg hc14).trans ((if_neg hc20).trans ((if_neg hc26).trans ((if_neg hc32).trans ((if_neg hc38).trans ((if_neg hc44).trans ((if_neg hc50).trans ((if_neg hc56).trans (if_pos hc62)))))))))))), N0, rfl⟩
                      · have K66 : ∀ t, Steps p.tables e below (s₁.setTop (mkF m 103 #[.val (.int p1)] [])) t → Steps p.tables e below (s₁.setTop (mkF m 96 #[.val (.int p1)] [(.int (10 : Int32)), (.int p1)])) t := by
                          intro t k
                          refine XS.icmpYes X0.here hx rfl (pc0 := 96) (pc' := 103) rfl (Jvm.hb hby d1_96) rfl (feq hc62).2 (by decide) (by decide) ?_
                          exact k
                        have K67 : ∀ t, Steps p.tables e below (s₁.setTop (mkF m 106 #[.val (.int p1)] [(.int (11 : Int32)), (.int p1)])) t → Steps p.tables e below (s₁.setTop (mkF m 103 #[.val (.int p1)] [])) t := by
                          intro t k
                          refine XS.iloadN X0.here hx rfl (Jvm.hb hby d1_103) rfl ?_
                          show Steps p.tables e below (s₁.setTop (mkF m 104 #[.val (.int p1)] [(.int p1)])) t
                          refine XS.bipush X0.here hx rfl (Jvm.hb hby d1_104) ?_
                          show Steps p.tables e below (s₁.setTop (mkF m 106 #[.val (.int p1)] [(.int (11 : Int32)), (.int p1)])) t
                          exact k
                        by_cases hc68 : p1 = (11 : Int32)
                        · have K69 : ∀ t, Steps p.tables e below (s₁.setTop (mkF m 109 #[.val (.int p1)] [])) t → Steps p.tables e below (s₁.setTop (mkF m 106 #[.val (.int p1)] [(.int (11 : Int32)), (.int p1)])) t := by
                            intro t k
                            refine XS.icmpNo X0.here hx rfl (Jvm.hb hby d1_106) rfl (teq hc68).2 ?_
                            exact k
                          obtain ⟨T70, X70, e70, st70⟩ := getS2 X0 hx hZ hown (host := "") (Or.inl (hw _ (List.mem_of_getElem? (i := 35) rfl))) Via.refl e0 S_STRDT (g := (mkF m 109 #[.val (.int p1)] [])) rfl (Jvm.hb hby d1_109)
                          have K71 : ∀ t, Steps p.tables e below (T70.setTop (mkF m 112 #[.val (.int p1)] [(.ref w_STRDT)])) t → Steps p.tables e below (s₁.setTop (mkF m 109 #[.val (.int p1)] [])) t := fun t k => st70 _ k
                          obtain ⟨fs, hr, hrun, hended, hW, hsame⟩ := X70.leave (v := some (.ref w_STRDT)) (fun h => by rw [Bd.returns] at h; cases h) Bd.notSynchronized
                          refine ⟨_, _, pre0 _ (K1 _ (K6 _ (K7 _ (K12 _ (K13 _ (K18 _ (K19 _ (K24 _ (K25 _ (K30 _ (K31 _ (K36 _ (K37 _ (K42 _ (K43 _ (K48 _ (K49 _ (K54 _ (K55 _ (K60 _ (K61 _ (K66 _ (K67 _ (K69 _ (K71 _ (retOut X70 hx Bd.returns rfl (Or.inr (Or.inr (Or.inr (Or.inr ⟨rfl, rfl, rfl⟩)))) (Jvm.hb hby d1_112) hr)))))))))))))))))))))))))), hrun, hended, _, _, rfl, ?_, ⟨_, rfl⟩, hW, hsame.mono (by decide) (by decide)⟩
                          show Q1 Z p1 w_IF w_COALESCE w_SAME_TERM w_STRLEN w_BNODE w_SUBSTR w_REPLACE w_UUID w_CONCAT w_REGEX w_RAND w_STRDT w_MD5 w_IS_IRI w_NOW w_SHA512 h0 n0 _ T70.heap _
                          rw [e70]
                          exact ⟨congrArg (fun z => some (Value.ref z)) (show w_STRDT = f1 p1 w_IF w_COALESCE w_SAME_TERM w_STRLEN w_BNODE w_SUBSTR w_REPLACE w_UUID w_CONCAT w_REGEX w_RAND w_STRDT w_MD5 w_IS_IRI w_NOW w_SHA512 from Eq.symm ((if_neg hc2).trans ((if_neg hc8).trans ((if_neg hc14).trans ((if_neg hc20).trans ((if_neg hc26).trans ((if_neg hc32).trans ((if_neg hc38).trans ((if_neg hc44).trans ((if_neg hc50).trans ((if_neg hc56).trans ((if_neg hc62).trans (if_pos hc68))))))))))))), N0, rfl⟩
                        · have K72 : ∀ t, Steps p.tables e below (s₁.setTop (mkF m 113 #[.val (.int p1)] [])) t → Steps p.tables e below (s₁.setTop (mkF m 106 #[.val (.int p1)] [(.int (11 : Int32)), (.int p1)])) t := by
                            intro t k
                            refine XS.icmpYes X0.here hx rfl (pc0 := 106) (pc' := 113) rfl (Jvm.hb hby d1_106) rfl (feq hc68).2 (by decide) (by decide) ?_
                            exact k
                          have K73 : ∀ t, Steps p.tables e below (s₁.setTop (mkF m 116 #[.val (.int p1)] [(.int (12 : Int32)), (.int p1)])) t → Steps p.tables e below (s₁.setTop (mkF m 113 #[.val (.int p1)] [])) t := by
                            intro t k
                            refine XS.iloadN X0.here hx rfl (Jvm.hb hby d1_113) rfl ?_
                            show Steps p.tables e below (s₁.setTop (mkF m 114 #[.val (.int p1)] [(.int p1)])) t
                            refine XS.bipush X0.here hx rfl (Jvm.hb hby d1_114) ?_
                            show Steps p.tables e below (s₁.setTop (mkF m 116 #[.val (.int p1)] [(.int (12 : Int32)), (.int p1)])) t
                            exact k
                          by_cases hc74 : p1 = (12 : Int32)
                          · have K75 : ∀ t, Steps p.tables e below (s₁.setTop (mkF m 119 #[.val (.int p1)] [])) t → Steps p.tables e below (s₁.setTop (mkF m 116 #[.val (.int p1)] [(.int (12 : Int32)), (.int p1)])) t := by
                              intro t k
                              refine XS.icmpNo X0.here hx rfl (Jvm.hb hby d1_116) rfl (teq hc74).2 ?_
                              exact k
                            obtain ⟨T76, X76, e76, st76⟩ := getS2 X0 hx hZ hown (host := "") (Or.inl (hw _ (List.mem_of_getElem? (i := 47) rfl))) Via.refl e0 S_MD5 (g := (mkF m 119 #[.val (.int p1)] [])) rfl (Jvm.hb hby d1_119)
                            have K77 : ∀ t, Steps p.tables e below (T76.setTop (mkF m 122 #[.val (.int p1)] [(.ref w_MD5)])) t → Steps p.tables e below (s₁.setTop (mkF m 119 #[.val (.int p1)] [])) t := fun t k => st76 _ k
                            obtain ⟨fs, hr, hrun, hended, hW, hsame⟩ := X76.leave (v := some (.ref w_MD5)) (fun h => by rw [Bd.returns] at h; cases h) Bd.notSynchronized
                            refine ⟨_, _, pre0 _ (K1 _ (K6 _ (K7 _ (K12 _ (K13 _ (K18 _ (K19 _ (K24 _ (K25 _ (K30 _ (K31 _ (K36 _ (K37 _ (K42 _ (K43 _ (K48 _ (K49 _ (K54 _ (K55 _ (K60 _ (K61 _ (K66 _ (K67 _ (K72 _ (K73 _ (K75 _ (K77 _ (retOut X76 hx Bd.returns rfl (Or.inr (Or.inr (Or.inr (Or.inr ⟨rfl, rfl, rfl⟩)))) (Jvm.hb hby d1_122) hr)))))))))))))))))))))))))))), hrun, hended, _, _, rfl, ?_, ⟨_, rfl⟩, hW, hsame.mono (by decide) (by decide)⟩
                            show Q1 Z p1 w_IF w_COALESCE w_SAME_TERM w_STRLEN w_BNODE w_SUBSTR w_REPLACE w_UUID w_CONCAT w_REGEX w_RAND w_STRDT w_MD5 w_IS_IRI w_NOW w_SHA512 h0 n0 _ T76.heap _
                            rw [e76]
                            exact ⟨congrArg (fun z => some (Value.ref z)) (show w_MD5 = f1 p1 w_IF w_COALESCE w_SAME_TERM w_STRLEN w_BNODE w_SUBSTR w_REPLACE w_UUID w_CONCAT w_REGEX w_RAND w_STRDT w_MD5 w_IS_IRI w_NOW w_SHA512 from Eq.symm ((if_neg hc2).trans ((if_neg hc8).trans ((if_neg hc14).trans ((if_neg hc20).trans ((if_neg hc26).trans ((if_neg hc32).trans ((if_neg hc38).trans ((if_neg hc44).trans ((if_neg hc50).trans ((if_neg hc56).trans ((if_neg hc62).trans ((if_neg hc68).trans (if_pos hc74)))))))))))))), N0, rfl⟩
                          · have K78 : ∀ t, Steps p.tables e below (s₁.setTop (mkF m 123 #[.val (.int p1)] [])) t → Steps p.tables e below (s₁.setTop (mkF m 116 #[.val (.int p1)] [(.int (12 : Int32)), (.int p1)])) t := by
                              intro t k
                              refine XS.icmpYes X0.here hx rfl (pc0 := 116) (pc' := 123) rfl (Jvm.hb hby d1_116) rfl (feq hc74).2 (by decide) (by decide) ?_
                              exact k
                            have K79 : ∀ t, Steps p.tables e below (s₁.setTop (mkF m 126 #[.val (.int p1)] [(.int (13 : Int32)), (.int p1)])) t → Steps p.tables e below (s₁.setTop (mkF m 123 #[.val (.int p1)] [])) t := by
                              intro t k
                              refine XS.iloadN X0.here hx rfl (Jvm.hb hby d1_123) rfl ?_
                              show Steps p.tables e below (s₁.setTop (mkF m 124 #[.val (.int p1)] [(.int p1)])) t
                              refine XS.bipush X0.here hx rfl (Jvm.hb hby d1_124) ?_
                              show Steps p.tables e below (s₁.setTop (mkF m 126 #[.val (.int p1)] [(.int (13 : Int32)), (.int p1)])) t
                              exact k
                            by_cases hc80 : p1 = (13 : Int32)
                            · have K81 : ∀ t, Steps p.tables e below (s₁.setTop (mkF m 129 #[.val (.int p1)] [])) t → Steps p.tables e below (s₁.setTop (mkF m 126 #[.val (.int p1)] [(.int (13 : Int32)), (.int p1)])) t := by
                                intro t k
                                refine XS.icmpNo X0.here hx rfl (Jvm.hb hby d1_126) rfl (teq hc80).2 ?_
                                exact k
                              obtain ⟨T82, X82, e82, st82⟩ := getS2 X0 hx hZ hown (host := "") (Or.inl (hw _ (List.mem_of_getElem? (i := 33) rfl))) Via.refl e0 S_IS_IRI (g := (mkF m 129 #[.val (.int p1)] [])) rfl (Jvm.hb hby d1_129)
                              have K83 : ∀ t, Steps p.tables e below (T82.setTop (mkF m 132 #[.val (.int p1)] [(.ref w_IS_IRI)])) t → Steps p.tables e below (s₁.setTop (mkF m 129 #[.val (.int p1)] [])) t := fun t k => st82 _ k
                              obtain ⟨fs, hr, hrun, hended, hW, hsame⟩ := X82.leave (v := some (.ref w_IS_IRI)) (fun h => by rw [Bd.returns] at h; cases h) Bd.notSynchronized
                              refine ⟨_, _, pre0 _ (K1 _ (K6 _ (K7 _ (K12 _ (K13 _ (K18 _ (K19 _ (K24 _ (K25 _ (K30 _ (K31 _ (K36 _ (K37 _ (K42 _ (K43 _ (K48 _ (K49 _ (K54 _ (K55 _ (K60 _ (K61 _ (K66 _ (K67 _ (K72 _ (K73 _ (K78 _ (K79 _ (K81 _ (K83 _ (retOut X82 hx Bd.returns rfl (Or.inr (Or.inr (Or.inr (Or.inr ⟨rfl, rfl, rfl⟩)))) (Jvm.hb hby d1_132) hr)))))))))))))))))))))))))))))), hrun, hended, _, _, rfl, ?_, ⟨_, rfl⟩, hW, hsame.mono (by decide) (by decide)⟩
                              show Q1 Z p1 w_IF w_COALESCE w_SAME_TERM w_STRLEN w_BNODE w_SUBSTR w_REPLACE w_UUID w_CONCAT w_REGEX w_RAND w_STRDT w_MD5 w_IS_IRI w_NOW w_SHA512 h0 n0 _ T82.heap _
                              rw [e82]
                              exact ⟨congrArg (fun z => some (Value.ref z)) (show w_IS_IRI = f1 p1 w_IF w_COALESCE w_SAME_TERM w_STRLEN w_BNODE w_SUBSTR w_REPLACE w_UUID w_CONCAT w_REGEX w_RAND w_STRDT w_MD5 w_IS_IRI w_NOW w_SHA512 from Eq.symm ((if_neg hc2).trans ((if_neg hc8).trans ((if_neg hc14).trans ((if_neg hc20).trans ((if_neg hc26).trans ((if_neg hc32).trans ((if_neg hc38).trans ((if_neg hc44).trans ((if_neg hc50).trans ((if_neg hc56).trans ((if_neg hc62).trans ((if_neg hc68).trans ((if_neg hc74).trans (if_pos hc80))))))))))))))), N0, rfl⟩
                            · have K84 : ∀ t, Steps p.tables e below (s₁.setTop (mkF m 133 #[.val (.int p1)] [])) t → Steps p.tables e below (s₁.setTop (mkF m 126 #[.val (.int p1)] [(.int (13 : Int32)), (.int p1)])) t := by
                                intro t k
                                refine XS.icmpYes X0.here hx rfl (pc0 := 126) (pc' := 133) rfl (Jvm.hb hby d1_126) rfl (feq hc80).2 (by decide) (by decide) ?_
                                exact k
                              have K85 : ∀ t, Steps p.tables e below (s₁.setTop (mkF m 136 #[.val (.int p1)] [(.int (14 : Int32)), (.int p1)])) t → Steps p.tables e below (s₁.setTop (mkF m 133 #[.val (.int p1)] [])) t := by
                                intro t k
                                refine XS.iloadN X0.here hx rfl (Jvm.hb hby d1_133) rfl ?_
                                show Steps p.tables e below (s₁.setTop (mkF m 134 #[.val (.int p1)] [(.int p1)])) t
                                refine XS.bipush X0.here hx rfl (Jvm.hb hby d1_134) ?_
                                show Steps p.tables e below (s₁.setTop (mkF m 136 #[.val (.int p1)] [(.int (14 : Int32)), (.int p1)])) t
                                exact k
                              by_cases hc86 : p1 = (14 : Int32)
                              · have K87 : ∀ t, Steps p.tables e below (s₁.setTop (mkF m 139 #[.val (.int p1)] [])) t → Steps p.tables e below (s₁.setTop (mkF m 136 #[.val (.int p1)] [(.int (14 : Int32)), (.int p1)])) t := by
                                  intro t k
                                  refine XS.icmpNo X0.here hx rfl (Jvm.hb hby d1_136) rfl (teq hc86).2 ?_
                                  exact k
                                obtain ⟨T88, X88, e88, st88⟩ := getS2 X0 hx hZ hown (host := "") (Or.inl (hw _ (List.mem_of_getElem? (i := 43) rfl))) Via.refl e0 S_NOW (g := (mkF m 139 #[.val (.int p1)] [])) rfl (Jvm.hb hby d1_139)
                                have K89 : ∀ t, Steps p.tables e below (T88.setTop (mkF m 142 #[.val (.int p1)] [(.ref w_NOW)])) t → Steps p.tables e below (s₁.setTop (mkF m 139 #[.val (.int p1)] [])) t := fun t k => st88 _ k
                                obtain ⟨fs, hr, hrun, hended, hW, hsame⟩ := X88.leave (v := some (.ref w_NOW)) (fun h => by rw [Bd.returns] at h; cases h) Bd.notSynchronized
                                refine ⟨_, _, pre0 _ (K1 _ (K6 _ (K7 _ (K12 _ (K13 _ (K18 _ (K19 _ (K24 _ (K25 _ (K30 _ (K31 _ (K36 _ (K37 _ (K42 _ (K43 _ (K48 _ (K49 _ (K54 _ (K55 _ (K60 _ (K61 _ (K66 _ (K67 _ (K72 _ (K73 _ (K78 _ (K79 _ (K84 _ (K85 _ (K87 _ (K89 _ (retOut X88 hx Bd.returns rfl (Or.inr (Or.inr (Or.inr (Or.inr ⟨rfl, rfl, rfl⟩)))) (Jvm.hb hby d1_142) hr)))))))))))))))))))))))))))))))), hrun, hended, _, _, rfl, ?_, ⟨_, rfl⟩, hW, hsame.mono (by decide) (by decide)⟩
                                show Q1 Z p1 w_IF w_COALESCE w_SAME_TERM w_STRLEN w_BNODE w_SUBSTR w_REPLACE w_UUID w_CONCAT w_REGEX w_RAND w_STRDT w_MD5 w_IS_IRI w_NOW w_SHA512 h0 n0 _ T88.heap _
                                rw [e88]
                                exact ⟨congrArg (fun z => some (Value.ref z)) (show w_NOW = f1 p1 w_IF w_COALESCE w_SAME_TERM w_STRLEN w_BNODE w_SUBSTR w_REPLACE w_UUID w_CONCAT w_REGEX w_RAND w_STRDT w_MD5 w_IS_IRI w_NOW w_SHA512 from Eq.symm ((if_neg hc2).trans ((if_neg hc8).trans ((if_neg hc14).trans ((if_neg hc20).trans ((if_neg hc26).trans ((if_neg hc32).trans ((if_neg hc38).trans ((if_neg hc44).trans ((if_neg hc50).trans ((if_neg hc56).trans ((if_neg hc62).trans ((if_neg hc68).trans ((if_neg hc74).trans ((if_neg hc80).trans (if_pos hc86)))))))))))))))), N0, rfl⟩
                              · have K90 : ∀ t, Steps p.tables e below (s₁.setTop (mkF m 143 #[.val (.int p1)] [])) t → Steps p.tables e below (s₁.setTop (mkF m 136 #[.val (.int p1)] [(.int (14 : Int32)), (.int p1)])) t := by
                                  intro t k
                                  refine XS.icmpYes X0.here hx rfl (pc0 := 136) (pc' := 143) rfl (Jvm.hb hby d1_136) rfl (feq hc86).2 (by decide) (by decide) ?_
                                  exact k
                                obtain ⟨T91, X91, e91, st91⟩ := getS2 X0 hx hZ hown (host := "") (Or.inl (hw _ (List.mem_of_getElem? (i := 23) rfl))) Via.refl e0 S_SHA512 (g := (mkF m 143 #[.val (.int p1)] [])) rfl (Jvm.hb hby d1_143)
                                have K92 : ∀ t, Steps p.tables e below (T91.setTop (mkF m 146 #[.val (.int p1)] [(.ref w_SHA512)])) t → Steps p.tables e below (s₁.setTop (mkF m 143 #[.val (.int p1)] [])) t := fun t k => st91 _ k
                                obtain ⟨fs, hr, hrun, hended, hW, hsame⟩ := X91.leave (v := some (.ref w_SHA512)) (fun h => by rw [Bd.returns] at h; cases h) Bd.notSynchronized
                                refine ⟨_, _, pre0 _ (K1 _ (K6 _ (K7 _ (K12 _ (K13 _ (K18 _ (K19 _ (K24 _ (K25 _ (K30 _ (K31 _ (K36 _ (K37 _ (K42 _ (K43 _ (K48 _ (K49 _ (K54 _ (K55 _ (K60 _ (K61 _ (K66 _ (K67 _ (K72 _ (K73 _ (K78 _ (K79 _ (K84 _ (K85 _ (K90 _ (K92 _ (retOut X91 hx Bd.returns rfl (Or.inr (Or.inr (Or.inr (Or.inr ⟨rfl, rfl, rfl⟩)))) (Jvm.hb hby d1_146) hr)))))))))))))))))))))))))))))))), hrun, hended, _, _, rfl, ?_, ⟨_, rfl⟩, hW, hsame.mono (by decide) (by decide)⟩
                                show Q1 Z p1 w_IF w_COALESCE w_SAME_TERM w_STRLEN w_BNODE w_SUBSTR w_REPLACE w_UUID w_CONCAT w_REGEX w_RAND w_STRDT w_MD5 w_IS_IRI w_NOW w_SHA512 h0 n0 _ T91.heap _
                                rw [e91]
                                exact ⟨congrArg (fun z => some (Value.ref z)) (show w_SHA512 = f1 p1 w_IF w_COALESCE w_SAME_TERM w_STRLEN w_BNODE w_SUBSTR w_REPLACE w_UUID w_CONCAT w_REGEX w_RAND w_STRDT w_MD5 w_IS_IRI w_NOW w_SHA512 from Eq.symm ((if_neg hc2).trans ((if_neg hc8).trans ((if_neg hc14).trans ((if_neg hc20).trans ((if_neg hc26).trans ((if_neg hc32).trans ((if_neg hc38).trans ((if_neg hc44).trans ((if_neg hc50).trans ((if_neg hc56).trans ((if_neg hc62).trans ((if_neg hc68).trans ((if_neg hc74).trans ((if_neg hc80).trans (if_neg hc86)))))))))))))))), N0, rfl⟩
-- body 2: com/example/nestway/nestway/sparql/Function.takes(I)Z
theorem d2_0 : decode prog_89_method_6_code 0 = .ok (.iload_n 1, 1) := by decide +kernel
theorem d2_1 : decode prog_89_method_6_code 1 = .ok (.aload_n 0, 1) := by decide +kernel
theorem d2_2 : decode prog_89_method_6_code 2 = .ok (.getfield 180, 3) := by decide +kernel
theorem d2_5 : decode prog_89_method_6_code 5 = .ok (.if_icmp .lt 15, 3) := by decide +kernel
theorem d2_8 : decode prog_89_method_6_code 8 = .ok (.iload_n 1, 1) := by decide +kernel
theorem d2_9 : decode prog_89_method_6_code 9 = .ok (.aload_n 0, 1) := by decide +kernel
theorem d2_10 : decode prog_89_method_6_code 10 = .ok (.getfield 184, 3) := by decide +kernel
theorem d2_13 : decode prog_89_method_6_code 13 = .ok (.if_icmp .gt 7, 3) := by decide +kernel
theorem d2_16 : decode prog_89_method_6_code 16 = .ok (.iconst 1, 1) := by decide +kernel
theorem d2_17 : decode prog_89_method_6_code 17 = .ok (.goto 4, 3) := by decide +kernel
theorem d2_20 : decode prog_89_method_6_code 20 = .ok (.iconst 0, 1) := by decide +kernel
theorem d2_21 : decode prog_89_method_6_code 21 = .ok (.ireturn, 1) := by decide +kernel
theorem pn_2 : plainName "com/example/nestway/nestway/sparql/Function" = true := by first | (simp [plainName, overriddenIn]; done) | decide +kernel
theorem ef_2 (m : MethodId) (a1 : Addr) (p2 : Int32) : entryFrame m #[(.ref a1), (.int p2)] 2 = mkF m 0 #[.val (.ref a1), .val (.int p2)] [] := by first | (simp [entryFrame, mkF, argsToLocals, Value.category]; done) | rfl
def f2 (p2 : Int32) (v_least_a1 : Int32) (v_most_a1 : Int32) : Int32 := (if p2 < v_least_a1 then (0 : Int32) else (if v_most_a1 < p2 then (0 : Int32) else (1 : Int32)))
def Q2 (Z : State) (a1 : Addr) (p2 : Int32) (v_least_a1 : Int32) (v_most_a1 : Int32) (h0 : Heap) (n0 : Nat) (v : Option Value) (h : Heap) (L : List Loc) : Prop := v = some (.int (f2 p2 v_least_a1 v_most_a1)) ∧ Fr n0 L ∧ h = h0
set_option maxRecDepth 65536 in
set_option maxHeartbeats 40000000 in
theorem rm2 (l : Launch) (Z : State) (a0 : Array Value) (hw : ∀ d ∈ tables_1, d.before a0 Z = true) (ws : List Jvm.Cond) (a1 : Addr) (p2 : Int32) (v_least_a1 : Int32) (v_most_a1 : Int32) (h0 : Heap) (n0 : Nat) (Z0 : n0 ≤ h0.size) (F_least_a1 : Fld Z h0 a1 "com/example/nestway/nestway/sparql/Function" "least" "I" (.int v_least_a1)) (F_most_a1 : Fld Z h0 a1 "com/example/nestway/nestway/sparql/Function" "most" "I" (.int v_most_a1)) :
    MetFree l (⟨"com/example/nestway/nestway/sparql/Function", "takes", "(I)Z"⟩ : MethodName) (head1 (Jvm.Cond.code (⟨"com/example/nestway/nestway/sparql/Function", "takes", "(I)Z"⟩ : MethodName) prog_89_method_6_code 2 (some .boolean) :: ws) ({ frames := 0, cells := 0, slots := 0, locals := 0 } : Room)) (fun a U => a = #[(.ref a1), (.int p2)] ∧ Z.Warmed39 U.vm ∧ U.heap = h0) (fun _ _ _ _ _ => True) (fun _ U o U' => ∃ v L, o = .returned v ∧ Q2 Z a1 p2 v_least_a1 v_most_a1 h0 n0 v U'.heap L ∧ FrameEnd U o U' L ({ frames := 0, cells := 0, slots := 0, locals := 0 } : Room).cells ({ frames := 0, cells := 0, slots := 0, locals := 0 } : Room).slots) := by
  refine MetFree.of_bodySF (plainFor_of_name pn_2) hisR ?_
  intro p e s m args below meth c s₁ Bd hml0 hP hK
  obtain ⟨rfl, hZ, hh⟩ := hP
  have hx := Bd.exec
  have hby := Bd.bytes
  have hml : c.maxLocals = 2 := hml0
  have hown : s.vm.findClass "com/example/nestway/nestway/sparql/Function" = some m.cls := findClass_of_methodNamed Bd.named
  have hnm := (name_of_methodNamed Bd.named Bd.method).1
  have X0 : Stand p l e ({ frames := 0, cells := 0, slots := 0, locals := 0 } : Room) s m #[(.ref a1), (.int p2)] below meth c s₁ [] 0 0 := Stand.of_body Bd
  have e0 : s₁.heap = h0 := by rw [← hh, Bd.state]; rfl
  have N0 := Fr.nil n0
  have pre0 : ∀ t, Steps p.tables e below (s₁.setTop (mkF m 0 #[.val (.ref a1), .val (.int p2)] [])) t → Steps p.tables e below (s₁.setTop (entryFrame m #[(.ref a1), (.int p2)] 2)) t := fun t k => castTop (ef_2 m a1 p2) k
  have K1 : ∀ t, Steps p.tables e below (s₁.setTop (mkF m 2 #[.val (.ref a1), .val (.int p2)] [(.ref a1), (.int p2)])) t → Steps p.tables e below (s₁.setTop (mkF m 0 #[.val (.ref a1), .val (.int p2)] [])) t := by
    intro t k
    refine XS.iloadN X0.here hx rfl (Jvm.hb hby d2_0) rfl ?_
    show Steps p.tables e below (s₁.setTop (mkF m 1 #[.val (.ref a1), .val (.int p2)] [(.int p2)])) t
    refine XS.aloadN X0.here hx rfl (Jvm.hb hby d2_1) rfl rfl ?_
    show Steps p.tables e below (s₁.setTop (mkF m 2 #[.val (.ref a1), .val (.int p2)] [(.ref a1), (.int p2)])) t
    exact k
  obtain ⟨T2, X2, e2, st2⟩ := getF X0 hx hZ hown (host := "") (Or.inl (hw _ (List.mem_of_getElem? (i := 12) rfl))) Via.refl e0 F_least_a1 (g := (mkF m 2 #[.val (.ref a1), .val (.int p2)] [(.ref a1), (.int p2)])) rfl rfl (Jvm.hb hby d2_2)
  have K3 : ∀ t, Steps p.tables e below (T2.setTop (mkF m 5 #[.val (.ref a1), .val (.int p2)] [(.int v_least_a1), (.int p2)])) t → Steps p.tables e below (s₁.setTop (mkF m 2 #[.val (.ref a1), .val (.int p2)] [(.ref a1), (.int p2)])) t := fun t k => st2 _ k
  by_cases hc4 : p2 < v_least_a1
  · have K5 : ∀ t, Steps p.tables e below (T2.setTop (mkF m 20 #[.val (.ref a1), .val (.int p2)] [])) t → Steps p.tables e below (T2.setTop (mkF m 5 #[.val (.ref a1), .val (.int p2)] [(.int v_least_a1), (.int p2)])) t := by
      intro t k
      refine XS.icmpYes X2.here hx rfl (pc0 := 5) (pc' := 20) rfl (Jvm.hb hby d2_5) rfl (tlt hc4).1 (by decide) (by decide) ?_
      exact k
    have K6 : ∀ t, Steps p.tables e below (T2.setTop (mkF m 21 #[.val (.ref a1), .val (.int p2)] [(.int (0 : Int32))])) t → Steps p.tables e below (T2.setTop (mkF m 20 #[.val (.ref a1), .val (.int p2)] [])) t := by
      intro t k
      refine XS.iconst X2.here hx rfl (Jvm.hb hby d2_20) ?_
      show Steps p.tables e below (T2.setTop (mkF m 21 #[.val (.ref a1), .val (.int p2)] [(.int (0 : Int32))])) t
      exact k
    obtain ⟨fs, hr, hrun, hended, hW, hsame⟩ := X2.leave (v := some (.int (0 : Int32))) (fun h => by rw [Bd.returns] at h; cases h) Bd.notSynchronized
    refine ⟨_, _, pre0 _ (K1 _ (K3 _ (K5 _ (K6 _ (retN X2 hx (t := .boolean) Bd.returns (by simp) (Jvm.hb hby d2_21) hr))))), hrun, hended, _, _, rfl, ?_, ⟨_, rfl⟩, hW, hsame.mono (by decide) (by decide)⟩
    show Q2 Z a1 p2 v_least_a1 v_most_a1 h0 n0 _ T2.heap _
    rw [e2]
    exact ⟨congrArg (fun z => some (Value.int z)) (show (0 : Int32) = f2 p2 v_least_a1 v_most_a1 from Eq.symm (if_pos hc4)), N0, rfl⟩
  · have K7 : ∀ t, Steps p.tables e below (T2.setTop (mkF m 8 #[.val (.ref a1), .val (.int p2)] [])) t → Steps p.tables e below (T2.setTop (mkF m 5 #[.val (.ref a1), .val (.int p2)] [(.int v_least_a1), (.int p2)])) t := by
      intro t k
      refine XS.icmpNo X2.here hx rfl (Jvm.hb hby d2_5) rfl (flt hc4).1 ?_
      exact k
    have K8 : ∀ t, Steps p.tables e below (T2.setTop (mkF m 10 #[.val (.ref a1), .val (.int p2)] [(.ref a1), (.int p2)])) t → Steps p.tables e below (T2.setTop (mkF m 8 #[.val (.ref a1), .val (.int p2)] [])) t := by
      intro t k
      refine XS.iloadN X2.here hx rfl (Jvm.hb hby d2_8) rfl ?_
      show Steps p.tables e below (T2.setTop (mkF m 9 #[.val (.ref a1), .val (.int p2)] [(.int p2)])) t
      refine XS.aloadN X2.here hx rfl (Jvm.hb hby d2_9) rfl rfl ?_
      show Steps p.tables e below (T2.setTop (mkF m 10 #[.val (.ref a1), .val (.int p2)] [(.ref a1), (.int p2)])) t
      exact k
    obtain ⟨T9, X9, e9, st9⟩ := getF X2 hx hZ hown (host := "") (Or.inl (hw _ (List.mem_of_getElem? (i := 14) rfl))) Via.refl e2 F_most_a1 (g := (mkF m 10 #[.val (.ref a1), .val (.int p2)] [(.ref a1), (.int p2)])) rfl rfl (Jvm.hb hby d2_10)
    have K10 : ∀ t, Steps p.tables e below (T9.setTop (mkF m 13 #[.val (.ref a1), .val (.int p2)] [(.int v_most_a1), (.int p2)])) t → Steps p.tables e below (T2.setTop (mkF m 10 #[.val (.ref a1), .val (.int p2)] [(.ref a1), (.int p2)])) t := fun t k => st9 _ k
    by_cases hc11 : v_most_a1 < p2
    · have K12 : ∀ t, Steps p.tables e below (T9.setTop (mkF m 20 #[.val (.ref a1), .val (.int p2)] [])) t → Steps p.tables e below (T9.setTop (mkF m 13 #[.val (.ref a1), .val (.int p2)] [(.int v_most_a1), (.int p2)])) t := by
        intro t k
        refine XS.icmpYes X9.here hx rfl (pc0 := 13) (pc' := 20) rfl (Jvm.hb hby d2_13) rfl (tlt hc11).2.2.1 (by decide) (by decide) ?_
        exact k
      have K13 : ∀ t, Steps p.tables e below (T9.setTop (mkF m 21 #[.val (.ref a1), .val (.int p2)] [(.int (0 : Int32))])) t → Steps p.tables e below (T9.setTop (mkF m 20 #[.val (.ref a1), .val (.int p2)] [])) t := by
        intro t k
        refine XS.iconst X9.here hx rfl (Jvm.hb hby d2_20) ?_
        show Steps p.tables e below (T9.setTop (mkF m 21 #[.val (.ref a1), .val (.int p2)] [(.int (0 : Int32))])) t
        exact k
      obtain ⟨fs, hr, hrun, hended, hW, hsame⟩ := X9.leave (v := some (.int (0 : Int32))) (fun h => by rw [Bd.returns] at h; cases h) Bd.notSynchronized
      refine ⟨_, _, pre0 _ (K1 _ (K3 _ (K7 _ (K8 _ (K10 _ (K12 _ (K13 _ (retN X9 hx (t := .boolean) Bd.returns (by simp) (Jvm.hb hby d2_21) hr)))))))), hrun, hended, _, _, rfl, ?_, ⟨_, rfl⟩, hW, hsame.mono (by decide) (by decide)⟩
      show Q2 Z a1 p2 v_least_a1 v_most_a1 h0 n0 _ T9.heap _
      rw [e9]
      exact ⟨congrArg (fun z => some (Value.int z)) (show (0 : Int32) = f2 p2 v_least_a1 v_most_a1 from Eq.symm ((if_neg hc4).trans (if_pos hc11))), N0, rfl⟩
    · have K14 : ∀ t, Steps p.tables e below (T9.setTop (mkF m 16 #[.val (.ref a1), .val (.int p2)] [])) t → Steps p.tables e below (T9.setTop (mkF m 13 #[.val (.ref a1), .val (.int p2)] [(.int v_most_a1), (.int p2)])) t := by
        intro t k
        refine XS.icmpNo X9.here hx rfl (Jvm.hb hby d2_13) rfl (flt hc11).2.2.1 ?_
        exact k
      have K15 : ∀ t, Steps p.tables e below (T9.setTop (mkF m 21 #[.val (.ref a1), .val (.int p2)] [(.int (1 : Int32))])) t → Steps p.tables e below (T9.setTop (mkF m 16 #[.val (.ref a1), .val (.int p2)] [])) t := by
        intro t k
        refine XS.iconst X9.here hx rfl (Jvm.hb hby d2_16) ?_
        show Steps p.tables e below (T9.setTop (mkF m 17 #[.val (.ref a1), .val (.int p2)] [(.int (1 : Int32))])) t
        refine XS.goto X9.here hx rfl (pc0 := 17) (pc' := 21) rfl (Jvm.hb hby d2_17) (by decide) (by decide) ?_
        show Steps p.tables e below (T9.setTop (mkF m 21 #[.val (.ref a1), .val (.int p2)] [(.int (1 : Int32))])) t
        exact k
      obtain ⟨fs, hr, hrun, hended, hW, hsame⟩ := X9.leave (v := some (.int (1 : Int32))) (fun h => by rw [Bd.returns] at h; cases h) Bd.notSynchronized
      refine ⟨_, _, pre0 _ (K1 _ (K3 _ (K7 _ (K8 _ (K10 _ (K14 _ (K15 _ (retN X9 hx (t := .boolean) Bd.returns (by simp) (Jvm.hb hby d2_21) hr)))))))), hrun, hended, _, _, rfl, ?_, ⟨_, rfl⟩, hW, hsame.mono (by decide) (by decide)⟩
      show Q2 Z a1 p2 v_least_a1 v_most_a1 h0 n0 _ T9.heap _
      rw [e9]
      exact ⟨congrArg (fun z => some (Value.int z)) (show (1 : Int32) = f2 p2 v_least_a1 v_most_a1 from Eq.symm ((if_neg hc4).trans (if_neg hc11))), N0, rfl⟩
-- body 3: com/example/nestway/nestway/sparql/FunctionTakesPinLaw.expected(II)Z
theorem d3_0 : decode method_3_code 0 = .ok (.iload_n 0, 1) := by decide +kernel
theorem d3_1 : decode method_3_code 1 = .ok (.ifCond .ne 14, 3) := by decide +kernel
theorem d3_4 : decode method_3_code 4 = .ok (.iload_n 1, 1) := by decide +kernel
theorem d3_5 : decode method_3_code 5 = .ok (.iconst 3, 1) := by decide +kernel
theorem d3_6 : decode method_3_code 6 = .ok (.if_icmp .ne 7, 3) := by decide +kernel
theorem d3_9 : decode method_3_code 9 = .ok (.iconst 1, 1) := by decide +kernel
theorem d3_10 : decode method_3_code 10 = .ok (.goto 4, 3) := by decide +kernel
theorem d3_13 : decode method_3_code 13 = .ok (.iconst 0, 1) := by decide +kernel
theorem d3_14 : decode method_3_code 14 = .ok (.ireturn, 1) := by decide +kernel
theorem d3_15 : decode method_3_code 15 = .ok (.iload_n 0, 1) := by decide +kernel
theorem d3_16 : decode method_3_code 16 = .ok (.iconst 1, 1) := by decide +kernel
theorem d3_17 : decode method_3_code 17 = .ok (.if_icmp .eq 9, 3) := by decide +kernel
theorem d3_20 : decode method_3_code 20 = .ok (.iload_n 0, 1) := by decide +kernel
theorem d3_21 : decode method_3_code 21 = .ok (.bipush 8, 2) := by decide +kernel
theorem d3_23 : decode method_3_code 23 = .ok (.if_icmp .ne 13, 3) := by decide +kernel
theorem d3_26 : decode method_3_code 26 = .ok (.iload_n 1, 1) := by decide +kernel
theorem d3_27 : decode method_3_code 27 = .ok (.ifCond .lt 7, 3) := by decide +kernel
theorem d3_30 : decode method_3_code 30 = .ok (.iconst 1, 1) := by decide +kernel
theorem d3_31 : decode method_3_code 31 = .ok (.goto 4, 3) := by decide +kernel
theorem d3_34 : decode method_3_code 34 = .ok (.iconst 0, 1) := by decide +kernel
theorem d3_35 : decode method_3_code 35 = .ok (.ireturn, 1) := by decide +kernel
theorem d3_36 : decode method_3_code 36 = .ok (.iload_n 0, 1) := by decide +kernel
theorem d3_37 : decode method_3_code 37 = .ok (.iconst 2, 1) := by decide +kernel
theorem d3_38 : decode method_3_code 38 = .ok (.if_icmp .eq 9, 3) := by decide +kernel
theorem d3_41 : decode method_3_code 41 = .ok (.iload_n 0, 1) := by decide +kernel
theorem d3_42 : decode method_3_code 42 = .ok (.bipush 11, 2) := by decide +kernel
theorem d3_44 : decode method_3_code 44 = .ok (.if_icmp .ne 14, 3) := by decide +kernel
theorem d3_47 : decode method_3_code 47 = .ok (.iload_n 1, 1) := by decide +kernel
theorem d3_48 : decode method_3_code 48 = .ok (.iconst 2, 1) := by decide +kernel
theorem d3_49 : decode method_3_code 49 = .ok (.if_icmp .ne 7, 3) := by decide +kernel
theorem d3_52 : decode method_3_code 52 = .ok (.iconst 1, 1) := by decide +kernel
theorem d3_53 : decode method_3_code 53 = .ok (.goto 4, 3) := by decide +kernel
theorem d3_56 : decode method_3_code 56 = .ok (.iconst 0, 1) := by decide +kernel
theorem d3_57 : decode method_3_code 57 = .ok (.ireturn, 1) := by decide +kernel
theorem d3_58 : decode method_3_code 58 = .ok (.iload_n 0, 1) := by decide +kernel
theorem d3_59 : decode method_3_code 59 = .ok (.iconst 3, 1) := by decide +kernel
theorem d3_60 : decode method_3_code 60 = .ok (.if_icmp .eq 21, 3) := by decide +kernel
theorem d3_63 : decode method_3_code 63 = .ok (.iload_n 0, 1) := by decide +kernel
theorem d3_64 : decode method_3_code 64 = .ok (.bipush 12, 2) := by decide +kernel
theorem d3_66 : decode method_3_code 66 = .ok (.if_icmp .eq 15, 3) := by decide +kernel
theorem d3_69 : decode method_3_code 69 = .ok (.iload_n 0, 1) := by decide +kernel
theorem d3_70 : decode method_3_code 70 = .ok (.bipush 13, 2) := by decide +kernel
theorem d3_72 : decode method_3_code 72 = .ok (.if_icmp .eq 9, 3) := by decide +kernel
theorem d3_75 : decode method_3_code 75 = .ok (.iload_n 0, 1) := by decide +kernel
theorem d3_76 : decode method_3_code 76 = .ok (.bipush 15, 2) := by decide +kernel
theorem d3_78 : decode method_3_code 78 = .ok (.if_icmp .ne 14, 3) := by decide +kernel
theorem d3_81 : decode method_3_code 81 = .ok (.iload_n 1, 1) := by decide +kernel
theorem d3_82 : decode method_3_code 82 = .ok (.iconst 1, 1) := by decide +kernel
theorem d3_83 : decode method_3_code 83 = .ok (.if_icmp .ne 7, 3) := by decide +kernel
theorem d3_86 : decode method_3_code 86 = .ok (.iconst 1, 1) := by decide +kernel
theorem d3_87 : decode method_3_code 87 = .ok (.goto 4, 3) := by decide +kernel
theorem d3_90 : decode method_3_code 90 = .ok (.iconst 0, 1) := by decide +kernel
theorem d3_91 : decode method_3_code 91 = .ok (.ireturn, 1) := by decide +kernel
theorem d3_92 : decode method_3_code 92 = .ok (.iload_n 0, 1) := by decide +kernel
theorem d3_93 : decode method_3_code 93 = .ok (.iconst 4, 1) := by decide +kernel
theorem d3_94 : decode method_3_code 94 = .ok (.if_icmp .ne 18, 3) := by decide +kernel
theorem d3_97 : decode method_3_code 97 = .ok (.iload_n 1, 1) := by decide +kernel
theorem d3_98 : decode method_3_code 98 = .ok (.ifCond .eq 8, 3) := by decide +kernel
theorem d3_101 : decode method_3_code 101 = .ok (.iload_n 1, 1) := by decide +kernel
theorem d3_102 : decode method_3_code 102 = .ok (.iconst 1, 1) := by decide +kernel
theorem d3_103 : decode method_3_code 103 = .ok (.if_icmp .ne 7, 3) := by decide +kernel
theorem d3_106 : decode method_3_code 106 = .ok (.iconst 1, 1) := by decide +kernel
theorem d3_107 : decode method_3_code 107 = .ok (.goto 4, 3) := by decide +kernel
theorem d3_110 : decode method_3_code 110 = .ok (.iconst 0, 1) := by decide +kernel
theorem d3_111 : decode method_3_code 111 = .ok (.ireturn, 1) := by decide +kernel
theorem d3_112 : decode method_3_code 112 = .ok (.iload_n 0, 1) := by decide +kernel
theorem d3_113 : decode method_3_code 113 = .ok (.iconst 5, 1) := by decide +kernel
theorem d3_114 : decode method_3_code 114 = .ok (.if_icmp .eq 9, 3) := by decide +kernel
theorem d3_117 : decode method_3_code 117 = .ok (.iload_n 0, 1) := by decide +kernel
theorem d3_118 : decode method_3_code 118 = .ok (.bipush 9, 2) := by decide +kernel
theorem d3_120 : decode method_3_code 120 = .ok (.if_icmp .ne 19, 3) := by decide +kernel
theorem d3_123 : decode method_3_code 123 = .ok (.iload_n 1, 1) := by decide +kernel
theorem d3_124 : decode method_3_code 124 = .ok (.iconst 2, 1) := by decide +kernel
theorem d3_125 : decode method_3_code 125 = .ok (.if_icmp .eq 8, 3) := by decide +kernel
theorem d3_128 : decode method_3_code 128 = .ok (.iload_n 1, 1) := by decide +kernel
theorem d3_129 : decode method_3_code 129 = .ok (.iconst 3, 1) := by decide +kernel
theorem d3_130 : decode method_3_code 130 = .ok (.if_icmp .ne 7, 3) := by decide +kernel
theorem d3_133 : decode method_3_code 133 = .ok (.iconst 1, 1) := by decide +kernel
theorem d3_134 : decode method_3_code 134 = .ok (.goto 4, 3) := by decide +kernel
theorem d3_137 : decode method_3_code 137 = .ok (.iconst 0, 1) := by decide +kernel
theorem d3_138 : decode method_3_code 138 = .ok (.ireturn, 1) := by decide +kernel
theorem d3_139 : decode method_3_code 139 = .ok (.iload_n 0, 1) := by decide +kernel
theorem d3_140 : decode method_3_code 140 = .ok (.bipush 6, 2) := by decide +kernel
theorem d3_142 : decode method_3_code 142 = .ok (.if_icmp .ne 19, 3) := by decide +kernel
theorem d3_145 : decode method_3_code 145 = .ok (.iload_n 1, 1) := by decide +kernel
theorem d3_146 : decode method_3_code 146 = .ok (.iconst 3, 1) := by decide +kernel
theorem d3_147 : decode method_3_code 147 = .ok (.if_icmp .eq 8, 3) := by decide +kernel
theorem d3_150 : decode method_3_code 150 = .ok (.iload_n 1, 1) := by decide +kernel
theorem d3_151 : decode method_3_code 151 = .ok (.iconst 4, 1) := by decide +kernel
theorem d3_152 : decode method_3_code 152 = .ok (.if_icmp .ne 7, 3) := by decide +kernel
theorem d3_155 : decode method_3_code 155 = .ok (.iconst 1, 1) := by decide +kernel
theorem d3_156 : decode method_3_code 156 = .ok (.goto 4, 3) := by decide +kernel
theorem d3_159 : decode method_3_code 159 = .ok (.iconst 0, 1) := by decide +kernel
theorem d3_160 : decode method_3_code 160 = .ok (.ireturn, 1) := by decide +kernel
theorem d3_161 : decode method_3_code 161 = .ok (.iload_n 1, 1) := by decide +kernel
theorem d3_162 : decode method_3_code 162 = .ok (.ifCond .ne 7, 3) := by decide +kernel
theorem d3_165 : decode method_3_code 165 = .ok (.iconst 1, 1) := by decide +kernel
theorem d3_166 : decode method_3_code 166 = .ok (.goto 4, 3) := by decide +kernel
theorem d3_169 : decode method_3_code 169 = .ok (.iconst 0, 1) := by decide +kernel
theorem d3_170 : decode method_3_code 170 = .ok (.ireturn, 1) := by decide +kernel
theorem pn_3 : plainName "com/example/nestway/nestway/sparql/FunctionTakesPinLaw" = true := by first | (simp [plainName, overriddenIn]; done) | decide +kernel
theorem ef_3 (m : MethodId) (p1 : Int32) (p2 : Int32) : entryFrame m #[(.int p1), (.int p2)] 2 = mkF m 0 #[.val (.int p1), .val (.int p2)] [] := by first | (simp [entryFrame, mkF, argsToLocals, Value.category]; done) | rfl
def f3 (p1 : Int32) (p2 : Int32) : Int32 := (if p1 = (0 : Int32) then (if p2 = (3 : Int32) then (1 : Int32) else (0 : Int32)) else (if p1 = (1 : Int32) then (if p2 < (0 : Int32) then (0 : Int32) else (1 : Int32)) else (if p1 = (8 : Int32) then (if p2 < (0 : Int32) then (0 : Int32) else (1 : Int32)) else (if p1 = (2 : Int32) then (if p2 = (2 : Int32) then (1 : Int32) else (0 : Int32)) else (if p1 = (11 : Int32) then (if p2 = (2 : Int32) then (1 : Int32) else (0 : Int32)) else (if p1 = (3 : Int32) then (if p2 = (1 : Int32) then (1 : Int32) else (0 : Int32)) else (if p1 = (12 : Int32) then (if p2 = (1 : Int32) then (1 : Int32) else (0 : Int32)) else (if p1 = (13 : Int32) then (if p2 = (1 : Int32) then (1 : Int32) else (0 : Int32)) else (if p1 = (15 : Int32) then (if p2 = (1 : Int32) then (1 : Int32) else (0 : Int32)) else (if p1 = (4 : Int32) then (if p2 = (0 : Int32) then (1 : Int32) else (if p2 = (1 : Int32) then (1 : Int32) else (0 : Int32))) else (if p1 = (5 : Int32) then (if p2 = (2 : Int32) then (1 : Int32) else (if p2 = (3 : Int32) then (1 : Int32) else (0 : Int32))) else (if p1 = (9 : Int32) then (if p2 = (2 : Int32) then (1 : Int32) else (if p2 = (3 : Int32) then (1 : Int32) else (0 : Int32))) else (if p1 = (6 : Int32) then (if p2 = (3 : Int32) then (1 : Int32) else (if p2 = (4 : Int32) then (1 : Int32) else (0 : Int32))) else (if p2 = (0 : Int32) then (1 : Int32) else (0 : Int32)))))))))))))))
def Q3 (Z : State) (p1 : Int32) (p2 : Int32) (h0 : Heap) (n0 : Nat) (v : Option Value) (h : Heap) (L : List Loc) : Prop := v = some (.int (f3 p1 p2)) ∧ Fr n0 L ∧ h = h0
set_option maxRecDepth 65536 in
set_option maxHeartbeats 40000000 in
theorem rm3 (l : Launch) (Z : State) (a0 : Array Value) (hw : ∀ d ∈ tables_1, d.before a0 Z = true) (ws : List Jvm.Cond) (p1 : Int32) (p2 : Int32) (h0 : Heap) (n0 : Nat) (Z0 : n0 ≤ h0.size) :
    MetFree l (⟨"com/example/nestway/nestway/sparql/FunctionTakesPinLaw", "expected", "(II)Z"⟩ : MethodName) (head1 (Jvm.Cond.code (⟨"com/example/nestway/nestway/sparql/FunctionTakesPinLaw", "expected", "(II)Z"⟩ : MethodName) method_3_code 2 (some .boolean) :: ws) ({ frames := 0, cells := 0, slots := 0, locals := 0 } : Room)) (fun a U => a = #[(.int p1), (.int p2)] ∧ Z.Warmed39 U.vm ∧ U.heap = h0) (fun _ _ _ _ _ => True) (fun _ U o U' => ∃ v L, o = .returned v ∧ Q3 Z p1 p2 h0 n0 v U'.heap L ∧ FrameEnd U o U' L ({ frames := 0, cells := 0, slots := 0, locals := 0 } : Room).cells ({ frames := 0, cells := 0, slots := 0, locals := 0 } : Room).slots) := by
  refine MetFree.of_bodySF (plainFor_of_name pn_3) hisR ?_
  intro p e s m args below meth c s₁ Bd hml0 hP hK
  obtain ⟨rfl, hZ, hh⟩ := hP
  have hx := Bd.exec
  have hby := Bd.bytes
  have hml : c.maxLocals = 2 := hml0
  have hown : s.vm.findClass "com/example/nestway/nestway/sparql/FunctionTakesPinLaw" = some m.cls := findClass_of_methodNamed Bd.named
  have hnm := (name_of_methodNamed Bd.named Bd.method).1
  have X0 : Stand p l e ({ frames := 0, cells := 0, slots := 0, locals := 0 } : Room) s m #[(.int p1), (.int p2)] below meth c s₁ [] 0 0 := Stand.of_body Bd
  have e0 : s₁.heap = h0 := by rw [← hh, Bd.state]; rfl
  have N0 := Fr.nil n0
  have pre0 : ∀ t, Steps p.tables e below (s₁.setTop (mkF m 0 #[.val (.int p1), .val (.int p2)] [])) t → Steps p.tables e below (s₁.setTop (entryFrame m #[(.int p1), (.int p2)] 2)) t := fun t k => castTop (ef_3 m p1 p2) k
  have K1 : ∀ t, Steps p.tables e below (s₁.setTop (mkF m 1 #[.val (.int p1), .val (.int p2)] [(.int p1)])) t → Steps p.tables e below (s₁.setTop (mkF m 0 #[.val (.int p1), .val (.int p2)] [])) t := by
    intro t k
    refine XS.iloadN X0.here hx rfl (Jvm.hb hby d3_0) rfl ?_
    show Steps p.tables e below (s₁.setTop (mkF m 1 #[.val (.int p1), .val (.int p2)] [(.int p1)])) t
    exact k
  by_cases hc2 : p1 = (0 : Int32)
  · have K3 : ∀ t, Steps p.tables e below (s₁.setTop (mkF m 4 #[.val (.int p1), .val (.int p2)] [])) t → Steps p.tables e below (s₁.setTop (mkF m 1 #[.val (.int p1), .val (.int p2)] [(.int p1)])) t := by
      intro t k
      refine XS.ifNo X0.here hx rfl (Jvm.hb hby d3_1) rfl ((if0 _ _).trans (teq hc2).2) ?_
      exact k
    have K4 : ∀ t, Steps p.tables e below (s₁.setTop (mkF m 6 #[.val (.int p1), .val (.int p2)] [(.int (3 : Int32)), (.int p2)])) t → Steps p.tables e below (s₁.setTop (mkF m 4 #[.val (.int p1), .val (.int p2)] [])) t := by
      intro t k
      refine XS.iloadN X0.here hx rfl (Jvm.hb hby d3_4) rfl ?_
      show Steps p.tables e below (s₁.setTop (mkF m 5 #[.val (.int p1), .val (.int p2)] [(.int p2)])) t
      refine XS.iconst X0.here hx rfl (Jvm.hb hby d3_5) ?_
      show Steps p.tables e below (s₁.setTop (mkF m 6 #[.val (.int p1), .val (.int p2)] [(.int (3 : Int32)), (.int p2)])) t
      exact k
    by_cases hc5 : p2 = (3 : Int32)
    · have K6 : ∀ t, Steps p.tables e below (s₁.setTop (mkF m 9 #[.val (.int p1), .val (.int p2)] [])) t → Steps p.tables e below (s₁.setTop (mkF m 6 #[.val (.int p1), .val (.int p2)] [(.int (3 : Int32)), (.int p2)])) t := by
        intro t k
        refine XS.icmpNo X0.here hx rfl (Jvm.hb hby d3_6) rfl (teq hc5).2 ?_
        exact k
      have K7 : ∀ t, Steps p.tables e below (s₁.setTop (mkF m 14 #[.val (.int p1), .val (.int p2)] [(.int (1 : Int32))])) t → Steps p.tables e below (s₁.setTop (mkF m 9 #[.val (.int p1), .val (.int p2)] [])) t := by
        intro t k
        refine XS.iconst X0.here hx rfl (Jvm.hb hby d3_9) ?_
        show Steps p.tables e below (s₁.setTop (mkF m 10 #[.val (.int p1), .val (.int p2)] [(.int (1 : Int32))])) t
        refine XS.goto X0.here hx rfl (pc0 := 10) (pc' := 14) rfl (Jvm.hb hby d3_10) (by decide) (by decide) ?_
        show Steps p.tables e below (s₁.setTop (mkF m 14 #[.val (.int p1), .val (.int p2)] [(.int (1 : Int32))])) t
        exact k
      obtain ⟨fs, hr, hrun, hended, hW, hsame⟩ := X0.leave (v := some (.int (1 : Int32))) (fun h => by rw [Bd.returns] at h; cases h) Bd.notSynchronized
      refine ⟨_, _, pre0 _ (K1 _ (K3 _ (K4 _ (K6 _ (K7 _ (retN X0 hx (t := .boolean) Bd.returns (by simp) (Jvm.hb hby d3_14) hr)))))), hrun, hended, _, _, rfl, ?_, ⟨_, rfl⟩, hW, hsame.mono (by decide) (by decide)⟩
      show Q3 Z p1 p2 h0 n0 _ s₁.heap _
      rw [e0]
      exact ⟨congrArg (fun z => some (Value.int z)) (show (1 : Int32) = f3 p1 p2 from Eq.symm ((if_pos hc2).trans (if_pos hc5))), N0, rfl⟩
    · have K8 : ∀ t, Steps p.tables e below (s₁.setTop (mkF m 13 #[.val (.int p1), .val (.int p2)] [])) t → Steps p.tables e below (s₁.setTop (mkF m 6 #[.val (.int p1), .val (.int p2)] [(.int (3 : Int32)), (.int p2)])) t := by
        intro t k
        refine XS.icmpYes X0.here hx rfl (pc0 := 6) (pc' := 13) rfl (Jvm.hb hby d3_6) rfl (feq hc5).2 (by decide) (by decide) ?_
        exact k
      have K9 : ∀ t, Steps p.tables e below (s₁.setTop (mkF m 14 #[.val (.int p1), .val (.int p2)] [(.int (0 : Int32))])) t → Steps p.tables e below (s₁.setTop (mkF m 13 #[.val (.int p1), .val (.int p2)] [])) t := by
        intro t k
        refine XS.iconst X0.here hx rfl (Jvm.hb hby d3_13) ?_
        show Steps p.tables e below (s₁.setTop (mkF m 14 #[.val (.int p1), .val (.int p2)] [(.int (0 : Int32))])) t
        exact k
      obtain ⟨fs, hr, hrun, hended, hW, hsame⟩ := X0.leave (v := some (.int (0 : Int32))) (fun h => by rw [Bd.returns] at h; cases h) Bd.notSynchronized
      refine ⟨_, _, pre0 _ (K1 _ (K3 _ (K4 _ (K8 _ (K9 _ (retN X0 hx (t := .boolean) Bd.returns (by simp) (Jvm.hb hby d3_14) hr)))))), hrun, hended, _, _, rfl, ?_, ⟨_, rfl⟩, hW, hsame.mono (by decide) (by decide)⟩
      show Q3 Z p1 p2 h0 n0 _ s₁.heap _
      rw [e0]
      exact ⟨congrArg (fun z => some (Value.int z)) (show (0 : Int32) = f3 p1 p2 from Eq.symm ((if_pos hc2).trans (if_neg hc5))), N0, rfl⟩
  · have K10 : ∀ t, Steps p.tables e below (s₁.setTop (mkF m 15 #[.val (.int p1), .val (.int p2)] [])) t → Steps p.tables e below (s₁.setTop (mkF m 1 #[.val (.int p1), .val (.int p2)] [(.int p1)])) t := by
      intro t k
      refine XS.ifYes X0.here hx rfl (pc0 := 1) (pc' := 15) rfl (Jvm.hb hby d3_1) rfl ((if0 _ _).trans (feq hc2).2) (by decide) (by decide) ?_
      exact k
    have K11 : ∀ t, Steps p.tables e below (s₁.setTop (mkF m 17 #[.val (.int p1), .val (.int p2)] [(.int (1 : Int32)), (.int p1)])) t → Steps p.tables e below (s₁.setTop (mkF m 15 #[.val (.int p1), .val (.int p2)] [])) t := by
      intro t k
      refine XS.iloadN X0.here hx rfl (Jvm.hb hby d3_15) rfl ?_
      show Steps p.tables e below (s₁.setTop (mkF m 16 #[.val (.int p1), .val (.int p2)] [(.int p1)])) t
      refine XS.iconst X0.here hx rfl (Jvm.hb hby d3_16) ?_
      show Steps p.tables e below (s₁.setTop (mkF m 17 #[.val (.int p1), .val (.int p2)] [(.int (1 : Int32)), (.int p1)])) t
      exact k
    by_cases hc12 : p1 = (1 : Int32)
    · have K13 : ∀ t, Steps p.tables e below (s₁.setTop (mkF m 26 #[.val (.int p1), .val (.int p2)] [])) t → Steps p.tables e below (s₁.setTop (mkF m 17 #[.val (.int p1), .val (.int p2)] [(.int (1 : Int32)), (.int p1)])) t := by
        intro t k
        refine XS.icmpYes X0.here hx rfl (pc0 := 17) (pc' := 26) rfl (Jvm.hb hby d3_17) rfl (teq hc12).1 (by decide) (by decide) ?_
        exact k
      have K14 : ∀ t, Steps p.tables e below (s₁.setTop (mkF m 27 #[.val (.int p1), .val (.int p2)] [(.int p2)])) t → Steps p.tables e below (s₁.setTop (mkF m 26 #[.val (.int p1), .val (.int p2)] [])) t := by
        intro t k
        refine XS.iloadN X0.here hx rfl (Jvm.hb hby d3_26) rfl ?_
        show Steps p.tables e below (s₁.setTop (mkF m 27 #[.val (.int p1), .val (.int p2)] [(.int p2)])) t
        exact k
      by_cases hc15 : p2 < (0 : Int32)
      · have K16 : ∀ t, Steps p.tables e below (s₁.setTop (mkF m 34 #[.val (.int p1), .val (.int p2)] [])) t → Steps p.tables e below (s₁.setTop (mkF m 27 #[.val (.int p1), .val (.int p2)] [(.int p2)])) t := by
          intro t k
          refine XS.ifYes X0.here hx rfl (pc0 := 27) (pc' := 34) rfl (Jvm.hb hby d3_27) rfl ((if0 _ _).trans (tlt hc15).1) (by decide) (by decide) ?_
          exact k
        have K17 : ∀ t, Steps p.tables e below (s₁.setTop (mkF m 35 #[.val (.int p1), .val (.int p2)] [(.int (0 : Int32))])) t → Steps p.tables e below (s₁.setTop (mkF m 34 #[.val (.int p1), .val (.int p2)] [])) t := by
          intro t k
          refine XS.iconst X0.here hx rfl (Jvm.hb hby d3_34) ?_
          show Steps p.tables e below (s₁.setTop (mkF m 35 #[.val (.int p1), .val (.int p2)] [(.int (0 : Int32))])) t
          exact k
        obtain ⟨fs, hr, hrun, hended, hW, hsame⟩ := X0.leave (v := some (.int (0 : Int32))) (fun h => by rw [Bd.returns] at h; cases h) Bd.notSynchronized
        refine ⟨_, _, pre0 _ (K1 _ (K10 _ (K11 _ (K13 _ (K14 _ (K16 _ (K17 _ (retN X0 hx (t := .boolean) Bd.returns (by simp) (Jvm.hb hby d3_35) hr)))))))), hrun, hended, _, _, rfl, ?_, ⟨_, rfl⟩, hW, hsame.mono (by decide) (by decide)⟩
        show Q3 Z p1 p2 h0 n0 _ s₁.heap _
        rw [e0]
        exact ⟨congrArg (fun z => some (Value.int z)) (show (0 : Int32) = f3 p1 p2 from Eq.symm ((if_neg hc2).trans ((if_pos hc12).trans (if_pos hc15)))), N0, rfl⟩
      · have K18 : ∀ t, Steps p.tables e below (s₁.setTop (mkF m 30 #[.val (.int p1), .val (.int p2)] [])) t → Steps p.tables e below (s₁.setTop (mkF m 27 #[.val (.int p1), .val (.int p2)] [(.int p2)])) t := by
          intro t k
          refine XS.ifNo X0.here hx rfl (Jvm.hb hby d3_27) rfl ((if0 _ _).trans (flt hc15).1) ?_
          exact k
        have K19 : ∀ t, Steps p.tables e below (s₁.setTop (mkF m 35 #[.val (.int p1), .val (.int p2)] [(.int (1 : Int32))])) t → Steps p.tables e below (s₁.setTop (mkF m 30 #[.val (.int p1), .val (.int p2)] [])) t := by
          intro t k
          refine XS.iconst X0.here hx rfl (Jvm.hb hby d3_30) ?_
          show Steps p.tables e below (s₁.setTop (mkF m 31 #[.val (.int p1), .val (.int p2)] [(.int (1 : Int32))])) t
          refine XS.goto X0.here hx rfl (pc0 := 31) (pc' := 35) rfl (Jvm.hb hby d3_31) (by decide) (by decide) ?_
          show Steps p.tables e below (s₁.setTop (mkF m 35 #[.val (.int p1), .val (.int p2)] [(.int (1 : Int32))])) t
          exact k
        obtain ⟨fs, hr, hrun, hended, hW, hsame⟩ := X0.leave (v := some (.int (1 : Int32))) (fun h => by rw [Bd.returns] at h; cases h) Bd.notSynchronized
        refine ⟨_, _, pre0 _ (K1 _ (K10 _ (K11 _ (K13 _ (K14 _ (K18 _ (K19 _ (retN X0 hx (t := .boolean) Bd.returns (by simp) (Jvm.hb hby d3_35) hr)))))))), hrun, hended, _, _, rfl, ?_, ⟨_, rfl⟩, hW, hsame.mono (by decide) (by decide)⟩
        show Q3 Z p1 p2 h0 n0 _ s₁.heap _
        rw [e0]
        exact ⟨congrArg (fun z => some (Value.int z)) (show (1 : Int32) = f3 p1 p2 from Eq.symm ((if_neg hc2).trans ((if_pos hc12).trans (if_neg hc15)))), N0, rfl⟩
    · have K20 : ∀ t, Steps p.tables e below (s₁.setTop (mkF m 20 #[.val (.int p1), .val (.int p2)] [])) t → Steps p.tables e below (s₁.setTop (mkF m 17 #[.val (.int p1), .val (.int p2)] [(.int (1 : Int32)), (.int p1)])) t := by
        intro t k
        refine XS.icmpNo X0.here hx rfl (Jvm.hb hby d3_17) rfl (feq hc12).1 ?_
        exact k
      have K21 : ∀ t, Steps p.tables e below (s₁.setTop (mkF m 23 #[.val (.int p1), .val (.int p2)] [(.int (8 : Int32)), (.int p1)])) t → Steps p.tables e below (s₁.setTop (mkF m 20 #[.val (.int p1), .val (.int p2)] [])) t := by
        intro t k
        refine XS.iloadN X0.here hx rfl (Jvm.hb hby d3_20) rfl ?_
        show Steps p.tables e below (s₁.setTop (mkF m 21 #[.val (.int p1), .val (.int p2)] [(.int p1)])) t
        refine XS.bipush X0.here hx rfl (Jvm.hb hby d3_21) ?_
        show Steps p.tables e below (s₁.setTop (mkF m 23 #[.val (.int p1), .val (.int p2)] [(.int (8 : Int32)), (.int p1)])) t
        exact k
      by_cases hc22 : p1 = (8 : Int32)
      · have K23 : ∀ t, Steps p.tables e below (s₁.setTop (mkF m 26 #[.val (.int p1), .val (.int p2)] [])) t → Steps p.tables e below (s₁.setTop (mkF m 23 #[.val (.int p1), .val (.int p2)] [(.int (8 : Int32)), (.int p1)])) t := by
          intro t k
          refine XS.icmpNo X0.here hx rfl (Jvm.hb hby d3_23) rfl (teq hc22).2 ?_
          exact k
        have K24 : ∀ t, Steps p.tables e below (s₁.setTop (mkF m 27 #[.val (.int p1), .val (.int p2)] [(.int p2)])) t → Steps p.tables e below (s₁.setTop (mkF m 26 #[.val (.int p1), .val (.int p2)] [])) t := by
          intro t k
          refine XS.iloadN X0.here hx rfl (Jvm.hb hby d3_26) rfl ?_
          show Steps p.tables e below (s₁.setTop (mkF m 27 #[.val (.int p1), .val (.int p2)] [(.int p2)])) t
          exact k
        by_cases hc25 : p2 < (0 : Int32)
        · have K26 : ∀ t, Steps p.tables e below (s₁.setTop (mkF m 34 #[.val (.int p1), .val (.int p2)] [])) t → Steps p.tables e below (s₁.setTop (mkF m 27 #[.val (.int p1), .val (.int p2)] [(.int p2)])) t := by
            intro t k
            refine XS.ifYes X0.here hx rfl (pc0 := 27) (pc' := 34) rfl (Jvm.hb hby d3_27) rfl ((if0 _ _).trans (tlt hc25).1) (by decide) (by decide) ?_
            exact k
          have K27 : ∀ t, Steps p.tables e below (s₁.setTop (mkF m 35 #[.val (.int p1), .val (.int p2)] [(.int (0 : Int32))])) t → Steps p.tables e below (s₁.setTop (mkF m 34 #[.val (.int p1), .val (.int p2)] [])) t := by
            intro t k
            refine XS.iconst X0.here hx rfl (Jvm.hb hby d3_34) ?_
            show Steps p.tables e below (s₁.setTop (mkF m 35 #[.val (.int p1), .val (.int p2)] [(.int (0 : Int32))])) t
            exact k
          obtain ⟨fs, hr, hrun, hended, hW, hsame⟩ := X0.leave (v := some (.int (0 : Int32))) (fun h => by rw [Bd.returns] at h; cases h) Bd.notSynchronized
          refine ⟨_, _, pre0 _ (K1 _ (K10 _ (K11 _ (K20 _ (K21 _ (K23 _ (K24 _ (K26 _ (K27 _ (retN X0 hx (t := .boolean) Bd.returns (by simp) (Jvm.hb hby d3_35) hr)))))))))), hrun, hended, _, _, rfl, ?_, ⟨_, rfl⟩, hW, hsame.mono (by decide) (by decide)⟩
          show Q3 Z p1 p2 h0 n0 _ s₁.heap _
          rw [e0]
          exact ⟨congrArg (fun z => some (Value.int z)) (show (0 : Int32) = f3 p1 p2 from Eq.symm ((if_neg hc2).trans ((if_neg hc12).trans ((if_pos hc22).trans (if_pos hc25))))), N0, rfl⟩
        · have K28 : ∀ t, Steps p.tables e below (s₁.setTop (mkF m 30 #[.val (.int p1), .val (.int p2)] [])) t → Steps p.tables e below (s₁.setTop (mkF m 27 #[.val (.int p1), .val (.int p2)] [(.int p2)])) t := by
            intro t k
            refine XS.ifNo X0.here hx rfl (Jvm.hb hby d3_27) rfl ((if0 _ _).trans (flt hc25).1) ?_
            exact k
          have K29 : ∀ t, Steps p.tables e below (s₁.setTop (mkF m 35 #[.val (.int p1), .val (.int p2)] [(.int (1 : Int32))])) t → Steps p.tables e below (s₁.setTop (mkF m 30 #[.val (.int p1), .val (.int p2)] [])) t := by
            intro t k
            refine XS.iconst X0.here hx rfl (Jvm.hb hby d3_30) ?_
            show Steps p.tables e below (s₁.setTop (mkF m 31 #[.val (.int p1), .val (.int p2)] [(.int (1 : Int32))])) t
            refine XS.goto X0.here hx rfl (pc0 := 31) (pc' := 35) rfl (Jvm.hb hby d3_31) (by decide) (by decide) ?_
            show Steps p.tables e below (s₁.setTop (mkF m 35 #[.val (.int p1), .val (.int p2)] [(.int (1 : Int32))])) t
            exact k
          obtain ⟨fs, hr, hrun, hended, hW, hsame⟩ := X0.leave (v := some (.int (1 : Int32))) (fun h => by rw [Bd.returns] at h; cases h) Bd.notSynchronized
          refine ⟨_, _, pre0 _ (K1 _ (K10 _ (K11 _ (K20 _ (K21 _ (K23 _ (K24 _ (K28 _ (K29 _ (retN X0 hx (t := .boolean) Bd.returns (by simp) (Jvm.hb hby d3_35) hr)))))))))), hrun, hended, _, _, rfl, ?_, ⟨_, rfl⟩, hW, hsame.mono (by decide) (by decide)⟩
          show Q3 Z p1 p2 h0 n0 _ s₁.heap _
          rw [e0]
          exact ⟨congrArg (fun z => some (Value.int z)) (show (1 : Int32) = f3 p1 p2 from Eq.symm ((if_neg hc2).trans ((if_neg hc12).trans ((if_pos hc22).trans (if_neg hc25))))), N0, rfl⟩
      · have K30 : ∀ t, Steps p.tables e below (s₁.setTop (mkF m 36 #[.val (.int p1), .val (.int p2)] [])) t → Steps p.tables e below (s₁.setTop (mkF m 23 #[.val (.int p1), .val (.int p2)] [(.int (8 : Int32)), (.int p1)])) t := by
          intro t k
          refine XS.icmpYes X0.here hx rfl (pc0 := 23) (pc' := 36) rfl (Jvm.hb hby d3_23) rfl (feq hc22).2 (by decide) (by decide) ?_
          exact k
        have K31 : ∀ t, Steps p.tables e below (s₁.setTop (mkF m 38 #[.val (.int p1), .val (.int p2)] [(.int (2 : Int32)), (.int p1)])) t → Steps p.tables e below (s₁.setTop (mkF m 36 #[.val (.int p1), .val (.int p2)] [])) t := by
          intro t k
          refine XS.iloadN X0.here hx rfl (Jvm.hb hby d3_36) rfl ?_
          show Steps p.tables e below (s₁.setTop (mkF m 37 #[.val (.int p1), .val (.int p2)] [(.int p1)])) t
          refine XS.iconst X0.here hx rfl (Jvm.hb hby d3_37) ?_
          show Steps p.tables e below (s₁.setTop (mkF m 38 #[.val (.int p1), .val (.int p2)] [(.int (2 : Int32)), (.int p1)])) t
          exact k
        by_cases hc32 : p1 = (2 : Int32)
        · have K33 : ∀ t, Steps p.tables e below (s₁.setTop (mkF m 47 #[.val (.int p1), .val (.int p2)] [])) t → Steps p.tables e below (s₁.setTop (mkF m 38 #[.val (.int p1), .val (.int p2)] [(.int (2 : Int32)), (.int p1)])) t := by
            intro t k
            refine XS.icmpYes X0.here hx rfl (pc0 := 38) (pc' := 47) rfl (Jvm.hb hby d3_38) rfl (teq hc32).1 (by decide) (by decide) ?_
            exact k
          have K34 : ∀ t, Steps p.tables e below (s₁.setTop (mkF m 49 #[.val (.int p1), .val (.int p2)] [(.int (2 : Int32)), (.int p2)])) t → Steps p.tables e below (s₁.setTop (mkF m 47 #[.val (.int p1), .val (.int p2)] [])) t := by
            intro t k
            refine XS.iloadN X0.here hx rfl (Jvm.hb hby d3_47) rfl ?_
            show Steps p.tables e below (s₁.setTop (mkF m 48 #[.val (.int p1), .val (.int p2)] [(.int p2)])) t
            refine XS.iconst X0.here hx rfl (Jvm.hb hby d3_48) ?_
            show Steps p.tables e below (s₁.setTop (mkF m 49 #[.val (.int p1), .val (.int p2)] [(.int (2 : Int32)), (.int p2)])) t
            exact k
          by_cases hc35 : p2 = (2 : Int32)
          · have K36 : ∀ t, Steps p.tables e below (s₁.setTop (mkF m 52 #[.val (.int p1), .val (.int p2)] [])) t → Steps p.tables e below (s₁.setTop (mkF m 49 #[.val (.int p1), .val (.int p2)] [(.int (2 : Int32)), (.int p2)])) t := by
              intro t k
              refine XS.icmpNo X0.here hx rfl (Jvm.hb hby d3_49) rfl (teq hc35).2 ?_
              exact k
            have K37 : ∀ t, Steps p.tables e below (s₁.setTop (mkF m 57 #[.val (.int p1), .val (.int p2)] [(.int (1 : Int32))])) t → Steps p.tables e below (s₁.setTop (mkF m 52 #[.val (.int p1), .val (.int p2)] [])) t := by
              intro t k
              refine XS.iconst X0.here hx rfl (Jvm.hb hby d3_52) ?_
              show Steps p.tables e below (s₁.setTop (mkF m 53 #[.val (.int p1), .val (.int p2)] [(.int (1 : Int32))])) t
              refine XS.goto X0.here hx rfl (pc0 := 53) (pc' := 57) rfl (Jvm.hb hby d3_53) (by decide) (by decide) ?_
              show Steps p.tables e below (s₁.setTop (mkF m 57 #[.val (.int p1), .val (.int p2)] [(.int (1 : Int32))])) t
              exact k
            obtain ⟨fs, hr, hrun, hended, hW, hsame⟩ := X0.leave (v := some (.int (1 : Int32))) (fun h => by rw [Bd.returns] at h; cases h) Bd.notSynchronized
            refine ⟨_, _, pre0 _ (K1 _ (K10 _ (K11 _ (K20 _ (K21 _ (K30 _ (K31 _ (K33 _ (K34 _ (K36 _ (K37 _ (retN X0 hx (t := .boolean) Bd.returns (by simp) (Jvm.hb hby d3_57) hr)))))))))))), hrun, hended, _, _, rfl, ?_, ⟨_, rfl⟩, hW, hsame.mono (by decide) (by decide)⟩
            show Q3 Z p1 p2 h0 n0 _ s₁.heap _
            rw [e0]
            exact ⟨congrArg (fun z => some (Value.int z)) (show (1 : Int32) = f3 p1 p2 from Eq.symm ((if_neg hc2).trans ((if_neg hc12).trans ((if_neg hc22).trans ((if_pos hc32).trans (if_pos hc35)))))), N0, rfl⟩
          · have K38 : ∀ t, Steps p.tables e below (s₁.setTop (mkF m 56 #[.val (.int p1), .val (.int p2)] [])) t → Steps p.tables e below (s₁.setTop (mkF m 49 #[.val (.int p1), .val (.int p2)] [(.int (2 : Int32)), (.int p2)])) t := by
              intro t k
              refine XS.icmpYes X0.here hx rfl (pc0 := 49) (pc' := 56) rfl (Jvm.hb hby d3_49) rfl (feq hc35).2 (by decide) (by decide) ?_
              exact k
            have K39 : ∀ t, Steps p.tables e below (s₁.setTop (mkF m 57 #[.val (.int p1), .val (.int p2)] [(.int (0 : Int32))])) t → Steps p.tables e below (s₁.setTop (mkF m 56 #[.val (.int p1), .val (.int p2)] [])) t := by
              intro t k
              refine XS.iconst X0.here hx rfl (Jvm.hb hby d3_56) ?_
              show Steps p.tables e below (s₁.setTop (mkF m 57 #[.val (.int p1), .val (.int p2)] [(.int (0 : Int32))])) t
              exact k
            obtain ⟨fs, hr, hrun, hended, hW, hsame⟩ := X0.leave (v := some (.int (0 : Int32))) (fun h => by rw [Bd.returns] at h; cases h) Bd.notSynchronized
            refine ⟨_, _, pre0 _ (K1 _ (K10 _ (K11 _ (K20 _ (K21 _ (K30 _ (K31 _ (K33 _ (K34 _ (K38 _ (K39 _ (retN X0 hx (t := .boolean) Bd.returns (by simp) (Jvm.hb hby d3_57) hr)))))))))))), hrun, hended, _, _, rfl, ?_, ⟨_, rfl⟩, hW, hsame.mono (by decide) (by decide)⟩
            show Q3 Z p1 p2 h0 n0 _ s₁.heap _
            rw [e0]
            exact ⟨congrArg (fun z => some (Value.int z)) (show (0 : Int32) = f3 p1 p2 from Eq.symm ((if_neg hc2).trans ((if_neg hc12).trans ((if_neg hc22).trans ((if_pos hc32).trans (if_neg hc35)))))), N0, rfl⟩
        · have K40 : ∀ t, Steps p.tables e below (s₁.setTop (mkF m 41 #[.val (.int p1), .val (.int p2)] [])) t → Steps p.tables e below (s₁.setTop (mkF m 38 #[.val (.int p1), .val (.int p2)] [(.int (2 : Int32)), (.int p1)])) t := by
            intro t k
            refine XS.icmpNo X0.here hx rfl (Jvm.hb hby d3_38) rfl (feq hc32).1 ?_
            exact k
          have K41 : ∀ t, Steps p.tables e below (s₁.setTop (mkF m 44 #[.val (.int p1), .val (.int p2)] [(.int (11 : Int32)), (.int p1)])) t → Steps p.tables e below (s₁.setTop (mkF m 41 #[.val (.int p1), .val (.int p2)] [])) t := by
            intro t k
            refine XS.iloadN X0.here hx rfl (Jvm.hb hby d3_41) rfl ?_
            show Steps p.tables e below (s₁.setTop (mkF m 42 #[.val (.int p1), .val (.int p2)] [(.int p1)])) t
            refine XS.bipush X0.here hx rfl (Jvm.hb hby d3_42) ?_
            show Steps p.tables e below (s₁.setTop (mkF m 44 #[.val (.int p1), .val (.int p2)] [(.int (11 : Int32)), (.int p1)])) t
            exact k
          by_cases hc42 : p1 = (11 : Int32)
          · have K43 : ∀ t, Steps p.tables e below (s₁.setTop (mkF m 47 #[.val (.int p1), .val (.int p2)] [])) t → Steps p.tables e below (s₁.setTop (mkF m 44 #[.val (.int p1), .val (.int p2)] [(.int (11 : Int32)), (.int p1)])) t := by
              intro t k
              refine XS.icmpNo X0.here hx rfl (Jvm.hb hby d3_44) rfl (teq hc42).2 ?_
              exact k
            have K44 : ∀ t, Steps p.tables e below (s₁.setTop (mkF m 49 #[.val (.int p1), .val (.int p2)] [(.int (2 : Int32)), (.int p2)])) t → Steps p.tables e below (s₁.setTop (mkF m 47 #[.val (.int p1), .val (.int p2)] [])) t := by
              intro t k
              refine XS.iloadN X0.here hx rfl (Jvm.hb hby d3_47) rfl ?_
              show Steps p.tables e below (s₁.setTop (mkF m 48 #[.val (.int p1), .val (.int p2)] [(.int p2)])) t
              refine XS.iconst X0.here hx rfl (Jvm.hb hby d3_48) ?_
              show Steps p.tables e below (s₁.setTop (mkF m 49 #[.val (.int p1), .val (.int p2)] [(.int (2 : Int32)), (.int p2)])) t
              exact k
            by_cases hc45 : p2 = (2 : Int32)
            · have K46 : ∀ t, Steps p.tables e below (s₁.setTop (mkF m 52 #[.val (.int p1), .val (.int p2)] [])) t → Steps p.tables e below (s₁.setTop (mkF m 49 #[.val (.int p1), .val (.int p2)] [(.int (2 : Int32)), (.int p2)])) t := by
                intro t k
                refine XS.icmpNo X0.here hx rfl (Jvm.hb hby d3_49) rfl (teq hc45).2 ?_
                exact k
              have K47 : ∀ t, Steps p.tables e below (s₁.setTop (mkF m 57 #[.val (.int p1), .val (.int p2)] [(.int (1 : Int32))])) t → Steps p.tables e below (s₁.setTop (mkF m 52 #[.val (.int p1), .val (.int p2)] [])) t := by
                intro t k
                refine XS.iconst X0.here hx rfl (Jvm.hb hby d3_52) ?_
                show Steps p.tables e below (s₁.setTop (mkF m 53 #[.val (.int p1), .val (.int p2)] [(.int (1 : Int32))])) t
                refine XS.goto X0.here hx rfl (pc0 := 53) (pc' := 57) rfl (Jvm.hb hby d3_53) (by decide) (by decide) ?_
                show Steps p.tables e below (s₁.setTop (mkF m 57 #[.val (.int p1), .val (.int p2)] [(.int (1 : Int32))])) t
                exact k
              obtain ⟨fs, hr, hrun, hended, hW, hsame⟩ := X0.leave (v := some (.int (1 : Int32))) (fun h => by rw [Bd.returns] at h; cases h) Bd.notSynchronized
              refine ⟨_, _, pre0 _ (K1 _ (K10 _ (K11 _ (K20 _ (K21 _ (K30 _ (K31 _ (K40 _ (K41 _ (K43 _ (K44 _ (K46 _ (K47 _ (retN X0 hx (t := .boolean) Bd.returns (by simp) (Jvm.hb hby d3_57) hr)))))))))))))), hrun, hended, _, _, rfl, ?_, ⟨_, rfl⟩, hW, hsame.mono (by decide) (by decide)⟩
              show Q3 Z p1 p2 h0 n0 _ s₁.heap _
              rw [e0]
              exact ⟨congrArg (fun z => some (Value.int z)) (show (1 : Int32) = f3 p1 p2 from Eq.symm ((if_neg hc2).trans ((if_neg hc12).trans ((if_neg hc22).trans ((if_neg hc32).trans ((if_pos hc42).trans (if_pos hc45))))))), N0, rfl⟩
            · have K48 : ∀ t, Steps p.tables e below (s₁.setTop (mkF m 56 #[.val (.int p1), .val (.int p2)] [])) t → Steps p.tables e below (s₁.setTop (mkF m 49 #[.val (.int p1), .val (.int p2)] [(.int (2 : Int32)), (.int p2)])) t := by
                intro t k
                refine XS.icmpYes X0.here hx rfl (pc0 := 49) (pc' := 56) rfl (Jvm.hb hby d3_49) rfl (feq hc45).2 (by decide) (by decide) ?_
                exact k
              have K49 : ∀ t, Steps p.tables e below (s₁.setTop (mkF m 57 #[.val (.int p1), .val (.int p2)] [(.int (0 : Int32))])) t → Steps p.tables e below (s₁.setTop (mkF m 56 #[.val (.int p1), .val (.int p2)] [])) t := by
                intro t k
                refine XS.iconst X0.here hx rfl (Jvm.hb hby d3_56) ?_
                show Steps p.tables e below (s₁.setTop (mkF m 57 #[.val (.int p1), .val (.int p2)] [(.int (0 : Int32))])) t
                exact k
              obtain ⟨fs, hr, hrun, hended, hW, hsame⟩ := X0.leave (v := some (.int (0 : Int32))) (fun h => by rw [Bd.returns] at h; cases h) Bd.notSynchronized
              refine ⟨_, _, pre0 _ (K1 _ (K10 _ (K11 _ (K20 _ (K21 _ (K30 _ (K31 _ (K40 _ (K41 _ (K43 _ (K44 _ (K48 _ (K49 _ (retN X0 hx (t := .boolean) Bd.returns (by simp) (Jvm.hb hby d3_57) hr)))))))))))))), hrun, hended, _, _, rfl, ?_, ⟨_, rfl⟩, hW, hsame.mono (by decide) (by decide)⟩
              show Q3 Z p1 p2 h0 n0 _ s₁.heap _
              rw [e0]
              exact ⟨congrArg (fun z => some (Value.int z)) (show (0 : Int32) = f3 p1 p2 from Eq.symm ((if_neg hc2).trans ((if_neg hc12).trans ((if_neg hc22).trans ((if_neg hc32).trans ((if_pos hc42).trans (if_neg hc45))))))), N0, rfl⟩
          · have K50 : ∀ t, Steps p.tables e below (s₁.setTop (mkF m 58 #[.val (.int p1), .val (.int p2)] [])) t → Steps p.tables e below (s₁.setTop (mkF m 44 #[.val (.int p1), .val (.int p2)] [(.int (11 : Int32)), (.int p1)])) t := by
              intro t k
              refine XS.icmpYes X0.here hx rfl (pc0 := 44) (pc' := 58) rfl (Jvm.hb hby d3_44) rfl (feq hc42).2 (by decide) (by decide) ?_
              exact k
            have K51 : ∀ t, Steps p.tables e below (s₁.setTop (mkF m 60 #[.val (.int p1), .val (.int p2)] [(.int (3 : Int32)), (.int p1)])) t → Steps p.tables e below (s₁.setTop (mkF m 58 #[.val (.int p1), .val (.int p2)] [])) t := by
              intro t k
              refine XS.iloadN X0.here hx rfl (Jvm.hb hby d3_58) rfl ?_
              show Steps p.tables e below (s₁.setTop (mkF m 59 #[.val (.int p1), .val (.int p2)] [(.int p1)])) t
              refine XS.iconst X0.here hx rfl (Jvm.hb hby d3_59) ?_
              show Steps p.tables e below (s₁.setTop (mkF m 60 #[.val (.int p1), .val (.int p2)] [(.int (3 : Int32)), (.int p1)])) t
              exact k
            by_cases hc52 : p1 = (3 : Int32)
            · have K53 : ∀ t, Steps p.tables e below (s₁.setTop (mkF m 81 #[.val (.int p1), .val (.int p2)] [])) t → Steps p.tables e below (s₁.setTop (mkF m 60 #[.val (.int p1), .val (.int p2)] [(.int (3 : Int32)), (.int p1)])) t := by
                intro t k
                refine XS.icmpYes X0.here hx rfl (pc0 := 60) (pc' := 81) rfl (Jvm.hb hby d3_60) rfl (teq hc52).1 (by decide) (by decide) ?_
                exact k
              have K54 : ∀ t, Steps p.tables e below (s₁.setTop (mkF m 83 #[.val (.int p1), .val (.int p2)] [(.int (1 : Int32)), (.int p2)])) t → Steps p.tables e below (s₁.setTop (mkF m 81 #[.val (.int p1), .val (.int p2)] [])) t := by
                intro t k
                refine XS.iloadN X0.here hx rfl (Jvm.hb hby d3_81) rfl ?_
                show Steps p.tables e below (s₁.setTop (mkF m 82 #[.val (.int p1), .val (.int p2)] [(.int p2)])) t
                refine XS.iconst X0.here hx rfl (Jvm.hb hby d3_82) ?_
                show Steps p.tables e below (s₁.setTop (mkF m 83 #[.val (.int p1), .val (.int p2)] [(.int (1 : Int32)), (.int p2)])) t
                exact k
              by_cases hc55 : p2 = (1 : Int32)
              · have K56 : ∀ t, Steps p.tables e below (s₁.setTop (mkF m 86 #[.val (.int p1), .val (.int p2)] [])) t → Steps p.tables e below (s₁.setTop (mkF m 83 #[.val (.int p1), .val (.int p2)] [(.int (1 : Int32)), (.int p2)])) t := by
                  intro t k
                  refine XS.icmpNo X0.here hx rfl (Jvm.hb hby d3_83) rfl (teq hc55).2 ?_
                  exact k
                have K57 : ∀ t, Steps p.tables e below (s₁.setTop (mkF m 91 #[.val (.int p1), .val (.int p2)] [(.int (1 : Int32))])) t → Steps p.tables e below (s₁.setTop (mkF m 86 #[.val (.int p1), .val (.int p2)] [])) t := by
                  intro t k
                  refine XS.iconst X0.here hx rfl (Jvm.hb hby d3_86) ?_
                  show Steps p.tables e below (s₁.setTop (mkF m 87 #[.val (.int p1), .val (.int p2)] [(.int (1 : Int32))])) t
                  refine XS.goto X0.here hx rfl (pc0 := 87) (pc' := 91) rfl (Jvm.hb hby d3_87) (by decide) (by decide) ?_
                  show Steps p.tables e below (s₁.setTop (mkF m 91 #[.val (.int p1), .val (.int p2)] [(.int (1 : Int32))])) t
                  exact k
                obtain ⟨fs, hr, hrun, hended, hW, hsame⟩ := X0.leave (v := some (.int (1 : Int32))) (fun h => by rw [Bd.returns] at h; cases h) Bd.notSynchronized
                refine ⟨_, _, pre0 _ (K1 _ (K10 _ (K11 _ (K20 _ (K21 _ (K30 _ (K31 _ (K40 _ (K41 _ (K50 _ (K51 _ (K53 _ (K54 _ (K56 _ (K57 _ (retN X0 hx (t := .boolean) Bd.returns (by simp) (Jvm.hb hby d3_91) hr)))))))))))))))), hrun, hended, _, _, rfl, ?_, ⟨_, rfl⟩, hW, hsame.mono (by decide) (by decide)⟩
                show Q3 Z p1 p2 h0 n0 _ s₁.heap _
                rw [e0]
                exact ⟨congrArg (fun z => some (Value.int z)) (show (1 : Int32) = f3 p1 p2 from Eq.symm ((if_neg hc2).trans ((if_neg hc12).trans ((if_neg hc22).trans ((if_neg hc32).trans ((if_neg hc42).trans ((if_pos hc52).trans (if_pos hc55)))))))), N0, rfl⟩
              · have K58 : ∀ t, Steps p.tables e below (s₁.setTop (mkF m 90 #[.val (.int p1), .val (.int p2)] [])) t → Steps p.tables e below (s₁.setTop (mkF m 83 #[.val (.int p1), .val (.int p2)] [(.int (1 : Int32)), (.int p2)])) t := by
                  intro t k
                  refine XS.icmpYes X0.here hx rfl (pc0 := 83) (pc' := 90) rfl (Jvm.hb hby d3_83) rfl (feq hc55).2 (by decide) (by decide) ?_
                  exact k
                have K59 : ∀ t, Steps p.tables e below (s₁.setTop (mkF m 91 #[.val (.int p1), .val (.int p2)] [(.int (0 : Int32))])) t → Steps p.tables e below (s₁.setTop (mkF m 90 #[.val (.int p1), .val (.int p2)] [])) t := by
                  intro t k
                  refine XS.iconst X0.here hx rfl (Jvm.hb hby d3_90) ?_
                  show Steps p.tables e below (s₁.setTop (mkF m 91 #[.val (.int p1), .val (.int p2)] [(.int (0 : Int32))])) t
                  exact k
                obtain ⟨fs, hr, hrun, hended, hW, hsame⟩ := X0.leave (v := some (.int (0 : Int32))) (fun h => by rw [Bd.returns] at h; cases h) Bd.notSynchronized
                refine ⟨_, _, pre0 _ (K1 _ (K10 _ (K11 _ (K20 _ (K21 _ (K30 _ (K31 _ (K40 _ (K41 _ (K50 _ (K51 _ (K53 _ (K54 _ (K58 _ (K59 _ (retN X0 hx (t := .boolean) Bd.returns (by simp) (Jvm.hb hby d3_91) hr)))))))))))))))), hrun, hended, _, _, rfl, ?_, ⟨_, rfl⟩, hW, hsame.mono (by decide) (by decide)⟩
                show Q3 Z p1 p2 h0 n0 _ s₁.heap _
                rw [e0]
                exact ⟨congrArg (fun z => some (Value.int z)) (show (0 : Int32) = f3 p1 p2 from Eq.symm ((if_neg hc2).trans ((if_neg hc12).trans ((if_neg hc22).trans ((if_neg hc32).trans ((if_neg hc42).trans ((if_pos hc52).trans (if_neg hc55)))))))), N0, rfl⟩
            · have K60 : ∀ t, Steps p.tables e below (s₁.setTop (mkF m 63 #[.val (.int p1), .val (.int p2)] [])) t → Steps p.tables e below (s₁.setTop (mkF m 60 #[.val (.int p1), .val (.int p2)] [(.int (3 : Int32)), (.int p1)])) t := by
                intro t k
                refine XS.icmpNo X0.here hx rfl (Jvm.hb hby d3_60) rfl (feq hc52).1 ?_
                exact k
              have K61 : ∀ t, Steps p.tables e below (s₁.setTop (mkF m 66 #[.val (.int p1), .val (.int p2)] [(.int (12 : Int32)), (.int p1)])) t → Steps p.tables e below (s₁.setTop (mkF m 63 #[.val (.int p1), .val (.int p2)] [])) t := by
                intro t k
                refine XS.iloadN X0.here hx rfl (Jvm.hb hby d3_63) rfl ?_
                show Steps p.tables e below (s₁.setTop (mkF m 64 #[.val (.int p1), .val (.int p2)] [(.int p1)])) t
                refine XS.bipush X0.here hx rfl (Jvm.hb hby d3_64) ?_
                show Steps p.tables e below (s₁.setTop (mkF m 66 #[.val (.int p1), .val (.int p2)] [(.int (12 : Int32)), (.int p1)])) t
                exact k
              by_cases hc62 : p1 = (12 : Int32)
              · have K63 : ∀ t, Steps p.tables e below (s₁.setTop (mkF m 81 #[.val (.int p1), .val (.int p2)] [])) t → Steps p.tables e below (s₁.setTop (mkF m 66 #[.val (.int p1), .val (.int p2)] [(.int (12 : Int32)), (.int p1)])) t := by
                  intro t k
                  refine XS.icmpYes X0.here hx rfl (pc0 := 66) (pc' := 81) rfl (Jvm.hb hby d3_66) rfl (teq hc62).1 (by decide) (by decide) ?_
                  exact k
                have K64 : ∀ t, Steps p.tables e below (s₁.setTop (mkF m 83 #[.val (.int p1), .val (.int p2)] [(.int (1 : Int32)), (.int p2)])) t → Steps p.tables e below (s₁.setTop (mkF m 81 #[.val (.int p1), .val (.int p2)] [])) t := by
                  intro t k
                  refine XS.iloadN X0.here hx rfl (Jvm.hb hby d3_81) rfl ?_
                  show Steps p.tables e below (s₁.setTop (mkF m 82 #[.val (.int p1), .val (.int p2)] [(.int p2)])) t
                  refine XS.iconst X0.here hx rfl (Jvm.hb hby d3_82) ?_
                  show Steps p.tables e below (s₁.setTop (mkF m 83 #[.val (.int p1), .val (.int p2)] [(.int (1 : Int32)), (.int p2)])) t
                  exact k
                by_cases hc65 : p2 = (1 : Int32)
                · have K66 : ∀ t, Steps p.tables e below (s₁.setTop (mkF m 86 #[.val (.int p1), .val (.int p2)] [])) t → Steps p.tables e below (s₁.setTop (mkF m 83 #[.val (.int p1), .val (.int p2)] [(.int (1 : Int32)), (.int p2)])) t := by
                    intro t k
                    refine XS.icmpNo X0.here hx rfl (Jvm.hb hby d3_83) rfl (teq hc65).2 ?_
                    exact k
                  have K67 : ∀ t, Steps p.tables e below (s₁.setTop (mkF m 91 #[.val (.int p1), .val (.int p2)] [(.int (1 : Int32))])) t → Steps p.tables e below (s₁.setTop (mkF m 86 #[.val (.int p1), .val (.int p2)] [])) t := by
                    intro t k
                    refine XS.iconst X0.here hx rfl (Jvm.hb hby d3_86) ?_
                    show Steps p.tables e below (s₁.setTop (mkF m 87 #[.val (.int p1), .val (.int p2)] [(.int (1 : Int32))])) t
                    refine XS.goto X0.here hx rfl (pc0 := 87) (pc' := 91) rfl (Jvm.hb hby d3_87) (by decide) (by decide) ?_
                    show Steps p.tables e below (s₁.setTop (mkF m 91 #[.val (.int p1), .val (.int p2)] [(.int (1 : Int32))])) t
                    exact k
                  obtain ⟨fs, hr, hrun, hended, hW, hsame⟩ := X0.leave (v := some (.int (1 : Int32))) (fun h => by rw [Bd.returns] at h; cases h) Bd.notSynchronized
                  refine ⟨_, _, pre0 _ (K1 _ (K10 _ (K11 _ (K20 _ (K21 _ (K30 _ (K31 _ (K40 _ (K41 _ (K50 _ (K51 _ (K60 _ (K61 _ (K63 _ (K64 _ (K66 _ (K67 _ (retN X0 hx (t := .boolean) Bd.returns (by simp) (Jvm.hb hby d3_91) hr)))))))))))))))))), hrun, hended, _, _, rfl, ?_, ⟨_, rfl⟩, hW, hsame.mono (by decide) (by decide)⟩
                  show Q3 Z p1 p2 h0 n0 _ s₁.heap _
                  rw [e0]
                  exact ⟨congrArg (fun z => some (Value.int z)) (show (1 : Int32) = f3 p1 p2 from Eq.symm ((if_neg hc2).trans ((if_neg hc12).trans ((if_neg hc22).trans ((if_neg hc32).trans ((if_neg hc42).trans ((if_neg hc52).trans ((if_pos hc62).trans (if_pos hc65))))))))), N0, rfl⟩
                · have K68 : ∀ t, Steps p.tables e below (s₁.setTop (mkF m 90 #[.val (.int p1), .val (.int p2)] [])) t → Steps p.tables e below (s₁.setTop (mkF m 83 #[.val (.int p1), .val (.int p2)] [(.int (1 : Int32)), (.int p2)])) t := by
                    intro t k
                    refine XS.icmpYes X0.here hx rfl (pc0 := 83) (pc' := 90) rfl (Jvm.hb hby d3_83) rfl (feq hc65).2 (by decide) (by decide) ?_
                    exact k
                  have K69 : ∀ t, Steps p.tables e below (s₁.setTop (mkF m 91 #[.val (.int p1), .val (.int p2)] [(.int (0 : Int32))])) t → Steps p.tables e below (s₁.setTop (mkF m 90 #[.val (.int p1), .val (.int p2)] [])) t := by
                    intro t k
                    refine XS.iconst X0.here hx rfl (Jvm.hb hby d3_90) ?_
                    show Steps p.tables e below (s₁.setTop (mkF m 91 #[.val (.int p1), .val (.int p2)] [(.int (0 : Int32))])) t
                    exact k
                  obtain ⟨fs, hr, hrun, hended, hW, hsame⟩ := X0.leave (v := some (.int (0 : Int32))) (fun h => by rw [Bd.returns] at h; cases h) Bd.notSynchronized
                  refine ⟨_, _, pre0 _ (K1 _ (K10 _ (K11 _ (K20 _ (K21 _ (K30 _ (K31 _ (K40 _ (K41 _ (K50 _ (K51 _ (K60 _ (K61 _ (K63 _ (K64 _ (K68 _ (K69 _ (retN X0 hx (t := .boolean) Bd.returns (by simp) (Jvm.hb hby d3_91) hr)))))))))))))))))), hrun, hended, _, _, rfl, ?_, ⟨_, rfl⟩, hW, hsame.mono (by decide) (by decide)⟩
                  show Q3 Z p1 p2 h0 n0 _ s₁.heap _
                  rw [e0]
                  exact ⟨congrArg (fun z => some (Value.int z)) (show (0 : Int32) = f3 p1 p2 from Eq.symm ((if_neg hc2).trans ((if_neg hc12).trans ((if_neg hc22).trans ((if_neg hc32).trans ((if_neg hc42).trans ((if_neg hc52).trans ((if_pos hc62).trans (if_neg hc65))))))))), N0, rfl⟩
              · have K70 : ∀ t, Steps p.tables e below (s₁.setTop (mkF m 69 #[.val (.int p1), .val (.int p2)] [])) t → Steps p.tables e below (s₁.setTop (mkF m 66 #[.val (.int p1), .val (.int p2)] [(.int (12 : Int32)), (.int p1)])) t := by
                  intro t k
                  refine XS.icmpNo X0.here hx rfl (Jvm.hb hby d3_66) rfl (feq hc62).1 ?_
                  exact k
                have K71 : ∀ t, Steps p.tables e below (s₁.setTop (mkF m 72 #[.val (.int p1), .val (.int p2)] [(.int (13 : Int32)), (.int p1)])) t → Steps p.tables e below (s₁.setTop (mkF m 69 #[.val (.int p1), .val (.int p2)] [])) t := by
                  intro t k
                  refine XS.iloadN X0.here hx rfl (Jvm.hb hby d3_69) rfl ?_
                  show Steps p.tables e below (s₁.setTop (mkF m 70 #[.val (.int p1), .val (.int p2)] [(.int p1)])) t
                  refine XS.bipush X0.here hx rfl (Jvm.hb hby d3_70) ?_
                  show Steps p.tables e below (s₁.setTop (mkF m 72 #[.val (.int p1), .val (.int p2)] [(.int (13 : Int32)), (.int p1)])) t
                  exact k
                by_cases hc72 : p1 = (13 : Int32)
                · have K73 : ∀ t, Steps p.tables e below (s₁.setTop (mkF m 81 #[.val (.int p1), .val (.int p2)] [])) t → Steps p.tables e below (s₁.setTop (mkF m 72 #[.val (.int p1), .val (.int p2)] [(.int (13 : Int32)), (.int p1)])) t := by
                    intro t k
                    refine XS.icmpYes X0.here hx rfl (pc0 := 72) (pc' := 81) rfl (Jvm.hb hby d3_72) rfl (teq hc72).1 (by decide) (by decide) ?_
                    exact k
                  have K74 : ∀ t, Steps p.tables e below (s₁.setTop (mkF m 83 #[.val (.int p1), .val (.int p2)] [(.int (1 : Int32)), (.int p2)])) t → Steps p.tables e below (s₁.setTop (mkF m 81 #[.val (.int p1), .val (.int p2)] [])) t := by
                    intro t k
                    refine XS.iloadN X0.here hx rfl (Jvm.hb hby d3_81) rfl ?_
                    show Steps p.tables e below (s₁.setTop (mkF m 82 #[.val (.int p1), .val (.int p2)] [(.int p2)])) t
                    refine XS.iconst X0.here hx rfl (Jvm.hb hby d3_82) ?_
                    show Steps p.tables e below (s₁.setTop (mkF m 83 #[.val (.int p1), .val (.int p2)] [(.int (1 : Int32)), (.int p2)])) t
                    exact k
                  by_cases hc75 : p2 = (1 : Int32)
                  · have K76 : ∀ t, Steps p.tables e below (s₁.setTop (mkF m 86 #[.val (.int p1), .val (.int p2)] [])) t → Steps p.tables e below (s₁.setTop (mkF m 83 #[.val (.int p1), .val (.int p2)] [(.int (1 : Int32)), (.int p2)])) t := by
                      intro t k
                      refine XS.icmpNo X0.here hx rfl (Jvm.hb hby d3_83) rfl (teq hc75).2 ?_
                      exact k
                    have K77 : ∀ t, Steps p.tables e below (s₁.setTop (mkF m 91 #[.val (.int p1), .val (.int p2)] [(.int (1 : Int32))])) t → Steps p.tables e below (s₁.setTop (mkF m 86 #[.val (.int p1), .val (.int p2)] [])) t := by
                      intro t k
                      refine XS.iconst X0.here hx rfl (Jvm.hb hby d3_86) ?_
                      show Steps p.tables e below (s₁.setTop (mkF m 87 #[.val (.int p1), .val (.int p2)] [(.int (1 : Int32))])) t
                      refine XS.goto X0.here hx rfl (pc0 := 87) (pc' := 91) rfl (Jvm.hb hby d3_87) (by decide) (by decide) ?_
                      show Steps p.tables e below (s₁.setTop (mkF m 91 #[.val (.int p1), .val (.int p2)] [(.int (1 : Int32))])) t
                      exact k
                    obtain ⟨fs, hr, hrun, hended, hW, hsame⟩ := X0.leave (v := some (.int (1 : Int32))) (fun h => by rw [Bd.returns] at h; cases h) Bd.notSynchronized
                    refine ⟨_, _, pre0 _ (K1 _ (K10 _ (K11 _ (K20 _ (K21 _ (K30 _ (K31 _ (K40 _ (K41 _ (K50 _ (K51 _ (K60 _ (K61 _ (K70 _ (K71 _ (K73 _ (K74 _ (K76 _ (K77 _ (retN X0 hx (t := .boolean) Bd.returns (by simp) (Jvm.hb hby d3_91) hr)))))))))))))))))))), hrun, hended, _, _, rfl, ?_, ⟨_, rfl⟩, hW, hsame.mono (by decide) (by decide)⟩
                    show Q3 Z p1 p2 h0 n0 _ s₁.heap _
                    rw [e0]
                    exact ⟨congrArg (fun z => some (Value.int z)) (show (1 : Int32) = f3 p1 p2 from Eq.symm ((if_neg hc2).trans ((if_neg hc12).trans ((if_neg hc22).trans ((if_neg hc32).trans ((if_neg hc42).trans ((if_neg hc52).trans ((if_neg hc62).trans ((if_pos hc72).trans (if_pos hc75)))))))))), N0, rfl⟩
                  · have K78 : ∀ t, Steps p.tables e below (s₁.setTop (mkF m 90 #[.val (.int p1), .val (.int p2)] [])) t → Steps p.tables e below (s₁.setTop (mkF m 83 #[.val (.int p1), .val (.int p2)] [(.int (1 : Int32)), (.int p2)])) t := by
                      intro t k
                      refine XS.icmpYes X0.here hx rfl (pc0 := 83) (pc' := 90) rfl (Jvm.hb hby d3_83) rfl (feq hc75).2 (by decide) (by decide) ?_
                      exact k
                    have K79 : ∀ t, Steps p.tables e below (s₁.setTop (mkF m 91 #[.val (.int p1), .val (.int p2)] [(.int (0 : Int32))])) t → Steps p.tables e below (s₁.setTop (mkF m 90 #[.val (.int p1), .val (.int p2)] [])) t := by
                      intro t k
                      refine XS.iconst X0.here hx rfl (Jvm.hb hby d3_90) ?_
                      show Steps p.tables e below (s₁.setTop (mkF m 91 #[.val (.int p1), .val (.int p2)] [(.int (0 : Int32))])) t
                      exact k
                    obtain ⟨fs, hr, hrun, hended, hW, hsame⟩ := X0.leave (v := some (.int (0 : Int32))) (fun h => by rw [Bd.returns] at h; cases h) Bd.notSynchronized
                    refine ⟨_, _, pre0 _ (K1 _ (K10 _ (K11 _ (K20 _ (K21 _ (K30 _ (K31 _ (K40 _ (K41 _ (K50 _ (K51 _ (K60 _ (K61 _ (K70 _ (K71 _ (K73 _ (K74 _ (K78 _ (K79 _ (retN X0 hx (t := .boolean) Bd.returns (by simp) (Jvm.hb hby d3_91) hr)))))))))))))))))))), hrun, hended, _, _, rfl, ?_, ⟨_, rfl⟩, hW, hsame.mono (by decide) (by decide)⟩
                    show Q3 Z p1 p2 h0 n0 _ s₁.heap _
                    rw [e0]
                    exact ⟨congrArg (fun z => some (Value.int z)) (show (0 : Int32) = f3 p1 p2 from Eq.symm ((if_neg hc2).trans ((if_neg hc12).trans ((if_neg hc22).trans ((if_neg hc32).trans ((if_neg hc42).trans ((if_neg hc52).trans ((if_neg hc62).trans ((if_pos hc72).trans (if_neg hc75)))))))))), N0, rfl⟩
                · have K80 : ∀ t, Steps p.tables e below (s₁.setTop (mkF m 75 #[.val (.int p1), .val (.int p2)] [])) t → Steps p.tables e below (s₁.setTop (mkF m 72 #[.val (.int p1), .val (.int p2)] [(.int (13 : Int32)), (.int p1)])) t := by
                    intro t k
                    refine XS.icmpNo X0.here hx rfl (Jvm.hb hby d3_72) rfl (feq hc72).1 ?_
                    exact k
                  have K81 : ∀ t, Steps p.tables e below (s₁.setTop (mkF m 78 #[.val (.int p1), .val (.int p2)] [(.int (15 : Int32)), (.int p1)])) t → Steps p.tables e below (s₁.setTop (mkF m 75 #[.val (.int p1), .val (.int p2)] [])) t := by
                    intro t k
                    refine XS.iloadN X0.here hx rfl (Jvm.hb hby d3_75) rfl ?_
                    show Steps p.tables e below (s₁.setTop (mkF m 76 #[.val (.int p1), .val (.int p2)] [(.int p1)])) t
                    refine XS.bipush X0.here hx rfl (Jvm.hb hby d3_76) ?_
                    show Steps p.tables e below (s₁.setTop (mkF m 78 #[.val (.int p1), .val (.int p2)] [(.int (15 : Int32)), (.int p1)])) t
                    exact k
                  by_cases hc82 : p1 = (15 : Int32)
                  · have K83 : ∀ t, Steps p.tables e below (s₁.setTop (mkF m 81 #[.val (.int p1), .val (.int p2)] [])) t → Steps p.tables e below (s₁.setTop (mkF m 78 #[.val (.int p1), .val (.int p2)] [(.int (15 : Int32)), (.int p1)])) t := by
                      intro t k
                      refine XS.icmpNo X0.here hx rfl (Jvm.hb hby d3_78) rfl (teq hc82).2 ?_
                      exact k
                    have K84 : ∀ t, Steps p.tables e below (s₁.setTop (mkF m 83 #[.val (.int p1), .val (.int p2)] [(.int (1 : Int32)), (.int p2)])) t → Steps p.tables e below (s₁.setTop (mkF m 81 #[.val (.int p1), .val (.int p2)] [])) t := by
                      intro t k
                      refine XS.iloadN X0.here hx rfl (Jvm.hb hby d3_81) rfl ?_
                      show Steps p.tables e below (s₁.setTop (mkF m 82 #[.val (.int p1), .val (.int p2)] [(.int p2)])) t
                      refine XS.iconst X0.here hx rfl (Jvm.hb hby d3_82) ?_
                      show Steps p.tables e below (s₁.setTop (mkF m 83 #[.val (.int p1), .val (.int p2)] [(.int (1 : Int32)), (.int p2)])) t
                      exact k
                    by_cases hc85 : p2 = (1 : Int32)
                    · have K86 : ∀ t, Steps p.tables e below (s₁.setTop (mkF m 86 #[.val (.int p1), .val (.int p2)] [])) t → Steps p.tables e below (s₁.setTop (mkF m 83 #[.val (.int p1), .val (.int p2)] [(.int (1 : Int32)), (.int p2)])) t := by
                        intro t k
                        refine XS.icmpNo X0.here hx rfl (Jvm.hb hby d3_83) rfl (teq hc85).2 ?_
                        exact k
                      have K87 : ∀ t, Steps p.tables e below (s₁.setTop (mkF m 91 #[.val (.int p1), .val (.int p2)] [(.int (1 : Int32))])) t → Steps p.tables e below (s₁.setTop (mkF m 86 #[.val (.int p1), .val (.int p2)] [])) t := by
                        intro t k
                        refine XS.iconst X0.here hx rfl (Jvm.hb hby d3_86) ?_
                        show Steps p.tables e below (s₁.setTop (mkF m 87 #[.val (.int p1), .val (.int p2)] [(.int (1 : Int32))])) t
                        refine XS.goto X0.here hx rfl (pc0 := 87) (pc' := 91) rfl (Jvm.hb hby d3_87) (by decide) (by decide) ?_
                        show Steps p.tables e below (s₁.setTop (mkF m 91 #[.val (.int p1), .val (.int p2)] [(.int (1 : Int32))])) t
                        exact k
                      obtain ⟨fs, hr, hrun, hended, hW, hsame⟩ := X0.leave (v := some (.int (1 : Int32))) (fun h => by rw [Bd.returns] at h; cases h) Bd.notSynchronized
                      refine ⟨_, _, pre0 _ (K1 _ (K10 _ (K11 _ (K20 _ (K21 _ (K30 _ (K31 _ (K40 _ (K41 _ (K50 _ (K51 _ (K60 _ (K61 _ (K70 _ (K71 _ (K80 _ (K81 _ (K83 _ (K84 _ (K86 _ (K87 _ (retN X0 hx (t := .boolean) Bd.returns (by simp) (Jvm.hb hby d3_91) hr)))))))))))))))))))))), hrun, hended, _, _, rfl, ?_, ⟨_, rfl⟩, hW, hsame.mono (by decide) (by decide)⟩
                      show Q3 Z p1 p2 h0 n0 _ s₁.heap _
                      rw [e0]
                      exact ⟨congrArg (fun z => some (Value.int z)) (show (1 : Int32) = f3 p1 p2 from Eq.symm ((if_neg hc2).trans ((if_neg hc12).trans ((if_neg hc22).trans ((if_neg hc32).trans ((if_neg hc42).trans ((if_neg hc52).trans ((if_neg hc62).trans ((if_neg hc72).trans ((if_pos hc82).trans (if_pos hc85))))))))))), N0, rfl⟩
                    · have K88 : ∀ t, Steps p.tables e below (s₁.setTop (mkF m 90 #[.val (.int p1), .val (.int p2)] [])) t → Steps p.tables e below (s₁.setTop (mkF m 83 #[.val (.int p1), .val (.int p2)] [(.int (1 : Int32)), (.int p2)])) t := by
                        intro t k
                        refine XS.icmpYes X0.here hx rfl (pc0 := 83) (pc' := 90) rfl (Jvm.hb hby d3_83) rfl (feq hc85).2 (by decide) (by decide) ?_
                        exact k
                      have K89 : ∀ t, Steps p.tables e below (s₁.setTop (mkF m 91 #[.val (.int p1), .val (.int p2)] [(.int (0 : Int32))])) t → Steps p.tables e below (s₁.setTop (mkF m 90 #[.val (.int p1), .val (.int p2)] [])) t := by
                        intro t k
                        refine XS.iconst X0.here hx rfl (Jvm.hb hby d3_90) ?_
                        show Steps p.tables e below (s₁.setTop (mkF m 91 #[.val (.int p1), .val (.int p2)] [(.int (0 : Int32))])) t
                        exact k
                      obtain ⟨fs, hr, hrun, hended, hW, hsame⟩ := X0.leave (v := some (.int (0 : Int32))) (fun h => by rw [Bd.returns] at h; cases h) Bd.notSynchronized
                      refine ⟨_, _, pre0 _ (K1 _ (K10 _ (K11 _ (K20 _ (K21 _ (K30 _ (K31 _ (K40 _ (K41 _ (K50 _ (K51 _ (K60 _ (K61 _ (K70 _ (K71 _ (K80 _ (K81 _ (K83 _ (K84 _ (K88 _ (K89 _ (retN X0 hx (t := .boolean) Bd.returns (by simp) (Jvm.hb hby d3_91) hr)))))))))))))))))))))), hrun, hended, _, _, rfl, ?_, ⟨_, rfl⟩, hW, hsame.mono (by decide) (by decide)⟩
                      show Q3 Z p1 p2 h0 n0 _ s₁.heap _
                      rw [e0]
                      exact ⟨congrArg (fun z => some (Value.int z)) (show (0 : Int32) = f3 p1 p2 from Eq.symm ((if_neg hc2).trans ((if_neg hc12).trans ((if_neg hc22).trans ((if_neg hc32).trans ((if_neg hc42).trans ((if_neg hc52).trans ((if_neg hc62).trans ((if_neg hc72).trans ((if_pos hc82).trans (if_neg hc85))))))))))), N0, rfl⟩
                  · have K90 : ∀ t, Steps p.tables e below (s₁.setTop (mkF m 92 #[.val (.int p1), .val (.int p2)] [])) t → Steps p.tables e below (s₁.setTop (mkF m 78 #[.val (.int p1), .val (.int p2)] [(.int (15 : Int32)), (.int p1)])) t := by
                      intro t k
                      refine XS.icmpYes X0.here hx rfl (pc0 := 78) (pc' := 92) rfl (Jvm.hb hby d3_78) rfl (feq hc82).2 (by decide) (by decide) ?_
                      exact k
                    have K91 : ∀ t, Steps p.tables e below (s₁.setTop (mkF m 94 #[.val (.int p1), .val (.int p2)] [(.int (4 : Int32)), (.int p1)])) t → Steps p.tables e below (s₁.setTop (mkF m 92 #[.val (.int p1), .val (.int p2)] [])) t := by
                      intro t k
                      refine XS.iloadN X0.here hx rfl (Jvm.hb hby d3_92) rfl ?_
                      show Steps p.tables e below (s₁.setTop (mkF m 93 #[.val (.int p1), .val (.int p2)] [(.int p1)])) t
                      refine XS.iconst X0.here hx rfl (Jvm.hb hby d3_93) ?_
                      show Steps p.tables e below (s₁.setTop (mkF m 94 #[.val (.int p1), .val (.int p2)] [(.int (4 : Int32)), (.int p1)])) t
                      exact k
                    by_cases hc92 : p1 = (4 : Int32)
                    · have K93 : ∀ t, Steps p.tables e below (s₁.setTop (mkF m 97 #[.val (.int p1), .val (.int p2)] [])) t → Steps p.tables e below (s₁.setTop (mkF m 94 #[.val (.int p1), .val (.int p2)] [(.int (4 : Int32)), (.int p1)])) t := by
                        intro t k
                        refine XS.icmpNo X0.here hx rfl (Jvm.hb hby d3_94) rfl (teq hc92).2 ?_
                        exact k
                      have K94 : ∀ t, Steps p.tables e below (s₁.setTop (mkF m 98 #[.val (.int p1), .val (.int p2)] [(.int p2)])) t → Steps p.tables e below (s₁.setTop (mkF m 97 #[.val (.int p1), .val (.int p2)] [])) t := by
                        intro t k
                        refine XS.iloadN X0.here hx rfl (Jvm.hb hby d3_97) rfl ?_
                        show Steps p.tables e below (s₁.setTop (mkF m 98 #[.val (.int p1), .val (.int p2)] [(.int p2)])) t
                        exact k
                      by_cases hc95 : p2 = (0 : Int32)
                      · have K96 : ∀ t, Steps p.tables e below (s₁.setTop (mkF m 106 #[.val (.int p1), .val (.int p2)] [])) t → Steps p.tables e below (s₁.setTop (mkF m 98 #[.val (.int p1), .val (.int p2)] [(.int p2)])) t := by
                          intro t k
                          refine XS.ifYes X0.here hx rfl (pc0 := 98) (pc' := 106) rfl (Jvm.hb hby d3_98) rfl ((if0 _ _).trans (teq hc95).1) (by decide) (by decide) ?_
                          exact k
                        have K97 : ∀ t, Steps p.tables e below (s₁.setTop (mkF m 111 #[.val (.int p1), .val (.int p2)] [(.int (1 : Int32))])) t → Steps p.tables e below (s₁.setTop (mkF m 106 #[.val (.int p1), .val (.int p2)] [])) t := by
                          intro t k
                          refine XS.iconst X0.here hx rfl (Jvm.hb hby d3_106) ?_
                          show Steps p.tables e below (s₁.setTop (mkF m 107 #[.val (.int p1), .val (.int p2)] [(.int (1 : Int32))])) t
                          refine XS.goto X0.here hx rfl (pc0 := 107) (pc' := 111) rfl (Jvm.hb hby d3_107) (by decide) (by decide) ?_
                          show Steps p.tables e below (s₁.setTop (mkF m 111 #[.val (.int p1), .val (.int p2)] [(.int (1 : Int32))])) t
                          exact k
                        obtain ⟨fs, hr, hrun, hended, hW, hsame⟩ := X0.leave (v := some (.int (1 : Int32))) (fun h => by rw [Bd.returns] at h; cases h) Bd.notSynchronized
                        refine ⟨_, _, pre0 _ (K1 _ (K10 _ (K11 _ (K20 _ (K21 _ (K30 _ (K31 _ (K40 _ (K41 _ (K50 _ (K51 _ (K60 _ (K61 _ (K70 _ (K71 _ (K80 _ (K81 _ (K90 _ (K91 _ (K93 _ (K94 _ (K96 _ (K97 _ (retN X0 hx (t := .boolean) Bd.returns (by simp) (Jvm.hb hby d3_111) hr)))))))))))))))))))))))), hrun, hended, _, _, rfl, ?_, ⟨_, rfl⟩, hW, hsame.mono (by decide) (by decide)⟩
                        show Q3 Z p1 p2 h0 n0 _ s₁.heap _
                        rw [e0]
                        exact ⟨congrArg (fun z => some (Value.int z)) (show (1 : Int32) = f3 p1 p2 from Eq.symm ((if_neg hc2).trans ((if_neg hc12).trans ((if_neg hc22).trans ((if_neg hc32).trans ((if_neg hc42).trans ((if_neg hc52).trans ((if_neg hc62).trans ((if_neg hc72).trans ((if_neg hc82).trans ((if_pos hc92).trans (if_pos hc95)))))))))))), N0, rfl⟩
                      · have K98 : ∀ t, Steps p.tables e below (s₁.setTop (mkF m 101 #[.val (.int p1), .val (.int p2)] [])) t → Steps p.tables e below (s₁.setTop (mkF m 98 #[.val (.int p1), .val (.int p2)] [(.int p2)])) t := by
                          intro t k
                          refine XS.ifNo X0.here hx rfl (Jvm.hb hby d3_98) rfl ((if0 _ _).trans (feq hc95).1) ?_
                          exact k
                        have K99 : ∀ t, Steps p.tables e below (s₁.setTop (mkF m 103 #[.val (.int p1), .val (.int p2)] [(.int (1 : Int32)), (.int p2)])) t → Steps p.tables e below (s₁.setTop (mkF m 101 #[.val (.int p1), .val (.int p2)] [])) t := by
                          intro t k
                          refine XS.iloadN X0.here hx rfl (Jvm.hb hby d3_101) rfl ?_
                          show Steps p.tables e below (s₁.setTop (mkF m 102 #[.val (.int p1), .val (.int p2)] [(.int p2)])) t
                          refine XS.iconst X0.here hx rfl (Jvm.hb hby d3_102) ?_
                          show Steps p.tables e below (s₁.setTop (mkF m 103 #[.val (.int p1), .val (.int p2)] [(.int (1 : Int32)), (.int p2)])) t
                          exact k
                        by_cases hc100 : p2 = (1 : Int32)
                        · have K101 : ∀ t, Steps p.tables e below (s₁.setTop (mkF m 106 #[.val (.int p1), .val (.int p2)] [])) t → Steps p.tables e below (s₁.setTop (mkF m 103 #[.val (.int p1), .val (.int p2)] [(.int (1 : Int32)), (.int p2)])) t := by
                            intro t k
                            refine XS.icmpNo X0.here hx rfl (Jvm.hb hby d3_103) rfl (teq hc100).2 ?_
                            exact k
                          have K102 : ∀ t, Steps p.tables e below (s₁.setTop (mkF m 111 #[.val (.int p1), .val (.int p2)] [(.int (1 : Int32))])) t → Steps p.tables e below (s₁.setTop (mkF m 106 #[.val (.int p1), .val (.int p2)] [])) t := by
                            intro t k
                            refine XS.iconst X0.here hx rfl (Jvm.hb hby d3_106) ?_
                            show Steps p.tables e below (s₁.setTop (mkF m 107 #[.val (.int p1), .val (.int p2)] [(.int (1 : Int32))])) t
                            refine XS.goto X0.here hx rfl (pc0 := 107) (pc' := 111) rfl (Jvm.hb hby d3_107) (by decide) (by decide) ?_
                            show Steps p.tables e below (s₁.setTop (mkF m 111 #[.val (.int p1), .val (.int p2)] [(.int (1 : Int32))])) t
                            exact k
                          obtain ⟨fs, hr, hrun, hended, hW, hsame⟩ := X0.leave (v := some (.int (1 : Int32))) (fun h => by rw [Bd.returns] at h; cases h) Bd.notSynchronized
                          refine ⟨_, _, pre0 _ (K1 _ (K10 _ (K11 _ (K20 _ (K21 _ (K30 _ (K31 _ (K40 _ (K41 _ (K50 _ (K51 _ (K60 _ (K61 _ (K70 _ (K71 _ (K80 _ (K81 _ (K90 _ (K91 _ (K93 _ (K94 _ (K98 _ (K99 _ (K101 _ (K102 _ (retN X0 hx (t := .boolean) Bd.returns (by simp) (Jvm.hb hby d3_111) hr)))))))))))))))))))))))))), hrun, hended, _, _, rfl, ?_, ⟨_, rfl⟩, hW, hsame.mono (by decide) (by decide)⟩
                          show Q3 Z p1 p2 h0 n0 _ s₁.heap _
                          rw [e0]
                          exact ⟨congrArg (fun z => some (Value.int z)) (show (1 : Int32) = f3 p1 p2 from Eq.symm ((if_neg hc2).trans ((if_neg hc12).trans ((if_neg hc22).trans ((if_neg hc32).trans ((if_neg hc42).trans ((if_neg hc52).trans ((if_neg hc62).trans ((if_neg hc72).trans ((if_neg hc82).trans ((if_pos hc92).trans ((if_neg hc95).trans (if_pos hc100))))))))))))), N0, rfl⟩
                        · have K103 : ∀ t, Steps p.tables e below (s₁.setTop (mkF m 110 #[.val (.int p1), .val (.int p2)] [])) t → Steps p.tables e below (s₁.setTop (mkF m 103 #[.val (.int p1), .val (.int p2)] [(.int (1 : Int32)), (.int p2)])) t := by
                            intro t k
                            refine XS.icmpYes X0.here hx rfl (pc0 := 103) (pc' := 110) rfl (Jvm.hb hby d3_103) rfl (feq hc100).2 (by decide) (by decide) ?_
                            exact k
                          have K104 : ∀ t, Steps p.tables e below (s₁.setTop (mkF m 111 #[.val (.int p1), .val (.int p2)] [(.int (0 : Int32))])) t → Steps p.tables e below (s₁.setTop (mkF m 110 #[.val (.int p1), .val (.int p2)] [])) t := by
                            intro t k
                            refine XS.iconst X0.here hx rfl (Jvm.hb hby d3_110) ?_
                            show Steps p.tables e below (s₁.setTop (mkF m 111 #[.val (.int p1), .val (.int p2)] [(.int (0 : Int32))])) t
                            exact k
                          obtain ⟨fs, hr, hrun, hended, hW, hsame⟩ := X0.leave (v := some (.int (0 : Int32))) (fun h => by rw [Bd.returns] at h; cases h) Bd.notSynchronized
                          refine ⟨_, _, pre0 _ (K1 _ (K10 _ (K11 _ (K20 _ (K21 _ (K30 _ (K31 _ (K40 _ (K41 _ (K50 _ (K51 _ (K60 _ (K61 _ (K70 _ (K71 _ (K80 _ (K81 _ (K90 _ (K91 _ (K93 _ (K94 _ (K98 _ (K99 _ (K103 _ (K104 _ (retN X0 hx (t := .boolean) Bd.returns (by simp) (Jvm.hb hby d3_111) hr)))))))))))))))))))))))))), hrun, hended, _, _, rfl, ?_, ⟨_, rfl⟩, hW, hsame.mono (by decide) (by decide)⟩
                          show Q3 Z p1 p2 h0 n0 _ s₁.heap _
                          rw [e0]
                          exact ⟨congrArg (fun z => some (Value.int z)) (show (0 : Int32) = f3 p1 p2 from Eq.symm ((if_neg hc2).trans ((if_neg hc12).trans ((if_neg hc22).trans ((if_neg hc32).trans ((if_neg hc42).trans ((if_neg hc52).trans ((if_neg hc62).trans ((if_neg hc72).trans ((if_neg hc82).trans ((if_pos hc92).trans ((if_neg hc95).trans (if_neg hc100))))))))))))), N0, rfl⟩
                    · have K105 : ∀ t, Steps p.tables e below (s₁.setTop (mkF m 112 #[.val (.int p1), .val (.int p2)] [])) t → Steps p.tables e below (s₁.setTop (mkF m 94 #[.val (.int p1), .val (.int p2)] [(.int (4 : Int32)), (.int p1)])) t := by
                        intro t k
                        refine XS.icmpYes X0.here hx rfl (pc0 := 94) (pc' := 112) rfl (Jvm.hb hby d3_94) rfl (feq hc92).2 (by decide) (by decide) ?_
                        exact k
                      have K106 : ∀ t, Steps p.tables e below (s₁.setTop (mkF m 114 #[.val (.int p1), .val (.int p2)] [(.int (5 : Int32)), (.int p1)])) t → Steps p.tables e below (s₁.setTop (mkF m 112 #[.val (.int p1), .val (.int p2)] [])) t := by
                        intro t k
                        refine XS.iloadN X0.here hx rfl (Jvm.hb hby d3_112) rfl ?_
                        show Steps p.tables e below (s₁.setTop (mkF m 113 #[.val (.int p1), .val (.int p2)] [(.int p1)])) t
                        refine XS.iconst X0.here hx rfl (Jvm.hb hby d3_113) ?_
                        show Steps p.tables e below (s₁.setTop (mkF m 114 #[.val (.int p1), .val (.int p2)] [(.int (5 : Int32)), (.int p1)])) t
                        exact k
                      by_cases hc107 : p1 = (5 : Int32)
                      · have K108 : ∀ t, Steps p.tables e below (s₁.setTop (mkF m 123 #[.val (.int p1), .val (.int p2)] [])) t → Steps p.tables e below (s₁.setTop (mkF m 114 #[.val (.int p1), .val (.int p2)] [(.int (5 : Int32)), (.int p1)])) t := by
                          intro t k
                          refine XS.icmpYes X0.here hx rfl (pc0 := 114) (pc' := 123) rfl (Jvm.hb hby d3_114) rfl (teq hc107).1 (by decide) (by decide) ?_
                          exact k
                        have K109 : ∀ t, Steps p.tables e below (s₁.setTop (mkF m 125 #[.val (.int p1), .val (.int p2)] [(.int (2 : Int32)), (.int p2)])) t → Steps p.tables e below (s₁.setTop (mkF m 123 #[.val (.int p1), .val (.int p2)] [])) t := by
                          intro t k
                          refine XS.iloadN X0.here hx rfl (Jvm.hb hby d3_123) rfl ?_
                          show Steps p.tables e below (s₁.setTop (mkF m 124 #[.val (.int p1), .val (.int p2)] [(.int p2)])) t
                          refine XS.iconst X0.here hx rfl (Jvm.hb hby d3_124) ?_
                          show Steps p.tables e below (s₁.setTop (mkF m 125 #[.val (.int p1), .val (.int p2)] [(.int (2 : Int32)), (.int p2)])) t
                          exact k
                        by_cases hc110 : p2 = (2 : Int32)
                        · have K111 : ∀ t, Steps p.tables e below (s₁.setTop (mkF m 133 #[.val (.int p1), .val (.int p2)] [])) t → Steps p.tables e below (s₁.setTop (mkF m 125 #[.val (.int p1), .val (.int p2)] [(.int (2 : Int32)), (.int p2)])) t := by
                            intro t k
                            refine XS.icmpYes X0.here hx rfl (pc0 := 125) (pc' := 133) rfl (Jvm.hb hby d3_125) rfl (teq hc110).1 (by decide) (by decide) ?_
                            exact k
                          have K112 : ∀ t, Steps p.tables e below (s₁.setTop (mkF m 138 #[.val (.int p1), .val (.int p2)] [(.int (1 : Int32))])) t → Steps p.tables e below (s₁.setTop (mkF m 133 #[.val (.int p1), .val (.int p2)] [])) t := by
                            intro t k
                            refine XS.iconst X0.here hx rfl (Jvm.hb hby d3_133) ?_
                            show Steps p.tables e below (s₁.setTop (mkF m 134 #[.val (.int p1), .val (.int p2)] [(.int (1 : Int32))])) t
                            refine XS.goto X0.here hx rfl (pc0 := 134) (pc' := 138) rfl (Jvm.hb hby d3_134) (by decide) (by decide) ?_
                            show Steps p.tables e below (s₁.setTop (mkF m 138 #[.val (.int p1), .val (.int p2)] [(.int (1 : Int32))])) t
                            exact k
                          obtain ⟨fs, hr, hrun, hended, hW, hsame⟩ := X0.leave (v := some (.int (1 : Int32))) (fun h => by rw [Bd.returns] at h; cases h) Bd.notSynchronized
                          refine ⟨_, _, pre0 _ (K1 _ (K10 _ (K11 _ (K20 _ (K21 _ (K30 _ (K31 _ (K40 _ (K41 _ (K50 _ (K51 _ (K60 _ (K61 _ (K70 _ (K71 _ (K80 _ (K81 _ (K90 _ (K91 _ (K105 _ (K106 _ (K108 _ (K109 _ (K111 _ (K112 _ (retN X0 hx (t := .boolean) Bd.returns (by simp) (Jvm.hb hby d3_138) hr)))))))))))))))))))))))))), hrun, hended, _, _, rfl, ?_, ⟨_, rfl⟩, hW, hsame.mono (by decide) (by decide)⟩
                          show Q3 Z p1 p2 h0 n0 _ s₁.heap _
                          rw [e0]
                          exact ⟨congrArg (fun z => some (Value.int z)) (show (1 : Int32) = f3 p1 p2 from Eq.symm ((if_neg hc2).trans ((if_neg hc12).trans ((if_neg hc22).trans ((if_neg hc32).trans ((if_neg hc42).trans ((if_neg hc52).trans ((if_neg hc62).trans ((if_neg hc72).trans ((if_neg hc82).trans ((if_neg hc92).trans ((if_pos hc107).trans (if_pos hc110))))))))))))), N0, rfl⟩
                        · have K113 : ∀ t, Steps p.tables e below (s₁.setTop (mkF m 128 #[.val (.int p1), .val (.int p2)] [])) t → Steps p.tables e below (s₁.setTop (mkF m 125 #[.val (.int p1), .val (.int p2)] [(.int (2 : Int32)), (.int p2)])) t := by
                            intro t k
                            refine XS.icmpNo X0.here hx rfl (Jvm.hb hby d3_125) rfl (feq hc110).1 ?_
                            exact k
                          have K114 : ∀ t, Steps p.tables e below (s₁.setTop (mkF m 130 #[.val (.int p1), .val (.int p2)] [(.int (3 : Int32)), (.int p2)])) t → Steps p.tables e below (s₁.setTop (mkF m 128 #[.val (.int p1), .val (.int p2)] [])) t := by
                            intro t k
                            refine XS.iloadN X0.here hx rfl (Jvm.hb hby d3_128) rfl ?_
                            show Steps p.tables e below (s₁.setTop (mkF m 129 #[.val (.int p1), .val (.int p2)] [(.int p2)])) t
                            refine XS.iconst X0.here hx rfl (Jvm.hb hby d3_129) ?_
                            show Steps p.tables e below (s₁.setTop (mkF m 130 #[.val (.int p1), .val (.int p2)] [(.int (3 : Int32)), (.int p2)])) t
                            exact k
                          by_cases hc115 : p2 = (3 : Int32)
                          · have K116 : ∀ t, Steps p.tables e below (s₁.setTop (mkF m 133 #[.val (.int p1), .val (.int p2)] [])) t → Steps p.tables e below (s₁.setTop (mkF m 130 #[.val (.int p1), .val (.int p2)] [(.int (3 : Int32)), (.int p2)])) t := by
                              intro t k
                              refine XS.icmpNo X0.here hx rfl (Jvm.hb hby d3_130) rfl (teq hc115).2 ?_
                              exact k
                            have K117 : ∀ t, Steps p.tables e below (s₁.setTop (mkF m 138 #[.val (.int p1), .val (.int p2)] [(.int (1 : Int32))])) t → Steps p.tables e below (s₁.setTop (mkF m 133 #[.val (.int p1), .val (.int p2)] [])) t := by
                              intro t k
                              refine XS.iconst X0.here hx rfl (Jvm.hb hby d3_133) ?_
                              show Steps p.tables e below (s₁.setTop (mkF m 134 #[.val (.int p1), .val (.int p2)] [(.int (1 : Int32))])) t
                              refine XS.goto X0.here hx rfl (pc0 := 134) (pc' := 138) rfl (Jvm.hb hby d3_134) (by decide) (by decide) ?_
                              show Steps p.tables e below (s₁.setTop (mkF m 138 #[.val (.int p1), .val (.int p2)] [(.int (1 : Int32))])) t
                              exact k
                            obtain ⟨fs, hr, hrun, hended, hW, hsame⟩ := X0.leave (v := some (.int (1 : Int32))) (fun h => by rw [Bd.returns] at h; cases h) Bd.notSynchronized
                            refine ⟨_, _, pre0 _ (K1 _ (K10 _ (K11 _ (K20 _ (K21 _ (K30 _ (K31 _ (K40 _ (K41 _ (K50 _ (K51 _ (K60 _ (K61 _ (K70 _ (K71 _ (K80 _ (K81 _ (K90 _ (K91 _ (K105 _ (K106 _ (K108 _ (K109 _ (K113 _ (K114 _ (K116 _ (K117 _ (retN X0 hx (t := .boolean) Bd.returns (by simp) (Jvm.hb hby d3_138) hr)))))))))))))))))))))))))))), hrun, hended, _, _, rfl, ?_, ⟨_, rfl⟩, hW, hsame.mono (by decide) (by decide)⟩
                            show Q3 Z p1 p2 h0 n0 _ s₁.heap _
                            rw [e0]
                            exact ⟨congrArg (fun z => some (Value.int z)) (show (1 : Int32) = f3 p1 p2 from Eq.symm ((if_neg hc2).trans ((if_neg hc12).trans ((if_neg hc22).trans ((if_neg hc32).trans ((if_neg hc42).trans ((if_neg hc52).trans ((if_neg hc62).trans ((if_neg hc72).trans ((if_neg hc82).trans ((if_neg hc92).trans ((if_pos hc107).trans ((if_neg hc110).trans (if_pos hc115)))))))))))))), N0, rfl⟩
                          · have K118 : ∀ t, Steps p.tables e below (s₁.setTop (mkF m 137 #[.val (.int p1), .val (.int p2)] [])) t → Steps p.tables e below (s₁.setTop (mkF m 130 #[.val (.int p1), .val (.int p2)] [(.int (3 : Int32)), (.int p2)])) t := by
                              intro t k
                              refine XS.icmpYes X0.here hx rfl (pc0 := 130) (pc' := 137) rfl (Jvm.hb hby d3_130) rfl (feq hc115).2 (by decide) (by decide) ?_
                              exact k
                            have K119 : ∀ t, Steps p.tables e below (s₁.setTop (mkF m 138 #[.val (.int p1), .val (.int p2)] [(.int (0 : Int32))])) t → Steps p.tables e below (s₁.setTop (mkF m 137 #[.val (.int p1), .val (.int p2)] [])) t := by
                              intro t k
                              refine XS.iconst X0.here hx rfl (Jvm.hb hby d3_137) ?_
                              show Steps p.tables e below (s₁.setTop (mkF m 138 #[.val (.int p1), .val (.int p2)] [(.int (0 : Int32))])) t
                              exact k
                            obtain ⟨fs, hr, hrun, hended, hW, hsame⟩ := X0.leave (v := some (.int (0 : Int32))) (fun h => by rw [Bd.returns] at h; cases h) Bd.notSynchronized
                            refine ⟨_, _, pre0 _ (K1 _ (K10 _ (K11 _ (K20 _ (K21 _ (K30 _ (K31 _ (K40 _ (K41 _ (K50 _ (K51 _ (K60 _ (K61 _ (K70 _ (K71 _ (K80 _ (K81 _ (K90 _ (K91 _ (K105 _ (K106 _ (K108 _ (K109 _ (K113 _ (K114 _ (K118 _ (K119 _ (retN X0 hx (t := .boolean) Bd.returns (by simp) (Jvm.hb hby d3_138) hr)))))))))))))))))))))))))))), hrun, hended, _, _, rfl, ?_, ⟨_, rfl⟩, hW, hsame.mono (by decide) (by decide)⟩
                            show Q3 Z p1 p2 h0 n0 _ s₁.heap _
                            rw [e0]
                            exact ⟨congrArg (fun z => some (Value.int z)) (show (0 : Int32) = f3 p1 p2 from Eq.symm ((if_neg hc2).trans ((if_neg hc12).trans ((if_neg hc22).trans ((if_neg hc32).trans ((if_neg hc42).trans ((if_neg hc52).trans ((if_neg hc62).trans ((if_neg hc72).trans ((if_neg hc82).trans ((if_neg hc92).trans ((if_pos hc107).trans ((if_neg hc110).trans (if_neg hc115)))))))))))))), N0, rfl⟩
                      · have K120 : ∀ t, Steps p.tables e below (s₁.setTop (mkF m 117 #[.val (.int p1), .val (.int p2)] [])) t → Steps p.tables e below (s₁.setTop (mkF m 114 #[.val (.int p1), .val (.int p2)] [(.int (5 : Int32)), (.int p1)])) t := by
                          intro t k
                          refine XS.icmpNo X0.here hx rfl (Jvm.hb hby d3_114) rfl (feq hc107).1 ?_
                          exact k
                        have K121 : ∀ t, Steps p.tables e below (s₁.setTop (mkF m 120 #[.val (.int p1), .val (.int p2)] [(.int (9 : Int32)), (.int p1)])) t → Steps p.tables e below (s₁.setTop (mkF m 117 #[.val (.int p1), .val (.int p2)] [])) t := by
                          intro t k
                          refine XS.iloadN X0.here hx rfl (Jvm.hb hby d3_117) rfl ?_
                          show Steps p.tables e below (s₁.setTop (mkF m 118 #[.val (.int p1), .val (.int p2)] [(.int p1)])) t
                          refine XS.bipush X0.here hx rfl (Jvm.hb hby d3_118) ?_
                          show Steps p.tables e below (s₁.setTop (mkF m 120 #[.val (.int p1), .val (.int p2)] [(.int (9 : Int32)), (.int p1)])) t
                          exact k
                        by_cases hc122 : p1 = (9 : Int32)
                        · have K123 : ∀ t, Steps p.tables e below (s₁.setTop (mkF m 123 #[.val (.int p1), .val (.int p2)] [])) t → Steps p.tables e below (s₁.setTop (mkF m 120 #[.val (.int p1), .val (.int p2)] [(.int (9 : Int32)), (.int p1)])) t := by
                            intro t k
                            refine XS.icmpNo X0.here hx rfl (Jvm.hb hby d3_120) rfl (teq hc122).2 ?_
                            exact k
                          have K124 : ∀ t, Steps p.tables e below (s₁.setTop (mkF m 125 #[.val (.int p1), .val (.int p2)] [(.int (2 : Int32)), (.int p2)])) t → Steps p.tables e below (s₁.setTop (mkF m 123 #[.val (.int p1), .val (.int p2)] [])) t := by
                            intro t k
                            refine XS.iloadN X0.here hx rfl (Jvm.hb hby d3_123) rfl ?_
                            show Steps p.tables e below (s₁.setTop (mkF m 124 #[.val (.int p1), .val (.int p2)] [(.int p2)])) t
                            refine XS.iconst X0.here hx rfl (Jvm.hb hby d3_124) ?_
                            show Steps p.tables e below (s₁.setTop (mkF m 125 #[.val (.int p1), .val (.int p2)] [(.int (2 : Int32)), (.int p2)])) t
                            exact k
                          by_cases hc125 : p2 = (2 : Int32)
                          · have K126 : ∀ t, Steps p.tables e below (s₁.setTop (mkF m 133 #[.val (.int p1), .val (.int p2)] [])) t → Steps p.tables e below (s₁.setTop (mkF m 125 #[.val (.int p1), .val (.int p2)] [(.int (2 : Int32)), (.int p2)])) t := by
                              intro t k
                              refine XS.icmpYes X0.here hx rfl (pc0 := 125) (pc' := 133) rfl (Jvm.hb hby d3_125) rfl (teq hc125).1 (by decide) (by decide) ?_
                              exact k
                            have K127 : ∀ t, Steps p.tables e below (s₁.setTop (mkF m 138 #[.val (.int p1), .val (.int p2)] [(.int (1 : Int32))])) t → Steps p.tables e below (s₁.setTop (mkF m 133 #[.val (.int p1), .val (.int p2)] [])) t := by
                              intro t k
                              refine XS.iconst X0.here hx rfl (Jvm.hb hby d3_133) ?_
                              show Steps p.tables e below (s₁.setTop (mkF m 134 #[.val (.int p1), .val (.int p2)] [(.int (1 : Int32))])) t
                              refine XS.goto X0.here hx rfl (pc0 := 134) (pc' := 138) rfl (Jvm.hb hby d3_134) (by decide) (by decide) ?_
                              show Steps p.tables e below (s₁.setTop (mkF m 138 #[.val (.int p1), .val (.int p2)] [(.int (1 : Int32))])) t
                              exact k
                            obtain ⟨fs, hr, hrun, hended, hW, hsame⟩ := X0.leave (v := some (.int (1 : Int32))) (fun h => by rw [Bd.returns] at h; cases h) Bd.notSynchronized
                            refine ⟨_, _, pre0 _ (K1 _ (K10 _ (K11 _ (K20 _ (K21 _ (K30 _ (K31 _ (K40 _ (K41 _ (K50 _ (K51 _ (K60 _ (K61 _ (K70 _ (K71 _ (K80 _ (K81 _ (K90 _ (K91 _ (K105 _ (K106 _ (K120 _ (K121 _ (K123 _ (K124 _ (K126 _ (K127 _ (retN X0 hx (t := .boolean) Bd.returns (by simp) (Jvm.hb hby d3_138) hr)))))))))))))))))))))))))))), hrun, hended, _, _, rfl, ?_, ⟨_, rfl⟩, hW, hsame.mono (by decide) (by decide)⟩
                            show Q3 Z p1 p2 h0 n0 _ s₁.heap _
                            rw [e0]
                            exact ⟨congrArg (fun z => some (Value.int z)) (show (1 : Int32) = f3 p1 p2 from Eq.symm ((if_neg hc2).trans ((if_neg hc12).trans ((if_neg hc22).trans ((if_neg hc32).trans ((if_neg hc42).trans ((if_neg hc52).trans ((if_neg hc62).trans ((if_neg hc72).trans ((if_neg hc82).trans ((if_neg hc92).trans ((if_neg hc107).trans ((if_pos hc122).trans (if_pos hc125)))))))))))))), N0, rfl⟩
                          · have K128 : ∀ t, Steps p.tables e below (s₁.setTop (mkF m 128 #[.val (.int p1), .val (.int p2)] [])) t → Steps p.tables e below (s₁.setTop (mkF m 125 #[.val (.int p1), .val (.int p2)] [(.int (2 : Int32)), (.int p2)])) t := by
                              intro t k
                              refine XS.icmpNo X0.here hx rfl (Jvm.hb hby d3_125) rfl (feq hc125).1 ?_
                              exact k
                            have K129 : ∀ t, Steps p.tables e below (s₁.setTop (mkF m 130 #[.val (.int p1), .val (.int p2)] [(.int (3 : Int32)), (.int p2)])) t → Steps p.tables e below (s₁.setTop (mkF m 128 #[.val (.int p1), .val (.int p2)] [])) t := by
                              intro t k
                              refine XS.iloadN X0.here hx rfl (Jvm.hb hby d3_128) rfl ?_
                              show Steps p.tables e below (s₁.setTop (mkF m 129 #[.val (.int p1), .val (.int p2)] [(.int p2)])) t
                              refine XS.iconst X0.here hx rfl (Jvm.hb hby d3_129) ?_
                              show Steps p.tables e below (s₁.setTop (mkF m 130 #[.val (.int p1), .val (.int p2)] [(.int (3 : Int32)), (.int p2)])) t
                              exact k
                            by_cases hc130 : p2 = (3 : Int32)
                            · have K131 : ∀ t, Steps p.tables e below (s₁.setTop (mkF m 133 #[.val (.int p1), .val (.int p2)] [])) t → Steps p.tables e below (s₁.setTop (mkF m 130 #[.val (.int p1), .val (.int p2)] [(.int (3 : Int32)), (.int p2)])) t := by
                                intro t k
                                refine XS.icmpNo X0.here hx rfl (Jvm.hb hby d3_130) rfl (teq hc130).2 ?_
                                exact k
                              have K132 : ∀ t, Steps p.tables e below (s₁.setTop (mkF m 138 #[.val (.int p1), .val (.int p2)] [(.int (1 : Int32))])) t → Steps p.tables e below (s₁.setTop (mkF m 133 #[.val (.int p1), .val (.int p2)] [])) t := by
                                intro t k
                                refine XS.iconst X0.here hx rfl (Jvm.hb hby d3_133) ?_
                                show Steps p.tables e below (s₁.setTop (mkF m 134 #[.val (.int p1), .val (.int p2)] [(.int (1 : Int32))])) t
                                refine XS.goto X0.here hx rfl (pc0 := 134) (pc' := 138) rfl (Jvm.hb hby d3_134) (by decide) (by decide) ?_
                                show Steps p.tables e below (s₁.setTop (mkF m 138 #[.val (.int p1), .val (.int p2)] [(.int (1 : Int32))])) t
                                exact k
                              obtain ⟨fs, hr, hrun, hended, hW, hsame⟩ := X0.leave (v := some (.int (1 : Int32))) (fun h => by rw [Bd.returns] at h; cases h) Bd.notSynchronized
                              refine ⟨_, _, pre0 _ (K1 _ (K10 _ (K11 _ (K20 _ (K21 _ (K30 _ (K31 _ (K40 _ (K41 _ (K50 _ (K51 _ (K60 _ (K61 _ (K70 _ (K71 _ (K80 _ (K81 _ (K90 _ (K91 _ (K105 _ (K106 _ (K120 _ (K121 _ (K123 _ (K124 _ (K128 _ (K129 _ (K131 _ (K132 _ (retN X0 hx (t := .boolean) Bd.returns (by simp) (Jvm.hb hby d3_138) hr)))))))))))))))))))))))))))))), hrun, hended, _, _, rfl, ?_, ⟨_, rfl⟩, hW, hsame.mono (by decide) (by decide)⟩
                              show Q3 Z p1 p2 h0 n0 _ s₁.heap _
                              rw [e0]
                              exact ⟨congrArg (fun z => some (Value.int z)) (show (1 : Int32) = f3 p1 p2 from Eq.symm ((if_neg hc2).trans ((if_neg hc12).trans ((if_neg hc22).trans ((if_neg hc32).trans ((if_neg hc42).trans ((if_neg hc52).trans ((if_neg hc62).trans ((if_neg hc72).trans ((if_neg hc82).trans ((if_neg hc92).trans ((if_neg hc107).trans ((if_pos hc122).trans ((if_neg hc125).trans (if_pos hc130))))))))))))))), N0, rfl⟩
                            · have K133 : ∀ t, Steps p.tables e below (s₁.setTop (mkF m 137 #[.val (.int p1), .val (.int p2)] [])) t → Steps p.tables e below (s₁.setTop (mkF m 130 #[.val (.int p1), .val (.int p2)] [(.int (3 : Int32)), (.int p2)])) t := by
                                intro t k
                                refine XS.icmpYes X0.here hx rfl (pc0 := 130) (pc' := 137) rfl (Jvm.hb hby d3_130) rfl (feq hc130).2 (by decide) (by decide) ?_
                                exact k
                              have K134 : ∀ t, Steps p.tables e below (s₁.setTop (mkF m 138 #[.val (.int p1), .val (.int p2)] [(.int (0 : Int32))])) t → Steps p.tables e below (s₁.setTop (mkF m 137 #[.val (.int p1), .val (.int p2)] [])) t := by
                                intro t k
                                refine XS.iconst X0.here hx rfl (Jvm.hb hby d3_137) ?_
                                show Steps p.tables e below (s₁.setTop (mkF m 138 #[.val (.int p1), .val (.int p2)] [(.int (0 : Int32))])) t
                                exact k
                              obtain ⟨fs, hr, hrun, hended, hW, hsame⟩ := X0.leave (v := some (.int (0 : Int32))) (fun h => by rw [Bd.returns] at h; cases h) Bd.notSynchronized
                              refine ⟨_, _, pre0 _ (K1 _ (K10 _ (K11 _ (K20 _ (K21 _ (K30 _ (K31 _ (K40 _ (K41 _ (K50 _ (K51 _ (K60 _ (K61 _ (K70 _ (K71 _ (K80 _ (K81 _ (K90 _ (K91 _ (K105 _ (K106 _ (K120 _ (K121 _ (K123 _ (K124 _ (K128 _ (K129 _ (K133 _ (K134 _ (retN X0 hx (t := .boolean) Bd.returns (by simp) (Jvm.hb hby d3_138) hr)))))))))))))))))))))))))))))), hrun, hended, _, _, rfl, ?_, ⟨_, rfl⟩, hW, hsame.mono (by decide) (by decide)⟩
                              show Q3 Z p1 p2 h0 n0 _ s₁.heap _
                              rw [e0]
                              exact ⟨congrArg (fun z => some (Value.int z)) (show (0 : Int32) = f3 p1 p2 from Eq.symm ((if_neg hc2).trans ((if_neg hc12).trans ((if_neg hc22).trans ((if_neg hc32).trans ((if_neg hc42).trans ((if_neg hc52).trans ((if_neg hc62).trans ((if_neg hc72).trans ((if_neg hc82).trans ((if_neg hc92).trans ((if_neg hc107).trans ((if_pos hc122).trans ((if_neg hc125).trans (if_neg hc130))))))))))))))), N0, rfl⟩
                        · have K135 : ∀ t, Steps p.tables e below (s₁.setTop (mkF m 139 #[.val (.int p1), .val (.int p2)] [])) t → Steps p.tables e below (s₁.setTop (mkF m 120 #[.val (.int p1), .val (.int p2)] [(.int (9 : Int32)), (.int p1)])) t := by
                            intro t k
                            refine XS.icmpYes X0.here hx rfl (pc0 := 120) (pc' := 139) rfl (Jvm.hb hby d3_120) rfl (feq hc122).2 (by decide) (by decide) ?_
                            exact k
                          have K136 : ∀ t, Steps p.tables e below (s₁.setTop (mkF m 142 #[.val (.int p1), .val (.int p2)] [(.int (6 : Int32)), (.int p1)])) t → Steps p.tables e below (s₁.setTop (mkF m 139 #[.val (.int p1), .val (.int p2)] [])) t := by
                            intro t k
                            refine XS.iloadN X0.here hx rfl (Jvm.hb hby d3_139) rfl ?_
                            show Steps p.tables e below (s₁.setTop (mkF m 140 #[.val (.int p1), .val (.int p2)] [(.int p1)])) t
                            refine XS.bipush X0.here hx rfl (Jvm.hb hby d3_140) ?_
                            show Steps p.tables e below (s₁.setTop (mkF m 142 #[.val (.int p1), .val (.int p2)] [(.int (6 : Int32)), (.int p1)])) t
                            exact k
                          by_cases hc137 : p1 = (6 : Int32)
                          · have K138 : ∀ t, Steps p.tables e below (s₁.setTop (mkF m 145 #[.val (.int p1), .val (.int p2)] [])) t → Steps p.tables e below (s₁.setTop (mkF m 142 #[.val (.int p1), .val (.int p2)] [(.int (6 : Int32)), (.int p1)])) t := by
                              intro t k
                              refine XS.icmpNo X0.here hx rfl (Jvm.hb hby d3_142) rfl (teq hc137).2 ?_
                              exact k
                            have K139 : ∀ t, Steps p.tables e below (s₁.setTop (mkF m 147 #[.val (.int p1), .val (.int p2)] [(.int (3 : Int32)), (.int p2)])) t → Steps p.tables e below (s₁.setTop (mkF m 145 #[.val (.int p1), .val (.int p2)] [])) t := by
                              intro t k
                              refine XS.iloadN X0.here hx rfl (Jvm.hb hby d3_145) rfl ?_
                              show Steps p.tables e below (s₁.setTop (mkF m 146 #[.val (.int p1), .val (.int p2)] [(.int p2)])) t
                              refine XS.iconst X0.here hx rfl (Jvm.hb hby d3_146) ?_
                              show Steps p.tables e below (s₁.setTop (mkF m 147 #[.val (.int p1), .val (.int p2)] [(.int (3 : Int32)), (.int p2)])) t
                              exact k
                            by_cases hc140 : p2 = (3 : Int32)
                            · have K141 : ∀ t, Steps p.tables e below (s₁.setTop (mkF m 155 #[.val (.int p1), .val (.int p2)] [])) t → Steps p.tables e below (s₁.setTop (mkF m 147 #[.val (.int p1), .val (.int p2)] [(.int (3 : Int32)), (.int p2)])) t := by
                                intro t k
                                refine XS.icmpYes X0.here hx rfl (pc0 := 147) (pc' := 155) rfl (Jvm.hb hby d3_147) rfl (teq hc140).1 (by decide) (by decide) ?_
                                exact k
                              have K142 : ∀ t, Steps p.tables e below (s₁.setTop (mkF m 160 #[.val (.int p1), .val (.int p2)] [(.int (1 : Int32))])) t → Steps p.tables e below (s₁.setTop (mkF m 155 #[.val (.int p1), .val (.int p2)] [])) t := by
                                intro t k
                                refine XS.iconst X0.here hx rfl (Jvm.hb hby d3_155) ?_
                                show Steps p.tables e below (s₁.setTop (mkF m 156 #[.val (.int p1), .val (.int p2)] [(.int (1 : Int32))])) t
                                refine XS.goto X0.here hx rfl (pc0 := 156) (pc' := 160) rfl (Jvm.hb hby d3_156) (by decide) (by decide) ?_
                                show Steps p.tables e below (s₁.setTop (mkF m 160 #[.val (.int p1), .val (.int p2)] [(.int (1 : Int32))])) t
                                exact k
                              obtain ⟨fs, hr, hrun, hended, hW, hsame⟩ := X0.leave (v := some (.int (1 : Int32))) (fun h => by rw [Bd.returns] at h; cases h) Bd.notSynchronized
                              refine ⟨_, _, pre0 _ (K1 _ (K10 _ (K11 _ (K20 _ (K21 _ (K30 _ (K31 _ (K40 _ (K41 _ (K50 _ (K51 _ (K60 _ (K61 _ (K70 _ (K71 _ (K80 _ (K81 _ (K90 _ (K91 _ (K105 _ (K106 _ (K120 _ (K121 _ (K135 _ (K136 _ (K138 _ (K139 _ (K141 _ (K142 _ (retN X0 hx (t := .boolean) Bd.returns (by simp) (Jvm.hb hby d3_160) hr)))))))))))))))))))))))))))))), hrun, hended, _, _, rfl, ?_, ⟨_, rfl⟩, hW, hsame.mono (by decide) (by decide)⟩
                              show Q3 Z p1 p2 h0 n0 _ s₁.heap _
                              rw [e0]
                              exact ⟨congrArg (fun z => some (Value.int z)) (show (1 : Int32) = f3 p1 p2 from Eq.symm ((if_neg hc2).trans ((if_neg hc12).trans ((if_neg hc22).trans ((if_neg hc32).trans ((if_neg hc42).trans ((if_neg hc52).trans ((if_neg hc62).trans ((if_neg hc72).trans ((if_neg hc82).trans ((if_neg hc92).trans ((if_neg hc107).trans ((if_neg hc122).trans ((if_pos hc137).trans (if_pos hc140))))))))))))))), N0, rfl⟩
                            · have K143 : ∀ t, Steps p.tables e below (s₁.setTop (mkF m 150 #[.val (.int p1), .val (.int p2)] [])) t → Steps p.tables e below (s₁.setTop (mkF m 147 #[.val (.int p1), .val (.int p2)] [(.int (3 : Int32)), (.int p2)])) t := by
                                intro t k
                                refine XS.icmpNo X0.here hx rfl (Jvm.hb hby d3_147) rfl (feq hc140).1 ?_
                                exact k
                              have K144 : ∀ t, Steps p.tables e below (s₁.setTop (mkF m 152 #[.val (.int p1), .val (.int p2)] [(.int (4 : Int32)), (.int p2)])) t → Steps p.tables e below (s₁.setTop (mkF m 150 #[.val (.int p1), .val (.int p2)] [])) t := by
                                intro t k
                                refine XS.iloadN X0.here hx rfl (Jvm.hb hby d3_150) rfl ?_
                                show Steps p.tables e below (s₁.setTop (mkF m 151 #[.val (.int p1), .val (.int p2)] [(.int p2)])) t
                                refine XS.iconst X0.here hx rfl (Jvm.hb hby d3_151) ?_
                                show Steps p.tables e below (s₁.setTop (mkF m 152 #[.val (.int p1), .val (.int p2)] [(.int (4 : Int32)), (.int p2)])) t
                                exact k
                              by_cases hc145 : p2 = (4 : Int32)
                              · have K146 : ∀ t, Steps p.tables e below (s₁.setTop (mkF m 155 #[.val (.int p1), .val (.int p2)] [])) t → Steps p.tables e below (s₁.setTop (mkF m 152 #[.val (.int p1), .val (.int p2)] [(.int (4 : Int32)), (.int p2)])) t := by
                                  intro t k
                                  refine XS.icmpNo X0.here hx rfl (Jvm.hb hby d3_152) rfl (teq hc145).2 ?_
                                  exact k
                                have K147 : ∀ t, Steps p.tables e below (s₁.setTop (mkF m 160 #[.val (.int p1), .val (.int p2)] [(.int (1 : Int32))])) t → Steps p.tables e below (s₁.setTop (mkF m 155 #[.val (.int p1), .val (.int p2)] [])) t := by
                                  intro t k
                                  refine XS.iconst X0.here hx rfl (Jvm.hb hby d3_155) ?_
                                  show Steps p.tables e below (s₁.setTop (mkF m 156 #[.val (.int p1), .val (.int p2)] [(.int (1 : Int32))])) t
                                  refine XS.goto X0.here hx rfl (pc0 := 156) (pc' := 160) rfl (Jvm.hb hby d3_156) (by decide) (by decide) ?_
                                  show Steps p.tables e below (s₁.setTop (mkF m 160 #[.val (.int p1), .val (.int p2)] [(.int (1 : Int32))])) t
                                  exact k
                                obtain ⟨fs, hr, hrun, hended, hW, hsame⟩ := X0.leave (v := some (.int (1 : Int32))) (fun h => by rw [Bd.returns] at h; cases h) Bd.notSynchronized
                                refine ⟨_, _, pre0 _ (K1 _ (K10 _ (K11 _ (K20 _ (K21 _ (K30 _ (K31 _ (K40 _ (K41 _ (K50 _ (K51 _ (K60 _ (K61 _ (K70 _ (K71 _ (K80 _ (K81 _ (K90 _ (K91 _ (K105 _ (K106 _ (K120 _ (K121 _ (K135 _ (K136 _ (K138 _ (K139 _ (K143 _ (K144 _ (K146 _ (K147 _ (retN X0 hx (t := .boolean) Bd.returns (by simp) (Jvm.hb hby d3_160) hr)))))))))))))))))))))))))))))))), hrun, hended, _, _, rfl, ?_, ⟨_, rfl⟩, hW, hsame.mono (by decide) (by decide)⟩
                                show Q3 Z p1 p2 h0 n0 _ s₁.heap _
                                rw [e0]
                                exact ⟨congrArg (fun z => some (Value.int z)) (show (1 : Int32) = f3 p1 p2 from Eq.symm ((if_neg hc2).trans ((if_neg hc12).trans ((if_neg hc22).trans ((if_neg hc32).trans ((if_neg hc42).trans ((if_neg hc52).trans ((if_neg hc62).trans ((if_neg hc72).trans ((if_neg hc82).trans ((if_neg hc92).trans ((if_neg hc107).trans ((if_neg hc122).trans ((if_pos hc137).trans ((if_neg hc140).trans (if_pos hc145)))))))))))))))), N0, rfl⟩
                              · have K148 : ∀ t, Steps p.tables e below (s₁.setTop (mkF m 159 #[.val (.int p1), .val (.int p2)] [])) t → Steps p.tables e below (s₁.setTop (mkF m 152 #[.val (.int p1), .val (.int p2)] [(.int (4 : Int32)), (.int p2)])) t := by
                                  intro t k
                                  refine XS.icmpYes X0.here hx rfl (pc0 := 152) (pc' := 159) rfl (Jvm.hb hby d3_152) rfl (feq hc145).2 (by decide) (by decide) ?_
                                  exact k
                                have K149 : ∀ t, Steps p.tables e below (s₁.setTop (mkF m 160 #[.val (.int p1), .val (.int p2)] [(.int (0 : Int32))])) t → Steps p.tables e below (s₁.setTop (mkF m 159 #[.val (.int p1), .val (.int p2)] [])) t := by
                                  intro t k
                                  refine XS.iconst X0.here hx rfl (Jvm.hb hby d3_159) ?_
                                  show Steps p.tables e below (s₁.setTop (mkF m 160 #[.val (.int p1), .val (.int p2)] [(.int (0 : Int32))])) t
                                  exact k
                                obtain ⟨fs, hr, hrun, hended, hW, hsame⟩ := X0.leave (v := some (.int (0 : Int32))) (fun h => by rw [Bd.returns] at h; cases h) Bd.notSynchronized
                                refine ⟨_, _, pre0 _ (K1 _ (K10 _ (K11 _ (K20 _ (K21 _ (K30 _ (K31 _ (K40 _ (K41 _ (K50 _ (K51 _ (K60 _ (K61 _ (K70 _ (K71 _ (K80 _ (K81 _ (K90 _ (K91 _ (K105 _ (K106 _ (K120 _ (K121 _ (K135 _ (K136 _ (K138 _ (K139 _ (K143 _ (K144 _ (K148 _ (K149 _ (retN X0 hx (t := .boolean) Bd.returns (by simp) (Jvm.hb hby d3_160) hr)))))))))))))))))))))))))))))))), hrun, hended, _, _, rfl, ?_, ⟨_, rfl⟩, hW, hsame.mono (by decide) (by decide)⟩
                                show Q3 Z p1 p2 h0 n0 _ s₁.heap _
                                rw [e0]
                                exact ⟨congrArg (fun z => some (Value.int z)) (show (0 : Int32) = f3 p1 p2 from Eq.symm ((if_neg hc2).trans ((if_neg hc12).trans ((if_neg hc22).trans ((if_neg hc32).trans ((if_neg hc42).trans ((if_neg hc52).trans ((if_neg hc62).trans ((if_neg hc72).trans ((if_neg hc82).trans ((if_neg hc92).trans ((if_neg hc107).trans ((if_neg hc122).trans ((if_pos hc137).trans ((if_neg hc140).trans (if_neg hc145)))))))))))))))), N0, rfl⟩
                          · have K150 : ∀ t, Steps p.tables e below (s₁.setTop (mkF m 161 #[.val (.int p1), .val (.int p2)] [])) t → Steps p.tables e below (s₁.setTop (mkF m 142 #[.val (.int p1), .val (.int p2)] [(.int (6 : Int32)), (.int p1)])) t := by
                              intro t k
                              refine XS.icmpYes X0.here hx rfl (pc0 := 142) (pc' := 161) rfl (Jvm.hb hby d3_142) rfl (feq hc137).2 (by decide) (by decide) ?_
                              exact k
                            have K151 : ∀ t, Steps p.tables e below (s₁.setTop (mkF m 162 #[.val (.int p1), .val (.int p2)] [(.int p2)])) t → Steps p.tables e below (s₁.setTop (mkF m 161 #[.val (.int p1), .val (.int p2)] [])) t := by
                              intro t k
                              refine XS.iloadN X0.here hx rfl (Jvm.hb hby d3_161) rfl ?_
                              show Steps p.tables e below (s₁.setTop (mkF m 162 #[.val (.int p1), .val (.int p2)] [(.int p2)])) t
                              exact k
                            by_cases hc152 : p2 = (0 : Int32)
                            · have K153 : ∀ t, Steps p.tables e below (s₁.setTop (mkF m 165 #[.val (.int p1), .val (.int p2)] [])) t → Steps p.tables e below (s₁.setTop (mkF m 162 #[.val (.int p1), .val (.int p2)] [(.int p2)])) t := by
                                intro t k
                                refine XS.ifNo X0.here hx rfl (Jvm.hb hby d3_162) rfl ((if0 _ _).trans (teq hc152).2) ?_
                                exact k
                              have K154 : ∀ t, Steps p.tables e below (s₁.setTop (mkF m 170 #[.val (.int p1), .val (.int p2)] [(.int (1 : Int32))])) t → Steps p.tables e below (s₁.setTop (mkF m 165 #[.val (.int p1), .val (.int p2)] [])) t := by
                                intro t k
                                refine XS.iconst X0.here hx rfl (Jvm.hb hby d3_165) ?_
                                show Steps p.tables e below (s₁.setTop (mkF m 166 #[.val (.int p1), .val (.int p2)] [(.int (1 : Int32))])) t
                                refine XS.goto X0.here hx rfl (pc0 := 166) (pc' := 170) rfl (Jvm.hb hby d3_166) (by decide) (by decide) ?_
                                show Steps p.tables e below (s₁.setTop (mkF m 170 #[.val (.int p1), .val (.int p2)] [(.int (1 : Int32))])) t
                                exact k
                              obtain ⟨fs, hr, hrun, hended, hW, hsame⟩ := X0.leave (v := some (.int (1 : Int32))) (fun h => by rw [Bd.returns] at h; cases h) Bd.notSynchronized
                              refine ⟨_, _, pre0 _ (K1 _ (K10 _ (K11 _ (K20 _ (K21 _ (K30 _ (K31 _ (K40 _ (K41 _ (K50 _ (K51 _ (K60 _ (K61 _ (K70 _ (K71 _ (K80 _ (K81 _ (K90 _ (K91 _ (K105 _ (K106 _ (K120 _ (K121 _ (K135 _ (K136 _ (K150 _ (K151 _ (K153 _ (K154 _ (retN X0 hx (t := .boolean) Bd.returns (by simp) (Jvm.hb hby d3_170) hr)))))))))))))))))))))))))))))), hrun, hended, _, _, rfl, ?_, ⟨_, rfl⟩, hW, hsame.mono (by decide) (by decide)⟩
                              show Q3 Z p1 p2 h0 n0 _ s₁.heap _
                              rw [e0]
                              exact ⟨congrArg (fun z => some (Value.int z)) (show (1 : Int32) = f3 p1 p2 from Eq.symm ((if_neg hc2).trans ((if_neg hc12).trans ((if_neg hc22).trans ((if_neg hc32).trans ((if_neg hc42).trans ((if_neg hc52).trans ((if_neg hc62).trans ((if_neg hc72).trans ((if_neg hc82).trans ((if_neg hc92).trans ((if_neg hc107).trans ((if_neg hc122).trans ((if_neg hc137).trans (if_pos hc152))))))))))))))), N0, rfl⟩
                            · have K155 : ∀ t, Steps p.tables e below (s₁.setTop (mkF m 169 #[.val (.int p1), .val (.int p2)] [])) t → Steps p.tables e below (s₁.setTop (mkF m 162 #[.val (.int p1), .val (.int p2)] [(.int p2)])) t := by
                                intro t k
                                refine XS.ifYes X0.here hx rfl (pc0 := 162) (pc' := 169) rfl (Jvm.hb hby d3_162) rfl ((if0 _ _).trans (feq hc152).2) (by decide) (by decide) ?_
                                exact k
                              have K156 : ∀ t, Steps p.tables e below (s₁.setTop (mkF m 170 #[.val (.int p1), .val (.int p2)] [(.int (0 : Int32))])) t → Steps p.tables e below (s₁.setTop (mkF m 169 #[.val (.int p1), .val (.int p2)] [])) t := by
                                intro t k
                                refine XS.iconst X0.here hx rfl (Jvm.hb hby d3_169) ?_
                                show Steps p.tables e below (s₁.setTop (mkF m 170 #[.val (.int p1), .val (.int p2)] [(.int (0 : Int32))])) t
                                exact k
                              obtain ⟨fs, hr, hrun, hended, hW, hsame⟩ := X0.leave (v := some (.int (0 : Int32))) (fun h => by rw [Bd.returns] at h; cases h) Bd.notSynchronized
                              refine ⟨_, _, pre0 _ (K1 _ (K10 _ (K11 _ (K20 _ (K21 _ (K30 _ (K31 _ (K40 _ (K41 _ (K50 _ (K51 _ (K60 _ (K61 _ (K70 _ (K71 _ (K80 _ (K81 _ (K90 _ (K91 _ (K105 _ (K106 _ (K120 _ (K121 _ (K135 _ (K136 _ (K150 _ (K151 _ (K155 _ (K156 _ (retN X0 hx (t := .boolean) Bd.returns (by simp) (Jvm.hb hby d3_170) hr)))))))))))))))))))))))))))))), hrun, hended, _, _, rfl, ?_, ⟨_, rfl⟩, hW, hsame.mono (by decide) (by decide)⟩
                              show Q3 Z p1 p2 h0 n0 _ s₁.heap _
                              rw [e0]
                              exact ⟨congrArg (fun z => some (Value.int z)) (show (0 : Int32) = f3 p1 p2 from Eq.symm ((if_neg hc2).trans ((if_neg hc12).trans ((if_neg hc22).trans ((if_neg hc32).trans ((if_neg hc42).trans ((if_neg hc52).trans ((if_neg hc62).trans ((if_neg hc72).trans ((if_neg hc82).trans ((if_neg hc92).trans ((if_neg hc107).trans ((if_neg hc122).trans ((if_neg hc137).trans (if_neg hc152))))))))))))))), N0, rfl⟩
-- body 0: com/example/nestway/nestway/sparql/FunctionTakesPinLaw.law(III)Z
theorem pn_0 : plainName "com/example/nestway/nestway/sparql/FunctionTakesPinLaw" = true := by first | (simp [plainName, overriddenIn]; done) | decide +kernel
theorem pd_0 : parseMethodDescriptor "(I)Lcom/example/nestway/nestway/sparql/Function;" = some ⟨[.int], some (.object "com/example/nestway/nestway/sparql/Function")⟩ := by decide +kernel
theorem pd_1 : parseMethodDescriptor "(I)Z" = some ⟨[.int], some .boolean⟩ := by decide +kernel
theorem pd_2 : parseMethodDescriptor "(II)Z" = some ⟨[.int, .int], some .boolean⟩ := by decide +kernel
theorem ef_0 (m : MethodId) (p1 : Int32) (p2 : Int32) (p3 : Int32) : entryFrame m #[(.int p1), (.int p2), (.int p3)] maxLocals = mkF m 0 #[.val (.int p1), .val (.int p2), .val (.int p3), .unset, .unset, .unset, .unset, .unset] [] := by first | (simp [entryFrame, mkF, argsToLocals, Value.category, maxLocals]; done) | rfl
def f0_u1 (p1 : Int32) (p2 : Int32) (v_least_x1 : Int32) (v_most_x1 : Int32) : Int32 := (if (f2 p2 v_least_x1 v_most_x1) = (f3 (p1 &&& (15 : Int32)) p2) then (1 : Int32) else (0 : Int32))
def f0_u2 (p1 : Int32) (p3 : Int32) (v_least_x1 : Int32) (v_most_x1 : Int32) : Int32 := (if (f2 ((p3 &&& (7 : Int32)) - (2 : Int32)) v_least_x1 v_most_x1) = (f3 (p1 &&& (15 : Int32)) ((p3 &&& (7 : Int32)) - (2 : Int32))) then (1 : Int32) else (0 : Int32))
def f0 (p1 : Int32) (p2 : Int32) (p3 : Int32) (v_least_x1 : Int32) (v_most_x1 : Int32) : Int32 := (if (f0_u1 p1 p2 v_least_x1 v_most_x1) = (0 : Int32) then (0 : Int32) else (if (f0_u2 p1 p3 v_least_x1 v_most_x1) = (0 : Int32) then (0 : Int32) else (1 : Int32)))
def Q0 (Z : State) (p1 : Int32) (p2 : Int32) (p3 : Int32) (w_IF : Addr) (w_COALESCE : Addr) (w_SAME_TERM : Addr) (w_STRLEN : Addr) (w_BNODE : Addr) (w_SUBSTR : Addr) (w_REPLACE : Addr) (w_UUID : Addr) (w_CONCAT : Addr) (w_REGEX : Addr) (w_RAND : Addr) (w_STRDT : Addr) (w_MD5 : Addr) (w_IS_IRI : Addr) (w_NOW : Addr) (w_SHA512 : Addr) (v_least_x1 : Int32) (v_most_x1 : Int32) (h0 : Heap) (n0 : Nat) (v : Option Value) (h : Heap) (L : List Loc) : Prop := v = some (.int (f0 p1 p2 p3 v_least_x1 v_most_x1)) ∧ Fr n0 L ∧ h = h0
set_option maxRecDepth 65536 in
set_option maxHeartbeats 40000000 in
theorem rm0 (l : Launch) (Z : State) (a0 : Array Value) (hw : ∀ d ∈ tables_1, d.before a0 Z = true) (ws : List Jvm.Cond) (p1 : Int32) (p2 : Int32) (p3 : Int32) (w_IF : Addr) (w_COALESCE : Addr) (w_SAME_TERM : Addr) (w_STRLEN : Addr) (w_BNODE : Addr) (w_SUBSTR : Addr) (w_REPLACE : Addr) (w_UUID : Addr) (w_CONCAT : Addr) (w_REGEX : Addr) (w_RAND : Addr) (w_STRDT : Addr) (w_MD5 : Addr) (w_IS_IRI : Addr) (w_NOW : Addr) (w_SHA512 : Addr) (v_least_x1 : Int32) (v_most_x1 : Int32) (h0 : Heap) (n0 : Nat) (Z0 : n0 ≤ h0.size) (S_IF : Sta Z h0 "com/example/nestway/nestway/sparql/Function" "IF" "Lcom/example/nestway/nestway/sparql/Function;" (.ref w_IF)) (S_COALESCE : Sta Z h0 "com/example/nestway/nestway/sparql/Function" "COALESCE" "Lcom/example/nestway/nestway/sparql/Function;" (.ref w_COALESCE)) (S_SAME_TERM : Sta Z h0 "com/example/nestway/nestway/sparql/Function" "SAME_TERM" "Lcom/example/nestway/nestway/sparql/Function;" (.ref w_SAME_TERM)) (S_STRLEN : Sta Z h0 "com/example/nestway/nestway/sparql/Function" "STRLEN" "Lcom/example/nestway/nestway/sparql/Function;" (.ref w_STRLEN)) (S_BNODE : Sta Z h0 "com/example/nestway/nestway/sparql/Function" "BNODE" "Lcom/example/nestway/nestway/sparql/Function;" (.ref w_BNODE)) (S_SUBSTR : Sta Z h0 "com/example/nestway/nestway/sparql/Function" "SUBSTR" "Lcom/example/nestway/nestway/sparql/Function;" (.ref w_SUBSTR)) (S_REPLACE : Sta Z h0 "com/example/nestway/nestway/sparql/Function" "REPLACE" "Lcom/example/nestway/nestway/sparql/Function;" (.ref w_REPLACE)) (S_UUID : Sta Z h0 "com/example/nestway/nestway/sparql/Function" "UUID" "Lcom/example/nestway/nestway/sparql/Function;" (.ref w_UUID)) (S_CONCAT : Sta Z h0 "com/example/nestway/nestway/sparql/Function" "CONCAT" "Lcom/example/nestway/nestway/sparql/Function;" (.ref w_CONCAT)) (S_REGEX : Sta Z h0 "com/example/nestway/nestway/sparql/Function" "REGEX" "Lcom/example/nestway/nestway/sparql/Function;" (.ref w_REGEX)) (S_RAND : Sta Z h0 "com/example/nestway/nestway/sparql/Function" "RAND" "Lcom/example/nestway/nestway/sparql/Function;" (.ref w_RAND)) (S_STRDT : Sta Z h0 "com/example/nestway/nestway/sparql/Function" "STRDT" "Lcom/example/nestway/nestway/sparql/Function;" (.ref w_STRDT)) (S_MD5 : Sta Z h0 "com/example/nestway/nestway/sparql/Function" "MD5" "Lcom/example/nestway/nestway/sparql/Function;" (.ref w_MD5)) (S_IS_IRI : Sta Z h0 "com/example/nestway/nestway/sparql/Function" "IS_IRI" "Lcom/example/nestway/nestway/sparql/Function;" (.ref w_IS_IRI)) (S_NOW : Sta Z h0 "com/example/nestway/nestway/sparql/Function" "NOW" "Lcom/example/nestway/nestway/sparql/Function;" (.ref w_NOW)) (S_SHA512 : Sta Z h0 "com/example/nestway/nestway/sparql/Function" "SHA512" "Lcom/example/nestway/nestway/sparql/Function;" (.ref w_SHA512)) (E_x1 : Exa Z h0 (f1 (p1 &&& (15 : Int32)) w_IF w_COALESCE w_SAME_TERM w_STRLEN w_BNODE w_SUBSTR w_REPLACE w_UUID w_CONCAT w_REGEX w_RAND w_STRDT w_MD5 w_IS_IRI w_NOW w_SHA512) "com/example/nestway/nestway/sparql/Function") (F_least_x1 : Fld Z h0 (f1 (p1 &&& (15 : Int32)) w_IF w_COALESCE w_SAME_TERM w_STRLEN w_BNODE w_SUBSTR w_REPLACE w_UUID w_CONCAT w_REGEX w_RAND w_STRDT w_MD5 w_IS_IRI w_NOW w_SHA512) "com/example/nestway/nestway/sparql/Function" "least" "I" (.int v_least_x1)) (F_most_x1 : Fld Z h0 (f1 (p1 &&& (15 : Int32)) w_IF w_COALESCE w_SAME_TERM w_STRLEN w_BNODE w_SUBSTR w_REPLACE w_UUID w_CONCAT w_REGEX w_RAND w_STRDT w_MD5 w_IS_IRI w_NOW w_SHA512) "com/example/nestway/nestway/sparql/Function" "most" "I" (.int v_most_x1)) :
    MetFree l x (head1 (Jvm.Cond.code x code maxLocals ret :: ws) room_1) (fun a U => a = #[(.int p1), (.int p2), (.int p3)] ∧ Z.Warmed39 U.vm ∧ U.heap = h0) (fun _ _ _ _ _ => True) (fun _ U o U' => ∃ v L, o = .returned v ∧ Q0 Z p1 p2 p3 w_IF w_COALESCE w_SAME_TERM w_STRLEN w_BNODE w_SUBSTR w_REPLACE w_UUID w_CONCAT w_REGEX w_RAND w_STRDT w_MD5 w_IS_IRI w_NOW w_SHA512 v_least_x1 v_most_x1 h0 n0 v U'.heap L ∧ FrameEnd U o U' L room_1.cells room_1.slots) := by
  refine MetFree.of_bodySF (plainFor_of_name pn_0) hisR ?_
  intro p e s m args below meth c s₁ Bd hml0 hP hK
  obtain ⟨rfl, hZ, hh⟩ := hP
  have hx := Bd.exec
  have hby := Bd.bytes
  have hml : c.maxLocals = 8 := hml0
  have hown : s.vm.findClass "com/example/nestway/nestway/sparql/FunctionTakesPinLaw" = some m.cls := findClass_of_methodNamed Bd.named
  have hnm := (name_of_methodNamed Bd.named Bd.method).1
  have X0 : Stand p l e room_1 s m #[(.int p1), (.int p2), (.int p3)] below meth c s₁ [] 0 0 := Stand.of_body Bd
  have e0 : s₁.heap = h0 := by rw [← hh, Bd.state]; rfl
  have N0 := Fr.nil n0
  have pre0 : ∀ t, Steps p.tables e below (s₁.setTop (mkF m 0 #[.val (.int p1), .val (.int p2), .val (.int p3), .unset, .unset, .unset, .unset, .unset] [])) t → Steps p.tables e below (s₁.setTop (entryFrame m #[(.int p1), (.int p2), (.int p3)] maxLocals)) t := fun t k => castTop (ef_0 m p1 p2 p3) k
  have K1 : ∀ t, Steps p.tables e below (s₁.setTop (mkF m 14 #[.val (.int p1), .val (.int p2), .val (.int p3), .val (.int (p1 &&& (15 : Int32))), .val (.int ((p3 &&& (7 : Int32)) - (2 : Int32))), .unset, .unset, .unset] [(.int (p1 &&& (15 : Int32)))])) t → Steps p.tables e below (s₁.setTop (mkF m 0 #[.val (.int p1), .val (.int p2), .val (.int p3), .unset, .unset, .unset, .unset, .unset] [])) t := by
    intro t k
    refine XS.iloadN X0.here hx rfl (Jvm.hb hby at_0) rfl ?_
    show Steps p.tables e below (s₁.setTop (mkF m 1 #[.val (.int p1), .val (.int p2), .val (.int p3), .unset, .unset, .unset, .unset, .unset] [(.int p1)])) t
    refine XS.bipush X0.here hx rfl (Jvm.hb hby at_1) ?_
    show Steps p.tables e below (s₁.setTop (mkF m 3 #[.val (.int p1), .val (.int p2), .val (.int p3), .unset, .unset, .unset, .unset, .unset] [(.int (15 : Int32)), (.int p1)])) t
    refine XS.iand X0.here hx rfl (Jvm.hb hby at_3) rfl ?_
    show Steps p.tables e below (s₁.setTop (mkF m 4 #[.val (.int p1), .val (.int p2), .val (.int p3), .unset, .unset, .unset, .unset, .unset] [(.int (p1 &&& (15 : Int32)))])) t
    refine XS.istoreN X0.here hx rfl (Jvm.hb hby at_4) rfl (l' := #[.val (.int p1), .val (.int p2), .val (.int p3), .val (.int (p1 &&& (15 : Int32))), .unset, .unset, .unset, .unset]) rfl ?_
    show Steps p.tables e below (s₁.setTop (mkF m 5 #[.val (.int p1), .val (.int p2), .val (.int p3), .val (.int (p1 &&& (15 : Int32))), .unset, .unset, .unset, .unset] [])) t
    refine XS.iloadN X0.here hx rfl (Jvm.hb hby at_5) rfl ?_
    show Steps p.tables e below (s₁.setTop (mkF m 6 #[.val (.int p1), .val (.int p2), .val (.int p3), .val (.int (p1 &&& (15 : Int32))), .unset, .unset, .unset, .unset] [(.int p3)])) t
    refine XS.bipush X0.here hx rfl (Jvm.hb hby at_6) ?_
    show Steps p.tables e below (s₁.setTop (mkF m 8 #[.val (.int p1), .val (.int p2), .val (.int p3), .val (.int (p1 &&& (15 : Int32))), .unset, .unset, .unset, .unset] [(.int (7 : Int32)), (.int p3)])) t
    refine XS.iand X0.here hx rfl (Jvm.hb hby at_8) rfl ?_
    show Steps p.tables e below (s₁.setTop (mkF m 9 #[.val (.int p1), .val (.int p2), .val (.int p3), .val (.int (p1 &&& (15 : Int32))), .unset, .unset, .unset, .unset] [(.int (p3 &&& (7 : Int32)))])) t
    refine XS.iconst X0.here hx rfl (Jvm.hb hby at_9) ?_
    show Steps p.tables e below (s₁.setTop (mkF m 10 #[.val (.int p1), .val (.int p2), .val (.int p3), .val (.int (p1 &&& (15 : Int32))), .unset, .unset, .unset, .unset] [(.int (2 : Int32)), (.int (p3 &&& (7 : Int32)))])) t
    refine XS.isub X0.here hx rfl (Jvm.hb hby at_10) rfl ?_
    show Steps p.tables e below (s₁.setTop (mkF m 11 #[.val (.int p1), .val (.int p2), .val (.int p3), .val (.int (p1 &&& (15 : Int32))), .unset, .unset, .unset, .unset] [(.int ((p3 &&& (7 : Int32)) - (2 : Int32)))])) t
    refine XS.istore X0.here hx rfl (Jvm.hb hby at_11) rfl (l' := #[.val (.int p1), .val (.int p2), .val (.int p3), .val (.int (p1 &&& (15 : Int32))), .val (.int ((p3 &&& (7 : Int32)) - (2 : Int32))), .unset, .unset, .unset]) rfl ?_
    show Steps p.tables e below (s₁.setTop (mkF m 13 #[.val (.int p1), .val (.int p2), .val (.int p3), .val (.int (p1 &&& (15 : Int32))), .val (.int ((p3 &&& (7 : Int32)) - (2 : Int32))), .unset, .unset, .unset] [])) t
    refine XS.iloadN X0.here hx rfl (Jvm.hb hby at_13) rfl ?_
    show Steps p.tables e below (s₁.setTop (mkF m 14 #[.val (.int p1), .val (.int p2), .val (.int p3), .val (.int (p1 &&& (15 : Int32))), .val (.int ((p3 &&& (7 : Int32)) - (2 : Int32))), .unset, .unset, .unset] [(.int (p1 &&& (15 : Int32)))])) t
    exact k
  obtain ⟨_, _, ⟨T2, L2, k2, n2⟩, -, X2, ⟨Lc2, hQ2, l2, y2, z2⟩, st2⟩ := Jvm.LawKit.callS X0 hx (y := (⟨"com/example/nestway/nestway/sparql/FunctionTakesPinLaw", "pick", "(I)Lcom/example/nestway/nestway/sparql/Function;"⟩ : MethodName)) hown (mvT hZ (hw _ (List.mem_of_getElem? (i := 0) rfl))) (mvT hZ (hw _ (List.mem_of_getElem? (i := 1) rfl))) (mvT hZ (hw _ (List.mem_of_getElem? (i := 2) rfl))) (mvT hZ (hw _ (List.mem_of_getElem? (i := 3) rfl))) (by decide) (backOf (W := 0) (rm1 l Z a0 hw [] (p1 &&& (15 : Int32)) w_IF w_COALESCE w_SAME_TERM w_STRLEN w_BNODE w_SUBSTR w_REPLACE w_UUID w_CONCAT w_REGEX w_RAND w_STRDT w_MD5 w_IS_IRI w_NOW w_SHA512 h0 n0 Z0 S_IF S_COALESCE S_SAME_TERM S_STRLEN S_BNODE S_SUBSTR S_REPLACE S_UUID S_CONCAT S_REGEX S_RAND S_STRDT S_MD5 S_IS_IRI S_NOW S_SHA512) hZ (hw _ (List.mem_of_getElem? (i := 3) rfl)) (hw _ (List.mem_of_getElem? (i := 2) rfl)) (by decide) (by decide)) (g := (mkF m 14 #[.val (.int p1), .val (.int p2), .val (.int p3), .val (.int (p1 &&& (15 : Int32))), .val (.int ((p3 &&& (7 : Int32)) - (2 : Int32))), .unset, .unset, .unset] [(.int (p1 &&& (15 : Int32)))])) rfl (by rw [hml]; rfl) (argsL := [(.int (p1 &&& (15 : Int32)))]) (rest := []) (lenOf pd_0 rfl) rfl (by show 2 * 0 + _ ≤ _; exact Nat.le_of_eq rfl) (Jvm.hb hby at_14) (fun _ _ => ⟨rfl, e0, (by decide : 0 + 0 ≤ _), (by decide : 0 + 0 ≤ _)⟩)
  dsimp only [Pt.U, Pt.locs, Pt.cells, Pt.slots] at X2 l2 y2 z2 st2 hQ2
  subst l2 y2 z2
  obtain ⟨rfl, N2q, e2⟩ := hQ2
  have N2 := Fr.app N0 N2q
  have K3 : ∀ t, Steps p.tables e below (T2.setTop (mkF m 17 #[.val (.int p1), .val (.int p2), .val (.int p3), .val (.int (p1 &&& (15 : Int32))), .val (.int ((p3 &&& (7 : Int32)) - (2 : Int32))), .unset, .unset, .unset] [(.ref (f1 (p1 &&& (15 : Int32)) w_IF w_COALESCE w_SAME_TERM w_STRLEN w_BNODE w_SUBSTR w_REPLACE w_UUID w_CONCAT w_REGEX w_RAND w_STRDT w_MD5 w_IS_IRI w_NOW w_SHA512))])) t → Steps p.tables e below (s₁.setTop (mkF m 14 #[.val (.int p1), .val (.int p2), .val (.int p3), .val (.int (p1 &&& (15 : Int32))), .val (.int ((p3 &&& (7 : Int32)) - (2 : Int32))), .unset, .unset, .unset] [(.int (p1 &&& (15 : Int32)))])) t := fun t k => st2 _ k
  have K4 : ∀ t, Steps p.tables e below (T2.setTop (mkF m 22 #[.val (.int p1), .val (.int p2), .val (.int p3), .val (.int (p1 &&& (15 : Int32))), .val (.int ((p3 &&& (7 : Int32)) - (2 : Int32))), .val (.ref (f1 (p1 &&& (15 : Int32)) w_IF w_COALESCE w_SAME_TERM w_STRLEN w_BNODE w_SUBSTR w_REPLACE w_UUID w_CONCAT w_REGEX w_RAND w_STRDT w_MD5 w_IS_IRI w_NOW w_SHA512)), .unset, .unset] [(.int p2), (.ref (f1 (p1 &&& (15 : Int32)) w_IF w_COALESCE w_SAME_TERM w_STRLEN w_BNODE w_SUBSTR w_REPLACE w_UUID w_CONCAT w_REGEX w_RAND w_STRDT w_MD5 w_IS_IRI w_NOW w_SHA512))])) t → Steps p.tables e below (T2.setTop (mkF m 17 #[.val (.int p1), .val (.int p2), .val (.int p3), .val (.int (p1 &&& (15 : Int32))), .val (.int ((p3 &&& (7 : Int32)) - (2 : Int32))), .unset, .unset, .unset] [(.ref (f1 (p1 &&& (15 : Int32)) w_IF w_COALESCE w_SAME_TERM w_STRLEN w_BNODE w_SUBSTR w_REPLACE w_UUID w_CONCAT w_REGEX w_RAND w_STRDT w_MD5 w_IS_IRI w_NOW w_SHA512))])) t := by
    intro t k
    refine XS.astore X2.here hx rfl (Jvm.hb hby at_17) rfl rfl (l' := #[.val (.int p1), .val (.int p2), .val (.int p3), .val (.int (p1 &&& (15 : Int32))), .val (.int ((p3 &&& (7 : Int32)) - (2 : Int32))), .val (.ref (f1 (p1 &&& (15 : Int32)) w_IF w_COALESCE w_SAME_TERM w_STRLEN w_BNODE w_SUBSTR w_REPLACE w_UUID w_CONCAT w_REGEX w_RAND w_STRDT w_MD5 w_IS_IRI w_NOW w_SHA512)), .unset, .unset]) rfl ?_
    show Steps p.tables e below (T2.setTop (mkF m 19 #[.val (.int p1), .val (.int p2), .val (.int p3), .val (.int (p1 &&& (15 : Int32))), .val (.int ((p3 &&& (7 : Int32)) - (2 : Int32))), .val (.ref (f1 (p1 &&& (15 : Int32)) w_IF w_COALESCE w_SAME_TERM w_STRLEN w_BNODE w_SUBSTR w_REPLACE w_UUID w_CONCAT w_REGEX w_RAND w_STRDT w_MD5 w_IS_IRI w_NOW w_SHA512)), .unset, .unset] [])) t
    refine XS.aload X2.here hx rfl (Jvm.hb hby at_19) rfl rfl ?_
    show Steps p.tables e below (T2.setTop (mkF m 21 #[.val (.int p1), .val (.int p2), .val (.int p3), .val (.int (p1 &&& (15 : Int32))), .val (.int ((p3 &&& (7 : Int32)) - (2 : Int32))), .val (.ref (f1 (p1 &&& (15 : Int32)) w_IF w_COALESCE w_SAME_TERM w_STRLEN w_BNODE w_SUBSTR w_REPLACE w_UUID w_CONCAT w_REGEX w_RAND w_STRDT w_MD5 w_IS_IRI w_NOW w_SHA512)), .unset, .unset] [(.ref (f1 (p1 &&& (15 : Int32)) w_IF w_COALESCE w_SAME_TERM w_STRLEN w_BNODE w_SUBSTR w_REPLACE w_UUID w_CONCAT w_REGEX w_RAND w_STRDT w_MD5 w_IS_IRI w_NOW w_SHA512))])) t
    refine XS.iloadN X2.here hx rfl (Jvm.hb hby at_21) rfl ?_
    show Steps p.tables e below (T2.setTop (mkF m 22 #[.val (.int p1), .val (.int p2), .val (.int p3), .val (.int (p1 &&& (15 : Int32))), .val (.int ((p3 &&& (7 : Int32)) - (2 : Int32))), .val (.ref (f1 (p1 &&& (15 : Int32)) w_IF w_COALESCE w_SAME_TERM w_STRLEN w_BNODE w_SUBSTR w_REPLACE w_UUID w_CONCAT w_REGEX w_RAND w_STRDT w_MD5 w_IS_IRI w_NOW w_SHA512)), .unset, .unset] [(.int p2), (.ref (f1 (p1 &&& (15 : Int32)) w_IF w_COALESCE w_SAME_TERM w_STRLEN w_BNODE w_SUBSTR w_REPLACE w_UUID w_CONCAT w_REGEX w_RAND w_STRDT w_MD5 w_IS_IRI w_NOW w_SHA512))])) t
    exact k
  obtain ⟨cq5, kq5, q5a, q5b, q5c⟩ := isOf hZ e2 E_x1
  obtain ⟨_, _, ⟨T5, L5, k5, n5⟩, -, X5, ⟨Lc5, hQ5, l5, y5, z5⟩, st5⟩ := X2.virtualBack hx (y := (⟨"com/example/nestway/nestway/sparql/Function", "takes", "(I)Z"⟩ : MethodName)) (z := (⟨"com/example/nestway/nestway/sparql/Function", "takes", "(I)Z"⟩ : MethodName)) hown (mvT hZ (hw _ (List.mem_of_getElem? (i := 7) rfl))) (mvT hZ (hw _ (List.mem_of_getElem? (i := 8) rfl))) (notFace_of_selects (args := #[]) (mvT hZ (hw _ (List.mem_of_getElem? (i := 10) rfl)))) (mvT hZ (hw _ (List.mem_of_getElem? (i := 10) rfl))) (mvT hZ (hw _ (List.mem_of_getElem? (i := 9) rfl))) (by decide) (backOf (W := 0) (rm2 l Z a0 hw [] (f1 (p1 &&& (15 : Int32)) w_IF w_COALESCE w_SAME_TERM w_STRLEN w_BNODE w_SUBSTR w_REPLACE w_UUID w_CONCAT w_REGEX w_RAND w_STRDT w_MD5 w_IS_IRI w_NOW w_SHA512) p2 v_least_x1 v_most_x1 h0 n0 Z0 F_least_x1 F_most_x1) hZ (hw _ (List.mem_of_getElem? (i := 11) rfl)) (hw _ (List.mem_of_getElem? (i := 5) rfl)) (by decide) (by decide)) q5a q5c (g := (mkF m 22 #[.val (.int p1), .val (.int p2), .val (.int p3), .val (.int (p1 &&& (15 : Int32))), .val (.int ((p3 &&& (7 : Int32)) - (2 : Int32))), .val (.ref (f1 (p1 &&& (15 : Int32)) w_IF w_COALESCE w_SAME_TERM w_STRLEN w_BNODE w_SUBSTR w_REPLACE w_UUID w_CONCAT w_REGEX w_RAND w_STRDT w_MD5 w_IS_IRI w_NOW w_SHA512)), .unset, .unset] [(.int p2), (.ref (f1 (p1 &&& (15 : Int32)) w_IF w_COALESCE w_SAME_TERM w_STRLEN w_BNODE w_SUBSTR w_REPLACE w_UUID w_CONCAT w_REGEX w_RAND w_STRDT w_MD5 w_IS_IRI w_NOW w_SHA512))])) rfl (by rw [hml]; rfl) (Steps.refl _) (argsL := [(.int p2)]) (rest := []) (lenOf pd_1 rfl) rfl (by show 2 * 0 + _ ≤ _; exact Nat.le_of_eq rfl) (Jvm.hb hby at_22) (fun _ _ => ⟨rfl, e2, (by decide : 0 + 0 ≤ _), (by decide : 0 + 0 ≤ _)⟩)
  dsimp only [Pt.U, Pt.locs, Pt.cells, Pt.slots] at X5 l5 y5 z5 st5 hQ5
  subst l5 y5 z5
  obtain ⟨rfl, N5q, e5⟩ := hQ5
  have N5 := Fr.app N2 N5q
  have K6 : ∀ t, Steps p.tables e below (T5.setTop (mkF m 25 #[.val (.int p1), .val (.int p2), .val (.int p3), .val (.int (p1 &&& (15 : Int32))), .val (.int ((p3 &&& (7 : Int32)) - (2 : Int32))), .val (.ref (f1 (p1 &&& (15 : Int32)) w_IF w_COALESCE w_SAME_TERM w_STRLEN w_BNODE w_SUBSTR w_REPLACE w_UUID w_CONCAT w_REGEX w_RAND w_STRDT w_MD5 w_IS_IRI w_NOW w_SHA512)), .unset, .unset] [(.int (f2 p2 v_least_x1 v_most_x1))])) t → Steps p.tables e below (T2.setTop (mkF m 22 #[.val (.int p1), .val (.int p2), .val (.int p3), .val (.int (p1 &&& (15 : Int32))), .val (.int ((p3 &&& (7 : Int32)) - (2 : Int32))), .val (.ref (f1 (p1 &&& (15 : Int32)) w_IF w_COALESCE w_SAME_TERM w_STRLEN w_BNODE w_SUBSTR w_REPLACE w_UUID w_CONCAT w_REGEX w_RAND w_STRDT w_MD5 w_IS_IRI w_NOW w_SHA512)), .unset, .unset] [(.int p2), (.ref (f1 (p1 &&& (15 : Int32)) w_IF w_COALESCE w_SAME_TERM w_STRLEN w_BNODE w_SUBSTR w_REPLACE w_UUID w_CONCAT w_REGEX w_RAND w_STRDT w_MD5 w_IS_IRI w_NOW w_SHA512))])) t := fun t k => st5.trans k
  have K7 : ∀ t, Steps p.tables e below (T5.setTop (mkF m 27 #[.val (.int p1), .val (.int p2), .val (.int p3), .val (.int (p1 &&& (15 : Int32))), .val (.int ((p3 &&& (7 : Int32)) - (2 : Int32))), .val (.ref (f1 (p1 &&& (15 : Int32)) w_IF w_COALESCE w_SAME_TERM w_STRLEN w_BNODE w_SUBSTR w_REPLACE w_UUID w_CONCAT w_REGEX w_RAND w_STRDT w_MD5 w_IS_IRI w_NOW w_SHA512)), .unset, .unset] [(.int p2), (.int (p1 &&& (15 : Int32))), (.int (f2 p2 v_least_x1 v_most_x1))])) t → Steps p.tables e below (T5.setTop (mkF m 25 #[.val (.int p1), .val (.int p2), .val (.int p3), .val (.int (p1 &&& (15 : Int32))), .val (.int ((p3 &&& (7 : Int32)) - (2 : Int32))), .val (.ref (f1 (p1 &&& (15 : Int32)) w_IF w_COALESCE w_SAME_TERM w_STRLEN w_BNODE w_SUBSTR w_REPLACE w_UUID w_CONCAT w_REGEX w_RAND w_STRDT w_MD5 w_IS_IRI w_NOW w_SHA512)), .unset, .unset] [(.int (f2 p2 v_least_x1 v_most_x1))])) t := by
    intro t k
    refine XS.iloadN X5.here hx rfl (Jvm.hb hby at_25) rfl ?_
    show Steps p.tables e below (T5.setTop (mkF m 26 #[.val (.int p1), .val (.int p2), .val (.int p3), .val (.int (p1 &&& (15 : Int32))), .val (.int ((p3 &&& (7 : Int32)) - (2 : Int32))), .val (.ref (f1 (p1 &&& (15 : Int32)) w_IF w_COALESCE w_SAME_TERM w_STRLEN w_BNODE w_SUBSTR w_REPLACE w_UUID w_CONCAT w_REGEX w_RAND w_STRDT w_MD5 w_IS_IRI w_NOW w_SHA512)), .unset, .unset] [(.int (p1 &&& (15 : Int32))), (.int (f2 p2 v_least_x1 v_most_x1))])) t
    refine XS.iloadN X5.here hx rfl (Jvm.hb hby at_26) rfl ?_
    show Steps p.tables e below (T5.setTop (mkF m 27 #[.val (.int p1), .val (.int p2), .val (.int p3), .val (.int (p1 &&& (15 : Int32))), .val (.int ((p3 &&& (7 : Int32)) - (2 : Int32))), .val (.ref (f1 (p1 &&& (15 : Int32)) w_IF w_COALESCE w_SAME_TERM w_STRLEN w_BNODE w_SUBSTR w_REPLACE w_UUID w_CONCAT w_REGEX w_RAND w_STRDT w_MD5 w_IS_IRI w_NOW w_SHA512)), .unset, .unset] [(.int p2), (.int (p1 &&& (15 : Int32))), (.int (f2 p2 v_least_x1 v_most_x1))])) t
    exact k
  obtain ⟨_, _, ⟨T8, L8, k8, n8⟩, -, X8, ⟨Lc8, hQ8, l8, y8, z8⟩, st8⟩ := Jvm.LawKit.callS X5 hx (y := (⟨"com/example/nestway/nestway/sparql/FunctionTakesPinLaw", "expected", "(II)Z"⟩ : MethodName)) hown (mvT hZ (hw _ (List.mem_of_getElem? (i := 16) rfl))) (mvT hZ (hw _ (List.mem_of_getElem? (i := 17) rfl))) (mvT hZ (hw _ (List.mem_of_getElem? (i := 2) rfl))) (mvT hZ (hw _ (List.mem_of_getElem? (i := 18) rfl))) (by decide) (backOf (W := 1) (rm3 l Z a0 hw [] (p1 &&& (15 : Int32)) p2 h0 n0 Z0 ) hZ (hw _ (List.mem_of_getElem? (i := 18) rfl)) (hw _ (List.mem_of_getElem? (i := 2) rfl)) (by decide) (by decide)) (g := (mkF m 27 #[.val (.int p1), .val (.int p2), .val (.int p3), .val (.int (p1 &&& (15 : Int32))), .val (.int ((p3 &&& (7 : Int32)) - (2 : Int32))), .val (.ref (f1 (p1 &&& (15 : Int32)) w_IF w_COALESCE w_SAME_TERM w_STRLEN w_BNODE w_SUBSTR w_REPLACE w_UUID w_CONCAT w_REGEX w_RAND w_STRDT w_MD5 w_IS_IRI w_NOW w_SHA512)), .unset, .unset] [(.int p2), (.int (p1 &&& (15 : Int32))), (.int (f2 p2 v_least_x1 v_most_x1))])) rfl (by rw [hml]; rfl) (argsL := [(.int (p1 &&& (15 : Int32))), (.int p2)]) (rest := [(.int (f2 p2 v_least_x1 v_most_x1))]) (lenOf pd_2 rfl) rfl (by show 2 * 0 + _ ≤ _; exact Nat.le_of_eq rfl) (Jvm.hb hby at_27) (fun _ _ => ⟨rfl, e5, (by decide : 0 + 0 ≤ _), (by decide : 0 + 0 ≤ _)⟩)
  dsimp only [Pt.U, Pt.locs, Pt.cells, Pt.slots] at X8 l8 y8 z8 st8 hQ8
  subst l8 y8 z8
  obtain ⟨rfl, N8q, e8⟩ := hQ8
  have N8 := Fr.app N5 N8q
  have K9 : ∀ t, Steps p.tables e below (T8.setTop (mkF m 30 #[.val (.int p1), .val (.int p2), .val (.int p3), .val (.int (p1 &&& (15 : Int32))), .val (.int ((p3 &&& (7 : Int32)) - (2 : Int32))), .val (.ref (f1 (p1 &&& (15 : Int32)) w_IF w_COALESCE w_SAME_TERM w_STRLEN w_BNODE w_SUBSTR w_REPLACE w_UUID w_CONCAT w_REGEX w_RAND w_STRDT w_MD5 w_IS_IRI w_NOW w_SHA512)), .unset, .unset] [(.int (f3 (p1 &&& (15 : Int32)) p2)), (.int (f2 p2 v_least_x1 v_most_x1))])) t → Steps p.tables e below (T5.setTop (mkF m 27 #[.val (.int p1), .val (.int p2), .val (.int p3), .val (.int (p1 &&& (15 : Int32))), .val (.int ((p3 &&& (7 : Int32)) - (2 : Int32))), .val (.ref (f1 (p1 &&& (15 : Int32)) w_IF w_COALESCE w_SAME_TERM w_STRLEN w_BNODE w_SUBSTR w_REPLACE w_UUID w_CONCAT w_REGEX w_RAND w_STRDT w_MD5 w_IS_IRI w_NOW w_SHA512)), .unset, .unset] [(.int p2), (.int (p1 &&& (15 : Int32))), (.int (f2 p2 v_least_x1 v_most_x1))])) t := fun t k => st8 _ k
  have K10 : ∀ t, Steps p.tables e below (T8.setTop (mkF m 38 #[.val (.int p1), .val (.int p2), .val (.int p3), .val (.int (p1 &&& (15 : Int32))), .val (.int ((p3 &&& (7 : Int32)) - (2 : Int32))), .val (.ref (f1 (p1 &&& (15 : Int32)) w_IF w_COALESCE w_SAME_TERM w_STRLEN w_BNODE w_SUBSTR w_REPLACE w_UUID w_CONCAT w_REGEX w_RAND w_STRDT w_MD5 w_IS_IRI w_NOW w_SHA512)), .unset, .unset] [(.int (f0_u1 p1 p2 v_least_x1 v_most_x1))])) t → Steps p.tables e below (T8.setTop (mkF m 30 #[.val (.int p1), .val (.int p2), .val (.int p3), .val (.int (p1 &&& (15 : Int32))), .val (.int ((p3 &&& (7 : Int32)) - (2 : Int32))), .val (.ref (f1 (p1 &&& (15 : Int32)) w_IF w_COALESCE w_SAME_TERM w_STRLEN w_BNODE w_SUBSTR w_REPLACE w_UUID w_CONCAT w_REGEX w_RAND w_STRDT w_MD5 w_IS_IRI w_NOW w_SHA512)), .unset, .unset] [(.int (f3 (p1 &&& (15 : Int32)) p2)), (.int (f2 p2 v_least_x1 v_most_x1))])) t := by
    intro t k
    by_cases hc10 : (f2 p2 v_least_x1 v_most_x1) = (f3 (p1 &&& (15 : Int32)) p2)
    · have K11 : ∀ t, Steps p.tables e below (T8.setTop (mkF m 33 #[.val (.int p1), .val (.int p2), .val (.int p3), .val (.int (p1 &&& (15 : Int32))), .val (.int ((p3 &&& (7 : Int32)) - (2 : Int32))), .val (.ref (f1 (p1 &&& (15 : Int32)) w_IF w_COALESCE w_SAME_TERM w_STRLEN w_BNODE w_SUBSTR w_REPLACE w_UUID w_CONCAT w_REGEX w_RAND w_STRDT w_MD5 w_IS_IRI w_NOW w_SHA512)), .unset, .unset] [])) t → Steps p.tables e below (T8.setTop (mkF m 30 #[.val (.int p1), .val (.int p2), .val (.int p3), .val (.int (p1 &&& (15 : Int32))), .val (.int ((p3 &&& (7 : Int32)) - (2 : Int32))), .val (.ref (f1 (p1 &&& (15 : Int32)) w_IF w_COALESCE w_SAME_TERM w_STRLEN w_BNODE w_SUBSTR w_REPLACE w_UUID w_CONCAT w_REGEX w_RAND w_STRDT w_MD5 w_IS_IRI w_NOW w_SHA512)), .unset, .unset] [(.int (f3 (p1 &&& (15 : Int32)) p2)), (.int (f2 p2 v_least_x1 v_most_x1))])) t := by
        intro t k
        refine XS.icmpNo X8.here hx rfl (Jvm.hb hby at_30) rfl (teq hc10).2 ?_
        exact k
      have K12 : ∀ t, Steps p.tables e below (T8.setTop (mkF m 38 #[.val (.int p1), .val (.int p2), .val (.int p3), .val (.int (p1 &&& (15 : Int32))), .val (.int ((p3 &&& (7 : Int32)) - (2 : Int32))), .val (.ref (f1 (p1 &&& (15 : Int32)) w_IF w_COALESCE w_SAME_TERM w_STRLEN w_BNODE w_SUBSTR w_REPLACE w_UUID w_CONCAT w_REGEX w_RAND w_STRDT w_MD5 w_IS_IRI w_NOW w_SHA512)), .unset, .unset] [(.int (1 : Int32))])) t → Steps p.tables e below (T8.setTop (mkF m 33 #[.val (.int p1), .val (.int p2), .val (.int p3), .val (.int (p1 &&& (15 : Int32))), .val (.int ((p3 &&& (7 : Int32)) - (2 : Int32))), .val (.ref (f1 (p1 &&& (15 : Int32)) w_IF w_COALESCE w_SAME_TERM w_STRLEN w_BNODE w_SUBSTR w_REPLACE w_UUID w_CONCAT w_REGEX w_RAND w_STRDT w_MD5 w_IS_IRI w_NOW w_SHA512)), .unset, .unset] [])) t := by
        intro t k
        refine XS.iconst X8.here hx rfl (Jvm.hb hby at_33) ?_
        show Steps p.tables e below (T8.setTop (mkF m 34 #[.val (.int p1), .val (.int p2), .val (.int p3), .val (.int (p1 &&& (15 : Int32))), .val (.int ((p3 &&& (7 : Int32)) - (2 : Int32))), .val (.ref (f1 (p1 &&& (15 : Int32)) w_IF w_COALESCE w_SAME_TERM w_STRLEN w_BNODE w_SUBSTR w_REPLACE w_UUID w_CONCAT w_REGEX w_RAND w_STRDT w_MD5 w_IS_IRI w_NOW w_SHA512)), .unset, .unset] [(.int (1 : Int32))])) t
        refine XS.goto X8.here hx rfl (pc0 := 34) (pc' := 38) rfl (Jvm.hb hby at_34) (by decide) (by decide) ?_
        show Steps p.tables e below (T8.setTop (mkF m 38 #[.val (.int p1), .val (.int p2), .val (.int p3), .val (.int (p1 &&& (15 : Int32))), .val (.int ((p3 &&& (7 : Int32)) - (2 : Int32))), .val (.ref (f1 (p1 &&& (15 : Int32)) w_IF w_COALESCE w_SAME_TERM w_STRLEN w_BNODE w_SUBSTR w_REPLACE w_UUID w_CONCAT w_REGEX w_RAND w_STRDT w_MD5 w_IS_IRI w_NOW w_SHA512)), .unset, .unset] [(.int (1 : Int32))])) t
        exact k
      rw [show (f0_u1 p1 p2 v_least_x1 v_most_x1) = (1 : Int32) from if_pos hc10] at k
      exact K11 _ (K12 _ (k))
    · have K13 : ∀ t, Steps p.tables e below (T8.setTop (mkF m 37 #[.val (.int p1), .val (.int p2), .val (.int p3), .val (.int (p1 &&& (15 : Int32))), .val (.int ((p3 &&& (7 : Int32)) - (2 : Int32))), .val (.ref (f1 (p1 &&& (15 : Int32)) w_IF w_COALESCE w_SAME_TERM w_STRLEN w_BNODE w_SUBSTR w_REPLACE w_UUID w_CONCAT w_REGEX w_RAND w_STRDT w_MD5 w_IS_IRI w_NOW w_SHA512)), .unset, .unset] [])) t → Steps p.tables e below (T8.setTop (mkF m 30 #[.val (.int p1), .val (.int p2), .val (.int p3), .val (.int (p1 &&& (15 : Int32))), .val (.int ((p3 &&& (7 : Int32)) - (2 : Int32))), .val (.ref (f1 (p1 &&& (15 : Int32)) w_IF w_COALESCE w_SAME_TERM w_STRLEN w_BNODE w_SUBSTR w_REPLACE w_UUID w_CONCAT w_REGEX w_RAND w_STRDT w_MD5 w_IS_IRI w_NOW w_SHA512)), .unset, .unset] [(.int (f3 (p1 &&& (15 : Int32)) p2)), (.int (f2 p2 v_least_x1 v_most_x1))])) t := by
        intro t k
        refine XS.icmpYes X8.here hx rfl (pc0 := 30) (pc' := 37) rfl (Jvm.hb hby at_30) rfl (feq hc10).2 (by decide) (by decide) ?_
        exact k
      have K14 : ∀ t, Steps p.tables e below (T8.setTop (mkF m 38 #[.val (.int p1), .val (.int p2), .val (.int p3), .val (.int (p1 &&& (15 : Int32))), .val (.int ((p3 &&& (7 : Int32)) - (2 : Int32))), .val (.ref (f1 (p1 &&& (15 : Int32)) w_IF w_COALESCE w_SAME_TERM w_STRLEN w_BNODE w_SUBSTR w_REPLACE w_UUID w_CONCAT w_REGEX w_RAND w_STRDT w_MD5 w_IS_IRI w_NOW w_SHA512)), .unset, .unset] [(.int (0 : Int32))])) t → Steps p.tables e below (T8.setTop (mkF m 37 #[.val (.int p1), .val (.int p2), .val (.int p3), .val (.int (p1 &&& (15 : Int32))), .val (.int ((p3 &&& (7 : Int32)) - (2 : Int32))), .val (.ref (f1 (p1 &&& (15 : Int32)) w_IF w_COALESCE w_SAME_TERM w_STRLEN w_BNODE w_SUBSTR w_REPLACE w_UUID w_CONCAT w_REGEX w_RAND w_STRDT w_MD5 w_IS_IRI w_NOW w_SHA512)), .unset, .unset] [])) t := by
        intro t k
        refine XS.iconst X8.here hx rfl (Jvm.hb hby at_37) ?_
        show Steps p.tables e below (T8.setTop (mkF m 38 #[.val (.int p1), .val (.int p2), .val (.int p3), .val (.int (p1 &&& (15 : Int32))), .val (.int ((p3 &&& (7 : Int32)) - (2 : Int32))), .val (.ref (f1 (p1 &&& (15 : Int32)) w_IF w_COALESCE w_SAME_TERM w_STRLEN w_BNODE w_SUBSTR w_REPLACE w_UUID w_CONCAT w_REGEX w_RAND w_STRDT w_MD5 w_IS_IRI w_NOW w_SHA512)), .unset, .unset] [(.int (0 : Int32))])) t
        exact k
      rw [show (f0_u1 p1 p2 v_least_x1 v_most_x1) = (0 : Int32) from if_neg hc10] at k
      exact K13 _ (K14 _ (k))
  have K15 : ∀ t, Steps p.tables e below (T8.setTop (mkF m 44 #[.val (.int p1), .val (.int p2), .val (.int p3), .val (.int (p1 &&& (15 : Int32))), .val (.int ((p3 &&& (7 : Int32)) - (2 : Int32))), .val (.ref (f1 (p1 &&& (15 : Int32)) w_IF w_COALESCE w_SAME_TERM w_STRLEN w_BNODE w_SUBSTR w_REPLACE w_UUID w_CONCAT w_REGEX w_RAND w_STRDT w_MD5 w_IS_IRI w_NOW w_SHA512)), .val (.int (f0_u1 p1 p2 v_least_x1 v_most_x1)), .unset] [(.int ((p3 &&& (7 : Int32)) - (2 : Int32))), (.ref (f1 (p1 &&& (15 : Int32)) w_IF w_COALESCE w_SAME_TERM w_STRLEN w_BNODE w_SUBSTR w_REPLACE w_UUID w_CONCAT w_REGEX w_RAND w_STRDT w_MD5 w_IS_IRI w_NOW w_SHA512))])) t → Steps p.tables e below (T8.setTop (mkF m 38 #[.val (.int p1), .val (.int p2), .val (.int p3), .val (.int (p1 &&& (15 : Int32))), .val (.int ((p3 &&& (7 : Int32)) - (2 : Int32))), .val (.ref (f1 (p1 &&& (15 : Int32)) w_IF w_COALESCE w_SAME_TERM w_STRLEN w_BNODE w_SUBSTR w_REPLACE w_UUID w_CONCAT w_REGEX w_RAND w_STRDT w_MD5 w_IS_IRI w_NOW w_SHA512)), .unset, .unset] [(.int (f0_u1 p1 p2 v_least_x1 v_most_x1))])) t := by
    intro t k
    refine XS.istore X8.here hx rfl (Jvm.hb hby at_38) rfl (l' := #[.val (.int p1), .val (.int p2), .val (.int p3), .val (.int (p1 &&& (15 : Int32))), .val (.int ((p3 &&& (7 : Int32)) - (2 : Int32))), .val (.ref (f1 (p1 &&& (15 : Int32)) w_IF w_COALESCE w_SAME_TERM w_STRLEN w_BNODE w_SUBSTR w_REPLACE w_UUID w_CONCAT w_REGEX w_RAND w_STRDT w_MD5 w_IS_IRI w_NOW w_SHA512)), .val (.int (f0_u1 p1 p2 v_least_x1 v_most_x1)), .unset]) rfl ?_
    show Steps p.tables e below (T8.setTop (mkF m 40 #[.val (.int p1), .val (.int p2), .val (.int p3), .val (.int (p1 &&& (15 : Int32))), .val (.int ((p3 &&& (7 : Int32)) - (2 : Int32))), .val (.ref (f1 (p1 &&& (15 : Int32)) w_IF w_COALESCE w_SAME_TERM w_STRLEN w_BNODE w_SUBSTR w_REPLACE w_UUID w_CONCAT w_REGEX w_RAND w_STRDT w_MD5 w_IS_IRI w_NOW w_SHA512)), .val (.int (f0_u1 p1 p2 v_least_x1 v_most_x1)), .unset] [])) t
    refine XS.aload X8.here hx rfl (Jvm.hb hby at_40) rfl rfl ?_
    show Steps p.tables e below (T8.setTop (mkF m 42 #[.val (.int p1), .val (.int p2), .val (.int p3), .val (.int (p1 &&& (15 : Int32))), .val (.int ((p3 &&& (7 : Int32)) - (2 : Int32))), .val (.ref (f1 (p1 &&& (15 : Int32)) w_IF w_COALESCE w_SAME_TERM w_STRLEN w_BNODE w_SUBSTR w_REPLACE w_UUID w_CONCAT w_REGEX w_RAND w_STRDT w_MD5 w_IS_IRI w_NOW w_SHA512)), .val (.int (f0_u1 p1 p2 v_least_x1 v_most_x1)), .unset] [(.ref (f1 (p1 &&& (15 : Int32)) w_IF w_COALESCE w_SAME_TERM w_STRLEN w_BNODE w_SUBSTR w_REPLACE w_UUID w_CONCAT w_REGEX w_RAND w_STRDT w_MD5 w_IS_IRI w_NOW w_SHA512))])) t
    refine XS.iload X8.here hx rfl (Jvm.hb hby at_42) rfl ?_
    show Steps p.tables e below (T8.setTop (mkF m 44 #[.val (.int p1), .val (.int p2), .val (.int p3), .val (.int (p1 &&& (15 : Int32))), .val (.int ((p3 &&& (7 : Int32)) - (2 : Int32))), .val (.ref (f1 (p1 &&& (15 : Int32)) w_IF w_COALESCE w_SAME_TERM w_STRLEN w_BNODE w_SUBSTR w_REPLACE w_UUID w_CONCAT w_REGEX w_RAND w_STRDT w_MD5 w_IS_IRI w_NOW w_SHA512)), .val (.int (f0_u1 p1 p2 v_least_x1 v_most_x1)), .unset] [(.int ((p3 &&& (7 : Int32)) - (2 : Int32))), (.ref (f1 (p1 &&& (15 : Int32)) w_IF w_COALESCE w_SAME_TERM w_STRLEN w_BNODE w_SUBSTR w_REPLACE w_UUID w_CONCAT w_REGEX w_RAND w_STRDT w_MD5 w_IS_IRI w_NOW w_SHA512))])) t
    exact k
  obtain ⟨cq16, kq16, q16a, q16b, q16c⟩ := isOf hZ e8 E_x1
  obtain ⟨_, _, ⟨T16, L16, k16, n16⟩, -, X16, ⟨Lc16, hQ16, l16, y16, z16⟩, st16⟩ := X8.virtualBack hx (y := (⟨"com/example/nestway/nestway/sparql/Function", "takes", "(I)Z"⟩ : MethodName)) (z := (⟨"com/example/nestway/nestway/sparql/Function", "takes", "(I)Z"⟩ : MethodName)) hown (mvT hZ (hw _ (List.mem_of_getElem? (i := 7) rfl))) (mvT hZ (hw _ (List.mem_of_getElem? (i := 8) rfl))) (notFace_of_selects (args := #[]) (mvT hZ (hw _ (List.mem_of_getElem? (i := 10) rfl)))) (mvT hZ (hw _ (List.mem_of_getElem? (i := 10) rfl))) (mvT hZ (hw _ (List.mem_of_getElem? (i := 9) rfl))) (by decide) (backOf (W := 0) (rm2 l Z a0 hw [] (f1 (p1 &&& (15 : Int32)) w_IF w_COALESCE w_SAME_TERM w_STRLEN w_BNODE w_SUBSTR w_REPLACE w_UUID w_CONCAT w_REGEX w_RAND w_STRDT w_MD5 w_IS_IRI w_NOW w_SHA512) ((p3 &&& (7 : Int32)) - (2 : Int32)) v_least_x1 v_most_x1 h0 n0 Z0 F_least_x1 F_most_x1) hZ (hw _ (List.mem_of_getElem? (i := 11) rfl)) (hw _ (List.mem_of_getElem? (i := 5) rfl)) (by decide) (by decide)) q16a q16c (g := (mkF m 44 #[.val (.int p1), .val (.int p2), .val (.int p3), .val (.int (p1 &&& (15 : Int32))), .val (.int ((p3 &&& (7 : Int32)) - (2 : Int32))), .val (.ref (f1 (p1 &&& (15 : Int32)) w_IF w_COALESCE w_SAME_TERM w_STRLEN w_BNODE w_SUBSTR w_REPLACE w_UUID w_CONCAT w_REGEX w_RAND w_STRDT w_MD5 w_IS_IRI w_NOW w_SHA512)), .val (.int (f0_u1 p1 p2 v_least_x1 v_most_x1)), .unset] [(.int ((p3 &&& (7 : Int32)) - (2 : Int32))), (.ref (f1 (p1 &&& (15 : Int32)) w_IF w_COALESCE w_SAME_TERM w_STRLEN w_BNODE w_SUBSTR w_REPLACE w_UUID w_CONCAT w_REGEX w_RAND w_STRDT w_MD5 w_IS_IRI w_NOW w_SHA512))])) rfl (by rw [hml]; rfl) (Steps.refl _) (argsL := [(.int ((p3 &&& (7 : Int32)) - (2 : Int32)))]) (rest := []) (lenOf pd_1 rfl) rfl (by show 2 * 0 + _ ≤ _; exact Nat.le_of_eq rfl) (Jvm.hb hby at_44) (fun _ _ => ⟨rfl, e8, (by decide : 0 + 0 ≤ _), (by decide : 0 + 0 ≤ _)⟩)
  dsimp only [Pt.U, Pt.locs, Pt.cells, Pt.slots] at X16 l16 y16 z16 st16 hQ16
  subst l16 y16 z16
  obtain ⟨rfl, N16q, e16⟩ := hQ16
  have N16 := Fr.app N8 N16q
  have K17 : ∀ t, Steps p.tables e below (T16.setTop (mkF m 47 #[.val (.int p1), .val (.int p2), .val (.int p3), .val (.int (p1 &&& (15 : Int32))), .val (.int ((p3 &&& (7 : Int32)) - (2 : Int32))), .val (.ref (f1 (p1 &&& (15 : Int32)) w_IF w_COALESCE w_SAME_TERM w_STRLEN w_BNODE w_SUBSTR w_REPLACE w_UUID w_CONCAT w_REGEX w_RAND w_STRDT w_MD5 w_IS_IRI w_NOW w_SHA512)), .val (.int (f0_u1 p1 p2 v_least_x1 v_most_x1)), .unset] [(.int (f2 ((p3 &&& (7 : Int32)) - (2 : Int32)) v_least_x1 v_most_x1))])) t → Steps p.tables e below (T8.setTop (mkF m 44 #[.val (.int p1), .val (.int p2), .val (.int p3), .val (.int (p1 &&& (15 : Int32))), .val (.int ((p3 &&& (7 : Int32)) - (2 : Int32))), .val (.ref (f1 (p1 &&& (15 : Int32)) w_IF w_COALESCE w_SAME_TERM w_STRLEN w_BNODE w_SUBSTR w_REPLACE w_UUID w_CONCAT w_REGEX w_RAND w_STRDT w_MD5 w_IS_IRI w_NOW w_SHA512)), .val (.int (f0_u1 p1 p2 v_least_x1 v_most_x1)), .unset] [(.int ((p3 &&& (7 : Int32)) - (2 : Int32))), (.ref (f1 (p1 &&& (15 : Int32)) w_IF w_COALESCE w_SAME_TERM w_STRLEN w_BNODE w_SUBSTR w_REPLACE w_UUID w_CONCAT w_REGEX w_RAND w_STRDT w_MD5 w_IS_IRI w_NOW w_SHA512))])) t := fun t k => st16.trans k
  have K18 : ∀ t, Steps p.tables e below (T16.setTop (mkF m 50 #[.val (.int p1), .val (.int p2), .val (.int p3), .val (.int (p1 &&& (15 : Int32))), .val (.int ((p3 &&& (7 : Int32)) - (2 : Int32))), .val (.ref (f1 (p1 &&& (15 : Int32)) w_IF w_COALESCE w_SAME_TERM w_STRLEN w_BNODE w_SUBSTR w_REPLACE w_UUID w_CONCAT w_REGEX w_RAND w_STRDT w_MD5 w_IS_IRI w_NOW w_SHA512)), .val (.int (f0_u1 p1 p2 v_least_x1 v_most_x1)), .unset] [(.int ((p3 &&& (7 : Int32)) - (2 : Int32))), (.int (p1 &&& (15 : Int32))), (.int (f2 ((p3 &&& (7 : Int32)) - (2 : Int32)) v_least_x1 v_most_x1))])) t → Steps p.tables e below (T16.setTop (mkF m 47 #[.val (.int p1), .val (.int p2), .val (.int p3), .val (.int (p1 &&& (15 : Int32))), .val (.int ((p3 &&& (7 : Int32)) - (2 : Int32))), .val (.ref (f1 (p1 &&& (15 : Int32)) w_IF w_COALESCE w_SAME_TERM w_STRLEN w_BNODE w_SUBSTR w_REPLACE w_UUID w_CONCAT w_REGEX w_RAND w_STRDT w_MD5 w_IS_IRI w_NOW w_SHA512)), .val (.int (f0_u1 p1 p2 v_least_x1 v_most_x1)), .unset] [(.int (f2 ((p3 &&& (7 : Int32)) - (2 : Int32)) v_least_x1 v_most_x1))])) t := by
    intro t k
    refine XS.iloadN X16.here hx rfl (Jvm.hb hby at_47) rfl ?_
    show Steps p.tables e below (T16.setTop (mkF m 48 #[.val (.int p1), .val (.int p2), .val (.int p3), .val (.int (p1 &&& (15 : Int32))), .val (.int ((p3 &&& (7 : Int32)) - (2 : Int32))), .val (.ref (f1 (p1 &&& (15 : Int32)) w_IF w_COALESCE w_SAME_TERM w_STRLEN w_BNODE w_SUBSTR w_REPLACE w_UUID w_CONCAT w_REGEX w_RAND w_STRDT w_MD5 w_IS_IRI w_NOW w_SHA512)), .val (.int (f0_u1 p1 p2 v_least_x1 v_most_x1)), .unset] [(.int (p1 &&& (15 : Int32))), (.int (f2 ((p3 &&& (7 : Int32)) - (2 : Int32)) v_least_x1 v_most_x1))])) t
    refine XS.iload X16.here hx rfl (Jvm.hb hby at_48) rfl ?_
    show Steps p.tables e below (T16.setTop (mkF m 50 #[.val (.int p1), .val (.int p2), .val (.int p3), .val (.int (p1 &&& (15 : Int32))), .val (.int ((p3 &&& (7 : Int32)) - (2 : Int32))), .val (.ref (f1 (p1 &&& (15 : Int32)) w_IF w_COALESCE w_SAME_TERM w_STRLEN w_BNODE w_SUBSTR w_REPLACE w_UUID w_CONCAT w_REGEX w_RAND w_STRDT w_MD5 w_IS_IRI w_NOW w_SHA512)), .val (.int (f0_u1 p1 p2 v_least_x1 v_most_x1)), .unset] [(.int ((p3 &&& (7 : Int32)) - (2 : Int32))), (.int (p1 &&& (15 : Int32))), (.int (f2 ((p3 &&& (7 : Int32)) - (2 : Int32)) v_least_x1 v_most_x1))])) t
    exact k
  obtain ⟨_, _, ⟨T19, L19, k19, n19⟩, -, X19, ⟨Lc19, hQ19, l19, y19, z19⟩, st19⟩ := Jvm.LawKit.callS X16 hx (y := (⟨"com/example/nestway/nestway/sparql/FunctionTakesPinLaw", "expected", "(II)Z"⟩ : MethodName)) hown (mvT hZ (hw _ (List.mem_of_getElem? (i := 16) rfl))) (mvT hZ (hw _ (List.mem_of_getElem? (i := 17) rfl))) (mvT hZ (hw _ (List.mem_of_getElem? (i := 2) rfl))) (mvT hZ (hw _ (List.mem_of_getElem? (i := 18) rfl))) (by decide) (backOf (W := 1) (rm3 l Z a0 hw [] (p1 &&& (15 : Int32)) ((p3 &&& (7 : Int32)) - (2 : Int32)) h0 n0 Z0 ) hZ (hw _ (List.mem_of_getElem? (i := 18) rfl)) (hw _ (List.mem_of_getElem? (i := 2) rfl)) (by decide) (by decide)) (g := (mkF m 50 #[.val (.int p1), .val (.int p2), .val (.int p3), .val (.int (p1 &&& (15 : Int32))), .val (.int ((p3 &&& (7 : Int32)) - (2 : Int32))), .val (.ref (f1 (p1 &&& (15 : Int32)) w_IF w_COALESCE w_SAME_TERM w_STRLEN w_BNODE w_SUBSTR w_REPLACE w_UUID w_CONCAT w_REGEX w_RAND w_STRDT w_MD5 w_IS_IRI w_NOW w_SHA512)), .val (.int (f0_u1 p1 p2 v_least_x1 v_most_x1)), .unset] [(.int ((p3 &&& (7 : Int32)) - (2 : Int32))), (.int (p1 &&& (15 : Int32))), (.int (f2 ((p3 &&& (7 : Int32)) - (2 : Int32)) v_least_x1 v_most_x1))])) rfl (by rw [hml]; rfl) (argsL := [(.int (p1 &&& (15 : Int32))), (.int ((p3 &&& (7 : Int32)) - (2 : Int32)))]) (rest := [(.int (f2 ((p3 &&& (7 : Int32)) - (2 : Int32)) v_least_x1 v_most_x1))]) (lenOf pd_2 rfl) rfl (by show 2 * 0 + _ ≤ _; exact Nat.le_of_eq rfl) (Jvm.hb hby at_50) (fun _ _ => ⟨rfl, e16, (by decide : 0 + 0 ≤ _), (by decide : 0 + 0 ≤ _)⟩)
  dsimp only [Pt.U, Pt.locs, Pt.cells, Pt.slots] at X19 l19 y19 z19 st19 hQ19
  subst l19 y19 z19
  obtain ⟨rfl, N19q, e19⟩ := hQ19
  have N19 := Fr.app N16 N19q
  have K20 : ∀ t, Steps p.tables e below (T19.setTop (mkF m 53 #[.val (.int p1), .val (.int p2), .val (.int p3), .val (.int (p1 &&& (15 : Int32))), .val (.int ((p3 &&& (7 : Int32)) - (2 : Int32))), .val (.ref (f1 (p1 &&& (15 : Int32)) w_IF w_COALESCE w_SAME_TERM w_STRLEN w_BNODE w_SUBSTR w_REPLACE w_UUID w_CONCAT w_REGEX w_RAND w_STRDT w_MD5 w_IS_IRI w_NOW w_SHA512)), .val (.int (f0_u1 p1 p2 v_least_x1 v_most_x1)), .unset] [(.int (f3 (p1 &&& (15 : Int32)) ((p3 &&& (7 : Int32)) - (2 : Int32)))), (.int (f2 ((p3 &&& (7 : Int32)) - (2 : Int32)) v_least_x1 v_most_x1))])) t → Steps p.tables e below (T16.setTop (mkF m 50 #[.val (.int p1), .val (.int p2), .val (.int p3), .val (.int (p1 &&& (15 : Int32))), .val (.int ((p3 &&& (7 : Int32)) - (2 : Int32))), .val (.ref (f1 (p1 &&& (15 : Int32)) w_IF w_COALESCE w_SAME_TERM w_STRLEN w_BNODE w_SUBSTR w_REPLACE w_UUID w_CONCAT w_REGEX w_RAND w_STRDT w_MD5 w_IS_IRI w_NOW w_SHA512)), .val (.int (f0_u1 p1 p2 v_least_x1 v_most_x1)), .unset] [(.int ((p3 &&& (7 : Int32)) - (2 : Int32))), (.int (p1 &&& (15 : Int32))), (.int (f2 ((p3 &&& (7 : Int32)) - (2 : Int32)) v_least_x1 v_most_x1))])) t := fun t k => st19 _ k
  have K21 : ∀ t, Steps p.tables e below (T19.setTop (mkF m 61 #[.val (.int p1), .val (.int p2), .val (.int p3), .val (.int (p1 &&& (15 : Int32))), .val (.int ((p3 &&& (7 : Int32)) - (2 : Int32))), .val (.ref (f1 (p1 &&& (15 : Int32)) w_IF w_COALESCE w_SAME_TERM w_STRLEN w_BNODE w_SUBSTR w_REPLACE w_UUID w_CONCAT w_REGEX w_RAND w_STRDT w_MD5 w_IS_IRI w_NOW w_SHA512)), .val (.int (f0_u1 p1 p2 v_least_x1 v_most_x1)), .unset] [(.int (f0_u2 p1 p3 v_least_x1 v_most_x1))])) t → Steps p.tables e below (T19.setTop (mkF m 53 #[.val (.int p1), .val (.int p2), .val (.int p3), .val (.int (p1 &&& (15 : Int32))), .val (.int ((p3 &&& (7 : Int32)) - (2 : Int32))), .val (.ref (f1 (p1 &&& (15 : Int32)) w_IF w_COALESCE w_SAME_TERM w_STRLEN w_BNODE w_SUBSTR w_REPLACE w_UUID w_CONCAT w_REGEX w_RAND w_STRDT w_MD5 w_IS_IRI w_NOW w_SHA512)), .val (.int (f0_u1 p1 p2 v_least_x1 v_most_x1)), .unset] [(.int (f3 (p1 &&& (15 : Int32)) ((p3 &&& (7 : Int32)) - (2 : Int32)))), (.int (f2 ((p3 &&& (7 : Int32)) - (2 : Int32)) v_least_x1 v_most_x1))])) t := by
    intro t k
    by_cases hc21 : (f2 ((p3 &&& (7 : Int32)) - (2 : Int32)) v_least_x1 v_most_x1) = (f3 (p1 &&& (15 : Int32)) ((p3 &&& (7 : Int32)) - (2 : Int32)))
    · have K22 : ∀ t, Steps p.tables e below (T19.setTop (mkF m 56 #[.val (.int p1), .val (.int p2), .val (.int p3), .val (.int (p1 &&& (15 : Int32))), .val (.int ((p3 &&& (7 : Int32)) - (2 : Int32))), .val (.ref (f1 (p1 &&& (15 : Int32)) w_IF w_COALESCE w_SAME_TERM w_STRLEN w_BNODE w_SUBSTR w_REPLACE w_UUID w_CONCAT w_REGEX w_RAND w_STRDT w_MD5 w_IS_IRI w_NOW w_SHA512)), .val (.int (f0_u1 p1 p2 v_least_x1 v_most_x1)), .unset] [])) t → Steps p.tables e below (T19.setTop (mkF m 53 #[.val (.int p1), .val (.int p2), .val (.int p3), .val (.int (p1 &&& (15 : Int32))), .val (.int ((p3 &&& (7 : Int32)) - (2 : Int32))), .val (.ref (f1 (p1 &&& (15 : Int32)) w_IF w_COALESCE w_SAME_TERM w_STRLEN w_BNODE w_SUBSTR w_REPLACE w_UUID w_CONCAT w_REGEX w_RAND w_STRDT w_MD5 w_IS_IRI w_NOW w_SHA512)), .val (.int (f0_u1 p1 p2 v_least_x1 v_most_x1)), .unset] [(.int (f3 (p1 &&& (15 : Int32)) ((p3 &&& (7 : Int32)) - (2 : Int32)))), (.int (f2 ((p3 &&& (7 : Int32)) - (2 : Int32)) v_least_x1 v_most_x1))])) t := by
        intro t k
        refine XS.icmpNo X19.here hx rfl (Jvm.hb hby at_53) rfl (teq hc21).2 ?_
        exact k
      have K23 : ∀ t, Steps p.tables e below (T19.setTop (mkF m 61 #[.val (.int p1), .val (.int p2), .val (.int p3), .val (.int (p1 &&& (15 : Int32))), .val (.int ((p3 &&& (7 : Int32)) - (2 : Int32))), .val (.ref (f1 (p1 &&& (15 : Int32)) w_IF w_COALESCE w_SAME_TERM w_STRLEN w_BNODE w_SUBSTR w_REPLACE w_UUID w_CONCAT w_REGEX w_RAND w_STRDT w_MD5 w_IS_IRI w_NOW w_SHA512)), .val (.int (f0_u1 p1 p2 v_least_x1 v_most_x1)), .unset] [(.int (1 : Int32))])) t → Steps p.tables e below (T19.setTop (mkF m 56 #[.val (.int p1), .val (.int p2), .val (.int p3), .val (.int (p1 &&& (15 : Int32))), .val (.int ((p3 &&& (7 : Int32)) - (2 : Int32))), .val (.ref (f1 (p1 &&& (15 : Int32)) w_IF w_COALESCE w_SAME_TERM w_STRLEN w_BNODE w_SUBSTR w_REPLACE w_UUID w_CONCAT w_REGEX w_RAND w_STRDT w_MD5 w_IS_IRI w_NOW w_SHA512)), .val (.int (f0_u1 p1 p2 v_least_x1 v_most_x1)), .unset] [])) t := by
        intro t k
        refine XS.iconst X19.here hx rfl (Jvm.hb hby at_56) ?_
        show Steps p.tables e below (T19.setTop (mkF m 57 #[.val (.int p1), .val (.int p2), .val (.int p3), .val (.int (p1 &&& (15 : Int32))), .val (.int ((p3 &&& (7 : Int32)) - (2 : Int32))), .val (.ref (f1 (p1 &&& (15 : Int32)) w_IF w_COALESCE w_SAME_TERM w_STRLEN w_BNODE w_SUBSTR w_REPLACE w_UUID w_CONCAT w_REGEX w_RAND w_STRDT w_MD5 w_IS_IRI w_NOW w_SHA512)), .val (.int (f0_u1 p1 p2 v_least_x1 v_most_x1)), .unset] [(.int (1 : Int32))])) t
        refine XS.goto X19.here hx rfl (pc0 := 57) (pc' := 61) rfl (Jvm.hb hby at_57) (by decide) (by decide) ?_
        show Steps p.tables e below (T19.setTop (mkF m 61 #[.val (.int p1), .val (.int p2), .val (.int p3), .val (.int (p1 &&& (15 : Int32))), .val (.int ((p3 &&& (7 : Int32)) - (2 : Int32))), .val (.ref (f1 (p1 &&& (15 : Int32)) w_IF w_COALESCE w_SAME_TERM w_STRLEN w_BNODE w_SUBSTR w_REPLACE w_UUID w_CONCAT w_REGEX w_RAND w_STRDT w_MD5 w_IS_IRI w_NOW w_SHA512)), .val (.int (f0_u1 p1 p2 v_least_x1 v_most_x1)), .unset] [(.int (1 : Int32))])) t
        exact k
      rw [show (f0_u2 p1 p3 v_least_x1 v_most_x1) = (1 : Int32) from if_pos hc21] at k
      exact K22 _ (K23 _ (k))
    · have K24 : ∀ t, Steps p.tables e below (T19.setTop (mkF m 60 #[.val (.int p1), .val (.int p2), .val (.int p3), .val (.int (p1 &&& (15 : Int32))), .val (.int ((p3 &&& (7 : Int32)) - (2 : Int32))), .val (.ref (f1 (p1 &&& (15 : Int32)) w_IF w_COALESCE w_SAME_TERM w_STRLEN w_BNODE w_SUBSTR w_REPLACE w_UUID w_CONCAT w_REGEX w_RAND w_STRDT w_MD5 w_IS_IRI w_NOW w_SHA512)), .val (.int (f0_u1 p1 p2 v_least_x1 v_most_x1)), .unset] [])) t → Steps p.tables e below (T19.setTop (mkF m 53 #[.val (.int p1), .val (.int p2), .val (.int p3), .val (.int (p1 &&& (15 : Int32))), .val (.int ((p3 &&& (7 : Int32)) - (2 : Int32))), .val (.ref (f1 (p1 &&& (15 : Int32)) w_IF w_COALESCE w_SAME_TERM w_STRLEN w_BNODE w_SUBSTR w_REPLACE w_UUID w_CONCAT w_REGEX w_RAND w_STRDT w_MD5 w_IS_IRI w_NOW w_SHA512)), .val (.int (f0_u1 p1 p2 v_least_x1 v_most_x1)), .unset] [(.int (f3 (p1 &&& (15 : Int32)) ((p3 &&& (7 : Int32)) - (2 : Int32)))), (.int (f2 ((p3 &&& (7 : Int32)) - (2 : Int32)) v_least_x1 v_most_x1))])) t := by
        intro t k
        refine XS.icmpYes X19.here hx rfl (pc0 := 53) (pc' := 60) rfl (Jvm.hb hby at_53) rfl (feq hc21).2 (by decide) (by decide) ?_
        exact k
      have K25 : ∀ t, Steps p.tables e below (T19.setTop (mkF m 61 #[.val (.int p1), .val (.int p2), .val (.int p3), .val (.int (p1 &&& (15 : Int32))), .val (.int ((p3 &&& (7 : Int32)) - (2 : Int32))), .val (.ref (f1 (p1 &&& (15 : Int32)) w_IF w_COALESCE w_SAME_TERM w_STRLEN w_BNODE w_SUBSTR w_REPLACE w_UUID w_CONCAT w_REGEX w_RAND w_STRDT w_MD5 w_IS_IRI w_NOW w_SHA512)), .val (.int (f0_u1 p1 p2 v_least_x1 v_most_x1)), .unset] [(.int (0 : Int32))])) t → Steps p.tables e below (T19.setTop (mkF m 60 #[.val (.int p1), .val (.int p2), .val (.int p3), .val (.int (p1 &&& (15 : Int32))), .val (.int ((p3 &&& (7 : Int32)) - (2 : Int32))), .val (.ref (f1 (p1 &&& (15 : Int32)) w_IF w_COALESCE w_SAME_TERM w_STRLEN w_BNODE w_SUBSTR w_REPLACE w_UUID w_CONCAT w_REGEX w_RAND w_STRDT w_MD5 w_IS_IRI w_NOW w_SHA512)), .val (.int (f0_u1 p1 p2 v_least_x1 v_most_x1)), .unset] [])) t := by
        intro t k
        refine XS.iconst X19.here hx rfl (Jvm.hb hby at_60) ?_
        show Steps p.tables e below (T19.setTop (mkF m 61 #[.val (.int p1), .val (.int p2), .val (.int p3), .val (.int (p1 &&& (15 : Int32))), .val (.int ((p3 &&& (7 : Int32)) - (2 : Int32))), .val (.ref (f1 (p1 &&& (15 : Int32)) w_IF w_COALESCE w_SAME_TERM w_STRLEN w_BNODE w_SUBSTR w_REPLACE w_UUID w_CONCAT w_REGEX w_RAND w_STRDT w_MD5 w_IS_IRI w_NOW w_SHA512)), .val (.int (f0_u1 p1 p2 v_least_x1 v_most_x1)), .unset] [(.int (0 : Int32))])) t
        exact k
      rw [show (f0_u2 p1 p3 v_least_x1 v_most_x1) = (0 : Int32) from if_neg hc21] at k
      exact K24 _ (K25 _ (k))
  have K26 : ∀ t, Steps p.tables e below (T19.setTop (mkF m 65 #[.val (.int p1), .val (.int p2), .val (.int p3), .val (.int (p1 &&& (15 : Int32))), .val (.int ((p3 &&& (7 : Int32)) - (2 : Int32))), .val (.ref (f1 (p1 &&& (15 : Int32)) w_IF w_COALESCE w_SAME_TERM w_STRLEN w_BNODE w_SUBSTR w_REPLACE w_UUID w_CONCAT w_REGEX w_RAND w_STRDT w_MD5 w_IS_IRI w_NOW w_SHA512)), .val (.int (f0_u1 p1 p2 v_least_x1 v_most_x1)), .val (.int (f0_u2 p1 p3 v_least_x1 v_most_x1))] [(.int (f0_u1 p1 p2 v_least_x1 v_most_x1))])) t → Steps p.tables e below (T19.setTop (mkF m 61 #[.val (.int p1), .val (.int p2), .val (.int p3), .val (.int (p1 &&& (15 : Int32))), .val (.int ((p3 &&& (7 : Int32)) - (2 : Int32))), .val (.ref (f1 (p1 &&& (15 : Int32)) w_IF w_COALESCE w_SAME_TERM w_STRLEN w_BNODE w_SUBSTR w_REPLACE w_UUID w_CONCAT w_REGEX w_RAND w_STRDT w_MD5 w_IS_IRI w_NOW w_SHA512)), .val (.int (f0_u1 p1 p2 v_least_x1 v_most_x1)), .unset] [(.int (f0_u2 p1 p3 v_least_x1 v_most_x1))])) t := by
    intro t k
    refine XS.istore X19.here hx rfl (Jvm.hb hby at_61) rfl (l' := #[.val (.int p1), .val (.int p2), .val (.int p3), .val (.int (p1 &&& (15 : Int32))), .val (.int ((p3 &&& (7 : Int32)) - (2 : Int32))), .val (.ref (f1 (p1 &&& (15 : Int32)) w_IF w_COALESCE w_SAME_TERM w_STRLEN w_BNODE w_SUBSTR w_REPLACE w_UUID w_CONCAT w_REGEX w_RAND w_STRDT w_MD5 w_IS_IRI w_NOW w_SHA512)), .val (.int (f0_u1 p1 p2 v_least_x1 v_most_x1)), .val (.int (f0_u2 p1 p3 v_least_x1 v_most_x1))]) rfl ?_
    show Steps p.tables e below (T19.setTop (mkF m 63 #[.val (.int p1), .val (.int p2), .val (.int p3), .val (.int (p1 &&& (15 : Int32))), .val (.int ((p3 &&& (7 : Int32)) - (2 : Int32))), .val (.ref (f1 (p1 &&& (15 : Int32)) w_IF w_COALESCE w_SAME_TERM w_STRLEN w_BNODE w_SUBSTR w_REPLACE w_UUID w_CONCAT w_REGEX w_RAND w_STRDT w_MD5 w_IS_IRI w_NOW w_SHA512)), .val (.int (f0_u1 p1 p2 v_least_x1 v_most_x1)), .val (.int (f0_u2 p1 p3 v_least_x1 v_most_x1))] [])) t
    refine XS.iload X19.here hx rfl (Jvm.hb hby at_63) rfl ?_
    show Steps p.tables e below (T19.setTop (mkF m 65 #[.val (.int p1), .val (.int p2), .val (.int p3), .val (.int (p1 &&& (15 : Int32))), .val (.int ((p3 &&& (7 : Int32)) - (2 : Int32))), .val (.ref (f1 (p1 &&& (15 : Int32)) w_IF w_COALESCE w_SAME_TERM w_STRLEN w_BNODE w_SUBSTR w_REPLACE w_UUID w_CONCAT w_REGEX w_RAND w_STRDT w_MD5 w_IS_IRI w_NOW w_SHA512)), .val (.int (f0_u1 p1 p2 v_least_x1 v_most_x1)), .val (.int (f0_u2 p1 p3 v_least_x1 v_most_x1))] [(.int (f0_u1 p1 p2 v_least_x1 v_most_x1))])) t
    exact k
  by_cases hc27 : (f0_u1 p1 p2 v_least_x1 v_most_x1) = (0 : Int32)
  · have K28 : ∀ t, Steps p.tables e below (T19.setTop (mkF m 77 #[.val (.int p1), .val (.int p2), .val (.int p3), .val (.int (p1 &&& (15 : Int32))), .val (.int ((p3 &&& (7 : Int32)) - (2 : Int32))), .val (.ref (f1 (p1 &&& (15 : Int32)) w_IF w_COALESCE w_SAME_TERM w_STRLEN w_BNODE w_SUBSTR w_REPLACE w_UUID w_CONCAT w_REGEX w_RAND w_STRDT w_MD5 w_IS_IRI w_NOW w_SHA512)), .val (.int (f0_u1 p1 p2 v_least_x1 v_most_x1)), .val (.int (f0_u2 p1 p3 v_least_x1 v_most_x1))] [])) t → Steps p.tables e below (T19.setTop (mkF m 65 #[.val (.int p1), .val (.int p2), .val (.int p3), .val (.int (p1 &&& (15 : Int32))), .val (.int ((p3 &&& (7 : Int32)) - (2 : Int32))), .val (.ref (f1 (p1 &&& (15 : Int32)) w_IF w_COALESCE w_SAME_TERM w_STRLEN w_BNODE w_SUBSTR w_REPLACE w_UUID w_CONCAT w_REGEX w_RAND w_STRDT w_MD5 w_IS_IRI w_NOW w_SHA512)), .val (.int (f0_u1 p1 p2 v_least_x1 v_most_x1)), .val (.int (f0_u2 p1 p3 v_least_x1 v_most_x1))] [(.int (f0_u1 p1 p2 v_least_x1 v_most_x1))])) t := by
      intro t k
      refine XS.ifYes X19.here hx rfl (pc0 := 65) (pc' := 77) rfl (Jvm.hb hby at_65) rfl ((if0 _ _).trans (teq hc27).1) (by decide) (by decide) ?_
      exact k
    have K29 : ∀ t, Steps p.tables e below (T19.setTop (mkF m 78 #[.val (.int p1), .val (.int p2), .val (.int p3), .val (.int (p1 &&& (15 : Int32))), .val (.int ((p3 &&& (7 : Int32)) - (2 : Int32))), .val (.ref (f1 (p1 &&& (15 : Int32)) w_IF w_COALESCE w_SAME_TERM w_STRLEN w_BNODE w_SUBSTR w_REPLACE w_UUID w_CONCAT w_REGEX w_RAND w_STRDT w_MD5 w_IS_IRI w_NOW w_SHA512)), .val (.int (f0_u1 p1 p2 v_least_x1 v_most_x1)), .val (.int (f0_u2 p1 p3 v_least_x1 v_most_x1))] [(.int (0 : Int32))])) t → Steps p.tables e below (T19.setTop (mkF m 77 #[.val (.int p1), .val (.int p2), .val (.int p3), .val (.int (p1 &&& (15 : Int32))), .val (.int ((p3 &&& (7 : Int32)) - (2 : Int32))), .val (.ref (f1 (p1 &&& (15 : Int32)) w_IF w_COALESCE w_SAME_TERM w_STRLEN w_BNODE w_SUBSTR w_REPLACE w_UUID w_CONCAT w_REGEX w_RAND w_STRDT w_MD5 w_IS_IRI w_NOW w_SHA512)), .val (.int (f0_u1 p1 p2 v_least_x1 v_most_x1)), .val (.int (f0_u2 p1 p3 v_least_x1 v_most_x1))] [])) t := by
      intro t k
      refine XS.iconst X19.here hx rfl (Jvm.hb hby at_77) ?_
      show Steps p.tables e below (T19.setTop (mkF m 78 #[.val (.int p1), .val (.int p2), .val (.int p3), .val (.int (p1 &&& (15 : Int32))), .val (.int ((p3 &&& (7 : Int32)) - (2 : Int32))), .val (.ref (f1 (p1 &&& (15 : Int32)) w_IF w_COALESCE w_SAME_TERM w_STRLEN w_BNODE w_SUBSTR w_REPLACE w_UUID w_CONCAT w_REGEX w_RAND w_STRDT w_MD5 w_IS_IRI w_NOW w_SHA512)), .val (.int (f0_u1 p1 p2 v_least_x1 v_most_x1)), .val (.int (f0_u2 p1 p3 v_least_x1 v_most_x1))] [(.int (0 : Int32))])) t
      exact k
    obtain ⟨fs, hr, hrun, hended, hW, hsame⟩ := X19.leave (v := some (.int (0 : Int32))) (fun h => by rw [Bd.returns] at h; cases h) Bd.notSynchronized
    refine ⟨_, _, pre0 _ (K1 _ (K3 _ (K4 _ (K6 _ (K7 _ (K9 _ (K10 _ (K15 _ (K17 _ (K18 _ (K20 _ (K21 _ (K26 _ (K28 _ (K29 _ (retN X19 hx (t := .boolean) Bd.returns (by simp) (Jvm.hb hby at_78) hr)))))))))))))))), hrun, hended, _, _, rfl, ?_, ⟨_, rfl⟩, hW, hsame.mono (by decide) (by decide)⟩
    show Q0 Z p1 p2 p3 w_IF w_COALESCE w_SAME_TERM w_STRLEN w_BNODE w_SUBSTR w_REPLACE w_UUID w_CONCAT w_REGEX w_RAND w_STRDT w_MD5 w_IS_IRI w_NOW w_SHA512 v_least_x1 v_most_x1 h0 n0 _ T19.heap _
    rw [e19]
    exact ⟨congrArg (fun z => some (Value.int z)) (show (0 : Int32) = f0 p1 p2 p3 v_least_x1 v_most_x1 from Eq.symm (if_pos hc27)), N19, rfl⟩
  · have K30 : ∀ t, Steps p.tables e below (T19.setTop (mkF m 68 #[.val (.int p1), .val (.int p2), .val (.int p3), .val (.int (p1 &&& (15 : Int32))), .val (.int ((p3 &&& (7 : Int32)) - (2 : Int32))), .val (.ref (f1 (p1 &&& (15 : Int32)) w_IF w_COALESCE w_SAME_TERM w_STRLEN w_BNODE w_SUBSTR w_REPLACE w_UUID w_CONCAT w_REGEX w_RAND w_STRDT w_MD5 w_IS_IRI w_NOW w_SHA512)), .val (.int (f0_u1 p1 p2 v_least_x1 v_most_x1)), .val (.int (f0_u2 p1 p3 v_least_x1 v_most_x1))] [])) t → Steps p.tables e below (T19.setTop (mkF m 65 #[.val (.int p1), .val (.int p2), .val (.int p3), .val (.int (p1 &&& (15 : Int32))), .val (.int ((p3 &&& (7 : Int32)) - (2 : Int32))), .val (.ref (f1 (p1 &&& (15 : Int32)) w_IF w_COALESCE w_SAME_TERM w_STRLEN w_BNODE w_SUBSTR w_REPLACE w_UUID w_CONCAT w_REGEX w_RAND w_STRDT w_MD5 w_IS_IRI w_NOW w_SHA512)), .val (.int (f0_u1 p1 p2 v_least_x1 v_most_x1)), .val (.int (f0_u2 p1 p3 v_least_x1 v_most_x1))] [(.int (f0_u1 p1 p2 v_least_x1 v_most_x1))])) t := by
      intro t k
      refine XS.ifNo X19.here hx rfl (Jvm.hb hby at_65) rfl ((if0 _ _).trans (feq hc27).1) ?_
      exact k
    have K31 : ∀ t, Steps p.tables e below (T19.setTop (mkF m 70 #[.val (.int p1), .val (.int p2), .val (.int p3), .val (.int (p1 &&& (15 : Int32))), .val (.int ((p3 &&& (7 : Int32)) - (2 : Int32))), .val (.ref (f1 (p1 &&& (15 : Int32)) w_IF w_COALESCE w_SAME_TERM w_STRLEN w_BNODE w_SUBSTR w_REPLACE w_UUID w_CONCAT w_REGEX w_RAND w_STRDT w_MD5 w_IS_IRI w_NOW w_SHA512)), .val (.int (f0_u1 p1 p2 v_least_x1 v_most_x1)), .val (.int (f0_u2 p1 p3 v_least_x1 v_most_x1))] [(.int (f0_u2 p1 p3 v_least_x1 v_most_x1))])) t → Steps p.tables e below (T19.setTop (mkF m 68 #[.val (.int p1), .val (.int p2), .val (.int p3), .val (.int (p1 &&& (15 : Int32))), .val (.int ((p3 &&& (7 : Int32)) - (2 : Int32))), .val (.ref (f1 (p1 &&& (15 : Int32)) w_IF w_COALESCE w_SAME_TERM w_STRLEN w_BNODE w_SUBSTR w_REPLACE w_UUID w_CONCAT w_REGEX w_RAND w_STRDT w_MD5 w_IS_IRI w_NOW w_SHA512)), .val (.int (f0_u1 p1 p2 v_least_x1 v_most_x1)), .val (.int (f0_u2 p1 p3 v_least_x1 v_most_x1))] [])) t := by
      intro t k
      refine XS.iload X19.here hx rfl (Jvm.hb hby at_68) rfl ?_
      show Steps p.tables e below (T19.setTop (mkF m 70 #[.val (.int p1), .val (.int p2), .val (.int p3), .val (.int (p1 &&& (15 : Int32))), .val (.int ((p3 &&& (7 : Int32)) - (2 : Int32))), .val (.ref (f1 (p1 &&& (15 : Int32)) w_IF w_COALESCE w_SAME_TERM w_STRLEN w_BNODE w_SUBSTR w_REPLACE w_UUID w_CONCAT w_REGEX w_RAND w_STRDT w_MD5 w_IS_IRI w_NOW w_SHA512)), .val (.int (f0_u1 p1 p2 v_least_x1 v_most_x1)), .val (.int (f0_u2 p1 p3 v_least_x1 v_most_x1))] [(.int (f0_u2 p1 p3 v_least_x1 v_most_x1))])) t
      exact k
    by_cases hc32 : (f0_u2 p1 p3 v_least_x1 v_most_x1) = (0 : Int32)
    · have K33 : ∀ t, Steps p.tables e below (T19.setTop (mkF m 77 #[.val (.int p1), .val (.int p2), .val (.int p3), .val (.int (p1 &&& (15 : Int32))), .val (.int ((p3 &&& (7 : Int32)) - (2 : Int32))), .val (.ref (f1 (p1 &&& (15 : Int32)) w_IF w_COALESCE w_SAME_TERM w_STRLEN w_BNODE w_SUBSTR w_REPLACE w_UUID w_CONCAT w_REGEX w_RAND w_STRDT w_MD5 w_IS_IRI w_NOW w_SHA512)), .val (.int (f0_u1 p1 p2 v_least_x1 v_most_x1)), .val (.int (f0_u2 p1 p3 v_least_x1 v_most_x1))] [])) t → Steps p.tables e below (T19.setTop (mkF m 70 #[.val (.int p1), .val (.int p2), .val (.int p3), .val (.int (p1 &&& (15 : Int32))), .val (.int ((p3 &&& (7 : Int32)) - (2 : Int32))), .val (.ref (f1 (p1 &&& (15 : Int32)) w_IF w_COALESCE w_SAME_TERM w_STRLEN w_BNODE w_SUBSTR w_REPLACE w_UUID w_CONCAT w_REGEX w_RAND w_STRDT w_MD5 w_IS_IRI w_NOW w_SHA512)), .val (.int (f0_u1 p1 p2 v_least_x1 v_most_x1)), .val (.int (f0_u2 p1 p3 v_least_x1 v_most_x1))] [(.int (f0_u2 p1 p3 v_least_x1 v_most_x1))])) t := by
        intro t k
        refine XS.ifYes X19.here hx rfl (pc0 := 70) (pc' := 77) rfl (Jvm.hb hby at_70) rfl ((if0 _ _).trans (teq hc32).1) (by decide) (by decide) ?_
        exact k
      have K34 : ∀ t, Steps p.tables e below (T19.setTop (mkF m 78 #[.val (.int p1), .val (.int p2), .val (.int p3), .val (.int (p1 &&& (15 : Int32))), .val (.int ((p3 &&& (7 : Int32)) - (2 : Int32))), .val (.ref (f1 (p1 &&& (15 : Int32)) w_IF w_COALESCE w_SAME_TERM w_STRLEN w_BNODE w_SUBSTR w_REPLACE w_UUID w_CONCAT w_REGEX w_RAND w_STRDT w_MD5 w_IS_IRI w_NOW w_SHA512)), .val (.int (f0_u1 p1 p2 v_least_x1 v_most_x1)), .val (.int (f0_u2 p1 p3 v_least_x1 v_most_x1))] [(.int (0 : Int32))])) t → Steps p.tables e below (T19.setTop (mkF m 77 #[.val (.int p1), .val (.int p2), .val (.int p3), .val (.int (p1 &&& (15 : Int32))), .val (.int ((p3 &&& (7 : Int32)) - (2 : Int32))), .val (.ref (f1 (p1 &&& (15 : Int32)) w_IF w_COALESCE w_SAME_TERM w_STRLEN w_BNODE w_SUBSTR w_REPLACE w_UUID w_CONCAT w_REGEX w_RAND w_STRDT w_MD5 w_IS_IRI w_NOW w_SHA512)), .val (.int (f0_u1 p1 p2 v_least_x1 v_most_x1)), .val (.int (f0_u2 p1 p3 v_least_x1 v_most_x1))] [])) t := by
        intro t k
        refine XS.iconst X19.here hx rfl (Jvm.hb hby at_77) ?_
        show Steps p.tables e below (T19.setTop (mkF m 78 #[.val (.int p1), .val (.int p2), .val (.int p3), .val (.int (p1 &&& (15 : Int32))), .val (.int ((p3 &&& (7 : Int32)) - (2 : Int32))), .val (.ref (f1 (p1 &&& (15 : Int32)) w_IF w_COALESCE w_SAME_TERM w_STRLEN w_BNODE w_SUBSTR w_REPLACE w_UUID w_CONCAT w_REGEX w_RAND w_STRDT w_MD5 w_IS_IRI w_NOW w_SHA512)), .val (.int (f0_u1 p1 p2 v_least_x1 v_most_x1)), .val (.int (f0_u2 p1 p3 v_least_x1 v_most_x1))] [(.int (0 : Int32))])) t
        exact k
      obtain ⟨fs, hr, hrun, hended, hW, hsame⟩ := X19.leave (v := some (.int (0 : Int32))) (fun h => by rw [Bd.returns] at h; cases h) Bd.notSynchronized
      refine ⟨_, _, pre0 _ (K1 _ (K3 _ (K4 _ (K6 _ (K7 _ (K9 _ (K10 _ (K15 _ (K17 _ (K18 _ (K20 _ (K21 _ (K26 _ (K30 _ (K31 _ (K33 _ (K34 _ (retN X19 hx (t := .boolean) Bd.returns (by simp) (Jvm.hb hby at_78) hr)))))))))))))))))), hrun, hended, _, _, rfl, ?_, ⟨_, rfl⟩, hW, hsame.mono (by decide) (by decide)⟩
      show Q0 Z p1 p2 p3 w_IF w_COALESCE w_SAME_TERM w_STRLEN w_BNODE w_SUBSTR w_REPLACE w_UUID w_CONCAT w_REGEX w_RAND w_STRDT w_MD5 w_IS_IRI w_NOW w_SHA512 v_least_x1 v_most_x1 h0 n0 _ T19.heap _
      rw [e19]
      exact ⟨congrArg (fun z => some (Value.int z)) (show (0 : Int32) = f0 p1 p2 p3 v_least_x1 v_most_x1 from Eq.symm ((if_neg hc27).trans (if_pos hc32))), N19, rfl⟩
    · have K35 : ∀ t, Steps p.tables e below (T19.setTop (mkF m 73 #[.val (.int p1), .val (.int p2), .val (.int p3), .val (.int (p1 &&& (15 : Int32))), .val (.int ((p3 &&& (7 : Int32)) - (2 : Int32))), .val (.ref (f1 (p1 &&& (15 : Int32)) w_IF w_COALESCE w_SAME_TERM w_STRLEN w_BNODE w_SUBSTR w_REPLACE w_UUID w_CONCAT w_REGEX w_RAND w_STRDT w_MD5 w_IS_IRI w_NOW w_SHA512)), .val (.int (f0_u1 p1 p2 v_least_x1 v_most_x1)), .val (.int (f0_u2 p1 p3 v_least_x1 v_most_x1))] [])) t → Steps p.tables e below (T19.setTop (mkF m 70 #[.val (.int p1), .val (.int p2), .val (.int p3), .val (.int (p1 &&& (15 : Int32))), .val (.int ((p3 &&& (7 : Int32)) - (2 : Int32))), .val (.ref (f1 (p1 &&& (15 : Int32)) w_IF w_COALESCE w_SAME_TERM w_STRLEN w_BNODE w_SUBSTR w_REPLACE w_UUID w_CONCAT w_REGEX w_RAND w_STRDT w_MD5 w_IS_IRI w_NOW w_SHA512)), .val (.int (f0_u1 p1 p2 v_least_x1 v_most_x1)), .val (.int (f0_u2 p1 p3 v_least_x1 v_most_x1))] [(.int (f0_u2 p1 p3 v_least_x1 v_most_x1))])) t := by
        intro t k
        refine XS.ifNo X19.here hx rfl (Jvm.hb hby at_70) rfl ((if0 _ _).trans (feq hc32).1) ?_
        exact k
      have K36 : ∀ t, Steps p.tables e below (T19.setTop (mkF m 78 #[.val (.int p1), .val (.int p2), .val (.int p3), .val (.int (p1 &&& (15 : Int32))), .val (.int ((p3 &&& (7 : Int32)) - (2 : Int32))), .val (.ref (f1 (p1 &&& (15 : Int32)) w_IF w_COALESCE w_SAME_TERM w_STRLEN w_BNODE w_SUBSTR w_REPLACE w_UUID w_CONCAT w_REGEX w_RAND w_STRDT w_MD5 w_IS_IRI w_NOW w_SHA512)), .val (.int (f0_u1 p1 p2 v_least_x1 v_most_x1)), .val (.int (f0_u2 p1 p3 v_least_x1 v_most_x1))] [(.int (1 : Int32))])) t → Steps p.tables e below (T19.setTop (mkF m 73 #[.val (.int p1), .val (.int p2), .val (.int p3), .val (.int (p1 &&& (15 : Int32))), .val (.int ((p3 &&& (7 : Int32)) - (2 : Int32))), .val (.ref (f1 (p1 &&& (15 : Int32)) w_IF w_COALESCE w_SAME_TERM w_STRLEN w_BNODE w_SUBSTR w_REPLACE w_UUID w_CONCAT w_REGEX w_RAND w_STRDT w_MD5 w_IS_IRI w_NOW w_SHA512)), .val (.int (f0_u1 p1 p2 v_least_x1 v_most_x1)), .val (.int (f0_u2 p1 p3 v_least_x1 v_most_x1))] [])) t := by
        intro t k
        refine XS.iconst X19.here hx rfl (Jvm.hb hby at_73) ?_
        show Steps p.tables e below (T19.setTop (mkF m 74 #[.val (.int p1), .val (.int p2), .val (.int p3), .val (.int (p1 &&& (15 : Int32))), .val (.int ((p3 &&& (7 : Int32)) - (2 : Int32))), .val (.ref (f1 (p1 &&& (15 : Int32)) w_IF w_COALESCE w_SAME_TERM w_STRLEN w_BNODE w_SUBSTR w_REPLACE w_UUID w_CONCAT w_REGEX w_RAND w_STRDT w_MD5 w_IS_IRI w_NOW w_SHA512)), .val (.int (f0_u1 p1 p2 v_least_x1 v_most_x1)), .val (.int (f0_u2 p1 p3 v_least_x1 v_most_x1))] [(.int (1 : Int32))])) t
        refine XS.goto X19.here hx rfl (pc0 := 74) (pc' := 78) rfl (Jvm.hb hby at_74) (by decide) (by decide) ?_
        show Steps p.tables e below (T19.setTop (mkF m 78 #[.val (.int p1), .val (.int p2), .val (.int p3), .val (.int (p1 &&& (15 : Int32))), .val (.int ((p3 &&& (7 : Int32)) - (2 : Int32))), .val (.ref (f1 (p1 &&& (15 : Int32)) w_IF w_COALESCE w_SAME_TERM w_STRLEN w_BNODE w_SUBSTR w_REPLACE w_UUID w_CONCAT w_REGEX w_RAND w_STRDT w_MD5 w_IS_IRI w_NOW w_SHA512)), .val (.int (f0_u1 p1 p2 v_least_x1 v_most_x1)), .val (.int (f0_u2 p1 p3 v_least_x1 v_most_x1))] [(.int (1 : Int32))])) t
        exact k
      obtain ⟨fs, hr, hrun, hended, hW, hsame⟩ := X19.leave (v := some (.int (1 : Int32))) (fun h => by rw [Bd.returns] at h; cases h) Bd.notSynchronized
      refine ⟨_, _, pre0 _ (K1 _ (K3 _ (K4 _ (K6 _ (K7 _ (K9 _ (K10 _ (K15 _ (K17 _ (K18 _ (K20 _ (K21 _ (K26 _ (K30 _ (K31 _ (K35 _ (K36 _ (retN X19 hx (t := .boolean) Bd.returns (by simp) (Jvm.hb hby at_78) hr)))))))))))))))))), hrun, hended, _, _, rfl, ?_, ⟨_, rfl⟩, hW, hsame.mono (by decide) (by decide)⟩
      show Q0 Z p1 p2 p3 w_IF w_COALESCE w_SAME_TERM w_STRLEN w_BNODE w_SUBSTR w_REPLACE w_UUID w_CONCAT w_REGEX w_RAND w_STRDT w_MD5 w_IS_IRI w_NOW w_SHA512 v_least_x1 v_most_x1 h0 n0 _ T19.heap _
      rw [e19]
      exact ⟨congrArg (fun z => some (Value.int z)) (show (1 : Int32) = f0 p1 p2 p3 v_least_x1 v_most_x1 from Eq.symm ((if_neg hc27).trans (if_neg hc32))), N19, rfl⟩
theorem own_nat (b : Int32) : b = Int32.ofNat b.toBitVec.toNat := by
  apply Int32.toBitVec_inj.mp
  simp
theorem own_mask (a m : Int32) (k : Nat) (h : m.toBitVec.toNat = k) : ∃ n, n < k + 1 ∧ a &&& m = Int32.ofNat n := by
  refine ⟨(a &&& m).toBitVec.toNat, ?_, own_nat _⟩
  have : (a &&& m).toBitVec.toNat = a.toBitVec.toNat &&& m.toBitVec.toNat := by simp
  rw [this, h]
  exact Nat.lt_succ_of_le Nat.and_le_right
theorem own_ofNat (n : Nat) (h : n < 2147483648) : (Int32.ofNat n).toInt = (n : Int) := Int32.toInt_ofNat_of_lt h
theorem own_rem (n k : Nat) (h : n < 2147483648) (h1 : k < 2147483648) : Int32.ofNat n % Int32.ofNat k = Int32.ofNat (n % k) := by
  apply Int32.toInt_inj.mp
  rw [Int32.toInt_mod, own_ofNat n h, own_ofNat k h1, own_ofNat (n % k) (Nat.lt_of_le_of_lt (Nat.mod_le n k) h)]
  rw [Int.tmod_eq_emod_of_nonneg (by omega)]
  exact (Int.natCast_emod n k).symm
theorem own_chl {P : Addr → Int32 → Prop} (s : Int32) (w_IF w_COALESCE w_SAME_TERM w_STRLEN w_BNODE w_SUBSTR w_REPLACE w_UUID w_CONCAT w_REGEX w_RAND w_STRDT w_MD5 w_IS_IRI w_NOW w_SHA512 : Addr) (h0 : P w_IF (3 : Int32)) (h1 : P w_COALESCE (0 : Int32)) (h2 : P w_SAME_TERM (2 : Int32)) (h3 : P w_STRLEN (1 : Int32)) (h4 : P w_BNODE (0 : Int32)) (h5 : P w_SUBSTR (2 : Int32)) (h6 : P w_REPLACE (3 : Int32)) (h7 : P w_UUID (0 : Int32)) (h8 : P w_CONCAT (0 : Int32)) (h9 : P w_REGEX (2 : Int32)) (h10 : P w_RAND (0 : Int32)) (h11 : P w_STRDT (2 : Int32)) (h12 : P w_MD5 (1 : Int32)) (h13 : P w_IS_IRI (1 : Int32)) (h14 : P w_NOW (0 : Int32)) (h15 : P w_SHA512 (1 : Int32)) : P (f1 s w_IF w_COALESCE w_SAME_TERM w_STRLEN w_BNODE w_SUBSTR w_REPLACE w_UUID w_CONCAT w_REGEX w_RAND w_STRDT w_MD5 w_IS_IRI w_NOW w_SHA512) (own_least s) := by
  unfold f1 own_least
  by_cases e0 : s = (0 : Int32)
  · rw [if_pos e0, if_pos e0]; exact h0
  rw [if_neg e0, if_neg e0]
  by_cases e1 : s = (1 : Int32)
  · rw [if_pos e1, if_pos e1]; exact h1
  rw [if_neg e1, if_neg e1]
  by_cases e2 : s = (2 : Int32)
  · rw [if_pos e2, if_pos e2]; exact h2
  rw [if_neg e2, if_neg e2]
  by_cases e3 : s = (3 : Int32)
  · rw [if_pos e3, if_pos e3]; exact h3
  rw [if_neg e3, if_neg e3]
  by_cases e4 : s = (4 : Int32)
  · rw [if_pos e4, if_pos e4]; exact h4
  rw [if_neg e4, if_neg e4]
  by_cases e5 : s = (5 : Int32)
  · rw [if_pos e5, if_pos e5]; exact h5
  rw [if_neg e5, if_neg e5]
  by_cases e6 : s = (6 : Int32)
  · rw [if_pos e6, if_pos e6]; exact h6
  rw [if_neg e6, if_neg e6]
  by_cases e7 : s = (7 : Int32)
  · rw [if_pos e7, if_pos e7]; exact h7
  rw [if_neg e7, if_neg e7]
  by_cases e8 : s = (8 : Int32)
  · rw [if_pos e8, if_pos e8]; exact h8
  rw [if_neg e8, if_neg e8]
  by_cases e9 : s = (9 : Int32)
  · rw [if_pos e9, if_pos e9]; exact h9
  rw [if_neg e9, if_neg e9]
  by_cases e10 : s = (10 : Int32)
  · rw [if_pos e10, if_pos e10]; exact h10
  rw [if_neg e10, if_neg e10]
  by_cases e11 : s = (11 : Int32)
  · rw [if_pos e11, if_pos e11]; exact h11
  rw [if_neg e11, if_neg e11]
  by_cases e12 : s = (12 : Int32)
  · rw [if_pos e12, if_pos e12]; exact h12
  rw [if_neg e12, if_neg e12]
  by_cases e13 : s = (13 : Int32)
  · rw [if_pos e13, if_pos e13]; exact h13
  rw [if_neg e13, if_neg e13]
  by_cases e14 : s = (14 : Int32)
  · rw [if_pos e14, if_pos e14]; exact h14
  rw [if_neg e14, if_neg e14]
  exact h15
theorem own_chm {P : Addr → Int32 → Prop} (s : Int32) (w_IF w_COALESCE w_SAME_TERM w_STRLEN w_BNODE w_SUBSTR w_REPLACE w_UUID w_CONCAT w_REGEX w_RAND w_STRDT w_MD5 w_IS_IRI w_NOW w_SHA512 : Addr) (h0 : P w_IF (3 : Int32)) (h1 : P w_COALESCE (2147483647 : Int32)) (h2 : P w_SAME_TERM (2 : Int32)) (h3 : P w_STRLEN (1 : Int32)) (h4 : P w_BNODE (1 : Int32)) (h5 : P w_SUBSTR (3 : Int32)) (h6 : P w_REPLACE (4 : Int32)) (h7 : P w_UUID (0 : Int32)) (h8 : P w_CONCAT (2147483647 : Int32)) (h9 : P w_REGEX (3 : Int32)) (h10 : P w_RAND (0 : Int32)) (h11 : P w_STRDT (2 : Int32)) (h12 : P w_MD5 (1 : Int32)) (h13 : P w_IS_IRI (1 : Int32)) (h14 : P w_NOW (0 : Int32)) (h15 : P w_SHA512 (1 : Int32)) : P (f1 s w_IF w_COALESCE w_SAME_TERM w_STRLEN w_BNODE w_SUBSTR w_REPLACE w_UUID w_CONCAT w_REGEX w_RAND w_STRDT w_MD5 w_IS_IRI w_NOW w_SHA512) (own_most s) := by
  unfold f1 own_most
  by_cases e0 : s = (0 : Int32)
  · rw [if_pos e0, if_pos e0]; exact h0
  rw [if_neg e0, if_neg e0]
  by_cases e1 : s = (1 : Int32)
  · rw [if_pos e1, if_pos e1]; exact h1
  rw [if_neg e1, if_neg e1]
  by_cases e2 : s = (2 : Int32)
  · rw [if_pos e2, if_pos e2]; exact h2
  rw [if_neg e2, if_neg e2]
  by_cases e3 : s = (3 : Int32)
  · rw [if_pos e3, if_pos e3]; exact h3
  rw [if_neg e3, if_neg e3]
  by_cases e4 : s = (4 : Int32)
  · rw [if_pos e4, if_pos e4]; exact h4
  rw [if_neg e4, if_neg e4]
  by_cases e5 : s = (5 : Int32)
  · rw [if_pos e5, if_pos e5]; exact h5
  rw [if_neg e5, if_neg e5]
  by_cases e6 : s = (6 : Int32)
  · rw [if_pos e6, if_pos e6]; exact h6
  rw [if_neg e6, if_neg e6]
  by_cases e7 : s = (7 : Int32)
  · rw [if_pos e7, if_pos e7]; exact h7
  rw [if_neg e7, if_neg e7]
  by_cases e8 : s = (8 : Int32)
  · rw [if_pos e8, if_pos e8]; exact h8
  rw [if_neg e8, if_neg e8]
  by_cases e9 : s = (9 : Int32)
  · rw [if_pos e9, if_pos e9]; exact h9
  rw [if_neg e9, if_neg e9]
  by_cases e10 : s = (10 : Int32)
  · rw [if_pos e10, if_pos e10]; exact h10
  rw [if_neg e10, if_neg e10]
  by_cases e11 : s = (11 : Int32)
  · rw [if_pos e11, if_pos e11]; exact h11
  rw [if_neg e11, if_neg e11]
  by_cases e12 : s = (12 : Int32)
  · rw [if_pos e12, if_pos e12]; exact h12
  rw [if_neg e12, if_neg e12]
  by_cases e13 : s = (13 : Int32)
  · rw [if_pos e13, if_pos e13]; exact h13
  rw [if_neg e13, if_neg e13]
  by_cases e14 : s = (14 : Int32)
  · rw [if_pos e14, if_pos e14]; exact h14
  rw [if_neg e14, if_neg e14]
  exact h15
theorem own_case (n : Nat) (h : n < 16) (c : Int32) : f2 c (own_least (Int32.ofNat n)) (own_most (Int32.ofNat n)) = f3 (Int32.ofNat n) c := by
  have e0 : (0 : Int32).toInt = 0 := by decide
  have e1 : (1 : Int32).toInt = 1 := by decide
  have e2 : (2 : Int32).toInt = 2 := by decide
  have e3 : (3 : Int32).toInt = 3 := by decide
  have e4 : (4 : Int32).toInt = 4 := by decide
  have em : (2147483647 : Int32).toInt = 2147483647 := by decide
  have r := c.toInt_lt
  have hn : n = 0 ∨ n = 1 ∨ n = 2 ∨ n = 3 ∨ n = 4 ∨ n = 5 ∨ n = 6 ∨ n = 7 ∨ n = 8 ∨ n = 9 ∨ n = 10 ∨ n = 11 ∨ n = 12 ∨ n = 13 ∨ n = 14 ∨ n = 15 := by omega
  rcases hn with rfl | rfl | rfl | rfl | rfl | rfl | rfl | rfl | rfl | rfl | rfl | rfl | rfl | rfl | rfl | rfl
  · rw [show own_least (Int32.ofNat 0) = 3 from by decide, show own_most (Int32.ofNat 0) = 3 from by decide]
    unfold f2 f3
    simp +decide only [if_true, if_false, Int32.lt_iff_toInt_lt, ← Int32.toInt_inj, if_pos, if_neg]
    repeat' split
    all_goals first | rfl | (exfalso; omega)
  · rw [show own_least (Int32.ofNat 1) = 0 from by decide, show own_most (Int32.ofNat 1) = 2147483647 from by decide]
    unfold f2 f3
    simp +decide only [if_true, if_false, Int32.lt_iff_toInt_lt, ← Int32.toInt_inj, if_pos, if_neg]
    repeat' split
    all_goals first | rfl | (exfalso; omega)
  · rw [show own_least (Int32.ofNat 2) = 2 from by decide, show own_most (Int32.ofNat 2) = 2 from by decide]
    unfold f2 f3
    simp +decide only [if_true, if_false, Int32.lt_iff_toInt_lt, ← Int32.toInt_inj, if_pos, if_neg]
    repeat' split
    all_goals first | rfl | (exfalso; omega)
  · rw [show own_least (Int32.ofNat 3) = 1 from by decide, show own_most (Int32.ofNat 3) = 1 from by decide]
    unfold f2 f3
    simp +decide only [if_true, if_false, Int32.lt_iff_toInt_lt, ← Int32.toInt_inj, if_pos, if_neg]
    repeat' split
    all_goals first | rfl | (exfalso; omega)
  · rw [show own_least (Int32.ofNat 4) = 0 from by decide, show own_most (Int32.ofNat 4) = 1 from by decide]
    unfold f2 f3
    simp +decide only [if_true, if_false, Int32.lt_iff_toInt_lt, ← Int32.toInt_inj, if_pos, if_neg]
    repeat' split
    all_goals first | rfl | (exfalso; omega)
  · rw [show own_least (Int32.ofNat 5) = 2 from by decide, show own_most (Int32.ofNat 5) = 3 from by decide]
    unfold f2 f3
    simp +decide only [if_true, if_false, Int32.lt_iff_toInt_lt, ← Int32.toInt_inj, if_pos, if_neg]
    repeat' split
    all_goals first | rfl | (exfalso; omega)
  · rw [show own_least (Int32.ofNat 6) = 3 from by decide, show own_most (Int32.ofNat 6) = 4 from by decide]
    unfold f2 f3
    simp +decide only [if_true, if_false, Int32.lt_iff_toInt_lt, ← Int32.toInt_inj, if_pos, if_neg]
    repeat' split
    all_goals first | rfl | (exfalso; omega)
  · rw [show own_least (Int32.ofNat 7) = 0 from by decide, show own_most (Int32.ofNat 7) = 0 from by decide]
    unfold f2 f3
    simp +decide only [if_true, if_false, Int32.lt_iff_toInt_lt, ← Int32.toInt_inj, if_pos, if_neg]
    repeat' split
    all_goals first | rfl | (exfalso; omega)
  · rw [show own_least (Int32.ofNat 8) = 0 from by decide, show own_most (Int32.ofNat 8) = 2147483647 from by decide]
    unfold f2 f3
    simp +decide only [if_true, if_false, Int32.lt_iff_toInt_lt, ← Int32.toInt_inj, if_pos, if_neg]
    repeat' split
    all_goals first | rfl | (exfalso; omega)
  · rw [show own_least (Int32.ofNat 9) = 2 from by decide, show own_most (Int32.ofNat 9) = 3 from by decide]
    unfold f2 f3
    simp +decide only [if_true, if_false, Int32.lt_iff_toInt_lt, ← Int32.toInt_inj, if_pos, if_neg]
    repeat' split
    all_goals first | rfl | (exfalso; omega)
  · rw [show own_least (Int32.ofNat 10) = 0 from by decide, show own_most (Int32.ofNat 10) = 0 from by decide]
    unfold f2 f3
    simp +decide only [if_true, if_false, Int32.lt_iff_toInt_lt, ← Int32.toInt_inj, if_pos, if_neg]
    repeat' split
    all_goals first | rfl | (exfalso; omega)
  · rw [show own_least (Int32.ofNat 11) = 2 from by decide, show own_most (Int32.ofNat 11) = 2 from by decide]
    unfold f2 f3
    simp +decide only [if_true, if_false, Int32.lt_iff_toInt_lt, ← Int32.toInt_inj, if_pos, if_neg]
    repeat' split
    all_goals first | rfl | (exfalso; omega)
  · rw [show own_least (Int32.ofNat 12) = 1 from by decide, show own_most (Int32.ofNat 12) = 1 from by decide]
    unfold f2 f3
    simp +decide only [if_true, if_false, Int32.lt_iff_toInt_lt, ← Int32.toInt_inj, if_pos, if_neg]
    repeat' split
    all_goals first | rfl | (exfalso; omega)
  · rw [show own_least (Int32.ofNat 13) = 1 from by decide, show own_most (Int32.ofNat 13) = 1 from by decide]
    unfold f2 f3
    simp +decide only [if_true, if_false, Int32.lt_iff_toInt_lt, ← Int32.toInt_inj, if_pos, if_neg]
    repeat' split
    all_goals first | rfl | (exfalso; omega)
  · rw [show own_least (Int32.ofNat 14) = 0 from by decide, show own_most (Int32.ofNat 14) = 0 from by decide]
    unfold f2 f3
    simp +decide only [if_true, if_false, Int32.lt_iff_toInt_lt, ← Int32.toInt_inj, if_pos, if_neg]
    repeat' split
    all_goals first | rfl | (exfalso; omega)
  · rw [show own_least (Int32.ofNat 15) = 1 from by decide, show own_most (Int32.ofNat 15) = 1 from by decide]
    unfold f2 f3
    simp +decide only [if_true, if_false, Int32.lt_iff_toInt_lt, ← Int32.toInt_inj, if_pos, if_neg]
    repeat' split
    all_goals first | rfl | (exfalso; omega)
theorem plain (a b c : Int32) : f0 a b c (own_least (a &&& (15 : Int32))) (own_most (a &&& (15 : Int32))) = 1 := by
  obtain ⟨n, hn, e⟩ := own_mask a 15 15 (by decide)
  have h1 : f0_u1 a b (own_least (a &&& (15 : Int32))) (own_most (a &&& (15 : Int32))) = 1 := if_pos (by rw [e]; exact own_case n hn _)
  have h2 : f0_u2 a c (own_least (a &&& (15 : Int32))) (own_most (a &&& (15 : Int32))) = 1 := if_pos (by rw [e]; exact own_case n hn _)
  unfold f0
  rw [h1, h2]
  decide
set_option maxRecDepth 65536 in
set_option maxHeartbeats 40000000 in
theorem comes_1 {Post : Tables → Env → Array Value → State → Outcome → State → Prop} (hpost : ∀ tb e args s v u, (limb_1_1.after args s (.returned v) u = true ∧ limb_1_2.after args s (.returned v) u = true ∧ True) → FrameEnd s (.returned v) u (Jvm.fieldLocs frame_1_writes args s ++ Jvm.arrayLocs frame_1_arrays args s ++ Jvm.staticLocs frame_1_statics s) 0 0 → Post tb e args s (.returned v) u) :
    ArmFor flags0 classFile x code maxLocals ret World_1 tables_1 room_1 Calls_1 rest_1 Pre_1 Post := by
  intro l hfl _ _ p e ha hc hk s m args below hf hA hF happ hP
  obtain ⟨hcalls, hrest, hpre⟩ := hP
  obtain ⟨-, -, -, hnamed, -, -, -, hat⟩ := (Spec.applies_iff hf).mp happ
  obtain ⟨hg, hn⟩ := and_e (Cond.before_iff.mp (show (Jvm.Cond.and given_1 narrow_1).before args s = true from hpre))
  obtain ⟨gc, g0⟩ := and_e hg
  obtain ⟨gi0, g1⟩ := and_e g0
  obtain ⟨gi1, g2⟩ := and_e g1
  have gi2 := g2
  obtain ⟨w0, w1, w2, rfl⟩ : ∃ w0 w1 w2 : Value, args = #[w0, w1, w2] := by
    have hs : args.size = 3 := by simpa [Cond.value, given_1] using gc
    obtain ⟨L⟩ := args
    match L, hs with
    | [w0, w1, w2], _ => exact ⟨w0, w1, w2, rfl⟩
  have hw := fun d (hd : d ∈ tables_1) => atoms_spec (ws := Jvm.Cond.code x code maxLocals ret :: tables_1) hat d (List.mem_cons_of_mem _ hd)
  have hfit : Fit s := fun {y c} hc i hi => by
    obtain ⟨ha, rfl⟩ := Array.getElem?_eq_some_iff.mp hc
    have q := List.all_eq_true.mp ((Array.all_eq_true_iff_forall_mem.mp hF) _ (Array.getElem_mem ha)) i (List.mem_range.mpr hi)
    simpa [Array.getElem?_eq_getElem hi] using q
  obtain ⟨i0, ei0⟩ := is_v gi0
  obtain rfl : w0 = (.int i0) := Option.some.inj ei0
  obtain ⟨i1, ei1⟩ := is_v gi1
  obtain rfl : w1 = (.int i1) := Option.some.inj ei1
  obtain ⟨i2, ei2⟩ := is_v gi2
  obtain rfl : w2 = (.int i2) := Option.some.inj ei2
  obtain ⟨hm0, hn0⟩ := and_e hn
  obtain ⟨hm1, hn1⟩ := and_e hn0
  obtain ⟨hm2, hn2⟩ := and_e hn1
  obtain ⟨hm3, hn3⟩ := and_e hn2
  obtain ⟨hm4, hn4⟩ := and_e hn3
  obtain ⟨hm5, hn5⟩ := and_e hn4
  obtain ⟨hm6, hn6⟩ := and_e hn5
  obtain ⟨hm7, hn7⟩ := and_e hn6
  obtain ⟨hm8, hn8⟩ := and_e hn7
  obtain ⟨hm9, hn9⟩ := and_e hn8
  obtain ⟨hm10, hn10⟩ := and_e hn9
  obtain ⟨hm11, hn11⟩ := and_e hn10
  obtain ⟨hm12, hn12⟩ := and_e hn11
  obtain ⟨hm13, hn13⟩ := and_e hn12
  obtain ⟨hm14, hn14⟩ := and_e hn13
  obtain ⟨hm15, hn15⟩ := and_e hn14
  obtain ⟨hm16, hn16⟩ := and_e hn15
  obtain ⟨hm17, hn17⟩ := and_e hn16
  obtain ⟨hm18, hn18⟩ := and_e hn17
  obtain ⟨hm19, hn19⟩ := and_e hn18
  obtain ⟨hm20, hn20⟩ := and_e hn19
  obtain ⟨hm21, hn21⟩ := and_e hn20
  obtain ⟨hm22, hn22⟩ := and_e hn21
  obtain ⟨hm23, hn23⟩ := and_e hn22
  obtain ⟨hm24, hn24⟩ := and_e hn23
  obtain ⟨hm25, hn25⟩ := and_e hn24
  obtain ⟨hm26, hn26⟩ := and_e hn25
  obtain ⟨hm27, hn27⟩ := and_e hn26
  obtain ⟨hm28, hn28⟩ := and_e hn27
  obtain ⟨hm29, hn29⟩ := and_e hn28
  obtain ⟨hm30, hn30⟩ := and_e hn29
  obtain ⟨hm31, hn31⟩ := and_e hn30
  obtain ⟨hm32, hn32⟩ := and_e hn31
  obtain ⟨hm33, hn33⟩ := and_e hn32
  obtain ⟨hm34, hn34⟩ := and_e hn33
  obtain ⟨hm35, hn35⟩ := and_e hn34
  obtain ⟨hm36, hn36⟩ := and_e hn35
  obtain ⟨hm37, hn37⟩ := and_e hn36
  obtain ⟨hm38, hn38⟩ := and_e hn37
  obtain ⟨hm39, hn39⟩ := and_e hn38
  obtain ⟨hm40, hn40⟩ := and_e hn39
  obtain ⟨hm41, hn41⟩ := and_e hn40
  obtain ⟨hm42, hn42⟩ := and_e hn41
  obtain ⟨hm43, hn43⟩ := and_e hn42
  obtain ⟨hm44, hn44⟩ := and_e hn43
  obtain ⟨hm45, hn45⟩ := and_e hn44
  obtain ⟨hm46, hn46⟩ := and_e hn45
  obtain ⟨w_IF, ev_IF⟩ := exa_v hm0
  have E_w_IF : Exa s s.heap w_IF "com/example/nestway/nestway/sparql/Function" := Exa.start ev_IF hm0
  have S_IF : Sta s s.heap "com/example/nestway/nestway/sparql/Function" "IF" "Lcom/example/nestway/nestway/sparql/Function;" (.ref w_IF) := Sta.start ev_IF (Or.inr ⟨(hw _ (List.mem_of_getElem? (i := 5) rfl)), (hw _ (List.mem_of_getElem? (i := 6) rfl))⟩)
  obtain ⟨w_COALESCE, ev_COALESCE⟩ := exa_v hm3
  have E_w_COALESCE : Exa s s.heap w_COALESCE "com/example/nestway/nestway/sparql/Function" := Exa.start ev_COALESCE hm3
  have S_COALESCE : Sta s s.heap "com/example/nestway/nestway/sparql/Function" "COALESCE" "Lcom/example/nestway/nestway/sparql/Function;" (.ref w_COALESCE) := Sta.start ev_COALESCE (Or.inr ⟨(hw _ (List.mem_of_getElem? (i := 5) rfl)), (hw _ (List.mem_of_getElem? (i := 20) rfl))⟩)
  obtain ⟨w_BNODE, ev_BNODE⟩ := exa_v hm6
  have E_w_BNODE : Exa s s.heap w_BNODE "com/example/nestway/nestway/sparql/Function" := Exa.start ev_BNODE hm6
  have S_BNODE : Sta s s.heap "com/example/nestway/nestway/sparql/Function" "BNODE" "Lcom/example/nestway/nestway/sparql/Function;" (.ref w_BNODE) := Sta.start ev_BNODE (Or.inr ⟨(hw _ (List.mem_of_getElem? (i := 5) rfl)), (hw _ (List.mem_of_getElem? (i := 22) rfl))⟩)
  obtain ⟨w_SHA512, ev_SHA512⟩ := exa_v hm9
  have E_w_SHA512 : Exa s s.heap w_SHA512 "com/example/nestway/nestway/sparql/Function" := Exa.start ev_SHA512 hm9
  have S_SHA512 : Sta s s.heap "com/example/nestway/nestway/sparql/Function" "SHA512" "Lcom/example/nestway/nestway/sparql/Function;" (.ref w_SHA512) := Sta.start ev_SHA512 (Or.inr ⟨(hw _ (List.mem_of_getElem? (i := 5) rfl)), (hw _ (List.mem_of_getElem? (i := 24) rfl))⟩)
  obtain ⟨w_CONCAT, ev_CONCAT⟩ := exa_v hm12
  have E_w_CONCAT : Exa s s.heap w_CONCAT "com/example/nestway/nestway/sparql/Function" := Exa.start ev_CONCAT hm12
  have S_CONCAT : Sta s s.heap "com/example/nestway/nestway/sparql/Function" "CONCAT" "Lcom/example/nestway/nestway/sparql/Function;" (.ref w_CONCAT) := Sta.start ev_CONCAT (Or.inr ⟨(hw _ (List.mem_of_getElem? (i := 5) rfl)), (hw _ (List.mem_of_getElem? (i := 26) rfl))⟩)
  obtain ⟨w_SAME_TERM, ev_SAME_TERM⟩ := exa_v hm15
  have E_w_SAME_TERM : Exa s s.heap w_SAME_TERM "com/example/nestway/nestway/sparql/Function" := Exa.start ev_SAME_TERM hm15
  have S_SAME_TERM : Sta s s.heap "com/example/nestway/nestway/sparql/Function" "SAME_TERM" "Lcom/example/nestway/nestway/sparql/Function;" (.ref w_SAME_TERM) := Sta.start ev_SAME_TERM (Or.inr ⟨(hw _ (List.mem_of_getElem? (i := 5) rfl)), (hw _ (List.mem_of_getElem? (i := 28) rfl))⟩)
  obtain ⟨w_STRLEN, ev_STRLEN⟩ := exa_v hm18
  have E_w_STRLEN : Exa s s.heap w_STRLEN "com/example/nestway/nestway/sparql/Function" := Exa.start ev_STRLEN hm18
  have S_STRLEN : Sta s s.heap "com/example/nestway/nestway/sparql/Function" "STRLEN" "Lcom/example/nestway/nestway/sparql/Function;" (.ref w_STRLEN) := Sta.start ev_STRLEN (Or.inr ⟨(hw _ (List.mem_of_getElem? (i := 5) rfl)), (hw _ (List.mem_of_getElem? (i := 30) rfl))⟩)
  obtain ⟨w_RAND, ev_RAND⟩ := exa_v hm21
  have E_w_RAND : Exa s s.heap w_RAND "com/example/nestway/nestway/sparql/Function" := Exa.start ev_RAND hm21
  have S_RAND : Sta s s.heap "com/example/nestway/nestway/sparql/Function" "RAND" "Lcom/example/nestway/nestway/sparql/Function;" (.ref w_RAND) := Sta.start ev_RAND (Or.inr ⟨(hw _ (List.mem_of_getElem? (i := 5) rfl)), (hw _ (List.mem_of_getElem? (i := 32) rfl))⟩)
  obtain ⟨w_IS_IRI, ev_IS_IRI⟩ := exa_v hm24
  have E_w_IS_IRI : Exa s s.heap w_IS_IRI "com/example/nestway/nestway/sparql/Function" := Exa.start ev_IS_IRI hm24
  have S_IS_IRI : Sta s s.heap "com/example/nestway/nestway/sparql/Function" "IS_IRI" "Lcom/example/nestway/nestway/sparql/Function;" (.ref w_IS_IRI) := Sta.start ev_IS_IRI (Or.inr ⟨(hw _ (List.mem_of_getElem? (i := 5) rfl)), (hw _ (List.mem_of_getElem? (i := 34) rfl))⟩)
  obtain ⟨w_STRDT, ev_STRDT⟩ := exa_v hm27
  have E_w_STRDT : Exa s s.heap w_STRDT "com/example/nestway/nestway/sparql/Function" := Exa.start ev_STRDT hm27
  have S_STRDT : Sta s s.heap "com/example/nestway/nestway/sparql/Function" "STRDT" "Lcom/example/nestway/nestway/sparql/Function;" (.ref w_STRDT) := Sta.start ev_STRDT (Or.inr ⟨(hw _ (List.mem_of_getElem? (i := 5) rfl)), (hw _ (List.mem_of_getElem? (i := 36) rfl))⟩)
  obtain ⟨w_REGEX, ev_REGEX⟩ := exa_v hm30
  have E_w_REGEX : Exa s s.heap w_REGEX "com/example/nestway/nestway/sparql/Function" := Exa.start ev_REGEX hm30
  have S_REGEX : Sta s s.heap "com/example/nestway/nestway/sparql/Function" "REGEX" "Lcom/example/nestway/nestway/sparql/Function;" (.ref w_REGEX) := Sta.start ev_REGEX (Or.inr ⟨(hw _ (List.mem_of_getElem? (i := 5) rfl)), (hw _ (List.mem_of_getElem? (i := 38) rfl))⟩)
  obtain ⟨w_UUID, ev_UUID⟩ := exa_v hm33
  have E_w_UUID : Exa s s.heap w_UUID "com/example/nestway/nestway/sparql/Function" := Exa.start ev_UUID hm33
  have S_UUID : Sta s s.heap "com/example/nestway/nestway/sparql/Function" "UUID" "Lcom/example/nestway/nestway/sparql/Function;" (.ref w_UUID) := Sta.start ev_UUID (Or.inr ⟨(hw _ (List.mem_of_getElem? (i := 5) rfl)), (hw _ (List.mem_of_getElem? (i := 40) rfl))⟩)
  obtain ⟨w_SUBSTR, ev_SUBSTR⟩ := exa_v hm36
  have E_w_SUBSTR : Exa s s.heap w_SUBSTR "com/example/nestway/nestway/sparql/Function" := Exa.start ev_SUBSTR hm36
  have S_SUBSTR : Sta s s.heap "com/example/nestway/nestway/sparql/Function" "SUBSTR" "Lcom/example/nestway/nestway/sparql/Function;" (.ref w_SUBSTR) := Sta.start ev_SUBSTR (Or.inr ⟨(hw _ (List.mem_of_getElem? (i := 5) rfl)), (hw _ (List.mem_of_getElem? (i := 42) rfl))⟩)
  obtain ⟨w_NOW, ev_NOW⟩ := exa_v hm39
  have E_w_NOW : Exa s s.heap w_NOW "com/example/nestway/nestway/sparql/Function" := Exa.start ev_NOW hm39
  have S_NOW : Sta s s.heap "com/example/nestway/nestway/sparql/Function" "NOW" "Lcom/example/nestway/nestway/sparql/Function;" (.ref w_NOW) := Sta.start ev_NOW (Or.inr ⟨(hw _ (List.mem_of_getElem? (i := 5) rfl)), (hw _ (List.mem_of_getElem? (i := 44) rfl))⟩)
  obtain ⟨w_REPLACE, ev_REPLACE⟩ := exa_v hm42
  have E_w_REPLACE : Exa s s.heap w_REPLACE "com/example/nestway/nestway/sparql/Function" := Exa.start ev_REPLACE hm42
  have S_REPLACE : Sta s s.heap "com/example/nestway/nestway/sparql/Function" "REPLACE" "Lcom/example/nestway/nestway/sparql/Function;" (.ref w_REPLACE) := Sta.start ev_REPLACE (Or.inr ⟨(hw _ (List.mem_of_getElem? (i := 5) rfl)), (hw _ (List.mem_of_getElem? (i := 46) rfl))⟩)
  obtain ⟨w_MD5, ev_MD5⟩ := exa_v hm44
  have E_w_MD5 : Exa s s.heap w_MD5 "com/example/nestway/nestway/sparql/Function" := Exa.start ev_MD5 hm44
  have S_MD5 : Sta s s.heap "com/example/nestway/nestway/sparql/Function" "MD5" "Lcom/example/nestway/nestway/sparql/Function;" (.ref w_MD5) := Sta.start ev_MD5 (Or.inr ⟨(hw _ (List.mem_of_getElem? (i := 5) rfl)), (hw _ (List.mem_of_getElem? (i := 48) rfl))⟩)
  have F_least_IF : Fld s s.heap w_IF "com/example/nestway/nestway/sparql/Function" "least" "I" (.int (3 : Int32)) := own_fld ev_IF hm1
  have F_most_IF : Fld s s.heap w_IF "com/example/nestway/nestway/sparql/Function" "most" "I" (.int (3 : Int32)) := own_fld ev_IF hm2
  have F_least_COALESCE : Fld s s.heap w_COALESCE "com/example/nestway/nestway/sparql/Function" "least" "I" (.int (0 : Int32)) := own_fld ev_COALESCE hm4
  have F_most_COALESCE : Fld s s.heap w_COALESCE "com/example/nestway/nestway/sparql/Function" "most" "I" (.int (2147483647 : Int32)) := own_fld ev_COALESCE hm5
  have F_least_BNODE : Fld s s.heap w_BNODE "com/example/nestway/nestway/sparql/Function" "least" "I" (.int (0 : Int32)) := own_fld ev_BNODE hm7
  have F_most_BNODE : Fld s s.heap w_BNODE "com/example/nestway/nestway/sparql/Function" "most" "I" (.int (1 : Int32)) := own_fld ev_BNODE hm8
  have F_least_SHA512 : Fld s s.heap w_SHA512 "com/example/nestway/nestway/sparql/Function" "least" "I" (.int (1 : Int32)) := own_fld ev_SHA512 hm10
  have F_most_SHA512 : Fld s s.heap w_SHA512 "com/example/nestway/nestway/sparql/Function" "most" "I" (.int (1 : Int32)) := own_fld ev_SHA512 hm11
  have F_least_CONCAT : Fld s s.heap w_CONCAT "com/example/nestway/nestway/sparql/Function" "least" "I" (.int (0 : Int32)) := own_fld ev_CONCAT hm13
  have F_most_CONCAT : Fld s s.heap w_CONCAT "com/example/nestway/nestway/sparql/Function" "most" "I" (.int (2147483647 : Int32)) := own_fld ev_CONCAT hm14
  have F_least_SAME_TERM : Fld s s.heap w_SAME_TERM "com/example/nestway/nestway/sparql/Function" "least" "I" (.int (2 : Int32)) := own_fld ev_SAME_TERM hm16
  have F_most_SAME_TERM : Fld s s.heap w_SAME_TERM "com/example/nestway/nestway/sparql/Function" "most" "I" (.int (2 : Int32)) := own_fld ev_SAME_TERM hm17
  have F_least_STRLEN : Fld s s.heap w_STRLEN "com/example/nestway/nestway/sparql/Function" "least" "I" (.int (1 : Int32)) := own_fld ev_STRLEN hm19
  have F_most_STRLEN : Fld s s.heap w_STRLEN "com/example/nestway/nestway/sparql/Function" "most" "I" (.int (1 : Int32)) := own_fld ev_STRLEN hm20
  have F_least_RAND : Fld s s.heap w_RAND "com/example/nestway/nestway/sparql/Function" "least" "I" (.int (0 : Int32)) := own_fld ev_RAND hm22
  have F_most_RAND : Fld s s.heap w_RAND "com/example/nestway/nestway/sparql/Function" "most" "I" (.int (0 : Int32)) := own_fld ev_RAND hm23
  have F_least_IS_IRI : Fld s s.heap w_IS_IRI "com/example/nestway/nestway/sparql/Function" "least" "I" (.int (1 : Int32)) := own_fld ev_IS_IRI hm25
  have F_most_IS_IRI : Fld s s.heap w_IS_IRI "com/example/nestway/nestway/sparql/Function" "most" "I" (.int (1 : Int32)) := own_fld ev_IS_IRI hm26
  have F_least_STRDT : Fld s s.heap w_STRDT "com/example/nestway/nestway/sparql/Function" "least" "I" (.int (2 : Int32)) := own_fld ev_STRDT hm28
  have F_most_STRDT : Fld s s.heap w_STRDT "com/example/nestway/nestway/sparql/Function" "most" "I" (.int (2 : Int32)) := own_fld ev_STRDT hm29
  have F_least_REGEX : Fld s s.heap w_REGEX "com/example/nestway/nestway/sparql/Function" "least" "I" (.int (2 : Int32)) := own_fld ev_REGEX hm31
  have F_most_REGEX : Fld s s.heap w_REGEX "com/example/nestway/nestway/sparql/Function" "most" "I" (.int (3 : Int32)) := own_fld ev_REGEX hm32
  have F_least_UUID : Fld s s.heap w_UUID "com/example/nestway/nestway/sparql/Function" "least" "I" (.int (0 : Int32)) := own_fld ev_UUID hm34
  have F_most_UUID : Fld s s.heap w_UUID "com/example/nestway/nestway/sparql/Function" "most" "I" (.int (0 : Int32)) := own_fld ev_UUID hm35
  have F_least_SUBSTR : Fld s s.heap w_SUBSTR "com/example/nestway/nestway/sparql/Function" "least" "I" (.int (2 : Int32)) := own_fld ev_SUBSTR hm37
  have F_most_SUBSTR : Fld s s.heap w_SUBSTR "com/example/nestway/nestway/sparql/Function" "most" "I" (.int (3 : Int32)) := own_fld ev_SUBSTR hm38
  have F_least_NOW : Fld s s.heap w_NOW "com/example/nestway/nestway/sparql/Function" "least" "I" (.int (0 : Int32)) := own_fld ev_NOW hm40
  have F_most_NOW : Fld s s.heap w_NOW "com/example/nestway/nestway/sparql/Function" "most" "I" (.int (0 : Int32)) := own_fld ev_NOW hm41
  have F_least_REPLACE : Fld s s.heap w_REPLACE "com/example/nestway/nestway/sparql/Function" "least" "I" (.int (3 : Int32)) := own_fld ev_REPLACE hm43
  have F_least_MD5 : Fld s s.heap w_MD5 "com/example/nestway/nestway/sparql/Function" "least" "I" (.int (1 : Int32)) := own_fld ev_MD5 hm45
  have F_most_MD5 : Fld s s.heap w_MD5 "com/example/nestway/nestway/sparql/Function" "most" "I" (.int (1 : Int32)) := own_fld ev_MD5 hm46
  have F_most_REPLACE : Fld s s.heap w_REPLACE "com/example/nestway/nestway/sparql/Function" "most" "I" (.int (4 : Int32)) := own_fld ev_REPLACE hn46
  obtain ⟨n, o, h1, h2, h3, v, L, rfl, ⟨hv, N, -⟩, hq⟩ := rm0 l s _ hw tables_1 i0 i1 i2 w_IF w_COALESCE w_SAME_TERM w_STRLEN w_BNODE w_SUBSTR w_REPLACE w_UUID w_CONCAT w_REGEX w_RAND w_STRDT w_MD5 w_IS_IRI w_NOW w_SHA512 (own_least (i0 &&& (15 : Int32))) (own_most (i0 &&& (15 : Int32))) s.heap s.heap.size (Nat.le_refl _) S_IF S_COALESCE S_SAME_TERM S_STRLEN S_BNODE S_SUBSTR S_REPLACE S_UUID S_CONCAT S_REGEX S_RAND S_STRDT S_MD5 S_IS_IRI S_NOW S_SHA512 (own_chl (P := fun a _ => Exa s s.heap a "com/example/nestway/nestway/sparql/Function") (i0 &&& (15 : Int32)) w_IF w_COALESCE w_SAME_TERM w_STRLEN w_BNODE w_SUBSTR w_REPLACE w_UUID w_CONCAT w_REGEX w_RAND w_STRDT w_MD5 w_IS_IRI w_NOW w_SHA512 E_w_IF E_w_COALESCE E_w_SAME_TERM E_w_STRLEN E_w_BNODE E_w_SUBSTR E_w_REPLACE E_w_UUID E_w_CONCAT E_w_REGEX E_w_RAND E_w_STRDT E_w_MD5 E_w_IS_IRI E_w_NOW E_w_SHA512) (own_chl (P := fun a v => Fld s s.heap a "com/example/nestway/nestway/sparql/Function" "least" "I" (.int v)) (i0 &&& (15 : Int32)) w_IF w_COALESCE w_SAME_TERM w_STRLEN w_BNODE w_SUBSTR w_REPLACE w_UUID w_CONCAT w_REGEX w_RAND w_STRDT w_MD5 w_IS_IRI w_NOW w_SHA512 F_least_IF F_least_COALESCE F_least_SAME_TERM F_least_STRLEN F_least_BNODE F_least_SUBSTR F_least_REPLACE F_least_UUID F_least_CONCAT F_least_REGEX F_least_RAND F_least_STRDT F_least_MD5 F_least_IS_IRI F_least_NOW F_least_SHA512) (own_chm (P := fun a v => Fld s s.heap a "com/example/nestway/nestway/sparql/Function" "most" "I" (.int v)) (i0 &&& (15 : Int32)) w_IF w_COALESCE w_SAME_TERM w_STRLEN w_BNODE w_SUBSTR w_REPLACE w_UUID w_CONCAT w_REGEX w_RAND w_STRDT w_MD5 w_IS_IRI w_NOW w_SHA512 F_most_IF F_most_COALESCE F_most_SAME_TERM F_most_STRLEN F_most_BNODE F_most_SUBSTR F_most_REPLACE F_most_UUID F_most_CONCAT F_most_REGEX F_most_RAND F_most_STRDT F_most_MD5 F_most_IS_IRI F_most_NOW F_most_SHA512) p e ha hc hk s m _ below hf ((Spec.applies_iff_loose hf).mp happ).1 ⟨rfl, State.Warmed39.refl s, rfl⟩ trivial
  rw [plain i0 i1 i2] at hv
  subst hv
  refine ⟨n, _, h1, h2, h3, hpost _ _ _ _ _ _ ⟨Cond.after_iff.mpr rfl, Cond.after_iff.mpr (eq_i res_at (Term.int_eval (1)) rfl), trivial⟩ ⟨hq.1, hq.2.1, (hq.2.2.sift fun y hy => Or.inr (N y hy)).mono (by decide) (by decide)⟩⟩
theorem main_1_1 : Claimed_1_1 := comes_1 fun _ _ _ _ _ _ h hF => ⟨h.1, hF⟩
theorem main_1_2 : Claimed_1_2 := comes_1 fun _ _ _ _ _ _ h hF => ⟨h.2.1, hF⟩
end Jvm.Pilot.@@N@@
namespace Jvm.Pilot.@@N@@
open Jvm Jvm.ClassFile Sem Op Lib Jvm.Free Jvm.Stand Jvm.Pilot.@@N@@.Jvm.D
/-! MADE BY PROGRAM (witnessworld.py) out of the Statement's table words and the real class files: 12 classes; the members and pool entries that the words name. The judged class is class 1, her method 3. -/
namespace start1
open Jvm.ClassFile
def u (s : String) : CpInfo := .utf8 (stringToUtf16 s)
/-- a pool by its gaps: so many unusable entries, then the entry; so many at the end -/
def gap : Nat → List CpInfo → List CpInfo
  | 0, r => r
  | n + 1, r => .unusable :: gap n r
def poolList (es : List (Nat × CpInfo)) (last : Nat) : List CpInfo := es.foldr (fun e r => gap e.1 (e.2 :: r)) (gap last [])
def pool (es : List (Nat × CpInfo)) (last : Nat) : Array CpInfo := ⟨poolList es last⟩
def fileOf (pool : Array CpInfo) (this : Nat) (attrs : Array Attribute := #[]) (ms : Array MethodInfo := #[]) (fl : Nat := 33) (sup : Nat := 0) (ifs : Array Nat := #[]) (fds : Array FieldInfo := #[]) : ClassFile where
  minorVersion := 0
  majorVersion := 65
  constantPool := pool
  accessFlags := fl
  thisClass := this
  superClass := sup
  interfaces := ifs
  fields := fds
  methods := ms
  attributes := attrs
def plain (name : String) (sup : Option ClassId) : Class where
  name := name
  kind := .ordinary
  loader := none
  accessFlags := 33
  super := sup
  interfaces := #[]
  cf := none
  fields := #[]
  methods := #[]
  instanceTypes := #[]
  staticTypes := #[]
  resolved := #[]
  callSites := []
  init := .initialized
  statics := none
  mirror := none

def pool0 : Array CpInfo := pool [(5, u "<init>"), (0, u "()V"), (1, .class_ 10), (1, u "java/lang/Object")] 113

def k0m0 : Method := { name := "<init>", desc := "()V", sig := { parameters := [], returnType := none }, accessFlags := 1, code := none }
/-- java/lang/Object -/
def k0 : Class := { plain "java/lang/Object" none with
  accessFlags := 33
  interfaces := #[]
  cf := some (fileOf pool0 8 #[] #[{ accessFlags := 1, nameIndex := 5, descriptorIndex := 6, attributes := #[] }] 33 0 #[] #[])
  fields := #[]
  methods := #[k0m0]
  instanceTypes := #[]
  staticTypes := #[]
  resolved := Array.replicate 124 none
  statics := none }

def pool1 : Array CpInfo := pool [(2, .class_ 4), (1, u "java/lang/Object"), (0, u "<init>"), (0, u "()V"), (0, .fieldref 8 9), (0, .class_ 10), (0, .nameAndType 11 12), (0, u "com/example/nestway/nestway/sparql/Function"), (0, u "IF"), (0, u "Lcom/example/nestway/nestway/sparql/Function;"), (0, .fieldref 8 14), (0, .nameAndType 15 12), (0, u "COALESCE"), (0, .fieldref 8 17), (0, .nameAndType 18 12), (0, u "SAME_TERM"), (0, .fieldref 8 20), (0, .nameAndType 21 12), (0, u "STRLEN"), (0, .fieldref 8 23), (0, .nameAndType 24 12), (0, u "BNODE"), (0, .fieldref 8 26), (0, .nameAndType 27 12), (0, u "SUBSTR"), (0, .fieldref 8 29), (0, .nameAndType 30 12), (0, u "REPLACE"), (0, .fieldref 8 32), (0, .nameAndType 33 12), (0, u "UUID"), (0, .fieldref 8 35), (0, .nameAndType 36 12), (0, u "CONCAT"), (0, .fieldref 8 38), (0, .nameAndType 39 12), (0, u "REGEX"), (0, .fieldref 8 41), (0, .nameAndType 42 12), (0, u "RAND"), (0, .fieldref 8 44), (0, .nameAndType 45 12), (0, u "STRDT"), (0, .fieldref 8 47), (0, .nameAndType 48 12), (0, u "MD5"), (0, .fieldref 8 50), (0, .nameAndType 51 12), (0, u "IS_IRI"), (0, .fieldref 8 53), (0, .nameAndType 54 12), (0, u "NOW"), (0, .fieldref 8 56), (0, .nameAndType 57 12), (0, u "SHA512"), (0, .methodref 59 60), (0, .class_ 61), (0, .nameAndType 62 63), (0, u "com/example/nestway/nestway/sparql/FunctionTakesPinLaw"), (0, u "pick"), (0, u "(I)Lcom/example/nestway/nestway/sparql/Function;"), (0, .methodref 8 65), (0, .nameAndType 66 67), (0, u "takes"), (0, u "(I)Z"), (0, .methodref 59 69), (0, .nameAndType 70 71), (0, u "expected"), (0, u "(II)Z"), (3, u "law"), (0, u "(III)Z")] 2

def k1m0 : Method := { name := "<init>", desc := "()V", sig := { parameters := [], returnType := none }, accessFlags := 2, code := none }
def k1c1 : Code := { maxStack := 2, maxLocals := 1, code := method_2_code, exceptionTable := #[], attributes := #[] }
def k1m1 : Method := { name := "pick", desc := "(I)Lcom/example/nestway/nestway/sparql/Function;", sig := { parameters := [.int], returnType := some (.object "com/example/nestway/nestway/sparql/Function") }, accessFlags := 10, code := some k1c1 }
def k1c2 : Code := { maxStack := 2, maxLocals := 2, code := method_3_code, exceptionTable := #[], attributes := #[] }
def k1m2 : Method := { name := "expected", desc := "(II)Z", sig := { parameters := [.int, .int], returnType := some .boolean }, accessFlags := 10, code := some k1c2 }
def k1c3 : Code := { maxStack := 3, maxLocals := 8, code := code, exceptionTable := #[], attributes := #[] }
def k1m3 : Method := { name := "law", desc := "(III)Z", sig := { parameters := [.int, .int, .int], returnType := some .boolean }, accessFlags := 9, code := some k1c3 }
/-- com/example/nestway/nestway/sparql/FunctionTakesPinLaw -/
def k1 : Class := { plain "com/example/nestway/nestway/sparql/FunctionTakesPinLaw" (some 0) with
  accessFlags := 49
  interfaces := #[]
  cf := some (fileOf pool1 59 #[] #[{ accessFlags := 2, nameIndex := 5, descriptorIndex := 6, attributes := #[] }, { accessFlags := 10, nameIndex := 62, descriptorIndex := 63, attributes := #[] }, { accessFlags := 10, nameIndex := 70, descriptorIndex := 71, attributes := #[] }, { accessFlags := 9, nameIndex := 75, descriptorIndex := 76, attributes := #[] }] 49 2 #[] #[])
  fields := #[]
  methods := #[k1m0, k1m1, k1m2, k1m3]
  instanceTypes := #[]
  staticTypes := #[]
  resolved := Array.replicate 79 none
  statics := none }

def pool2 : Array CpInfo := pool [(1, .class_ 2), (0, u "java/lang/constant/Constable"), (0, .class_ 4), (0, u "java/lang/Object")] 6

/-- java/lang/constant/Constable -/
def k2 : Class := { plain "java/lang/constant/Constable" (some 0) with
  accessFlags := 1537
  interfaces := #[]
  cf := some (fileOf pool2 1 #[] #[] 1537 3 #[] #[])
  fields := #[]
  methods := #[]
  instanceTypes := #[]
  staticTypes := #[]
  resolved := Array.replicate 11 none
  statics := none }

def pool3 : Array CpInfo := pool [(1, .class_ 2), (0, u "java/lang/Comparable"), (0, .class_ 4), (0, u "java/lang/Object")] 7

/-- java/lang/Comparable -/
def k3 : Class := { plain "java/lang/Comparable" (some 0) with
  accessFlags := 1537
  interfaces := #[]
  cf := some (fileOf pool3 1 #[] #[] 1537 3 #[] #[])
  fields := #[]
  methods := #[]
  instanceTypes := #[]
  staticTypes := #[]
  resolved := Array.replicate 12 none
  statics := none }

def pool4 : Array CpInfo := pool [(1, .class_ 2), (0, u "java/io/Serializable"), (0, .class_ 4), (0, u "java/lang/Object")] 2

/-- java/io/Serializable -/
def k4 : Class := { plain "java/io/Serializable" (some 0) with
  accessFlags := 1537
  interfaces := #[]
  cf := some (fileOf pool4 1 #[] #[] 1537 3 #[] #[])
  fields := #[]
  methods := #[]
  instanceTypes := #[]
  staticTypes := #[]
  resolved := Array.replicate 7 none
  statics := none }

def pool5 : Array CpInfo := pool [(2, .class_ 4), (1, u "java/lang/Enum"), (0, u "name"), (0, u "Ljava/lang/String;"), (2, u "ordinal"), (0, u "I"), (1, .class_ 14), (1, u "java/lang/Object"), (4, u "hash"), (86, .class_ 108), (1, u "java/lang/Enum$EnumDesc"), (2, .class_ 112), (0, u "java/lang/constant/Constable"), (0, .class_ 114), (0, u "java/lang/Comparable"), (0, .class_ 116), (0, u "java/io/Serializable")] 87

/-- java/lang/Enum -/
def k5 : Class := { plain "java/lang/Enum" (some 0) with
  accessFlags := 1057
  interfaces := #[2, 3, 4]
  cf := some (fileOf pool5 2 #[.nestMembers #[106]] #[] 1057 12 #[111, 113, 115] #[{ accessFlags := 18, nameIndex := 5, descriptorIndex := 6, attributes := #[] }, { accessFlags := 18, nameIndex := 9, descriptorIndex := 10, attributes := #[] }, { accessFlags := 2, nameIndex := 19, descriptorIndex := 10, attributes := #[] }])
  fields := #[{ name := "name", type := (.object "java/lang/String"), accessFlags := 18, slot := 0, constantValue := 0 }, { name := "ordinal", type := .int, accessFlags := 18, slot := 1, constantValue := 0 }, { name := "hash", type := .int, accessFlags := 2, slot := 2, constantValue := 0 }]
  methods := #[]
  instanceTypes := #[(.object "java/lang/String"), .int, .int]
  staticTypes := #[]
  resolved := Array.replicate 204 none
  statics := none }

def pool6 : Array CpInfo := pool [(1, .class_ 2), (0, u "com/example/nestway/nestway/sparql/Function"), (2, u "IF"), (0, u "Lcom/example/nestway/nestway/sparql/Function;"), (2, u "COALESCE"), (2, u "SAME_TERM"), (2, u "IS_IRI"), (2, u "IS_URI"), (2, u "IS_BLANK"), (2, u "IS_LITERAL"), (2, u "IS_NUMERIC"), (2, u "STR"), (2, u "LANG"), (2, u "DATATYPE"), (2, u "IRI"), (2, u "URI"), (2, u "BNODE"), (2, u "STRDT"), (2, u "STRLANG"), (2, u "UUID"), (2, u "STRUUID"), (2, u "STRLEN"), (2, u "SUBSTR"), (2, u "UCASE"), (2, u "LCASE"), (2, u "STRSTARTS"), (2, u "STRENDS"), (2, u "CONTAINS"), (2, u "STRBEFORE"), (2, u "STRAFTER"), (2, u "ENCODE_FOR_URI"), (2, u "CONCAT"), (2, u "LANG_MATCHES"), (2, u "REGEX"), (2, u "REPLACE"), (2, u "ABS"), (2, u "ROUND"), (2, u "CEIL"), (2, u "FLOOR"), (2, u "RAND"), (2, u "NOW"), (2, u "YEAR"), (2, u "MONTH"), (2, u "DAY"), (2, u "HOURS"), (2, u "MINUTES"), (2, u "SECONDS"), (2, u "TIMEZONE"), (2, u "TZ"), (2, u "MD5"), (2, u "SHA1"), (2, u "SHA256"), (2, u "SHA384"), (2, u "SHA512"), (2, u "$VALUES"), (0, u "[Lcom/example/nestway/nestway/sparql/Function;"), (6, .class_ 169), (1, u "java/lang/Enum"), (8, u "written"), (0, u "Ljava/lang/String;"), (0, .fieldref 1 181), (0, .nameAndType 182 183), (0, u "least"), (0, u "I"), (0, .fieldref 1 185), (0, .nameAndType 186 183), (0, u "most"), (2, u "takesErrors"), (0, u "Z"), (2, u "body"), (0, u "Lcom/example/nestway/nestway/sparql/Function$Body;"), (29, u "BY_NAME"), (0, u "Ljava/util/Map;"), (29, .class_ 257), (1, u "com/example/nestway/nestway/sparql/Function$Body"), (147, u "takes"), (0, u "(I)Z")] 211

def k6c0 : Code := { maxStack := 2, maxLocals := 2, code := prog_89_method_6_code, exceptionTable := #[], attributes := #[] }
def k6m0 : Method := { name := "takes", desc := "(I)Z", sig := { parameters := [.int], returnType := some .boolean }, accessFlags := 0, code := some k6c0 }
/-- com/example/nestway/nestway/sparql/Function -/
def k6 : Class := { plain "com/example/nestway/nestway/sparql/Function" (some 5) with
  accessFlags := 16433
  interfaces := #[]
  cf := some (fileOf pool6 1 #[.nestMembers #[255]] #[{ accessFlags := 0, nameIndex := 405, descriptorIndex := 406, attributes := #[] }] 16433 167 #[] #[{ accessFlags := 16409, nameIndex := 5, descriptorIndex := 6, attributes := #[] }, { accessFlags := 16409, nameIndex := 9, descriptorIndex := 6, attributes := #[] }, { accessFlags := 16409, nameIndex := 12, descriptorIndex := 6, attributes := #[] }, { accessFlags := 16409, nameIndex := 15, descriptorIndex := 6, attributes := #[] }, { accessFlags := 16409, nameIndex := 18, descriptorIndex := 6, attributes := #[] }, { accessFlags := 16409, nameIndex := 21, descriptorIndex := 6, attributes := #[] }, { accessFlags := 16409, nameIndex := 24, descriptorIndex := 6, attributes := #[] }, { accessFlags := 16409, nameIndex := 27, descriptorIndex := 6, attributes := #[] }, { accessFlags := 16409, nameIndex := 30, descriptorIndex := 6, attributes := #[] }, { accessFlags := 16409, nameIndex := 33, descriptorIndex := 6, attributes := #[] }, { accessFlags := 16409, nameIndex := 36, descriptorIndex := 6, attributes := #[] }, { accessFlags := 16409, nameIndex := 39, descriptorIndex := 6, attributes := #[] }, { accessFlags := 16409, nameIndex := 42, descriptorIndex := 6, attributes := #[] }, { accessFlags := 16409, nameIndex := 45, descriptorIndex := 6, attributes := #[] }, { accessFlags := 16409, nameIndex := 48, descriptorIndex := 6, attributes := #[] }, { accessFlags := 16409, nameIndex := 51, descriptorIndex := 6, attributes := #[] }, { accessFlags := 16409, nameIndex := 54, descriptorIndex := 6, attributes := #[] }, { accessFlags := 16409, nameIndex := 57, descriptorIndex := 6, attributes := #[] }, { accessFlags := 16409, nameIndex := 60, descriptorIndex := 6, attributes := #[] }, { accessFlags := 16409, nameIndex := 63, descriptorIndex := 6, attributes := #[] }, { accessFlags := 16409, nameIndex := 66, descriptorIndex := 6, attributes := #[] }, { accessFlags := 16409, nameIndex := 69, descriptorIndex := 6, attributes := #[] }, { accessFlags := 16409, nameIndex := 72, descriptorIndex := 6, attributes := #[] }, { accessFlags := 16409, nameIndex := 75, descriptorIndex := 6, attributes := #[] }, { accessFlags := 16409, nameIndex := 78, descriptorIndex := 6, attributes := #[] }, { accessFlags := 16409, nameIndex := 81, descriptorIndex := 6, attributes := #[] }, { accessFlags := 16409, nameIndex := 84, descriptorIndex := 6, attributes := #[] }, { accessFlags := 16409, nameIndex := 87, descriptorIndex := 6, attributes := #[] }, { accessFlags := 16409, nameIndex := 90, descriptorIndex := 6, attributes := #[] }, { accessFlags := 16409, nameIndex := 93, descriptorIndex := 6, attributes := #[] }, { accessFlags := 16409, nameIndex := 96, descriptorIndex := 6, attributes := #[] }, { accessFlags := 16409, nameIndex := 99, descriptorIndex := 6, attributes := #[] }, { accessFlags := 16409, nameIndex := 102, descriptorIndex := 6, attributes := #[] }, { accessFlags := 16409, nameIndex := 105, descriptorIndex := 6, attributes := #[] }, { accessFlags := 16409, nameIndex := 108, descriptorIndex := 6, attributes := #[] }, { accessFlags := 16409, nameIndex := 111, descriptorIndex := 6, attributes := #[] }, { accessFlags := 16409, nameIndex := 114, descriptorIndex := 6, attributes := #[] }, { accessFlags := 16409, nameIndex := 117, descriptorIndex := 6, attributes := #[] }, { accessFlags := 16409, nameIndex := 120, descriptorIndex := 6, attributes := #[] }, { accessFlags := 16409, nameIndex := 123, descriptorIndex := 6, attributes := #[] }, { accessFlags := 16409, nameIndex := 126, descriptorIndex := 6, attributes := #[] }, { accessFlags := 16409, nameIndex := 129, descriptorIndex := 6, attributes := #[] }, { accessFlags := 16409, nameIndex := 132, descriptorIndex := 6, attributes := #[] }, { accessFlags := 16409, nameIndex := 135, descriptorIndex := 6, attributes := #[] }, { accessFlags := 16409, nameIndex := 138, descriptorIndex := 6, attributes := #[] }, { accessFlags := 16409, nameIndex := 141, descriptorIndex := 6, attributes := #[] }, { accessFlags := 16409, nameIndex := 144, descriptorIndex := 6, attributes := #[] }, { accessFlags := 16409, nameIndex := 147, descriptorIndex := 6, attributes := #[] }, { accessFlags := 16409, nameIndex := 150, descriptorIndex := 6, attributes := #[] }, { accessFlags := 16409, nameIndex := 153, descriptorIndex := 6, attributes := #[] }, { accessFlags := 16409, nameIndex := 156, descriptorIndex := 6, attributes := #[] }, { accessFlags := 26, nameIndex := 224, descriptorIndex := 225, attributes := #[] }, { accessFlags := 18, nameIndex := 178, descriptorIndex := 179, attributes := #[] }, { accessFlags := 18, nameIndex := 182, descriptorIndex := 183, attributes := #[] }, { accessFlags := 18, nameIndex := 186, descriptorIndex := 183, attributes := #[] }, { accessFlags := 18, nameIndex := 189, descriptorIndex := 190, attributes := #[] }, { accessFlags := 18, nameIndex := 193, descriptorIndex := 194, attributes := #[] }, { accessFlags := 4122, nameIndex := 159, descriptorIndex := 160, attributes := #[] }])
  fields := #[{ name := "IF", type := (.object "com/example/nestway/nestway/sparql/Function"), accessFlags := 16409, slot := 0, constantValue := 0 }, { name := "COALESCE", type := (.object "com/example/nestway/nestway/sparql/Function"), accessFlags := 16409, slot := 1, constantValue := 0 }, { name := "SAME_TERM", type := (.object "com/example/nestway/nestway/sparql/Function"), accessFlags := 16409, slot := 2, constantValue := 0 }, { name := "IS_IRI", type := (.object "com/example/nestway/nestway/sparql/Function"), accessFlags := 16409, slot := 3, constantValue := 0 }, { name := "IS_URI", type := (.object "com/example/nestway/nestway/sparql/Function"), accessFlags := 16409, slot := 4, constantValue := 0 }, { name := "IS_BLANK", type := (.object "com/example/nestway/nestway/sparql/Function"), accessFlags := 16409, slot := 5, constantValue := 0 }, { name := "IS_LITERAL", type := (.object "com/example/nestway/nestway/sparql/Function"), accessFlags := 16409, slot := 6, constantValue := 0 }, { name := "IS_NUMERIC", type := (.object "com/example/nestway/nestway/sparql/Function"), accessFlags := 16409, slot := 7, constantValue := 0 }, { name := "STR", type := (.object "com/example/nestway/nestway/sparql/Function"), accessFlags := 16409, slot := 8, constantValue := 0 }, { name := "LANG", type := (.object "com/example/nestway/nestway/sparql/Function"), accessFlags := 16409, slot := 9, constantValue := 0 }, { name := "DATATYPE", type := (.object "com/example/nestway/nestway/sparql/Function"), accessFlags := 16409, slot := 10, constantValue := 0 }, { name := "IRI", type := (.object "com/example/nestway/nestway/sparql/Function"), accessFlags := 16409, slot := 11, constantValue := 0 }, { name := "URI", type := (.object "com/example/nestway/nestway/sparql/Function"), accessFlags := 16409, slot := 12, constantValue := 0 }, { name := "BNODE", type := (.object "com/example/nestway/nestway/sparql/Function"), accessFlags := 16409, slot := 13, constantValue := 0 }, { name := "STRDT", type := (.object "com/example/nestway/nestway/sparql/Function"), accessFlags := 16409, slot := 14, constantValue := 0 }, { name := "STRLANG", type := (.object "com/example/nestway/nestway/sparql/Function"), accessFlags := 16409, slot := 15, constantValue := 0 }, { name := "UUID", type := (.object "com/example/nestway/nestway/sparql/Function"), accessFlags := 16409, slot := 16, constantValue := 0 }, { name := "STRUUID", type := (.object "com/example/nestway/nestway/sparql/Function"), accessFlags := 16409, slot := 17, constantValue := 0 }, { name := "STRLEN", type := (.object "com/example/nestway/nestway/sparql/Function"), accessFlags := 16409, slot := 18, constantValue := 0 }, { name := "SUBSTR", type := (.object "com/example/nestway/nestway/sparql/Function"), accessFlags := 16409, slot := 19, constantValue := 0 }, { name := "UCASE", type := (.object "com/example/nestway/nestway/sparql/Function"), accessFlags := 16409, slot := 20, constantValue := 0 }, { name := "LCASE", type := (.object "com/example/nestway/nestway/sparql/Function"), accessFlags := 16409, slot := 21, constantValue := 0 }, { name := "STRSTARTS", type := (.object "com/example/nestway/nestway/sparql/Function"), accessFlags := 16409, slot := 22, constantValue := 0 }, { name := "STRENDS", type := (.object "com/example/nestway/nestway/sparql/Function"), accessFlags := 16409, slot := 23, constantValue := 0 }, { name := "CONTAINS", type := (.object "com/example/nestway/nestway/sparql/Function"), accessFlags := 16409, slot := 24, constantValue := 0 }, { name := "STRBEFORE", type := (.object "com/example/nestway/nestway/sparql/Function"), accessFlags := 16409, slot := 25, constantValue := 0 }, { name := "STRAFTER", type := (.object "com/example/nestway/nestway/sparql/Function"), accessFlags := 16409, slot := 26, constantValue := 0 }, { name := "ENCODE_FOR_URI", type := (.object "com/example/nestway/nestway/sparql/Function"), accessFlags := 16409, slot := 27, constantValue := 0 }, { name := "CONCAT", type := (.object "com/example/nestway/nestway/sparql/Function"), accessFlags := 16409, slot := 28, constantValue := 0 }, { name := "LANG_MATCHES", type := (.object "com/example/nestway/nestway/sparql/Function"), accessFlags := 16409, slot := 29, constantValue := 0 }, { name := "REGEX", type := (.object "com/example/nestway/nestway/sparql/Function"), accessFlags := 16409, slot := 30, constantValue := 0 }, { name := "REPLACE", type := (.object "com/example/nestway/nestway/sparql/Function"), accessFlags := 16409, slot := 31, constantValue := 0 }, { name := "ABS", type := (.object "com/example/nestway/nestway/sparql/Function"), accessFlags := 16409, slot := 32, constantValue := 0 }, { name := "ROUND", type := (.object "com/example/nestway/nestway/sparql/Function"), accessFlags := 16409, slot := 33, constantValue := 0 }, { name := "CEIL", type := (.object "com/example/nestway/nestway/sparql/Function"), accessFlags := 16409, slot := 34, constantValue := 0 }, { name := "FLOOR", type := (.object "com/example/nestway/nestway/sparql/Function"), accessFlags := 16409, slot := 35, constantValue := 0 }, { name := "RAND", type := (.object "com/example/nestway/nestway/sparql/Function"), accessFlags := 16409, slot := 36, constantValue := 0 }, { name := "NOW", type := (.object "com/example/nestway/nestway/sparql/Function"), accessFlags := 16409, slot := 37, constantValue := 0 }, { name := "YEAR", type := (.object "com/example/nestway/nestway/sparql/Function"), accessFlags := 16409, slot := 38, constantValue := 0 }, { name := "MONTH", type := (.object "com/example/nestway/nestway/sparql/Function"), accessFlags := 16409, slot := 39, constantValue := 0 }, { name := "DAY", type := (.object "com/example/nestway/nestway/sparql/Function"), accessFlags := 16409, slot := 40, constantValue := 0 }, { name := "HOURS", type := (.object "com/example/nestway/nestway/sparql/Function"), accessFlags := 16409, slot := 41, constantValue := 0 }, { name := "MINUTES", type := (.object "com/example/nestway/nestway/sparql/Function"), accessFlags := 16409, slot := 42, constantValue := 0 }, { name := "SECONDS", type := (.object "com/example/nestway/nestway/sparql/Function"), accessFlags := 16409, slot := 43, constantValue := 0 }, { name := "TIMEZONE", type := (.object "com/example/nestway/nestway/sparql/Function"), accessFlags := 16409, slot := 44, constantValue := 0 }, { name := "TZ", type := (.object "com/example/nestway/nestway/sparql/Function"), accessFlags := 16409, slot := 45, constantValue := 0 }, { name := "MD5", type := (.object "com/example/nestway/nestway/sparql/Function"), accessFlags := 16409, slot := 46, constantValue := 0 }, { name := "SHA1", type := (.object "com/example/nestway/nestway/sparql/Function"), accessFlags := 16409, slot := 47, constantValue := 0 }, { name := "SHA256", type := (.object "com/example/nestway/nestway/sparql/Function"), accessFlags := 16409, slot := 48, constantValue := 0 }, { name := "SHA384", type := (.object "com/example/nestway/nestway/sparql/Function"), accessFlags := 16409, slot := 49, constantValue := 0 }, { name := "SHA512", type := (.object "com/example/nestway/nestway/sparql/Function"), accessFlags := 16409, slot := 50, constantValue := 0 }, { name := "BY_NAME", type := (.object "java/util/Map"), accessFlags := 26, slot := 51, constantValue := 0 }, { name := "written", type := (.object "java/lang/String"), accessFlags := 18, slot := 3, constantValue := 0 }, { name := "least", type := .int, accessFlags := 18, slot := 4, constantValue := 0 }, { name := "most", type := .int, accessFlags := 18, slot := 5, constantValue := 0 }, { name := "takesErrors", type := .boolean, accessFlags := 18, slot := 6, constantValue := 0 }, { name := "body", type := (.object "com/example/nestway/nestway/sparql/Function$Body"), accessFlags := 18, slot := 7, constantValue := 0 }, { name := "$VALUES", type := (.array (.object "com/example/nestway/nestway/sparql/Function")), accessFlags := 4122, slot := 52, constantValue := 0 }]
  methods := #[k6m0]
  instanceTypes := #[(.object "java/lang/String"), .int, .int, (.object "java/lang/String"), .int, .int, .boolean, (.object "com/example/nestway/nestway/sparql/Function$Body")]
  staticTypes := #[(.object "com/example/nestway/nestway/sparql/Function"), (.object "com/example/nestway/nestway/sparql/Function"), (.object "com/example/nestway/nestway/sparql/Function"), (.object "com/example/nestway/nestway/sparql/Function"), (.object "com/example/nestway/nestway/sparql/Function"), (.object "com/example/nestway/nestway/sparql/Function"), (.object "com/example/nestway/nestway/sparql/Function"), (.object "com/example/nestway/nestway/sparql/Function"), (.object "com/example/nestway/nestway/sparql/Function"), (.object "com/example/nestway/nestway/sparql/Function"), (.object "com/example/nestway/nestway/sparql/Function"), (.object "com/example/nestway/nestway/sparql/Function"), (.object "com/example/nestway/nestway/sparql/Function"), (.object "com/example/nestway/nestway/sparql/Function"), (.object "com/example/nestway/nestway/sparql/Function"), (.object "com/example/nestway/nestway/sparql/Function"), (.object "com/example/nestway/nestway/sparql/Function"), (.object "com/example/nestway/nestway/sparql/Function"), (.object "com/example/nestway/nestway/sparql/Function"), (.object "com/example/nestway/nestway/sparql/Function"), (.object "com/example/nestway/nestway/sparql/Function"), (.object "com/example/nestway/nestway/sparql/Function"), (.object "com/example/nestway/nestway/sparql/Function"), (.object "com/example/nestway/nestway/sparql/Function"), (.object "com/example/nestway/nestway/sparql/Function"), (.object "com/example/nestway/nestway/sparql/Function"), (.object "com/example/nestway/nestway/sparql/Function"), (.object "com/example/nestway/nestway/sparql/Function"), (.object "com/example/nestway/nestway/sparql/Function"), (.object "com/example/nestway/nestway/sparql/Function"), (.object "com/example/nestway/nestway/sparql/Function"), (.object "com/example/nestway/nestway/sparql/Function"), (.object "com/example/nestway/nestway/sparql/Function"), (.object "com/example/nestway/nestway/sparql/Function"), (.object "com/example/nestway/nestway/sparql/Function"), (.object "com/example/nestway/nestway/sparql/Function"), (.object "com/example/nestway/nestway/sparql/Function"), (.object "com/example/nestway/nestway/sparql/Function"), (.object "com/example/nestway/nestway/sparql/Function"), (.object "com/example/nestway/nestway/sparql/Function"), (.object "com/example/nestway/nestway/sparql/Function"), (.object "com/example/nestway/nestway/sparql/Function"), (.object "com/example/nestway/nestway/sparql/Function"), (.object "com/example/nestway/nestway/sparql/Function"), (.object "com/example/nestway/nestway/sparql/Function"), (.object "com/example/nestway/nestway/sparql/Function"), (.object "com/example/nestway/nestway/sparql/Function"), (.object "com/example/nestway/nestway/sparql/Function"), (.object "com/example/nestway/nestway/sparql/Function"), (.object "com/example/nestway/nestway/sparql/Function"), (.object "com/example/nestway/nestway/sparql/Function"), (.object "java/util/Map"), (.array (.object "com/example/nestway/nestway/sparql/Function"))]
  resolved := Array.replicate 618 none
  statics := some 0 }

def pool7 : Array CpInfo := pool [(1, u "java/lang/Cloneable"), (0, .class_ 1), (0, u "java/lang/Object"), (0, .class_ 3)] 3

/-- java/lang/Cloneable -/
def k7 : Class := { plain "java/lang/Cloneable" (some 0) with
  accessFlags := 1537
  interfaces := #[]
  cf := some (fileOf pool7 2 #[] #[] 1537 4 #[] #[])
  fields := #[]
  methods := #[]
  instanceTypes := #[]
  staticTypes := #[]
  resolved := Array.replicate 8 none
  statics := none }

/-- the primitive byte -/
def k8 : Class := { plain "byte" none with kind := .primitive 'B', accessFlags := 0x411 }
/-- [B -/
def k9 : Class := { plain "[B" (some 0) with kind := .array 8 .byte, interfaces := #[7, 4], accessFlags := 1041 }

/-- the primitive int -/
def k10 : Class := { plain "int" none with kind := .primitive 'I', accessFlags := 0x411 }
/-- [I -/
def k11 : Class := { plain "[I" (some 0) with kind := .array 10 .int, interfaces := #[7, 4], accessFlags := 1041 }

def heap : Heap := #[{ cls := 6, slots := #[.ref 1, .ref 2, .ref 3, .ref 14, .null, .null, .null, .null, .null, .null, .null, .null, .null, .ref 5, .ref 12, .null, .ref 8, .null, .ref 4, .ref 6, .null, .null, .null, .null, .null, .null, .null, .null, .ref 9, .null, .ref 10, .ref 7, .null, .null, .null, .null, .ref 11, .ref 15, .null, .null, .null, .null, .null, .null, .null, .null, .ref 13, .null, .null, .null, .ref 16, .null, .null], vm := .statics 6 },
  { cls := 6, slots := #[.null, .int 0, .int 0, .null, .int 3, .int 3, .int 0, .null], vm := .none },
  { cls := 6, slots := #[.null, .int 1, .int 0, .null, .int 0, .int 2147483647, .int 0, .null], vm := .none },
  { cls := 6, slots := #[.null, .int 2, .int 0, .null, .int 2, .int 2, .int 0, .null], vm := .none },
  { cls := 6, slots := #[.null, .int 3, .int 0, .null, .int 1, .int 1, .int 0, .null], vm := .none },
  { cls := 6, slots := #[.null, .int 4, .int 0, .null, .int 0, .int 1, .int 0, .null], vm := .none },
  { cls := 6, slots := #[.null, .int 5, .int 0, .null, .int 2, .int 3, .int 0, .null], vm := .none },
  { cls := 6, slots := #[.null, .int 6, .int 0, .null, .int 3, .int 4, .int 0, .null], vm := .none },
  { cls := 6, slots := #[.null, .int 7, .int 0, .null, .int 0, .int 0, .int 0, .null], vm := .none },
  { cls := 6, slots := #[.null, .int 8, .int 0, .null, .int 0, .int 2147483647, .int 0, .null], vm := .none },
  { cls := 6, slots := #[.null, .int 9, .int 0, .null, .int 2, .int 3, .int 0, .null], vm := .none },
  { cls := 6, slots := #[.null, .int 10, .int 0, .null, .int 0, .int 0, .int 0, .null], vm := .none },
  { cls := 6, slots := #[.null, .int 11, .int 0, .null, .int 2, .int 2, .int 0, .null], vm := .none },
  { cls := 6, slots := #[.null, .int 12, .int 0, .null, .int 1, .int 1, .int 0, .null], vm := .none },
  { cls := 6, slots := #[.null, .int 13, .int 0, .null, .int 1, .int 1, .int 0, .null], vm := .none },
  { cls := 6, slots := #[.null, .int 14, .int 0, .null, .int 0, .int 0, .int 0, .null], vm := .none },
  { cls := 6, slots := #[.null, .int 15, .int 0, .null, .int 1, .int 1, .int 0, .null], vm := .none }]
def classes : Array Class := #[k0, k1, k2, k3, k4, k5, k6, k7, k8, k9, k10, k11]
def interned : List (Array UInt16 × Addr) := []
def slotsUsed : Nat := 181
def theMethod : MethodId := ⟨1, 3⟩
def args0 : Array Value := #[.int 5, .int 6, .int 7]
def aboutOver (below : List Frame) : State where
  vm := { classes := classes, interned := interned.toArray }
  heap := heap
  slotsUsed := slotsUsed
  threads := #[{ frames := .invoking theMethod args0 :: below }]
def below0 : List Frame := [.native { method := ⟨0, 0⟩, args := #[] }]
def about1 : State := aboutOver below0
def p0 : Program := .bare "" "" ""
def e0 : Env := launch0.env 0 0 0
theorem w_frames : about1.frames = Frame.invoking theMethod args0 :: below0 := rfl
set_option maxRecDepth 65536 in
theorem w_args : argsFit about1.vm theMethod args0 = true := by decide +kernel
set_option maxRecDepth 65536 in
theorem w_heap : heapFits about1 = true := by decide +kernel
set_option maxRecDepth 65536 in
theorem w_runnable : about1.curStatus? = some .runnable := by decide +kernel
set_option maxRecDepth 65536 in
theorem w_alone : about1.alone = true := by decide +kernel
set_option maxRecDepth 65536 in
theorem w_named : about1.methodNamed? x = some theMethod := by decide +kernel
set_option maxRecDepth 65536 in
theorem w_hears : about1.hears theMethod below0 = true := by decide +kernel
set_option maxRecDepth 65536 in
theorem w_ripe : about1.ripe theMethod args0 below0 = true := by decide +kernel
theorem w_running : about1.status = .running := rfl
set_option maxRecDepth 65536 in
theorem w_room : about1.hasRoom e0.platform room_1 = true :=
  launch0.hasRoom_least _ room_1 (by decide +kernel) (by decide +kernel) (by decide +kernel) (by decide +kernel) (by decide +kernel) (by decide +kernel)
theorem allAtoms_all (ts : List Jvm.Cond) (a : Array Jvm.Value) (st : Jvm.State) : (allAtoms ts).before a st = ts.all (fun c => c.before a st) := by
  induction ts with
  | nil => rfl
  | cons c t ih =>
    show (Jvm.Cond.and c (allAtoms t)).before a st = _
    rw [Jvm.Cond.before_and, ih, List.all_cons]
def words1 : List Jvm.Cond := Jvm.Cond.code x code maxLocals ret :: tables_1
/-- a 'code' word, met by the world's own term for the bytes: nothing is compared byte by byte -/
theorem code_word {y : MethodName} {bytes : ByteArray} {mx : Nat} {rt : Option FieldType} {a : Array Value} {s : State} {m : MethodId} {meth : Method} {c : Code} (h1 : s.methodNamed? y = some m) (h2 : s.vm.method? m = some meth) (h3 : meth.code = some c) (h4 : c.code = bytes)
    (h5 : (c.maxLocals == mx && c.exceptionTable.isEmpty && decide (c.maxStack ≤ mostOperands) && decide (meth.sig.returnType = rt) && !meth.locks && decide (parseMethodDescriptor y.desc = some meth.sig)) = true) : (Jvm.Cond.code y bytes mx rt).before a s = true := by
  simp only [Bool.and_eq_true, beq_iff_eq, Bool.not_eq_true', decide_eq_true_eq] at h5
  obtain ⟨⟨⟨⟨⟨g1, g2⟩, g3⟩, g4⟩, g5⟩, g6⟩ := h5
  simp [Cond.before, Cond.holds, Cond.value, h1, h2, h3, h4, g1, g2, g3, g4, g5, g6]
def isCode : Jvm.Cond → Bool
  | .code _ _ _ _ => true
  | _ => false
theorem all_split {L : List Jvm.Cond} {P : Jvm.Cond → Bool} (h1 : L.all (fun c => isCode c || P c) = true) (h2 : ∀ c ∈ L.filter isCode, P c = true) : L.all P = true := by
  refine List.all_eq_true.mpr fun c hc => ?_
  have h := List.all_eq_true.mp h1 c hc
  rcases Bool.eq_false_or_eq_true (isCode c) with hi | hi
  · exact h2 c (List.mem_filter.mpr ⟨hc, hi⟩)
  · simpa [hi] using h
set_option maxRecDepth 65536 in
theorem w_c0 : (Jvm.Cond.code x code maxLocals ret).before args0 about1 = true := code_word (m := ⟨1, 3⟩) (meth := k1m3) (c := k1c3) (by decide +kernel) rfl rfl rfl (by decide +kernel)
set_option maxRecDepth 65536 in
theorem w_c1 : (Jvm.Cond.code ({ cls := "com/example/nestway/nestway/sparql/FunctionTakesPinLaw", name := "pick", desc := "(I)Lcom/example/nestway/nestway/sparql/Function;" } : Jvm.MethodName) method_2_code (1 : Nat) (Option.some (Jvm.ClassFile.FieldType.object "com/example/nestway/nestway/sparql/Function"))).before args0 about1 = true := code_word (m := ⟨1, 1⟩) (meth := k1m1) (c := k1c1) (by decide +kernel) rfl rfl rfl (by decide +kernel)
set_option maxRecDepth 65536 in
theorem w_c2 : (Jvm.Cond.code ({ cls := "com/example/nestway/nestway/sparql/Function", name := "takes", desc := "(I)Z" } : Jvm.MethodName) prog_89_method_6_code (2 : Nat) (Option.some Jvm.ClassFile.FieldType.boolean)).before args0 about1 = true := code_word (m := ⟨6, 0⟩) (meth := k6m0) (c := k6c0) (by decide +kernel) rfl rfl rfl (by decide +kernel)
set_option maxRecDepth 65536 in
theorem w_c3 : (Jvm.Cond.code ({ cls := "com/example/nestway/nestway/sparql/FunctionTakesPinLaw", name := "expected", desc := "(II)Z" } : Jvm.MethodName) method_3_code (2 : Nat) (Option.some Jvm.ClassFile.FieldType.boolean)).before args0 about1 = true := code_word (m := ⟨1, 2⟩) (meth := k1m2) (c := k1c2) (by decide +kernel) rfl rfl rfl (by decide +kernel)
def codes1 : List Jvm.Cond := [Jvm.Cond.code x code maxLocals ret, Jvm.Cond.code ({ cls := "com/example/nestway/nestway/sparql/FunctionTakesPinLaw", name := "pick", desc := "(I)Lcom/example/nestway/nestway/sparql/Function;" } : Jvm.MethodName) method_2_code (1 : Nat) (Option.some (Jvm.ClassFile.FieldType.object "com/example/nestway/nestway/sparql/Function")), Jvm.Cond.code ({ cls := "com/example/nestway/nestway/sparql/Function", name := "takes", desc := "(I)Z" } : Jvm.MethodName) prog_89_method_6_code (2 : Nat) (Option.some Jvm.ClassFile.FieldType.boolean), Jvm.Cond.code ({ cls := "com/example/nestway/nestway/sparql/FunctionTakesPinLaw", name := "expected", desc := "(II)Z" } : Jvm.MethodName) method_3_code (2 : Nat) (Option.some Jvm.ClassFile.FieldType.boolean)]
set_option maxRecDepth 65536 in
theorem codes_eq : words1.filter isCode = codes1 := rfl
theorem w_codes : ∀ c ∈ words1.filter isCode, c.before args0 about1 = true := by
  rw [codes_eq]
  intro c hc
  simp only [codes1, List.mem_cons, List.not_mem_nil, or_false] at hc
  rcases hc with rfl | rfl | rfl | rfl
  · exact w_c0
  · exact w_c1
  · exact w_c2
  · exact w_c3
set_option maxRecDepth 65536 in
theorem w_t1 : (words1.take 24).all (fun c => isCode c || c.before args0 about1) = true := by decide +kernel
set_option maxRecDepth 65536 in
theorem w_t2 : ((words1.drop 24).take 24).all (fun c => isCode c || c.before args0 about1) = true := by decide +kernel
set_option maxRecDepth 65536 in
theorem w_t3 : ((words1.drop 24).drop 24).all (fun c => isCode c || c.before args0 about1) = true := by decide +kernel
theorem w_tables : (allAtoms (Jvm.Cond.code x code maxLocals ret :: tables_1)).before args0 about1 = true := by
  rw [allAtoms_all]
  show words1.all (fun c => c.before args0 about1) = true
  refine all_split ?_ w_codes
  rw [← List.take_append_drop 24 words1, List.all_append, w_t1, ← List.take_append_drop 24 (words1.drop 24), List.all_append, w_t2, w_t3]
  rfl
set_option maxRecDepth 65536 in
theorem w_case : (Jvm.Cond.and given_1 narrow_1).before args0 about1 = true := by decide +kernel
theorem w_applies : (headSpec (Jvm.Cond.code x code maxLocals ret :: tables_1) room_1).applies x e0.platform about1 = true :=
  (Spec.applies_iff w_frames).mpr ⟨w_running, w_runnable, w_alone, w_named, w_hears, w_ripe, w_room, w_tables⟩
theorem atStart : AtStart classFile x code maxLocals ret World_1 tables_1 room_1 Calls_1 rest_1 Pre_1 launch0 p0 e0 about1 theMethod args0 below0 :=
  ⟨lists_1, trivial, launch0.admits_env _ _ _, launch0.least_env, fairChoices_fair.cas, fairChoices_fair.clock, w_frames, w_args, w_heap, w_applies, trivial, trivial, w_case⟩
end start1
theorem witness_1 : WitnessClaimed_1 := ⟨start1.p0, start1.e0, start1.about1, start1.theMethod, start1.args0, start1.below0, start1.atStart⟩
end Jvm.Pilot.@@N@@
