import JvmDerived
import JvmDerived.Pilot.@@N@@Statement
import JvmDerived.Pilot.@@N@@Code
set_option linter.unusedVariables false
set_option linter.unusedSimpArgs false
namespace Jvm.RoadKit
open Sem ClassFile Op Lib Jvm.Stand Jvm.Free Jvm.LawKit
section New
variable {p : Program} {l : Launch} {e : Env} {R : Room} {s : State} {m : MethodId} {args : Array Value} {below : List Frame} {meth : Method} {c : Code} {T : State} {locs : List Loc} {cells slots : Nat}
theorem retI (X : Stand p l e R s m args below meth c T locs cells slots) (hx : p.tables.exec = Jvm.exec) {pc : Nat} {Ls : Array Slot} {z : Int32} {rest : List Value} (hret : meth.sig.returnType = some .int) (hd : decode c.code pc = .ok (.ireturn, 1)) {fs : List Frame}
    (hl : ∀ (f : JFrame) (acts : List Action), f.method = m → f.locked = none → f.entered = [] → (doReturn e (T.setTop f) acts (some (.int z))).1 = T.setFrames fs) : Steps p.tables e below (T.setTop (mkF m pc Ls (.int z :: rest))) (T.setFrames fs) := by
  have hm' : T.vm.method? m = some meth := X.method'
  have hn : narrow .int (.int z) = .int z := rfl
  show Steps p.tables e below (T.setTop { method := m, pc := pc, locals := Ls, stack := _ :: rest, locked := none }) _
  jvm_step X.here [X.here.top, hx, hd, hm', hret, hn]
  first | (intro acts; rw [hl _ acts rfl rfl rfl]) | rw [hl _ _ rfl rfl rfl]
  exact Steps.refl _
end New
end Jvm.RoadKit
namespace Jvm.Pilot.@@N@@
open Jvm Jvm.ClassFile Sem Op Lib Jvm.Free Jvm.Stand Jvm.LawKit Jvm.RoadKit Bundle Jvm.Pilot.@@N@@.Jvm.D
def own_cmp (x y : Int64) : Int32 := lcmpW x y
theorem own_lt (x y : Int64) : own_cmp x y < 0 ↔ x < y := by
  unfold own_cmp lcmpW; split <;> (try split) <;> simp_all [Int64.lt_iff_toInt_lt, ← Int64.toInt_inj] <;> omega
theorem own_gt (x y : Int64) : 0 < own_cmp x y ↔ y < x := by
  unfold own_cmp lcmpW; split <;> (try split) <;> simp_all [Int64.lt_iff_toInt_lt, ← Int64.toInt_inj] <;> omega
theorem own_eq0 (x y : Int64) : own_cmp x y = 0 ↔ x = y := by
  unfold own_cmp lcmpW; split <;> (try split) <;> simp_all [Int64.lt_iff_toInt_lt, ← Int64.toInt_inj] <;> omega
theorem own_fld {s : State} {args : Array Value} {t : Term} {x : Addr} {C n d : String} {k : Int32} (ev : t.eval args s none [] s = some (.ref x)) (h : (Jvm.Cond.eq (.field t C n d) (.int k)).value args s none s [] = some true) : Fld s s.heap x C n d (.int k) := by
  have hf := fld_at (C := C) (n := n) (dd := d) ev
  have hk : (Term.int k).eval args s none [] s = some (.int k) := Term.int_eval k
  cases hq : s.fieldOf? x C n d with
  | none => rw [hq] at hf; simp [Cond.value, hf] at h
  | some v =>
    rw [hq] at hf
    cases v <;> simp [Cond.value, hf, hk] at h
    subst h
    exact Fld.start hq
def upd (f : Int32 → Int32) (j v : Int32) : Int32 → Int32 := fun k => if k = j then v else f k
def Ia (Z : State) (h : Heap) (a : Addr) (ty : FieldType) (n : Int32) (f : Int32 → Int32) : Prop := ∃ c : Cell, Arr Z h a c ty ∧ c.slots.size = n.toNatClampNeg ∧ ¬ n < 0 ∧ ∀ j : Int32, ¬ j < 0 → j < n → c.slots[j.toNatClampNeg]? = some (.int (f j))
section OwnIa
variable {Z : State} {h h' : Heap} {a b : Addr} {ty : FieldType} {n j x : Int32} {f : Int32 → Int32} {sl : Nat} {v : Value} {ws : List Addr}
theorem own_ext (K : Keep h h' []) : Ext h h' := ⟨K.1, fun a c q => K.2.1 a c q nin0⟩
theorem Ia.lt (F : Ia Z h a ty n f) : a < h.size := by obtain ⟨c, A, -⟩ := F; exact A.lt
theorem Ia.ext (F : Ia Z h a ty n f) (E : Ext h h') : Ia Z h' a ty n f := by obtain ⟨c, A, r⟩ := F; exact ⟨c, A.ext E, r⟩
theorem Ia.other (F : Ia Z h b ty n f) (W : Wr h h' a sl v) (q : b ≠ a) : Ia Z h' b ty n f := by obtain ⟨c, A, r⟩ := F; exact ⟨c, A.other W q, r⟩
theorem Ia.keep (F : Ia Z h a ty n f) (K : Keep h h' ws) (q : a ∉ ws) : Ia Z h' a ty n f := by obtain ⟨c, A, r⟩ := F; exact ⟨c, ⟨K.2.1 a c A.1 q, A.2⟩, r⟩
theorem Ia.at (F : Ia Z h a ty n f) (q : ¬ j < 0 ∧ j < n) : ∃ c : Cell, Arr Z h a c ty ∧ ¬ (j < 0 ∨ c.slots.size ≤ j.toNatClampNeg) ∧ c.slots[j.toNatClampNeg]? = some (.int (f j)) := by
  obtain ⟨c, A, S, N, G⟩ := F
  exact ⟨c, A, inb_of S q, G j q.1 q.2⟩
theorem Ia.len (F : Ia Z h a ty n f) : ∃ c : Cell, Arr Z h a c ty ∧ c.slots.size = n.toNatClampNeg ∧ ¬ n < 0 := by
  obtain ⟨c, A, S, N, G⟩ := F
  exact ⟨c, A, S, N⟩
theorem Ia.new {k : ClassId} (A : Arr Z h a (newA k ty n) ty) (q : ¬ n < 0) (e : defaultValue ty = .int 0) : Ia Z h a ty n (fun _ => 0) :=
  ⟨_, A, sz_new _ _ _, q, fun j h1 h2 => by
    have hi := inb_of (sz_new k ty n) ⟨h1, h2⟩
    rw [sz_new] at hi
    rw [get_new hi, e]⟩
theorem Ia.set (F : Ia Z h a ty n f) (W : Wr h h' a j.toNatClampNeg (.int x)) (hj : ¬ j < 0) : Ia Z h' a ty n (upd f j x) := by
  obtain ⟨c, A, S, N, G⟩ := F
  refine ⟨_, A.same W, by rw [sz_set]; exact S, N, fun k h1 h2 => ?_⟩
  by_cases e : k = j
  · subst e
    rw [get_hit (inb_of S ⟨h1, h2⟩) rfl]
    exact congrArg (fun z => some (Value.int z)) (if_pos rfl).symm
  · rw [get_miss hj h1 e, G k h1 h2]
    exact congrArg (fun z => some (Value.int z)) (if_neg e).symm
theorem own_nea {C : String} {a0 : Array Value} {k : Nat} (F : Exa Z h a C) (wi : (Jvm.Cond.instantiable C k).before a0 Z = true) (G : Ia Z h b ty n f) : a ≠ b := by
  obtain ⟨c, A, -⟩ := G
  exact ne_arr F wi A
theorem Ia.congr {g : Int32 → Int32} (F : Ia Z h a ty n f) (q : ∀ j : Int32, ¬ j < 0 → j < n → f j = g j) : Ia Z h a ty n g := by
  obtain ⟨c, A, S, N, G⟩ := F
  exact ⟨c, A, S, N, fun k h1 h2 => by rw [← q k h1 h2]; exact G k h1 h2⟩
end OwnIa
-- body 1: java/lang/Math.min(II)I
theorem d1_0 : decode jdk_29_method_69_code 0 = .ok (.iload_n 0, 1) := by decide +kernel
theorem d1_1 : decode jdk_29_method_69_code 1 = .ok (.iload_n 1, 1) := by decide +kernel
theorem d1_2 : decode jdk_29_method_69_code 2 = .ok (.if_icmp .gt 7, 3) := by decide +kernel
theorem d1_5 : decode jdk_29_method_69_code 5 = .ok (.iload_n 0, 1) := by decide +kernel
theorem d1_6 : decode jdk_29_method_69_code 6 = .ok (.goto 4, 3) := by decide +kernel
theorem d1_9 : decode jdk_29_method_69_code 9 = .ok (.iload_n 1, 1) := by decide +kernel
theorem d1_10 : decode jdk_29_method_69_code 10 = .ok (.ireturn, 1) := by decide +kernel
theorem ef_1 (m : MethodId) (p1 : Int32) (p2 : Int32) : entryFrame m #[(.int p1), (.int p2)] 2 = mkF m 0 #[.val (.int p1), .val (.int p2)] [] := by first | (simp [entryFrame, mkF, argsToLocals, Value.category]; done) | rfl
def f1 (p1 : Int32) (p2 : Int32) : Int32 := (if p2 < p1 then p2 else p1)
def Q1 (Z : State) (p1 : Int32) (p2 : Int32) (h0 : Heap) (n0 : Nat) (v : Option Value) (h : Heap) (L : List Loc) : Prop := v = some (.int (f1 p1 p2)) ∧ Fr n0 L ∧ h = h0
set_option maxRecDepth 65536 in
set_option maxHeartbeats 40000000 in
theorem rm1 (l : Launch) (Z : State) (a0 : Array Value) (hw : ∀ d ∈ tables_1, d.before a0 Z = true) (ws : List Jvm.Cond) (p1 : Int32) (p2 : Int32) (h0 : Heap) (n0 : Nat) (Z0 : n0 ≤ h0.size) :
    MetFree l (⟨"java/lang/Math", "min", "(II)I"⟩ : MethodName) (head1 (Jvm.Cond.code (⟨"java/lang/Math", "min", "(II)I"⟩ : MethodName) jdk_29_method_69_code 2 (some .int) :: ws) ({ frames := 0, cells := 0, slots := 0, locals := 0 } : Room)) (fun a U => a = #[(.int p1), (.int p2)] ∧ Z.Warmed39 U.vm ∧ U.heap = h0) (fun _ _ _ _ _ => True) (fun _ U o U' => ∃ v L, o = .returned v ∧ Q1 Z p1 p2 h0 n0 v U'.heap L ∧ FrameEnd U o U' L ({ frames := 0, cells := 0, slots := 0, locals := 0 } : Room).cells ({ frames := 0, cells := 0, slots := 0, locals := 0 } : Room).slots) := by
  refine MetFree.of_bodySF (Jvm.Free.JP.mathPlain rfl (by decide +kernel)) hisR ?_
  intro p e s m args below meth c s₁ Bd hml0 hP hK
  obtain ⟨rfl, hZ, hh⟩ := hP
  have hx := Bd.exec
  have hby := Bd.bytes
  have hml : c.maxLocals = 2 := hml0
  have hown : s.vm.findClass "java/lang/Math" = some m.cls := findClass_of_methodNamed Bd.named
  have hnm := (name_of_methodNamed Bd.named Bd.method).1
  have X0 : Stand p l e ({ frames := 0, cells := 0, slots := 0, locals := 0 } : Room) s m #[(.int p1), (.int p2)] below meth c s₁ [] 0 0 := Stand.of_body Bd
  have e0 : s₁.heap = h0 := by rw [← hh, Bd.state]; rfl
  have N0 := Fr.nil n0
  have pre0 : ∀ t, Steps p.tables e below (s₁.setTop (mkF m 0 #[.val (.int p1), .val (.int p2)] [])) t → Steps p.tables e below (s₁.setTop (entryFrame m #[(.int p1), (.int p2)] 2)) t := fun t k => castTop (ef_1 m p1 p2) k
  have K1 : ∀ t, Steps p.tables e below (s₁.setTop (mkF m 2 #[.val (.int p1), .val (.int p2)] [(.int p2), (.int p1)])) t → Steps p.tables e below (s₁.setTop (mkF m 0 #[.val (.int p1), .val (.int p2)] [])) t := by
    intro t k
    refine XS.iloadN X0.here hx rfl (hb hby d1_0) rfl ?_
    show Steps p.tables e below (s₁.setTop (mkF m 1 #[.val (.int p1), .val (.int p2)] [(.int p1)])) t
    refine XS.iloadN X0.here hx rfl (hb hby d1_1) rfl ?_
    show Steps p.tables e below (s₁.setTop (mkF m 2 #[.val (.int p1), .val (.int p2)] [(.int p2), (.int p1)])) t
    exact k
  by_cases hc2 : p2 < p1
  · have K3 : ∀ t, Steps p.tables e below (s₁.setTop (mkF m 9 #[.val (.int p1), .val (.int p2)] [])) t → Steps p.tables e below (s₁.setTop (mkF m 2 #[.val (.int p1), .val (.int p2)] [(.int p2), (.int p1)])) t := by
      intro t k
      refine XS.icmpYes X0.here hx rfl (pc0 := 2) (pc' := 9) rfl (hb hby d1_2) rfl (tlt hc2).2.2.1 (by decide) (by decide) ?_
      exact k
    have K4 : ∀ t, Steps p.tables e below (s₁.setTop (mkF m 10 #[.val (.int p1), .val (.int p2)] [(.int p2)])) t → Steps p.tables e below (s₁.setTop (mkF m 9 #[.val (.int p1), .val (.int p2)] [])) t := by
      intro t k
      refine XS.iloadN X0.here hx rfl (hb hby d1_9) rfl ?_
      show Steps p.tables e below (s₁.setTop (mkF m 10 #[.val (.int p1), .val (.int p2)] [(.int p2)])) t
      exact k
    obtain ⟨fs, hr, hrun, hended, hW, hsame⟩ := X0.leave (v := some (.int p2)) (fun h => by rw [Bd.returns] at h; cases h)
    refine ⟨_, _, pre0 _ (K1 _ (K3 _ (K4 _ (retI X0 hx Bd.returns (hb hby d1_10) hr)))), hrun, hended, _, _, rfl, ?_, ⟨_, rfl⟩, hW, hsame.mono (by decide) (by decide)⟩
    show Q1 Z p1 p2 h0 n0 _ s₁.heap _
    rw [e0]
    exact ⟨congrArg (fun z => some (Value.int z)) (show p2 = f1 p1 p2 from Eq.symm (if_pos hc2)), N0, rfl⟩
  · have K5 : ∀ t, Steps p.tables e below (s₁.setTop (mkF m 5 #[.val (.int p1), .val (.int p2)] [])) t → Steps p.tables e below (s₁.setTop (mkF m 2 #[.val (.int p1), .val (.int p2)] [(.int p2), (.int p1)])) t := by
      intro t k
      refine XS.icmpNo X0.here hx rfl (hb hby d1_2) rfl (flt hc2).2.2.1 ?_
      exact k
    have K6 : ∀ t, Steps p.tables e below (s₁.setTop (mkF m 10 #[.val (.int p1), .val (.int p2)] [(.int p1)])) t → Steps p.tables e below (s₁.setTop (mkF m 5 #[.val (.int p1), .val (.int p2)] [])) t := by
      intro t k
      refine XS.iloadN X0.here hx rfl (hb hby d1_5) rfl ?_
      show Steps p.tables e below (s₁.setTop (mkF m 6 #[.val (.int p1), .val (.int p2)] [(.int p1)])) t
      refine XS.goto X0.here hx rfl (pc0 := 6) (pc' := 10) rfl (hb hby d1_6) (by decide) (by decide) ?_
      show Steps p.tables e below (s₁.setTop (mkF m 10 #[.val (.int p1), .val (.int p2)] [(.int p1)])) t
      exact k
    obtain ⟨fs, hr, hrun, hended, hW, hsame⟩ := X0.leave (v := some (.int p1)) (fun h => by rw [Bd.returns] at h; cases h)
    refine ⟨_, _, pre0 _ (K1 _ (K5 _ (K6 _ (retI X0 hx Bd.returns (hb hby d1_10) hr)))), hrun, hended, _, _, rfl, ?_, ⟨_, rfl⟩, hW, hsame.mono (by decide) (by decide)⟩
    show Q1 Z p1 p2 h0 n0 _ s₁.heap _
    rw [e0]
    exact ⟨congrArg (fun z => some (Value.int z)) (show p1 = f1 p1 p2 from Eq.symm (if_neg hc2)), N0, rfl⟩
-- body 2: java/lang/Math.max(II)I
theorem d2_0 : decode jdk_29_method_65_code 0 = .ok (.iload_n 0, 1) := by decide +kernel
theorem d2_1 : decode jdk_29_method_65_code 1 = .ok (.iload_n 1, 1) := by decide +kernel
theorem d2_2 : decode jdk_29_method_65_code 2 = .ok (.if_icmp .lt 7, 3) := by decide +kernel
theorem d2_5 : decode jdk_29_method_65_code 5 = .ok (.iload_n 0, 1) := by decide +kernel
theorem d2_6 : decode jdk_29_method_65_code 6 = .ok (.goto 4, 3) := by decide +kernel
theorem d2_9 : decode jdk_29_method_65_code 9 = .ok (.iload_n 1, 1) := by decide +kernel
theorem d2_10 : decode jdk_29_method_65_code 10 = .ok (.ireturn, 1) := by decide +kernel
theorem ef_2 (m : MethodId) (p1 : Int32) (p2 : Int32) : entryFrame m #[(.int p1), (.int p2)] 2 = mkF m 0 #[.val (.int p1), .val (.int p2)] [] := by first | (simp [entryFrame, mkF, argsToLocals, Value.category]; done) | rfl
def f2 (p1 : Int32) (p2 : Int32) : Int32 := (if p1 < p2 then p2 else p1)
def Q2 (Z : State) (p1 : Int32) (p2 : Int32) (h0 : Heap) (n0 : Nat) (v : Option Value) (h : Heap) (L : List Loc) : Prop := v = some (.int (f2 p1 p2)) ∧ Fr n0 L ∧ h = h0
set_option maxRecDepth 65536 in
set_option maxHeartbeats 40000000 in
theorem rm2 (l : Launch) (Z : State) (a0 : Array Value) (hw : ∀ d ∈ tables_1, d.before a0 Z = true) (ws : List Jvm.Cond) (p1 : Int32) (p2 : Int32) (h0 : Heap) (n0 : Nat) (Z0 : n0 ≤ h0.size) :
    MetFree l (⟨"java/lang/Math", "max", "(II)I"⟩ : MethodName) (head1 (Jvm.Cond.code (⟨"java/lang/Math", "max", "(II)I"⟩ : MethodName) jdk_29_method_65_code 2 (some .int) :: ws) ({ frames := 0, cells := 0, slots := 0, locals := 0 } : Room)) (fun a U => a = #[(.int p1), (.int p2)] ∧ Z.Warmed39 U.vm ∧ U.heap = h0) (fun _ _ _ _ _ => True) (fun _ U o U' => ∃ v L, o = .returned v ∧ Q2 Z p1 p2 h0 n0 v U'.heap L ∧ FrameEnd U o U' L ({ frames := 0, cells := 0, slots := 0, locals := 0 } : Room).cells ({ frames := 0, cells := 0, slots := 0, locals := 0 } : Room).slots) := by
  refine MetFree.of_bodySF (Jvm.Free.JP.mathPlain rfl (by decide +kernel)) hisR ?_
  intro p e s m args below meth c s₁ Bd hml0 hP hK
  obtain ⟨rfl, hZ, hh⟩ := hP
  have hx := Bd.exec
  have hby := Bd.bytes
  have hml : c.maxLocals = 2 := hml0
  have hown : s.vm.findClass "java/lang/Math" = some m.cls := findClass_of_methodNamed Bd.named
  have hnm := (name_of_methodNamed Bd.named Bd.method).1
  have X0 : Stand p l e ({ frames := 0, cells := 0, slots := 0, locals := 0 } : Room) s m #[(.int p1), (.int p2)] below meth c s₁ [] 0 0 := Stand.of_body Bd
  have e0 : s₁.heap = h0 := by rw [← hh, Bd.state]; rfl
  have N0 := Fr.nil n0
  have pre0 : ∀ t, Steps p.tables e below (s₁.setTop (mkF m 0 #[.val (.int p1), .val (.int p2)] [])) t → Steps p.tables e below (s₁.setTop (entryFrame m #[(.int p1), (.int p2)] 2)) t := fun t k => castTop (ef_2 m p1 p2) k
  have K1 : ∀ t, Steps p.tables e below (s₁.setTop (mkF m 2 #[.val (.int p1), .val (.int p2)] [(.int p2), (.int p1)])) t → Steps p.tables e below (s₁.setTop (mkF m 0 #[.val (.int p1), .val (.int p2)] [])) t := by
    intro t k
    refine XS.iloadN X0.here hx rfl (hb hby d2_0) rfl ?_
    show Steps p.tables e below (s₁.setTop (mkF m 1 #[.val (.int p1), .val (.int p2)] [(.int p1)])) t
    refine XS.iloadN X0.here hx rfl (hb hby d2_1) rfl ?_
    show Steps p.tables e below (s₁.setTop (mkF m 2 #[.val (.int p1), .val (.int p2)] [(.int p2), (.int p1)])) t
    exact k
  by_cases hc2 : p1 < p2
  · have K3 : ∀ t, Steps p.tables e below (s₁.setTop (mkF m 9 #[.val (.int p1), .val (.int p2)] [])) t → Steps p.tables e below (s₁.setTop (mkF m 2 #[.val (.int p1), .val (.int p2)] [(.int p2), (.int p1)])) t := by
      intro t k
      refine XS.icmpYes X0.here hx rfl (pc0 := 2) (pc' := 9) rfl (hb hby d2_2) rfl (tlt hc2).1 (by decide) (by decide) ?_
      exact k
    have K4 : ∀ t, Steps p.tables e below (s₁.setTop (mkF m 10 #[.val (.int p1), .val (.int p2)] [(.int p2)])) t → Steps p.tables e below (s₁.setTop (mkF m 9 #[.val (.int p1), .val (.int p2)] [])) t := by
      intro t k
      refine XS.iloadN X0.here hx rfl (hb hby d2_9) rfl ?_
      show Steps p.tables e below (s₁.setTop (mkF m 10 #[.val (.int p1), .val (.int p2)] [(.int p2)])) t
      exact k
    obtain ⟨fs, hr, hrun, hended, hW, hsame⟩ := X0.leave (v := some (.int p2)) (fun h => by rw [Bd.returns] at h; cases h)
    refine ⟨_, _, pre0 _ (K1 _ (K3 _ (K4 _ (retI X0 hx Bd.returns (hb hby d2_10) hr)))), hrun, hended, _, _, rfl, ?_, ⟨_, rfl⟩, hW, hsame.mono (by decide) (by decide)⟩
    show Q2 Z p1 p2 h0 n0 _ s₁.heap _
    rw [e0]
    exact ⟨congrArg (fun z => some (Value.int z)) (show p2 = f2 p1 p2 from Eq.symm (if_pos hc2)), N0, rfl⟩
  · have K5 : ∀ t, Steps p.tables e below (s₁.setTop (mkF m 5 #[.val (.int p1), .val (.int p2)] [])) t → Steps p.tables e below (s₁.setTop (mkF m 2 #[.val (.int p1), .val (.int p2)] [(.int p2), (.int p1)])) t := by
      intro t k
      refine XS.icmpNo X0.here hx rfl (hb hby d2_2) rfl (flt hc2).1 ?_
      exact k
    have K6 : ∀ t, Steps p.tables e below (s₁.setTop (mkF m 10 #[.val (.int p1), .val (.int p2)] [(.int p1)])) t → Steps p.tables e below (s₁.setTop (mkF m 5 #[.val (.int p1), .val (.int p2)] [])) t := by
      intro t k
      refine XS.iloadN X0.here hx rfl (hb hby d2_5) rfl ?_
      show Steps p.tables e below (s₁.setTop (mkF m 6 #[.val (.int p1), .val (.int p2)] [(.int p1)])) t
      refine XS.goto X0.here hx rfl (pc0 := 6) (pc' := 10) rfl (hb hby d2_6) (by decide) (by decide) ?_
      show Steps p.tables e below (s₁.setTop (mkF m 10 #[.val (.int p1), .val (.int p2)] [(.int p1)])) t
      exact k
    obtain ⟨fs, hr, hrun, hended, hW, hsame⟩ := X0.leave (v := some (.int p1)) (fun h => by rw [Bd.returns] at h; cases h)
    refine ⟨_, _, pre0 _ (K1 _ (K5 _ (K6 _ (retI X0 hx Bd.returns (hb hby d2_10) hr)))), hrun, hended, _, _, rfl, ?_, ⟨_, rfl⟩, hW, hsame.mono (by decide) (by decide)⟩
    show Q2 Z p1 p2 h0 n0 _ s₁.heap _
    rw [e0]
    exact ⟨congrArg (fun z => some (Value.int z)) (show p1 = f2 p1 p2 from Eq.symm (if_neg hc2)), N0, rfl⟩
theorem own_mm (a b : Int32) : ¬ f2 a b < f1 a b := by
  unfold f1 f2
  simp only [Int32.lt_iff_toInt_lt]
  repeat' split
  all_goals omega
-- body 4: java/lang/Record.<init>()V
theorem d4_0 : decode jdk_30_method_1_code 0 = .ok (.aload_n 0, 1) := by decide +kernel
theorem d4_1 : decode jdk_30_method_1_code 1 = .ok (.invokespecial 1, 3) := by decide +kernel
theorem d4_4 : decode jdk_30_method_1_code 4 = .ok (.return_, 1) := by decide +kernel
theorem pn_4 : plainName "java/lang/Record" = true := by first | (simp [plainName, overriddenIn]; done) | decide +kernel
theorem ef_4 (m : MethodId) (a1 : Addr) : entryFrame m #[(.ref a1)] 1 = mkF m 0 #[.val (.ref a1)] [] := by first | (simp [entryFrame, mkF, argsToLocals, Value.category]; done) | rfl
def Q4 (Z : State) (a1 : Addr) (h0 : Heap) (n0 : Nat) (v : Option Value) (h : Heap) (L : List Loc) : Prop := v = none ∧ Fr n0 L ∧ h = h0
set_option maxRecDepth 65536 in
set_option maxHeartbeats 40000000 in
theorem rm4 (l : Launch) (Z : State) (a0 : Array Value) (hw : ∀ d ∈ tables_1, d.before a0 Z = true) (ws : List Jvm.Cond) (a1 : Addr) (h0 : Heap) (n0 : Nat) (Z0 : n0 ≤ h0.size) :
    MetFree l (⟨"java/lang/Record", "<init>", "()V"⟩ : MethodName) (head1 (Jvm.Cond.code (⟨"java/lang/Record", "<init>", "()V"⟩ : MethodName) jdk_30_method_1_code 1 none :: ws) ({ frames := 1, cells := 0, slots := 0, locals := 12 } : Room)) (fun a U => a = #[(.ref a1)] ∧ Z.Warmed39 U.vm ∧ U.heap = h0) (fun _ _ _ _ _ => True) (fun _ U o U' => ∃ v L, o = .returned v ∧ Q4 Z a1 h0 n0 v U'.heap L ∧ FrameEnd U o U' L ({ frames := 1, cells := 0, slots := 0, locals := 12 } : Room).cells ({ frames := 1, cells := 0, slots := 0, locals := 12 } : Room).slots) := by
  refine MetFree.of_bodySF (plainFor_of_name pn_4) hisR ?_
  intro p e s m args below meth c s₁ Bd hml0 hP hK
  obtain ⟨rfl, hZ, hh⟩ := hP
  have hx := Bd.exec
  have hby := Bd.bytes
  have hml : c.maxLocals = 1 := hml0
  have hown : s.vm.findClass "java/lang/Record" = some m.cls := findClass_of_methodNamed Bd.named
  have hnm := (name_of_methodNamed Bd.named Bd.method).1
  have X0 : Stand p l e ({ frames := 1, cells := 0, slots := 0, locals := 12 } : Room) s m #[(.ref a1)] below meth c s₁ [] 0 0 := Stand.of_body Bd
  have e0 : s₁.heap = h0 := by rw [← hh, Bd.state]; rfl
  have N0 := Fr.nil n0
  have pre0 : ∀ t, Steps p.tables e below (s₁.setTop (mkF m 0 #[.val (.ref a1)] [])) t → Steps p.tables e below (s₁.setTop (entryFrame m #[(.ref a1)] 1)) t := fun t k => castTop (ef_4 m a1) k
  have K1 : ∀ t, Steps p.tables e below (s₁.setTop (mkF m 1 #[.val (.ref a1)] [(.ref a1)])) t → Steps p.tables e below (s₁.setTop (mkF m 0 #[.val (.ref a1)] [])) t := by
    intro t k
    refine XS.aloadN X0.here hx rfl (hb hby d4_0) rfl rfl ?_
    show Steps p.tables e below (s₁.setTop (mkF m 1 #[.val (.ref a1)] [(.ref a1)])) t
    exact k
  obtain ⟨T2, X2, e2, st2⟩ := initO X0 hx hZ hown (hw _ (List.mem_of_getElem? (i := 18) rfl)) (hw _ (List.mem_of_getElem? (i := 19) rfl)) (hw _ (List.mem_of_getElem? (i := 20) rfl)) e0 (g := (mkF m 1 #[.val (.ref a1)] [(.ref a1)])) rfl (by rw [hml]; rfl) rfl (hb hby d4_1) (by decide) (W := 0) (by show 2 * 0 + _ ≤ _; exact Nat.le_of_eq rfl) (by decide)
  have K3 : ∀ t, Steps p.tables e below (T2.setTop (mkF m 4 #[.val (.ref a1)] [])) t → Steps p.tables e below (s₁.setTop (mkF m 1 #[.val (.ref a1)] [(.ref a1)])) t := fun t k => st2 _ k
  obtain ⟨fs, hr, hrun, hended, hW, hsame⟩ := X2.leave (v := none) (fun _ => rfl)
  refine ⟨_, _, pre0 _ (K1 _ (K3 _ (X2.returnOut hx Bd.returns (hb hby d4_4) hr))), hrun, hended, _, _, rfl, ?_, ⟨_, rfl⟩, hW, hsame.mono (by decide) (by decide)⟩
  show Q4 Z a1 h0 n0 _ T2.heap _
  rw [e2]
  exact ⟨rfl, N0, rfl⟩
-- body 3: com/example/gutter/gutter/layout/Rect.<init>(IIII)V
theorem d3_0 : decode prog_6_method_1_code 0 = .ok (.aload_n 0, 1) := by decide +kernel
theorem d3_1 : decode prog_6_method_1_code 1 = .ok (.invokespecial 1, 3) := by decide +kernel
theorem d3_4 : decode prog_6_method_1_code 4 = .ok (.iload_n 3, 1) := by decide +kernel
theorem d3_5 : decode prog_6_method_1_code 5 = .ok (.iload_n 1, 1) := by decide +kernel
theorem d3_6 : decode prog_6_method_1_code 6 = .ok (.if_icmp .lt 9, 3) := by decide +kernel
theorem d3_9 : decode prog_6_method_1_code 9 = .ok (.iload 4, 2) := by decide +kernel
theorem d3_11 : decode prog_6_method_1_code 11 = .ok (.iload_n 2, 1) := by decide +kernel
theorem d3_12 : decode prog_6_method_1_code 12 = .ok (.if_icmp .ge 21, 3) := by decide +kernel
theorem d3_33 : decode prog_6_method_1_code 33 = .ok (.aload_n 0, 1) := by decide +kernel
theorem d3_34 : decode prog_6_method_1_code 34 = .ok (.iload_n 1, 1) := by decide +kernel
theorem d3_35 : decode prog_6_method_1_code 35 = .ok (.putfield 16, 3) := by decide +kernel
theorem d3_38 : decode prog_6_method_1_code 38 = .ok (.aload_n 0, 1) := by decide +kernel
theorem d3_39 : decode prog_6_method_1_code 39 = .ok (.iload_n 2, 1) := by decide +kernel
theorem d3_40 : decode prog_6_method_1_code 40 = .ok (.putfield 22, 3) := by decide +kernel
theorem d3_43 : decode prog_6_method_1_code 43 = .ok (.aload_n 0, 1) := by decide +kernel
theorem d3_44 : decode prog_6_method_1_code 44 = .ok (.iload_n 3, 1) := by decide +kernel
theorem d3_45 : decode prog_6_method_1_code 45 = .ok (.putfield 25, 3) := by decide +kernel
theorem d3_48 : decode prog_6_method_1_code 48 = .ok (.aload_n 0, 1) := by decide +kernel
theorem d3_49 : decode prog_6_method_1_code 49 = .ok (.iload 4, 2) := by decide +kernel
theorem d3_51 : decode prog_6_method_1_code 51 = .ok (.putfield 28, 3) := by decide +kernel
theorem d3_54 : decode prog_6_method_1_code 54 = .ok (.return_, 1) := by decide +kernel
theorem pn_3 : plainName "com/example/gutter/gutter/layout/Rect" = true := by first | (simp [plainName, overriddenIn]; done) | decide +kernel
theorem pd_2 : parseMethodDescriptor "()V" = some ⟨[], none⟩ := by decide +kernel
theorem ef_3 (m : MethodId) (a1 : Addr) (p2 : Int32) (p3 : Int32) (p4 : Int32) (p5 : Int32) : entryFrame m #[(.ref a1), (.int p2), (.int p3), (.int p4), (.int p5)] 5 = mkF m 0 #[.val (.ref a1), .val (.int p2), .val (.int p3), .val (.int p4), .val (.int p5)] [] := by first | (simp [entryFrame, mkF, argsToLocals, Value.category]; done) | rfl
def Q3 (Z : State) (a1 : Addr) (p2 : Int32) (p3 : Int32) (p4 : Int32) (p5 : Int32) (u_left_a1 : Value) (u_top_a1 : Value) (u_right_a1 : Value) (u_bottom_a1 : Value) (h0 : Heap) (n0 : Nat) (v : Option Value) (h : Heap) (L : List Loc) : Prop := v = none ∧ Fr n0 L ∧ Keep h0 h [a1] ∧ Exa Z h a1 "com/example/gutter/gutter/layout/Rect" ∧ Fld Z h a1 "com/example/gutter/gutter/layout/Rect" "left" "I" (.int p2) ∧ Fld Z h a1 "com/example/gutter/gutter/layout/Rect" "top" "I" (.int p3) ∧ Fld Z h a1 "com/example/gutter/gutter/layout/Rect" "right" "I" (.int p4) ∧ Fld Z h a1 "com/example/gutter/gutter/layout/Rect" "bottom" "I" (.int p5)
set_option maxRecDepth 65536 in
set_option maxHeartbeats 40000000 in
theorem rm3 (l : Launch) (Z : State) (a0 : Array Value) (hw : ∀ d ∈ tables_1, d.before a0 Z = true) (ws : List Jvm.Cond) (a1 : Addr) (p2 : Int32) (p3 : Int32) (p4 : Int32) (p5 : Int32) (u_left_a1 : Value) (u_top_a1 : Value) (u_right_a1 : Value) (u_bottom_a1 : Value) (h0 : Heap) (n0 : Nat) (Z0 : n0 ≤ h0.size) (hlr : ¬ p4 < p2) (htb : ¬ p5 < p3) (E_a1 : Exa Z h0 a1 "com/example/gutter/gutter/layout/Rect") (F_left_a1 : Fld Z h0 a1 "com/example/gutter/gutter/layout/Rect" "left" "I" u_left_a1) (g_a1 : n0 ≤ a1) (F_top_a1 : Fld Z h0 a1 "com/example/gutter/gutter/layout/Rect" "top" "I" u_top_a1) (F_right_a1 : Fld Z h0 a1 "com/example/gutter/gutter/layout/Rect" "right" "I" u_right_a1) (F_bottom_a1 : Fld Z h0 a1 "com/example/gutter/gutter/layout/Rect" "bottom" "I" u_bottom_a1) :
    MetFree l (⟨"com/example/gutter/gutter/layout/Rect", "<init>", "(IIII)V"⟩ : MethodName) (head1 (Jvm.Cond.code (⟨"com/example/gutter/gutter/layout/Rect", "<init>", "(IIII)V"⟩ : MethodName) prog_6_method_1_code 5 none :: ws) ({ frames := 2, cells := 0, slots := 0, locals := 24 } : Room)) (fun a U => a = #[(.ref a1), (.int p2), (.int p3), (.int p4), (.int p5)] ∧ Z.Warmed39 U.vm ∧ U.heap = h0) (fun _ _ _ _ _ => True) (fun _ U o U' => ∃ v L, o = .returned v ∧ Q3 Z a1 p2 p3 p4 p5 u_left_a1 u_top_a1 u_right_a1 u_bottom_a1 h0 n0 v U'.heap L ∧ FrameEnd U o U' L ({ frames := 2, cells := 0, slots := 0, locals := 24 } : Room).cells ({ frames := 2, cells := 0, slots := 0, locals := 24 } : Room).slots) := by
  refine MetFree.of_bodySF (plainFor_of_name pn_3) hisR ?_
  intro p e s m args below meth c s₁ Bd hml0 hP hK
  obtain ⟨rfl, hZ, hh⟩ := hP
  have hx := Bd.exec
  have hby := Bd.bytes
  have hml : c.maxLocals = 5 := hml0
  have hown : s.vm.findClass "com/example/gutter/gutter/layout/Rect" = some m.cls := findClass_of_methodNamed Bd.named
  have hnm := (name_of_methodNamed Bd.named Bd.method).1
  have X0 : Stand p l e ({ frames := 2, cells := 0, slots := 0, locals := 24 } : Room) s m #[(.ref a1), (.int p2), (.int p3), (.int p4), (.int p5)] below meth c s₁ [] 0 0 := Stand.of_body Bd
  have e0 : s₁.heap = h0 := by rw [← hh, Bd.state]; rfl
  have N0 := Fr.nil n0
  have pre0 : ∀ t, Steps p.tables e below (s₁.setTop (mkF m 0 #[.val (.ref a1), .val (.int p2), .val (.int p3), .val (.int p4), .val (.int p5)] [])) t → Steps p.tables e below (s₁.setTop (entryFrame m #[(.ref a1), (.int p2), (.int p3), (.int p4), (.int p5)] 5)) t := fun t k => castTop (ef_3 m a1 p2 p3 p4 p5) k
  have K1 : ∀ t, Steps p.tables e below (s₁.setTop (mkF m 1 #[.val (.ref a1), .val (.int p2), .val (.int p3), .val (.int p4), .val (.int p5)] [(.ref a1)])) t → Steps p.tables e below (s₁.setTop (mkF m 0 #[.val (.ref a1), .val (.int p2), .val (.int p3), .val (.int p4), .val (.int p5)] [])) t := by
    intro t k
    refine XS.aloadN X0.here hx rfl (hb hby d3_0) rfl rfl ?_
    show Steps p.tables e below (s₁.setTop (mkF m 1 #[.val (.ref a1), .val (.int p2), .val (.int p3), .val (.int p4), .val (.int p5)] [(.ref a1)])) t
    exact k
  obtain ⟨_, _, ⟨T2, L2, k2, n2⟩, -, X2, ⟨Lc2, hQ2, l2, y2, z2⟩, st2⟩ := X0.specialBack hx (y := (⟨"java/lang/Record", "<init>", "()V"⟩ : MethodName)) rfl hown (mvT hZ (hw _ (List.mem_of_getElem? (i := 13) rfl))) (mvT hZ (hw _ (List.mem_of_getElem? (i := 14) rfl))) (mvT hZ (hw _ (List.mem_of_getElem? (i := 17) rfl))) (by decide) (backOf (W := 0) (rm4 l Z a0 hw [] a1 h0 n0 Z0 ) hZ (hw _ (List.mem_of_getElem? (i := 17) rfl)) (hw _ (List.mem_of_getElem? (i := 16) rfl)) (by decide) (by decide)) (g := (mkF m 1 #[.val (.ref a1), .val (.int p2), .val (.int p3), .val (.int p4), .val (.int p5)] [(.ref a1)])) rfl (by rw [hml]; rfl) (Steps.refl _) (a := a1) (argsL := []) (rest := []) (lenOf pd_2 rfl) rfl (by show 2 * 0 + _ ≤ _; exact Nat.le_of_eq rfl) (hb hby d3_1) (fun _ _ => ⟨rfl, e0, (by decide : 0 + 0 ≤ _), (by decide : 0 + 0 ≤ _)⟩)
  dsimp only [Pt.U, Pt.locs, Pt.cells, Pt.slots] at X2 l2 y2 z2 st2 hQ2
  subst l2 y2 z2
  obtain ⟨rfl, N2q, e2⟩ := hQ2
  have N2 := Fr.app N0 N2q
  have K3 : ∀ t, Steps p.tables e below (T2.setTop (mkF m 4 #[.val (.ref a1), .val (.int p2), .val (.int p3), .val (.int p4), .val (.int p5)] [])) t → Steps p.tables e below (s₁.setTop (mkF m 1 #[.val (.ref a1), .val (.int p2), .val (.int p3), .val (.int p4), .val (.int p5)] [(.ref a1)])) t := fun t k => st2.trans k
  have K4 : ∀ t, Steps p.tables e below (T2.setTop (mkF m 6 #[.val (.ref a1), .val (.int p2), .val (.int p3), .val (.int p4), .val (.int p5)] [(.int p2), (.int p4)])) t → Steps p.tables e below (T2.setTop (mkF m 4 #[.val (.ref a1), .val (.int p2), .val (.int p3), .val (.int p4), .val (.int p5)] [])) t := by
    intro t k
    refine XS.iloadN X2.here hx rfl (hb hby d3_4) rfl ?_
    show Steps p.tables e below (T2.setTop (mkF m 5 #[.val (.ref a1), .val (.int p2), .val (.int p3), .val (.int p4), .val (.int p5)] [(.int p4)])) t
    refine XS.iloadN X2.here hx rfl (hb hby d3_5) rfl ?_
    show Steps p.tables e below (T2.setTop (mkF m 6 #[.val (.ref a1), .val (.int p2), .val (.int p3), .val (.int p4), .val (.int p5)] [(.int p2), (.int p4)])) t
    exact k
  have hc5 : ¬ (p4 < p2) := hlr
  have K6 : ∀ t, Steps p.tables e below (T2.setTop (mkF m 9 #[.val (.ref a1), .val (.int p2), .val (.int p3), .val (.int p4), .val (.int p5)] [])) t → Steps p.tables e below (T2.setTop (mkF m 6 #[.val (.ref a1), .val (.int p2), .val (.int p3), .val (.int p4), .val (.int p5)] [(.int p2), (.int p4)])) t := by
    intro t k
    refine XS.icmpNo X2.here hx rfl (hb hby d3_6) rfl (flt hc5).1 ?_
    exact k
  have K7 : ∀ t, Steps p.tables e below (T2.setTop (mkF m 12 #[.val (.ref a1), .val (.int p2), .val (.int p3), .val (.int p4), .val (.int p5)] [(.int p3), (.int p5)])) t → Steps p.tables e below (T2.setTop (mkF m 9 #[.val (.ref a1), .val (.int p2), .val (.int p3), .val (.int p4), .val (.int p5)] [])) t := by
    intro t k
    refine XS.iload X2.here hx rfl (hb hby d3_9) rfl ?_
    show Steps p.tables e below (T2.setTop (mkF m 11 #[.val (.ref a1), .val (.int p2), .val (.int p3), .val (.int p4), .val (.int p5)] [(.int p5)])) t
    refine XS.iloadN X2.here hx rfl (hb hby d3_11) rfl ?_
    show Steps p.tables e below (T2.setTop (mkF m 12 #[.val (.ref a1), .val (.int p2), .val (.int p3), .val (.int p4), .val (.int p5)] [(.int p3), (.int p5)])) t
    exact k
  have hc8 : ¬ (p5 < p3) := htb
  have K9 : ∀ t, Steps p.tables e below (T2.setTop (mkF m 33 #[.val (.ref a1), .val (.int p2), .val (.int p3), .val (.int p4), .val (.int p5)] [])) t → Steps p.tables e below (T2.setTop (mkF m 12 #[.val (.ref a1), .val (.int p2), .val (.int p3), .val (.int p4), .val (.int p5)] [(.int p3), (.int p5)])) t := by
    intro t k
    refine XS.icmpYes X2.here hx rfl (pc0 := 12) (pc' := 33) rfl (hb hby d3_12) rfl (flt hc8).2.1 (by decide) (by decide) ?_
    exact k
  have K10 : ∀ t, Steps p.tables e below (T2.setTop (mkF m 35 #[.val (.ref a1), .val (.int p2), .val (.int p3), .val (.int p4), .val (.int p5)] [(.int p2), (.ref a1)])) t → Steps p.tables e below (T2.setTop (mkF m 33 #[.val (.ref a1), .val (.int p2), .val (.int p3), .val (.int p4), .val (.int p5)] [])) t := by
    intro t k
    refine XS.aloadN X2.here hx rfl (hb hby d3_33) rfl rfl ?_
    show Steps p.tables e below (T2.setTop (mkF m 34 #[.val (.ref a1), .val (.int p2), .val (.int p3), .val (.int p4), .val (.int p5)] [(.ref a1)])) t
    refine XS.iloadN X2.here hx rfl (hb hby d3_34) rfl ?_
    show Steps p.tables e below (T2.setTop (mkF m 35 #[.val (.ref a1), .val (.int p2), .val (.int p3), .val (.int p4), .val (.int p5)] [(.int p2), (.ref a1)])) t
    exact k
  obtain ⟨T11, h11, X11, e11, W11, st11⟩ := putF X2 hx hZ hown (host := "") (Or.inl (hw _ (List.mem_of_getElem? (i := 21) rfl))) Via.refl e2 F_left_a1 E_a1 (Or.inr ⟨(hw _ (List.mem_of_getElem? (i := 22) rfl)), rfl, hnm⟩) (hw _ (List.mem_of_getElem? (i := 8) rfl)) (ty := .int) (by decide) rfl rfl (g := (mkF m 35 #[.val (.ref a1), .val (.int p2), .val (.int p3), .val (.int p4), .val (.int p5)] [(.int p2), (.ref a1)])) rfl rfl (hb hby d3_35)
  have KP11 : Keep h0 h11 [a1] := (Keep.refl h0 [a1]).wr W11 (Or.inl (List.mem_of_getElem? (i := 0) rfl))
  have N11 := Fr.snoc X11 N2 g_a1
  have E11_0 : Exa Z h11 a1 "com/example/gutter/gutter/layout/Rect" := E_a1.wr W11
  have F11_1 : Fld Z h11 a1 "com/example/gutter/gutter/layout/Rect" "top" "I" u_top_a1 := F_top_a1.other W11 (Or.inr (slot_ne (Or.inr (hw _ (List.mem_of_getElem? (i := 24) rfl))) (Or.inr (hw _ (List.mem_of_getElem? (i := 22) rfl))) (by decide) (t := .int) (t' := .int) (by decide) (by decide)))
  have F11_2 : Fld Z h11 a1 "com/example/gutter/gutter/layout/Rect" "right" "I" u_right_a1 := F_right_a1.other W11 (Or.inr (slot_ne (Or.inr (hw _ (List.mem_of_getElem? (i := 26) rfl))) (Or.inr (hw _ (List.mem_of_getElem? (i := 22) rfl))) (by decide) (t := .int) (t' := .int) (by decide) (by decide)))
  have F11_3 : Fld Z h11 a1 "com/example/gutter/gutter/layout/Rect" "bottom" "I" u_bottom_a1 := F_bottom_a1.other W11 (Or.inr (slot_ne (Or.inr (hw _ (List.mem_of_getElem? (i := 28) rfl))) (Or.inr (hw _ (List.mem_of_getElem? (i := 22) rfl))) (by decide) (t := .int) (t' := .int) (by decide) (by decide)))
  have Fw11 : Fld Z h11 a1 "com/example/gutter/gutter/layout/Rect" "left" "I" (.int p2) := F_left_a1.same W11
  have K12 : ∀ t, Steps p.tables e below (T11.setTop (mkF m 38 #[.val (.ref a1), .val (.int p2), .val (.int p3), .val (.int p4), .val (.int p5)] [])) t → Steps p.tables e below (T2.setTop (mkF m 35 #[.val (.ref a1), .val (.int p2), .val (.int p3), .val (.int p4), .val (.int p5)] [(.int p2), (.ref a1)])) t := fun t k => st11 _ k
  have K13 : ∀ t, Steps p.tables e below (T11.setTop (mkF m 40 #[.val (.ref a1), .val (.int p2), .val (.int p3), .val (.int p4), .val (.int p5)] [(.int p3), (.ref a1)])) t → Steps p.tables e below (T11.setTop (mkF m 38 #[.val (.ref a1), .val (.int p2), .val (.int p3), .val (.int p4), .val (.int p5)] [])) t := by
    intro t k
    refine XS.aloadN X11.here hx rfl (hb hby d3_38) rfl rfl ?_
    show Steps p.tables e below (T11.setTop (mkF m 39 #[.val (.ref a1), .val (.int p2), .val (.int p3), .val (.int p4), .val (.int p5)] [(.ref a1)])) t
    refine XS.iloadN X11.here hx rfl (hb hby d3_39) rfl ?_
    show Steps p.tables e below (T11.setTop (mkF m 40 #[.val (.ref a1), .val (.int p2), .val (.int p3), .val (.int p4), .val (.int p5)] [(.int p3), (.ref a1)])) t
    exact k
  obtain ⟨T14, h14, X14, e14, W14, st14⟩ := putF X11 hx hZ hown (host := "") (Or.inl (hw _ (List.mem_of_getElem? (i := 23) rfl))) Via.refl e11 F11_1 E11_0 (Or.inr ⟨(hw _ (List.mem_of_getElem? (i := 24) rfl)), rfl, hnm⟩) (hw _ (List.mem_of_getElem? (i := 8) rfl)) (ty := .int) (by decide) rfl rfl (g := (mkF m 40 #[.val (.ref a1), .val (.int p2), .val (.int p3), .val (.int p4), .val (.int p5)] [(.int p3), (.ref a1)])) rfl rfl (hb hby d3_40)
  have KP14 : Keep h0 h14 [a1] := KP11.wr W14 (Or.inl (List.mem_of_getElem? (i := 0) rfl))
  have N14 := Fr.snoc X14 N11 g_a1
  have E14_0 : Exa Z h14 a1 "com/example/gutter/gutter/layout/Rect" := E11_0.wr W14
  have F14_1 : Fld Z h14 a1 "com/example/gutter/gutter/layout/Rect" "right" "I" u_right_a1 := F11_2.other W14 (Or.inr (slot_ne (Or.inr (hw _ (List.mem_of_getElem? (i := 26) rfl))) (Or.inr (hw _ (List.mem_of_getElem? (i := 24) rfl))) (by decide) (t := .int) (t' := .int) (by decide) (by decide)))
  have F14_2 : Fld Z h14 a1 "com/example/gutter/gutter/layout/Rect" "bottom" "I" u_bottom_a1 := F11_3.other W14 (Or.inr (slot_ne (Or.inr (hw _ (List.mem_of_getElem? (i := 28) rfl))) (Or.inr (hw _ (List.mem_of_getElem? (i := 24) rfl))) (by decide) (t := .int) (t' := .int) (by decide) (by decide)))
  have F14_3 : Fld Z h14 a1 "com/example/gutter/gutter/layout/Rect" "left" "I" (.int p2) := Fw11.other W14 (Or.inr (slot_ne (Or.inr (hw _ (List.mem_of_getElem? (i := 22) rfl))) (Or.inr (hw _ (List.mem_of_getElem? (i := 24) rfl))) (by decide) (t := .int) (t' := .int) (by decide) (by decide)))
  have Fw14 : Fld Z h14 a1 "com/example/gutter/gutter/layout/Rect" "top" "I" (.int p3) := F11_1.same W14
  have K15 : ∀ t, Steps p.tables e below (T14.setTop (mkF m 43 #[.val (.ref a1), .val (.int p2), .val (.int p3), .val (.int p4), .val (.int p5)] [])) t → Steps p.tables e below (T11.setTop (mkF m 40 #[.val (.ref a1), .val (.int p2), .val (.int p3), .val (.int p4), .val (.int p5)] [(.int p3), (.ref a1)])) t := fun t k => st14 _ k
  have K16 : ∀ t, Steps p.tables e below (T14.setTop (mkF m 45 #[.val (.ref a1), .val (.int p2), .val (.int p3), .val (.int p4), .val (.int p5)] [(.int p4), (.ref a1)])) t → Steps p.tables e below (T14.setTop (mkF m 43 #[.val (.ref a1), .val (.int p2), .val (.int p3), .val (.int p4), .val (.int p5)] [])) t := by
    intro t k
    refine XS.aloadN X14.here hx rfl (hb hby d3_43) rfl rfl ?_
    show Steps p.tables e below (T14.setTop (mkF m 44 #[.val (.ref a1), .val (.int p2), .val (.int p3), .val (.int p4), .val (.int p5)] [(.ref a1)])) t
    refine XS.iloadN X14.here hx rfl (hb hby d3_44) rfl ?_
    show Steps p.tables e below (T14.setTop (mkF m 45 #[.val (.ref a1), .val (.int p2), .val (.int p3), .val (.int p4), .val (.int p5)] [(.int p4), (.ref a1)])) t
    exact k
  obtain ⟨T17, h17, X17, e17, W17, st17⟩ := putF X14 hx hZ hown (host := "") (Or.inl (hw _ (List.mem_of_getElem? (i := 25) rfl))) Via.refl e14 F14_1 E14_0 (Or.inr ⟨(hw _ (List.mem_of_getElem? (i := 26) rfl)), rfl, hnm⟩) (hw _ (List.mem_of_getElem? (i := 8) rfl)) (ty := .int) (by decide) rfl rfl (g := (mkF m 45 #[.val (.ref a1), .val (.int p2), .val (.int p3), .val (.int p4), .val (.int p5)] [(.int p4), (.ref a1)])) rfl rfl (hb hby d3_45)
  have KP17 : Keep h0 h17 [a1] := KP14.wr W17 (Or.inl (List.mem_of_getElem? (i := 0) rfl))
  have N17 := Fr.snoc X17 N14 g_a1
  have E17_0 : Exa Z h17 a1 "com/example/gutter/gutter/layout/Rect" := E14_0.wr W17
  have F17_1 : Fld Z h17 a1 "com/example/gutter/gutter/layout/Rect" "bottom" "I" u_bottom_a1 := F14_2.other W17 (Or.inr (slot_ne (Or.inr (hw _ (List.mem_of_getElem? (i := 28) rfl))) (Or.inr (hw _ (List.mem_of_getElem? (i := 26) rfl))) (by decide) (t := .int) (t' := .int) (by decide) (by decide)))
  have F17_2 : Fld Z h17 a1 "com/example/gutter/gutter/layout/Rect" "left" "I" (.int p2) := F14_3.other W17 (Or.inr (slot_ne (Or.inr (hw _ (List.mem_of_getElem? (i := 22) rfl))) (Or.inr (hw _ (List.mem_of_getElem? (i := 26) rfl))) (by decide) (t := .int) (t' := .int) (by decide) (by decide)))
  have F17_3 : Fld Z h17 a1 "com/example/gutter/gutter/layout/Rect" "top" "I" (.int p3) := Fw14.other W17 (Or.inr (slot_ne (Or.inr (hw _ (List.mem_of_getElem? (i := 24) rfl))) (Or.inr (hw _ (List.mem_of_getElem? (i := 26) rfl))) (by decide) (t := .int) (t' := .int) (by decide) (by decide)))
  have Fw17 : Fld Z h17 a1 "com/example/gutter/gutter/layout/Rect" "right" "I" (.int p4) := F14_1.same W17
  have K18 : ∀ t, Steps p.tables e below (T17.setTop (mkF m 48 #[.val (.ref a1), .val (.int p2), .val (.int p3), .val (.int p4), .val (.int p5)] [])) t → Steps p.tables e below (T14.setTop (mkF m 45 #[.val (.ref a1), .val (.int p2), .val (.int p3), .val (.int p4), .val (.int p5)] [(.int p4), (.ref a1)])) t := fun t k => st17 _ k
  have K19 : ∀ t, Steps p.tables e below (T17.setTop (mkF m 51 #[.val (.ref a1), .val (.int p2), .val (.int p3), .val (.int p4), .val (.int p5)] [(.int p5), (.ref a1)])) t → Steps p.tables e below (T17.setTop (mkF m 48 #[.val (.ref a1), .val (.int p2), .val (.int p3), .val (.int p4), .val (.int p5)] [])) t := by
    intro t k
    refine XS.aloadN X17.here hx rfl (hb hby d3_48) rfl rfl ?_
    show Steps p.tables e below (T17.setTop (mkF m 49 #[.val (.ref a1), .val (.int p2), .val (.int p3), .val (.int p4), .val (.int p5)] [(.ref a1)])) t
    refine XS.iload X17.here hx rfl (hb hby d3_49) rfl ?_
    show Steps p.tables e below (T17.setTop (mkF m 51 #[.val (.ref a1), .val (.int p2), .val (.int p3), .val (.int p4), .val (.int p5)] [(.int p5), (.ref a1)])) t
    exact k
  obtain ⟨T20, h20, X20, e20, W20, st20⟩ := putF X17 hx hZ hown (host := "") (Or.inl (hw _ (List.mem_of_getElem? (i := 27) rfl))) Via.refl e17 F17_1 E17_0 (Or.inr ⟨(hw _ (List.mem_of_getElem? (i := 28) rfl)), rfl, hnm⟩) (hw _ (List.mem_of_getElem? (i := 8) rfl)) (ty := .int) (by decide) rfl rfl (g := (mkF m 51 #[.val (.ref a1), .val (.int p2), .val (.int p3), .val (.int p4), .val (.int p5)] [(.int p5), (.ref a1)])) rfl rfl (hb hby d3_51)
  have KP20 : Keep h0 h20 [a1] := KP17.wr W20 (Or.inl (List.mem_of_getElem? (i := 0) rfl))
  have N20 := Fr.snoc X20 N17 g_a1
  have E20_0 : Exa Z h20 a1 "com/example/gutter/gutter/layout/Rect" := E17_0.wr W20
  have F20_1 : Fld Z h20 a1 "com/example/gutter/gutter/layout/Rect" "left" "I" (.int p2) := F17_2.other W20 (Or.inr (slot_ne (Or.inr (hw _ (List.mem_of_getElem? (i := 22) rfl))) (Or.inr (hw _ (List.mem_of_getElem? (i := 28) rfl))) (by decide) (t := .int) (t' := .int) (by decide) (by decide)))
  have F20_2 : Fld Z h20 a1 "com/example/gutter/gutter/layout/Rect" "top" "I" (.int p3) := F17_3.other W20 (Or.inr (slot_ne (Or.inr (hw _ (List.mem_of_getElem? (i := 24) rfl))) (Or.inr (hw _ (List.mem_of_getElem? (i := 28) rfl))) (by decide) (t := .int) (t' := .int) (by decide) (by decide)))
  have F20_3 : Fld Z h20 a1 "com/example/gutter/gutter/layout/Rect" "right" "I" (.int p4) := Fw17.other W20 (Or.inr (slot_ne (Or.inr (hw _ (List.mem_of_getElem? (i := 26) rfl))) (Or.inr (hw _ (List.mem_of_getElem? (i := 28) rfl))) (by decide) (t := .int) (t' := .int) (by decide) (by decide)))
  have Fw20 : Fld Z h20 a1 "com/example/gutter/gutter/layout/Rect" "bottom" "I" (.int p5) := F17_1.same W20
  have K21 : ∀ t, Steps p.tables e below (T20.setTop (mkF m 54 #[.val (.ref a1), .val (.int p2), .val (.int p3), .val (.int p4), .val (.int p5)] [])) t → Steps p.tables e below (T17.setTop (mkF m 51 #[.val (.ref a1), .val (.int p2), .val (.int p3), .val (.int p4), .val (.int p5)] [(.int p5), (.ref a1)])) t := fun t k => st20 _ k
  obtain ⟨fs, hr, hrun, hended, hW, hsame⟩ := X20.leave (v := none) (fun _ => rfl)
  refine ⟨_, _, pre0 _ (K1 _ (K3 _ (K4 _ (K6 _ (K7 _ (K9 _ (K10 _ (K12 _ (K13 _ (K15 _ (K16 _ (K18 _ (K19 _ (K21 _ (X20.returnOut hx Bd.returns (hb hby d3_54) hr))))))))))))))), hrun, hended, _, _, rfl, ?_, ⟨_, rfl⟩, hW, hsame.mono (by decide) (by decide)⟩
  show Q3 Z a1 p2 p3 p4 p5 u_left_a1 u_top_a1 u_right_a1 u_bottom_a1 h0 n0 _ T20.heap _
  rw [e20]
  exact ⟨rfl, N20, KP20, E20_0, F20_1, F20_2, F20_3, Fw20⟩
-- body 7: com/example/gutter/gutter/layout/Rect.width()I
theorem d7_0 : decode prog_6_method_4_code 0 = .ok (.aload_n 0, 1) := by decide +kernel
theorem d7_1 : decode prog_6_method_4_code 1 = .ok (.getfield 25, 3) := by decide +kernel
theorem d7_4 : decode prog_6_method_4_code 4 = .ok (.aload_n 0, 1) := by decide +kernel
theorem d7_5 : decode prog_6_method_4_code 5 = .ok (.getfield 16, 3) := by decide +kernel
theorem d7_8 : decode prog_6_method_4_code 8 = .ok (.isub, 1) := by decide +kernel
theorem d7_9 : decode prog_6_method_4_code 9 = .ok (.ireturn, 1) := by decide +kernel
theorem pn_7 : plainName "com/example/gutter/gutter/layout/Rect" = true := by first | (simp [plainName, overriddenIn]; done) | decide +kernel
theorem ef_7 (m : MethodId) (a1 : Addr) : entryFrame m #[(.ref a1)] 1 = mkF m 0 #[.val (.ref a1)] [] := by first | (simp [entryFrame, mkF, argsToLocals, Value.category]; done) | rfl
def f7 (v_right_a1 : Int32) (v_left_a1 : Int32) : Int32 := (v_right_a1 - v_left_a1)
def Q7 (Z : State) (a1 : Addr) (v_right_a1 : Int32) (v_left_a1 : Int32) (h0 : Heap) (n0 : Nat) (v : Option Value) (h : Heap) (L : List Loc) : Prop := v = some (.int (f7 v_right_a1 v_left_a1)) ∧ Fr n0 L ∧ h = h0
set_option maxRecDepth 65536 in
set_option maxHeartbeats 40000000 in
theorem rm7 (l : Launch) (Z : State) (a0 : Array Value) (hw : ∀ d ∈ tables_1, d.before a0 Z = true) (ws : List Jvm.Cond) (a1 : Addr) (v_right_a1 : Int32) (v_left_a1 : Int32) (h0 : Heap) (n0 : Nat) (Z0 : n0 ≤ h0.size) (F_right_a1 : Fld Z h0 a1 "com/example/gutter/gutter/layout/Rect" "right" "I" (.int v_right_a1)) (F_left_a1 : Fld Z h0 a1 "com/example/gutter/gutter/layout/Rect" "left" "I" (.int v_left_a1)) :
    MetFree l (⟨"com/example/gutter/gutter/layout/Rect", "width", "()I"⟩ : MethodName) (head1 (Jvm.Cond.code (⟨"com/example/gutter/gutter/layout/Rect", "width", "()I"⟩ : MethodName) prog_6_method_4_code 1 (some .int) :: ws) ({ frames := 0, cells := 0, slots := 0, locals := 0 } : Room)) (fun a U => a = #[(.ref a1)] ∧ Z.Warmed39 U.vm ∧ U.heap = h0) (fun _ _ _ _ _ => True) (fun _ U o U' => ∃ v L, o = .returned v ∧ Q7 Z a1 v_right_a1 v_left_a1 h0 n0 v U'.heap L ∧ FrameEnd U o U' L ({ frames := 0, cells := 0, slots := 0, locals := 0 } : Room).cells ({ frames := 0, cells := 0, slots := 0, locals := 0 } : Room).slots) := by
  refine MetFree.of_bodySF (plainFor_of_name pn_7) hisR ?_
  intro p e s m args below meth c s₁ Bd hml0 hP hK
  obtain ⟨rfl, hZ, hh⟩ := hP
  have hx := Bd.exec
  have hby := Bd.bytes
  have hml : c.maxLocals = 1 := hml0
  have hown : s.vm.findClass "com/example/gutter/gutter/layout/Rect" = some m.cls := findClass_of_methodNamed Bd.named
  have hnm := (name_of_methodNamed Bd.named Bd.method).1
  have X0 : Stand p l e ({ frames := 0, cells := 0, slots := 0, locals := 0 } : Room) s m #[(.ref a1)] below meth c s₁ [] 0 0 := Stand.of_body Bd
  have e0 : s₁.heap = h0 := by rw [← hh, Bd.state]; rfl
  have N0 := Fr.nil n0
  have pre0 : ∀ t, Steps p.tables e below (s₁.setTop (mkF m 0 #[.val (.ref a1)] [])) t → Steps p.tables e below (s₁.setTop (entryFrame m #[(.ref a1)] 1)) t := fun t k => castTop (ef_7 m a1) k
  have K1 : ∀ t, Steps p.tables e below (s₁.setTop (mkF m 1 #[.val (.ref a1)] [(.ref a1)])) t → Steps p.tables e below (s₁.setTop (mkF m 0 #[.val (.ref a1)] [])) t := by
    intro t k
    refine XS.aloadN X0.here hx rfl (hb hby d7_0) rfl rfl ?_
    show Steps p.tables e below (s₁.setTop (mkF m 1 #[.val (.ref a1)] [(.ref a1)])) t
    exact k
  obtain ⟨T2, X2, e2, st2⟩ := getF X0 hx hZ hown (host := "") (Or.inl (hw _ (List.mem_of_getElem? (i := 25) rfl))) Via.refl e0 F_right_a1 (g := (mkF m 1 #[.val (.ref a1)] [(.ref a1)])) rfl rfl (hb hby d7_1)
  have K3 : ∀ t, Steps p.tables e below (T2.setTop (mkF m 4 #[.val (.ref a1)] [(.int v_right_a1)])) t → Steps p.tables e below (s₁.setTop (mkF m 1 #[.val (.ref a1)] [(.ref a1)])) t := fun t k => st2 _ k
  have K4 : ∀ t, Steps p.tables e below (T2.setTop (mkF m 5 #[.val (.ref a1)] [(.ref a1), (.int v_right_a1)])) t → Steps p.tables e below (T2.setTop (mkF m 4 #[.val (.ref a1)] [(.int v_right_a1)])) t := by
    intro t k
    refine XS.aloadN X2.here hx rfl (hb hby d7_4) rfl rfl ?_
    show Steps p.tables e below (T2.setTop (mkF m 5 #[.val (.ref a1)] [(.ref a1), (.int v_right_a1)])) t
    exact k
  obtain ⟨T5, X5, e5, st5⟩ := getF X2 hx hZ hown (host := "") (Or.inl (hw _ (List.mem_of_getElem? (i := 21) rfl))) Via.refl e2 F_left_a1 (g := (mkF m 5 #[.val (.ref a1)] [(.ref a1), (.int v_right_a1)])) rfl rfl (hb hby d7_5)
  have K6 : ∀ t, Steps p.tables e below (T5.setTop (mkF m 8 #[.val (.ref a1)] [(.int v_left_a1), (.int v_right_a1)])) t → Steps p.tables e below (T2.setTop (mkF m 5 #[.val (.ref a1)] [(.ref a1), (.int v_right_a1)])) t := fun t k => st5 _ k
  have K7 : ∀ t, Steps p.tables e below (T5.setTop (mkF m 9 #[.val (.ref a1)] [(.int (v_right_a1 - v_left_a1))])) t → Steps p.tables e below (T5.setTop (mkF m 8 #[.val (.ref a1)] [(.int v_left_a1), (.int v_right_a1)])) t := by
    intro t k
    refine XS.isub X5.here hx rfl (hb hby d7_8) rfl ?_
    show Steps p.tables e below (T5.setTop (mkF m 9 #[.val (.ref a1)] [(.int (v_right_a1 - v_left_a1))])) t
    exact k
  obtain ⟨fs, hr, hrun, hended, hW, hsame⟩ := X5.leave (v := some (.int (v_right_a1 - v_left_a1))) (fun h => by rw [Bd.returns] at h; cases h)
  refine ⟨_, _, pre0 _ (K1 _ (K3 _ (K4 _ (K6 _ (K7 _ (retI X5 hx Bd.returns (hb hby d7_9) hr)))))), hrun, hended, _, _, rfl, ?_, ⟨_, rfl⟩, hW, hsame.mono (by decide) (by decide)⟩
  show Q7 Z a1 v_right_a1 v_left_a1 h0 n0 _ T5.heap _
  rw [e5]
  exact ⟨congrArg (fun z => some (Value.int z)) (show (v_right_a1 - v_left_a1) = f7 v_right_a1 v_left_a1 from Eq.symm (rfl)), N0, rfl⟩
-- body 8: com/example/gutter/gutter/layout/Rect.height()I
theorem d8_0 : decode prog_6_method_5_code 0 = .ok (.aload_n 0, 1) := by decide +kernel
theorem d8_1 : decode prog_6_method_5_code 1 = .ok (.getfield 28, 3) := by decide +kernel
theorem d8_4 : decode prog_6_method_5_code 4 = .ok (.aload_n 0, 1) := by decide +kernel
theorem d8_5 : decode prog_6_method_5_code 5 = .ok (.getfield 22, 3) := by decide +kernel
theorem d8_8 : decode prog_6_method_5_code 8 = .ok (.isub, 1) := by decide +kernel
theorem d8_9 : decode prog_6_method_5_code 9 = .ok (.ireturn, 1) := by decide +kernel
theorem pn_8 : plainName "com/example/gutter/gutter/layout/Rect" = true := by first | (simp [plainName, overriddenIn]; done) | decide +kernel
theorem ef_8 (m : MethodId) (a1 : Addr) : entryFrame m #[(.ref a1)] 1 = mkF m 0 #[.val (.ref a1)] [] := by first | (simp [entryFrame, mkF, argsToLocals, Value.category]; done) | rfl
def f8 (v_bottom_a1 : Int32) (v_top_a1 : Int32) : Int32 := (v_bottom_a1 - v_top_a1)
def Q8 (Z : State) (a1 : Addr) (v_bottom_a1 : Int32) (v_top_a1 : Int32) (h0 : Heap) (n0 : Nat) (v : Option Value) (h : Heap) (L : List Loc) : Prop := v = some (.int (f8 v_bottom_a1 v_top_a1)) ∧ Fr n0 L ∧ h = h0
set_option maxRecDepth 65536 in
set_option maxHeartbeats 40000000 in
theorem rm8 (l : Launch) (Z : State) (a0 : Array Value) (hw : ∀ d ∈ tables_1, d.before a0 Z = true) (ws : List Jvm.Cond) (a1 : Addr) (v_bottom_a1 : Int32) (v_top_a1 : Int32) (h0 : Heap) (n0 : Nat) (Z0 : n0 ≤ h0.size) (F_bottom_a1 : Fld Z h0 a1 "com/example/gutter/gutter/layout/Rect" "bottom" "I" (.int v_bottom_a1)) (F_top_a1 : Fld Z h0 a1 "com/example/gutter/gutter/layout/Rect" "top" "I" (.int v_top_a1)) :
    MetFree l (⟨"com/example/gutter/gutter/layout/Rect", "height", "()I"⟩ : MethodName) (head1 (Jvm.Cond.code (⟨"com/example/gutter/gutter/layout/Rect", "height", "()I"⟩ : MethodName) prog_6_method_5_code 1 (some .int) :: ws) ({ frames := 0, cells := 0, slots := 0, locals := 0 } : Room)) (fun a U => a = #[(.ref a1)] ∧ Z.Warmed39 U.vm ∧ U.heap = h0) (fun _ _ _ _ _ => True) (fun _ U o U' => ∃ v L, o = .returned v ∧ Q8 Z a1 v_bottom_a1 v_top_a1 h0 n0 v U'.heap L ∧ FrameEnd U o U' L ({ frames := 0, cells := 0, slots := 0, locals := 0 } : Room).cells ({ frames := 0, cells := 0, slots := 0, locals := 0 } : Room).slots) := by
  refine MetFree.of_bodySF (plainFor_of_name pn_8) hisR ?_
  intro p e s m args below meth c s₁ Bd hml0 hP hK
  obtain ⟨rfl, hZ, hh⟩ := hP
  have hx := Bd.exec
  have hby := Bd.bytes
  have hml : c.maxLocals = 1 := hml0
  have hown : s.vm.findClass "com/example/gutter/gutter/layout/Rect" = some m.cls := findClass_of_methodNamed Bd.named
  have hnm := (name_of_methodNamed Bd.named Bd.method).1
  have X0 : Stand p l e ({ frames := 0, cells := 0, slots := 0, locals := 0 } : Room) s m #[(.ref a1)] below meth c s₁ [] 0 0 := Stand.of_body Bd
  have e0 : s₁.heap = h0 := by rw [← hh, Bd.state]; rfl
  have N0 := Fr.nil n0
  have pre0 : ∀ t, Steps p.tables e below (s₁.setTop (mkF m 0 #[.val (.ref a1)] [])) t → Steps p.tables e below (s₁.setTop (entryFrame m #[(.ref a1)] 1)) t := fun t k => castTop (ef_8 m a1) k
  have K1 : ∀ t, Steps p.tables e below (s₁.setTop (mkF m 1 #[.val (.ref a1)] [(.ref a1)])) t → Steps p.tables e below (s₁.setTop (mkF m 0 #[.val (.ref a1)] [])) t := by
    intro t k
    refine XS.aloadN X0.here hx rfl (hb hby d8_0) rfl rfl ?_
    show Steps p.tables e below (s₁.setTop (mkF m 1 #[.val (.ref a1)] [(.ref a1)])) t
    exact k
  obtain ⟨T2, X2, e2, st2⟩ := getF X0 hx hZ hown (host := "") (Or.inl (hw _ (List.mem_of_getElem? (i := 27) rfl))) Via.refl e0 F_bottom_a1 (g := (mkF m 1 #[.val (.ref a1)] [(.ref a1)])) rfl rfl (hb hby d8_1)
  have K3 : ∀ t, Steps p.tables e below (T2.setTop (mkF m 4 #[.val (.ref a1)] [(.int v_bottom_a1)])) t → Steps p.tables e below (s₁.setTop (mkF m 1 #[.val (.ref a1)] [(.ref a1)])) t := fun t k => st2 _ k
  have K4 : ∀ t, Steps p.tables e below (T2.setTop (mkF m 5 #[.val (.ref a1)] [(.ref a1), (.int v_bottom_a1)])) t → Steps p.tables e below (T2.setTop (mkF m 4 #[.val (.ref a1)] [(.int v_bottom_a1)])) t := by
    intro t k
    refine XS.aloadN X2.here hx rfl (hb hby d8_4) rfl rfl ?_
    show Steps p.tables e below (T2.setTop (mkF m 5 #[.val (.ref a1)] [(.ref a1), (.int v_bottom_a1)])) t
    exact k
  obtain ⟨T5, X5, e5, st5⟩ := getF X2 hx hZ hown (host := "") (Or.inl (hw _ (List.mem_of_getElem? (i := 23) rfl))) Via.refl e2 F_top_a1 (g := (mkF m 5 #[.val (.ref a1)] [(.ref a1), (.int v_bottom_a1)])) rfl rfl (hb hby d8_5)
  have K6 : ∀ t, Steps p.tables e below (T5.setTop (mkF m 8 #[.val (.ref a1)] [(.int v_top_a1), (.int v_bottom_a1)])) t → Steps p.tables e below (T2.setTop (mkF m 5 #[.val (.ref a1)] [(.ref a1), (.int v_bottom_a1)])) t := fun t k => st5 _ k
  have K7 : ∀ t, Steps p.tables e below (T5.setTop (mkF m 9 #[.val (.ref a1)] [(.int (v_bottom_a1 - v_top_a1))])) t → Steps p.tables e below (T5.setTop (mkF m 8 #[.val (.ref a1)] [(.int v_top_a1), (.int v_bottom_a1)])) t := by
    intro t k
    refine XS.isub X5.here hx rfl (hb hby d8_8) rfl ?_
    show Steps p.tables e below (T5.setTop (mkF m 9 #[.val (.ref a1)] [(.int (v_bottom_a1 - v_top_a1))])) t
    exact k
  obtain ⟨fs, hr, hrun, hended, hW, hsame⟩ := X5.leave (v := some (.int (v_bottom_a1 - v_top_a1))) (fun h => by rw [Bd.returns] at h; cases h)
  refine ⟨_, _, pre0 _ (K1 _ (K3 _ (K4 _ (K6 _ (K7 _ (retI X5 hx Bd.returns (hb hby d8_9) hr)))))), hrun, hended, _, _, rfl, ?_, ⟨_, rfl⟩, hW, hsame.mono (by decide) (by decide)⟩
  show Q8 Z a1 v_bottom_a1 v_top_a1 h0 n0 _ T5.heap _
  rw [e5]
  exact ⟨congrArg (fun z => some (Value.int z)) (show (v_bottom_a1 - v_top_a1) = f8 v_bottom_a1 v_top_a1 from Eq.symm (rfl)), N0, rfl⟩
-- body 6: com/example/gutter/gutter/layout/Rect.toBox()[I
theorem d6_0 : decode prog_6_method_3_code 0 = .ok (.iconst 4, 1) := by decide +kernel
theorem d6_1 : decode prog_6_method_3_code 1 = .ok (.newarray .int, 2) := by decide +kernel
theorem d6_3 : decode prog_6_method_3_code 3 = .ok (.dup, 1) := by decide +kernel
theorem d6_4 : decode prog_6_method_3_code 4 = .ok (.iconst 0, 1) := by decide +kernel
theorem d6_5 : decode prog_6_method_3_code 5 = .ok (.aload_n 0, 1) := by decide +kernel
theorem d6_6 : decode prog_6_method_3_code 6 = .ok (.getfield 16, 3) := by decide +kernel
theorem d6_9 : decode prog_6_method_3_code 9 = .ok (.iastore, 1) := by decide +kernel
theorem d6_10 : decode prog_6_method_3_code 10 = .ok (.dup, 1) := by decide +kernel
theorem d6_11 : decode prog_6_method_3_code 11 = .ok (.iconst 1, 1) := by decide +kernel
theorem d6_12 : decode prog_6_method_3_code 12 = .ok (.aload_n 0, 1) := by decide +kernel
theorem d6_13 : decode prog_6_method_3_code 13 = .ok (.getfield 22, 3) := by decide +kernel
theorem d6_16 : decode prog_6_method_3_code 16 = .ok (.iastore, 1) := by decide +kernel
theorem d6_17 : decode prog_6_method_3_code 17 = .ok (.dup, 1) := by decide +kernel
theorem d6_18 : decode prog_6_method_3_code 18 = .ok (.iconst 2, 1) := by decide +kernel
theorem d6_19 : decode prog_6_method_3_code 19 = .ok (.aload_n 0, 1) := by decide +kernel
theorem d6_20 : decode prog_6_method_3_code 20 = .ok (.invokevirtual 47, 3) := by decide +kernel
theorem d6_23 : decode prog_6_method_3_code 23 = .ok (.iastore, 1) := by decide +kernel
theorem d6_24 : decode prog_6_method_3_code 24 = .ok (.dup, 1) := by decide +kernel
theorem d6_25 : decode prog_6_method_3_code 25 = .ok (.iconst 3, 1) := by decide +kernel
theorem d6_26 : decode prog_6_method_3_code 26 = .ok (.aload_n 0, 1) := by decide +kernel
theorem d6_27 : decode prog_6_method_3_code 27 = .ok (.invokevirtual 51, 3) := by decide +kernel
theorem d6_30 : decode prog_6_method_3_code 30 = .ok (.iastore, 1) := by decide +kernel
theorem d6_31 : decode prog_6_method_3_code 31 = .ok (.areturn, 1) := by decide +kernel
theorem pn_6 : plainName "com/example/gutter/gutter/layout/Rect" = true := by first | (simp [plainName, overriddenIn]; done) | decide +kernel
theorem pd_4 : parseMethodDescriptor "()I" = some ⟨[], some .int⟩ := by decide +kernel
theorem ef_6 (m : MethodId) (a1 : Addr) : entryFrame m #[(.ref a1)] 1 = mkF m 0 #[.val (.ref a1)] [] := by first | (simp [entryFrame, mkF, argsToLocals, Value.category]; done) | rfl
def f6_u1 (v_left_a1 : Int32) : Int32 → Int32 := (upd (fun _ => 0) (0 : Int32) v_left_a1)
def f6_u2 (v_left_a1 : Int32) (v_top_a1 : Int32) : Int32 → Int32 := (upd (f6_u1 v_left_a1) (1 : Int32) v_top_a1)
def f6_u3 (v_left_a1 : Int32) (v_top_a1 : Int32) (v_right_a1 : Int32) : Int32 → Int32 := (upd (f6_u2 v_left_a1 v_top_a1) (2 : Int32) (f7 v_right_a1 v_left_a1))
def f6_u4 (v_left_a1 : Int32) (v_top_a1 : Int32) (v_right_a1 : Int32) (v_bottom_a1 : Int32) : Int32 → Int32 := (upd (f6_u3 v_left_a1 v_top_a1 v_right_a1) (3 : Int32) (f8 v_bottom_a1 v_top_a1))
def Q6 (Z : State) (a1 : Addr) (v_left_a1 : Int32) (v_top_a1 : Int32) (v_right_a1 : Int32) (v_bottom_a1 : Int32) (h0 : Heap) (n0 : Nat) (v : Option Value) (h : Heap) (L : List Loc) : Prop := ∃ x1 : Addr, v = some (.ref x1) ∧ Fr n0 L ∧ Keep h0 h [] ∧ h0.size ≤ x1 ∧ n0 ≤ x1 ∧ Ia Z h x1 .int (4 : Int32) (f6_u4 v_left_a1 v_top_a1 v_right_a1 v_bottom_a1)
set_option maxRecDepth 65536 in
set_option maxHeartbeats 40000000 in
theorem rm6 (l : Launch) (Z : State) (a0 : Array Value) (hw : ∀ d ∈ tables_1, d.before a0 Z = true) (ws : List Jvm.Cond) (a1 : Addr) (v_left_a1 : Int32) (v_top_a1 : Int32) (v_right_a1 : Int32) (v_bottom_a1 : Int32) (h0 : Heap) (n0 : Nat) (Z0 : n0 ≤ h0.size) (F_left_a1 : Fld Z h0 a1 "com/example/gutter/gutter/layout/Rect" "left" "I" (.int v_left_a1)) (F_top_a1 : Fld Z h0 a1 "com/example/gutter/gutter/layout/Rect" "top" "I" (.int v_top_a1)) (E_a1 : Exa Z h0 a1 "com/example/gutter/gutter/layout/Rect") (F_right_a1 : Fld Z h0 a1 "com/example/gutter/gutter/layout/Rect" "right" "I" (.int v_right_a1)) (F_bottom_a1 : Fld Z h0 a1 "com/example/gutter/gutter/layout/Rect" "bottom" "I" (.int v_bottom_a1)) :
    MetFree l (⟨"com/example/gutter/gutter/layout/Rect", "toBox", "()[I"⟩ : MethodName) (head1 (Jvm.Cond.code (⟨"com/example/gutter/gutter/layout/Rect", "toBox", "()[I"⟩ : MethodName) prog_6_method_3_code 1 (some (.array .int)) :: ws) ({ frames := 1, cells := 1, slots := 4, locals := 15 } : Room)) (fun a U => a = #[(.ref a1)] ∧ Z.Warmed39 U.vm ∧ U.heap = h0) (fun _ _ _ _ _ => True) (fun _ U o U' => ∃ v L, o = .returned v ∧ Q6 Z a1 v_left_a1 v_top_a1 v_right_a1 v_bottom_a1 h0 n0 v U'.heap L ∧ FrameEnd U o U' L ({ frames := 1, cells := 1, slots := 4, locals := 15 } : Room).cells ({ frames := 1, cells := 1, slots := 4, locals := 15 } : Room).slots) := by
  refine MetFree.of_bodySF (plainFor_of_name pn_6) hisR ?_
  intro p e s m args below meth c s₁ Bd hml0 hP hK
  obtain ⟨rfl, hZ, hh⟩ := hP
  have hx := Bd.exec
  have hby := Bd.bytes
  have hml : c.maxLocals = 1 := hml0
  have hown : s.vm.findClass "com/example/gutter/gutter/layout/Rect" = some m.cls := findClass_of_methodNamed Bd.named
  have hnm := (name_of_methodNamed Bd.named Bd.method).1
  have X0 : Stand p l e ({ frames := 1, cells := 1, slots := 4, locals := 15 } : Room) s m #[(.ref a1)] below meth c s₁ [] 0 0 := Stand.of_body Bd
  have e0 : s₁.heap = h0 := by rw [← hh, Bd.state]; rfl
  have N0 := Fr.nil n0
  have pre0 : ∀ t, Steps p.tables e below (s₁.setTop (mkF m 0 #[.val (.ref a1)] [])) t → Steps p.tables e below (s₁.setTop (entryFrame m #[(.ref a1)] 1)) t := fun t k => castTop (ef_6 m a1) k
  have K1 : ∀ t, Steps p.tables e below (s₁.setTop (mkF m 1 #[.val (.ref a1)] [(.int (4 : Int32))])) t → Steps p.tables e below (s₁.setTop (mkF m 0 #[.val (.ref a1)] [])) t := by
    intro t k
    refine XS.iconst X0.here hx rfl (hb hby d6_0) ?_
    show Steps p.tables e below (s₁.setTop (mkF m 1 #[.val (.ref a1)] [(.int (4 : Int32))])) t
    exact k
  obtain ⟨T2, h2, k2, X2, e2, E2, A2, st2⟩ := newP X0 hx hZ (hw _ (List.mem_of_getElem? (i := 34) rfl)) e0 (g := (mkF m 1 #[.val (.ref a1)] [(.int (4 : Int32))])) rfl (hb hby d6_1) rfl (by decide) (cap := 4) (by decide) (by decide) (by decide) (by decide)
  obtain ⟨b2, g2⟩ : ∃ z, z = h0.size := ⟨_, rfl⟩
  rw [← g2] at A2 st2
  have KP2 : Keep h0 h2 [] := (Keep.refl h0 []).ext E2
  have F2_0 : Fld Z h2 a1 "com/example/gutter/gutter/layout/Rect" "left" "I" (.int v_left_a1) := F_left_a1.ext E2
  have F2_1 : Fld Z h2 a1 "com/example/gutter/gutter/layout/Rect" "top" "I" (.int v_top_a1) := F_top_a1.ext E2
  have E2_2 : Exa Z h2 a1 "com/example/gutter/gutter/layout/Rect" := E_a1.ext E2
  have F2_3 : Fld Z h2 a1 "com/example/gutter/gutter/layout/Rect" "right" "I" (.int v_right_a1) := F_right_a1.ext E2
  have F2_4 : Fld Z h2 a1 "com/example/gutter/gutter/layout/Rect" "bottom" "I" (.int v_bottom_a1) := F_bottom_a1.ext E2
  have ne2_0 : a1 ≠ b2 := Nat.ne_of_lt (Nat.lt_of_lt_of_le F_left_a1.lt (Nat.le_of_eq g2.symm))
  have gb_b2 : n0 ≤ b2 := Nat.le_trans Z0 (Nat.le_of_eq g2.symm)
  have sz_b2 : h0.size ≤ b2 := Nat.le_trans (Keep.refl h0 []).1 (Nat.le_of_eq g2.symm)
  have V2 : Ia Z h2 b2 .int (4 : Int32) (fun _ => 0) := Ia.new A2 (by decide) rfl
  have K3 : ∀ t, Steps p.tables e below (T2.setTop (mkF m 3 #[.val (.ref a1)] [(.ref b2)])) t → Steps p.tables e below (s₁.setTop (mkF m 1 #[.val (.ref a1)] [(.int (4 : Int32))])) t := fun t k => st2 _ k
  have K4 : ∀ t, Steps p.tables e below (T2.setTop (mkF m 6 #[.val (.ref a1)] [(.ref a1), (.int (0 : Int32)), (.ref b2), (.ref b2)])) t → Steps p.tables e below (T2.setTop (mkF m 3 #[.val (.ref a1)] [(.ref b2)])) t := by
    intro t k
    refine XS.dup X2.here hx rfl (hb hby d6_3) rfl rfl ?_
    show Steps p.tables e below (T2.setTop (mkF m 4 #[.val (.ref a1)] [(.ref b2), (.ref b2)])) t
    refine XS.iconst X2.here hx rfl (hb hby d6_4) ?_
    show Steps p.tables e below (T2.setTop (mkF m 5 #[.val (.ref a1)] [(.int (0 : Int32)), (.ref b2), (.ref b2)])) t
    refine XS.aloadN X2.here hx rfl (hb hby d6_5) rfl rfl ?_
    show Steps p.tables e below (T2.setTop (mkF m 6 #[.val (.ref a1)] [(.ref a1), (.int (0 : Int32)), (.ref b2), (.ref b2)])) t
    exact k
  obtain ⟨T5, X5, e5, st5⟩ := getF X2 hx hZ hown (host := "") (Or.inl (hw _ (List.mem_of_getElem? (i := 21) rfl))) Via.refl e2 F2_0 (g := (mkF m 6 #[.val (.ref a1)] [(.ref a1), (.int (0 : Int32)), (.ref b2), (.ref b2)])) rfl rfl (hb hby d6_6)
  have K6 : ∀ t, Steps p.tables e below (T5.setTop (mkF m 9 #[.val (.ref a1)] [(.int v_left_a1), (.int (0 : Int32)), (.ref b2), (.ref b2)])) t → Steps p.tables e below (T2.setTop (mkF m 6 #[.val (.ref a1)] [(.ref a1), (.int (0 : Int32)), (.ref b2), (.ref b2)])) t := fun t k => st5 _ k
  have hin7 : ¬ (0 : Int32) < 0 ∧ (0 : Int32) < (4 : Int32) := by exact ⟨by decide, by decide⟩
  obtain ⟨cl7, Aq7, hj7, aq7⟩ := Ia.at V2 hin7
  obtain ⟨T7, h7, X7, e7, W7, st7⟩ := stI X5 hx hZ e5 Aq7 (j := (0 : Int32)) hj7 (g := (mkF m 9 #[.val (.ref a1)] [(.int v_left_a1), (.int (0 : Int32)), (.ref b2), (.ref b2)])) rfl rfl (hb hby d6_9)
  have KP7 : Keep h0 h7 [] := KP2.wr W7 (Or.inr sz_b2)
  have N7 := Fr.snoc X7 N0 gb_b2
  have F7_0 : Fld Z h7 a1 "com/example/gutter/gutter/layout/Rect" "left" "I" (.int v_left_a1) := F2_0.other W7 (Or.inl ne2_0)
  have F7_1 : Fld Z h7 a1 "com/example/gutter/gutter/layout/Rect" "top" "I" (.int v_top_a1) := F2_1.other W7 (Or.inl ne2_0)
  have E7_2 : Exa Z h7 a1 "com/example/gutter/gutter/layout/Rect" := E2_2.wr W7
  have F7_3 : Fld Z h7 a1 "com/example/gutter/gutter/layout/Rect" "right" "I" (.int v_right_a1) := F2_3.other W7 (Or.inl ne2_0)
  have F7_4 : Fld Z h7 a1 "com/example/gutter/gutter/layout/Rect" "bottom" "I" (.int v_bottom_a1) := F2_4.other W7 (Or.inl ne2_0)
  have Aw7 : Ia Z h7 b2 .int (4 : Int32) (f6_u1 v_left_a1) := V2.set W7 hin7.1
  have K8 : ∀ t, Steps p.tables e below (T7.setTop (mkF m 10 #[.val (.ref a1)] [(.ref b2)])) t → Steps p.tables e below (T5.setTop (mkF m 9 #[.val (.ref a1)] [(.int v_left_a1), (.int (0 : Int32)), (.ref b2), (.ref b2)])) t := fun t k => st7 _ k
  have K9 : ∀ t, Steps p.tables e below (T7.setTop (mkF m 13 #[.val (.ref a1)] [(.ref a1), (.int (1 : Int32)), (.ref b2), (.ref b2)])) t → Steps p.tables e below (T7.setTop (mkF m 10 #[.val (.ref a1)] [(.ref b2)])) t := by
    intro t k
    refine XS.dup X7.here hx rfl (hb hby d6_10) rfl rfl ?_
    show Steps p.tables e below (T7.setTop (mkF m 11 #[.val (.ref a1)] [(.ref b2), (.ref b2)])) t
    refine XS.iconst X7.here hx rfl (hb hby d6_11) ?_
    show Steps p.tables e below (T7.setTop (mkF m 12 #[.val (.ref a1)] [(.int (1 : Int32)), (.ref b2), (.ref b2)])) t
    refine XS.aloadN X7.here hx rfl (hb hby d6_12) rfl rfl ?_
    show Steps p.tables e below (T7.setTop (mkF m 13 #[.val (.ref a1)] [(.ref a1), (.int (1 : Int32)), (.ref b2), (.ref b2)])) t
    exact k
  obtain ⟨T10, X10, e10, st10⟩ := getF X7 hx hZ hown (host := "") (Or.inl (hw _ (List.mem_of_getElem? (i := 23) rfl))) Via.refl e7 F7_1 (g := (mkF m 13 #[.val (.ref a1)] [(.ref a1), (.int (1 : Int32)), (.ref b2), (.ref b2)])) rfl rfl (hb hby d6_13)
  have K11 : ∀ t, Steps p.tables e below (T10.setTop (mkF m 16 #[.val (.ref a1)] [(.int v_top_a1), (.int (1 : Int32)), (.ref b2), (.ref b2)])) t → Steps p.tables e below (T7.setTop (mkF m 13 #[.val (.ref a1)] [(.ref a1), (.int (1 : Int32)), (.ref b2), (.ref b2)])) t := fun t k => st10 _ k
  have hin12 : ¬ (1 : Int32) < 0 ∧ (1 : Int32) < (4 : Int32) := by exact ⟨by decide, by decide⟩
  obtain ⟨cl12, Aq12, hj12, aq12⟩ := Ia.at Aw7 hin12
  obtain ⟨T12, h12, X12, e12, W12, st12⟩ := stI X10 hx hZ e10 Aq12 (j := (1 : Int32)) hj12 (g := (mkF m 16 #[.val (.ref a1)] [(.int v_top_a1), (.int (1 : Int32)), (.ref b2), (.ref b2)])) rfl rfl (hb hby d6_16)
  have KP12 : Keep h0 h12 [] := KP7.wr W12 (Or.inr sz_b2)
  have N12 := Fr.snoc X12 N7 gb_b2
  have F12_0 : Fld Z h12 a1 "com/example/gutter/gutter/layout/Rect" "left" "I" (.int v_left_a1) := F7_0.other W12 (Or.inl ne2_0)
  have F12_1 : Fld Z h12 a1 "com/example/gutter/gutter/layout/Rect" "top" "I" (.int v_top_a1) := F7_1.other W12 (Or.inl ne2_0)
  have E12_2 : Exa Z h12 a1 "com/example/gutter/gutter/layout/Rect" := E7_2.wr W12
  have F12_3 : Fld Z h12 a1 "com/example/gutter/gutter/layout/Rect" "right" "I" (.int v_right_a1) := F7_3.other W12 (Or.inl ne2_0)
  have F12_4 : Fld Z h12 a1 "com/example/gutter/gutter/layout/Rect" "bottom" "I" (.int v_bottom_a1) := F7_4.other W12 (Or.inl ne2_0)
  have Aw12 : Ia Z h12 b2 .int (4 : Int32) (f6_u2 v_left_a1 v_top_a1) := Aw7.set W12 hin12.1
  have K13 : ∀ t, Steps p.tables e below (T12.setTop (mkF m 17 #[.val (.ref a1)] [(.ref b2)])) t → Steps p.tables e below (T10.setTop (mkF m 16 #[.val (.ref a1)] [(.int v_top_a1), (.int (1 : Int32)), (.ref b2), (.ref b2)])) t := fun t k => st12 _ k
  have K14 : ∀ t, Steps p.tables e below (T12.setTop (mkF m 20 #[.val (.ref a1)] [(.ref a1), (.int (2 : Int32)), (.ref b2), (.ref b2)])) t → Steps p.tables e below (T12.setTop (mkF m 17 #[.val (.ref a1)] [(.ref b2)])) t := by
    intro t k
    refine XS.dup X12.here hx rfl (hb hby d6_17) rfl rfl ?_
    show Steps p.tables e below (T12.setTop (mkF m 18 #[.val (.ref a1)] [(.ref b2), (.ref b2)])) t
    refine XS.iconst X12.here hx rfl (hb hby d6_18) ?_
    show Steps p.tables e below (T12.setTop (mkF m 19 #[.val (.ref a1)] [(.int (2 : Int32)), (.ref b2), (.ref b2)])) t
    refine XS.aloadN X12.here hx rfl (hb hby d6_19) rfl rfl ?_
    show Steps p.tables e below (T12.setTop (mkF m 20 #[.val (.ref a1)] [(.ref a1), (.int (2 : Int32)), (.ref b2), (.ref b2)])) t
    exact k
  obtain ⟨cq15, kq15, q15a, q15b, q15c⟩ := isOf hZ e12 E12_2
  obtain ⟨_, _, ⟨T15, L15, k15, n15⟩, -, X15, ⟨Lc15, hQ15, l15, y15, z15⟩, st15⟩ := X12.virtualBack hx (y := (⟨"com/example/gutter/gutter/layout/Rect", "width", "()I"⟩ : MethodName)) (z := (⟨"com/example/gutter/gutter/layout/Rect", "width", "()I"⟩ : MethodName)) hown (mvT hZ (hw _ (List.mem_of_getElem? (i := 35) rfl))) (mvT hZ (hw _ (List.mem_of_getElem? (i := 36) rfl))) (notFace_of_selects (args := #[]) (mvT hZ (hw _ (List.mem_of_getElem? (i := 38) rfl)))) (mvT hZ (hw _ (List.mem_of_getElem? (i := 38) rfl))) (mvT hZ (hw _ (List.mem_of_getElem? (i := 37) rfl))) (by decide) (backOf (W := 3) (rm7 l Z a0 hw [] a1 v_right_a1 v_left_a1 h12 n0 (Nat.le_trans Z0 KP12.1) F12_3 F12_0) hZ (hw _ (List.mem_of_getElem? (i := 39) rfl)) (hw _ (List.mem_of_getElem? (i := 9) rfl)) (by decide) (by decide)) q15a q15c (g := (mkF m 20 #[.val (.ref a1)] [(.ref a1), (.int (2 : Int32)), (.ref b2), (.ref b2)])) rfl (by rw [hml]; rfl) (Steps.refl _) (argsL := []) (rest := [(.int (2 : Int32)), (.ref b2), (.ref b2)]) (lenOf pd_4 rfl) rfl (by show 2 * 0 + _ ≤ _; exact Nat.le_of_eq rfl) (hb hby d6_20) (fun _ _ => ⟨rfl, e12, (by decide : 1 + 0 ≤ _), (by decide : 4 + 0 ≤ _)⟩)
  dsimp only [Pt.U, Pt.locs, Pt.cells, Pt.slots] at X15 l15 y15 z15 st15 hQ15
  subst l15 y15 z15
  obtain ⟨rfl, N15q, e15⟩ := hQ15
  have N15 := Fr.app N12 N15q
  have K16 : ∀ t, Steps p.tables e below (T15.setTop (mkF m 23 #[.val (.ref a1)] [(.int (f7 v_right_a1 v_left_a1)), (.int (2 : Int32)), (.ref b2), (.ref b2)])) t → Steps p.tables e below (T12.setTop (mkF m 20 #[.val (.ref a1)] [(.ref a1), (.int (2 : Int32)), (.ref b2), (.ref b2)])) t := fun t k => st15.trans k
  have hin17 : ¬ (2 : Int32) < 0 ∧ (2 : Int32) < (4 : Int32) := by exact ⟨by decide, by decide⟩
  obtain ⟨cl17, Aq17, hj17, aq17⟩ := Ia.at Aw12 hin17
  obtain ⟨T17, h17, X17, e17, W17, st17⟩ := stI X15 hx hZ e15 Aq17 (j := (2 : Int32)) hj17 (g := (mkF m 23 #[.val (.ref a1)] [(.int (f7 v_right_a1 v_left_a1)), (.int (2 : Int32)), (.ref b2), (.ref b2)])) rfl rfl (hb hby d6_23)
  have KP17 : Keep h0 h17 [] := KP12.wr W17 (Or.inr sz_b2)
  have N17 := Fr.snoc X17 N15 gb_b2
  have F17_0 : Fld Z h17 a1 "com/example/gutter/gutter/layout/Rect" "left" "I" (.int v_left_a1) := F12_0.other W17 (Or.inl ne2_0)
  have F17_1 : Fld Z h17 a1 "com/example/gutter/gutter/layout/Rect" "top" "I" (.int v_top_a1) := F12_1.other W17 (Or.inl ne2_0)
  have E17_2 : Exa Z h17 a1 "com/example/gutter/gutter/layout/Rect" := E12_2.wr W17
  have F17_3 : Fld Z h17 a1 "com/example/gutter/gutter/layout/Rect" "right" "I" (.int v_right_a1) := F12_3.other W17 (Or.inl ne2_0)
  have F17_4 : Fld Z h17 a1 "com/example/gutter/gutter/layout/Rect" "bottom" "I" (.int v_bottom_a1) := F12_4.other W17 (Or.inl ne2_0)
  have Aw17 : Ia Z h17 b2 .int (4 : Int32) (f6_u3 v_left_a1 v_top_a1 v_right_a1) := Aw12.set W17 hin17.1
  have K18 : ∀ t, Steps p.tables e below (T17.setTop (mkF m 24 #[.val (.ref a1)] [(.ref b2)])) t → Steps p.tables e below (T15.setTop (mkF m 23 #[.val (.ref a1)] [(.int (f7 v_right_a1 v_left_a1)), (.int (2 : Int32)), (.ref b2), (.ref b2)])) t := fun t k => st17 _ k
  have K19 : ∀ t, Steps p.tables e below (T17.setTop (mkF m 27 #[.val (.ref a1)] [(.ref a1), (.int (3 : Int32)), (.ref b2), (.ref b2)])) t → Steps p.tables e below (T17.setTop (mkF m 24 #[.val (.ref a1)] [(.ref b2)])) t := by
    intro t k
    refine XS.dup X17.here hx rfl (hb hby d6_24) rfl rfl ?_
    show Steps p.tables e below (T17.setTop (mkF m 25 #[.val (.ref a1)] [(.ref b2), (.ref b2)])) t
    refine XS.iconst X17.here hx rfl (hb hby d6_25) ?_
    show Steps p.tables e below (T17.setTop (mkF m 26 #[.val (.ref a1)] [(.int (3 : Int32)), (.ref b2), (.ref b2)])) t
    refine XS.aloadN X17.here hx rfl (hb hby d6_26) rfl rfl ?_
    show Steps p.tables e below (T17.setTop (mkF m 27 #[.val (.ref a1)] [(.ref a1), (.int (3 : Int32)), (.ref b2), (.ref b2)])) t
    exact k
  obtain ⟨cq20, kq20, q20a, q20b, q20c⟩ := isOf hZ e17 E17_2
  obtain ⟨_, _, ⟨T20, L20, k20, n20⟩, -, X20, ⟨Lc20, hQ20, l20, y20, z20⟩, st20⟩ := X17.virtualBack hx (y := (⟨"com/example/gutter/gutter/layout/Rect", "height", "()I"⟩ : MethodName)) (z := (⟨"com/example/gutter/gutter/layout/Rect", "height", "()I"⟩ : MethodName)) hown (mvT hZ (hw _ (List.mem_of_getElem? (i := 40) rfl))) (mvT hZ (hw _ (List.mem_of_getElem? (i := 41) rfl))) (notFace_of_selects (args := #[]) (mvT hZ (hw _ (List.mem_of_getElem? (i := 43) rfl)))) (mvT hZ (hw _ (List.mem_of_getElem? (i := 43) rfl))) (mvT hZ (hw _ (List.mem_of_getElem? (i := 42) rfl))) (by decide) (backOf (W := 3) (rm8 l Z a0 hw [] a1 v_bottom_a1 v_top_a1 h17 n0 (Nat.le_trans Z0 KP17.1) F17_4 F17_1) hZ (hw _ (List.mem_of_getElem? (i := 44) rfl)) (hw _ (List.mem_of_getElem? (i := 9) rfl)) (by decide) (by decide)) q20a q20c (g := (mkF m 27 #[.val (.ref a1)] [(.ref a1), (.int (3 : Int32)), (.ref b2), (.ref b2)])) rfl (by rw [hml]; rfl) (Steps.refl _) (argsL := []) (rest := [(.int (3 : Int32)), (.ref b2), (.ref b2)]) (lenOf pd_4 rfl) rfl (by show 2 * 0 + _ ≤ _; exact Nat.le_of_eq rfl) (hb hby d6_27) (fun _ _ => ⟨rfl, e17, (by decide : 1 + 0 ≤ _), (by decide : 4 + 0 ≤ _)⟩)
  dsimp only [Pt.U, Pt.locs, Pt.cells, Pt.slots] at X20 l20 y20 z20 st20 hQ20
  subst l20 y20 z20
  obtain ⟨rfl, N20q, e20⟩ := hQ20
  have N20 := Fr.app N17 N20q
  have K21 : ∀ t, Steps p.tables e below (T20.setTop (mkF m 30 #[.val (.ref a1)] [(.int (f8 v_bottom_a1 v_top_a1)), (.int (3 : Int32)), (.ref b2), (.ref b2)])) t → Steps p.tables e below (T17.setTop (mkF m 27 #[.val (.ref a1)] [(.ref a1), (.int (3 : Int32)), (.ref b2), (.ref b2)])) t := fun t k => st20.trans k
  have hin22 : ¬ (3 : Int32) < 0 ∧ (3 : Int32) < (4 : Int32) := by exact ⟨by decide, by decide⟩
  obtain ⟨cl22, Aq22, hj22, aq22⟩ := Ia.at Aw17 hin22
  obtain ⟨T22, h22, X22, e22, W22, st22⟩ := stI X20 hx hZ e20 Aq22 (j := (3 : Int32)) hj22 (g := (mkF m 30 #[.val (.ref a1)] [(.int (f8 v_bottom_a1 v_top_a1)), (.int (3 : Int32)), (.ref b2), (.ref b2)])) rfl rfl (hb hby d6_30)
  have KP22 : Keep h0 h22 [] := KP17.wr W22 (Or.inr sz_b2)
  have N22 := Fr.snoc X22 N20 gb_b2
  have F22_0 : Fld Z h22 a1 "com/example/gutter/gutter/layout/Rect" "left" "I" (.int v_left_a1) := F17_0.other W22 (Or.inl ne2_0)
  have F22_1 : Fld Z h22 a1 "com/example/gutter/gutter/layout/Rect" "top" "I" (.int v_top_a1) := F17_1.other W22 (Or.inl ne2_0)
  have E22_2 : Exa Z h22 a1 "com/example/gutter/gutter/layout/Rect" := E17_2.wr W22
  have F22_3 : Fld Z h22 a1 "com/example/gutter/gutter/layout/Rect" "right" "I" (.int v_right_a1) := F17_3.other W22 (Or.inl ne2_0)
  have F22_4 : Fld Z h22 a1 "com/example/gutter/gutter/layout/Rect" "bottom" "I" (.int v_bottom_a1) := F17_4.other W22 (Or.inl ne2_0)
  have Aw22 : Ia Z h22 b2 .int (4 : Int32) (f6_u4 v_left_a1 v_top_a1 v_right_a1 v_bottom_a1) := Aw17.set W22 hin22.1
  have K23 : ∀ t, Steps p.tables e below (T22.setTop (mkF m 31 #[.val (.ref a1)] [(.ref b2)])) t → Steps p.tables e below (T20.setTop (mkF m 30 #[.val (.ref a1)] [(.int (f8 v_bottom_a1 v_top_a1)), (.int (3 : Int32)), (.ref b2), (.ref b2)])) t := fun t k => st22 _ k
  obtain ⟨fs, hr, hrun, hended, hW, hsame⟩ := X22.leave (v := some (.ref b2)) (fun h => by rw [Bd.returns] at h; cases h)
  have kr : Steps p.tables e below (T22.setTop (mkF m 31 #[.val (.ref a1)] [(.ref b2)])) (T22.setFrames fs) := by
    jvm_step X22.here [X22.here.top, hx, (hb hby d6_31), X22.method', Bd.returns, Value.isRef, FieldType.isReference]
    first | (intro acts; rw [hr _ acts rfl rfl rfl]) | rw [hr _ _ rfl rfl rfl]
    exact Steps.refl _
  refine ⟨_, _, pre0 _ (K1 _ (K3 _ (K4 _ (K6 _ (K8 _ (K9 _ (K11 _ (K13 _ (K14 _ (K16 _ (K18 _ (K19 _ (K21 _ (K23 _ (kr))))))))))))))), hrun, hended, _, _, rfl, ?_, ⟨_, rfl⟩, hW, hsame.mono (by decide) (by decide)⟩
  show Q6 Z a1 v_left_a1 v_top_a1 v_right_a1 v_bottom_a1 h0 n0 _ T22.heap _
  rw [e22]
  exact ⟨b2, rfl, N22, KP22, sz_b2, gb_b2, Aw22⟩
-- body 9: com/example/gutter/gutter/layout/RectToBoxPinLaw.sizeOk(III)Z
theorem d9_0 : decode method_3_code 0 = .ok (.iload_n 2, 1) := by decide +kernel
theorem d9_1 : decode method_3_code 1 = .ok (.i2l, 1) := by decide +kernel
theorem d9_2 : decode method_3_code 2 = .ok (.iload_n 1, 1) := by decide +kernel
theorem d9_3 : decode method_3_code 3 = .ok (.i2l, 1) := by decide +kernel
theorem d9_4 : decode method_3_code 4 = .ok (.lsub, 1) := by decide +kernel
theorem d9_5 : decode method_3_code 5 = .ok (.lstore_n 3, 1) := by decide +kernel
theorem d9_6 : decode method_3_code 6 = .ok (.lload_n 3, 1) := by decide +kernel
theorem d9_7 : decode method_3_code 7 = .ok (.ldc2_w 33, 3) := by decide +kernel
theorem d9_10 : decode method_3_code 10 = .ok (.lcmp, 1) := by decide +kernel
theorem d9_11 : decode method_3_code 11 = .ok (.ifCond .gt 16, 3) := by decide +kernel
theorem d9_14 : decode method_3_code 14 = .ok (.iload_n 0, 1) := by decide +kernel
theorem d9_15 : decode method_3_code 15 = .ok (.i2l, 1) := by decide +kernel
theorem d9_16 : decode method_3_code 16 = .ok (.lload_n 3, 1) := by decide +kernel
theorem d9_17 : decode method_3_code 17 = .ok (.lcmp, 1) := by decide +kernel
theorem d9_18 : decode method_3_code 18 = .ok (.ifCond .ne 7, 3) := by decide +kernel
theorem d9_21 : decode method_3_code 21 = .ok (.iconst 1, 1) := by decide +kernel
theorem d9_22 : decode method_3_code 22 = .ok (.goto 4, 3) := by decide +kernel
theorem d9_25 : decode method_3_code 25 = .ok (.iconst 0, 1) := by decide +kernel
theorem d9_26 : decode method_3_code 26 = .ok (.ireturn, 1) := by decide +kernel
theorem d9_27 : decode method_3_code 27 = .ok (.iload_n 0, 1) := by decide +kernel
theorem d9_28 : decode method_3_code 28 = .ok (.lload_n 3, 1) := by decide +kernel
theorem d9_29 : decode method_3_code 29 = .ok (.l2i, 1) := by decide +kernel
theorem d9_30 : decode method_3_code 30 = .ok (.if_icmp .ne 7, 3) := by decide +kernel
theorem d9_33 : decode method_3_code 33 = .ok (.iconst 1, 1) := by decide +kernel
theorem d9_34 : decode method_3_code 34 = .ok (.goto 4, 3) := by decide +kernel
theorem d9_37 : decode method_3_code 37 = .ok (.iconst 0, 1) := by decide +kernel
theorem d9_38 : decode method_3_code 38 = .ok (.ireturn, 1) := by decide +kernel
theorem pn_9 : plainName "com/example/gutter/gutter/layout/RectToBoxPinLaw" = true := by first | (simp [plainName, overriddenIn]; done) | decide +kernel
theorem ef_9 (m : MethodId) (p1 : Int32) (p2 : Int32) (p3 : Int32) : entryFrame m #[(.int p1), (.int p2), (.int p3)] 5 = mkF m 0 #[.val (.int p1), .val (.int p2), .val (.int p3), .unset, .unset] [] := by first | (simp [entryFrame, mkF, argsToLocals, Value.category]; done) | rfl
def f9 (p1 : Int32) (p2 : Int32) (p3 : Int32) : Int32 := (if (0 : Int32) < (own_cmp ((p3.toInt64) - (p2.toInt64)) (2147483647 : Int64)) then (if p1 = (((p3.toInt64) - (p2.toInt64)).toInt32) then (1 : Int32) else (0 : Int32)) else (if (own_cmp (p1.toInt64) ((p3.toInt64) - (p2.toInt64))) = (0 : Int32) then (1 : Int32) else (0 : Int32)))
def Q9 (Z : State) (p1 : Int32) (p2 : Int32) (p3 : Int32) (h0 : Heap) (n0 : Nat) (v : Option Value) (h : Heap) (L : List Loc) : Prop := v = some (.int (f9 p1 p2 p3)) ∧ Fr n0 L ∧ h = h0
set_option maxRecDepth 65536 in
set_option maxHeartbeats 40000000 in
theorem rm9 (l : Launch) (Z : State) (a0 : Array Value) (hw : ∀ d ∈ tables_1, d.before a0 Z = true) (ws : List Jvm.Cond) (p1 : Int32) (p2 : Int32) (p3 : Int32) (h0 : Heap) (n0 : Nat) (Z0 : n0 ≤ h0.size) :
    MetFree l (⟨"com/example/gutter/gutter/layout/RectToBoxPinLaw", "sizeOk", "(III)Z"⟩ : MethodName) (head1 (Jvm.Cond.code (⟨"com/example/gutter/gutter/layout/RectToBoxPinLaw", "sizeOk", "(III)Z"⟩ : MethodName) method_3_code 5 (some .boolean) :: ws) ({ frames := 0, cells := 0, slots := 0, locals := 0 } : Room)) (fun a U => a = #[(.int p1), (.int p2), (.int p3)] ∧ Z.Warmed39 U.vm ∧ U.heap = h0) (fun _ _ _ _ _ => True) (fun _ U o U' => ∃ v L, o = .returned v ∧ Q9 Z p1 p2 p3 h0 n0 v U'.heap L ∧ FrameEnd U o U' L ({ frames := 0, cells := 0, slots := 0, locals := 0 } : Room).cells ({ frames := 0, cells := 0, slots := 0, locals := 0 } : Room).slots) := by
  refine MetFree.of_bodySF (plainFor_of_name pn_9) hisR ?_
  intro p e s m args below meth c s₁ Bd hml0 hP hK
  obtain ⟨rfl, hZ, hh⟩ := hP
  have hx := Bd.exec
  have hby := Bd.bytes
  have hml : c.maxLocals = 5 := hml0
  have hown : s.vm.findClass "com/example/gutter/gutter/layout/RectToBoxPinLaw" = some m.cls := findClass_of_methodNamed Bd.named
  have hnm := (name_of_methodNamed Bd.named Bd.method).1
  have X0 : Stand p l e ({ frames := 0, cells := 0, slots := 0, locals := 0 } : Room) s m #[(.int p1), (.int p2), (.int p3)] below meth c s₁ [] 0 0 := Stand.of_body Bd
  have e0 : s₁.heap = h0 := by rw [← hh, Bd.state]; rfl
  have N0 := Fr.nil n0
  have pre0 : ∀ t, Steps p.tables e below (s₁.setTop (mkF m 0 #[.val (.int p1), .val (.int p2), .val (.int p3), .unset, .unset] [])) t → Steps p.tables e below (s₁.setTop (entryFrame m #[(.int p1), (.int p2), (.int p3)] 5)) t := fun t k => castTop (ef_9 m p1 p2 p3) k
  have K1 : ∀ t, Steps p.tables e below (s₁.setTop (mkF m 11 #[.val (.int p1), .val (.int p2), .val (.int p3), .val (.long ((p3.toInt64) - (p2.toInt64))), .second] [(.int (own_cmp ((p3.toInt64) - (p2.toInt64)) (2147483647 : Int64)))])) t → Steps p.tables e below (s₁.setTop (mkF m 0 #[.val (.int p1), .val (.int p2), .val (.int p3), .unset, .unset] [])) t := by
    intro t k
    refine XS.iloadN X0.here hx rfl (hb hby d9_0) rfl ?_
    show Steps p.tables e below (s₁.setTop (mkF m 1 #[.val (.int p1), .val (.int p2), .val (.int p3), .unset, .unset] [(.int p3)])) t
    refine XS.i2l X0.here hx rfl (hb hby d9_1) rfl ?_
    show Steps p.tables e below (s₁.setTop (mkF m 2 #[.val (.int p1), .val (.int p2), .val (.int p3), .unset, .unset] [(.long (p3.toInt64))])) t
    refine XS.iloadN X0.here hx rfl (hb hby d9_2) rfl ?_
    show Steps p.tables e below (s₁.setTop (mkF m 3 #[.val (.int p1), .val (.int p2), .val (.int p3), .unset, .unset] [(.int p2), (.long (p3.toInt64))])) t
    refine XS.i2l X0.here hx rfl (hb hby d9_3) rfl ?_
    show Steps p.tables e below (s₁.setTop (mkF m 4 #[.val (.int p1), .val (.int p2), .val (.int p3), .unset, .unset] [(.long (p2.toInt64)), (.long (p3.toInt64))])) t
    refine XS.lsub X0.here hx rfl (hb hby d9_4) rfl ?_
    show Steps p.tables e below (s₁.setTop (mkF m 5 #[.val (.int p1), .val (.int p2), .val (.int p3), .unset, .unset] [(.long ((p3.toInt64) - (p2.toInt64)))])) t
    refine XS.lstoreN X0.here hx rfl (hb hby d9_5) rfl (l' := #[.val (.int p1), .val (.int p2), .val (.int p3), .val (.long ((p3.toInt64) - (p2.toInt64))), .second]) rfl ?_
    show Steps p.tables e below (s₁.setTop (mkF m 6 #[.val (.int p1), .val (.int p2), .val (.int p3), .val (.long ((p3.toInt64) - (p2.toInt64))), .second] [])) t
    refine XS.lloadN X0.here hx rfl (hb hby d9_6) rfl ?_
    show Steps p.tables e below (s₁.setTop (mkF m 7 #[.val (.int p1), .val (.int p2), .val (.int p3), .val (.long ((p3.toInt64) - (p2.toInt64))), .second] [(.long ((p3.toInt64) - (p2.toInt64)))])) t
    refine X0.ldc2Long hx hown (mvT hZ (hw _ (List.mem_of_getElem? (i := 49) rfl))) (g := (mkF m 7 #[.val (.int p1), .val (.int p2), .val (.int p3), .val (.long ((p3.toInt64) - (p2.toInt64))), .second] [(.long ((p3.toInt64) - (p2.toInt64)))])) rfl (hb hby d9_7) _ ?_
    show Steps p.tables e below (s₁.setTop (mkF m 10 #[.val (.int p1), .val (.int p2), .val (.int p3), .val (.long ((p3.toInt64) - (p2.toInt64))), .second] [(.long (2147483647 : Int64)), (.long ((p3.toInt64) - (p2.toInt64)))])) t
    refine XS.lcmp X0.here hx rfl (hb hby d9_10) rfl ?_
    show Steps p.tables e below (s₁.setTop (mkF m 11 #[.val (.int p1), .val (.int p2), .val (.int p3), .val (.long ((p3.toInt64) - (p2.toInt64))), .second] [(.int (own_cmp ((p3.toInt64) - (p2.toInt64)) (2147483647 : Int64)))])) t
    exact k
  by_cases hc2 : (0 : Int32) < (own_cmp ((p3.toInt64) - (p2.toInt64)) (2147483647 : Int64))
  · have K3 : ∀ t, Steps p.tables e below (s₁.setTop (mkF m 27 #[.val (.int p1), .val (.int p2), .val (.int p3), .val (.long ((p3.toInt64) - (p2.toInt64))), .second] [])) t → Steps p.tables e below (s₁.setTop (mkF m 11 #[.val (.int p1), .val (.int p2), .val (.int p3), .val (.long ((p3.toInt64) - (p2.toInt64))), .second] [(.int (own_cmp ((p3.toInt64) - (p2.toInt64)) (2147483647 : Int64)))])) t := by
      intro t k
      refine XS.ifYes X0.here hx rfl (pc0 := 11) (pc' := 27) rfl (hb hby d9_11) rfl ((if0 _ _).trans (tlt hc2).2.2.1) (by decide) (by decide) ?_
      exact k
    have K4 : ∀ t, Steps p.tables e below (s₁.setTop (mkF m 30 #[.val (.int p1), .val (.int p2), .val (.int p3), .val (.long ((p3.toInt64) - (p2.toInt64))), .second] [(.int (((p3.toInt64) - (p2.toInt64)).toInt32)), (.int p1)])) t → Steps p.tables e below (s₁.setTop (mkF m 27 #[.val (.int p1), .val (.int p2), .val (.int p3), .val (.long ((p3.toInt64) - (p2.toInt64))), .second] [])) t := by
      intro t k
      refine XS.iloadN X0.here hx rfl (hb hby d9_27) rfl ?_
      show Steps p.tables e below (s₁.setTop (mkF m 28 #[.val (.int p1), .val (.int p2), .val (.int p3), .val (.long ((p3.toInt64) - (p2.toInt64))), .second] [(.int p1)])) t
      refine XS.lloadN X0.here hx rfl (hb hby d9_28) rfl ?_
      show Steps p.tables e below (s₁.setTop (mkF m 29 #[.val (.int p1), .val (.int p2), .val (.int p3), .val (.long ((p3.toInt64) - (p2.toInt64))), .second] [(.long ((p3.toInt64) - (p2.toInt64))), (.int p1)])) t
      refine XS.l2i X0.here hx rfl (hb hby d9_29) rfl ?_
      show Steps p.tables e below (s₁.setTop (mkF m 30 #[.val (.int p1), .val (.int p2), .val (.int p3), .val (.long ((p3.toInt64) - (p2.toInt64))), .second] [(.int (((p3.toInt64) - (p2.toInt64)).toInt32)), (.int p1)])) t
      exact k
    by_cases hc5 : p1 = (((p3.toInt64) - (p2.toInt64)).toInt32)
    · have K6 : ∀ t, Steps p.tables e below (s₁.setTop (mkF m 33 #[.val (.int p1), .val (.int p2), .val (.int p3), .val (.long ((p3.toInt64) - (p2.toInt64))), .second] [])) t → Steps p.tables e below (s₁.setTop (mkF m 30 #[.val (.int p1), .val (.int p2), .val (.int p3), .val (.long ((p3.toInt64) - (p2.toInt64))), .second] [(.int (((p3.toInt64) - (p2.toInt64)).toInt32)), (.int p1)])) t := by
        intro t k
        refine XS.icmpNo X0.here hx rfl (hb hby d9_30) rfl (teq hc5).2 ?_
        exact k
      have K7 : ∀ t, Steps p.tables e below (s₁.setTop (mkF m 38 #[.val (.int p1), .val (.int p2), .val (.int p3), .val (.long ((p3.toInt64) - (p2.toInt64))), .second] [(.int (1 : Int32))])) t → Steps p.tables e below (s₁.setTop (mkF m 33 #[.val (.int p1), .val (.int p2), .val (.int p3), .val (.long ((p3.toInt64) - (p2.toInt64))), .second] [])) t := by
        intro t k
        refine XS.iconst X0.here hx rfl (hb hby d9_33) ?_
        show Steps p.tables e below (s₁.setTop (mkF m 34 #[.val (.int p1), .val (.int p2), .val (.int p3), .val (.long ((p3.toInt64) - (p2.toInt64))), .second] [(.int (1 : Int32))])) t
        refine XS.goto X0.here hx rfl (pc0 := 34) (pc' := 38) rfl (hb hby d9_34) (by decide) (by decide) ?_
        show Steps p.tables e below (s₁.setTop (mkF m 38 #[.val (.int p1), .val (.int p2), .val (.int p3), .val (.long ((p3.toInt64) - (p2.toInt64))), .second] [(.int (1 : Int32))])) t
        exact k
      obtain ⟨fs, hr, hrun, hended, hW, hsame⟩ := X0.leave (v := some (.int (1 : Int32))) (fun h => by rw [Bd.returns] at h; cases h)
      refine ⟨_, _, pre0 _ (K1 _ (K3 _ (K4 _ (K6 _ (K7 _ (retN X0 hx (t := .boolean) Bd.returns (by simp) (hb hby d9_38) hr)))))), hrun, hended, _, _, rfl, ?_, ⟨_, rfl⟩, hW, hsame.mono (by decide) (by decide)⟩
      show Q9 Z p1 p2 p3 h0 n0 _ s₁.heap _
      rw [e0]
      exact ⟨congrArg (fun z => some (Value.int z)) (show (1 : Int32) = f9 p1 p2 p3 from Eq.symm ((if_pos hc2).trans (if_pos hc5))), N0, rfl⟩
    · have K8 : ∀ t, Steps p.tables e below (s₁.setTop (mkF m 37 #[.val (.int p1), .val (.int p2), .val (.int p3), .val (.long ((p3.toInt64) - (p2.toInt64))), .second] [])) t → Steps p.tables e below (s₁.setTop (mkF m 30 #[.val (.int p1), .val (.int p2), .val (.int p3), .val (.long ((p3.toInt64) - (p2.toInt64))), .second] [(.int (((p3.toInt64) - (p2.toInt64)).toInt32)), (.int p1)])) t := by
        intro t k
        refine XS.icmpYes X0.here hx rfl (pc0 := 30) (pc' := 37) rfl (hb hby d9_30) rfl (feq hc5).2 (by decide) (by decide) ?_
        exact k
      have K9 : ∀ t, Steps p.tables e below (s₁.setTop (mkF m 38 #[.val (.int p1), .val (.int p2), .val (.int p3), .val (.long ((p3.toInt64) - (p2.toInt64))), .second] [(.int (0 : Int32))])) t → Steps p.tables e below (s₁.setTop (mkF m 37 #[.val (.int p1), .val (.int p2), .val (.int p3), .val (.long ((p3.toInt64) - (p2.toInt64))), .second] [])) t := by
        intro t k
        refine XS.iconst X0.here hx rfl (hb hby d9_37) ?_
        show Steps p.tables e below (s₁.setTop (mkF m 38 #[.val (.int p1), .val (.int p2), .val (.int p3), .val (.long ((p3.toInt64) - (p2.toInt64))), .second] [(.int (0 : Int32))])) t
        exact k
      obtain ⟨fs, hr, hrun, hended, hW, hsame⟩ := X0.leave (v := some (.int (0 : Int32))) (fun h => by rw [Bd.returns] at h; cases h)
      refine ⟨_, _, pre0 _ (K1 _ (K3 _ (K4 _ (K8 _ (K9 _ (retN X0 hx (t := .boolean) Bd.returns (by simp) (hb hby d9_38) hr)))))), hrun, hended, _, _, rfl, ?_, ⟨_, rfl⟩, hW, hsame.mono (by decide) (by decide)⟩
      show Q9 Z p1 p2 p3 h0 n0 _ s₁.heap _
      rw [e0]
      exact ⟨congrArg (fun z => some (Value.int z)) (show (0 : Int32) = f9 p1 p2 p3 from Eq.symm ((if_pos hc2).trans (if_neg hc5))), N0, rfl⟩
  · have K10 : ∀ t, Steps p.tables e below (s₁.setTop (mkF m 14 #[.val (.int p1), .val (.int p2), .val (.int p3), .val (.long ((p3.toInt64) - (p2.toInt64))), .second] [])) t → Steps p.tables e below (s₁.setTop (mkF m 11 #[.val (.int p1), .val (.int p2), .val (.int p3), .val (.long ((p3.toInt64) - (p2.toInt64))), .second] [(.int (own_cmp ((p3.toInt64) - (p2.toInt64)) (2147483647 : Int64)))])) t := by
      intro t k
      refine XS.ifNo X0.here hx rfl (hb hby d9_11) rfl ((if0 _ _).trans (flt hc2).2.2.1) ?_
      exact k
    have K11 : ∀ t, Steps p.tables e below (s₁.setTop (mkF m 18 #[.val (.int p1), .val (.int p2), .val (.int p3), .val (.long ((p3.toInt64) - (p2.toInt64))), .second] [(.int (own_cmp (p1.toInt64) ((p3.toInt64) - (p2.toInt64))))])) t → Steps p.tables e below (s₁.setTop (mkF m 14 #[.val (.int p1), .val (.int p2), .val (.int p3), .val (.long ((p3.toInt64) - (p2.toInt64))), .second] [])) t := by
      intro t k
      refine XS.iloadN X0.here hx rfl (hb hby d9_14) rfl ?_
      show Steps p.tables e below (s₁.setTop (mkF m 15 #[.val (.int p1), .val (.int p2), .val (.int p3), .val (.long ((p3.toInt64) - (p2.toInt64))), .second] [(.int p1)])) t
      refine XS.i2l X0.here hx rfl (hb hby d9_15) rfl ?_
      show Steps p.tables e below (s₁.setTop (mkF m 16 #[.val (.int p1), .val (.int p2), .val (.int p3), .val (.long ((p3.toInt64) - (p2.toInt64))), .second] [(.long (p1.toInt64))])) t
      refine XS.lloadN X0.here hx rfl (hb hby d9_16) rfl ?_
      show Steps p.tables e below (s₁.setTop (mkF m 17 #[.val (.int p1), .val (.int p2), .val (.int p3), .val (.long ((p3.toInt64) - (p2.toInt64))), .second] [(.long ((p3.toInt64) - (p2.toInt64))), (.long (p1.toInt64))])) t
      refine XS.lcmp X0.here hx rfl (hb hby d9_17) rfl ?_
      show Steps p.tables e below (s₁.setTop (mkF m 18 #[.val (.int p1), .val (.int p2), .val (.int p3), .val (.long ((p3.toInt64) - (p2.toInt64))), .second] [(.int (own_cmp (p1.toInt64) ((p3.toInt64) - (p2.toInt64))))])) t
      exact k
    by_cases hc12 : (own_cmp (p1.toInt64) ((p3.toInt64) - (p2.toInt64))) = (0 : Int32)
    · have K13 : ∀ t, Steps p.tables e below (s₁.setTop (mkF m 21 #[.val (.int p1), .val (.int p2), .val (.int p3), .val (.long ((p3.toInt64) - (p2.toInt64))), .second] [])) t → Steps p.tables e below (s₁.setTop (mkF m 18 #[.val (.int p1), .val (.int p2), .val (.int p3), .val (.long ((p3.toInt64) - (p2.toInt64))), .second] [(.int (own_cmp (p1.toInt64) ((p3.toInt64) - (p2.toInt64))))])) t := by
        intro t k
        refine XS.ifNo X0.here hx rfl (hb hby d9_18) rfl ((if0 _ _).trans (teq hc12).2) ?_
        exact k
      have K14 : ∀ t, Steps p.tables e below (s₁.setTop (mkF m 26 #[.val (.int p1), .val (.int p2), .val (.int p3), .val (.long ((p3.toInt64) - (p2.toInt64))), .second] [(.int (1 : Int32))])) t → Steps p.tables e below (s₁.setTop (mkF m 21 #[.val (.int p1), .val (.int p2), .val (.int p3), .val (.long ((p3.toInt64) - (p2.toInt64))), .second] [])) t := by
        intro t k
        refine XS.iconst X0.here hx rfl (hb hby d9_21) ?_
        show Steps p.tables e below (s₁.setTop (mkF m 22 #[.val (.int p1), .val (.int p2), .val (.int p3), .val (.long ((p3.toInt64) - (p2.toInt64))), .second] [(.int (1 : Int32))])) t
        refine XS.goto X0.here hx rfl (pc0 := 22) (pc' := 26) rfl (hb hby d9_22) (by decide) (by decide) ?_
        show Steps p.tables e below (s₁.setTop (mkF m 26 #[.val (.int p1), .val (.int p2), .val (.int p3), .val (.long ((p3.toInt64) - (p2.toInt64))), .second] [(.int (1 : Int32))])) t
        exact k
      obtain ⟨fs, hr, hrun, hended, hW, hsame⟩ := X0.leave (v := some (.int (1 : Int32))) (fun h => by rw [Bd.returns] at h; cases h)
      refine ⟨_, _, pre0 _ (K1 _ (K10 _ (K11 _ (K13 _ (K14 _ (retN X0 hx (t := .boolean) Bd.returns (by simp) (hb hby d9_26) hr)))))), hrun, hended, _, _, rfl, ?_, ⟨_, rfl⟩, hW, hsame.mono (by decide) (by decide)⟩
      show Q9 Z p1 p2 p3 h0 n0 _ s₁.heap _
      rw [e0]
      exact ⟨congrArg (fun z => some (Value.int z)) (show (1 : Int32) = f9 p1 p2 p3 from Eq.symm ((if_neg hc2).trans (if_pos hc12))), N0, rfl⟩
    · have K15 : ∀ t, Steps p.tables e below (s₁.setTop (mkF m 25 #[.val (.int p1), .val (.int p2), .val (.int p3), .val (.long ((p3.toInt64) - (p2.toInt64))), .second] [])) t → Steps p.tables e below (s₁.setTop (mkF m 18 #[.val (.int p1), .val (.int p2), .val (.int p3), .val (.long ((p3.toInt64) - (p2.toInt64))), .second] [(.int (own_cmp (p1.toInt64) ((p3.toInt64) - (p2.toInt64))))])) t := by
        intro t k
        refine XS.ifYes X0.here hx rfl (pc0 := 18) (pc' := 25) rfl (hb hby d9_18) rfl ((if0 _ _).trans (feq hc12).2) (by decide) (by decide) ?_
        exact k
      have K16 : ∀ t, Steps p.tables e below (s₁.setTop (mkF m 26 #[.val (.int p1), .val (.int p2), .val (.int p3), .val (.long ((p3.toInt64) - (p2.toInt64))), .second] [(.int (0 : Int32))])) t → Steps p.tables e below (s₁.setTop (mkF m 25 #[.val (.int p1), .val (.int p2), .val (.int p3), .val (.long ((p3.toInt64) - (p2.toInt64))), .second] [])) t := by
        intro t k
        refine XS.iconst X0.here hx rfl (hb hby d9_25) ?_
        show Steps p.tables e below (s₁.setTop (mkF m 26 #[.val (.int p1), .val (.int p2), .val (.int p3), .val (.long ((p3.toInt64) - (p2.toInt64))), .second] [(.int (0 : Int32))])) t
        exact k
      obtain ⟨fs, hr, hrun, hended, hW, hsame⟩ := X0.leave (v := some (.int (0 : Int32))) (fun h => by rw [Bd.returns] at h; cases h)
      refine ⟨_, _, pre0 _ (K1 _ (K10 _ (K11 _ (K15 _ (K16 _ (retN X0 hx (t := .boolean) Bd.returns (by simp) (hb hby d9_26) hr)))))), hrun, hended, _, _, rfl, ?_, ⟨_, rfl⟩, hW, hsame.mono (by decide) (by decide)⟩
      show Q9 Z p1 p2 p3 h0 n0 _ s₁.heap _
      rw [e0]
      exact ⟨congrArg (fun z => some (Value.int z)) (show (0 : Int32) = f9 p1 p2 p3 from Eq.symm ((if_neg hc2).trans (if_neg hc12))), N0, rfl⟩
-- body 0: com/example/gutter/gutter/layout/RectToBoxPinLaw.law(IIII)Z
theorem pn_0 : plainName "com/example/gutter/gutter/layout/RectToBoxPinLaw" = true := by first | (simp [plainName, overriddenIn]; done) | decide +kernel
theorem pd_3 : parseMethodDescriptor "()[I" = some ⟨[], some (.array .int)⟩ := by decide +kernel
theorem pd_0 : parseMethodDescriptor "(II)I" = some ⟨[.int, .int], some .int⟩ := by decide +kernel
theorem pd_5 : parseMethodDescriptor "(III)Z" = some ⟨[.int, .int, .int], some .boolean⟩ := by decide +kernel
theorem pd_1 : parseMethodDescriptor "(IIII)V" = some ⟨[.int, .int, .int, .int], none⟩ := by decide +kernel
theorem ef_0 (m : MethodId) (p1 : Int32) (p2 : Int32) (p3 : Int32) (p4 : Int32) : entryFrame m #[(.int p1), (.int p2), (.int p3), (.int p4)] maxLocals = mkF m 0 #[.val (.int p1), .val (.int p2), .val (.int p3), .val (.int p4), .unset, .unset, .unset, .unset, .unset, .unset] [] := by first | (simp [entryFrame, mkF, argsToLocals, Value.category, maxLocals]; done) | rfl
def f0 (p1 : Int32) (p2 : Int32) (p3 : Int32) (p4 : Int32) : Int32 := (if (4 : Int32) = (4 : Int32) then (if ((f6_u4 (f1 p1 p2) (f1 p3 p4) (f2 p1 p2) (f2 p3 p4)) (0 : Int32)) = (f1 p1 p2) then (if ((f6_u4 (f1 p1 p2) (f1 p3 p4) (f2 p1 p2) (f2 p3 p4)) (1 : Int32)) = (f1 p3 p4) then (if (f9 ((f6_u4 (f1 p1 p2) (f1 p3 p4) (f2 p1 p2) (f2 p3 p4)) (2 : Int32)) (f1 p1 p2) (f2 p1 p2)) = (0 : Int32) then (0 : Int32) else (if (f9 ((f6_u4 (f1 p1 p2) (f1 p3 p4) (f2 p1 p2) (f2 p3 p4)) (3 : Int32)) (f1 p3 p4) (f2 p3 p4)) = (0 : Int32) then (0 : Int32) else (1 : Int32))) else (0 : Int32)) else (0 : Int32)) else (0 : Int32))
def Q0 (Z : State) (p1 : Int32) (p2 : Int32) (p3 : Int32) (p4 : Int32) (h0 : Heap) (n0 : Nat) (v : Option Value) (h : Heap) (L : List Loc) : Prop := v = some (.int (f0 p1 p2 p3 p4)) ∧ Fr n0 L ∧ Keep h0 h []
set_option maxRecDepth 65536 in
set_option maxHeartbeats 40000000 in
theorem rm0 (l : Launch) (Z : State) (a0 : Array Value) (hw : ∀ d ∈ tables_1, d.before a0 Z = true) (ws : List Jvm.Cond) (p1 : Int32) (p2 : Int32) (p3 : Int32) (p4 : Int32) (h0 : Heap) (n0 : Nat) (Z0 : n0 ≤ h0.size) :
    MetFree l x (head1 (Jvm.Cond.code x code maxLocals ret :: ws) room_1) (fun a U => a = #[(.int p1), (.int p2), (.int p3), (.int p4)] ∧ Z.Warmed39 U.vm ∧ U.heap = h0) (fun _ _ _ _ _ => True) (fun _ U o U' => ∃ v L, o = .returned v ∧ Q0 Z p1 p2 p3 p4 h0 n0 v U'.heap L ∧ FrameEnd U o U' L room_1.cells room_1.slots) := by
  refine MetFree.of_bodySF (plainFor_of_name pn_0) hisR ?_
  intro p e s m args below meth c s₁ Bd hml0 hP hK
  obtain ⟨rfl, hZ, hh⟩ := hP
  have hx := Bd.exec
  have hby := Bd.bytes
  have hml : c.maxLocals = 10 := hml0
  have hown : s.vm.findClass "com/example/gutter/gutter/layout/RectToBoxPinLaw" = some m.cls := findClass_of_methodNamed Bd.named
  have hnm := (name_of_methodNamed Bd.named Bd.method).1
  have X0 : Stand p l e room_1 s m #[(.int p1), (.int p2), (.int p3), (.int p4)] below meth c s₁ [] 0 0 := Stand.of_body Bd
  have e0 : s₁.heap = h0 := by rw [← hh, Bd.state]; rfl
  have N0 := Fr.nil n0
  have pre0 : ∀ t, Steps p.tables e below (s₁.setTop (mkF m 0 #[.val (.int p1), .val (.int p2), .val (.int p3), .val (.int p4), .unset, .unset, .unset, .unset, .unset, .unset] [])) t → Steps p.tables e below (s₁.setTop (entryFrame m #[(.int p1), (.int p2), (.int p3), (.int p4)] maxLocals)) t := fun t k => castTop (ef_0 m p1 p2 p3 p4) k
  have K1 : ∀ t, Steps p.tables e below (s₁.setTop (mkF m 2 #[.val (.int p1), .val (.int p2), .val (.int p3), .val (.int p4), .unset, .unset, .unset, .unset, .unset, .unset] [(.int p2), (.int p1)])) t → Steps p.tables e below (s₁.setTop (mkF m 0 #[.val (.int p1), .val (.int p2), .val (.int p3), .val (.int p4), .unset, .unset, .unset, .unset, .unset, .unset] [])) t := by
    intro t k
    refine XS.iloadN X0.here hx rfl (hb hby at_0) rfl ?_
    show Steps p.tables e below (s₁.setTop (mkF m 1 #[.val (.int p1), .val (.int p2), .val (.int p3), .val (.int p4), .unset, .unset, .unset, .unset, .unset, .unset] [(.int p1)])) t
    refine XS.iloadN X0.here hx rfl (hb hby at_1) rfl ?_
    show Steps p.tables e below (s₁.setTop (mkF m 2 #[.val (.int p1), .val (.int p2), .val (.int p3), .val (.int p4), .unset, .unset, .unset, .unset, .unset, .unset] [(.int p2), (.int p1)])) t
    exact k
  obtain ⟨_, _, ⟨T2, L2, k2, n2⟩, -, X2, ⟨Lc2, hQ2, l2, y2, z2⟩, st2⟩ := Jvm.LawKit.callS X0 hx (y := (⟨"java/lang/Math", "min", "(II)I"⟩ : MethodName)) hown (mvT hZ (hw _ (List.mem_of_getElem? (i := 0) rfl))) (mvT hZ (hw _ (List.mem_of_getElem? (i := 1) rfl))) (mvT hZ (hw _ (List.mem_of_getElem? (i := 2) rfl))) (mvT hZ (hw _ (List.mem_of_getElem? (i := 3) rfl))) (by decide) (backOf (W := 0) (rm1 l Z a0 hw [] p1 p2 h0 n0 Z0 ) hZ (hw _ (List.mem_of_getElem? (i := 3) rfl)) (hw _ (List.mem_of_getElem? (i := 2) rfl)) (by decide) (by decide)) (g := (mkF m 2 #[.val (.int p1), .val (.int p2), .val (.int p3), .val (.int p4), .unset, .unset, .unset, .unset, .unset, .unset] [(.int p2), (.int p1)])) rfl (by rw [hml]; rfl) (argsL := [(.int p1), (.int p2)]) (rest := []) (lenOf pd_0 rfl) rfl (by show 2 * 0 + _ ≤ _; exact Nat.le_of_eq rfl) (hb hby at_2) (fun _ _ => ⟨rfl, e0, (by decide : 0 + 0 ≤ _), (by decide : 0 + 0 ≤ _)⟩)
  dsimp only [Pt.U, Pt.locs, Pt.cells, Pt.slots] at X2 l2 y2 z2 st2 hQ2
  subst l2 y2 z2
  obtain ⟨rfl, N2q, e2⟩ := hQ2
  have N2 := Fr.app N0 N2q
  have K3 : ∀ t, Steps p.tables e below (T2.setTop (mkF m 5 #[.val (.int p1), .val (.int p2), .val (.int p3), .val (.int p4), .unset, .unset, .unset, .unset, .unset, .unset] [(.int (f1 p1 p2))])) t → Steps p.tables e below (s₁.setTop (mkF m 2 #[.val (.int p1), .val (.int p2), .val (.int p3), .val (.int p4), .unset, .unset, .unset, .unset, .unset, .unset] [(.int p2), (.int p1)])) t := fun t k => st2 _ k
  have K4 : ∀ t, Steps p.tables e below (T2.setTop (mkF m 9 #[.val (.int p1), .val (.int p2), .val (.int p3), .val (.int p4), .val (.int (f1 p1 p2)), .unset, .unset, .unset, .unset, .unset] [(.int p2), (.int p1)])) t → Steps p.tables e below (T2.setTop (mkF m 5 #[.val (.int p1), .val (.int p2), .val (.int p3), .val (.int p4), .unset, .unset, .unset, .unset, .unset, .unset] [(.int (f1 p1 p2))])) t := by
    intro t k
    refine XS.istore X2.here hx rfl (hb hby at_5) rfl (l' := #[.val (.int p1), .val (.int p2), .val (.int p3), .val (.int p4), .val (.int (f1 p1 p2)), .unset, .unset, .unset, .unset, .unset]) rfl ?_
    show Steps p.tables e below (T2.setTop (mkF m 7 #[.val (.int p1), .val (.int p2), .val (.int p3), .val (.int p4), .val (.int (f1 p1 p2)), .unset, .unset, .unset, .unset, .unset] [])) t
    refine XS.iloadN X2.here hx rfl (hb hby at_7) rfl ?_
    show Steps p.tables e below (T2.setTop (mkF m 8 #[.val (.int p1), .val (.int p2), .val (.int p3), .val (.int p4), .val (.int (f1 p1 p2)), .unset, .unset, .unset, .unset, .unset] [(.int p1)])) t
    refine XS.iloadN X2.here hx rfl (hb hby at_8) rfl ?_
    show Steps p.tables e below (T2.setTop (mkF m 9 #[.val (.int p1), .val (.int p2), .val (.int p3), .val (.int p4), .val (.int (f1 p1 p2)), .unset, .unset, .unset, .unset, .unset] [(.int p2), (.int p1)])) t
    exact k
  obtain ⟨_, _, ⟨T5, L5, k5, n5⟩, -, X5, ⟨Lc5, hQ5, l5, y5, z5⟩, st5⟩ := Jvm.LawKit.callS X2 hx (y := (⟨"java/lang/Math", "max", "(II)I"⟩ : MethodName)) hown (mvT hZ (hw _ (List.mem_of_getElem? (i := 4) rfl))) (mvT hZ (hw _ (List.mem_of_getElem? (i := 5) rfl))) (mvT hZ (hw _ (List.mem_of_getElem? (i := 2) rfl))) (mvT hZ (hw _ (List.mem_of_getElem? (i := 6) rfl))) (by decide) (backOf (W := 0) (rm2 l Z a0 hw [] p1 p2 h0 n0 Z0 ) hZ (hw _ (List.mem_of_getElem? (i := 6) rfl)) (hw _ (List.mem_of_getElem? (i := 2) rfl)) (by decide) (by decide)) (g := (mkF m 9 #[.val (.int p1), .val (.int p2), .val (.int p3), .val (.int p4), .val (.int (f1 p1 p2)), .unset, .unset, .unset, .unset, .unset] [(.int p2), (.int p1)])) rfl (by rw [hml]; rfl) (argsL := [(.int p1), (.int p2)]) (rest := []) (lenOf pd_0 rfl) rfl (by show 2 * 0 + _ ≤ _; exact Nat.le_of_eq rfl) (hb hby at_9) (fun _ _ => ⟨rfl, e2, (by decide : 0 + 0 ≤ _), (by decide : 0 + 0 ≤ _)⟩)
  dsimp only [Pt.U, Pt.locs, Pt.cells, Pt.slots] at X5 l5 y5 z5 st5 hQ5
  subst l5 y5 z5
  obtain ⟨rfl, N5q, e5⟩ := hQ5
  have N5 := Fr.app N2 N5q
  have K6 : ∀ t, Steps p.tables e below (T5.setTop (mkF m 12 #[.val (.int p1), .val (.int p2), .val (.int p3), .val (.int p4), .val (.int (f1 p1 p2)), .unset, .unset, .unset, .unset, .unset] [(.int (f2 p1 p2))])) t → Steps p.tables e below (T2.setTop (mkF m 9 #[.val (.int p1), .val (.int p2), .val (.int p3), .val (.int p4), .val (.int (f1 p1 p2)), .unset, .unset, .unset, .unset, .unset] [(.int p2), (.int p1)])) t := fun t k => st5 _ k
  have K7 : ∀ t, Steps p.tables e below (T5.setTop (mkF m 16 #[.val (.int p1), .val (.int p2), .val (.int p3), .val (.int p4), .val (.int (f1 p1 p2)), .val (.int (f2 p1 p2)), .unset, .unset, .unset, .unset] [(.int p4), (.int p3)])) t → Steps p.tables e below (T5.setTop (mkF m 12 #[.val (.int p1), .val (.int p2), .val (.int p3), .val (.int p4), .val (.int (f1 p1 p2)), .unset, .unset, .unset, .unset, .unset] [(.int (f2 p1 p2))])) t := by
    intro t k
    refine XS.istore X5.here hx rfl (hb hby at_12) rfl (l' := #[.val (.int p1), .val (.int p2), .val (.int p3), .val (.int p4), .val (.int (f1 p1 p2)), .val (.int (f2 p1 p2)), .unset, .unset, .unset, .unset]) rfl ?_
    show Steps p.tables e below (T5.setTop (mkF m 14 #[.val (.int p1), .val (.int p2), .val (.int p3), .val (.int p4), .val (.int (f1 p1 p2)), .val (.int (f2 p1 p2)), .unset, .unset, .unset, .unset] [])) t
    refine XS.iloadN X5.here hx rfl (hb hby at_14) rfl ?_
    show Steps p.tables e below (T5.setTop (mkF m 15 #[.val (.int p1), .val (.int p2), .val (.int p3), .val (.int p4), .val (.int (f1 p1 p2)), .val (.int (f2 p1 p2)), .unset, .unset, .unset, .unset] [(.int p3)])) t
    refine XS.iloadN X5.here hx rfl (hb hby at_15) rfl ?_
    show Steps p.tables e below (T5.setTop (mkF m 16 #[.val (.int p1), .val (.int p2), .val (.int p3), .val (.int p4), .val (.int (f1 p1 p2)), .val (.int (f2 p1 p2)), .unset, .unset, .unset, .unset] [(.int p4), (.int p3)])) t
    exact k
  obtain ⟨_, _, ⟨T8, L8, k8, n8⟩, -, X8, ⟨Lc8, hQ8, l8, y8, z8⟩, st8⟩ := Jvm.LawKit.callS X5 hx (y := (⟨"java/lang/Math", "min", "(II)I"⟩ : MethodName)) hown (mvT hZ (hw _ (List.mem_of_getElem? (i := 0) rfl))) (mvT hZ (hw _ (List.mem_of_getElem? (i := 1) rfl))) (mvT hZ (hw _ (List.mem_of_getElem? (i := 2) rfl))) (mvT hZ (hw _ (List.mem_of_getElem? (i := 3) rfl))) (by decide) (backOf (W := 0) (rm1 l Z a0 hw [] p3 p4 h0 n0 Z0 ) hZ (hw _ (List.mem_of_getElem? (i := 3) rfl)) (hw _ (List.mem_of_getElem? (i := 2) rfl)) (by decide) (by decide)) (g := (mkF m 16 #[.val (.int p1), .val (.int p2), .val (.int p3), .val (.int p4), .val (.int (f1 p1 p2)), .val (.int (f2 p1 p2)), .unset, .unset, .unset, .unset] [(.int p4), (.int p3)])) rfl (by rw [hml]; rfl) (argsL := [(.int p3), (.int p4)]) (rest := []) (lenOf pd_0 rfl) rfl (by show 2 * 0 + _ ≤ _; exact Nat.le_of_eq rfl) (hb hby at_16) (fun _ _ => ⟨rfl, e5, (by decide : 0 + 0 ≤ _), (by decide : 0 + 0 ≤ _)⟩)
  dsimp only [Pt.U, Pt.locs, Pt.cells, Pt.slots] at X8 l8 y8 z8 st8 hQ8
  subst l8 y8 z8
  obtain ⟨rfl, N8q, e8⟩ := hQ8
  have N8 := Fr.app N5 N8q
  have K9 : ∀ t, Steps p.tables e below (T8.setTop (mkF m 19 #[.val (.int p1), .val (.int p2), .val (.int p3), .val (.int p4), .val (.int (f1 p1 p2)), .val (.int (f2 p1 p2)), .unset, .unset, .unset, .unset] [(.int (f1 p3 p4))])) t → Steps p.tables e below (T5.setTop (mkF m 16 #[.val (.int p1), .val (.int p2), .val (.int p3), .val (.int p4), .val (.int (f1 p1 p2)), .val (.int (f2 p1 p2)), .unset, .unset, .unset, .unset] [(.int p4), (.int p3)])) t := fun t k => st8 _ k
  have K10 : ∀ t, Steps p.tables e below (T8.setTop (mkF m 23 #[.val (.int p1), .val (.int p2), .val (.int p3), .val (.int p4), .val (.int (f1 p1 p2)), .val (.int (f2 p1 p2)), .val (.int (f1 p3 p4)), .unset, .unset, .unset] [(.int p4), (.int p3)])) t → Steps p.tables e below (T8.setTop (mkF m 19 #[.val (.int p1), .val (.int p2), .val (.int p3), .val (.int p4), .val (.int (f1 p1 p2)), .val (.int (f2 p1 p2)), .unset, .unset, .unset, .unset] [(.int (f1 p3 p4))])) t := by
    intro t k
    refine XS.istore X8.here hx rfl (hb hby at_19) rfl (l' := #[.val (.int p1), .val (.int p2), .val (.int p3), .val (.int p4), .val (.int (f1 p1 p2)), .val (.int (f2 p1 p2)), .val (.int (f1 p3 p4)), .unset, .unset, .unset]) rfl ?_
    show Steps p.tables e below (T8.setTop (mkF m 21 #[.val (.int p1), .val (.int p2), .val (.int p3), .val (.int p4), .val (.int (f1 p1 p2)), .val (.int (f2 p1 p2)), .val (.int (f1 p3 p4)), .unset, .unset, .unset] [])) t
    refine XS.iloadN X8.here hx rfl (hb hby at_21) rfl ?_
    show Steps p.tables e below (T8.setTop (mkF m 22 #[.val (.int p1), .val (.int p2), .val (.int p3), .val (.int p4), .val (.int (f1 p1 p2)), .val (.int (f2 p1 p2)), .val (.int (f1 p3 p4)), .unset, .unset, .unset] [(.int p3)])) t
    refine XS.iloadN X8.here hx rfl (hb hby at_22) rfl ?_
    show Steps p.tables e below (T8.setTop (mkF m 23 #[.val (.int p1), .val (.int p2), .val (.int p3), .val (.int p4), .val (.int (f1 p1 p2)), .val (.int (f2 p1 p2)), .val (.int (f1 p3 p4)), .unset, .unset, .unset] [(.int p4), (.int p3)])) t
    exact k
  obtain ⟨_, _, ⟨T11, L11, k11, n11⟩, -, X11, ⟨Lc11, hQ11, l11, y11, z11⟩, st11⟩ := Jvm.LawKit.callS X8 hx (y := (⟨"java/lang/Math", "max", "(II)I"⟩ : MethodName)) hown (mvT hZ (hw _ (List.mem_of_getElem? (i := 4) rfl))) (mvT hZ (hw _ (List.mem_of_getElem? (i := 5) rfl))) (mvT hZ (hw _ (List.mem_of_getElem? (i := 2) rfl))) (mvT hZ (hw _ (List.mem_of_getElem? (i := 6) rfl))) (by decide) (backOf (W := 0) (rm2 l Z a0 hw [] p3 p4 h0 n0 Z0 ) hZ (hw _ (List.mem_of_getElem? (i := 6) rfl)) (hw _ (List.mem_of_getElem? (i := 2) rfl)) (by decide) (by decide)) (g := (mkF m 23 #[.val (.int p1), .val (.int p2), .val (.int p3), .val (.int p4), .val (.int (f1 p1 p2)), .val (.int (f2 p1 p2)), .val (.int (f1 p3 p4)), .unset, .unset, .unset] [(.int p4), (.int p3)])) rfl (by rw [hml]; rfl) (argsL := [(.int p3), (.int p4)]) (rest := []) (lenOf pd_0 rfl) rfl (by show 2 * 0 + _ ≤ _; exact Nat.le_of_eq rfl) (hb hby at_23) (fun _ _ => ⟨rfl, e8, (by decide : 0 + 0 ≤ _), (by decide : 0 + 0 ≤ _)⟩)
  dsimp only [Pt.U, Pt.locs, Pt.cells, Pt.slots] at X11 l11 y11 z11 st11 hQ11
  subst l11 y11 z11
  obtain ⟨rfl, N11q, e11⟩ := hQ11
  have N11 := Fr.app N8 N11q
  have K12 : ∀ t, Steps p.tables e below (T11.setTop (mkF m 26 #[.val (.int p1), .val (.int p2), .val (.int p3), .val (.int p4), .val (.int (f1 p1 p2)), .val (.int (f2 p1 p2)), .val (.int (f1 p3 p4)), .unset, .unset, .unset] [(.int (f2 p3 p4))])) t → Steps p.tables e below (T8.setTop (mkF m 23 #[.val (.int p1), .val (.int p2), .val (.int p3), .val (.int p4), .val (.int (f1 p1 p2)), .val (.int (f2 p1 p2)), .val (.int (f1 p3 p4)), .unset, .unset, .unset] [(.int p4), (.int p3)])) t := fun t k => st11 _ k
  have K13 : ∀ t, Steps p.tables e below (T11.setTop (mkF m 28 #[.val (.int p1), .val (.int p2), .val (.int p3), .val (.int p4), .val (.int (f1 p1 p2)), .val (.int (f2 p1 p2)), .val (.int (f1 p3 p4)), .val (.int (f2 p3 p4)), .unset, .unset] [])) t → Steps p.tables e below (T11.setTop (mkF m 26 #[.val (.int p1), .val (.int p2), .val (.int p3), .val (.int p4), .val (.int (f1 p1 p2)), .val (.int (f2 p1 p2)), .val (.int (f1 p3 p4)), .unset, .unset, .unset] [(.int (f2 p3 p4))])) t := by
    intro t k
    refine XS.istore X11.here hx rfl (hb hby at_26) rfl (l' := #[.val (.int p1), .val (.int p2), .val (.int p3), .val (.int p4), .val (.int (f1 p1 p2)), .val (.int (f2 p1 p2)), .val (.int (f1 p3 p4)), .val (.int (f2 p3 p4)), .unset, .unset]) rfl ?_
    show Steps p.tables e below (T11.setTop (mkF m 28 #[.val (.int p1), .val (.int p2), .val (.int p3), .val (.int p4), .val (.int (f1 p1 p2)), .val (.int (f2 p1 p2)), .val (.int (f1 p3 p4)), .val (.int (f2 p3 p4)), .unset, .unset] [])) t
    exact k
  obtain ⟨T14, h14, X14, e14, E14, A14, D14, -, st14⟩ := newO X11 hx hZ hown (hw _ (List.mem_of_getElem? (i := 7) rfl)) (hw _ (List.mem_of_getElem? (i := 8) rfl)) (hw _ (List.mem_of_getElem? (i := 9) rfl)) e11 (g := (mkF m 28 #[.val (.int p1), .val (.int p2), .val (.int p3), .val (.int p4), .val (.int (f1 p1 p2)), .val (.int (f2 p1 p2)), .val (.int (f1 p3 p4)), .val (.int (f2 p3 p4)), .unset, .unset] [])) rfl (hb hby at_28) (by decide) (by decide)
  obtain ⟨b14, g14⟩ : ∃ z, z = h0.size := ⟨_, rfl⟩
  rw [← g14] at A14 D14 st14
  have KP14 : Keep h0 h14 [] := (Keep.refl h0 []).ext E14
  have gb_b14 : n0 ≤ b14 := Nat.le_trans Z0 (Nat.le_of_eq g14.symm)
  have sz_b14 : h0.size ≤ b14 := Nat.le_trans (Keep.refl h0 []).1 (Nat.le_of_eq g14.symm)
  have F14_left : Fld Z h14 b14 "com/example/gutter/gutter/layout/Rect" "left" "I" (.int (0 : Int32)) := D14 (Or.inr (hw _ (List.mem_of_getElem? (i := 22) rfl))) (ty := .int) (by decide)
  have F14_top : Fld Z h14 b14 "com/example/gutter/gutter/layout/Rect" "top" "I" (.int (0 : Int32)) := D14 (Or.inr (hw _ (List.mem_of_getElem? (i := 24) rfl))) (ty := .int) (by decide)
  have F14_right : Fld Z h14 b14 "com/example/gutter/gutter/layout/Rect" "right" "I" (.int (0 : Int32)) := D14 (Or.inr (hw _ (List.mem_of_getElem? (i := 26) rfl))) (ty := .int) (by decide)
  have F14_bottom : Fld Z h14 b14 "com/example/gutter/gutter/layout/Rect" "bottom" "I" (.int (0 : Int32)) := D14 (Or.inr (hw _ (List.mem_of_getElem? (i := 28) rfl))) (ty := .int) (by decide)
  have K15 : ∀ t, Steps p.tables e below (T14.setTop (mkF m 31 #[.val (.int p1), .val (.int p2), .val (.int p3), .val (.int p4), .val (.int (f1 p1 p2)), .val (.int (f2 p1 p2)), .val (.int (f1 p3 p4)), .val (.int (f2 p3 p4)), .unset, .unset] [(.ref b14)])) t → Steps p.tables e below (T11.setTop (mkF m 28 #[.val (.int p1), .val (.int p2), .val (.int p3), .val (.int p4), .val (.int (f1 p1 p2)), .val (.int (f2 p1 p2)), .val (.int (f1 p3 p4)), .val (.int (f2 p3 p4)), .unset, .unset] [])) t := fun t k => st14 _ k
  have K16 : ∀ t, Steps p.tables e below (T14.setTop (mkF m 40 #[.val (.int p1), .val (.int p2), .val (.int p3), .val (.int p4), .val (.int (f1 p1 p2)), .val (.int (f2 p1 p2)), .val (.int (f1 p3 p4)), .val (.int (f2 p3 p4)), .unset, .unset] [(.int (f2 p3 p4)), (.int (f2 p1 p2)), (.int (f1 p3 p4)), (.int (f1 p1 p2)), (.ref b14), (.ref b14)])) t → Steps p.tables e below (T14.setTop (mkF m 31 #[.val (.int p1), .val (.int p2), .val (.int p3), .val (.int p4), .val (.int (f1 p1 p2)), .val (.int (f2 p1 p2)), .val (.int (f1 p3 p4)), .val (.int (f2 p3 p4)), .unset, .unset] [(.ref b14)])) t := by
    intro t k
    refine XS.dup X14.here hx rfl (hb hby at_31) rfl rfl ?_
    show Steps p.tables e below (T14.setTop (mkF m 32 #[.val (.int p1), .val (.int p2), .val (.int p3), .val (.int p4), .val (.int (f1 p1 p2)), .val (.int (f2 p1 p2)), .val (.int (f1 p3 p4)), .val (.int (f2 p3 p4)), .unset, .unset] [(.ref b14), (.ref b14)])) t
    refine XS.iload X14.here hx rfl (hb hby at_32) rfl ?_
    show Steps p.tables e below (T14.setTop (mkF m 34 #[.val (.int p1), .val (.int p2), .val (.int p3), .val (.int p4), .val (.int (f1 p1 p2)), .val (.int (f2 p1 p2)), .val (.int (f1 p3 p4)), .val (.int (f2 p3 p4)), .unset, .unset] [(.int (f1 p1 p2)), (.ref b14), (.ref b14)])) t
    refine XS.iload X14.here hx rfl (hb hby at_34) rfl ?_
    show Steps p.tables e below (T14.setTop (mkF m 36 #[.val (.int p1), .val (.int p2), .val (.int p3), .val (.int p4), .val (.int (f1 p1 p2)), .val (.int (f2 p1 p2)), .val (.int (f1 p3 p4)), .val (.int (f2 p3 p4)), .unset, .unset] [(.int (f1 p3 p4)), (.int (f1 p1 p2)), (.ref b14), (.ref b14)])) t
    refine XS.iload X14.here hx rfl (hb hby at_36) rfl ?_
    show Steps p.tables e below (T14.setTop (mkF m 38 #[.val (.int p1), .val (.int p2), .val (.int p3), .val (.int p4), .val (.int (f1 p1 p2)), .val (.int (f2 p1 p2)), .val (.int (f1 p3 p4)), .val (.int (f2 p3 p4)), .unset, .unset] [(.int (f2 p1 p2)), (.int (f1 p3 p4)), (.int (f1 p1 p2)), (.ref b14), (.ref b14)])) t
    refine XS.iload X14.here hx rfl (hb hby at_38) rfl ?_
    show Steps p.tables e below (T14.setTop (mkF m 40 #[.val (.int p1), .val (.int p2), .val (.int p3), .val (.int p4), .val (.int (f1 p1 p2)), .val (.int (f2 p1 p2)), .val (.int (f1 p3 p4)), .val (.int (f2 p3 p4)), .unset, .unset] [(.int (f2 p3 p4)), (.int (f2 p1 p2)), (.int (f1 p3 p4)), (.int (f1 p1 p2)), (.ref b14), (.ref b14)])) t
    exact k
  obtain ⟨_, _, ⟨T17, L17, k17, n17⟩, -, X17, ⟨Lc17, hQ17, l17, y17, z17⟩, st17⟩ := X14.specialBack hx (y := (⟨"com/example/gutter/gutter/layout/Rect", "<init>", "(IIII)V"⟩ : MethodName)) rfl hown (mvT hZ (hw _ (List.mem_of_getElem? (i := 10) rfl))) (mvT hZ (hw _ (List.mem_of_getElem? (i := 11) rfl))) (mvT hZ (hw _ (List.mem_of_getElem? (i := 12) rfl))) (by decide) (backOf (W := 1) (rm3 l Z a0 hw [] b14 (f1 p1 p2) (f1 p3 p4) (f2 p1 p2) (f2 p3 p4) (.int (0 : Int32)) (.int (0 : Int32)) (.int (0 : Int32)) (.int (0 : Int32)) h14 n0 (Nat.le_trans Z0 KP14.1) (own_mm _ _) (own_mm _ _) A14 F14_left gb_b14 F14_top F14_right F14_bottom) hZ (hw _ (List.mem_of_getElem? (i := 12) rfl)) (hw _ (List.mem_of_getElem? (i := 9) rfl)) (by decide) (by decide)) (g := (mkF m 40 #[.val (.int p1), .val (.int p2), .val (.int p3), .val (.int p4), .val (.int (f1 p1 p2)), .val (.int (f2 p1 p2)), .val (.int (f1 p3 p4)), .val (.int (f2 p3 p4)), .unset, .unset] [(.int (f2 p3 p4)), (.int (f2 p1 p2)), (.int (f1 p3 p4)), (.int (f1 p1 p2)), (.ref b14), (.ref b14)])) rfl (by rw [hml]; rfl) (Steps.refl _) (a := b14) (argsL := [(.int (f1 p1 p2)), (.int (f1 p3 p4)), (.int (f2 p1 p2)), (.int (f2 p3 p4))]) (rest := [(.ref b14)]) (lenOf pd_1 rfl) rfl (by show 2 * 0 + _ ≤ _; exact Nat.le_of_eq rfl) (hb hby at_40) (fun _ _ => ⟨rfl, e14, (by decide : 1 + 0 ≤ _), (by decide : 4 + 0 ≤ _)⟩)
  dsimp only [Pt.U, Pt.locs, Pt.cells, Pt.slots] at X17 l17 y17 z17 st17 hQ17
  subst l17 y17 z17
  obtain ⟨h17, e17⟩ : ∃ z, T17.heap = z := ⟨_, rfl⟩
  rw [e17] at hQ17
  obtain ⟨rfl, N17q, Kq17, R17_0, R17_1, R17_2, R17_3, R17_4⟩ := hQ17
  have N17 := Fr.app N11 N17q
  have KP17 : Keep h0 h17 [] := KP14.trans Kq17 (allS (Or.inr sz_b14) all0)
  have K18 : ∀ t, Steps p.tables e below (T17.setTop (mkF m 43 #[.val (.int p1), .val (.int p2), .val (.int p3), .val (.int p4), .val (.int (f1 p1 p2)), .val (.int (f2 p1 p2)), .val (.int (f1 p3 p4)), .val (.int (f2 p3 p4)), .unset, .unset] [(.ref b14)])) t → Steps p.tables e below (T14.setTop (mkF m 40 #[.val (.int p1), .val (.int p2), .val (.int p3), .val (.int p4), .val (.int (f1 p1 p2)), .val (.int (f2 p1 p2)), .val (.int (f1 p3 p4)), .val (.int (f2 p3 p4)), .unset, .unset] [(.int (f2 p3 p4)), (.int (f2 p1 p2)), (.int (f1 p3 p4)), (.int (f1 p1 p2)), (.ref b14), (.ref b14)])) t := fun t k => st17.trans k
  have K19 : ∀ t, Steps p.tables e below (T17.setTop (mkF m 47 #[.val (.int p1), .val (.int p2), .val (.int p3), .val (.int p4), .val (.int (f1 p1 p2)), .val (.int (f2 p1 p2)), .val (.int (f1 p3 p4)), .val (.int (f2 p3 p4)), .val (.ref b14), .unset] [(.ref b14)])) t → Steps p.tables e below (T17.setTop (mkF m 43 #[.val (.int p1), .val (.int p2), .val (.int p3), .val (.int p4), .val (.int (f1 p1 p2)), .val (.int (f2 p1 p2)), .val (.int (f1 p3 p4)), .val (.int (f2 p3 p4)), .unset, .unset] [(.ref b14)])) t := by
    intro t k
    refine XS.astore X17.here hx rfl (hb hby at_43) rfl rfl (l' := #[.val (.int p1), .val (.int p2), .val (.int p3), .val (.int p4), .val (.int (f1 p1 p2)), .val (.int (f2 p1 p2)), .val (.int (f1 p3 p4)), .val (.int (f2 p3 p4)), .val (.ref b14), .unset]) rfl ?_
    show Steps p.tables e below (T17.setTop (mkF m 45 #[.val (.int p1), .val (.int p2), .val (.int p3), .val (.int p4), .val (.int (f1 p1 p2)), .val (.int (f2 p1 p2)), .val (.int (f1 p3 p4)), .val (.int (f2 p3 p4)), .val (.ref b14), .unset] [])) t
    refine XS.aload X17.here hx rfl (hb hby at_45) rfl rfl ?_
    show Steps p.tables e below (T17.setTop (mkF m 47 #[.val (.int p1), .val (.int p2), .val (.int p3), .val (.int p4), .val (.int (f1 p1 p2)), .val (.int (f2 p1 p2)), .val (.int (f1 p3 p4)), .val (.int (f2 p3 p4)), .val (.ref b14), .unset] [(.ref b14)])) t
    exact k
  obtain ⟨cq20, kq20, q20a, q20b, q20c⟩ := isOf hZ e17 R17_0
  obtain ⟨_, _, ⟨T20, L20, k20, n20⟩, -, X20, ⟨Lc20, hQ20, l20, y20, z20⟩, st20⟩ := X17.virtualBack hx (y := (⟨"com/example/gutter/gutter/layout/Rect", "toBox", "()[I"⟩ : MethodName)) (z := (⟨"com/example/gutter/gutter/layout/Rect", "toBox", "()[I"⟩ : MethodName)) hown (mvT hZ (hw _ (List.mem_of_getElem? (i := 29) rfl))) (mvT hZ (hw _ (List.mem_of_getElem? (i := 30) rfl))) (notFace_of_selects (args := #[]) (mvT hZ (hw _ (List.mem_of_getElem? (i := 32) rfl)))) (mvT hZ (hw _ (List.mem_of_getElem? (i := 32) rfl))) (mvT hZ (hw _ (List.mem_of_getElem? (i := 31) rfl))) (by decide) (backOf (W := 0) (rm6 l Z a0 hw [] b14 (f1 p1 p2) (f1 p3 p4) (f2 p1 p2) (f2 p3 p4) h17 n0 (Nat.le_trans Z0 KP17.1) R17_1 R17_2 R17_0 R17_3 R17_4) hZ (hw _ (List.mem_of_getElem? (i := 33) rfl)) (hw _ (List.mem_of_getElem? (i := 9) rfl)) (by decide) (by decide)) q20a q20c (g := (mkF m 47 #[.val (.int p1), .val (.int p2), .val (.int p3), .val (.int p4), .val (.int (f1 p1 p2)), .val (.int (f2 p1 p2)), .val (.int (f1 p3 p4)), .val (.int (f2 p3 p4)), .val (.ref b14), .unset] [(.ref b14)])) rfl (by rw [hml]; rfl) (Steps.refl _) (argsL := []) (rest := []) (lenOf pd_3 rfl) rfl (by show 2 * 0 + _ ≤ _; exact Nat.le_of_eq rfl) (hb hby at_47) (fun _ _ => ⟨rfl, e17, (by decide : 1 + 1 ≤ _), (by decide : 4 + 4 ≤ _)⟩)
  dsimp only [Pt.U, Pt.locs, Pt.cells, Pt.slots] at X20 l20 y20 z20 st20 hQ20
  subst l20 y20 z20
  obtain ⟨h20, e20⟩ : ∃ z, T20.heap = z := ⟨_, rfl⟩
  rw [e20] at hQ20
  obtain ⟨b20_x1, rfl, N20q, Kq20, szq_b20_x1, gb_b20_x1, R20_0⟩ := hQ20
  have N20 := Fr.app N17 N20q
  have KP20 : Keep h0 h20 [] := KP17.trans Kq20 all0
  have E20_0 : Exa Z h20 b14 "com/example/gutter/gutter/layout/Rect" := R17_0.keep Kq20
  have F20_1 : Fld Z h20 b14 "com/example/gutter/gutter/layout/Rect" "left" "I" (.int (f1 p1 p2)) := R17_1.keep Kq20 nin0
  have F20_2 : Fld Z h20 b14 "com/example/gutter/gutter/layout/Rect" "top" "I" (.int (f1 p3 p4)) := R17_2.keep Kq20 nin0
  have F20_3 : Fld Z h20 b14 "com/example/gutter/gutter/layout/Rect" "right" "I" (.int (f2 p1 p2)) := R17_3.keep Kq20 nin0
  have F20_4 : Fld Z h20 b14 "com/example/gutter/gutter/layout/Rect" "bottom" "I" (.int (f2 p3 p4)) := R17_4.keep Kq20 nin0
  have ne20_x1_0 : b14 ≠ b20_x1 := Nat.ne_of_lt (Nat.lt_of_lt_of_le R17_0.lt szq_b20_x1)
  have sz_b20_x1 : h0.size ≤ b20_x1 := Nat.le_trans KP17.1 szq_b20_x1
  have K21 : ∀ t, Steps p.tables e below (T20.setTop (mkF m 50 #[.val (.int p1), .val (.int p2), .val (.int p3), .val (.int p4), .val (.int (f1 p1 p2)), .val (.int (f2 p1 p2)), .val (.int (f1 p3 p4)), .val (.int (f2 p3 p4)), .val (.ref b14), .unset] [(.ref b20_x1)])) t → Steps p.tables e below (T17.setTop (mkF m 47 #[.val (.int p1), .val (.int p2), .val (.int p3), .val (.int p4), .val (.int (f1 p1 p2)), .val (.int (f2 p1 p2)), .val (.int (f1 p3 p4)), .val (.int (f2 p3 p4)), .val (.ref b14), .unset] [(.ref b14)])) t := fun t k => st20.trans k
  have K26 : ∀ t, Steps p.tables e below (T20.setTop (mkF m 59 #[.val (.int p1), .val (.int p2), .val (.int p3), .val (.int p4), .val (.int (f1 p1 p2)), .val (.int (f2 p1 p2)), .val (.int (f1 p3 p4)), .val (.int (f2 p3 p4)), .val (.ref b14), .val (.ref b20_x1)] [(.ref b20_x1)])) t → Steps p.tables e below (T20.setTop (mkF m 50 #[.val (.int p1), .val (.int p2), .val (.int p3), .val (.int p4), .val (.int (f1 p1 p2)), .val (.int (f2 p1 p2)), .val (.int (f1 p3 p4)), .val (.int (f2 p3 p4)), .val (.ref b14), .unset] [(.ref b20_x1)])) t := by
    intro t k
    refine XS.astore X20.here hx rfl (hb hby at_50) rfl rfl (l' := #[.val (.int p1), .val (.int p2), .val (.int p3), .val (.int p4), .val (.int (f1 p1 p2)), .val (.int (f2 p1 p2)), .val (.int (f1 p3 p4)), .val (.int (f2 p3 p4)), .val (.ref b14), .val (.ref b20_x1)]) rfl ?_
    show Steps p.tables e below (T20.setTop (mkF m 52 #[.val (.int p1), .val (.int p2), .val (.int p3), .val (.int p4), .val (.int (f1 p1 p2)), .val (.int (f2 p1 p2)), .val (.int (f1 p3 p4)), .val (.int (f2 p3 p4)), .val (.ref b14), .val (.ref b20_x1)] [])) t
    refine XS.aload X20.here hx rfl (hb hby at_52) rfl rfl ?_
    show Steps p.tables e below (T20.setTop (mkF m 54 #[.val (.int p1), .val (.int p2), .val (.int p3), .val (.int p4), .val (.int (f1 p1 p2)), .val (.int (f2 p1 p2)), .val (.int (f1 p3 p4)), .val (.int (f2 p3 p4)), .val (.ref b14), .val (.ref b20_x1)] [(.ref b20_x1)])) t
    refine XS.ifnullNo X20.here hx rfl (hb hby at_54) rfl ?_
    show Steps p.tables e below (T20.setTop (mkF m 57 #[.val (.int p1), .val (.int p2), .val (.int p3), .val (.int p4), .val (.int (f1 p1 p2)), .val (.int (f2 p1 p2)), .val (.int (f1 p3 p4)), .val (.int (f2 p3 p4)), .val (.ref b14), .val (.ref b20_x1)] [])) t
    refine XS.aload X20.here hx rfl (hb hby at_57) rfl rfl ?_
    show Steps p.tables e below (T20.setTop (mkF m 59 #[.val (.int p1), .val (.int p2), .val (.int p3), .val (.int p4), .val (.int (f1 p1 p2)), .val (.int (f2 p1 p2)), .val (.int (f1 p3 p4)), .val (.int (f2 p3 p4)), .val (.ref b14), .val (.ref b20_x1)] [(.ref b20_x1)])) t
    exact k
  obtain ⟨cl22, Aq23, sq24, nq25⟩ := Ia.len R20_0
  have K27 : ∀ t, Steps p.tables e below (T20.setTop (mkF m 61 #[.val (.int p1), .val (.int p2), .val (.int p3), .val (.int p4), .val (.int (f1 p1 p2)), .val (.int (f2 p1 p2)), .val (.int (f1 p3 p4)), .val (.int (f2 p3 p4)), .val (.ref b14), .val (.ref b20_x1)] [(.int (4 : Int32)), (.int (4 : Int32))])) t → Steps p.tables e below (T20.setTop (mkF m 59 #[.val (.int p1), .val (.int p2), .val (.int p3), .val (.int p4), .val (.int (f1 p1 p2)), .val (.int (f2 p1 p2)), .val (.int (f1 p3 p4)), .val (.int (f2 p3 p4)), .val (.ref b14), .val (.ref b20_x1)] [(.ref b20_x1)])) t := by
    intro t k
    refine X20.arraylength hx (by rw [e20]; exact Aq23.1) (State.isArrayOf_alike hZ.alike Aq23.2.1) (g := (mkF m 59 #[.val (.int p1), .val (.int p2), .val (.int p3), .val (.int p4), .val (.int (f1 p1 p2)), .val (.int (f2 p1 p2)), .val (.int (f1 p3 p4)), .val (.int (f2 p3 p4)), .val (.ref b14), .val (.ref b20_x1)] [(.ref b20_x1)])) rfl rfl (hb hby at_59) _ ?_
    rw [len_of sq24 nq25]
    show Steps p.tables e below (T20.setTop (mkF m 60 #[.val (.int p1), .val (.int p2), .val (.int p3), .val (.int p4), .val (.int (f1 p1 p2)), .val (.int (f2 p1 p2)), .val (.int (f1 p3 p4)), .val (.int (f2 p3 p4)), .val (.ref b14), .val (.ref b20_x1)] [(.int (4 : Int32))])) t
    refine XS.iconst X20.here hx rfl (hb hby at_60) ?_
    show Steps p.tables e below (T20.setTop (mkF m 61 #[.val (.int p1), .val (.int p2), .val (.int p3), .val (.int p4), .val (.int (f1 p1 p2)), .val (.int (f2 p1 p2)), .val (.int (f1 p3 p4)), .val (.int (f2 p3 p4)), .val (.ref b14), .val (.ref b20_x1)] [(.int (4 : Int32)), (.int (4 : Int32))])) t
    exact k
  by_cases hc28 : (4 : Int32) = (4 : Int32)
  · have K29 : ∀ t, Steps p.tables e below (T20.setTop (mkF m 66 #[.val (.int p1), .val (.int p2), .val (.int p3), .val (.int p4), .val (.int (f1 p1 p2)), .val (.int (f2 p1 p2)), .val (.int (f1 p3 p4)), .val (.int (f2 p3 p4)), .val (.ref b14), .val (.ref b20_x1)] [])) t → Steps p.tables e below (T20.setTop (mkF m 61 #[.val (.int p1), .val (.int p2), .val (.int p3), .val (.int p4), .val (.int (f1 p1 p2)), .val (.int (f2 p1 p2)), .val (.int (f1 p3 p4)), .val (.int (f2 p3 p4)), .val (.ref b14), .val (.ref b20_x1)] [(.int (4 : Int32)), (.int (4 : Int32))])) t := by
      intro t k
      refine XS.icmpYes X20.here hx rfl (pc0 := 61) (pc' := 66) rfl (hb hby at_61) rfl (teq hc28).1 (by decide) (by decide) ?_
      exact k
    have K34 : ∀ t, Steps p.tables e below (T20.setTop (mkF m 69 #[.val (.int p1), .val (.int p2), .val (.int p3), .val (.int p4), .val (.int (f1 p1 p2)), .val (.int (f2 p1 p2)), .val (.int (f1 p3 p4)), .val (.int (f2 p3 p4)), .val (.ref b14), .val (.ref b20_x1)] [(.int (0 : Int32)), (.ref b20_x1)])) t → Steps p.tables e below (T20.setTop (mkF m 66 #[.val (.int p1), .val (.int p2), .val (.int p3), .val (.int p4), .val (.int (f1 p1 p2)), .val (.int (f2 p1 p2)), .val (.int (f1 p3 p4)), .val (.int (f2 p3 p4)), .val (.ref b14), .val (.ref b20_x1)] [])) t := by
      intro t k
      refine XS.aload X20.here hx rfl (hb hby at_66) rfl rfl ?_
      show Steps p.tables e below (T20.setTop (mkF m 68 #[.val (.int p1), .val (.int p2), .val (.int p3), .val (.int p4), .val (.int (f1 p1 p2)), .val (.int (f2 p1 p2)), .val (.int (f1 p3 p4)), .val (.int (f2 p3 p4)), .val (.ref b14), .val (.ref b20_x1)] [(.ref b20_x1)])) t
      refine XS.iconst X20.here hx rfl (hb hby at_68) ?_
      show Steps p.tables e below (T20.setTop (mkF m 69 #[.val (.int p1), .val (.int p2), .val (.int p3), .val (.int p4), .val (.int (f1 p1 p2)), .val (.int (f2 p1 p2)), .val (.int (f1 p3 p4)), .val (.int (f2 p3 p4)), .val (.ref b14), .val (.ref b20_x1)] [(.int (0 : Int32)), (.ref b20_x1)])) t
      exact k
    have hin30 : ¬ (0 : Int32) < 0 ∧ (0 : Int32) < (4 : Int32) := by exact ⟨by decide, by decide⟩
    obtain ⟨cl31, Aq32, hjhin30, aq33⟩ := Ia.at R20_0 hin30
    have K35 : ∀ t, Steps p.tables e below (T20.setTop (mkF m 72 #[.val (.int p1), .val (.int p2), .val (.int p3), .val (.int p4), .val (.int (f1 p1 p2)), .val (.int (f2 p1 p2)), .val (.int (f1 p3 p4)), .val (.int (f2 p3 p4)), .val (.ref b14), .val (.ref b20_x1)] [(.int (f1 p1 p2)), (.int ((f6_u4 (f1 p1 p2) (f1 p3 p4) (f2 p1 p2) (f2 p3 p4)) (0 : Int32)))])) t → Steps p.tables e below (T20.setTop (mkF m 69 #[.val (.int p1), .val (.int p2), .val (.int p3), .val (.int p4), .val (.int (f1 p1 p2)), .val (.int (f2 p1 p2)), .val (.int (f1 p3 p4)), .val (.int (f2 p3 p4)), .val (.ref b14), .val (.ref b20_x1)] [(.int (0 : Int32)), (.ref b20_x1)])) t := by
      intro t k
      refine X20.iaload hx (j := (0 : Int32)) (v := .int ((f6_u4 (f1 p1 p2) (f1 p3 p4) (f2 p1 p2) (f2 p3 p4)) (0 : Int32))) (by rw [e20]; exact Aq32.1) (State.isArrayOf_alike hZ.alike Aq32.2.1) Aq32.2.2 hjhin30 aq33 (g := (mkF m 69 #[.val (.int p1), .val (.int p2), .val (.int p3), .val (.int p4), .val (.int (f1 p1 p2)), .val (.int (f2 p1 p2)), .val (.int (f1 p3 p4)), .val (.int (f2 p3 p4)), .val (.ref b14), .val (.ref b20_x1)] [(.int (0 : Int32)), (.ref b20_x1)])) rfl rfl (hb hby at_69) _ ?_
      show Steps p.tables e below (T20.setTop (mkF m 70 #[.val (.int p1), .val (.int p2), .val (.int p3), .val (.int p4), .val (.int (f1 p1 p2)), .val (.int (f2 p1 p2)), .val (.int (f1 p3 p4)), .val (.int (f2 p3 p4)), .val (.ref b14), .val (.ref b20_x1)] [(.int ((f6_u4 (f1 p1 p2) (f1 p3 p4) (f2 p1 p2) (f2 p3 p4)) (0 : Int32)))])) t
      refine XS.iload X20.here hx rfl (hb hby at_70) rfl ?_
      show Steps p.tables e below (T20.setTop (mkF m 72 #[.val (.int p1), .val (.int p2), .val (.int p3), .val (.int p4), .val (.int (f1 p1 p2)), .val (.int (f2 p1 p2)), .val (.int (f1 p3 p4)), .val (.int (f2 p3 p4)), .val (.ref b14), .val (.ref b20_x1)] [(.int (f1 p1 p2)), (.int ((f6_u4 (f1 p1 p2) (f1 p3 p4) (f2 p1 p2) (f2 p3 p4)) (0 : Int32)))])) t
      exact k
    by_cases hc36 : ((f6_u4 (f1 p1 p2) (f1 p3 p4) (f2 p1 p2) (f2 p3 p4)) (0 : Int32)) = (f1 p1 p2)
    · have K37 : ∀ t, Steps p.tables e below (T20.setTop (mkF m 75 #[.val (.int p1), .val (.int p2), .val (.int p3), .val (.int p4), .val (.int (f1 p1 p2)), .val (.int (f2 p1 p2)), .val (.int (f1 p3 p4)), .val (.int (f2 p3 p4)), .val (.ref b14), .val (.ref b20_x1)] [])) t → Steps p.tables e below (T20.setTop (mkF m 72 #[.val (.int p1), .val (.int p2), .val (.int p3), .val (.int p4), .val (.int (f1 p1 p2)), .val (.int (f2 p1 p2)), .val (.int (f1 p3 p4)), .val (.int (f2 p3 p4)), .val (.ref b14), .val (.ref b20_x1)] [(.int (f1 p1 p2)), (.int ((f6_u4 (f1 p1 p2) (f1 p3 p4) (f2 p1 p2) (f2 p3 p4)) (0 : Int32)))])) t := by
        intro t k
        refine XS.icmpNo X20.here hx rfl (hb hby at_72) rfl (teq hc36).2 ?_
        exact k
      have K42 : ∀ t, Steps p.tables e below (T20.setTop (mkF m 78 #[.val (.int p1), .val (.int p2), .val (.int p3), .val (.int p4), .val (.int (f1 p1 p2)), .val (.int (f2 p1 p2)), .val (.int (f1 p3 p4)), .val (.int (f2 p3 p4)), .val (.ref b14), .val (.ref b20_x1)] [(.int (1 : Int32)), (.ref b20_x1)])) t → Steps p.tables e below (T20.setTop (mkF m 75 #[.val (.int p1), .val (.int p2), .val (.int p3), .val (.int p4), .val (.int (f1 p1 p2)), .val (.int (f2 p1 p2)), .val (.int (f1 p3 p4)), .val (.int (f2 p3 p4)), .val (.ref b14), .val (.ref b20_x1)] [])) t := by
        intro t k
        refine XS.aload X20.here hx rfl (hb hby at_75) rfl rfl ?_
        show Steps p.tables e below (T20.setTop (mkF m 77 #[.val (.int p1), .val (.int p2), .val (.int p3), .val (.int p4), .val (.int (f1 p1 p2)), .val (.int (f2 p1 p2)), .val (.int (f1 p3 p4)), .val (.int (f2 p3 p4)), .val (.ref b14), .val (.ref b20_x1)] [(.ref b20_x1)])) t
        refine XS.iconst X20.here hx rfl (hb hby at_77) ?_
        show Steps p.tables e below (T20.setTop (mkF m 78 #[.val (.int p1), .val (.int p2), .val (.int p3), .val (.int p4), .val (.int (f1 p1 p2)), .val (.int (f2 p1 p2)), .val (.int (f1 p3 p4)), .val (.int (f2 p3 p4)), .val (.ref b14), .val (.ref b20_x1)] [(.int (1 : Int32)), (.ref b20_x1)])) t
        exact k
      have hin38 : ¬ (1 : Int32) < 0 ∧ (1 : Int32) < (4 : Int32) := by exact ⟨by decide, by decide⟩
      obtain ⟨cl39, Aq40, hjhin38, aq41⟩ := Ia.at R20_0 hin38
      have K43 : ∀ t, Steps p.tables e below (T20.setTop (mkF m 81 #[.val (.int p1), .val (.int p2), .val (.int p3), .val (.int p4), .val (.int (f1 p1 p2)), .val (.int (f2 p1 p2)), .val (.int (f1 p3 p4)), .val (.int (f2 p3 p4)), .val (.ref b14), .val (.ref b20_x1)] [(.int (f1 p3 p4)), (.int ((f6_u4 (f1 p1 p2) (f1 p3 p4) (f2 p1 p2) (f2 p3 p4)) (1 : Int32)))])) t → Steps p.tables e below (T20.setTop (mkF m 78 #[.val (.int p1), .val (.int p2), .val (.int p3), .val (.int p4), .val (.int (f1 p1 p2)), .val (.int (f2 p1 p2)), .val (.int (f1 p3 p4)), .val (.int (f2 p3 p4)), .val (.ref b14), .val (.ref b20_x1)] [(.int (1 : Int32)), (.ref b20_x1)])) t := by
        intro t k
        refine X20.iaload hx (j := (1 : Int32)) (v := .int ((f6_u4 (f1 p1 p2) (f1 p3 p4) (f2 p1 p2) (f2 p3 p4)) (1 : Int32))) (by rw [e20]; exact Aq40.1) (State.isArrayOf_alike hZ.alike Aq40.2.1) Aq40.2.2 hjhin38 aq41 (g := (mkF m 78 #[.val (.int p1), .val (.int p2), .val (.int p3), .val (.int p4), .val (.int (f1 p1 p2)), .val (.int (f2 p1 p2)), .val (.int (f1 p3 p4)), .val (.int (f2 p3 p4)), .val (.ref b14), .val (.ref b20_x1)] [(.int (1 : Int32)), (.ref b20_x1)])) rfl rfl (hb hby at_78) _ ?_
        show Steps p.tables e below (T20.setTop (mkF m 79 #[.val (.int p1), .val (.int p2), .val (.int p3), .val (.int p4), .val (.int (f1 p1 p2)), .val (.int (f2 p1 p2)), .val (.int (f1 p3 p4)), .val (.int (f2 p3 p4)), .val (.ref b14), .val (.ref b20_x1)] [(.int ((f6_u4 (f1 p1 p2) (f1 p3 p4) (f2 p1 p2) (f2 p3 p4)) (1 : Int32)))])) t
        refine XS.iload X20.here hx rfl (hb hby at_79) rfl ?_
        show Steps p.tables e below (T20.setTop (mkF m 81 #[.val (.int p1), .val (.int p2), .val (.int p3), .val (.int p4), .val (.int (f1 p1 p2)), .val (.int (f2 p1 p2)), .val (.int (f1 p3 p4)), .val (.int (f2 p3 p4)), .val (.ref b14), .val (.ref b20_x1)] [(.int (f1 p3 p4)), (.int ((f6_u4 (f1 p1 p2) (f1 p3 p4) (f2 p1 p2) (f2 p3 p4)) (1 : Int32)))])) t
        exact k
      by_cases hc44 : ((f6_u4 (f1 p1 p2) (f1 p3 p4) (f2 p1 p2) (f2 p3 p4)) (1 : Int32)) = (f1 p3 p4)
      · have K45 : ∀ t, Steps p.tables e below (T20.setTop (mkF m 86 #[.val (.int p1), .val (.int p2), .val (.int p3), .val (.int p4), .val (.int (f1 p1 p2)), .val (.int (f2 p1 p2)), .val (.int (f1 p3 p4)), .val (.int (f2 p3 p4)), .val (.ref b14), .val (.ref b20_x1)] [])) t → Steps p.tables e below (T20.setTop (mkF m 81 #[.val (.int p1), .val (.int p2), .val (.int p3), .val (.int p4), .val (.int (f1 p1 p2)), .val (.int (f2 p1 p2)), .val (.int (f1 p3 p4)), .val (.int (f2 p3 p4)), .val (.ref b14), .val (.ref b20_x1)] [(.int (f1 p3 p4)), (.int ((f6_u4 (f1 p1 p2) (f1 p3 p4) (f2 p1 p2) (f2 p3 p4)) (1 : Int32)))])) t := by
          intro t k
          refine XS.icmpYes X20.here hx rfl (pc0 := 81) (pc' := 86) rfl (hb hby at_81) rfl (teq hc44).1 (by decide) (by decide) ?_
          exact k
        have K50 : ∀ t, Steps p.tables e below (T20.setTop (mkF m 89 #[.val (.int p1), .val (.int p2), .val (.int p3), .val (.int p4), .val (.int (f1 p1 p2)), .val (.int (f2 p1 p2)), .val (.int (f1 p3 p4)), .val (.int (f2 p3 p4)), .val (.ref b14), .val (.ref b20_x1)] [(.int (2 : Int32)), (.ref b20_x1)])) t → Steps p.tables e below (T20.setTop (mkF m 86 #[.val (.int p1), .val (.int p2), .val (.int p3), .val (.int p4), .val (.int (f1 p1 p2)), .val (.int (f2 p1 p2)), .val (.int (f1 p3 p4)), .val (.int (f2 p3 p4)), .val (.ref b14), .val (.ref b20_x1)] [])) t := by
          intro t k
          refine XS.aload X20.here hx rfl (hb hby at_86) rfl rfl ?_
          show Steps p.tables e below (T20.setTop (mkF m 88 #[.val (.int p1), .val (.int p2), .val (.int p3), .val (.int p4), .val (.int (f1 p1 p2)), .val (.int (f2 p1 p2)), .val (.int (f1 p3 p4)), .val (.int (f2 p3 p4)), .val (.ref b14), .val (.ref b20_x1)] [(.ref b20_x1)])) t
          refine XS.iconst X20.here hx rfl (hb hby at_88) ?_
          show Steps p.tables e below (T20.setTop (mkF m 89 #[.val (.int p1), .val (.int p2), .val (.int p3), .val (.int p4), .val (.int (f1 p1 p2)), .val (.int (f2 p1 p2)), .val (.int (f1 p3 p4)), .val (.int (f2 p3 p4)), .val (.ref b14), .val (.ref b20_x1)] [(.int (2 : Int32)), (.ref b20_x1)])) t
          exact k
        have hin46 : ¬ (2 : Int32) < 0 ∧ (2 : Int32) < (4 : Int32) := by exact ⟨by decide, by decide⟩
        obtain ⟨cl47, Aq48, hjhin46, aq49⟩ := Ia.at R20_0 hin46
        have K51 : ∀ t, Steps p.tables e below (T20.setTop (mkF m 94 #[.val (.int p1), .val (.int p2), .val (.int p3), .val (.int p4), .val (.int (f1 p1 p2)), .val (.int (f2 p1 p2)), .val (.int (f1 p3 p4)), .val (.int (f2 p3 p4)), .val (.ref b14), .val (.ref b20_x1)] [(.int (f2 p1 p2)), (.int (f1 p1 p2)), (.int ((f6_u4 (f1 p1 p2) (f1 p3 p4) (f2 p1 p2) (f2 p3 p4)) (2 : Int32)))])) t → Steps p.tables e below (T20.setTop (mkF m 89 #[.val (.int p1), .val (.int p2), .val (.int p3), .val (.int p4), .val (.int (f1 p1 p2)), .val (.int (f2 p1 p2)), .val (.int (f1 p3 p4)), .val (.int (f2 p3 p4)), .val (.ref b14), .val (.ref b20_x1)] [(.int (2 : Int32)), (.ref b20_x1)])) t := by
          intro t k
          refine X20.iaload hx (j := (2 : Int32)) (v := .int ((f6_u4 (f1 p1 p2) (f1 p3 p4) (f2 p1 p2) (f2 p3 p4)) (2 : Int32))) (by rw [e20]; exact Aq48.1) (State.isArrayOf_alike hZ.alike Aq48.2.1) Aq48.2.2 hjhin46 aq49 (g := (mkF m 89 #[.val (.int p1), .val (.int p2), .val (.int p3), .val (.int p4), .val (.int (f1 p1 p2)), .val (.int (f2 p1 p2)), .val (.int (f1 p3 p4)), .val (.int (f2 p3 p4)), .val (.ref b14), .val (.ref b20_x1)] [(.int (2 : Int32)), (.ref b20_x1)])) rfl rfl (hb hby at_89) _ ?_
          show Steps p.tables e below (T20.setTop (mkF m 90 #[.val (.int p1), .val (.int p2), .val (.int p3), .val (.int p4), .val (.int (f1 p1 p2)), .val (.int (f2 p1 p2)), .val (.int (f1 p3 p4)), .val (.int (f2 p3 p4)), .val (.ref b14), .val (.ref b20_x1)] [(.int ((f6_u4 (f1 p1 p2) (f1 p3 p4) (f2 p1 p2) (f2 p3 p4)) (2 : Int32)))])) t
          refine XS.iload X20.here hx rfl (hb hby at_90) rfl ?_
          show Steps p.tables e below (T20.setTop (mkF m 92 #[.val (.int p1), .val (.int p2), .val (.int p3), .val (.int p4), .val (.int (f1 p1 p2)), .val (.int (f2 p1 p2)), .val (.int (f1 p3 p4)), .val (.int (f2 p3 p4)), .val (.ref b14), .val (.ref b20_x1)] [(.int (f1 p1 p2)), (.int ((f6_u4 (f1 p1 p2) (f1 p3 p4) (f2 p1 p2) (f2 p3 p4)) (2 : Int32)))])) t
          refine XS.iload X20.here hx rfl (hb hby at_92) rfl ?_
          show Steps p.tables e below (T20.setTop (mkF m 94 #[.val (.int p1), .val (.int p2), .val (.int p3), .val (.int p4), .val (.int (f1 p1 p2)), .val (.int (f2 p1 p2)), .val (.int (f1 p3 p4)), .val (.int (f2 p3 p4)), .val (.ref b14), .val (.ref b20_x1)] [(.int (f2 p1 p2)), (.int (f1 p1 p2)), (.int ((f6_u4 (f1 p1 p2) (f1 p3 p4) (f2 p1 p2) (f2 p3 p4)) (2 : Int32)))])) t
          exact k
        obtain ⟨_, _, ⟨T52, L52, k52, n52⟩, -, X52, ⟨Lc52, hQ52, l52, y52, z52⟩, st52⟩ := Jvm.LawKit.callS X20 hx (y := (⟨"com/example/gutter/gutter/layout/RectToBoxPinLaw", "sizeOk", "(III)Z"⟩ : MethodName)) hown (mvT hZ (hw _ (List.mem_of_getElem? (i := 45) rfl))) (mvT hZ (hw _ (List.mem_of_getElem? (i := 46) rfl))) (mvT hZ (hw _ (List.mem_of_getElem? (i := 47) rfl))) (mvT hZ (hw _ (List.mem_of_getElem? (i := 48) rfl))) (by decide) (backOf (W := 0) (rm9 l Z a0 hw [] ((f6_u4 (f1 p1 p2) (f1 p3 p4) (f2 p1 p2) (f2 p3 p4)) (2 : Int32)) (f1 p1 p2) (f2 p1 p2) h20 n0 (Nat.le_trans Z0 KP20.1) ) hZ (hw _ (List.mem_of_getElem? (i := 48) rfl)) (hw _ (List.mem_of_getElem? (i := 47) rfl)) (by decide) (by decide)) (g := (mkF m 94 #[.val (.int p1), .val (.int p2), .val (.int p3), .val (.int p4), .val (.int (f1 p1 p2)), .val (.int (f2 p1 p2)), .val (.int (f1 p3 p4)), .val (.int (f2 p3 p4)), .val (.ref b14), .val (.ref b20_x1)] [(.int (f2 p1 p2)), (.int (f1 p1 p2)), (.int ((f6_u4 (f1 p1 p2) (f1 p3 p4) (f2 p1 p2) (f2 p3 p4)) (2 : Int32)))])) rfl (by rw [hml]; rfl) (argsL := [(.int ((f6_u4 (f1 p1 p2) (f1 p3 p4) (f2 p1 p2) (f2 p3 p4)) (2 : Int32))), (.int (f1 p1 p2)), (.int (f2 p1 p2))]) (rest := []) (lenOf pd_5 rfl) rfl (by show 2 * 0 + _ ≤ _; exact Nat.le_of_eq rfl) (hb hby at_94) (fun _ _ => ⟨rfl, e20, (by decide : 2 + 0 ≤ _), (by decide : 8 + 0 ≤ _)⟩)
        dsimp only [Pt.U, Pt.locs, Pt.cells, Pt.slots] at X52 l52 y52 z52 st52 hQ52
        subst l52 y52 z52
        obtain ⟨rfl, N52q, e52⟩ := hQ52
        have N52 := Fr.app N20 N52q
        have K53 : ∀ t, Steps p.tables e below (T52.setTop (mkF m 97 #[.val (.int p1), .val (.int p2), .val (.int p3), .val (.int p4), .val (.int (f1 p1 p2)), .val (.int (f2 p1 p2)), .val (.int (f1 p3 p4)), .val (.int (f2 p3 p4)), .val (.ref b14), .val (.ref b20_x1)] [(.int (f9 ((f6_u4 (f1 p1 p2) (f1 p3 p4) (f2 p1 p2) (f2 p3 p4)) (2 : Int32)) (f1 p1 p2) (f2 p1 p2)))])) t → Steps p.tables e below (T20.setTop (mkF m 94 #[.val (.int p1), .val (.int p2), .val (.int p3), .val (.int p4), .val (.int (f1 p1 p2)), .val (.int (f2 p1 p2)), .val (.int (f1 p3 p4)), .val (.int (f2 p3 p4)), .val (.ref b14), .val (.ref b20_x1)] [(.int (f2 p1 p2)), (.int (f1 p1 p2)), (.int ((f6_u4 (f1 p1 p2) (f1 p3 p4) (f2 p1 p2) (f2 p3 p4)) (2 : Int32)))])) t := fun t k => st52 _ k
        by_cases hc54 : (f9 ((f6_u4 (f1 p1 p2) (f1 p3 p4) (f2 p1 p2) (f2 p3 p4)) (2 : Int32)) (f1 p1 p2) (f2 p1 p2)) = (0 : Int32)
        · have K55 : ∀ t, Steps p.tables e below (T52.setTop (mkF m 118 #[.val (.int p1), .val (.int p2), .val (.int p3), .val (.int p4), .val (.int (f1 p1 p2)), .val (.int (f2 p1 p2)), .val (.int (f1 p3 p4)), .val (.int (f2 p3 p4)), .val (.ref b14), .val (.ref b20_x1)] [])) t → Steps p.tables e below (T52.setTop (mkF m 97 #[.val (.int p1), .val (.int p2), .val (.int p3), .val (.int p4), .val (.int (f1 p1 p2)), .val (.int (f2 p1 p2)), .val (.int (f1 p3 p4)), .val (.int (f2 p3 p4)), .val (.ref b14), .val (.ref b20_x1)] [(.int (f9 ((f6_u4 (f1 p1 p2) (f1 p3 p4) (f2 p1 p2) (f2 p3 p4)) (2 : Int32)) (f1 p1 p2) (f2 p1 p2)))])) t := by
            intro t k
            refine XS.ifYes X52.here hx rfl (pc0 := 97) (pc' := 118) rfl (hb hby at_97) rfl ((if0 _ _).trans (teq hc54).1) (by decide) (by decide) ?_
            exact k
          have K56 : ∀ t, Steps p.tables e below (T52.setTop (mkF m 119 #[.val (.int p1), .val (.int p2), .val (.int p3), .val (.int p4), .val (.int (f1 p1 p2)), .val (.int (f2 p1 p2)), .val (.int (f1 p3 p4)), .val (.int (f2 p3 p4)), .val (.ref b14), .val (.ref b20_x1)] [(.int (0 : Int32))])) t → Steps p.tables e below (T52.setTop (mkF m 118 #[.val (.int p1), .val (.int p2), .val (.int p3), .val (.int p4), .val (.int (f1 p1 p2)), .val (.int (f2 p1 p2)), .val (.int (f1 p3 p4)), .val (.int (f2 p3 p4)), .val (.ref b14), .val (.ref b20_x1)] [])) t := by
            intro t k
            refine XS.iconst X52.here hx rfl (hb hby at_118) ?_
            show Steps p.tables e below (T52.setTop (mkF m 119 #[.val (.int p1), .val (.int p2), .val (.int p3), .val (.int p4), .val (.int (f1 p1 p2)), .val (.int (f2 p1 p2)), .val (.int (f1 p3 p4)), .val (.int (f2 p3 p4)), .val (.ref b14), .val (.ref b20_x1)] [(.int (0 : Int32))])) t
            exact k
          obtain ⟨fs, hr, hrun, hended, hW, hsame⟩ := X52.leave (v := some (.int (0 : Int32))) (fun h => by rw [Bd.returns] at h; cases h)
          refine ⟨_, _, pre0 _ (K1 _ (K3 _ (K4 _ (K6 _ (K7 _ (K9 _ (K10 _ (K12 _ (K13 _ (K15 _ (K16 _ (K18 _ (K19 _ (K21 _ (K26 _ (K27 _ (K29 _ (K34 _ (K35 _ (K37 _ (K42 _ (K43 _ (K45 _ (K50 _ (K51 _ (K53 _ (K55 _ (K56 _ (retN X52 hx (t := .boolean) Bd.returns (by simp) (hb hby at_119) hr))))))))))))))))))))))))))))), hrun, hended, _, _, rfl, ?_, ⟨_, rfl⟩, hW, hsame.mono (by decide) (by decide)⟩
          show Q0 Z p1 p2 p3 p4 h0 n0 _ T52.heap _
          rw [e52]
          exact ⟨congrArg (fun z => some (Value.int z)) (show (0 : Int32) = f0 p1 p2 p3 p4 from Eq.symm ((if_pos hc28).trans ((if_pos hc36).trans ((if_pos hc44).trans (if_pos hc54))))), N52, KP20⟩
        · have K57 : ∀ t, Steps p.tables e below (T52.setTop (mkF m 100 #[.val (.int p1), .val (.int p2), .val (.int p3), .val (.int p4), .val (.int (f1 p1 p2)), .val (.int (f2 p1 p2)), .val (.int (f1 p3 p4)), .val (.int (f2 p3 p4)), .val (.ref b14), .val (.ref b20_x1)] [])) t → Steps p.tables e below (T52.setTop (mkF m 97 #[.val (.int p1), .val (.int p2), .val (.int p3), .val (.int p4), .val (.int (f1 p1 p2)), .val (.int (f2 p1 p2)), .val (.int (f1 p3 p4)), .val (.int (f2 p3 p4)), .val (.ref b14), .val (.ref b20_x1)] [(.int (f9 ((f6_u4 (f1 p1 p2) (f1 p3 p4) (f2 p1 p2) (f2 p3 p4)) (2 : Int32)) (f1 p1 p2) (f2 p1 p2)))])) t := by
            intro t k
            refine XS.ifNo X52.here hx rfl (hb hby at_97) rfl ((if0 _ _).trans (feq hc54).1) ?_
            exact k
          have K62 : ∀ t, Steps p.tables e below (T52.setTop (mkF m 103 #[.val (.int p1), .val (.int p2), .val (.int p3), .val (.int p4), .val (.int (f1 p1 p2)), .val (.int (f2 p1 p2)), .val (.int (f1 p3 p4)), .val (.int (f2 p3 p4)), .val (.ref b14), .val (.ref b20_x1)] [(.int (3 : Int32)), (.ref b20_x1)])) t → Steps p.tables e below (T52.setTop (mkF m 100 #[.val (.int p1), .val (.int p2), .val (.int p3), .val (.int p4), .val (.int (f1 p1 p2)), .val (.int (f2 p1 p2)), .val (.int (f1 p3 p4)), .val (.int (f2 p3 p4)), .val (.ref b14), .val (.ref b20_x1)] [])) t := by
            intro t k
            refine XS.aload X52.here hx rfl (hb hby at_100) rfl rfl ?_
            show Steps p.tables e below (T52.setTop (mkF m 102 #[.val (.int p1), .val (.int p2), .val (.int p3), .val (.int p4), .val (.int (f1 p1 p2)), .val (.int (f2 p1 p2)), .val (.int (f1 p3 p4)), .val (.int (f2 p3 p4)), .val (.ref b14), .val (.ref b20_x1)] [(.ref b20_x1)])) t
            refine XS.iconst X52.here hx rfl (hb hby at_102) ?_
            show Steps p.tables e below (T52.setTop (mkF m 103 #[.val (.int p1), .val (.int p2), .val (.int p3), .val (.int p4), .val (.int (f1 p1 p2)), .val (.int (f2 p1 p2)), .val (.int (f1 p3 p4)), .val (.int (f2 p3 p4)), .val (.ref b14), .val (.ref b20_x1)] [(.int (3 : Int32)), (.ref b20_x1)])) t
            exact k
          have hin58 : ¬ (3 : Int32) < 0 ∧ (3 : Int32) < (4 : Int32) := by exact ⟨by decide, by decide⟩
          obtain ⟨cl59, Aq60, hjhin58, aq61⟩ := Ia.at R20_0 hin58
          have K63 : ∀ t, Steps p.tables e below (T52.setTop (mkF m 108 #[.val (.int p1), .val (.int p2), .val (.int p3), .val (.int p4), .val (.int (f1 p1 p2)), .val (.int (f2 p1 p2)), .val (.int (f1 p3 p4)), .val (.int (f2 p3 p4)), .val (.ref b14), .val (.ref b20_x1)] [(.int (f2 p3 p4)), (.int (f1 p3 p4)), (.int ((f6_u4 (f1 p1 p2) (f1 p3 p4) (f2 p1 p2) (f2 p3 p4)) (3 : Int32)))])) t → Steps p.tables e below (T52.setTop (mkF m 103 #[.val (.int p1), .val (.int p2), .val (.int p3), .val (.int p4), .val (.int (f1 p1 p2)), .val (.int (f2 p1 p2)), .val (.int (f1 p3 p4)), .val (.int (f2 p3 p4)), .val (.ref b14), .val (.ref b20_x1)] [(.int (3 : Int32)), (.ref b20_x1)])) t := by
            intro t k
            refine X52.iaload hx (j := (3 : Int32)) (v := .int ((f6_u4 (f1 p1 p2) (f1 p3 p4) (f2 p1 p2) (f2 p3 p4)) (3 : Int32))) (by rw [e52]; exact Aq60.1) (State.isArrayOf_alike hZ.alike Aq60.2.1) Aq60.2.2 hjhin58 aq61 (g := (mkF m 103 #[.val (.int p1), .val (.int p2), .val (.int p3), .val (.int p4), .val (.int (f1 p1 p2)), .val (.int (f2 p1 p2)), .val (.int (f1 p3 p4)), .val (.int (f2 p3 p4)), .val (.ref b14), .val (.ref b20_x1)] [(.int (3 : Int32)), (.ref b20_x1)])) rfl rfl (hb hby at_103) _ ?_
            show Steps p.tables e below (T52.setTop (mkF m 104 #[.val (.int p1), .val (.int p2), .val (.int p3), .val (.int p4), .val (.int (f1 p1 p2)), .val (.int (f2 p1 p2)), .val (.int (f1 p3 p4)), .val (.int (f2 p3 p4)), .val (.ref b14), .val (.ref b20_x1)] [(.int ((f6_u4 (f1 p1 p2) (f1 p3 p4) (f2 p1 p2) (f2 p3 p4)) (3 : Int32)))])) t
            refine XS.iload X52.here hx rfl (hb hby at_104) rfl ?_
            show Steps p.tables e below (T52.setTop (mkF m 106 #[.val (.int p1), .val (.int p2), .val (.int p3), .val (.int p4), .val (.int (f1 p1 p2)), .val (.int (f2 p1 p2)), .val (.int (f1 p3 p4)), .val (.int (f2 p3 p4)), .val (.ref b14), .val (.ref b20_x1)] [(.int (f1 p3 p4)), (.int ((f6_u4 (f1 p1 p2) (f1 p3 p4) (f2 p1 p2) (f2 p3 p4)) (3 : Int32)))])) t
            refine XS.iload X52.here hx rfl (hb hby at_106) rfl ?_
            show Steps p.tables e below (T52.setTop (mkF m 108 #[.val (.int p1), .val (.int p2), .val (.int p3), .val (.int p4), .val (.int (f1 p1 p2)), .val (.int (f2 p1 p2)), .val (.int (f1 p3 p4)), .val (.int (f2 p3 p4)), .val (.ref b14), .val (.ref b20_x1)] [(.int (f2 p3 p4)), (.int (f1 p3 p4)), (.int ((f6_u4 (f1 p1 p2) (f1 p3 p4) (f2 p1 p2) (f2 p3 p4)) (3 : Int32)))])) t
            exact k
          obtain ⟨_, _, ⟨T64, L64, k64, n64⟩, -, X64, ⟨Lc64, hQ64, l64, y64, z64⟩, st64⟩ := Jvm.LawKit.callS X52 hx (y := (⟨"com/example/gutter/gutter/layout/RectToBoxPinLaw", "sizeOk", "(III)Z"⟩ : MethodName)) hown (mvT hZ (hw _ (List.mem_of_getElem? (i := 45) rfl))) (mvT hZ (hw _ (List.mem_of_getElem? (i := 46) rfl))) (mvT hZ (hw _ (List.mem_of_getElem? (i := 47) rfl))) (mvT hZ (hw _ (List.mem_of_getElem? (i := 48) rfl))) (by decide) (backOf (W := 0) (rm9 l Z a0 hw [] ((f6_u4 (f1 p1 p2) (f1 p3 p4) (f2 p1 p2) (f2 p3 p4)) (3 : Int32)) (f1 p3 p4) (f2 p3 p4) h20 n0 (Nat.le_trans Z0 KP20.1) ) hZ (hw _ (List.mem_of_getElem? (i := 48) rfl)) (hw _ (List.mem_of_getElem? (i := 47) rfl)) (by decide) (by decide)) (g := (mkF m 108 #[.val (.int p1), .val (.int p2), .val (.int p3), .val (.int p4), .val (.int (f1 p1 p2)), .val (.int (f2 p1 p2)), .val (.int (f1 p3 p4)), .val (.int (f2 p3 p4)), .val (.ref b14), .val (.ref b20_x1)] [(.int (f2 p3 p4)), (.int (f1 p3 p4)), (.int ((f6_u4 (f1 p1 p2) (f1 p3 p4) (f2 p1 p2) (f2 p3 p4)) (3 : Int32)))])) rfl (by rw [hml]; rfl) (argsL := [(.int ((f6_u4 (f1 p1 p2) (f1 p3 p4) (f2 p1 p2) (f2 p3 p4)) (3 : Int32))), (.int (f1 p3 p4)), (.int (f2 p3 p4))]) (rest := []) (lenOf pd_5 rfl) rfl (by show 2 * 0 + _ ≤ _; exact Nat.le_of_eq rfl) (hb hby at_108) (fun _ _ => ⟨rfl, e52, (by decide : 2 + 0 ≤ _), (by decide : 8 + 0 ≤ _)⟩)
          dsimp only [Pt.U, Pt.locs, Pt.cells, Pt.slots] at X64 l64 y64 z64 st64 hQ64
          subst l64 y64 z64
          obtain ⟨rfl, N64q, e64⟩ := hQ64
          have N64 := Fr.app N52 N64q
          have K65 : ∀ t, Steps p.tables e below (T64.setTop (mkF m 111 #[.val (.int p1), .val (.int p2), .val (.int p3), .val (.int p4), .val (.int (f1 p1 p2)), .val (.int (f2 p1 p2)), .val (.int (f1 p3 p4)), .val (.int (f2 p3 p4)), .val (.ref b14), .val (.ref b20_x1)] [(.int (f9 ((f6_u4 (f1 p1 p2) (f1 p3 p4) (f2 p1 p2) (f2 p3 p4)) (3 : Int32)) (f1 p3 p4) (f2 p3 p4)))])) t → Steps p.tables e below (T52.setTop (mkF m 108 #[.val (.int p1), .val (.int p2), .val (.int p3), .val (.int p4), .val (.int (f1 p1 p2)), .val (.int (f2 p1 p2)), .val (.int (f1 p3 p4)), .val (.int (f2 p3 p4)), .val (.ref b14), .val (.ref b20_x1)] [(.int (f2 p3 p4)), (.int (f1 p3 p4)), (.int ((f6_u4 (f1 p1 p2) (f1 p3 p4) (f2 p1 p2) (f2 p3 p4)) (3 : Int32)))])) t := fun t k => st64 _ k
          by_cases hc66 : (f9 ((f6_u4 (f1 p1 p2) (f1 p3 p4) (f2 p1 p2) (f2 p3 p4)) (3 : Int32)) (f1 p3 p4) (f2 p3 p4)) = (0 : Int32)
          · have K67 : ∀ t, Steps p.tables e below (T64.setTop (mkF m 118 #[.val (.int p1), .val (.int p2), .val (.int p3), .val (.int p4), .val (.int (f1 p1 p2)), .val (.int (f2 p1 p2)), .val (.int (f1 p3 p4)), .val (.int (f2 p3 p4)), .val (.ref b14), .val (.ref b20_x1)] [])) t → Steps p.tables e below (T64.setTop (mkF m 111 #[.val (.int p1), .val (.int p2), .val (.int p3), .val (.int p4), .val (.int (f1 p1 p2)), .val (.int (f2 p1 p2)), .val (.int (f1 p3 p4)), .val (.int (f2 p3 p4)), .val (.ref b14), .val (.ref b20_x1)] [(.int (f9 ((f6_u4 (f1 p1 p2) (f1 p3 p4) (f2 p1 p2) (f2 p3 p4)) (3 : Int32)) (f1 p3 p4) (f2 p3 p4)))])) t := by
              intro t k
              refine XS.ifYes X64.here hx rfl (pc0 := 111) (pc' := 118) rfl (hb hby at_111) rfl ((if0 _ _).trans (teq hc66).1) (by decide) (by decide) ?_
              exact k
            have K68 : ∀ t, Steps p.tables e below (T64.setTop (mkF m 119 #[.val (.int p1), .val (.int p2), .val (.int p3), .val (.int p4), .val (.int (f1 p1 p2)), .val (.int (f2 p1 p2)), .val (.int (f1 p3 p4)), .val (.int (f2 p3 p4)), .val (.ref b14), .val (.ref b20_x1)] [(.int (0 : Int32))])) t → Steps p.tables e below (T64.setTop (mkF m 118 #[.val (.int p1), .val (.int p2), .val (.int p3), .val (.int p4), .val (.int (f1 p1 p2)), .val (.int (f2 p1 p2)), .val (.int (f1 p3 p4)), .val (.int (f2 p3 p4)), .val (.ref b14), .val (.ref b20_x1)] [])) t := by
              intro t k
              refine XS.iconst X64.here hx rfl (hb hby at_118) ?_
              show Steps p.tables e below (T64.setTop (mkF m 119 #[.val (.int p1), .val (.int p2), .val (.int p3), .val (.int p4), .val (.int (f1 p1 p2)), .val (.int (f2 p1 p2)), .val (.int (f1 p3 p4)), .val (.int (f2 p3 p4)), .val (.ref b14), .val (.ref b20_x1)] [(.int (0 : Int32))])) t
              exact k
            obtain ⟨fs, hr, hrun, hended, hW, hsame⟩ := X64.leave (v := some (.int (0 : Int32))) (fun h => by rw [Bd.returns] at h; cases h)
            refine ⟨_, _, pre0 _ (K1 _ (K3 _ (K4 _ (K6 _ (K7 _ (K9 _ (K10 _ (K12 _ (K13 _ (K15 _ (K16 _ (K18 _ (K19 _ (K21 _ (K26 _ (K27 _ (K29 _ (K34 _ (K35 _ (K37 _ (K42 _ (K43 _ (K45 _ (K50 _ (K51 _ (K53 _ (K57 _ (K62 _ (K63 _ (K65 _ (K67 _ (K68 _ (retN X64 hx (t := .boolean) Bd.returns (by simp) (hb hby at_119) hr))))))))))))))))))))))))))))))))), hrun, hended, _, _, rfl, ?_, ⟨_, rfl⟩, hW, hsame.mono (by decide) (by decide)⟩
            show Q0 Z p1 p2 p3 p4 h0 n0 _ T64.heap _
            rw [e64]
            exact ⟨congrArg (fun z => some (Value.int z)) (show (0 : Int32) = f0 p1 p2 p3 p4 from Eq.symm ((if_pos hc28).trans ((if_pos hc36).trans ((if_pos hc44).trans ((if_neg hc54).trans (if_pos hc66)))))), N64, KP20⟩
          · have K69 : ∀ t, Steps p.tables e below (T64.setTop (mkF m 114 #[.val (.int p1), .val (.int p2), .val (.int p3), .val (.int p4), .val (.int (f1 p1 p2)), .val (.int (f2 p1 p2)), .val (.int (f1 p3 p4)), .val (.int (f2 p3 p4)), .val (.ref b14), .val (.ref b20_x1)] [])) t → Steps p.tables e below (T64.setTop (mkF m 111 #[.val (.int p1), .val (.int p2), .val (.int p3), .val (.int p4), .val (.int (f1 p1 p2)), .val (.int (f2 p1 p2)), .val (.int (f1 p3 p4)), .val (.int (f2 p3 p4)), .val (.ref b14), .val (.ref b20_x1)] [(.int (f9 ((f6_u4 (f1 p1 p2) (f1 p3 p4) (f2 p1 p2) (f2 p3 p4)) (3 : Int32)) (f1 p3 p4) (f2 p3 p4)))])) t := by
              intro t k
              refine XS.ifNo X64.here hx rfl (hb hby at_111) rfl ((if0 _ _).trans (feq hc66).1) ?_
              exact k
            have K70 : ∀ t, Steps p.tables e below (T64.setTop (mkF m 119 #[.val (.int p1), .val (.int p2), .val (.int p3), .val (.int p4), .val (.int (f1 p1 p2)), .val (.int (f2 p1 p2)), .val (.int (f1 p3 p4)), .val (.int (f2 p3 p4)), .val (.ref b14), .val (.ref b20_x1)] [(.int (1 : Int32))])) t → Steps p.tables e below (T64.setTop (mkF m 114 #[.val (.int p1), .val (.int p2), .val (.int p3), .val (.int p4), .val (.int (f1 p1 p2)), .val (.int (f2 p1 p2)), .val (.int (f1 p3 p4)), .val (.int (f2 p3 p4)), .val (.ref b14), .val (.ref b20_x1)] [])) t := by
              intro t k
              refine XS.iconst X64.here hx rfl (hb hby at_114) ?_
              show Steps p.tables e below (T64.setTop (mkF m 115 #[.val (.int p1), .val (.int p2), .val (.int p3), .val (.int p4), .val (.int (f1 p1 p2)), .val (.int (f2 p1 p2)), .val (.int (f1 p3 p4)), .val (.int (f2 p3 p4)), .val (.ref b14), .val (.ref b20_x1)] [(.int (1 : Int32))])) t
              refine XS.goto X64.here hx rfl (pc0 := 115) (pc' := 119) rfl (hb hby at_115) (by decide) (by decide) ?_
              show Steps p.tables e below (T64.setTop (mkF m 119 #[.val (.int p1), .val (.int p2), .val (.int p3), .val (.int p4), .val (.int (f1 p1 p2)), .val (.int (f2 p1 p2)), .val (.int (f1 p3 p4)), .val (.int (f2 p3 p4)), .val (.ref b14), .val (.ref b20_x1)] [(.int (1 : Int32))])) t
              exact k
            obtain ⟨fs, hr, hrun, hended, hW, hsame⟩ := X64.leave (v := some (.int (1 : Int32))) (fun h => by rw [Bd.returns] at h; cases h)
            refine ⟨_, _, pre0 _ (K1 _ (K3 _ (K4 _ (K6 _ (K7 _ (K9 _ (K10 _ (K12 _ (K13 _ (K15 _ (K16 _ (K18 _ (K19 _ (K21 _ (K26 _ (K27 _ (K29 _ (K34 _ (K35 _ (K37 _ (K42 _ (K43 _ (K45 _ (K50 _ (K51 _ (K53 _ (K57 _ (K62 _ (K63 _ (K65 _ (K69 _ (K70 _ (retN X64 hx (t := .boolean) Bd.returns (by simp) (hb hby at_119) hr))))))))))))))))))))))))))))))))), hrun, hended, _, _, rfl, ?_, ⟨_, rfl⟩, hW, hsame.mono (by decide) (by decide)⟩
            show Q0 Z p1 p2 p3 p4 h0 n0 _ T64.heap _
            rw [e64]
            exact ⟨congrArg (fun z => some (Value.int z)) (show (1 : Int32) = f0 p1 p2 p3 p4 from Eq.symm ((if_pos hc28).trans ((if_pos hc36).trans ((if_pos hc44).trans ((if_neg hc54).trans (if_neg hc66)))))), N64, KP20⟩
      · have K71 : ∀ t, Steps p.tables e below (T20.setTop (mkF m 84 #[.val (.int p1), .val (.int p2), .val (.int p3), .val (.int p4), .val (.int (f1 p1 p2)), .val (.int (f2 p1 p2)), .val (.int (f1 p3 p4)), .val (.int (f2 p3 p4)), .val (.ref b14), .val (.ref b20_x1)] [])) t → Steps p.tables e below (T20.setTop (mkF m 81 #[.val (.int p1), .val (.int p2), .val (.int p3), .val (.int p4), .val (.int (f1 p1 p2)), .val (.int (f2 p1 p2)), .val (.int (f1 p3 p4)), .val (.int (f2 p3 p4)), .val (.ref b14), .val (.ref b20_x1)] [(.int (f1 p3 p4)), (.int ((f6_u4 (f1 p1 p2) (f1 p3 p4) (f2 p1 p2) (f2 p3 p4)) (1 : Int32)))])) t := by
          intro t k
          refine XS.icmpNo X20.here hx rfl (hb hby at_81) rfl (feq hc44).1 ?_
          exact k
        have K72 : ∀ t, Steps p.tables e below (T20.setTop (mkF m 85 #[.val (.int p1), .val (.int p2), .val (.int p3), .val (.int p4), .val (.int (f1 p1 p2)), .val (.int (f2 p1 p2)), .val (.int (f1 p3 p4)), .val (.int (f2 p3 p4)), .val (.ref b14), .val (.ref b20_x1)] [(.int (0 : Int32))])) t → Steps p.tables e below (T20.setTop (mkF m 84 #[.val (.int p1), .val (.int p2), .val (.int p3), .val (.int p4), .val (.int (f1 p1 p2)), .val (.int (f2 p1 p2)), .val (.int (f1 p3 p4)), .val (.int (f2 p3 p4)), .val (.ref b14), .val (.ref b20_x1)] [])) t := by
          intro t k
          refine XS.iconst X20.here hx rfl (hb hby at_84) ?_
          show Steps p.tables e below (T20.setTop (mkF m 85 #[.val (.int p1), .val (.int p2), .val (.int p3), .val (.int p4), .val (.int (f1 p1 p2)), .val (.int (f2 p1 p2)), .val (.int (f1 p3 p4)), .val (.int (f2 p3 p4)), .val (.ref b14), .val (.ref b20_x1)] [(.int (0 : Int32))])) t
          exact k
        obtain ⟨fs, hr, hrun, hended, hW, hsame⟩ := X20.leave (v := some (.int (0 : Int32))) (fun h => by rw [Bd.returns] at h; cases h)
        refine ⟨_, _, pre0 _ (K1 _ (K3 _ (K4 _ (K6 _ (K7 _ (K9 _ (K10 _ (K12 _ (K13 _ (K15 _ (K16 _ (K18 _ (K19 _ (K21 _ (K26 _ (K27 _ (K29 _ (K34 _ (K35 _ (K37 _ (K42 _ (K43 _ (K71 _ (K72 _ (retN X20 hx (t := .boolean) Bd.returns (by simp) (hb hby at_85) hr))))))))))))))))))))))))), hrun, hended, _, _, rfl, ?_, ⟨_, rfl⟩, hW, hsame.mono (by decide) (by decide)⟩
        show Q0 Z p1 p2 p3 p4 h0 n0 _ T20.heap _
        rw [e20]
        exact ⟨congrArg (fun z => some (Value.int z)) (show (0 : Int32) = f0 p1 p2 p3 p4 from Eq.symm ((if_pos hc28).trans ((if_pos hc36).trans (if_neg hc44)))), N20, KP20⟩
    · have K73 : ∀ t, Steps p.tables e below (T20.setTop (mkF m 84 #[.val (.int p1), .val (.int p2), .val (.int p3), .val (.int p4), .val (.int (f1 p1 p2)), .val (.int (f2 p1 p2)), .val (.int (f1 p3 p4)), .val (.int (f2 p3 p4)), .val (.ref b14), .val (.ref b20_x1)] [])) t → Steps p.tables e below (T20.setTop (mkF m 72 #[.val (.int p1), .val (.int p2), .val (.int p3), .val (.int p4), .val (.int (f1 p1 p2)), .val (.int (f2 p1 p2)), .val (.int (f1 p3 p4)), .val (.int (f2 p3 p4)), .val (.ref b14), .val (.ref b20_x1)] [(.int (f1 p1 p2)), (.int ((f6_u4 (f1 p1 p2) (f1 p3 p4) (f2 p1 p2) (f2 p3 p4)) (0 : Int32)))])) t := by
        intro t k
        refine XS.icmpYes X20.here hx rfl (pc0 := 72) (pc' := 84) rfl (hb hby at_72) rfl (feq hc36).2 (by decide) (by decide) ?_
        exact k
      have K74 : ∀ t, Steps p.tables e below (T20.setTop (mkF m 85 #[.val (.int p1), .val (.int p2), .val (.int p3), .val (.int p4), .val (.int (f1 p1 p2)), .val (.int (f2 p1 p2)), .val (.int (f1 p3 p4)), .val (.int (f2 p3 p4)), .val (.ref b14), .val (.ref b20_x1)] [(.int (0 : Int32))])) t → Steps p.tables e below (T20.setTop (mkF m 84 #[.val (.int p1), .val (.int p2), .val (.int p3), .val (.int p4), .val (.int (f1 p1 p2)), .val (.int (f2 p1 p2)), .val (.int (f1 p3 p4)), .val (.int (f2 p3 p4)), .val (.ref b14), .val (.ref b20_x1)] [])) t := by
        intro t k
        refine XS.iconst X20.here hx rfl (hb hby at_84) ?_
        show Steps p.tables e below (T20.setTop (mkF m 85 #[.val (.int p1), .val (.int p2), .val (.int p3), .val (.int p4), .val (.int (f1 p1 p2)), .val (.int (f2 p1 p2)), .val (.int (f1 p3 p4)), .val (.int (f2 p3 p4)), .val (.ref b14), .val (.ref b20_x1)] [(.int (0 : Int32))])) t
        exact k
      obtain ⟨fs, hr, hrun, hended, hW, hsame⟩ := X20.leave (v := some (.int (0 : Int32))) (fun h => by rw [Bd.returns] at h; cases h)
      refine ⟨_, _, pre0 _ (K1 _ (K3 _ (K4 _ (K6 _ (K7 _ (K9 _ (K10 _ (K12 _ (K13 _ (K15 _ (K16 _ (K18 _ (K19 _ (K21 _ (K26 _ (K27 _ (K29 _ (K34 _ (K35 _ (K73 _ (K74 _ (retN X20 hx (t := .boolean) Bd.returns (by simp) (hb hby at_85) hr)))))))))))))))))))))), hrun, hended, _, _, rfl, ?_, ⟨_, rfl⟩, hW, hsame.mono (by decide) (by decide)⟩
      show Q0 Z p1 p2 p3 p4 h0 n0 _ T20.heap _
      rw [e20]
      exact ⟨congrArg (fun z => some (Value.int z)) (show (0 : Int32) = f0 p1 p2 p3 p4 from Eq.symm ((if_pos hc28).trans (if_neg hc36))), N20, KP20⟩
  · have K75 : ∀ t, Steps p.tables e below (T20.setTop (mkF m 64 #[.val (.int p1), .val (.int p2), .val (.int p3), .val (.int p4), .val (.int (f1 p1 p2)), .val (.int (f2 p1 p2)), .val (.int (f1 p3 p4)), .val (.int (f2 p3 p4)), .val (.ref b14), .val (.ref b20_x1)] [])) t → Steps p.tables e below (T20.setTop (mkF m 61 #[.val (.int p1), .val (.int p2), .val (.int p3), .val (.int p4), .val (.int (f1 p1 p2)), .val (.int (f2 p1 p2)), .val (.int (f1 p3 p4)), .val (.int (f2 p3 p4)), .val (.ref b14), .val (.ref b20_x1)] [(.int (4 : Int32)), (.int (4 : Int32))])) t := by
      intro t k
      refine XS.icmpNo X20.here hx rfl (hb hby at_61) rfl (feq hc28).1 ?_
      exact k
    have K76 : ∀ t, Steps p.tables e below (T20.setTop (mkF m 65 #[.val (.int p1), .val (.int p2), .val (.int p3), .val (.int p4), .val (.int (f1 p1 p2)), .val (.int (f2 p1 p2)), .val (.int (f1 p3 p4)), .val (.int (f2 p3 p4)), .val (.ref b14), .val (.ref b20_x1)] [(.int (0 : Int32))])) t → Steps p.tables e below (T20.setTop (mkF m 64 #[.val (.int p1), .val (.int p2), .val (.int p3), .val (.int p4), .val (.int (f1 p1 p2)), .val (.int (f2 p1 p2)), .val (.int (f1 p3 p4)), .val (.int (f2 p3 p4)), .val (.ref b14), .val (.ref b20_x1)] [])) t := by
      intro t k
      refine XS.iconst X20.here hx rfl (hb hby at_64) ?_
      show Steps p.tables e below (T20.setTop (mkF m 65 #[.val (.int p1), .val (.int p2), .val (.int p3), .val (.int p4), .val (.int (f1 p1 p2)), .val (.int (f2 p1 p2)), .val (.int (f1 p3 p4)), .val (.int (f2 p3 p4)), .val (.ref b14), .val (.ref b20_x1)] [(.int (0 : Int32))])) t
      exact k
    obtain ⟨fs, hr, hrun, hended, hW, hsame⟩ := X20.leave (v := some (.int (0 : Int32))) (fun h => by rw [Bd.returns] at h; cases h)
    refine ⟨_, _, pre0 _ (K1 _ (K3 _ (K4 _ (K6 _ (K7 _ (K9 _ (K10 _ (K12 _ (K13 _ (K15 _ (K16 _ (K18 _ (K19 _ (K21 _ (K26 _ (K27 _ (K75 _ (K76 _ (retN X20 hx (t := .boolean) Bd.returns (by simp) (hb hby at_65) hr))))))))))))))))))), hrun, hended, _, _, rfl, ?_, ⟨_, rfl⟩, hW, hsame.mono (by decide) (by decide)⟩
    show Q0 Z p1 p2 p3 p4 h0 n0 _ T20.heap _
    rw [e20]
    exact ⟨congrArg (fun z => some (Value.int z)) (show (0 : Int32) = f0 p1 p2 p3 p4 from Eq.symm (if_neg hc28)), N20, KP20⟩
theorem own_nine (lo hi : Int32) (h : ¬ hi < lo) : f9 (hi - lo) lo hi = 1 := by
  have r1 := lo.le_toInt
  have r2 := lo.toInt_lt
  have r3 := hi.le_toInt
  have r4 := hi.toInt_lt
  have hh : ¬ (hi.toInt < lo.toInt) := fun q => h (Int32.lt_iff_toInt_lt.mpr q)
  have em : (2147483647 : Int64).toInt = 2147483647 := by decide
  have e : (hi.toInt64 - lo.toInt64).toInt = hi.toInt - lo.toInt := by
    rw [Int64.toInt_sub, Int32.toInt_toInt64, Int32.toInt_toInt64]
    exact Int.bmod_eq_of_le (by omega) (by omega)
  unfold f9
  by_cases c : (2147483647 : Int64) < hi.toInt64 - lo.toInt64
  · rw [if_pos ((own_gt _ _).mpr c)]
    refine if_pos (Int32.toInt_inj.mp ?_)
    rw [Int64.toInt_toInt32, e, Int32.toInt_sub]
  · rw [if_neg (fun q => c ((own_gt _ _).mp q))]
    have c' : ¬ ((2147483647 : Int64).toInt < (hi.toInt64 - lo.toInt64).toInt) := fun q => c (Int64.lt_iff_toInt_lt.mpr q)
    refine if_pos ((own_eq0 _ _).mpr (Int64.toInt_inj.mp ?_))
    rw [e, Int32.toInt_toInt64, Int32.toInt_sub]
    exact Int.bmod_eq_of_le (by omega) (by omega)
theorem plain (a b c d : Int32) : f0 a b c d = 1 := by
  have h1 := own_nine (f1 a b) (f2 a b) (own_mm a b)
  have h2 := own_nine (f1 c d) (f2 c d) (own_mm c d)
  refine (if_pos rfl).trans ((if_pos rfl).trans ((if_pos rfl).trans ((if_neg ?_).trans (if_neg ?_))))
  · show ¬ (f9 (f2 a b - f1 a b) (f1 a b) (f2 a b) = 0)
    rw [h1]; decide
  · show ¬ (f9 (f2 c d - f1 c d) (f1 c d) (f2 c d) = 0)
    rw [h2]; decide
set_option maxRecDepth 65536 in
set_option maxHeartbeats 40000000 in
theorem comes_1 {Post : Tables → Env → Array Value → State → Outcome → State → Prop} (hpost : ∀ tb e args s v u, (limb_1_1.after args s (.returned v) u = true ∧ limb_1_2.after args s (.returned v) u = true ∧ True) → FrameEnd s (.returned v) u (Jvm.fieldLocs frame_1_writes args s ++ Jvm.arrayLocs frame_1_arrays args s ++ Jvm.staticLocs frame_1_statics s) 16 128 → Post tb e args s (.returned v) u) :
    ArmFor flags0 classFile x code maxLocals ret World_1 tables_1 room_1 Calls_1 rest_1 Pre_1 Post := by
  intro l hfl _ _ p e ha hc hk s m args below hf hA hF happ hP
  obtain ⟨hcalls, hrest, hpre⟩ := hP
  obtain ⟨-, -, -, hnamed, -, -, -, hat⟩ := (Spec.applies_iff hf).mp happ
  obtain ⟨hg, hn⟩ := and_e (Cond.before_iff.mp (show (Jvm.Cond.and given_1 narrow_1).before args s = true from hpre))
  obtain ⟨gc, g0⟩ := and_e hg
  obtain ⟨gi0, g1⟩ := and_e g0
  obtain ⟨gi1, g2⟩ := and_e g1
  obtain ⟨gi2, g3⟩ := and_e g2
  have gi3 := g3
  obtain ⟨w0, w1, w2, w3, rfl⟩ : ∃ w0 w1 w2 w3 : Value, args = #[w0, w1, w2, w3] := by
    have hs : args.size = 4 := by simpa [Cond.value, given_1] using gc
    obtain ⟨L⟩ := args
    match L, hs with
    | [w0, w1, w2, w3], _ => exact ⟨w0, w1, w2, w3, rfl⟩
  have hw := fun d (hd : d ∈ tables_1) => atoms_spec (ws := Jvm.Cond.code x code maxLocals ret :: tables_1) hat d (List.mem_cons_of_mem _ hd)
  have hfit : Fit s := fun {y c} hc i hi => by
    obtain ⟨ha, rfl⟩ := Array.getElem?_eq_some_iff.mp hc
    have q := List.all_eq_true.mp ((Array.all_eq_true_iff_forall_mem.mp hF) _ (Array.getElem_mem ha)) i (List.mem_range.mpr hi)
    simpa [Array.getElem?_eq_getElem hi] using q
  obtain ⟨i0, ei0⟩ := is_v gi0
  obtain rfl : w0 = (.int i0) := Option.some.inj ei0
  obtain ⟨i1, ei1⟩ := is_v gi1
  obtain rfl : w1 = (.int i1) := Option.some.inj ei1
  obtain ⟨i2, ei2⟩ := is_v gi2
  obtain rfl : w2 = (.int i2) := Option.some.inj ei2
  obtain ⟨i3, ei3⟩ := is_v gi3
  obtain rfl : w3 = (.int i3) := Option.some.inj ei3
  obtain ⟨n, o, h1, h2, h3, v, L, rfl, ⟨hv, N, -⟩, hq⟩ := rm0 l s _ hw tables_1 i0 i1 i2 i3 s.heap s.heap.size (Nat.le_refl _)  p e ha hc hk s m _ below hf ((Spec.applies_iff_loose hf).mp happ).1 ⟨rfl, State.Warmed39.refl s, rfl⟩ trivial
  rw [plain i0 i1 i2 i3] at hv
  subst hv
  refine ⟨n, _, h1, h2, h3, hpost _ _ _ _ _ _ ⟨Cond.after_iff.mpr rfl, Cond.after_iff.mpr (eq_i res_at (Term.int_eval (1)) rfl), trivial⟩ ⟨hq.1, hq.2.1, (hq.2.2.sift fun y hy => Or.inr (N y hy)).mono (by decide) (by decide)⟩⟩
theorem main_1_1 : Claimed_1_1 := comes_1 fun _ _ _ _ _ _ h hF => ⟨h.1, hF⟩
theorem main_1_2 : Claimed_1_2 := comes_1 fun _ _ _ _ _ _ h hF => ⟨h.2.1, hF⟩
end Jvm.Pilot.@@N@@
namespace Jvm.Pilot.@@N@@
open Jvm Jvm.ClassFile Sem Op Lib Jvm.Free Jvm.Stand Jvm.Pilot.@@N@@.Jvm.D
/-! MADE BY PROGRAM (witnessworld.py) out of the Statement's table words and the real class files: 11 classes; the members and pool entries that the words name. The judged class is class 1, her method 1. -/
namespace start1
open Jvm.ClassFile
def u (s : String) : CpInfo := .utf8 (stringToUtf16 s)
/-- a pool by its gaps: so many unusable entries, then the entry; so many at the end -/
def gap : Nat → List CpInfo → List CpInfo
  | 0, r => r
  | n + 1, r => .unusable :: gap n r
def poolList (es : List (Nat × CpInfo)) (last : Nat) : List CpInfo := es.foldr (fun e r => gap e.1 (e.2 :: r)) (gap last [])
def pool (es : List (Nat × CpInfo)) (last : Nat) : Array CpInfo := ⟨poolList es last⟩
def fileOf (pool : Array CpInfo) (this : Nat) (attrs : Array Attribute := #[]) (ms : Array MethodInfo := #[]) (fl : Nat := 33) (sup : Nat := 0) (ifs : Array Nat := #[]) (fds : Array FieldInfo := #[]) : ClassFile where
  minorVersion := 0
  majorVersion := 65
  constantPool := pool
  accessFlags := fl
  thisClass := this
  superClass := sup
  interfaces := ifs
  fields := fds
  methods := ms
  attributes := attrs
def plain (name : String) (sup : Option ClassId) : Class where
  name := name
  kind := .ordinary
  loader := none
  accessFlags := 33
  super := sup
  interfaces := #[]
  cf := none
  fields := #[]
  methods := #[]
  instanceTypes := #[]
  staticTypes := #[]
  resolved := #[]
  callSites := []
  init := .initialized
  statics := none
  mirror := none

def pool0 : Array CpInfo := pool [(5, u "<init>"), (0, u "()V"), (1, .class_ 10), (1, u "java/lang/Object")] 113

def k0c0 : Code := { maxStack := 0, maxLocals := 1, code := object_method_1_code, exceptionTable := #[], attributes := #[] }
def k0m0 : Method := { name := "<init>", desc := "()V", sig := { parameters := [], returnType := none }, accessFlags := 1, code := some k0c0 }
/-- java/lang/Object -/
def k0 : Class := { plain "java/lang/Object" none with
  accessFlags := 33
  interfaces := #[]
  cf := some (fileOf pool0 8 #[] #[{ accessFlags := 1, nameIndex := 5, descriptorIndex := 6, attributes := #[] }] 33 0 #[] #[])
  fields := #[]
  methods := #[k0m0]
  instanceTypes := #[]
  staticTypes := #[]
  resolved := Array.replicate 124 none
  statics := none }

def pool1 : Array CpInfo := pool [(2, .class_ 4), (1, u "java/lang/Object"), (0, u "<init>"), (0, u "()V"), (0, .methodref 8 9), (0, .class_ 10), (0, .nameAndType 11 12), (0, u "java/lang/Math"), (0, u "min"), (0, u "(II)I"), (0, .methodref 8 14), (0, .nameAndType 15 12), (0, u "max"), (0, .class_ 17), (0, u "com/example/gutter/gutter/layout/Rect"), (0, .methodref 16 19), (0, .nameAndType 5 20), (0, u "(IIII)V"), (0, .methodref 16 22), (0, .nameAndType 23 24), (0, u "toBox"), (0, u "()[I"), (0, .methodref 26 27), (0, .class_ 28), (0, .nameAndType 29 30), (0, u "com/example/gutter/gutter/layout/RectToBoxPinLaw"), (0, u "sizeOk"), (0, u "(III)Z"), (2, .long 2147483647), (3, u "law"), (0, u "(IIII)Z")] 5

def k1m0 : Method := { name := "<init>", desc := "()V", sig := { parameters := [], returnType := none }, accessFlags := 1, code := none }
def k1c1 : Code := { maxStack := 6, maxLocals := 10, code := code, exceptionTable := #[], attributes := #[] }
def k1m1 : Method := { name := "law", desc := "(IIII)Z", sig := { parameters := [.int, .int, .int, .int], returnType := some .boolean }, accessFlags := 9, code := some k1c1 }
def k1c2 : Code := { maxStack := 4, maxLocals := 5, code := method_3_code, exceptionTable := #[], attributes := #[] }
def k1m2 : Method := { name := "sizeOk", desc := "(III)Z", sig := { parameters := [.int, .int, .int], returnType := some .boolean }, accessFlags := 10, code := some k1c2 }
/-- com/example/gutter/gutter/layout/RectToBoxPinLaw -/
def k1 : Class := { plain "com/example/gutter/gutter/layout/RectToBoxPinLaw" (some 0) with
  accessFlags := 49
  interfaces := #[]
  cf := some (fileOf pool1 26 #[] #[{ accessFlags := 1, nameIndex := 5, descriptorIndex := 6, attributes := #[] }, { accessFlags := 9, nameIndex := 37, descriptorIndex := 38, attributes := #[] }, { accessFlags := 10, nameIndex := 29, descriptorIndex := 30, attributes := #[] }] 49 2 #[] #[])
  fields := #[]
  methods := #[k1m0, k1m1, k1m2]
  instanceTypes := #[]
  staticTypes := #[]
  resolved := Array.replicate 44 none
  statics := none }

def pool2 : Array CpInfo := pool [(1, .class_ 2), (0, u "java/lang/Math"), (1, .class_ 6), (1, u "java/lang/Object"), (0, u "<init>"), (0, u "()V"), (89, .class_ 100), (1, u "java/lang/Math$RandomNumberGeneratorHolder"), (71, u "negativeZeroFloatBits"), (0, u "J"), (2, u "negativeZeroDoubleBits"), (21, u "max"), (2, u "min"), (43, u "$assertionsDisabled"), (0, u "Z"), (88, u "(II)I"), (2, u "twoToTheDoubleScaleDown"), (0, u "D"), (4, u "twoToTheDoubleScaleUp"), (9, u "E"), (3, u "PI"), (2, u "TAU"), (2, u "DEGREES_TO_RADIANS"), (0, u "RADIANS_TO_DEGREES")] 94

def k2m0 : Method := { name := "<init>", desc := "()V", sig := { parameters := [], returnType := none }, accessFlags := 2, code := none }
def k2c1 : Code := { maxStack := 2, maxLocals := 2, code := jdk_29_method_65_code, exceptionTable := #[], attributes := #[] }
def k2m1 : Method := { name := "max", desc := "(II)I", sig := { parameters := [.int, .int], returnType := some .int }, accessFlags := 9, code := some k2c1 }
def k2c2 : Code := { maxStack := 2, maxLocals := 2, code := jdk_29_method_69_code, exceptionTable := #[], attributes := #[] }
def k2m2 : Method := { name := "min", desc := "(II)I", sig := { parameters := [.int, .int], returnType := some .int }, accessFlags := 9, code := some k2c2 }
/-- java/lang/Math -/
def k2 : Class := { plain "java/lang/Math" (some 0) with
  accessFlags := 49
  interfaces := #[]
  cf := some (fileOf pool2 1 #[.nestMembers #[98]] #[{ accessFlags := 2, nameIndex := 7, descriptorIndex := 8, attributes := #[] }, { accessFlags := 9, nameIndex := 198, descriptorIndex := 335, attributes := #[] }, { accessFlags := 9, nameIndex := 201, descriptorIndex := 335, attributes := #[] }] 49 4 #[] #[{ accessFlags := 25, nameIndex := 354, descriptorIndex := 339, attributes := #[] }, { accessFlags := 25, nameIndex := 358, descriptorIndex := 339, attributes := #[] }, { accessFlags := 25, nameIndex := 361, descriptorIndex := 339, attributes := #[] }, { accessFlags := 26, nameIndex := 364, descriptorIndex := 339, attributes := #[] }, { accessFlags := 26, nameIndex := 365, descriptorIndex := 339, attributes := #[] }, { accessFlags := 26, nameIndex := 172, descriptorIndex := 173, attributes := #[] }, { accessFlags := 26, nameIndex := 176, descriptorIndex := 173, attributes := #[] }, { accessFlags := 8, nameIndex := 344, descriptorIndex := 339, attributes := #[] }, { accessFlags := 8, nameIndex := 338, descriptorIndex := 339, attributes := #[] }, { accessFlags := 4120, nameIndex := 245, descriptorIndex := 246, attributes := #[] }])
  fields := #[{ name := "E", type := .double, accessFlags := 25, slot := 0, constantValue := 0 }, { name := "PI", type := .double, accessFlags := 25, slot := 1, constantValue := 0 }, { name := "TAU", type := .double, accessFlags := 25, slot := 2, constantValue := 0 }, { name := "DEGREES_TO_RADIANS", type := .double, accessFlags := 26, slot := 3, constantValue := 0 }, { name := "RADIANS_TO_DEGREES", type := .double, accessFlags := 26, slot := 4, constantValue := 0 }, { name := "negativeZeroFloatBits", type := .long, accessFlags := 26, slot := 5, constantValue := 0 }, { name := "negativeZeroDoubleBits", type := .long, accessFlags := 26, slot := 6, constantValue := 0 }, { name := "twoToTheDoubleScaleUp", type := .double, accessFlags := 8, slot := 7, constantValue := 0 }, { name := "twoToTheDoubleScaleDown", type := .double, accessFlags := 8, slot := 8, constantValue := 0 }, { name := "$assertionsDisabled", type := .boolean, accessFlags := 4120, slot := 9, constantValue := 0 }]
  methods := #[k2m0, k2m1, k2m2]
  instanceTypes := #[]
  staticTypes := #[.double, .double, .double, .double, .double, .long, .long, .double, .double, .boolean]
  resolved := Array.replicate 460 none
  statics := none }

def pool3 : Array CpInfo := pool [(1, .methodref 2 3), (0, .class_ 4), (0, .nameAndType 5 6), (0, u "java/lang/Object"), (0, u "<init>"), (0, u "()V"), (0, .class_ 8), (0, u "java/lang/Record")] 13

def k3c0 : Code := { maxStack := 1, maxLocals := 1, code := jdk_30_method_1_code, exceptionTable := #[], attributes := #[] }
def k3m0 : Method := { name := "<init>", desc := "()V", sig := { parameters := [], returnType := none }, accessFlags := 4, code := some k3c0 }
/-- java/lang/Record -/
def k3 : Class := { plain "java/lang/Record" (some 0) with
  accessFlags := 1057
  interfaces := #[]
  cf := some (fileOf pool3 7 #[] #[{ accessFlags := 4, nameIndex := 5, descriptorIndex := 6, attributes := #[] }] 1057 2 #[] #[])
  fields := #[]
  methods := #[k3m0]
  instanceTypes := #[]
  staticTypes := #[]
  resolved := Array.replicate 22 none
  statics := none }

def pool4 : Array CpInfo := pool [(1, .methodref 2 3), (0, .class_ 4), (0, .nameAndType 5 6), (0, u "java/lang/Record"), (0, u "<init>"), (0, u "()V"), (9, .fieldref 17 18), (0, .class_ 19), (0, .nameAndType 20 21), (0, u "com/example/gutter/gutter/layout/Rect"), (0, u "left"), (0, u "I"), (0, .fieldref 17 23), (0, .nameAndType 24 21), (0, u "top"), (0, .fieldref 17 26), (0, .nameAndType 27 21), (0, u "right"), (0, .fieldref 17 29), (0, .nameAndType 30 21), (0, u "bottom"), (15, u "(IIII)V"), (0, .methodref 17 48), (0, .nameAndType 49 50), (0, u "width"), (0, u "()I"), (0, .methodref 17 52), (0, .nameAndType 53 50), (0, u "height"), (21, u "toBox"), (0, u "()[I")] 40

def k4c0 : Code := { maxStack := 6, maxLocals := 5, code := prog_6_method_1_code, exceptionTable := #[], attributes := #[] }
def k4m0 : Method := { name := "<init>", desc := "(IIII)V", sig := { parameters := [.int, .int, .int, .int], returnType := none }, accessFlags := 1, code := some k4c0 }
def k4c1 : Code := { maxStack := 4, maxLocals := 1, code := prog_6_method_3_code, exceptionTable := #[], attributes := #[] }
def k4m1 : Method := { name := "toBox", desc := "()[I", sig := { parameters := [], returnType := some (.array .int) }, accessFlags := 1, code := some k4c1 }
def k4c2 : Code := { maxStack := 2, maxLocals := 1, code := prog_6_method_4_code, exceptionTable := #[], attributes := #[] }
def k4m2 : Method := { name := "width", desc := "()I", sig := { parameters := [], returnType := some .int }, accessFlags := 1, code := some k4c2 }
def k4c3 : Code := { maxStack := 2, maxLocals := 1, code := prog_6_method_5_code, exceptionTable := #[], attributes := #[] }
def k4m3 : Method := { name := "height", desc := "()I", sig := { parameters := [], returnType := some .int }, accessFlags := 1, code := some k4c3 }
/-- com/example/gutter/gutter/layout/Rect -/
def k4 : Class := { plain "com/example/gutter/gutter/layout/Rect" (some 3) with
  accessFlags := 49
  interfaces := #[]
  cf := some (fileOf pool4 17 #[] #[{ accessFlags := 1, nameIndex := 5, descriptorIndex := 46, attributes := #[] }, { accessFlags := 1, nameIndex := 75, descriptorIndex := 76, attributes := #[] }, { accessFlags := 1, nameIndex := 49, descriptorIndex := 50, attributes := #[] }, { accessFlags := 1, nameIndex := 53, descriptorIndex := 50, attributes := #[] }] 49 2 #[] #[{ accessFlags := 18, nameIndex := 20, descriptorIndex := 21, attributes := #[] }, { accessFlags := 18, nameIndex := 24, descriptorIndex := 21, attributes := #[] }, { accessFlags := 18, nameIndex := 27, descriptorIndex := 21, attributes := #[] }, { accessFlags := 18, nameIndex := 30, descriptorIndex := 21, attributes := #[] }])
  fields := #[{ name := "left", type := .int, accessFlags := 18, slot := 0, constantValue := 0 }, { name := "top", type := .int, accessFlags := 18, slot := 1, constantValue := 0 }, { name := "right", type := .int, accessFlags := 18, slot := 2, constantValue := 0 }, { name := "bottom", type := .int, accessFlags := 18, slot := 3, constantValue := 0 }]
  methods := #[k4m0, k4m1, k4m2, k4m3]
  instanceTypes := #[.int, .int, .int, .int]
  staticTypes := #[]
  resolved := Array.replicate 117 none
  statics := none }

def pool5 : Array CpInfo := pool [(1, u "java/lang/Cloneable"), (0, .class_ 1), (0, u "java/lang/Object"), (0, .class_ 3)] 3

/-- java/lang/Cloneable -/
def k5 : Class := { plain "java/lang/Cloneable" (some 0) with
  accessFlags := 1537
  interfaces := #[]
  cf := some (fileOf pool5 2 #[] #[] 1537 4 #[] #[])
  fields := #[]
  methods := #[]
  instanceTypes := #[]
  staticTypes := #[]
  resolved := Array.replicate 8 none
  statics := none }

def pool6 : Array CpInfo := pool [(1, u "java/io/Serializable"), (0, .class_ 1), (0, u "java/lang/Object"), (0, .class_ 3)] 3

/-- java/io/Serializable -/
def k6 : Class := { plain "java/io/Serializable" (some 0) with
  accessFlags := 1537
  interfaces := #[]
  cf := some (fileOf pool6 2 #[] #[] 1537 4 #[] #[])
  fields := #[]
  methods := #[]
  instanceTypes := #[]
  staticTypes := #[]
  resolved := Array.replicate 8 none
  statics := none }

/-- the primitive byte -/
def k7 : Class := { plain "byte" none with kind := .primitive 'B', accessFlags := 0x411 }
/-- [B -/
def k8 : Class := { plain "[B" (some 0) with kind := .array 7 .byte, interfaces := #[5, 6], accessFlags := 1041 }

/-- the primitive int -/
def k9 : Class := { plain "int" none with kind := .primitive 'I', accessFlags := 0x411 }
/-- [I -/
def k10 : Class := { plain "[I" (some 0) with kind := .array 9 .int, interfaces := #[5, 6], accessFlags := 1041 }

def heap : Heap := #[]
def classes : Array Class := #[k0, k1, k2, k3, k4, k5, k6, k7, k8, k9, k10]
def interned : List (Array UInt16 × Addr) := []
def slotsUsed : Nat := 0
def theMethod : MethodId := ⟨1, 1⟩
def args0 : Array Value := #[.int 5, .int 6, .int 7, .int 8]
def aboutOver (below : List Frame) : State where
  vm := { classes := classes, interned := interned.toArray }
  heap := heap
  slotsUsed := slotsUsed
  threads := #[{ frames := .invoking theMethod args0 :: below }]
def below0 : List Frame := [.native { method := ⟨0, 0⟩, args := #[] }]
def about1 : State := aboutOver below0
def p0 : Program := .bare "" "" ""
def e0 : Env := launch0.env 0 0 0
theorem w_frames : about1.frames = Frame.invoking theMethod args0 :: below0 := rfl
set_option maxRecDepth 65536 in
theorem w_args : argsFit about1.vm theMethod args0 = true := by decide +kernel
set_option maxRecDepth 65536 in
theorem w_heap : heapFits about1 = true := by decide +kernel
set_option maxRecDepth 65536 in
theorem w_runnable : about1.curStatus? = some .runnable := by decide +kernel
set_option maxRecDepth 65536 in
theorem w_alone : about1.alone = true := by decide +kernel
set_option maxRecDepth 65536 in
theorem w_named : about1.methodNamed? x = some theMethod := by decide +kernel
set_option maxRecDepth 65536 in
theorem w_hears : about1.hears theMethod below0 = true := by decide +kernel
set_option maxRecDepth 65536 in
theorem w_ripe : about1.ripe theMethod args0 below0 = true := by decide +kernel
theorem w_running : about1.status = .running := rfl
set_option maxRecDepth 65536 in
theorem w_room : about1.hasRoom e0.platform room_1 = true :=
  launch0.hasRoom_least _ room_1 (by decide +kernel) (by decide +kernel) (by decide +kernel) (by decide +kernel) (by decide +kernel) (by decide +kernel)
theorem allAtoms_all (ts : List Jvm.Cond) (a : Array Jvm.Value) (st : Jvm.State) : (allAtoms ts).before a st = ts.all (fun c => c.before a st) := by
  induction ts with
  | nil => rfl
  | cons c t ih =>
    show (Jvm.Cond.and c (allAtoms t)).before a st = _
    rw [Jvm.Cond.before_and, ih, List.all_cons]
def words1 : List Jvm.Cond := Jvm.Cond.code x code maxLocals ret :: tables_1
/-- a 'code' word, met by the world's own term for the bytes: nothing is compared byte by byte -/
theorem code_word {y : MethodName} {bytes : ByteArray} {mx : Nat} {rt : Option FieldType} {a : Array Value} {s : State} {m : MethodId} {meth : Method} {c : Code} (h1 : s.methodNamed? y = some m) (h2 : s.vm.method? m = some meth) (h3 : meth.code = some c) (h4 : c.code = bytes)
    (h5 : (c.maxLocals == mx && c.exceptionTable.isEmpty && decide (c.maxStack ≤ mostOperands) && decide (meth.sig.returnType = rt) && !meth.locks && decide (parseMethodDescriptor y.desc = some meth.sig)) = true) : (Jvm.Cond.code y bytes mx rt).before a s = true := by
  simp only [Bool.and_eq_true, beq_iff_eq, Bool.not_eq_true', decide_eq_true_eq] at h5
  obtain ⟨⟨⟨⟨⟨g1, g2⟩, g3⟩, g4⟩, g5⟩, g6⟩ := h5
  simp [Cond.before, Cond.holds, Cond.value, h1, h2, h3, h4, g1, g2, g3, g4, g5, g6]
def isCode : Jvm.Cond → Bool
  | .code _ _ _ _ => true
  | _ => false
theorem all_split {L : List Jvm.Cond} {P : Jvm.Cond → Bool} (h1 : L.all (fun c => isCode c || P c) = true) (h2 : ∀ c ∈ L.filter isCode, P c = true) : L.all P = true := by
  refine List.all_eq_true.mpr fun c hc => ?_
  have h := List.all_eq_true.mp h1 c hc
  rcases Bool.eq_false_or_eq_true (isCode c) with hi | hi
  · exact h2 c (List.mem_filter.mpr ⟨hc, hi⟩)
  · simpa [hi] using h
set_option maxRecDepth 65536 in
theorem w_c0 : (Jvm.Cond.code x code maxLocals ret).before args0 about1 = true := code_word (m := ⟨1, 1⟩) (meth := k1m1) (c := k1c1) (by decide +kernel) rfl rfl rfl (by decide +kernel)
set_option maxRecDepth 65536 in
theorem w_c1 : (Jvm.Cond.code ({ cls := "java/lang/Math", name := "min", desc := "(II)I" } : Jvm.MethodName) jdk_29_method_69_code (2 : Nat) (Option.some Jvm.ClassFile.FieldType.int)).before args0 about1 = true := code_word (m := ⟨2, 2⟩) (meth := k2m2) (c := k2c2) (by decide +kernel) rfl rfl rfl (by decide +kernel)
set_option maxRecDepth 65536 in
theorem w_c2 : (Jvm.Cond.code ({ cls := "java/lang/Math", name := "max", desc := "(II)I" } : Jvm.MethodName) jdk_29_method_65_code (2 : Nat) (Option.some Jvm.ClassFile.FieldType.int)).before args0 about1 = true := code_word (m := ⟨2, 1⟩) (meth := k2m1) (c := k2c1) (by decide +kernel) rfl rfl rfl (by decide +kernel)
set_option maxRecDepth 65536 in
theorem w_c3 : (Jvm.Cond.code ({ cls := "com/example/gutter/gutter/layout/Rect", name := "<init>", desc := "(IIII)V" } : Jvm.MethodName) prog_6_method_1_code (5 : Nat) (Option.none : Option Jvm.ClassFile.FieldType)).before args0 about1 = true := code_word (m := ⟨4, 0⟩) (meth := k4m0) (c := k4c0) (by decide +kernel) rfl rfl rfl (by decide +kernel)
set_option maxRecDepth 65536 in
theorem w_c4 : (Jvm.Cond.code ({ cls := "java/lang/Record", name := "<init>", desc := "()V" } : Jvm.MethodName) jdk_30_method_1_code (1 : Nat) (Option.none : Option Jvm.ClassFile.FieldType)).before args0 about1 = true := code_word (m := ⟨3, 0⟩) (meth := k3m0) (c := k3c0) (by decide +kernel) rfl rfl rfl (by decide +kernel)
set_option maxRecDepth 65536 in
theorem w_c5 : (Jvm.Cond.code ({ cls := "java/lang/Object", name := "<init>", desc := "()V" } : Jvm.MethodName) object_method_1_code (1 : Nat) (Option.none : Option Jvm.ClassFile.FieldType)).before args0 about1 = true := code_word (m := ⟨0, 0⟩) (meth := k0m0) (c := k0c0) (by decide +kernel) rfl rfl rfl (by decide +kernel)
set_option maxRecDepth 65536 in
theorem w_c6 : (Jvm.Cond.code ({ cls := "com/example/gutter/gutter/layout/Rect", name := "toBox", desc := "()[I" } : Jvm.MethodName) prog_6_method_3_code (1 : Nat) (Option.some (Jvm.ClassFile.FieldType.array Jvm.ClassFile.FieldType.int))).before args0 about1 = true := code_word (m := ⟨4, 1⟩) (meth := k4m1) (c := k4c1) (by decide +kernel) rfl rfl rfl (by decide +kernel)
set_option maxRecDepth 65536 in
theorem w_c7 : (Jvm.Cond.code ({ cls := "com/example/gutter/gutter/layout/Rect", name := "width", desc := "()I" } : Jvm.MethodName) prog_6_method_4_code (1 : Nat) (Option.some Jvm.ClassFile.FieldType.int)).before args0 about1 = true := code_word (m := ⟨4, 2⟩) (meth := k4m2) (c := k4c2) (by decide +kernel) rfl rfl rfl (by decide +kernel)
set_option maxRecDepth 65536 in
theorem w_c8 : (Jvm.Cond.code ({ cls := "com/example/gutter/gutter/layout/Rect", name := "height", desc := "()I" } : Jvm.MethodName) prog_6_method_5_code (1 : Nat) (Option.some Jvm.ClassFile.FieldType.int)).before args0 about1 = true := code_word (m := ⟨4, 3⟩) (meth := k4m3) (c := k4c3) (by decide +kernel) rfl rfl rfl (by decide +kernel)
set_option maxRecDepth 65536 in
theorem w_c9 : (Jvm.Cond.code ({ cls := "com/example/gutter/gutter/layout/RectToBoxPinLaw", name := "sizeOk", desc := "(III)Z" } : Jvm.MethodName) method_3_code (5 : Nat) (Option.some Jvm.ClassFile.FieldType.boolean)).before args0 about1 = true := code_word (m := ⟨1, 2⟩) (meth := k1m2) (c := k1c2) (by decide +kernel) rfl rfl rfl (by decide +kernel)
def codes1 : List Jvm.Cond := [Jvm.Cond.code x code maxLocals ret, Jvm.Cond.code ({ cls := "java/lang/Math", name := "min", desc := "(II)I" } : Jvm.MethodName) jdk_29_method_69_code (2 : Nat) (Option.some Jvm.ClassFile.FieldType.int), Jvm.Cond.code ({ cls := "java/lang/Math", name := "max", desc := "(II)I" } : Jvm.MethodName) jdk_29_method_65_code (2 : Nat) (Option.some Jvm.ClassFile.FieldType.int), Jvm.Cond.code ({ cls := "com/example/gutter/gutter/layout/Rect", name := "<init>", desc := "(IIII)V" } : Jvm.MethodName) prog_6_method_1_code (5 : Nat) (Option.none : Option Jvm.ClassFile.FieldType), Jvm.Cond.code ({ cls := "java/lang/Record", name := "<init>", desc := "()V" } : Jvm.MethodName) jdk_30_method_1_code (1 : Nat) (Option.none : Option Jvm.ClassFile.FieldType), Jvm.Cond.code ({ cls := "java/lang/Object", name := "<init>", desc := "()V" } : Jvm.MethodName) object_method_1_code (1 : Nat) (Option.none : Option Jvm.ClassFile.FieldType), Jvm.Cond.code ({ cls := "com/example/gutter/gutter/layout/Rect", name := "toBox", desc := "()[I" } : Jvm.MethodName) prog_6_method_3_code (1 : Nat) (Option.some (Jvm.ClassFile.FieldType.array Jvm.ClassFile.FieldType.int)), Jvm.Cond.code ({ cls := "com/example/gutter/gutter/layout/Rect", name := "width", desc := "()I" } : Jvm.MethodName) prog_6_method_4_code (1 : Nat) (Option.some Jvm.ClassFile.FieldType.int), Jvm.Cond.code ({ cls := "com/example/gutter/gutter/layout/Rect", name := "height", desc := "()I" } : Jvm.MethodName) prog_6_method_5_code (1 : Nat) (Option.some Jvm.ClassFile.FieldType.int), Jvm.Cond.code ({ cls := "com/example/gutter/gutter/layout/RectToBoxPinLaw", name := "sizeOk", desc := "(III)Z" } : Jvm.MethodName) method_3_code (5 : Nat) (Option.some Jvm.ClassFile.FieldType.boolean)]
set_option maxRecDepth 65536 in
theorem codes_eq : words1.filter isCode = codes1 := rfl
theorem w_codes : ∀ c ∈ words1.filter isCode, c.before args0 about1 = true := by
  rw [codes_eq]
  intro c hc
  simp only [codes1, List.mem_cons, List.not_mem_nil, or_false] at hc
  rcases hc with rfl | rfl | rfl | rfl | rfl | rfl | rfl | rfl | rfl | rfl
  · exact w_c0
  · exact w_c1
  · exact w_c2
  · exact w_c3
  · exact w_c4
  · exact w_c5
  · exact w_c6
  · exact w_c7
  · exact w_c8
  · exact w_c9
set_option maxRecDepth 65536 in
theorem w_t1 : (words1.take 24).all (fun c => isCode c || c.before args0 about1) = true := by decide +kernel
set_option maxRecDepth 65536 in
theorem w_t2 : ((words1.drop 24).take 24).all (fun c => isCode c || c.before args0 about1) = true := by decide +kernel
set_option maxRecDepth 65536 in
theorem w_t3 : ((words1.drop 24).drop 24).all (fun c => isCode c || c.before args0 about1) = true := by decide +kernel
theorem w_tables : (allAtoms (Jvm.Cond.code x code maxLocals ret :: tables_1)).before args0 about1 = true := by
  rw [allAtoms_all]
  show words1.all (fun c => c.before args0 about1) = true
  refine all_split ?_ w_codes
  rw [← List.take_append_drop 24 words1, List.all_append, w_t1, ← List.take_append_drop 24 (words1.drop 24), List.all_append, w_t2, w_t3]
  rfl
set_option maxRecDepth 65536 in
theorem w_case : (Jvm.Cond.and given_1 narrow_1).before args0 about1 = true := by decide +kernel
theorem w_applies : (headSpec (Jvm.Cond.code x code maxLocals ret :: tables_1) room_1).applies x e0.platform about1 = true :=
  (Spec.applies_iff w_frames).mpr ⟨w_running, w_runnable, w_alone, w_named, w_hears, w_ripe, w_room, w_tables⟩
theorem atStart : AtStart classFile x code maxLocals ret World_1 tables_1 room_1 Calls_1 rest_1 Pre_1 launch0 p0 e0 about1 theMethod args0 below0 :=
  ⟨lists_1, trivial, launch0.admits_env _ _ _, launch0.least_env, fairChoices_fair.cas, fairChoices_fair.clock, w_frames, w_args, w_heap, w_applies, trivial, trivial, w_case⟩
end start1
theorem witness_1 : WitnessClaimed_1 := ⟨start1.p0, start1.e0, start1.about1, start1.theMethod, start1.args0, start1.below0, start1.atStart⟩
end Jvm.Pilot.@@N@@
