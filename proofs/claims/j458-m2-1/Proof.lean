import JvmDerived
import JvmDerived.Pilot.@@N@@Statement
import JvmDerived.Pilot.@@N@@Code
set_option linter.unusedVariables false
set_option linter.unusedSimpArgs false
namespace Jvm.RoadKit
open Sem ClassFile Op Lib Jvm.Stand Jvm.Free Jvm.LawKit
section New
variable {p : Program} {l : Launch} {e : Env} {R : Room} {s : State} {m : MethodId} {args : Array Value} {below : List Frame} {meth : Method} {c : Code} {T : State} {locs : List Loc} {cells slots : Nat}
theorem retI (X : Stand p l e R s m args below meth c T locs cells slots) (hx : p.tables.exec = Jvm.exec) {pc : Nat} {Ls : Array Slot} {z : Int32} {rest : List Value} (hret : meth.sig.returnType = some .int) (hd : decode c.code pc = .ok (.ireturn, 1)) {fs : List Frame}
    (hl : ∀ (f : JFrame) (acts : List Action), f.method = m → f.locked = none → f.entered = [] → (doReturn e (T.setTop f) acts (some (.int z))).1 = T.setFrames fs) : Steps p.tables e below (T.setTop (mkF m pc Ls (.int z :: rest))) (T.setFrames fs) := by
  have hm' : T.vm.method? m = some meth := X.method'
  have hn : narrow .int (.int z) = .int z := rfl
  show Steps p.tables e below (T.setTop { method := m, pc := pc, locals := Ls, stack := _ :: rest, locked := none }) _
  jvm_step X.here [X.here.top, hx, hd, hm', hret, hn]
  first | (intro acts; rw [hl _ acts rfl rfl rfl]) | rw [hl _ _ rfl rfl rfl]
  exact Steps.refl _
end New
end Jvm.RoadKit
namespace Jvm.Pilot.@@N@@
open Jvm Jvm.ClassFile Sem Op Lib Jvm.Free Jvm.Stand Jvm.LawKit Jvm.RoadKit Bundle Jvm.Pilot.@@N@@.Jvm.D
def own_cmp (x y : Int64) : Int32 := lcmpW x y
theorem own_lt (x y : Int64) : own_cmp x y < 0 ↔ x < y := by
  unfold own_cmp lcmpW; split <;> (try split) <;> simp_all [Int64.lt_iff_toInt_lt, ← Int64.toInt_inj] <;> omega
theorem own_gt (x y : Int64) : 0 < own_cmp x y ↔ y < x := by
  unfold own_cmp lcmpW; split <;> (try split) <;> simp_all [Int64.lt_iff_toInt_lt, ← Int64.toInt_inj] <;> omega
theorem own_eq0 (x y : Int64) : own_cmp x y = 0 ↔ x = y := by
  unfold own_cmp lcmpW; split <;> (try split) <;> simp_all [Int64.lt_iff_toInt_lt, ← Int64.toInt_inj] <;> omega
theorem own_fld {s : State} {args : Array Value} {t : Term} {x : Addr} {C n d : String} {k : Int32} (ev : t.eval args s none [] s = some (.ref x)) (h : (Jvm.Cond.eq (.field t C n d) (.int k)).value args s none s [] = some true) : Fld s s.heap x C n d (.int k) := by
  have hf := fld_at (C := C) (n := n) (dd := d) ev
  have hk : (Term.int k).eval args s none [] s = some (.int k) := Term.int_eval k
  cases hq : s.fieldOf? x C n d with
  | none => rw [hq] at hf; simp [Cond.value, hf] at h
  | some v =>
    rw [hq] at hf
    cases v <;> simp [Cond.value, hf, hk] at h
    subst h
    exact Fld.start hq
def upd (f : Int32 → Int32) (j v : Int32) : Int32 → Int32 := fun k => if k = j then v else f k
def Ia (Z : State) (h : Heap) (a : Addr) (ty : FieldType) (n : Int32) (f : Int32 → Int32) : Prop := ∃ c : Cell, Arr Z h a c ty ∧ c.slots.size = n.toNatClampNeg ∧ ¬ n < 0 ∧ ∀ j : Int32, ¬ j < 0 → j < n → c.slots[j.toNatClampNeg]? = some (.int (f j))
section OwnIa
variable {Z : State} {h h' : Heap} {a b : Addr} {ty : FieldType} {n j x : Int32} {f : Int32 → Int32} {sl : Nat} {v : Value} {ws : List Addr}
theorem own_ext (K : Keep h h' []) : Ext h h' := ⟨K.1, fun a c q => K.2.1 a c q nin0⟩
theorem Ia.lt (F : Ia Z h a ty n f) : a < h.size := by obtain ⟨c, A, -⟩ := F; exact A.lt
theorem Ia.ext (F : Ia Z h a ty n f) (E : Ext h h') : Ia Z h' a ty n f := by obtain ⟨c, A, r⟩ := F; exact ⟨c, A.ext E, r⟩
theorem Ia.other (F : Ia Z h b ty n f) (W : Wr h h' a sl v) (q : b ≠ a) : Ia Z h' b ty n f := by obtain ⟨c, A, r⟩ := F; exact ⟨c, A.other W q, r⟩
theorem Ia.keep (F : Ia Z h a ty n f) (K : Keep h h' ws) (q : a ∉ ws) : Ia Z h' a ty n f := by obtain ⟨c, A, r⟩ := F; exact ⟨c, ⟨K.2.1 a c A.1 q, A.2⟩, r⟩
theorem Ia.at (F : Ia Z h a ty n f) (q : ¬ j < 0 ∧ j < n) : ∃ c : Cell, Arr Z h a c ty ∧ ¬ (j < 0 ∨ c.slots.size ≤ j.toNatClampNeg) ∧ c.slots[j.toNatClampNeg]? = some (.int (f j)) := by
  obtain ⟨c, A, S, N, G⟩ := F
  exact ⟨c, A, inb_of S q, G j q.1 q.2⟩
theorem Ia.len (F : Ia Z h a ty n f) : ∃ c : Cell, Arr Z h a c ty ∧ c.slots.size = n.toNatClampNeg ∧ ¬ n < 0 := by
  obtain ⟨c, A, S, N, G⟩ := F
  exact ⟨c, A, S, N⟩
theorem Ia.new {k : ClassId} (A : Arr Z h a (newA k ty n) ty) (q : ¬ n < 0) (e : defaultValue ty = .int 0) : Ia Z h a ty n (fun _ => 0) :=
  ⟨_, A, sz_new _ _ _, q, fun j h1 h2 => by
    have hi := inb_of (sz_new k ty n) ⟨h1, h2⟩
    rw [sz_new] at hi
    rw [get_new hi, e]⟩
theorem Ia.set (F : Ia Z h a ty n f) (W : Wr h h' a j.toNatClampNeg (.int x)) (hj : ¬ j < 0) : Ia Z h' a ty n (upd f j x) := by
  obtain ⟨c, A, S, N, G⟩ := F
  refine ⟨_, A.same W, by rw [sz_set]; exact S, N, fun k h1 h2 => ?_⟩
  by_cases e : k = j
  · subst e
    rw [get_hit (inb_of S ⟨h1, h2⟩) rfl]
    exact congrArg (fun z => some (Value.int z)) (if_pos rfl).symm
  · rw [get_miss hj h1 e, G k h1 h2]
    exact congrArg (fun z => some (Value.int z)) (if_neg e).symm
theorem own_nea {C : String} {a0 : Array Value} {k : Nat} (F : Exa Z h a C) (wi : (Jvm.Cond.instantiable C k).before a0 Z = true) (G : Ia Z h b ty n f) : a ≠ b := by
  obtain ⟨c, A, -⟩ := G
  exact ne_arr F wi A
theorem Ia.congr {g : Int32 → Int32} (F : Ia Z h a ty n f) (q : ∀ j : Int32, ¬ j < 0 → j < n → f j = g j) : Ia Z h a ty n g := by
  obtain ⟨c, A, S, N, G⟩ := F
  exact ⟨c, A, S, N, fun k h1 h2 => by rw [← q k h1 h2]; exact G k h1 h2⟩
end OwnIa
-- body 1: com/example/gutter/gutter/layout/RectHasAreaPinLaw.extent(IZ)I
theorem d1_0 : decode method_2_code 0 = .ok (.iload_n 1, 1) := by decide +kernel
theorem d1_1 : decode method_2_code 1 = .ok (.ifCond .eq 9, 3) := by decide +kernel
theorem d1_4 : decode method_2_code 4 = .ok (.iload_n 0, 1) := by decide +kernel
theorem d1_5 : decode method_2_code 5 = .ok (.iconst 3, 1) := by decide +kernel
theorem d1_6 : decode method_2_code 6 = .ok (.iand, 1) := by decide +kernel
theorem d1_7 : decode method_2_code 7 = .ok (.goto 7, 3) := by decide +kernel
theorem d1_10 : decode method_2_code 10 = .ok (.iload_n 0, 1) := by decide +kernel
theorem d1_11 : decode method_2_code 11 = .ok (.ldc 7, 2) := by decide +kernel
theorem d1_13 : decode method_2_code 13 = .ok (.iand, 1) := by decide +kernel
theorem d1_14 : decode method_2_code 14 = .ok (.ireturn, 1) := by decide +kernel
theorem pn_1 : plainName "com/example/gutter/gutter/layout/RectHasAreaPinLaw" = true := by first | (simp [plainName, overriddenIn]; done) | decide +kernel
theorem ef_1 (m : MethodId) (p1 : Int32) (p2 : Int32) : entryFrame m #[(.int p1), (.int p2)] 2 = mkF m 0 #[.val (.int p1), .val (.int p2)] [] := by first | (simp [entryFrame, mkF, argsToLocals, Value.category]; done) | rfl
def f1 (p1 : Int32) (p2 : Int32) : Int32 := (if p2 = (0 : Int32) then (p1 &&& (2147483647 : Int32)) else (p1 &&& (3 : Int32)))
def Q1 (Z : State) (p1 : Int32) (p2 : Int32) (h0 : Heap) (n0 : Nat) (v : Option Value) (h : Heap) (L : List Loc) : Prop := v = some (.int (f1 p1 p2)) ∧ Fr n0 L ∧ h = h0
set_option maxRecDepth 65536 in
set_option maxHeartbeats 40000000 in
theorem rm1 (l : Launch) (Z : State) (a0 : Array Value) (hw : ∀ d ∈ tables_1, d.before a0 Z = true) (ws : List Jvm.Cond) (p1 : Int32) (p2 : Int32) (h0 : Heap) (n0 : Nat) (Z0 : n0 ≤ h0.size) :
    MetFree l (⟨"com/example/gutter/gutter/layout/RectHasAreaPinLaw", "extent", "(IZ)I"⟩ : MethodName) (head1 (Jvm.Cond.code (⟨"com/example/gutter/gutter/layout/RectHasAreaPinLaw", "extent", "(IZ)I"⟩ : MethodName) method_2_code 2 (some .int) :: ws) ({ frames := 0, cells := 0, slots := 0, locals := 0 } : Room)) (fun a U => a = #[(.int p1), (.int p2)] ∧ Z.Warmed39 U.vm ∧ U.heap = h0) (fun _ _ _ _ _ => True) (fun _ U o U' => ∃ v L, o = .returned v ∧ Q1 Z p1 p2 h0 n0 v U'.heap L ∧ FrameEnd U o U' L ({ frames := 0, cells := 0, slots := 0, locals := 0 } : Room).cells ({ frames := 0, cells := 0, slots := 0, locals := 0 } : Room).slots) := by
  refine MetFree.of_bodySF (plainFor_of_name pn_1) hisR ?_
  intro p e s m args below meth c s₁ Bd hml0 hP hK
  obtain ⟨rfl, hZ, hh⟩ := hP
  have hx := Bd.exec
  have hby := Bd.bytes
  have hml : c.maxLocals = 2 := hml0
  have hown : s.vm.findClass "com/example/gutter/gutter/layout/RectHasAreaPinLaw" = some m.cls := findClass_of_methodNamed Bd.named
  have hnm := (name_of_methodNamed Bd.named Bd.method).1
  have X0 : Stand p l e ({ frames := 0, cells := 0, slots := 0, locals := 0 } : Room) s m #[(.int p1), (.int p2)] below meth c s₁ [] 0 0 := Stand.of_body Bd
  have e0 : s₁.heap = h0 := by rw [← hh, Bd.state]; rfl
  have N0 := Fr.nil n0
  have pre0 : ∀ t, Steps p.tables e below (s₁.setTop (mkF m 0 #[.val (.int p1), .val (.int p2)] [])) t → Steps p.tables e below (s₁.setTop (entryFrame m #[(.int p1), (.int p2)] 2)) t := fun t k => castTop (ef_1 m p1 p2) k
  have K1 : ∀ t, Steps p.tables e below (s₁.setTop (mkF m 1 #[.val (.int p1), .val (.int p2)] [(.int p2)])) t → Steps p.tables e below (s₁.setTop (mkF m 0 #[.val (.int p1), .val (.int p2)] [])) t := by
    intro t k
    refine XS.iloadN X0.here hx rfl (Jvm.hb hby d1_0) rfl ?_
    show Steps p.tables e below (s₁.setTop (mkF m 1 #[.val (.int p1), .val (.int p2)] [(.int p2)])) t
    exact k
  by_cases hc2 : p2 = (0 : Int32)
  · have K3 : ∀ t, Steps p.tables e below (s₁.setTop (mkF m 10 #[.val (.int p1), .val (.int p2)] [])) t → Steps p.tables e below (s₁.setTop (mkF m 1 #[.val (.int p1), .val (.int p2)] [(.int p2)])) t := by
      intro t k
      refine XS.ifYes X0.here hx rfl (pc0 := 1) (pc' := 10) rfl (Jvm.hb hby d1_1) rfl ((if0 _ _).trans (teq hc2).1) (by decide) (by decide) ?_
      exact k
    have K4 : ∀ t, Steps p.tables e below (s₁.setTop (mkF m 14 #[.val (.int p1), .val (.int p2)] [(.int (p1 &&& (2147483647 : Int32)))])) t → Steps p.tables e below (s₁.setTop (mkF m 10 #[.val (.int p1), .val (.int p2)] [])) t := by
      intro t k
      refine XS.iloadN X0.here hx rfl (Jvm.hb hby d1_10) rfl ?_
      show Steps p.tables e below (s₁.setTop (mkF m 11 #[.val (.int p1), .val (.int p2)] [(.int p1)])) t
      refine X0.ldcInt hx hown (mvT hZ (hw _ (List.mem_of_getElem? (i := 4) rfl))) (g := (mkF m 11 #[.val (.int p1), .val (.int p2)] [(.int p1)])) rfl (Jvm.hb hby d1_11) _ ?_
      show Steps p.tables e below (s₁.setTop (mkF m 13 #[.val (.int p1), .val (.int p2)] [(.int (2147483647 : Int32)), (.int p1)])) t
      refine XS.iand X0.here hx rfl (Jvm.hb hby d1_13) rfl ?_
      show Steps p.tables e below (s₁.setTop (mkF m 14 #[.val (.int p1), .val (.int p2)] [(.int (p1 &&& (2147483647 : Int32)))])) t
      exact k
    obtain ⟨fs, hr, hrun, hended, hW, hsame⟩ := X0.leave (v := some (.int (p1 &&& (2147483647 : Int32)))) (fun h => by rw [Bd.returns] at h; cases h) Bd.notSynchronized
    refine ⟨_, _, pre0 _ (K1 _ (K3 _ (K4 _ (retI X0 hx Bd.returns (Jvm.hb hby d1_14) hr)))), hrun, hended, _, _, rfl, ?_, ⟨_, rfl⟩, hW, hsame.mono (by decide) (by decide)⟩
    show Q1 Z p1 p2 h0 n0 _ s₁.heap _
    rw [e0]
    exact ⟨congrArg (fun z => some (Value.int z)) (show (p1 &&& (2147483647 : Int32)) = f1 p1 p2 from Eq.symm (if_pos hc2)), N0, rfl⟩
  · have K5 : ∀ t, Steps p.tables e below (s₁.setTop (mkF m 4 #[.val (.int p1), .val (.int p2)] [])) t → Steps p.tables e below (s₁.setTop (mkF m 1 #[.val (.int p1), .val (.int p2)] [(.int p2)])) t := by
      intro t k
      refine XS.ifNo X0.here hx rfl (Jvm.hb hby d1_1) rfl ((if0 _ _).trans (feq hc2).1) ?_
      exact k
    have K6 : ∀ t, Steps p.tables e below (s₁.setTop (mkF m 14 #[.val (.int p1), .val (.int p2)] [(.int (p1 &&& (3 : Int32)))])) t → Steps p.tables e below (s₁.setTop (mkF m 4 #[.val (.int p1), .val (.int p2)] [])) t := by
      intro t k
      refine XS.iloadN X0.here hx rfl (Jvm.hb hby d1_4) rfl ?_
      show Steps p.tables e below (s₁.setTop (mkF m 5 #[.val (.int p1), .val (.int p2)] [(.int p1)])) t
      refine XS.iconst X0.here hx rfl (Jvm.hb hby d1_5) ?_
      show Steps p.tables e below (s₁.setTop (mkF m 6 #[.val (.int p1), .val (.int p2)] [(.int (3 : Int32)), (.int p1)])) t
      refine XS.iand X0.here hx rfl (Jvm.hb hby d1_6) rfl ?_
      show Steps p.tables e below (s₁.setTop (mkF m 7 #[.val (.int p1), .val (.int p2)] [(.int (p1 &&& (3 : Int32)))])) t
      refine XS.goto X0.here hx rfl (pc0 := 7) (pc' := 14) rfl (Jvm.hb hby d1_7) (by decide) (by decide) ?_
      show Steps p.tables e below (s₁.setTop (mkF m 14 #[.val (.int p1), .val (.int p2)] [(.int (p1 &&& (3 : Int32)))])) t
      exact k
    obtain ⟨fs, hr, hrun, hended, hW, hsame⟩ := X0.leave (v := some (.int (p1 &&& (3 : Int32)))) (fun h => by rw [Bd.returns] at h; cases h) Bd.notSynchronized
    refine ⟨_, _, pre0 _ (K1 _ (K5 _ (K6 _ (retI X0 hx Bd.returns (Jvm.hb hby d1_14) hr)))), hrun, hended, _, _, rfl, ?_, ⟨_, rfl⟩, hW, hsame.mono (by decide) (by decide)⟩
    show Q1 Z p1 p2 h0 n0 _ s₁.heap _
    rw [e0]
    exact ⟨congrArg (fun z => some (Value.int z)) (show (p1 &&& (3 : Int32)) = f1 p1 p2 from Eq.symm (if_neg hc2)), N0, rfl⟩
-- body 3: java/lang/Record.<init>()V
theorem d3_0 : decode jdk_30_method_1_code 0 = .ok (.aload_n 0, 1) := by decide +kernel
theorem d3_1 : decode jdk_30_method_1_code 1 = .ok (.invokespecial 1, 3) := by decide +kernel
theorem d3_4 : decode jdk_30_method_1_code 4 = .ok (.return_, 1) := by decide +kernel
theorem pn_3 : plainName "java/lang/Record" = true := by first | (simp [plainName, overriddenIn]; done) | decide +kernel
theorem ef_3 (m : MethodId) (a1 : Addr) : entryFrame m #[(.ref a1)] 1 = mkF m 0 #[.val (.ref a1)] [] := by first | (simp [entryFrame, mkF, argsToLocals, Value.category]; done) | rfl
def Q3 (Z : State) (a1 : Addr) (h0 : Heap) (n0 : Nat) (v : Option Value) (h : Heap) (L : List Loc) : Prop := v = none ∧ Fr n0 L ∧ h = h0
set_option maxRecDepth 65536 in
set_option maxHeartbeats 40000000 in
theorem rm3 (l : Launch) (Z : State) (a0 : Array Value) (hw : ∀ d ∈ tables_1, d.before a0 Z = true) (ws : List Jvm.Cond) (a1 : Addr) (h0 : Heap) (n0 : Nat) (Z0 : n0 ≤ h0.size) :
    MetFree l (⟨"java/lang/Record", "<init>", "()V"⟩ : MethodName) (head1 (Jvm.Cond.code (⟨"java/lang/Record", "<init>", "()V"⟩ : MethodName) jdk_30_method_1_code 1 none :: ws) ({ frames := 1, cells := 0, slots := 0, locals := 12 } : Room)) (fun a U => a = #[(.ref a1)] ∧ Z.Warmed39 U.vm ∧ U.heap = h0) (fun _ _ _ _ _ => True) (fun _ U o U' => ∃ v L, o = .returned v ∧ Q3 Z a1 h0 n0 v U'.heap L ∧ FrameEnd U o U' L ({ frames := 1, cells := 0, slots := 0, locals := 12 } : Room).cells ({ frames := 1, cells := 0, slots := 0, locals := 12 } : Room).slots) := by
  refine MetFree.of_bodySF (plainFor_of_name pn_3) hisR ?_
  intro p e s m args below meth c s₁ Bd hml0 hP hK
  obtain ⟨rfl, hZ, hh⟩ := hP
  have hx := Bd.exec
  have hby := Bd.bytes
  have hml : c.maxLocals = 1 := hml0
  have hown : s.vm.findClass "java/lang/Record" = some m.cls := findClass_of_methodNamed Bd.named
  have hnm := (name_of_methodNamed Bd.named Bd.method).1
  have X0 : Stand p l e ({ frames := 1, cells := 0, slots := 0, locals := 12 } : Room) s m #[(.ref a1)] below meth c s₁ [] 0 0 := Stand.of_body Bd
  have e0 : s₁.heap = h0 := by rw [← hh, Bd.state]; rfl
  have N0 := Fr.nil n0
  have pre0 : ∀ t, Steps p.tables e below (s₁.setTop (mkF m 0 #[.val (.ref a1)] [])) t → Steps p.tables e below (s₁.setTop (entryFrame m #[(.ref a1)] 1)) t := fun t k => castTop (ef_3 m a1) k
  have K1 : ∀ t, Steps p.tables e below (s₁.setTop (mkF m 1 #[.val (.ref a1)] [(.ref a1)])) t → Steps p.tables e below (s₁.setTop (mkF m 0 #[.val (.ref a1)] [])) t := by
    intro t k
    refine XS.aloadN X0.here hx rfl (Jvm.hb hby d3_0) rfl rfl ?_
    show Steps p.tables e below (s₁.setTop (mkF m 1 #[.val (.ref a1)] [(.ref a1)])) t
    exact k
  obtain ⟨T2, X2, e2, st2⟩ := initO X0 hx hZ hown (hw _ (List.mem_of_getElem? (i := 17) rfl)) (hw _ (List.mem_of_getElem? (i := 18) rfl)) (hw _ (List.mem_of_getElem? (i := 19) rfl)) e0 (g := (mkF m 1 #[.val (.ref a1)] [(.ref a1)])) rfl (by rw [hml]; rfl) rfl (Jvm.hb hby d3_1) (by decide) (W := 0) (by show 2 * 0 + _ ≤ _; exact Nat.le_of_eq rfl) (by decide)
  have K3 : ∀ t, Steps p.tables e below (T2.setTop (mkF m 4 #[.val (.ref a1)] [])) t → Steps p.tables e below (s₁.setTop (mkF m 1 #[.val (.ref a1)] [(.ref a1)])) t := fun t k => st2 _ k
  obtain ⟨fs, hr, hrun, hended, hW, hsame⟩ := X2.leave (v := none) (fun _ => rfl) Bd.notSynchronized
  refine ⟨_, _, pre0 _ (K1 _ (K3 _ (X2.returnOut hx Bd.returns (Jvm.hb hby d3_4) hr))), hrun, hended, _, _, rfl, ?_, ⟨_, rfl⟩, hW, hsame.mono (by decide) (by decide)⟩
  show Q3 Z a1 h0 n0 _ T2.heap _
  rw [e2]
  exact ⟨rfl, N0, rfl⟩
-- body 2: com/example/gutter/gutter/layout/Rect.<init>(IIII)V
theorem d2_0 : decode prog_6_method_1_code 0 = .ok (.aload_n 0, 1) := by decide +kernel
theorem d2_1 : decode prog_6_method_1_code 1 = .ok (.invokespecial 1, 3) := by decide +kernel
theorem d2_4 : decode prog_6_method_1_code 4 = .ok (.iload_n 3, 1) := by decide +kernel
theorem d2_5 : decode prog_6_method_1_code 5 = .ok (.iload_n 1, 1) := by decide +kernel
theorem d2_6 : decode prog_6_method_1_code 6 = .ok (.if_icmp .lt 9, 3) := by decide +kernel
theorem d2_9 : decode prog_6_method_1_code 9 = .ok (.iload 4, 2) := by decide +kernel
theorem d2_11 : decode prog_6_method_1_code 11 = .ok (.iload_n 2, 1) := by decide +kernel
theorem d2_12 : decode prog_6_method_1_code 12 = .ok (.if_icmp .ge 21, 3) := by decide +kernel
theorem d2_33 : decode prog_6_method_1_code 33 = .ok (.aload_n 0, 1) := by decide +kernel
theorem d2_34 : decode prog_6_method_1_code 34 = .ok (.iload_n 1, 1) := by decide +kernel
theorem d2_35 : decode prog_6_method_1_code 35 = .ok (.putfield 16, 3) := by decide +kernel
theorem d2_38 : decode prog_6_method_1_code 38 = .ok (.aload_n 0, 1) := by decide +kernel
theorem d2_39 : decode prog_6_method_1_code 39 = .ok (.iload_n 2, 1) := by decide +kernel
theorem d2_40 : decode prog_6_method_1_code 40 = .ok (.putfield 22, 3) := by decide +kernel
theorem d2_43 : decode prog_6_method_1_code 43 = .ok (.aload_n 0, 1) := by decide +kernel
theorem d2_44 : decode prog_6_method_1_code 44 = .ok (.iload_n 3, 1) := by decide +kernel
theorem d2_45 : decode prog_6_method_1_code 45 = .ok (.putfield 25, 3) := by decide +kernel
theorem d2_48 : decode prog_6_method_1_code 48 = .ok (.aload_n 0, 1) := by decide +kernel
theorem d2_49 : decode prog_6_method_1_code 49 = .ok (.iload 4, 2) := by decide +kernel
theorem d2_51 : decode prog_6_method_1_code 51 = .ok (.putfield 28, 3) := by decide +kernel
theorem d2_54 : decode prog_6_method_1_code 54 = .ok (.return_, 1) := by decide +kernel
theorem pn_2 : plainName "com/example/gutter/gutter/layout/Rect" = true := by first | (simp [plainName, overriddenIn]; done) | decide +kernel
theorem pd_2 : parseMethodDescriptor "()V" = some ⟨[], none⟩ := by decide +kernel
theorem ef_2 (m : MethodId) (a1 : Addr) (p2 : Int32) (p3 : Int32) (p4 : Int32) (p5 : Int32) : entryFrame m #[(.ref a1), (.int p2), (.int p3), (.int p4), (.int p5)] 5 = mkF m 0 #[.val (.ref a1), .val (.int p2), .val (.int p3), .val (.int p4), .val (.int p5)] [] := by first | (simp [entryFrame, mkF, argsToLocals, Value.category]; done) | rfl
def Q2 (Z : State) (a1 : Addr) (p2 : Int32) (p3 : Int32) (p4 : Int32) (p5 : Int32) (u_left_a1 : Value) (u_top_a1 : Value) (u_right_a1 : Value) (u_bottom_a1 : Value) (h0 : Heap) (n0 : Nat) (v : Option Value) (h : Heap) (L : List Loc) : Prop := v = none ∧ Fr n0 L ∧ Keep h0 h [a1] ∧ Exa Z h a1 "com/example/gutter/gutter/layout/Rect" ∧ Fld Z h a1 "com/example/gutter/gutter/layout/Rect" "left" "I" (.int p2) ∧ Fld Z h a1 "com/example/gutter/gutter/layout/Rect" "top" "I" (.int p3) ∧ Fld Z h a1 "com/example/gutter/gutter/layout/Rect" "right" "I" (.int p4) ∧ Fld Z h a1 "com/example/gutter/gutter/layout/Rect" "bottom" "I" (.int p5)
set_option maxRecDepth 65536 in
set_option maxHeartbeats 40000000 in
theorem rm2 (l : Launch) (Z : State) (a0 : Array Value) (hw : ∀ d ∈ tables_1, d.before a0 Z = true) (ws : List Jvm.Cond) (a1 : Addr) (p2 : Int32) (p3 : Int32) (p4 : Int32) (p5 : Int32) (u_left_a1 : Value) (u_top_a1 : Value) (u_right_a1 : Value) (u_bottom_a1 : Value) (h0 : Heap) (n0 : Nat) (Z0 : n0 ≤ h0.size) (hlr : ¬ p4 < p2) (htb : ¬ p5 < p3) (E_a1 : Exa Z h0 a1 "com/example/gutter/gutter/layout/Rect") (F_left_a1 : Fld Z h0 a1 "com/example/gutter/gutter/layout/Rect" "left" "I" u_left_a1) (g_a1 : n0 ≤ a1) (F_top_a1 : Fld Z h0 a1 "com/example/gutter/gutter/layout/Rect" "top" "I" u_top_a1) (F_right_a1 : Fld Z h0 a1 "com/example/gutter/gutter/layout/Rect" "right" "I" u_right_a1) (F_bottom_a1 : Fld Z h0 a1 "com/example/gutter/gutter/layout/Rect" "bottom" "I" u_bottom_a1) :
    MetFree l (⟨"com/example/gutter/gutter/layout/Rect", "<init>", "(IIII)V"⟩ : MethodName) (head1 (Jvm.Cond.code (⟨"com/example/gutter/gutter/layout/Rect", "<init>", "(IIII)V"⟩ : MethodName) prog_6_method_1_code 5 none :: ws) ({ frames := 2, cells := 0, slots := 0, locals := 24 } : Room)) (fun a U => a = #[(.ref a1), (.int p2), (.int p3), (.int p4), (.int p5)] ∧ Z.Warmed39 U.vm ∧ U.heap = h0) (fun _ _ _ _ _ => True) (fun _ U o U' => ∃ v L, o = .returned v ∧ Q2 Z a1 p2 p3 p4 p5 u_left_a1 u_top_a1 u_right_a1 u_bottom_a1 h0 n0 v U'.heap L ∧ FrameEnd U o U' L ({ frames := 2, cells := 0, slots := 0, locals := 24 } : Room).cells ({ frames := 2, cells := 0, slots := 0, locals := 24 } : Room).slots) := by
  refine MetFree.of_bodySF (plainFor_of_name pn_2) hisR ?_
  intro p e s m args below meth c s₁ Bd hml0 hP hK
  obtain ⟨rfl, hZ, hh⟩ := hP
  have hx := Bd.exec
  have hby := Bd.bytes
  have hml : c.maxLocals = 5 := hml0
  have hown : s.vm.findClass "com/example/gutter/gutter/layout/Rect" = some m.cls := findClass_of_methodNamed Bd.named
  have hnm := (name_of_methodNamed Bd.named Bd.method).1
  have X0 : Stand p l e ({ frames := 2, cells := 0, slots := 0, locals := 24 } : Room) s m #[(.ref a1), (.int p2), (.int p3), (.int p4), (.int p5)] below meth c s₁ [] 0 0 := Stand.of_body Bd
  have e0 : s₁.heap = h0 := by rw [← hh, Bd.state]; rfl
  have N0 := Fr.nil n0
  have pre0 : ∀ t, Steps p.tables e below (s₁.setTop (mkF m 0 #[.val (.ref a1), .val (.int p2), .val (.int p3), .val (.int p4), .val (.int p5)] [])) t → Steps p.tables e below (s₁.setTop (entryFrame m #[(.ref a1), (.int p2), (.int p3), (.int p4), (.int p5)] 5)) t := fun t k => castTop (ef_2 m a1 p2 p3 p4 p5) k
  have K1 : ∀ t, Steps p.tables e below (s₁.setTop (mkF m 1 #[.val (.ref a1), .val (.int p2), .val (.int p3), .val (.int p4), .val (.int p5)] [(.ref a1)])) t → Steps p.tables e below (s₁.setTop (mkF m 0 #[.val (.ref a1), .val (.int p2), .val (.int p3), .val (.int p4), .val (.int p5)] [])) t := by
    intro t k
    refine XS.aloadN X0.here hx rfl (Jvm.hb hby d2_0) rfl rfl ?_
    show Steps p.tables e below (s₁.setTop (mkF m 1 #[.val (.ref a1), .val (.int p2), .val (.int p3), .val (.int p4), .val (.int p5)] [(.ref a1)])) t
    exact k
  obtain ⟨_, _, ⟨T2, L2, k2, n2⟩, -, X2, ⟨Lc2, hQ2, l2, y2, z2⟩, st2⟩ := X0.specialBack hx (y := (⟨"java/lang/Record", "<init>", "()V"⟩ : MethodName)) rfl hown (mvT hZ (hw _ (List.mem_of_getElem? (i := 12) rfl))) (mvT hZ (hw _ (List.mem_of_getElem? (i := 13) rfl))) (mvT hZ (hw _ (List.mem_of_getElem? (i := 16) rfl))) (by decide) (backOf (W := 0) (rm3 l Z a0 hw [] a1 h0 n0 Z0 ) hZ (hw _ (List.mem_of_getElem? (i := 16) rfl)) (hw _ (List.mem_of_getElem? (i := 15) rfl)) (by decide) (by decide)) (g := (mkF m 1 #[.val (.ref a1), .val (.int p2), .val (.int p3), .val (.int p4), .val (.int p5)] [(.ref a1)])) rfl (by rw [hml]; rfl) (Steps.refl _) (a := a1) (argsL := []) (rest := []) (lenOf pd_2 rfl) rfl (by show 2 * 0 + _ ≤ _; exact Nat.le_of_eq rfl) (Jvm.hb hby d2_1) (fun _ _ => ⟨rfl, e0, (by decide : 0 + 0 ≤ _), (by decide : 0 + 0 ≤ _)⟩)
  dsimp only [Pt.U, Pt.locs, Pt.cells, Pt.slots] at X2 l2 y2 z2 st2 hQ2
  subst l2 y2 z2
  obtain ⟨rfl, N2q, e2⟩ := hQ2
  have N2 := Fr.app N0 N2q
  have K3 : ∀ t, Steps p.tables e below (T2.setTop (mkF m 4 #[.val (.ref a1), .val (.int p2), .val (.int p3), .val (.int p4), .val (.int p5)] [])) t → Steps p.tables e below (s₁.setTop (mkF m 1 #[.val (.ref a1), .val (.int p2), .val (.int p3), .val (.int p4), .val (.int p5)] [(.ref a1)])) t := fun t k => st2.trans k
  have K4 : ∀ t, Steps p.tables e below (T2.setTop (mkF m 6 #[.val (.ref a1), .val (.int p2), .val (.int p3), .val (.int p4), .val (.int p5)] [(.int p2), (.int p4)])) t → Steps p.tables e below (T2.setTop (mkF m 4 #[.val (.ref a1), .val (.int p2), .val (.int p3), .val (.int p4), .val (.int p5)] [])) t := by
    intro t k
    refine XS.iloadN X2.here hx rfl (Jvm.hb hby d2_4) rfl ?_
    show Steps p.tables e below (T2.setTop (mkF m 5 #[.val (.ref a1), .val (.int p2), .val (.int p3), .val (.int p4), .val (.int p5)] [(.int p4)])) t
    refine XS.iloadN X2.here hx rfl (Jvm.hb hby d2_5) rfl ?_
    show Steps p.tables e below (T2.setTop (mkF m 6 #[.val (.ref a1), .val (.int p2), .val (.int p3), .val (.int p4), .val (.int p5)] [(.int p2), (.int p4)])) t
    exact k
  have hc5 : ¬ (p4 < p2) := hlr
  have K6 : ∀ t, Steps p.tables e below (T2.setTop (mkF m 9 #[.val (.ref a1), .val (.int p2), .val (.int p3), .val (.int p4), .val (.int p5)] [])) t → Steps p.tables e below (T2.setTop (mkF m 6 #[.val (.ref a1), .val (.int p2), .val (.int p3), .val (.int p4), .val (.int p5)] [(.int p2), (.int p4)])) t := by
    intro t k
    refine XS.icmpNo X2.here hx rfl (Jvm.hb hby d2_6) rfl (flt hc5).1 ?_
    exact k
  have K7 : ∀ t, Steps p.tables e below (T2.setTop (mkF m 12 #[.val (.ref a1), .val (.int p2), .val (.int p3), .val (.int p4), .val (.int p5)] [(.int p3), (.int p5)])) t → Steps p.tables e below (T2.setTop (mkF m 9 #[.val (.ref a1), .val (.int p2), .val (.int p3), .val (.int p4), .val (.int p5)] [])) t := by
    intro t k
    refine XS.iload X2.here hx rfl (Jvm.hb hby d2_9) rfl ?_
    show Steps p.tables e below (T2.setTop (mkF m 11 #[.val (.ref a1), .val (.int p2), .val (.int p3), .val (.int p4), .val (.int p5)] [(.int p5)])) t
    refine XS.iloadN X2.here hx rfl (Jvm.hb hby d2_11) rfl ?_
    show Steps p.tables e below (T2.setTop (mkF m 12 #[.val (.ref a1), .val (.int p2), .val (.int p3), .val (.int p4), .val (.int p5)] [(.int p3), (.int p5)])) t
    exact k
  have hc8 : ¬ (p5 < p3) := htb
  have K9 : ∀ t, Steps p.tables e below (T2.setTop (mkF m 33 #[.val (.ref a1), .val (.int p2), .val (.int p3), .val (.int p4), .val (.int p5)] [])) t → Steps p.tables e below (T2.setTop (mkF m 12 #[.val (.ref a1), .val (.int p2), .val (.int p3), .val (.int p4), .val (.int p5)] [(.int p3), (.int p5)])) t := by
    intro t k
    refine XS.icmpYes X2.here hx rfl (pc0 := 12) (pc' := 33) rfl (Jvm.hb hby d2_12) rfl (flt hc8).2.1 (by decide) (by decide) ?_
    exact k
  have K10 : ∀ t, Steps p.tables e below (T2.setTop (mkF m 35 #[.val (.ref a1), .val (.int p2), .val (.int p3), .val (.int p4), .val (.int p5)] [(.int p2), (.ref a1)])) t → Steps p.tables e below (T2.setTop (mkF m 33 #[.val (.ref a1), .val (.int p2), .val (.int p3), .val (.int p4), .val (.int p5)] [])) t := by
    intro t k
    refine XS.aloadN X2.here hx rfl (Jvm.hb hby d2_33) rfl rfl ?_
    show Steps p.tables e below (T2.setTop (mkF m 34 #[.val (.ref a1), .val (.int p2), .val (.int p3), .val (.int p4), .val (.int p5)] [(.ref a1)])) t
    refine XS.iloadN X2.here hx rfl (Jvm.hb hby d2_34) rfl ?_
    show Steps p.tables e below (T2.setTop (mkF m 35 #[.val (.ref a1), .val (.int p2), .val (.int p3), .val (.int p4), .val (.int p5)] [(.int p2), (.ref a1)])) t
    exact k
  obtain ⟨T11, h11, X11, e11, W11, st11⟩ := putF X2 hx hZ hown (host := "") (Or.inl (hw _ (List.mem_of_getElem? (i := 20) rfl))) Via.refl e2 F_left_a1 E_a1 (Or.inr ⟨(hw _ (List.mem_of_getElem? (i := 21) rfl)), rfl, hnm⟩) (hw _ (List.mem_of_getElem? (i := 7) rfl)) (ty := .int) (by decide) rfl rfl (g := (mkF m 35 #[.val (.ref a1), .val (.int p2), .val (.int p3), .val (.int p4), .val (.int p5)] [(.int p2), (.ref a1)])) rfl rfl (Jvm.hb hby d2_35)
  have KP11 : Keep h0 h11 [a1] := (Keep.refl h0 [a1]).wr W11 (Or.inl (List.mem_of_getElem? (i := 0) rfl))
  have N11 := Fr.snoc X11 N2 g_a1
  have E11_0 : Exa Z h11 a1 "com/example/gutter/gutter/layout/Rect" := E_a1.wr W11
  have F11_1 : Fld Z h11 a1 "com/example/gutter/gutter/layout/Rect" "top" "I" u_top_a1 := F_top_a1.other W11 (Or.inr (slot_ne (Or.inr (hw _ (List.mem_of_getElem? (i := 23) rfl))) (Or.inr (hw _ (List.mem_of_getElem? (i := 21) rfl))) (by decide) (t := .int) (t' := .int) (by decide) (by decide)))
  have F11_2 : Fld Z h11 a1 "com/example/gutter/gutter/layout/Rect" "right" "I" u_right_a1 := F_right_a1.other W11 (Or.inr (slot_ne (Or.inr (hw _ (List.mem_of_getElem? (i := 25) rfl))) (Or.inr (hw _ (List.mem_of_getElem? (i := 21) rfl))) (by decide) (t := .int) (t' := .int) (by decide) (by decide)))
  have F11_3 : Fld Z h11 a1 "com/example/gutter/gutter/layout/Rect" "bottom" "I" u_bottom_a1 := F_bottom_a1.other W11 (Or.inr (slot_ne (Or.inr (hw _ (List.mem_of_getElem? (i := 27) rfl))) (Or.inr (hw _ (List.mem_of_getElem? (i := 21) rfl))) (by decide) (t := .int) (t' := .int) (by decide) (by decide)))
  have Fw11 : Fld Z h11 a1 "com/example/gutter/gutter/layout/Rect" "left" "I" (.int p2) := F_left_a1.same W11
  have K12 : ∀ t, Steps p.tables e below (T11.setTop (mkF m 38 #[.val (.ref a1), .val (.int p2), .val (.int p3), .val (.int p4), .val (.int p5)] [])) t → Steps p.tables e below (T2.setTop (mkF m 35 #[.val (.ref a1), .val (.int p2), .val (.int p3), .val (.int p4), .val (.int p5)] [(.int p2), (.ref a1)])) t := fun t k => st11 _ k
  have K13 : ∀ t, Steps p.tables e below (T11.setTop (mkF m 40 #[.val (.ref a1), .val (.int p2), .val (.int p3), .val (.int p4), .val (.int p5)] [(.int p3), (.ref a1)])) t → Steps p.tables e below (T11.setTop (mkF m 38 #[.val (.ref a1), .val (.int p2), .val (.int p3), .val (.int p4), .val (.int p5)] [])) t := by
    intro t k
    refine XS.aloadN X11.here hx rfl (Jvm.hb hby d2_38) rfl rfl ?_
    show Steps p.tables e below (T11.setTop (mkF m 39 #[.val (.ref a1), .val (.int p2), .val (.int p3), .val (.int p4), .val (.int p5)] [(.ref a1)])) t
    refine XS.iloadN X11.here hx rfl (Jvm.hb hby d2_39) rfl ?_
    show Steps p.tables e below (T11.setTop (mkF m 40 #[.val (.ref a1), .val (.int p2), .val (.int p3), .val (.int p4), .val (.int p5)] [(.int p3), (.ref a1)])) t
    exact k
  obtain ⟨T14, h14, X14, e14, W14, st14⟩ := putF X11 hx hZ hown (host := "") (Or.inl (hw _ (List.mem_of_getElem? (i := 22) rfl))) Via.refl e11 F11_1 E11_0 (Or.inr ⟨(hw _ (List.mem_of_getElem? (i := 23) rfl)), rfl, hnm⟩) (hw _ (List.mem_of_getElem? (i := 7) rfl)) (ty := .int) (by decide) rfl rfl (g := (mkF m 40 #[.val (.ref a1), .val (.int p2), .val (.int p3), .val (.int p4), .val (.int p5)] [(.int p3), (.ref a1)])) rfl rfl (Jvm.hb hby d2_40)
  have KP14 : Keep h0 h14 [a1] := KP11.wr W14 (Or.inl (List.mem_of_getElem? (i := 0) rfl))
  have N14 := Fr.snoc X14 N11 g_a1
  have E14_0 : Exa Z h14 a1 "com/example/gutter/gutter/layout/Rect" := E11_0.wr W14
  have F14_1 : Fld Z h14 a1 "com/example/gutter/gutter/layout/Rect" "right" "I" u_right_a1 := F11_2.other W14 (Or.inr (slot_ne (Or.inr (hw _ (List.mem_of_getElem? (i := 25) rfl))) (Or.inr (hw _ (List.mem_of_getElem? (i := 23) rfl))) (by decide) (t := .int) (t' := .int) (by decide) (by decide)))
  have F14_2 : Fld Z h14 a1 "com/example/gutter/gutter/layout/Rect" "bottom" "I" u_bottom_a1 := F11_3.other W14 (Or.inr (slot_ne (Or.inr (hw _ (List.mem_of_getElem? (i := 27) rfl))) (Or.inr (hw _ (List.mem_of_getElem? (i := 23) rfl))) (by decide) (t := .int) (t' := .int) (by decide) (by decide)))
  have F14_3 : Fld Z h14 a1 "com/example/gutter/gutter/layout/Rect" "left" "I" (.int p2) := Fw11.other W14 (Or.inr (slot_ne (Or.inr (hw _ (List.mem_of_getElem? (i := 21) rfl))) (Or.inr (hw _ (List.mem_of_getElem? (i := 23) rfl))) (by decide) (t := .int) (t' := .int) (by decide) (by decide)))
  have Fw14 : Fld Z h14 a1 "com/example/gutter/gutter/layout/Rect" "top" "I" (.int p3) := F11_1.same W14
  have K15 : ∀ t, Steps p.tables e below (T14.setTop (mkF m 43 #[.val (.ref a1), .val (.int p2), .val (.int p3), .val (.int p4), .val (.int p5)] [])) t → Steps p.tables e below (T11.setTop (mkF m 40 #[.val (.ref a1), .val (.int p2), .val (.int p3), .val (.int p4), .val (.int p5)] [(.int p3), (.ref a1)])) t := fun t k => st14 _ k
  have K16 : ∀ t, Steps p.tables e below (T14.setTop (mkF m 45 #[.val (.ref a1), .val (.int p2), .val (.int p3), .val (.int p4), .val (.int p5)] [(.int p4), (.ref a1)])) t → Steps p.tables e below (T14.setTop (mkF m 43 #[.val (.ref a1), .val (.int p2), .val (.int p3), .val (.int p4), .val (.int p5)] [])) t := by
    intro t k
    refine XS.aloadN X14.here hx rfl (Jvm.hb hby d2_43) rfl rfl ?_
    show Steps p.tables e below (T14.setTop (mkF m 44 #[.val (.ref a1), .val (.int p2), .val (.int p3), .val (.int p4), .val (.int p5)] [(.ref a1)])) t
    refine XS.iloadN X14.here hx rfl (Jvm.hb hby d2_44) rfl ?_
    show Steps p.tables e below (T14.setTop (mkF m 45 #[.val (.ref a1), .val (.int p2), .val (.int p3), .val (.int p4), .val (.int p5)] [(.int p4), (.ref a1)])) t
    exact k
  obtain ⟨T17, h17, X17, e17, W17, st17⟩ := putF X14 hx hZ hown (host := "") (Or.inl (hw _ (List.mem_of_getElem? (i := 24) rfl))) Via.refl e14 F14_1 E14_0 (Or.inr ⟨(hw _ (List.mem_of_getElem? (i := 25) rfl)), rfl, hnm⟩) (hw _ (List.mem_of_getElem? (i := 7) rfl)) (ty := .int) (by decide) rfl rfl (g := (mkF m 45 #[.val (.ref a1), .val (.int p2), .val (.int p3), .val (.int p4), .val (.int p5)] [(.int p4), (.ref a1)])) rfl rfl (Jvm.hb hby d2_45)
  have KP17 : Keep h0 h17 [a1] := KP14.wr W17 (Or.inl (List.mem_of_getElem? (i := 0) rfl))
  have N17 := Fr.snoc X17 N14 g_a1
  have E17_0 : Exa Z h17 a1 "com/example/gutter/gutter/layout/Rect" := E14_0.wr W17
  have F17_1 : Fld Z h17 a1 "com/example/gutter/gutter/layout/Rect" "bottom" "I" u_bottom_a1 := F14_2.other W17 (Or.inr (slot_ne (Or.inr (hw _ (List.mem_of_getElem? (i := 27) rfl))) (Or.inr (hw _ (List.mem_of_getElem? (i := 25) rfl))) (by decide) (t := .int) (t' := .int) (by decide) (by decide)))
  have F17_2 : Fld Z h17 a1 "com/example/gutter/gutter/layout/Rect" "left" "I" (.int p2) := F14_3.other W17 (Or.inr (slot_ne (Or.inr (hw _ (List.mem_of_getElem? (i := 21) rfl))) (Or.inr (hw _ (List.mem_of_getElem? (i := 25) rfl))) (by decide) (t := .int) (t' := .int) (by decide) (by decide)))
  have F17_3 : Fld Z h17 a1 "com/example/gutter/gutter/layout/Rect" "top" "I" (.int p3) := Fw14.other W17 (Or.inr (slot_ne (Or.inr (hw _ (List.mem_of_getElem? (i := 23) rfl))) (Or.inr (hw _ (List.mem_of_getElem? (i := 25) rfl))) (by decide) (t := .int) (t' := .int) (by decide) (by decide)))
  have Fw17 : Fld Z h17 a1 "com/example/gutter/gutter/layout/Rect" "right" "I" (.int p4) := F14_1.same W17
  have K18 : ∀ t, Steps p.tables e below (T17.setTop (mkF m 48 #[.val (.ref a1), .val (.int p2), .val (.int p3), .val (.int p4), .val (.int p5)] [])) t → Steps p.tables e below (T14.setTop (mkF m 45 #[.val (.ref a1), .val (.int p2), .val (.int p3), .val (.int p4), .val (.int p5)] [(.int p4), (.ref a1)])) t := fun t k => st17 _ k
  have K19 : ∀ t, Steps p.tables e below (T17.setTop (mkF m 51 #[.val (.ref a1), .val (.int p2), .val (.int p3), .val (.int p4), .val (.int p5)] [(.int p5), (.ref a1)])) t → Steps p.tables e below (T17.setTop (mkF m 48 #[.val (.ref a1), .val (.int p2), .val (.int p3), .val (.int p4), .val (.int p5)] [])) t := by
    intro t k
    refine XS.aloadN X17.here hx rfl (Jvm.hb hby d2_48) rfl rfl ?_
    show Steps p.tables e below (T17.setTop (mkF m 49 #[.val (.ref a1), .val (.int p2), .val (.int p3), .val (.int p4), .val (.int p5)] [(.ref a1)])) t
    refine XS.iload X17.here hx rfl (Jvm.hb hby d2_49) rfl ?_
    show Steps p.tables e below (T17.setTop (mkF m 51 #[.val (.ref a1), .val (.int p2), .val (.int p3), .val (.int p4), .val (.int p5)] [(.int p5), (.ref a1)])) t
    exact k
  obtain ⟨T20, h20, X20, e20, W20, st20⟩ := putF X17 hx hZ hown (host := "") (Or.inl (hw _ (List.mem_of_getElem? (i := 26) rfl))) Via.refl e17 F17_1 E17_0 (Or.inr ⟨(hw _ (List.mem_of_getElem? (i := 27) rfl)), rfl, hnm⟩) (hw _ (List.mem_of_getElem? (i := 7) rfl)) (ty := .int) (by decide) rfl rfl (g := (mkF m 51 #[.val (.ref a1), .val (.int p2), .val (.int p3), .val (.int p4), .val (.int p5)] [(.int p5), (.ref a1)])) rfl rfl (Jvm.hb hby d2_51)
  have KP20 : Keep h0 h20 [a1] := KP17.wr W20 (Or.inl (List.mem_of_getElem? (i := 0) rfl))
  have N20 := Fr.snoc X20 N17 g_a1
  have E20_0 : Exa Z h20 a1 "com/example/gutter/gutter/layout/Rect" := E17_0.wr W20
  have F20_1 : Fld Z h20 a1 "com/example/gutter/gutter/layout/Rect" "left" "I" (.int p2) := F17_2.other W20 (Or.inr (slot_ne (Or.inr (hw _ (List.mem_of_getElem? (i := 21) rfl))) (Or.inr (hw _ (List.mem_of_getElem? (i := 27) rfl))) (by decide) (t := .int) (t' := .int) (by decide) (by decide)))
  have F20_2 : Fld Z h20 a1 "com/example/gutter/gutter/layout/Rect" "top" "I" (.int p3) := F17_3.other W20 (Or.inr (slot_ne (Or.inr (hw _ (List.mem_of_getElem? (i := 23) rfl))) (Or.inr (hw _ (List.mem_of_getElem? (i := 27) rfl))) (by decide) (t := .int) (t' := .int) (by decide) (by decide)))
  have F20_3 : Fld Z h20 a1 "com/example/gutter/gutter/layout/Rect" "right" "I" (.int p4) := Fw17.other W20 (Or.inr (slot_ne (Or.inr (hw _ (List.mem_of_getElem? (i := 25) rfl))) (Or.inr (hw _ (List.mem_of_getElem? (i := 27) rfl))) (by decide) (t := .int) (t' := .int) (by decide) (by decide)))
  have Fw20 : Fld Z h20 a1 "com/example/gutter/gutter/layout/Rect" "bottom" "I" (.int p5) := F17_1.same W20
  have K21 : ∀ t, Steps p.tables e below (T20.setTop (mkF m 54 #[.val (.ref a1), .val (.int p2), .val (.int p3), .val (.int p4), .val (.int p5)] [])) t → Steps p.tables e below (T17.setTop (mkF m 51 #[.val (.ref a1), .val (.int p2), .val (.int p3), .val (.int p4), .val (.int p5)] [(.int p5), (.ref a1)])) t := fun t k => st20 _ k
  obtain ⟨fs, hr, hrun, hended, hW, hsame⟩ := X20.leave (v := none) (fun _ => rfl) Bd.notSynchronized
  refine ⟨_, _, pre0 _ (K1 _ (K3 _ (K4 _ (K6 _ (K7 _ (K9 _ (K10 _ (K12 _ (K13 _ (K15 _ (K16 _ (K18 _ (K19 _ (K21 _ (X20.returnOut hx Bd.returns (Jvm.hb hby d2_54) hr))))))))))))))), hrun, hended, _, _, rfl, ?_, ⟨_, rfl⟩, hW, hsame.mono (by decide) (by decide)⟩
  show Q2 Z a1 p2 p3 p4 p5 u_left_a1 u_top_a1 u_right_a1 u_bottom_a1 h0 n0 _ T20.heap _
  rw [e20]
  exact ⟨rfl, N20, KP20, E20_0, F20_1, F20_2, F20_3, Fw20⟩
-- body 6: com/example/gutter/gutter/layout/Rect.width()I
theorem d6_0 : decode prog_6_method_4_code 0 = .ok (.aload_n 0, 1) := by decide +kernel
theorem d6_1 : decode prog_6_method_4_code 1 = .ok (.getfield 25, 3) := by decide +kernel
theorem d6_4 : decode prog_6_method_4_code 4 = .ok (.aload_n 0, 1) := by decide +kernel
theorem d6_5 : decode prog_6_method_4_code 5 = .ok (.getfield 16, 3) := by decide +kernel
theorem d6_8 : decode prog_6_method_4_code 8 = .ok (.isub, 1) := by decide +kernel
theorem d6_9 : decode prog_6_method_4_code 9 = .ok (.ireturn, 1) := by decide +kernel
theorem pn_6 : plainName "com/example/gutter/gutter/layout/Rect" = true := by first | (simp [plainName, overriddenIn]; done) | decide +kernel
theorem ef_6 (m : MethodId) (a1 : Addr) : entryFrame m #[(.ref a1)] 1 = mkF m 0 #[.val (.ref a1)] [] := by first | (simp [entryFrame, mkF, argsToLocals, Value.category]; done) | rfl
def f6 (v_right_a1 : Int32) (v_left_a1 : Int32) : Int32 := (v_right_a1 - v_left_a1)
def Q6 (Z : State) (a1 : Addr) (v_right_a1 : Int32) (v_left_a1 : Int32) (h0 : Heap) (n0 : Nat) (v : Option Value) (h : Heap) (L : List Loc) : Prop := v = some (.int (f6 v_right_a1 v_left_a1)) ∧ Fr n0 L ∧ h = h0
set_option maxRecDepth 65536 in
set_option maxHeartbeats 40000000 in
theorem rm6 (l : Launch) (Z : State) (a0 : Array Value) (hw : ∀ d ∈ tables_1, d.before a0 Z = true) (ws : List Jvm.Cond) (a1 : Addr) (v_right_a1 : Int32) (v_left_a1 : Int32) (h0 : Heap) (n0 : Nat) (Z0 : n0 ≤ h0.size) (F_right_a1 : Fld Z h0 a1 "com/example/gutter/gutter/layout/Rect" "right" "I" (.int v_right_a1)) (F_left_a1 : Fld Z h0 a1 "com/example/gutter/gutter/layout/Rect" "left" "I" (.int v_left_a1)) :
    MetFree l (⟨"com/example/gutter/gutter/layout/Rect", "width", "()I"⟩ : MethodName) (head1 (Jvm.Cond.code (⟨"com/example/gutter/gutter/layout/Rect", "width", "()I"⟩ : MethodName) prog_6_method_4_code 1 (some .int) :: ws) ({ frames := 0, cells := 0, slots := 0, locals := 0 } : Room)) (fun a U => a = #[(.ref a1)] ∧ Z.Warmed39 U.vm ∧ U.heap = h0) (fun _ _ _ _ _ => True) (fun _ U o U' => ∃ v L, o = .returned v ∧ Q6 Z a1 v_right_a1 v_left_a1 h0 n0 v U'.heap L ∧ FrameEnd U o U' L ({ frames := 0, cells := 0, slots := 0, locals := 0 } : Room).cells ({ frames := 0, cells := 0, slots := 0, locals := 0 } : Room).slots) := by
  refine MetFree.of_bodySF (plainFor_of_name pn_6) hisR ?_
  intro p e s m args below meth c s₁ Bd hml0 hP hK
  obtain ⟨rfl, hZ, hh⟩ := hP
  have hx := Bd.exec
  have hby := Bd.bytes
  have hml : c.maxLocals = 1 := hml0
  have hown : s.vm.findClass "com/example/gutter/gutter/layout/Rect" = some m.cls := findClass_of_methodNamed Bd.named
  have hnm := (name_of_methodNamed Bd.named Bd.method).1
  have X0 : Stand p l e ({ frames := 0, cells := 0, slots := 0, locals := 0 } : Room) s m #[(.ref a1)] below meth c s₁ [] 0 0 := Stand.of_body Bd
  have e0 : s₁.heap = h0 := by rw [← hh, Bd.state]; rfl
  have N0 := Fr.nil n0
  have pre0 : ∀ t, Steps p.tables e below (s₁.setTop (mkF m 0 #[.val (.ref a1)] [])) t → Steps p.tables e below (s₁.setTop (entryFrame m #[(.ref a1)] 1)) t := fun t k => castTop (ef_6 m a1) k
  have K1 : ∀ t, Steps p.tables e below (s₁.setTop (mkF m 1 #[.val (.ref a1)] [(.ref a1)])) t → Steps p.tables e below (s₁.setTop (mkF m 0 #[.val (.ref a1)] [])) t := by
    intro t k
    refine XS.aloadN X0.here hx rfl (Jvm.hb hby d6_0) rfl rfl ?_
    show Steps p.tables e below (s₁.setTop (mkF m 1 #[.val (.ref a1)] [(.ref a1)])) t
    exact k
  obtain ⟨T2, X2, e2, st2⟩ := getF X0 hx hZ hown (host := "") (Or.inl (hw _ (List.mem_of_getElem? (i := 24) rfl))) Via.refl e0 F_right_a1 (g := (mkF m 1 #[.val (.ref a1)] [(.ref a1)])) rfl rfl (Jvm.hb hby d6_1)
  have K3 : ∀ t, Steps p.tables e below (T2.setTop (mkF m 4 #[.val (.ref a1)] [(.int v_right_a1)])) t → Steps p.tables e below (s₁.setTop (mkF m 1 #[.val (.ref a1)] [(.ref a1)])) t := fun t k => st2 _ k
  have K4 : ∀ t, Steps p.tables e below (T2.setTop (mkF m 5 #[.val (.ref a1)] [(.ref a1), (.int v_right_a1)])) t → Steps p.tables e below (T2.setTop (mkF m 4 #[.val (.ref a1)] [(.int v_right_a1)])) t := by
    intro t k
    refine XS.aloadN X2.here hx rfl (Jvm.hb hby d6_4) rfl rfl ?_
    show Steps p.tables e below (T2.setTop (mkF m 5 #[.val (.ref a1)] [(.ref a1), (.int v_right_a1)])) t
    exact k
  obtain ⟨T5, X5, e5, st5⟩ := getF X2 hx hZ hown (host := "") (Or.inl (hw _ (List.mem_of_getElem? (i := 20) rfl))) Via.refl e2 F_left_a1 (g := (mkF m 5 #[.val (.ref a1)] [(.ref a1), (.int v_right_a1)])) rfl rfl (Jvm.hb hby d6_5)
  have K6 : ∀ t, Steps p.tables e below (T5.setTop (mkF m 8 #[.val (.ref a1)] [(.int v_left_a1), (.int v_right_a1)])) t → Steps p.tables e below (T2.setTop (mkF m 5 #[.val (.ref a1)] [(.ref a1), (.int v_right_a1)])) t := fun t k => st5 _ k
  have K7 : ∀ t, Steps p.tables e below (T5.setTop (mkF m 9 #[.val (.ref a1)] [(.int (v_right_a1 - v_left_a1))])) t → Steps p.tables e below (T5.setTop (mkF m 8 #[.val (.ref a1)] [(.int v_left_a1), (.int v_right_a1)])) t := by
    intro t k
    refine XS.isub X5.here hx rfl (Jvm.hb hby d6_8) rfl ?_
    show Steps p.tables e below (T5.setTop (mkF m 9 #[.val (.ref a1)] [(.int (v_right_a1 - v_left_a1))])) t
    exact k
  obtain ⟨fs, hr, hrun, hended, hW, hsame⟩ := X5.leave (v := some (.int (v_right_a1 - v_left_a1))) (fun h => by rw [Bd.returns] at h; cases h) Bd.notSynchronized
  refine ⟨_, _, pre0 _ (K1 _ (K3 _ (K4 _ (K6 _ (K7 _ (retI X5 hx Bd.returns (Jvm.hb hby d6_9) hr)))))), hrun, hended, _, _, rfl, ?_, ⟨_, rfl⟩, hW, hsame.mono (by decide) (by decide)⟩
  show Q6 Z a1 v_right_a1 v_left_a1 h0 n0 _ T5.heap _
  rw [e5]
  exact ⟨congrArg (fun z => some (Value.int z)) (show (v_right_a1 - v_left_a1) = f6 v_right_a1 v_left_a1 from Eq.symm (rfl)), N0, rfl⟩
-- body 7: com/example/gutter/gutter/layout/Rect.height()I
theorem d7_0 : decode prog_6_method_5_code 0 = .ok (.aload_n 0, 1) := by decide +kernel
theorem d7_1 : decode prog_6_method_5_code 1 = .ok (.getfield 28, 3) := by decide +kernel
theorem d7_4 : decode prog_6_method_5_code 4 = .ok (.aload_n 0, 1) := by decide +kernel
theorem d7_5 : decode prog_6_method_5_code 5 = .ok (.getfield 22, 3) := by decide +kernel
theorem d7_8 : decode prog_6_method_5_code 8 = .ok (.isub, 1) := by decide +kernel
theorem d7_9 : decode prog_6_method_5_code 9 = .ok (.ireturn, 1) := by decide +kernel
theorem pn_7 : plainName "com/example/gutter/gutter/layout/Rect" = true := by first | (simp [plainName, overriddenIn]; done) | decide +kernel
theorem ef_7 (m : MethodId) (a1 : Addr) : entryFrame m #[(.ref a1)] 1 = mkF m 0 #[.val (.ref a1)] [] := by first | (simp [entryFrame, mkF, argsToLocals, Value.category]; done) | rfl
def f7 (v_bottom_a1 : Int32) (v_top_a1 : Int32) : Int32 := (v_bottom_a1 - v_top_a1)
def Q7 (Z : State) (a1 : Addr) (v_bottom_a1 : Int32) (v_top_a1 : Int32) (h0 : Heap) (n0 : Nat) (v : Option Value) (h : Heap) (L : List Loc) : Prop := v = some (.int (f7 v_bottom_a1 v_top_a1)) ∧ Fr n0 L ∧ h = h0
set_option maxRecDepth 65536 in
set_option maxHeartbeats 40000000 in
theorem rm7 (l : Launch) (Z : State) (a0 : Array Value) (hw : ∀ d ∈ tables_1, d.before a0 Z = true) (ws : List Jvm.Cond) (a1 : Addr) (v_bottom_a1 : Int32) (v_top_a1 : Int32) (h0 : Heap) (n0 : Nat) (Z0 : n0 ≤ h0.size) (F_bottom_a1 : Fld Z h0 a1 "com/example/gutter/gutter/layout/Rect" "bottom" "I" (.int v_bottom_a1)) (F_top_a1 : Fld Z h0 a1 "com/example/gutter/gutter/layout/Rect" "top" "I" (.int v_top_a1)) :
    MetFree l (⟨"com/example/gutter/gutter/layout/Rect", "height", "()I"⟩ : MethodName) (head1 (Jvm.Cond.code (⟨"com/example/gutter/gutter/layout/Rect", "height", "()I"⟩ : MethodName) prog_6_method_5_code 1 (some .int) :: ws) ({ frames := 0, cells := 0, slots := 0, locals := 0 } : Room)) (fun a U => a = #[(.ref a1)] ∧ Z.Warmed39 U.vm ∧ U.heap = h0) (fun _ _ _ _ _ => True) (fun _ U o U' => ∃ v L, o = .returned v ∧ Q7 Z a1 v_bottom_a1 v_top_a1 h0 n0 v U'.heap L ∧ FrameEnd U o U' L ({ frames := 0, cells := 0, slots := 0, locals := 0 } : Room).cells ({ frames := 0, cells := 0, slots := 0, locals := 0 } : Room).slots) := by
  refine MetFree.of_bodySF (plainFor_of_name pn_7) hisR ?_
  intro p e s m args below meth c s₁ Bd hml0 hP hK
  obtain ⟨rfl, hZ, hh⟩ := hP
  have hx := Bd.exec
  have hby := Bd.bytes
  have hml : c.maxLocals = 1 := hml0
  have hown : s.vm.findClass "com/example/gutter/gutter/layout/Rect" = some m.cls := findClass_of_methodNamed Bd.named
  have hnm := (name_of_methodNamed Bd.named Bd.method).1
  have X0 : Stand p l e ({ frames := 0, cells := 0, slots := 0, locals := 0 } : Room) s m #[(.ref a1)] below meth c s₁ [] 0 0 := Stand.of_body Bd
  have e0 : s₁.heap = h0 := by rw [← hh, Bd.state]; rfl
  have N0 := Fr.nil n0
  have pre0 : ∀ t, Steps p.tables e below (s₁.setTop (mkF m 0 #[.val (.ref a1)] [])) t → Steps p.tables e below (s₁.setTop (entryFrame m #[(.ref a1)] 1)) t := fun t k => castTop (ef_7 m a1) k
  have K1 : ∀ t, Steps p.tables e below (s₁.setTop (mkF m 1 #[.val (.ref a1)] [(.ref a1)])) t → Steps p.tables e below (s₁.setTop (mkF m 0 #[.val (.ref a1)] [])) t := by
    intro t k
    refine XS.aloadN X0.here hx rfl (Jvm.hb hby d7_0) rfl rfl ?_
    show Steps p.tables e below (s₁.setTop (mkF m 1 #[.val (.ref a1)] [(.ref a1)])) t
    exact k
  obtain ⟨T2, X2, e2, st2⟩ := getF X0 hx hZ hown (host := "") (Or.inl (hw _ (List.mem_of_getElem? (i := 26) rfl))) Via.refl e0 F_bottom_a1 (g := (mkF m 1 #[.val (.ref a1)] [(.ref a1)])) rfl rfl (Jvm.hb hby d7_1)
  have K3 : ∀ t, Steps p.tables e below (T2.setTop (mkF m 4 #[.val (.ref a1)] [(.int v_bottom_a1)])) t → Steps p.tables e below (s₁.setTop (mkF m 1 #[.val (.ref a1)] [(.ref a1)])) t := fun t k => st2 _ k
  have K4 : ∀ t, Steps p.tables e below (T2.setTop (mkF m 5 #[.val (.ref a1)] [(.ref a1), (.int v_bottom_a1)])) t → Steps p.tables e below (T2.setTop (mkF m 4 #[.val (.ref a1)] [(.int v_bottom_a1)])) t := by
    intro t k
    refine XS.aloadN X2.here hx rfl (Jvm.hb hby d7_4) rfl rfl ?_
    show Steps p.tables e below (T2.setTop (mkF m 5 #[.val (.ref a1)] [(.ref a1), (.int v_bottom_a1)])) t
    exact k
  obtain ⟨T5, X5, e5, st5⟩ := getF X2 hx hZ hown (host := "") (Or.inl (hw _ (List.mem_of_getElem? (i := 22) rfl))) Via.refl e2 F_top_a1 (g := (mkF m 5 #[.val (.ref a1)] [(.ref a1), (.int v_bottom_a1)])) rfl rfl (Jvm.hb hby d7_5)
  have K6 : ∀ t, Steps p.tables e below (T5.setTop (mkF m 8 #[.val (.ref a1)] [(.int v_top_a1), (.int v_bottom_a1)])) t → Steps p.tables e below (T2.setTop (mkF m 5 #[.val (.ref a1)] [(.ref a1), (.int v_bottom_a1)])) t := fun t k => st5 _ k
  have K7 : ∀ t, Steps p.tables e below (T5.setTop (mkF m 9 #[.val (.ref a1)] [(.int (v_bottom_a1 - v_top_a1))])) t → Steps p.tables e below (T5.setTop (mkF m 8 #[.val (.ref a1)] [(.int v_top_a1), (.int v_bottom_a1)])) t := by
    intro t k
    refine XS.isub X5.here hx rfl (Jvm.hb hby d7_8) rfl ?_
    show Steps p.tables e below (T5.setTop (mkF m 9 #[.val (.ref a1)] [(.int (v_bottom_a1 - v_top_a1))])) t
    exact k
  obtain ⟨fs, hr, hrun, hended, hW, hsame⟩ := X5.leave (v := some (.int (v_bottom_a1 - v_top_a1))) (fun h => by rw [Bd.returns] at h; cases h) Bd.notSynchronized
  refine ⟨_, _, pre0 _ (K1 _ (K3 _ (K4 _ (K6 _ (K7 _ (retI X5 hx Bd.returns (Jvm.hb hby d7_9) hr)))))), hrun, hended, _, _, rfl, ?_, ⟨_, rfl⟩, hW, hsame.mono (by decide) (by decide)⟩
  show Q7 Z a1 v_bottom_a1 v_top_a1 h0 n0 _ T5.heap _
  rw [e5]
  exact ⟨congrArg (fun z => some (Value.int z)) (show (v_bottom_a1 - v_top_a1) = f7 v_bottom_a1 v_top_a1 from Eq.symm (rfl)), N0, rfl⟩
-- body 5: com/example/gutter/gutter/layout/Rect.hasArea()Z
theorem d5_0 : decode prog_6_method_7_code 0 = .ok (.aload_n 0, 1) := by decide +kernel
theorem d5_1 : decode prog_6_method_7_code 1 = .ok (.invokevirtual 47, 3) := by decide +kernel
theorem d5_4 : decode prog_6_method_7_code 4 = .ok (.ifCond .le 14, 3) := by decide +kernel
theorem d5_7 : decode prog_6_method_7_code 7 = .ok (.aload_n 0, 1) := by decide +kernel
theorem d5_8 : decode prog_6_method_7_code 8 = .ok (.invokevirtual 51, 3) := by decide +kernel
theorem d5_11 : decode prog_6_method_7_code 11 = .ok (.ifCond .le 7, 3) := by decide +kernel
theorem d5_14 : decode prog_6_method_7_code 14 = .ok (.iconst 1, 1) := by decide +kernel
theorem d5_15 : decode prog_6_method_7_code 15 = .ok (.goto 4, 3) := by decide +kernel
theorem d5_18 : decode prog_6_method_7_code 18 = .ok (.iconst 0, 1) := by decide +kernel
theorem d5_19 : decode prog_6_method_7_code 19 = .ok (.ireturn, 1) := by decide +kernel
theorem pn_5 : plainName "com/example/gutter/gutter/layout/Rect" = true := by first | (simp [plainName, overriddenIn]; done) | decide +kernel
theorem pd_4 : parseMethodDescriptor "()I" = some ⟨[], some .int⟩ := by decide +kernel
theorem ef_5 (m : MethodId) (a1 : Addr) : entryFrame m #[(.ref a1)] 1 = mkF m 0 #[.val (.ref a1)] [] := by first | (simp [entryFrame, mkF, argsToLocals, Value.category]; done) | rfl
def f5 (v_right_a1 : Int32) (v_left_a1 : Int32) (v_bottom_a1 : Int32) (v_top_a1 : Int32) : Int32 := (if (0 : Int32) < (f6 v_right_a1 v_left_a1) then (if (0 : Int32) < (f7 v_bottom_a1 v_top_a1) then (1 : Int32) else (0 : Int32)) else (0 : Int32))
def Q5 (Z : State) (a1 : Addr) (v_right_a1 : Int32) (v_left_a1 : Int32) (v_bottom_a1 : Int32) (v_top_a1 : Int32) (h0 : Heap) (n0 : Nat) (v : Option Value) (h : Heap) (L : List Loc) : Prop := v = some (.int (f5 v_right_a1 v_left_a1 v_bottom_a1 v_top_a1)) ∧ Fr n0 L ∧ h = h0
set_option maxRecDepth 65536 in
set_option maxHeartbeats 40000000 in
theorem rm5 (l : Launch) (Z : State) (a0 : Array Value) (hw : ∀ d ∈ tables_1, d.before a0 Z = true) (ws : List Jvm.Cond) (a1 : Addr) (v_right_a1 : Int32) (v_left_a1 : Int32) (v_bottom_a1 : Int32) (v_top_a1 : Int32) (h0 : Heap) (n0 : Nat) (Z0 : n0 ≤ h0.size) (E_a1 : Exa Z h0 a1 "com/example/gutter/gutter/layout/Rect") (F_right_a1 : Fld Z h0 a1 "com/example/gutter/gutter/layout/Rect" "right" "I" (.int v_right_a1)) (F_left_a1 : Fld Z h0 a1 "com/example/gutter/gutter/layout/Rect" "left" "I" (.int v_left_a1)) (F_bottom_a1 : Fld Z h0 a1 "com/example/gutter/gutter/layout/Rect" "bottom" "I" (.int v_bottom_a1)) (F_top_a1 : Fld Z h0 a1 "com/example/gutter/gutter/layout/Rect" "top" "I" (.int v_top_a1)) :
    MetFree l (⟨"com/example/gutter/gutter/layout/Rect", "hasArea", "()Z"⟩ : MethodName) (head1 (Jvm.Cond.code (⟨"com/example/gutter/gutter/layout/Rect", "hasArea", "()Z"⟩ : MethodName) prog_6_method_7_code 1 (some .boolean) :: ws) ({ frames := 1, cells := 0, slots := 0, locals := 12 } : Room)) (fun a U => a = #[(.ref a1)] ∧ Z.Warmed39 U.vm ∧ U.heap = h0) (fun _ _ _ _ _ => True) (fun _ U o U' => ∃ v L, o = .returned v ∧ Q5 Z a1 v_right_a1 v_left_a1 v_bottom_a1 v_top_a1 h0 n0 v U'.heap L ∧ FrameEnd U o U' L ({ frames := 1, cells := 0, slots := 0, locals := 12 } : Room).cells ({ frames := 1, cells := 0, slots := 0, locals := 12 } : Room).slots) := by
  refine MetFree.of_bodySF (plainFor_of_name pn_5) hisR ?_
  intro p e s m args below meth c s₁ Bd hml0 hP hK
  obtain ⟨rfl, hZ, hh⟩ := hP
  have hx := Bd.exec
  have hby := Bd.bytes
  have hml : c.maxLocals = 1 := hml0
  have hown : s.vm.findClass "com/example/gutter/gutter/layout/Rect" = some m.cls := findClass_of_methodNamed Bd.named
  have hnm := (name_of_methodNamed Bd.named Bd.method).1
  have X0 : Stand p l e ({ frames := 1, cells := 0, slots := 0, locals := 12 } : Room) s m #[(.ref a1)] below meth c s₁ [] 0 0 := Stand.of_body Bd
  have e0 : s₁.heap = h0 := by rw [← hh, Bd.state]; rfl
  have N0 := Fr.nil n0
  have pre0 : ∀ t, Steps p.tables e below (s₁.setTop (mkF m 0 #[.val (.ref a1)] [])) t → Steps p.tables e below (s₁.setTop (entryFrame m #[(.ref a1)] 1)) t := fun t k => castTop (ef_5 m a1) k
  have K1 : ∀ t, Steps p.tables e below (s₁.setTop (mkF m 1 #[.val (.ref a1)] [(.ref a1)])) t → Steps p.tables e below (s₁.setTop (mkF m 0 #[.val (.ref a1)] [])) t := by
    intro t k
    refine XS.aloadN X0.here hx rfl (Jvm.hb hby d5_0) rfl rfl ?_
    show Steps p.tables e below (s₁.setTop (mkF m 1 #[.val (.ref a1)] [(.ref a1)])) t
    exact k
  obtain ⟨cq2, kq2, q2a, q2b, q2c⟩ := isOf hZ e0 E_a1
  obtain ⟨_, _, ⟨T2, L2, k2, n2⟩, -, X2, ⟨Lc2, hQ2, l2, y2, z2⟩, st2⟩ := X0.virtualBack hx (y := (⟨"com/example/gutter/gutter/layout/Rect", "width", "()I"⟩ : MethodName)) (z := (⟨"com/example/gutter/gutter/layout/Rect", "width", "()I"⟩ : MethodName)) hown (mvT hZ (hw _ (List.mem_of_getElem? (i := 33) rfl))) (mvT hZ (hw _ (List.mem_of_getElem? (i := 34) rfl))) (notFace_of_selects (args := #[]) (mvT hZ (hw _ (List.mem_of_getElem? (i := 36) rfl)))) (mvT hZ (hw _ (List.mem_of_getElem? (i := 36) rfl))) (mvT hZ (hw _ (List.mem_of_getElem? (i := 35) rfl))) (by decide) (backOf (W := 0) (rm6 l Z a0 hw [] a1 v_right_a1 v_left_a1 h0 n0 Z0 F_right_a1 F_left_a1) hZ (hw _ (List.mem_of_getElem? (i := 37) rfl)) (hw _ (List.mem_of_getElem? (i := 8) rfl)) (by decide) (by decide)) q2a q2c (g := (mkF m 1 #[.val (.ref a1)] [(.ref a1)])) rfl (by rw [hml]; rfl) (Steps.refl _) (argsL := []) (rest := []) (lenOf pd_4 rfl) rfl (by show 2 * 0 + _ ≤ _; exact Nat.le_of_eq rfl) (Jvm.hb hby d5_1) (fun _ _ => ⟨rfl, e0, (by decide : 0 + 0 ≤ _), (by decide : 0 + 0 ≤ _)⟩)
  dsimp only [Pt.U, Pt.locs, Pt.cells, Pt.slots] at X2 l2 y2 z2 st2 hQ2
  subst l2 y2 z2
  obtain ⟨rfl, N2q, e2⟩ := hQ2
  have N2 := Fr.app N0 N2q
  have K3 : ∀ t, Steps p.tables e below (T2.setTop (mkF m 4 #[.val (.ref a1)] [(.int (f6 v_right_a1 v_left_a1))])) t → Steps p.tables e below (s₁.setTop (mkF m 1 #[.val (.ref a1)] [(.ref a1)])) t := fun t k => st2.trans k
  by_cases hc4 : (0 : Int32) < (f6 v_right_a1 v_left_a1)
  · have K5 : ∀ t, Steps p.tables e below (T2.setTop (mkF m 7 #[.val (.ref a1)] [])) t → Steps p.tables e below (T2.setTop (mkF m 4 #[.val (.ref a1)] [(.int (f6 v_right_a1 v_left_a1))])) t := by
      intro t k
      refine XS.ifNo X2.here hx rfl (Jvm.hb hby d5_4) rfl ((if0 _ _).trans (tlt hc4).2.2.2) ?_
      exact k
    have K6 : ∀ t, Steps p.tables e below (T2.setTop (mkF m 8 #[.val (.ref a1)] [(.ref a1)])) t → Steps p.tables e below (T2.setTop (mkF m 7 #[.val (.ref a1)] [])) t := by
      intro t k
      refine XS.aloadN X2.here hx rfl (Jvm.hb hby d5_7) rfl rfl ?_
      show Steps p.tables e below (T2.setTop (mkF m 8 #[.val (.ref a1)] [(.ref a1)])) t
      exact k
    obtain ⟨cq7, kq7, q7a, q7b, q7c⟩ := isOf hZ e2 E_a1
    obtain ⟨_, _, ⟨T7, L7, k7, n7⟩, -, X7, ⟨Lc7, hQ7, l7, y7, z7⟩, st7⟩ := X2.virtualBack hx (y := (⟨"com/example/gutter/gutter/layout/Rect", "height", "()I"⟩ : MethodName)) (z := (⟨"com/example/gutter/gutter/layout/Rect", "height", "()I"⟩ : MethodName)) hown (mvT hZ (hw _ (List.mem_of_getElem? (i := 38) rfl))) (mvT hZ (hw _ (List.mem_of_getElem? (i := 39) rfl))) (notFace_of_selects (args := #[]) (mvT hZ (hw _ (List.mem_of_getElem? (i := 41) rfl)))) (mvT hZ (hw _ (List.mem_of_getElem? (i := 41) rfl))) (mvT hZ (hw _ (List.mem_of_getElem? (i := 40) rfl))) (by decide) (backOf (W := 0) (rm7 l Z a0 hw [] a1 v_bottom_a1 v_top_a1 h0 n0 Z0 F_bottom_a1 F_top_a1) hZ (hw _ (List.mem_of_getElem? (i := 42) rfl)) (hw _ (List.mem_of_getElem? (i := 8) rfl)) (by decide) (by decide)) q7a q7c (g := (mkF m 8 #[.val (.ref a1)] [(.ref a1)])) rfl (by rw [hml]; rfl) (Steps.refl _) (argsL := []) (rest := []) (lenOf pd_4 rfl) rfl (by show 2 * 0 + _ ≤ _; exact Nat.le_of_eq rfl) (Jvm.hb hby d5_8) (fun _ _ => ⟨rfl, e2, (by decide : 0 + 0 ≤ _), (by decide : 0 + 0 ≤ _)⟩)
    dsimp only [Pt.U, Pt.locs, Pt.cells, Pt.slots] at X7 l7 y7 z7 st7 hQ7
    subst l7 y7 z7
    obtain ⟨rfl, N7q, e7⟩ := hQ7
    have N7 := Fr.app N2 N7q
    have K8 : ∀ t, Steps p.tables e below (T7.setTop (mkF m 11 #[.val (.ref a1)] [(.int (f7 v_bottom_a1 v_top_a1))])) t → Steps p.tables e below (T2.setTop (mkF m 8 #[.val (.ref a1)] [(.ref a1)])) t := fun t k => st7.trans k
    by_cases hc9 : (0 : Int32) < (f7 v_bottom_a1 v_top_a1)
    · have K10 : ∀ t, Steps p.tables e below (T7.setTop (mkF m 14 #[.val (.ref a1)] [])) t → Steps p.tables e below (T7.setTop (mkF m 11 #[.val (.ref a1)] [(.int (f7 v_bottom_a1 v_top_a1))])) t := by
        intro t k
        refine XS.ifNo X7.here hx rfl (Jvm.hb hby d5_11) rfl ((if0 _ _).trans (tlt hc9).2.2.2) ?_
        exact k
      have K11 : ∀ t, Steps p.tables e below (T7.setTop (mkF m 19 #[.val (.ref a1)] [(.int (1 : Int32))])) t → Steps p.tables e below (T7.setTop (mkF m 14 #[.val (.ref a1)] [])) t := by
        intro t k
        refine XS.iconst X7.here hx rfl (Jvm.hb hby d5_14) ?_
        show Steps p.tables e below (T7.setTop (mkF m 15 #[.val (.ref a1)] [(.int (1 : Int32))])) t
        refine XS.goto X7.here hx rfl (pc0 := 15) (pc' := 19) rfl (Jvm.hb hby d5_15) (by decide) (by decide) ?_
        show Steps p.tables e below (T7.setTop (mkF m 19 #[.val (.ref a1)] [(.int (1 : Int32))])) t
        exact k
      obtain ⟨fs, hr, hrun, hended, hW, hsame⟩ := X7.leave (v := some (.int (1 : Int32))) (fun h => by rw [Bd.returns] at h; cases h) Bd.notSynchronized
      refine ⟨_, _, pre0 _ (K1 _ (K3 _ (K5 _ (K6 _ (K8 _ (K10 _ (K11 _ (retN X7 hx (t := .boolean) Bd.returns (by simp) (Jvm.hb hby d5_19) hr)))))))), hrun, hended, _, _, rfl, ?_, ⟨_, rfl⟩, hW, hsame.mono (by decide) (by decide)⟩
      show Q5 Z a1 v_right_a1 v_left_a1 v_bottom_a1 v_top_a1 h0 n0 _ T7.heap _
      rw [e7]
      exact ⟨congrArg (fun z => some (Value.int z)) (show (1 : Int32) = f5 v_right_a1 v_left_a1 v_bottom_a1 v_top_a1 from Eq.symm ((if_pos hc4).trans (if_pos hc9))), N7, rfl⟩
    · have K12 : ∀ t, Steps p.tables e below (T7.setTop (mkF m 18 #[.val (.ref a1)] [])) t → Steps p.tables e below (T7.setTop (mkF m 11 #[.val (.ref a1)] [(.int (f7 v_bottom_a1 v_top_a1))])) t := by
        intro t k
        refine XS.ifYes X7.here hx rfl (pc0 := 11) (pc' := 18) rfl (Jvm.hb hby d5_11) rfl ((if0 _ _).trans (flt hc9).2.2.2) (by decide) (by decide) ?_
        exact k
      have K13 : ∀ t, Steps p.tables e below (T7.setTop (mkF m 19 #[.val (.ref a1)] [(.int (0 : Int32))])) t → Steps p.tables e below (T7.setTop (mkF m 18 #[.val (.ref a1)] [])) t := by
        intro t k
        refine XS.iconst X7.here hx rfl (Jvm.hb hby d5_18) ?_
        show Steps p.tables e below (T7.setTop (mkF m 19 #[.val (.ref a1)] [(.int (0 : Int32))])) t
        exact k
      obtain ⟨fs, hr, hrun, hended, hW, hsame⟩ := X7.leave (v := some (.int (0 : Int32))) (fun h => by rw [Bd.returns] at h; cases h) Bd.notSynchronized
      refine ⟨_, _, pre0 _ (K1 _ (K3 _ (K5 _ (K6 _ (K8 _ (K12 _ (K13 _ (retN X7 hx (t := .boolean) Bd.returns (by simp) (Jvm.hb hby d5_19) hr)))))))), hrun, hended, _, _, rfl, ?_, ⟨_, rfl⟩, hW, hsame.mono (by decide) (by decide)⟩
      show Q5 Z a1 v_right_a1 v_left_a1 v_bottom_a1 v_top_a1 h0 n0 _ T7.heap _
      rw [e7]
      exact ⟨congrArg (fun z => some (Value.int z)) (show (0 : Int32) = f5 v_right_a1 v_left_a1 v_bottom_a1 v_top_a1 from Eq.symm ((if_pos hc4).trans (if_neg hc9))), N7, rfl⟩
  · have K14 : ∀ t, Steps p.tables e below (T2.setTop (mkF m 18 #[.val (.ref a1)] [])) t → Steps p.tables e below (T2.setTop (mkF m 4 #[.val (.ref a1)] [(.int (f6 v_right_a1 v_left_a1))])) t := by
      intro t k
      refine XS.ifYes X2.here hx rfl (pc0 := 4) (pc' := 18) rfl (Jvm.hb hby d5_4) rfl ((if0 _ _).trans (flt hc4).2.2.2) (by decide) (by decide) ?_
      exact k
    have K15 : ∀ t, Steps p.tables e below (T2.setTop (mkF m 19 #[.val (.ref a1)] [(.int (0 : Int32))])) t → Steps p.tables e below (T2.setTop (mkF m 18 #[.val (.ref a1)] [])) t := by
      intro t k
      refine XS.iconst X2.here hx rfl (Jvm.hb hby d5_18) ?_
      show Steps p.tables e below (T2.setTop (mkF m 19 #[.val (.ref a1)] [(.int (0 : Int32))])) t
      exact k
    obtain ⟨fs, hr, hrun, hended, hW, hsame⟩ := X2.leave (v := some (.int (0 : Int32))) (fun h => by rw [Bd.returns] at h; cases h) Bd.notSynchronized
    refine ⟨_, _, pre0 _ (K1 _ (K3 _ (K14 _ (K15 _ (retN X2 hx (t := .boolean) Bd.returns (by simp) (Jvm.hb hby d5_19) hr))))), hrun, hended, _, _, rfl, ?_, ⟨_, rfl⟩, hW, hsame.mono (by decide) (by decide)⟩
    show Q5 Z a1 v_right_a1 v_left_a1 v_bottom_a1 v_top_a1 h0 n0 _ T2.heap _
    rw [e2]
    exact ⟨congrArg (fun z => some (Value.int z)) (show (0 : Int32) = f5 v_right_a1 v_left_a1 v_bottom_a1 v_top_a1 from Eq.symm (if_neg hc4)), N2, rfl⟩
-- body 0: com/example/gutter/gutter/layout/RectHasAreaPinLaw.law(IIIII)Z
theorem pn_0 : plainName "com/example/gutter/gutter/layout/RectHasAreaPinLaw" = true := by first | (simp [plainName, overriddenIn]; done) | decide +kernel
theorem pd_3 : parseMethodDescriptor "()Z" = some ⟨[], some .boolean⟩ := by decide +kernel
theorem pd_1 : parseMethodDescriptor "(IIII)V" = some ⟨[.int, .int, .int, .int], none⟩ := by decide +kernel
theorem pd_0 : parseMethodDescriptor "(IZ)I" = some ⟨[.int, .boolean], some .int⟩ := by decide +kernel
theorem ef_0 (m : MethodId) (p1 : Int32) (p2 : Int32) (p3 : Int32) (p4 : Int32) (p5 : Int32) : entryFrame m #[(.int p1), (.int p2), (.int p3), (.int p4), (.int p5)] maxLocals = mkF m 0 #[.val (.int p1), .val (.int p2), .val (.int p3), .val (.int p4), .val (.int p5), .unset, .unset, .unset, .unset, .unset, .unset, .unset, .unset, .unset, .unset, .unset, .unset] [] := by first | (simp [entryFrame, mkF, argsToLocals, Value.category, maxLocals]; done) | rfl
def f0_u1 (p5 : Int32) : Int32 := (if (p5 &&& (1 : Int32)) = (0 : Int32) then (0 : Int32) else (1 : Int32))
def f0_u2 (p5 : Int32) : Int32 := (if (p5 &&& (2 : Int32)) = (0 : Int32) then (0 : Int32) else (1 : Int32))
def f0_u3 (p1 : Int32) (p3 : Int32) (p5 : Int32) : Int32 := (if (0 : Int32) < (own_cmp ((p1.toInt64) + ((f1 p3 (f0_u1 p5)).toInt64)) (2147483647 : Int64)) then (p1 - (f1 p3 (f0_u1 p5))) else p1)
def f0_u4 (p1 : Int32) (p3 : Int32) (p5 : Int32) : Int32 := (if (0 : Int32) < (own_cmp ((p1.toInt64) + ((f1 p3 (f0_u1 p5)).toInt64)) (2147483647 : Int64)) then p1 else (((p1.toInt64) + ((f1 p3 (f0_u1 p5)).toInt64)).toInt32))
def f0_u5 (p2 : Int32) (p4 : Int32) (p5 : Int32) : Int32 := (if (0 : Int32) < (own_cmp ((p2.toInt64) + ((f1 p4 (f0_u2 p5)).toInt64)) (2147483647 : Int64)) then (p2 - (f1 p4 (f0_u2 p5))) else p2)
def f0_u6 (p2 : Int32) (p4 : Int32) (p5 : Int32) : Int32 := (if (0 : Int32) < (own_cmp ((p2.toInt64) + ((f1 p4 (f0_u2 p5)).toInt64)) (2147483647 : Int64)) then p2 else (((p2.toInt64) + ((f1 p4 (f0_u2 p5)).toInt64)).toInt32))
def f0_u7 (p1 : Int32) (p2 : Int32) (p3 : Int32) (p4 : Int32) (p5 : Int32) : Int32 := (if (f0_u3 p1 p3 p5) < (f0_u4 p1 p3 p5) then (if (f0_u5 p2 p4 p5) < (f0_u6 p2 p4 p5) then (1 : Int32) else (0 : Int32)) else (0 : Int32))
def f0 (p1 : Int32) (p2 : Int32) (p3 : Int32) (p4 : Int32) (p5 : Int32) : Int32 := (if (f5 (f0_u4 p1 p3 p5) (f0_u3 p1 p3 p5) (f0_u6 p2 p4 p5) (f0_u5 p2 p4 p5)) = (f0_u7 p1 p2 p3 p4 p5) then (1 : Int32) else (0 : Int32))
def Q0 (Z : State) (p1 : Int32) (p2 : Int32) (p3 : Int32) (p4 : Int32) (p5 : Int32) (h0 : Heap) (n0 : Nat) (v : Option Value) (h : Heap) (L : List Loc) : Prop := v = some (.int (f0 p1 p2 p3 p4 p5)) ∧ Fr n0 L ∧ Keep h0 h []
theorem own_nat (b : Int32) : b = Int32.ofNat b.toBitVec.toNat := by
  apply Int32.toBitVec_inj.mp
  simp
theorem own_mask (a m : Int32) (k : Nat) (h : m.toBitVec.toNat = k) : ∃ n, n < k + 1 ∧ a &&& m = Int32.ofNat n := by
  refine ⟨(a &&& m).toBitVec.toNat, ?_, own_nat _⟩
  have : (a &&& m).toBitVec.toNat = a.toBitVec.toNat &&& m.toBitVec.toNat := by simp
  rw [this, h]
  exact Nat.lt_succ_of_le Nat.and_le_right
theorem own_ofNat (n : Nat) (h : n < 2147483648) : (Int32.ofNat n).toInt = (n : Int) := Int32.toInt_ofNat_of_lt h
theorem own_rem (n k : Nat) (h : n < 2147483648) (h1 : k < 2147483648) : Int32.ofNat n % Int32.ofNat k = Int32.ofNat (n % k) := by
  apply Int32.toInt_inj.mp
  rw [Int32.toInt_mod, own_ofNat n h, own_ofNat k h1, own_ofNat (n % k) (Nat.lt_of_le_of_lt (Nat.mod_le n k) h)]
  rw [Int.tmod_eq_emod_of_nonneg (by omega)]
  exact (Int.natCast_emod n k).symm
theorem own_f1 (a b : Int32) : 0 ≤ (f1 a b).toInt := by
  unfold f1
  split
  · obtain ⟨n, hn, e⟩ := own_mask a 2147483647 2147483647 (by decide)
    rw [e, own_ofNat n hn]; omega
  · obtain ⟨n, hn, e⟩ := own_mask a 3 3 (by decide)
    rw [e, own_ofNat n (by omega)]; omega
theorem own_sum (x w : Int32) : (x.toInt64 + w.toInt64).toInt = x.toInt + w.toInt := by
  have r1 := x.le_toInt
  have r2 := x.toInt_lt
  have r3 := w.le_toInt
  have r4 := w.toInt_lt
  rw [Int64.toInt_add, Int32.toInt_toInt64, Int32.toInt_toInt64]
  exact Int.bmod_eq_of_le (by omega) (by omega)
theorem own_lr (x w : Int32) (hw : 0 ≤ w.toInt) : (if (0 : Int32) < (own_cmp ((x.toInt64) + (w.toInt64)) (2147483647 : Int64)) then (x - w) else x).toInt + w.toInt = (if (0 : Int32) < (own_cmp ((x.toInt64) + (w.toInt64)) (2147483647 : Int64)) then x else (((x.toInt64) + (w.toInt64)).toInt32)).toInt := by
  have r1 := x.le_toInt
  have r2 := x.toInt_lt
  have r3 := w.le_toInt
  have r4 := w.toInt_lt
  have e := own_sum x w
  have em : (2147483647 : Int64).toInt = 2147483647 := by decide
  by_cases c : (2147483647 : Int64) < x.toInt64 + w.toInt64
  · have c' := (own_gt _ _).mpr c
    rw [if_pos c', if_pos c']
    have := Int64.lt_iff_toInt_lt.mp c
    rw [Int32.toInt_sub, Int.bmod_eq_of_le (by omega) (by omega)]
    omega
  · have c' := fun q => c ((own_gt _ _).mp q)
    rw [if_neg c', if_neg c']
    have h : ¬ ((2147483647 : Int64).toInt < (x.toInt64 + w.toInt64).toInt) := fun q => c (Int64.lt_iff_toInt_lt.mpr q)
    rw [Int64.toInt_toInt32, e]
    exact (Int.bmod_eq_of_le (by omega) (by omega)).symm
theorem own_x (p q r : Int32) : (f0_u3 p q r).toInt + (f1 q (f0_u1 r)).toInt = (f0_u4 p q r).toInt := own_lr p _ (own_f1 _ _)
theorem own_y (p q r : Int32) : (f0_u5 p q r).toInt + (f1 q (f0_u2 r)).toInt = (f0_u6 p q r).toInt := own_lr p _ (own_f1 _ _)
theorem own_hx (p q r : Int32) : ¬ f0_u4 p q r < f0_u3 p q r := fun h => by
  have h1 := own_x p q r
  have h2 := own_f1 q (f0_u1 r)
  have h3 := Int32.lt_iff_toInt_lt.mp h
  omega
theorem own_hy (p q r : Int32) : ¬ f0_u6 p q r < f0_u5 p q r := fun h => by
  have h1 := own_y p q r
  have h2 := own_f1 q (f0_u2 r)
  have h3 := Int32.lt_iff_toInt_lt.mp h
  omega

set_option maxRecDepth 65536 in
set_option maxHeartbeats 40000000 in
theorem rm0 (l : Launch) (Z : State) (a0 : Array Value) (hw : ∀ d ∈ tables_1, d.before a0 Z = true) (ws : List Jvm.Cond) (p1 : Int32) (p2 : Int32) (p3 : Int32) (p4 : Int32) (p5 : Int32) (h0 : Heap) (n0 : Nat) (Z0 : n0 ≤ h0.size) :
    MetFree l x (head1 (Jvm.Cond.code x code maxLocals ret :: ws) room_1) (fun a U => a = #[(.int p1), (.int p2), (.int p3), (.int p4), (.int p5)] ∧ Z.Warmed39 U.vm ∧ U.heap = h0) (fun _ _ _ _ _ => True) (fun _ U o U' => ∃ v L, o = .returned v ∧ Q0 Z p1 p2 p3 p4 p5 h0 n0 v U'.heap L ∧ FrameEnd U o U' L room_1.cells room_1.slots) := by
  refine MetFree.of_bodySF (plainFor_of_name pn_0) hisR ?_
  intro p e s m args below meth c s₁ Bd hml0 hP hK
  obtain ⟨rfl, hZ, hh⟩ := hP
  have hx := Bd.exec
  have hby := Bd.bytes
  have hml : c.maxLocals = 17 := hml0
  have hown : s.vm.findClass "com/example/gutter/gutter/layout/RectHasAreaPinLaw" = some m.cls := findClass_of_methodNamed Bd.named
  have hnm := (name_of_methodNamed Bd.named Bd.method).1
  have X0 : Stand p l e room_1 s m #[(.int p1), (.int p2), (.int p3), (.int p4), (.int p5)] below meth c s₁ [] 0 0 := Stand.of_body Bd
  have e0 : s₁.heap = h0 := by rw [← hh, Bd.state]; rfl
  have N0 := Fr.nil n0
  have pre0 : ∀ t, Steps p.tables e below (s₁.setTop (mkF m 0 #[.val (.int p1), .val (.int p2), .val (.int p3), .val (.int p4), .val (.int p5), .unset, .unset, .unset, .unset, .unset, .unset, .unset, .unset, .unset, .unset, .unset, .unset] [])) t → Steps p.tables e below (s₁.setTop (entryFrame m #[(.int p1), (.int p2), (.int p3), (.int p4), (.int p5)] maxLocals)) t := fun t k => castTop (ef_0 m p1 p2 p3 p4 p5) k
  have K1 : ∀ t, Steps p.tables e below (s₁.setTop (mkF m 5 #[.val (.int p1), .val (.int p2), .val (.int p3), .val (.int p4), .val (.int p5), .unset, .unset, .unset, .unset, .unset, .unset, .unset, .unset, .unset, .unset, .unset, .unset] [(.int (p5 &&& (1 : Int32))), (.int p3)])) t → Steps p.tables e below (s₁.setTop (mkF m 0 #[.val (.int p1), .val (.int p2), .val (.int p3), .val (.int p4), .val (.int p5), .unset, .unset, .unset, .unset, .unset, .unset, .unset, .unset, .unset, .unset, .unset, .unset] [])) t := by
    intro t k
    refine XS.iloadN X0.here hx rfl (Jvm.hb hby at_0) rfl ?_
    show Steps p.tables e below (s₁.setTop (mkF m 1 #[.val (.int p1), .val (.int p2), .val (.int p3), .val (.int p4), .val (.int p5), .unset, .unset, .unset, .unset, .unset, .unset, .unset, .unset, .unset, .unset, .unset, .unset] [(.int p3)])) t
    refine XS.iload X0.here hx rfl (Jvm.hb hby at_1) rfl ?_
    show Steps p.tables e below (s₁.setTop (mkF m 3 #[.val (.int p1), .val (.int p2), .val (.int p3), .val (.int p4), .val (.int p5), .unset, .unset, .unset, .unset, .unset, .unset, .unset, .unset, .unset, .unset, .unset, .unset] [(.int p5), (.int p3)])) t
    refine XS.iconst X0.here hx rfl (Jvm.hb hby at_3) ?_
    show Steps p.tables e below (s₁.setTop (mkF m 4 #[.val (.int p1), .val (.int p2), .val (.int p3), .val (.int p4), .val (.int p5), .unset, .unset, .unset, .unset, .unset, .unset, .unset, .unset, .unset, .unset, .unset, .unset] [(.int (1 : Int32)), (.int p5), (.int p3)])) t
    refine XS.iand X0.here hx rfl (Jvm.hb hby at_4) rfl ?_
    show Steps p.tables e below (s₁.setTop (mkF m 5 #[.val (.int p1), .val (.int p2), .val (.int p3), .val (.int p4), .val (.int p5), .unset, .unset, .unset, .unset, .unset, .unset, .unset, .unset, .unset, .unset, .unset, .unset] [(.int (p5 &&& (1 : Int32))), (.int p3)])) t
    exact k
  have K2 : ∀ t, Steps p.tables e below (s₁.setTop (mkF m 13 #[.val (.int p1), .val (.int p2), .val (.int p3), .val (.int p4), .val (.int p5), .unset, .unset, .unset, .unset, .unset, .unset, .unset, .unset, .unset, .unset, .unset, .unset] [(.int (f0_u1 p5)), (.int p3)])) t → Steps p.tables e below (s₁.setTop (mkF m 5 #[.val (.int p1), .val (.int p2), .val (.int p3), .val (.int p4), .val (.int p5), .unset, .unset, .unset, .unset, .unset, .unset, .unset, .unset, .unset, .unset, .unset, .unset] [(.int (p5 &&& (1 : Int32))), (.int p3)])) t := by
    intro t k
    by_cases hc2 : (p5 &&& (1 : Int32)) = (0 : Int32)
    · have K3 : ∀ t, Steps p.tables e below (s₁.setTop (mkF m 12 #[.val (.int p1), .val (.int p2), .val (.int p3), .val (.int p4), .val (.int p5), .unset, .unset, .unset, .unset, .unset, .unset, .unset, .unset, .unset, .unset, .unset, .unset] [(.int p3)])) t → Steps p.tables e below (s₁.setTop (mkF m 5 #[.val (.int p1), .val (.int p2), .val (.int p3), .val (.int p4), .val (.int p5), .unset, .unset, .unset, .unset, .unset, .unset, .unset, .unset, .unset, .unset, .unset, .unset] [(.int (p5 &&& (1 : Int32))), (.int p3)])) t := by
        intro t k
        refine XS.ifYes X0.here hx rfl (pc0 := 5) (pc' := 12) rfl (Jvm.hb hby at_5) rfl ((if0 _ _).trans (teq hc2).1) (by decide) (by decide) ?_
        exact k
      have K4 : ∀ t, Steps p.tables e below (s₁.setTop (mkF m 13 #[.val (.int p1), .val (.int p2), .val (.int p3), .val (.int p4), .val (.int p5), .unset, .unset, .unset, .unset, .unset, .unset, .unset, .unset, .unset, .unset, .unset, .unset] [(.int (0 : Int32)), (.int p3)])) t → Steps p.tables e below (s₁.setTop (mkF m 12 #[.val (.int p1), .val (.int p2), .val (.int p3), .val (.int p4), .val (.int p5), .unset, .unset, .unset, .unset, .unset, .unset, .unset, .unset, .unset, .unset, .unset, .unset] [(.int p3)])) t := by
        intro t k
        refine XS.iconst X0.here hx rfl (Jvm.hb hby at_12) ?_
        show Steps p.tables e below (s₁.setTop (mkF m 13 #[.val (.int p1), .val (.int p2), .val (.int p3), .val (.int p4), .val (.int p5), .unset, .unset, .unset, .unset, .unset, .unset, .unset, .unset, .unset, .unset, .unset, .unset] [(.int (0 : Int32)), (.int p3)])) t
        exact k
      rw [show (f0_u1 p5) = (0 : Int32) from if_pos hc2] at k
      exact K3 _ (K4 _ (k))
    · have K5 : ∀ t, Steps p.tables e below (s₁.setTop (mkF m 8 #[.val (.int p1), .val (.int p2), .val (.int p3), .val (.int p4), .val (.int p5), .unset, .unset, .unset, .unset, .unset, .unset, .unset, .unset, .unset, .unset, .unset, .unset] [(.int p3)])) t → Steps p.tables e below (s₁.setTop (mkF m 5 #[.val (.int p1), .val (.int p2), .val (.int p3), .val (.int p4), .val (.int p5), .unset, .unset, .unset, .unset, .unset, .unset, .unset, .unset, .unset, .unset, .unset, .unset] [(.int (p5 &&& (1 : Int32))), (.int p3)])) t := by
        intro t k
        refine XS.ifNo X0.here hx rfl (Jvm.hb hby at_5) rfl ((if0 _ _).trans (feq hc2).1) ?_
        exact k
      have K6 : ∀ t, Steps p.tables e below (s₁.setTop (mkF m 13 #[.val (.int p1), .val (.int p2), .val (.int p3), .val (.int p4), .val (.int p5), .unset, .unset, .unset, .unset, .unset, .unset, .unset, .unset, .unset, .unset, .unset, .unset] [(.int (1 : Int32)), (.int p3)])) t → Steps p.tables e below (s₁.setTop (mkF m 8 #[.val (.int p1), .val (.int p2), .val (.int p3), .val (.int p4), .val (.int p5), .unset, .unset, .unset, .unset, .unset, .unset, .unset, .unset, .unset, .unset, .unset, .unset] [(.int p3)])) t := by
        intro t k
        refine XS.iconst X0.here hx rfl (Jvm.hb hby at_8) ?_
        show Steps p.tables e below (s₁.setTop (mkF m 9 #[.val (.int p1), .val (.int p2), .val (.int p3), .val (.int p4), .val (.int p5), .unset, .unset, .unset, .unset, .unset, .unset, .unset, .unset, .unset, .unset, .unset, .unset] [(.int (1 : Int32)), (.int p3)])) t
        refine XS.goto X0.here hx rfl (pc0 := 9) (pc' := 13) rfl (Jvm.hb hby at_9) (by decide) (by decide) ?_
        show Steps p.tables e below (s₁.setTop (mkF m 13 #[.val (.int p1), .val (.int p2), .val (.int p3), .val (.int p4), .val (.int p5), .unset, .unset, .unset, .unset, .unset, .unset, .unset, .unset, .unset, .unset, .unset, .unset] [(.int (1 : Int32)), (.int p3)])) t
        exact k
      rw [show (f0_u1 p5) = (1 : Int32) from if_neg hc2] at k
      exact K5 _ (K6 _ (k))
  obtain ⟨_, _, ⟨T7, L7, k7, n7⟩, -, X7, ⟨Lc7, hQ7, l7, y7, z7⟩, st7⟩ := Jvm.LawKit.callS X0 hx (y := (⟨"com/example/gutter/gutter/layout/RectHasAreaPinLaw", "extent", "(IZ)I"⟩ : MethodName)) hown (mvT hZ (hw _ (List.mem_of_getElem? (i := 0) rfl))) (mvT hZ (hw _ (List.mem_of_getElem? (i := 1) rfl))) (mvT hZ (hw _ (List.mem_of_getElem? (i := 2) rfl))) (mvT hZ (hw _ (List.mem_of_getElem? (i := 3) rfl))) (by decide) (backOf (W := 0) (rm1 l Z a0 hw [] p3 (f0_u1 p5) h0 n0 Z0 ) hZ (hw _ (List.mem_of_getElem? (i := 3) rfl)) (hw _ (List.mem_of_getElem? (i := 2) rfl)) (by decide) (by decide)) (g := (mkF m 13 #[.val (.int p1), .val (.int p2), .val (.int p3), .val (.int p4), .val (.int p5), .unset, .unset, .unset, .unset, .unset, .unset, .unset, .unset, .unset, .unset, .unset, .unset] [(.int (f0_u1 p5)), (.int p3)])) rfl (by rw [hml]; rfl) (argsL := [(.int p3), (.int (f0_u1 p5))]) (rest := []) (lenOf pd_0 rfl) rfl (by show 2 * 0 + _ ≤ _; exact Nat.le_of_eq rfl) (Jvm.hb hby at_13) (fun _ _ => ⟨rfl, e0, (by decide : 0 + 0 ≤ _), (by decide : 0 + 0 ≤ _)⟩)
  dsimp only [Pt.U, Pt.locs, Pt.cells, Pt.slots] at X7 l7 y7 z7 st7 hQ7
  subst l7 y7 z7
  obtain ⟨rfl, N7q, e7⟩ := hQ7
  have N7 := Fr.app N0 N7q
  have K8 : ∀ t, Steps p.tables e below (T7.setTop (mkF m 16 #[.val (.int p1), .val (.int p2), .val (.int p3), .val (.int p4), .val (.int p5), .unset, .unset, .unset, .unset, .unset, .unset, .unset, .unset, .unset, .unset, .unset, .unset] [(.int (f1 p3 (f0_u1 p5)))])) t → Steps p.tables e below (s₁.setTop (mkF m 13 #[.val (.int p1), .val (.int p2), .val (.int p3), .val (.int p4), .val (.int p5), .unset, .unset, .unset, .unset, .unset, .unset, .unset, .unset, .unset, .unset, .unset, .unset] [(.int (f0_u1 p5)), (.int p3)])) t := fun t k => st7 _ k
  have K9 : ∀ t, Steps p.tables e below (T7.setTop (mkF m 23 #[.val (.int p1), .val (.int p2), .val (.int p3), .val (.int p4), .val (.int p5), .val (.int (f1 p3 (f0_u1 p5))), .unset, .unset, .unset, .unset, .unset, .unset, .unset, .unset, .unset, .unset, .unset] [(.int (p5 &&& (2 : Int32))), (.int p4)])) t → Steps p.tables e below (T7.setTop (mkF m 16 #[.val (.int p1), .val (.int p2), .val (.int p3), .val (.int p4), .val (.int p5), .unset, .unset, .unset, .unset, .unset, .unset, .unset, .unset, .unset, .unset, .unset, .unset] [(.int (f1 p3 (f0_u1 p5)))])) t := by
    intro t k
    refine XS.istore X7.here hx rfl (Jvm.hb hby at_16) rfl (l' := #[.val (.int p1), .val (.int p2), .val (.int p3), .val (.int p4), .val (.int p5), .val (.int (f1 p3 (f0_u1 p5))), .unset, .unset, .unset, .unset, .unset, .unset, .unset, .unset, .unset, .unset, .unset]) rfl ?_
    show Steps p.tables e below (T7.setTop (mkF m 18 #[.val (.int p1), .val (.int p2), .val (.int p3), .val (.int p4), .val (.int p5), .val (.int (f1 p3 (f0_u1 p5))), .unset, .unset, .unset, .unset, .unset, .unset, .unset, .unset, .unset, .unset, .unset] [])) t
    refine XS.iloadN X7.here hx rfl (Jvm.hb hby at_18) rfl ?_
    show Steps p.tables e below (T7.setTop (mkF m 19 #[.val (.int p1), .val (.int p2), .val (.int p3), .val (.int p4), .val (.int p5), .val (.int (f1 p3 (f0_u1 p5))), .unset, .unset, .unset, .unset, .unset, .unset, .unset, .unset, .unset, .unset, .unset] [(.int p4)])) t
    refine XS.iload X7.here hx rfl (Jvm.hb hby at_19) rfl ?_
    show Steps p.tables e below (T7.setTop (mkF m 21 #[.val (.int p1), .val (.int p2), .val (.int p3), .val (.int p4), .val (.int p5), .val (.int (f1 p3 (f0_u1 p5))), .unset, .unset, .unset, .unset, .unset, .unset, .unset, .unset, .unset, .unset, .unset] [(.int p5), (.int p4)])) t
    refine XS.iconst X7.here hx rfl (Jvm.hb hby at_21) ?_
    show Steps p.tables e below (T7.setTop (mkF m 22 #[.val (.int p1), .val (.int p2), .val (.int p3), .val (.int p4), .val (.int p5), .val (.int (f1 p3 (f0_u1 p5))), .unset, .unset, .unset, .unset, .unset, .unset, .unset, .unset, .unset, .unset, .unset] [(.int (2 : Int32)), (.int p5), (.int p4)])) t
    refine XS.iand X7.here hx rfl (Jvm.hb hby at_22) rfl ?_
    show Steps p.tables e below (T7.setTop (mkF m 23 #[.val (.int p1), .val (.int p2), .val (.int p3), .val (.int p4), .val (.int p5), .val (.int (f1 p3 (f0_u1 p5))), .unset, .unset, .unset, .unset, .unset, .unset, .unset, .unset, .unset, .unset, .unset] [(.int (p5 &&& (2 : Int32))), (.int p4)])) t
    exact k
  have K10 : ∀ t, Steps p.tables e below (T7.setTop (mkF m 31 #[.val (.int p1), .val (.int p2), .val (.int p3), .val (.int p4), .val (.int p5), .val (.int (f1 p3 (f0_u1 p5))), .unset, .unset, .unset, .unset, .unset, .unset, .unset, .unset, .unset, .unset, .unset] [(.int (f0_u2 p5)), (.int p4)])) t → Steps p.tables e below (T7.setTop (mkF m 23 #[.val (.int p1), .val (.int p2), .val (.int p3), .val (.int p4), .val (.int p5), .val (.int (f1 p3 (f0_u1 p5))), .unset, .unset, .unset, .unset, .unset, .unset, .unset, .unset, .unset, .unset, .unset] [(.int (p5 &&& (2 : Int32))), (.int p4)])) t := by
    intro t k
    by_cases hc10 : (p5 &&& (2 : Int32)) = (0 : Int32)
    · have K11 : ∀ t, Steps p.tables e below (T7.setTop (mkF m 30 #[.val (.int p1), .val (.int p2), .val (.int p3), .val (.int p4), .val (.int p5), .val (.int (f1 p3 (f0_u1 p5))), .unset, .unset, .unset, .unset, .unset, .unset, .unset, .unset, .unset, .unset, .unset] [(.int p4)])) t → Steps p.tables e below (T7.setTop (mkF m 23 #[.val (.int p1), .val (.int p2), .val (.int p3), .val (.int p4), .val (.int p5), .val (.int (f1 p3 (f0_u1 p5))), .unset, .unset, .unset, .unset, .unset, .unset, .unset, .unset, .unset, .unset, .unset] [(.int (p5 &&& (2 : Int32))), (.int p4)])) t := by
        intro t k
        refine XS.ifYes X7.here hx rfl (pc0 := 23) (pc' := 30) rfl (Jvm.hb hby at_23) rfl ((if0 _ _).trans (teq hc10).1) (by decide) (by decide) ?_
        exact k
      have K12 : ∀ t, Steps p.tables e below (T7.setTop (mkF m 31 #[.val (.int p1), .val (.int p2), .val (.int p3), .val (.int p4), .val (.int p5), .val (.int (f1 p3 (f0_u1 p5))), .unset, .unset, .unset, .unset, .unset, .unset, .unset, .unset, .unset, .unset, .unset] [(.int (0 : Int32)), (.int p4)])) t → Steps p.tables e below (T7.setTop (mkF m 30 #[.val (.int p1), .val (.int p2), .val (.int p3), .val (.int p4), .val (.int p5), .val (.int (f1 p3 (f0_u1 p5))), .unset, .unset, .unset, .unset, .unset, .unset, .unset, .unset, .unset, .unset, .unset] [(.int p4)])) t := by
        intro t k
        refine XS.iconst X7.here hx rfl (Jvm.hb hby at_30) ?_
        show Steps p.tables e below (T7.setTop (mkF m 31 #[.val (.int p1), .val (.int p2), .val (.int p3), .val (.int p4), .val (.int p5), .val (.int (f1 p3 (f0_u1 p5))), .unset, .unset, .unset, .unset, .unset, .unset, .unset, .unset, .unset, .unset, .unset] [(.int (0 : Int32)), (.int p4)])) t
        exact k
      rw [show (f0_u2 p5) = (0 : Int32) from if_pos hc10] at k
      exact K11 _ (K12 _ (k))
    · have K13 : ∀ t, Steps p.tables e below (T7.setTop (mkF m 26 #[.val (.int p1), .val (.int p2), .val (.int p3), .val (.int p4), .val (.int p5), .val (.int (f1 p3 (f0_u1 p5))), .unset, .unset, .unset, .unset, .unset, .unset, .unset, .unset, .unset, .unset, .unset] [(.int p4)])) t → Steps p.tables e below (T7.setTop (mkF m 23 #[.val (.int p1), .val (.int p2), .val (.int p3), .val (.int p4), .val (.int p5), .val (.int (f1 p3 (f0_u1 p5))), .unset, .unset, .unset, .unset, .unset, .unset, .unset, .unset, .unset, .unset, .unset] [(.int (p5 &&& (2 : Int32))), (.int p4)])) t := by
        intro t k
        refine XS.ifNo X7.here hx rfl (Jvm.hb hby at_23) rfl ((if0 _ _).trans (feq hc10).1) ?_
        exact k
      have K14 : ∀ t, Steps p.tables e below (T7.setTop (mkF m 31 #[.val (.int p1), .val (.int p2), .val (.int p3), .val (.int p4), .val (.int p5), .val (.int (f1 p3 (f0_u1 p5))), .unset, .unset, .unset, .unset, .unset, .unset, .unset, .unset, .unset, .unset, .unset] [(.int (1 : Int32)), (.int p4)])) t → Steps p.tables e below (T7.setTop (mkF m 26 #[.val (.int p1), .val (.int p2), .val (.int p3), .val (.int p4), .val (.int p5), .val (.int (f1 p3 (f0_u1 p5))), .unset, .unset, .unset, .unset, .unset, .unset, .unset, .unset, .unset, .unset, .unset] [(.int p4)])) t := by
        intro t k
        refine XS.iconst X7.here hx rfl (Jvm.hb hby at_26) ?_
        show Steps p.tables e below (T7.setTop (mkF m 27 #[.val (.int p1), .val (.int p2), .val (.int p3), .val (.int p4), .val (.int p5), .val (.int (f1 p3 (f0_u1 p5))), .unset, .unset, .unset, .unset, .unset, .unset, .unset, .unset, .unset, .unset, .unset] [(.int (1 : Int32)), (.int p4)])) t
        refine XS.goto X7.here hx rfl (pc0 := 27) (pc' := 31) rfl (Jvm.hb hby at_27) (by decide) (by decide) ?_
        show Steps p.tables e below (T7.setTop (mkF m 31 #[.val (.int p1), .val (.int p2), .val (.int p3), .val (.int p4), .val (.int p5), .val (.int (f1 p3 (f0_u1 p5))), .unset, .unset, .unset, .unset, .unset, .unset, .unset, .unset, .unset, .unset, .unset] [(.int (1 : Int32)), (.int p4)])) t
        exact k
      rw [show (f0_u2 p5) = (1 : Int32) from if_neg hc10] at k
      exact K13 _ (K14 _ (k))
  obtain ⟨_, _, ⟨T15, L15, k15, n15⟩, -, X15, ⟨Lc15, hQ15, l15, y15, z15⟩, st15⟩ := Jvm.LawKit.callS X7 hx (y := (⟨"com/example/gutter/gutter/layout/RectHasAreaPinLaw", "extent", "(IZ)I"⟩ : MethodName)) hown (mvT hZ (hw _ (List.mem_of_getElem? (i := 0) rfl))) (mvT hZ (hw _ (List.mem_of_getElem? (i := 1) rfl))) (mvT hZ (hw _ (List.mem_of_getElem? (i := 2) rfl))) (mvT hZ (hw _ (List.mem_of_getElem? (i := 3) rfl))) (by decide) (backOf (W := 0) (rm1 l Z a0 hw [] p4 (f0_u2 p5) h0 n0 Z0 ) hZ (hw _ (List.mem_of_getElem? (i := 3) rfl)) (hw _ (List.mem_of_getElem? (i := 2) rfl)) (by decide) (by decide)) (g := (mkF m 31 #[.val (.int p1), .val (.int p2), .val (.int p3), .val (.int p4), .val (.int p5), .val (.int (f1 p3 (f0_u1 p5))), .unset, .unset, .unset, .unset, .unset, .unset, .unset, .unset, .unset, .unset, .unset] [(.int (f0_u2 p5)), (.int p4)])) rfl (by rw [hml]; rfl) (argsL := [(.int p4), (.int (f0_u2 p5))]) (rest := []) (lenOf pd_0 rfl) rfl (by show 2 * 0 + _ ≤ _; exact Nat.le_of_eq rfl) (Jvm.hb hby at_31) (fun _ _ => ⟨rfl, e7, (by decide : 0 + 0 ≤ _), (by decide : 0 + 0 ≤ _)⟩)
  dsimp only [Pt.U, Pt.locs, Pt.cells, Pt.slots] at X15 l15 y15 z15 st15 hQ15
  subst l15 y15 z15
  obtain ⟨rfl, N15q, e15⟩ := hQ15
  have N15 := Fr.app N7 N15q
  have K16 : ∀ t, Steps p.tables e below (T15.setTop (mkF m 34 #[.val (.int p1), .val (.int p2), .val (.int p3), .val (.int p4), .val (.int p5), .val (.int (f1 p3 (f0_u1 p5))), .unset, .unset, .unset, .unset, .unset, .unset, .unset, .unset, .unset, .unset, .unset] [(.int (f1 p4 (f0_u2 p5)))])) t → Steps p.tables e below (T7.setTop (mkF m 31 #[.val (.int p1), .val (.int p2), .val (.int p3), .val (.int p4), .val (.int p5), .val (.int (f1 p3 (f0_u1 p5))), .unset, .unset, .unset, .unset, .unset, .unset, .unset, .unset, .unset, .unset, .unset] [(.int (f0_u2 p5)), (.int p4)])) t := fun t k => st15 _ k
  have K17 : ∀ t, Steps p.tables e below (T15.setTop (mkF m 50 #[.val (.int p1), .val (.int p2), .val (.int p3), .val (.int p4), .val (.int p5), .val (.int (f1 p3 (f0_u1 p5))), .val (.int (f1 p4 (f0_u2 p5))), .unset, .unset, .val (.long ((p1.toInt64) + ((f1 p3 (f0_u1 p5)).toInt64))), .second, .unset, .unset, .unset, .unset, .unset, .unset] [(.int (own_cmp ((p1.toInt64) + ((f1 p3 (f0_u1 p5)).toInt64)) (2147483647 : Int64)))])) t → Steps p.tables e below (T15.setTop (mkF m 34 #[.val (.int p1), .val (.int p2), .val (.int p3), .val (.int p4), .val (.int p5), .val (.int (f1 p3 (f0_u1 p5))), .unset, .unset, .unset, .unset, .unset, .unset, .unset, .unset, .unset, .unset, .unset] [(.int (f1 p4 (f0_u2 p5)))])) t := by
    intro t k
    refine XS.istore X15.here hx rfl (Jvm.hb hby at_34) rfl (l' := #[.val (.int p1), .val (.int p2), .val (.int p3), .val (.int p4), .val (.int p5), .val (.int (f1 p3 (f0_u1 p5))), .val (.int (f1 p4 (f0_u2 p5))), .unset, .unset, .unset, .unset, .unset, .unset, .unset, .unset, .unset, .unset]) rfl ?_
    show Steps p.tables e below (T15.setTop (mkF m 36 #[.val (.int p1), .val (.int p2), .val (.int p3), .val (.int p4), .val (.int p5), .val (.int (f1 p3 (f0_u1 p5))), .val (.int (f1 p4 (f0_u2 p5))), .unset, .unset, .unset, .unset, .unset, .unset, .unset, .unset, .unset, .unset] [])) t
    refine XS.iloadN X15.here hx rfl (Jvm.hb hby at_36) rfl ?_
    show Steps p.tables e below (T15.setTop (mkF m 37 #[.val (.int p1), .val (.int p2), .val (.int p3), .val (.int p4), .val (.int p5), .val (.int (f1 p3 (f0_u1 p5))), .val (.int (f1 p4 (f0_u2 p5))), .unset, .unset, .unset, .unset, .unset, .unset, .unset, .unset, .unset, .unset] [(.int p1)])) t
    refine XS.i2l X15.here hx rfl (Jvm.hb hby at_37) rfl ?_
    show Steps p.tables e below (T15.setTop (mkF m 38 #[.val (.int p1), .val (.int p2), .val (.int p3), .val (.int p4), .val (.int p5), .val (.int (f1 p3 (f0_u1 p5))), .val (.int (f1 p4 (f0_u2 p5))), .unset, .unset, .unset, .unset, .unset, .unset, .unset, .unset, .unset, .unset] [(.long (p1.toInt64))])) t
    refine XS.iload X15.here hx rfl (Jvm.hb hby at_38) rfl ?_
    show Steps p.tables e below (T15.setTop (mkF m 40 #[.val (.int p1), .val (.int p2), .val (.int p3), .val (.int p4), .val (.int p5), .val (.int (f1 p3 (f0_u1 p5))), .val (.int (f1 p4 (f0_u2 p5))), .unset, .unset, .unset, .unset, .unset, .unset, .unset, .unset, .unset, .unset] [(.int (f1 p3 (f0_u1 p5))), (.long (p1.toInt64))])) t
    refine XS.i2l X15.here hx rfl (Jvm.hb hby at_40) rfl ?_
    show Steps p.tables e below (T15.setTop (mkF m 41 #[.val (.int p1), .val (.int p2), .val (.int p3), .val (.int p4), .val (.int p5), .val (.int (f1 p3 (f0_u1 p5))), .val (.int (f1 p4 (f0_u2 p5))), .unset, .unset, .unset, .unset, .unset, .unset, .unset, .unset, .unset, .unset] [(.long ((f1 p3 (f0_u1 p5)).toInt64)), (.long (p1.toInt64))])) t
    refine XS.ladd X15.here hx rfl (Jvm.hb hby at_41) rfl ?_
    show Steps p.tables e below (T15.setTop (mkF m 42 #[.val (.int p1), .val (.int p2), .val (.int p3), .val (.int p4), .val (.int p5), .val (.int (f1 p3 (f0_u1 p5))), .val (.int (f1 p4 (f0_u2 p5))), .unset, .unset, .unset, .unset, .unset, .unset, .unset, .unset, .unset, .unset] [(.long ((p1.toInt64) + ((f1 p3 (f0_u1 p5)).toInt64)))])) t
    refine XS.lstore X15.here hx rfl (Jvm.hb hby at_42) rfl (l' := #[.val (.int p1), .val (.int p2), .val (.int p3), .val (.int p4), .val (.int p5), .val (.int (f1 p3 (f0_u1 p5))), .val (.int (f1 p4 (f0_u2 p5))), .unset, .unset, .val (.long ((p1.toInt64) + ((f1 p3 (f0_u1 p5)).toInt64))), .second, .unset, .unset, .unset, .unset, .unset, .unset]) rfl ?_
    show Steps p.tables e below (T15.setTop (mkF m 44 #[.val (.int p1), .val (.int p2), .val (.int p3), .val (.int p4), .val (.int p5), .val (.int (f1 p3 (f0_u1 p5))), .val (.int (f1 p4 (f0_u2 p5))), .unset, .unset, .val (.long ((p1.toInt64) + ((f1 p3 (f0_u1 p5)).toInt64))), .second, .unset, .unset, .unset, .unset, .unset, .unset] [])) t
    refine XS.lload X15.here hx rfl (Jvm.hb hby at_44) rfl ?_
    show Steps p.tables e below (T15.setTop (mkF m 46 #[.val (.int p1), .val (.int p2), .val (.int p3), .val (.int p4), .val (.int p5), .val (.int (f1 p3 (f0_u1 p5))), .val (.int (f1 p4 (f0_u2 p5))), .unset, .unset, .val (.long ((p1.toInt64) + ((f1 p3 (f0_u1 p5)).toInt64))), .second, .unset, .unset, .unset, .unset, .unset, .unset] [(.long ((p1.toInt64) + ((f1 p3 (f0_u1 p5)).toInt64)))])) t
    refine X15.ldc2Long hx hown (mvT hZ (hw _ (List.mem_of_getElem? (i := 5) rfl))) (g := (mkF m 46 #[.val (.int p1), .val (.int p2), .val (.int p3), .val (.int p4), .val (.int p5), .val (.int (f1 p3 (f0_u1 p5))), .val (.int (f1 p4 (f0_u2 p5))), .unset, .unset, .val (.long ((p1.toInt64) + ((f1 p3 (f0_u1 p5)).toInt64))), .second, .unset, .unset, .unset, .unset, .unset, .unset] [(.long ((p1.toInt64) + ((f1 p3 (f0_u1 p5)).toInt64)))])) rfl (Jvm.hb hby at_46) _ ?_
    show Steps p.tables e below (T15.setTop (mkF m 49 #[.val (.int p1), .val (.int p2), .val (.int p3), .val (.int p4), .val (.int p5), .val (.int (f1 p3 (f0_u1 p5))), .val (.int (f1 p4 (f0_u2 p5))), .unset, .unset, .val (.long ((p1.toInt64) + ((f1 p3 (f0_u1 p5)).toInt64))), .second, .unset, .unset, .unset, .unset, .unset, .unset] [(.long (2147483647 : Int64)), (.long ((p1.toInt64) + ((f1 p3 (f0_u1 p5)).toInt64)))])) t
    refine XS.lcmp X15.here hx rfl (Jvm.hb hby at_49) rfl ?_
    show Steps p.tables e below (T15.setTop (mkF m 50 #[.val (.int p1), .val (.int p2), .val (.int p3), .val (.int p4), .val (.int p5), .val (.int (f1 p3 (f0_u1 p5))), .val (.int (f1 p4 (f0_u2 p5))), .unset, .unset, .val (.long ((p1.toInt64) + ((f1 p3 (f0_u1 p5)).toInt64))), .second, .unset, .unset, .unset, .unset, .unset, .unset] [(.int (own_cmp ((p1.toInt64) + ((f1 p3 (f0_u1 p5)).toInt64)) (2147483647 : Int64)))])) t
    exact k
  have K18 : ∀ t, Steps p.tables e below (T15.setTop (mkF m 73 #[.val (.int p1), .val (.int p2), .val (.int p3), .val (.int p4), .val (.int p5), .val (.int (f1 p3 (f0_u1 p5))), .val (.int (f1 p4 (f0_u2 p5))), .val (.int (f0_u3 p1 p3 p5)), .val (.int (f0_u4 p1 p3 p5)), .val (.long ((p1.toInt64) + ((f1 p3 (f0_u1 p5)).toInt64))), .second, .unset, .unset, .unset, .unset, .unset, .unset] [])) t → Steps p.tables e below (T15.setTop (mkF m 50 #[.val (.int p1), .val (.int p2), .val (.int p3), .val (.int p4), .val (.int p5), .val (.int (f1 p3 (f0_u1 p5))), .val (.int (f1 p4 (f0_u2 p5))), .unset, .unset, .val (.long ((p1.toInt64) + ((f1 p3 (f0_u1 p5)).toInt64))), .second, .unset, .unset, .unset, .unset, .unset, .unset] [(.int (own_cmp ((p1.toInt64) + ((f1 p3 (f0_u1 p5)).toInt64)) (2147483647 : Int64)))])) t := by
    intro t k
    by_cases hc18 : (0 : Int32) < (own_cmp ((p1.toInt64) + ((f1 p3 (f0_u1 p5)).toInt64)) (2147483647 : Int64))
    · have K19 : ∀ t, Steps p.tables e below (T15.setTop (mkF m 53 #[.val (.int p1), .val (.int p2), .val (.int p3), .val (.int p4), .val (.int p5), .val (.int (f1 p3 (f0_u1 p5))), .val (.int (f1 p4 (f0_u2 p5))), .unset, .unset, .val (.long ((p1.toInt64) + ((f1 p3 (f0_u1 p5)).toInt64))), .second, .unset, .unset, .unset, .unset, .unset, .unset] [])) t → Steps p.tables e below (T15.setTop (mkF m 50 #[.val (.int p1), .val (.int p2), .val (.int p3), .val (.int p4), .val (.int p5), .val (.int (f1 p3 (f0_u1 p5))), .val (.int (f1 p4 (f0_u2 p5))), .unset, .unset, .val (.long ((p1.toInt64) + ((f1 p3 (f0_u1 p5)).toInt64))), .second, .unset, .unset, .unset, .unset, .unset, .unset] [(.int (own_cmp ((p1.toInt64) + ((f1 p3 (f0_u1 p5)).toInt64)) (2147483647 : Int64)))])) t := by
        intro t k
        refine XS.ifNo X15.here hx rfl (Jvm.hb hby at_50) rfl ((if0 _ _).trans (tlt hc18).2.2.2) ?_
        exact k
      have K20 : ∀ t, Steps p.tables e below (T15.setTop (mkF m 73 #[.val (.int p1), .val (.int p2), .val (.int p3), .val (.int p4), .val (.int p5), .val (.int (f1 p3 (f0_u1 p5))), .val (.int (f1 p4 (f0_u2 p5))), .val (.int (p1 - (f1 p3 (f0_u1 p5)))), .val (.int p1), .val (.long ((p1.toInt64) + ((f1 p3 (f0_u1 p5)).toInt64))), .second, .unset, .unset, .unset, .unset, .unset, .unset] [])) t → Steps p.tables e below (T15.setTop (mkF m 53 #[.val (.int p1), .val (.int p2), .val (.int p3), .val (.int p4), .val (.int p5), .val (.int (f1 p3 (f0_u1 p5))), .val (.int (f1 p4 (f0_u2 p5))), .unset, .unset, .val (.long ((p1.toInt64) + ((f1 p3 (f0_u1 p5)).toInt64))), .second, .unset, .unset, .unset, .unset, .unset, .unset] [])) t := by
        intro t k
        refine XS.iloadN X15.here hx rfl (Jvm.hb hby at_53) rfl ?_
        show Steps p.tables e below (T15.setTop (mkF m 54 #[.val (.int p1), .val (.int p2), .val (.int p3), .val (.int p4), .val (.int p5), .val (.int (f1 p3 (f0_u1 p5))), .val (.int (f1 p4 (f0_u2 p5))), .unset, .unset, .val (.long ((p1.toInt64) + ((f1 p3 (f0_u1 p5)).toInt64))), .second, .unset, .unset, .unset, .unset, .unset, .unset] [(.int p1)])) t
        refine XS.istore X15.here hx rfl (Jvm.hb hby at_54) rfl (l' := #[.val (.int p1), .val (.int p2), .val (.int p3), .val (.int p4), .val (.int p5), .val (.int (f1 p3 (f0_u1 p5))), .val (.int (f1 p4 (f0_u2 p5))), .unset, .val (.int p1), .val (.long ((p1.toInt64) + ((f1 p3 (f0_u1 p5)).toInt64))), .second, .unset, .unset, .unset, .unset, .unset, .unset]) rfl ?_
        show Steps p.tables e below (T15.setTop (mkF m 56 #[.val (.int p1), .val (.int p2), .val (.int p3), .val (.int p4), .val (.int p5), .val (.int (f1 p3 (f0_u1 p5))), .val (.int (f1 p4 (f0_u2 p5))), .unset, .val (.int p1), .val (.long ((p1.toInt64) + ((f1 p3 (f0_u1 p5)).toInt64))), .second, .unset, .unset, .unset, .unset, .unset, .unset] [])) t
        refine XS.iloadN X15.here hx rfl (Jvm.hb hby at_56) rfl ?_
        show Steps p.tables e below (T15.setTop (mkF m 57 #[.val (.int p1), .val (.int p2), .val (.int p3), .val (.int p4), .val (.int p5), .val (.int (f1 p3 (f0_u1 p5))), .val (.int (f1 p4 (f0_u2 p5))), .unset, .val (.int p1), .val (.long ((p1.toInt64) + ((f1 p3 (f0_u1 p5)).toInt64))), .second, .unset, .unset, .unset, .unset, .unset, .unset] [(.int p1)])) t
        refine XS.iload X15.here hx rfl (Jvm.hb hby at_57) rfl ?_
        show Steps p.tables e below (T15.setTop (mkF m 59 #[.val (.int p1), .val (.int p2), .val (.int p3), .val (.int p4), .val (.int p5), .val (.int (f1 p3 (f0_u1 p5))), .val (.int (f1 p4 (f0_u2 p5))), .unset, .val (.int p1), .val (.long ((p1.toInt64) + ((f1 p3 (f0_u1 p5)).toInt64))), .second, .unset, .unset, .unset, .unset, .unset, .unset] [(.int (f1 p3 (f0_u1 p5))), (.int p1)])) t
        refine XS.isub X15.here hx rfl (Jvm.hb hby at_59) rfl ?_
        show Steps p.tables e below (T15.setTop (mkF m 60 #[.val (.int p1), .val (.int p2), .val (.int p3), .val (.int p4), .val (.int p5), .val (.int (f1 p3 (f0_u1 p5))), .val (.int (f1 p4 (f0_u2 p5))), .unset, .val (.int p1), .val (.long ((p1.toInt64) + ((f1 p3 (f0_u1 p5)).toInt64))), .second, .unset, .unset, .unset, .unset, .unset, .unset] [(.int (p1 - (f1 p3 (f0_u1 p5))))])) t
        refine XS.istore X15.here hx rfl (Jvm.hb hby at_60) rfl (l' := #[.val (.int p1), .val (.int p2), .val (.int p3), .val (.int p4), .val (.int p5), .val (.int (f1 p3 (f0_u1 p5))), .val (.int (f1 p4 (f0_u2 p5))), .val (.int (p1 - (f1 p3 (f0_u1 p5)))), .val (.int p1), .val (.long ((p1.toInt64) + ((f1 p3 (f0_u1 p5)).toInt64))), .second, .unset, .unset, .unset, .unset, .unset, .unset]) rfl ?_
        show Steps p.tables e below (T15.setTop (mkF m 62 #[.val (.int p1), .val (.int p2), .val (.int p3), .val (.int p4), .val (.int p5), .val (.int (f1 p3 (f0_u1 p5))), .val (.int (f1 p4 (f0_u2 p5))), .val (.int (p1 - (f1 p3 (f0_u1 p5)))), .val (.int p1), .val (.long ((p1.toInt64) + ((f1 p3 (f0_u1 p5)).toInt64))), .second, .unset, .unset, .unset, .unset, .unset, .unset] [])) t
        refine XS.goto X15.here hx rfl (pc0 := 62) (pc' := 73) rfl (Jvm.hb hby at_62) (by decide) (by decide) ?_
        show Steps p.tables e below (T15.setTop (mkF m 73 #[.val (.int p1), .val (.int p2), .val (.int p3), .val (.int p4), .val (.int p5), .val (.int (f1 p3 (f0_u1 p5))), .val (.int (f1 p4 (f0_u2 p5))), .val (.int (p1 - (f1 p3 (f0_u1 p5)))), .val (.int p1), .val (.long ((p1.toInt64) + ((f1 p3 (f0_u1 p5)).toInt64))), .second, .unset, .unset, .unset, .unset, .unset, .unset] [])) t
        exact k
      rw [show (f0_u3 p1 p3 p5) = (p1 - (f1 p3 (f0_u1 p5))) from if_pos hc18] at k
      rw [show (f0_u4 p1 p3 p5) = p1 from if_pos hc18] at k
      exact K19 _ (K20 _ (k))
    · have K21 : ∀ t, Steps p.tables e below (T15.setTop (mkF m 65 #[.val (.int p1), .val (.int p2), .val (.int p3), .val (.int p4), .val (.int p5), .val (.int (f1 p3 (f0_u1 p5))), .val (.int (f1 p4 (f0_u2 p5))), .unset, .unset, .val (.long ((p1.toInt64) + ((f1 p3 (f0_u1 p5)).toInt64))), .second, .unset, .unset, .unset, .unset, .unset, .unset] [])) t → Steps p.tables e below (T15.setTop (mkF m 50 #[.val (.int p1), .val (.int p2), .val (.int p3), .val (.int p4), .val (.int p5), .val (.int (f1 p3 (f0_u1 p5))), .val (.int (f1 p4 (f0_u2 p5))), .unset, .unset, .val (.long ((p1.toInt64) + ((f1 p3 (f0_u1 p5)).toInt64))), .second, .unset, .unset, .unset, .unset, .unset, .unset] [(.int (own_cmp ((p1.toInt64) + ((f1 p3 (f0_u1 p5)).toInt64)) (2147483647 : Int64)))])) t := by
        intro t k
        refine XS.ifYes X15.here hx rfl (pc0 := 50) (pc' := 65) rfl (Jvm.hb hby at_50) rfl ((if0 _ _).trans (flt hc18).2.2.2) (by decide) (by decide) ?_
        exact k
      have K22 : ∀ t, Steps p.tables e below (T15.setTop (mkF m 73 #[.val (.int p1), .val (.int p2), .val (.int p3), .val (.int p4), .val (.int p5), .val (.int (f1 p3 (f0_u1 p5))), .val (.int (f1 p4 (f0_u2 p5))), .val (.int p1), .val (.int (((p1.toInt64) + ((f1 p3 (f0_u1 p5)).toInt64)).toInt32)), .val (.long ((p1.toInt64) + ((f1 p3 (f0_u1 p5)).toInt64))), .second, .unset, .unset, .unset, .unset, .unset, .unset] [])) t → Steps p.tables e below (T15.setTop (mkF m 65 #[.val (.int p1), .val (.int p2), .val (.int p3), .val (.int p4), .val (.int p5), .val (.int (f1 p3 (f0_u1 p5))), .val (.int (f1 p4 (f0_u2 p5))), .unset, .unset, .val (.long ((p1.toInt64) + ((f1 p3 (f0_u1 p5)).toInt64))), .second, .unset, .unset, .unset, .unset, .unset, .unset] [])) t := by
        intro t k
        refine XS.iloadN X15.here hx rfl (Jvm.hb hby at_65) rfl ?_
        show Steps p.tables e below (T15.setTop (mkF m 66 #[.val (.int p1), .val (.int p2), .val (.int p3), .val (.int p4), .val (.int p5), .val (.int (f1 p3 (f0_u1 p5))), .val (.int (f1 p4 (f0_u2 p5))), .unset, .unset, .val (.long ((p1.toInt64) + ((f1 p3 (f0_u1 p5)).toInt64))), .second, .unset, .unset, .unset, .unset, .unset, .unset] [(.int p1)])) t
        refine XS.istore X15.here hx rfl (Jvm.hb hby at_66) rfl (l' := #[.val (.int p1), .val (.int p2), .val (.int p3), .val (.int p4), .val (.int p5), .val (.int (f1 p3 (f0_u1 p5))), .val (.int (f1 p4 (f0_u2 p5))), .val (.int p1), .unset, .val (.long ((p1.toInt64) + ((f1 p3 (f0_u1 p5)).toInt64))), .second, .unset, .unset, .unset, .unset, .unset, .unset]) rfl ?_
        show Steps p.tables e below (T15.setTop (mkF m 68 #[.val (.int p1), .val (.int p2), .val (.int p3), .val (.int p4), .val (.int p5), .val (.int (f1 p3 (f0_u1 p5))), .val (.int (f1 p4 (f0_u2 p5))), .val (.int p1), .unset, .val (.long ((p1.toInt64) + ((f1 p3 (f0_u1 p5)).toInt64))), .second, .unset, .unset, .unset, .unset, .unset, .unset] [])) t
        refine XS.lload X15.here hx rfl (Jvm.hb hby at_68) rfl ?_
        show Steps p.tables e below (T15.setTop (mkF m 70 #[.val (.int p1), .val (.int p2), .val (.int p3), .val (.int p4), .val (.int p5), .val (.int (f1 p3 (f0_u1 p5))), .val (.int (f1 p4 (f0_u2 p5))), .val (.int p1), .unset, .val (.long ((p1.toInt64) + ((f1 p3 (f0_u1 p5)).toInt64))), .second, .unset, .unset, .unset, .unset, .unset, .unset] [(.long ((p1.toInt64) + ((f1 p3 (f0_u1 p5)).toInt64)))])) t
        refine XS.l2i X15.here hx rfl (Jvm.hb hby at_70) rfl ?_
        show Steps p.tables e below (T15.setTop (mkF m 71 #[.val (.int p1), .val (.int p2), .val (.int p3), .val (.int p4), .val (.int p5), .val (.int (f1 p3 (f0_u1 p5))), .val (.int (f1 p4 (f0_u2 p5))), .val (.int p1), .unset, .val (.long ((p1.toInt64) + ((f1 p3 (f0_u1 p5)).toInt64))), .second, .unset, .unset, .unset, .unset, .unset, .unset] [(.int (((p1.toInt64) + ((f1 p3 (f0_u1 p5)).toInt64)).toInt32))])) t
        refine XS.istore X15.here hx rfl (Jvm.hb hby at_71) rfl (l' := #[.val (.int p1), .val (.int p2), .val (.int p3), .val (.int p4), .val (.int p5), .val (.int (f1 p3 (f0_u1 p5))), .val (.int (f1 p4 (f0_u2 p5))), .val (.int p1), .val (.int (((p1.toInt64) + ((f1 p3 (f0_u1 p5)).toInt64)).toInt32)), .val (.long ((p1.toInt64) + ((f1 p3 (f0_u1 p5)).toInt64))), .second, .unset, .unset, .unset, .unset, .unset, .unset]) rfl ?_
        show Steps p.tables e below (T15.setTop (mkF m 73 #[.val (.int p1), .val (.int p2), .val (.int p3), .val (.int p4), .val (.int p5), .val (.int (f1 p3 (f0_u1 p5))), .val (.int (f1 p4 (f0_u2 p5))), .val (.int p1), .val (.int (((p1.toInt64) + ((f1 p3 (f0_u1 p5)).toInt64)).toInt32)), .val (.long ((p1.toInt64) + ((f1 p3 (f0_u1 p5)).toInt64))), .second, .unset, .unset, .unset, .unset, .unset, .unset] [])) t
        exact k
      rw [show (f0_u3 p1 p3 p5) = p1 from if_neg hc18] at k
      rw [show (f0_u4 p1 p3 p5) = (((p1.toInt64) + ((f1 p3 (f0_u1 p5)).toInt64)).toInt32) from if_neg hc18] at k
      exact K21 _ (K22 _ (k))
  have K23 : ∀ t, Steps p.tables e below (T15.setTop (mkF m 87 #[.val (.int p1), .val (.int p2), .val (.int p3), .val (.int p4), .val (.int p5), .val (.int (f1 p3 (f0_u1 p5))), .val (.int (f1 p4 (f0_u2 p5))), .val (.int (f0_u3 p1 p3 p5)), .val (.int (f0_u4 p1 p3 p5)), .val (.long ((p1.toInt64) + ((f1 p3 (f0_u1 p5)).toInt64))), .second, .unset, .unset, .val (.long ((p2.toInt64) + ((f1 p4 (f0_u2 p5)).toInt64))), .second, .unset, .unset] [(.int (own_cmp ((p2.toInt64) + ((f1 p4 (f0_u2 p5)).toInt64)) (2147483647 : Int64)))])) t → Steps p.tables e below (T15.setTop (mkF m 73 #[.val (.int p1), .val (.int p2), .val (.int p3), .val (.int p4), .val (.int p5), .val (.int (f1 p3 (f0_u1 p5))), .val (.int (f1 p4 (f0_u2 p5))), .val (.int (f0_u3 p1 p3 p5)), .val (.int (f0_u4 p1 p3 p5)), .val (.long ((p1.toInt64) + ((f1 p3 (f0_u1 p5)).toInt64))), .second, .unset, .unset, .unset, .unset, .unset, .unset] [])) t := by
    intro t k
    refine XS.iloadN X15.here hx rfl (Jvm.hb hby at_73) rfl ?_
    show Steps p.tables e below (T15.setTop (mkF m 74 #[.val (.int p1), .val (.int p2), .val (.int p3), .val (.int p4), .val (.int p5), .val (.int (f1 p3 (f0_u1 p5))), .val (.int (f1 p4 (f0_u2 p5))), .val (.int (f0_u3 p1 p3 p5)), .val (.int (f0_u4 p1 p3 p5)), .val (.long ((p1.toInt64) + ((f1 p3 (f0_u1 p5)).toInt64))), .second, .unset, .unset, .unset, .unset, .unset, .unset] [(.int p2)])) t
    refine XS.i2l X15.here hx rfl (Jvm.hb hby at_74) rfl ?_
    show Steps p.tables e below (T15.setTop (mkF m 75 #[.val (.int p1), .val (.int p2), .val (.int p3), .val (.int p4), .val (.int p5), .val (.int (f1 p3 (f0_u1 p5))), .val (.int (f1 p4 (f0_u2 p5))), .val (.int (f0_u3 p1 p3 p5)), .val (.int (f0_u4 p1 p3 p5)), .val (.long ((p1.toInt64) + ((f1 p3 (f0_u1 p5)).toInt64))), .second, .unset, .unset, .unset, .unset, .unset, .unset] [(.long (p2.toInt64))])) t
    refine XS.iload X15.here hx rfl (Jvm.hb hby at_75) rfl ?_
    show Steps p.tables e below (T15.setTop (mkF m 77 #[.val (.int p1), .val (.int p2), .val (.int p3), .val (.int p4), .val (.int p5), .val (.int (f1 p3 (f0_u1 p5))), .val (.int (f1 p4 (f0_u2 p5))), .val (.int (f0_u3 p1 p3 p5)), .val (.int (f0_u4 p1 p3 p5)), .val (.long ((p1.toInt64) + ((f1 p3 (f0_u1 p5)).toInt64))), .second, .unset, .unset, .unset, .unset, .unset, .unset] [(.int (f1 p4 (f0_u2 p5))), (.long (p2.toInt64))])) t
    refine XS.i2l X15.here hx rfl (Jvm.hb hby at_77) rfl ?_
    show Steps p.tables e below (T15.setTop (mkF m 78 #[.val (.int p1), .val (.int p2), .val (.int p3), .val (.int p4), .val (.int p5), .val (.int (f1 p3 (f0_u1 p5))), .val (.int (f1 p4 (f0_u2 p5))), .val (.int (f0_u3 p1 p3 p5)), .val (.int (f0_u4 p1 p3 p5)), .val (.long ((p1.toInt64) + ((f1 p3 (f0_u1 p5)).toInt64))), .second, .unset, .unset, .unset, .unset, .unset, .unset] [(.long ((f1 p4 (f0_u2 p5)).toInt64)), (.long (p2.toInt64))])) t
    refine XS.ladd X15.here hx rfl (Jvm.hb hby at_78) rfl ?_
    show Steps p.tables e below (T15.setTop (mkF m 79 #[.val (.int p1), .val (.int p2), .val (.int p3), .val (.int p4), .val (.int p5), .val (.int (f1 p3 (f0_u1 p5))), .val (.int (f1 p4 (f0_u2 p5))), .val (.int (f0_u3 p1 p3 p5)), .val (.int (f0_u4 p1 p3 p5)), .val (.long ((p1.toInt64) + ((f1 p3 (f0_u1 p5)).toInt64))), .second, .unset, .unset, .unset, .unset, .unset, .unset] [(.long ((p2.toInt64) + ((f1 p4 (f0_u2 p5)).toInt64)))])) t
    refine XS.lstore X15.here hx rfl (Jvm.hb hby at_79) rfl (l' := #[.val (.int p1), .val (.int p2), .val (.int p3), .val (.int p4), .val (.int p5), .val (.int (f1 p3 (f0_u1 p5))), .val (.int (f1 p4 (f0_u2 p5))), .val (.int (f0_u3 p1 p3 p5)), .val (.int (f0_u4 p1 p3 p5)), .val (.long ((p1.toInt64) + ((f1 p3 (f0_u1 p5)).toInt64))), .second, .unset, .unset, .val (.long ((p2.toInt64) + ((f1 p4 (f0_u2 p5)).toInt64))), .second, .unset, .unset]) rfl ?_
    show Steps p.tables e below (T15.setTop (mkF m 81 #[.val (.int p1), .val (.int p2), .val (.int p3), .val (.int p4), .val (.int p5), .val (.int (f1 p3 (f0_u1 p5))), .val (.int (f1 p4 (f0_u2 p5))), .val (.int (f0_u3 p1 p3 p5)), .val (.int (f0_u4 p1 p3 p5)), .val (.long ((p1.toInt64) + ((f1 p3 (f0_u1 p5)).toInt64))), .second, .unset, .unset, .val (.long ((p2.toInt64) + ((f1 p4 (f0_u2 p5)).toInt64))), .second, .unset, .unset] [])) t
    refine XS.lload X15.here hx rfl (Jvm.hb hby at_81) rfl ?_
    show Steps p.tables e below (T15.setTop (mkF m 83 #[.val (.int p1), .val (.int p2), .val (.int p3), .val (.int p4), .val (.int p5), .val (.int (f1 p3 (f0_u1 p5))), .val (.int (f1 p4 (f0_u2 p5))), .val (.int (f0_u3 p1 p3 p5)), .val (.int (f0_u4 p1 p3 p5)), .val (.long ((p1.toInt64) + ((f1 p3 (f0_u1 p5)).toInt64))), .second, .unset, .unset, .val (.long ((p2.toInt64) + ((f1 p4 (f0_u2 p5)).toInt64))), .second, .unset, .unset] [(.long ((p2.toInt64) + ((f1 p4 (f0_u2 p5)).toInt64)))])) t
    refine X15.ldc2Long hx hown (mvT hZ (hw _ (List.mem_of_getElem? (i := 5) rfl))) (g := (mkF m 83 #[.val (.int p1), .val (.int p2), .val (.int p3), .val (.int p4), .val (.int p5), .val (.int (f1 p3 (f0_u1 p5))), .val (.int (f1 p4 (f0_u2 p5))), .val (.int (f0_u3 p1 p3 p5)), .val (.int (f0_u4 p1 p3 p5)), .val (.long ((p1.toInt64) + ((f1 p3 (f0_u1 p5)).toInt64))), .second, .unset, .unset, .val (.long ((p2.toInt64) + ((f1 p4 (f0_u2 p5)).toInt64))), .second, .unset, .unset] [(.long ((p2.toInt64) + ((f1 p4 (f0_u2 p5)).toInt64)))])) rfl (Jvm.hb hby at_83) _ ?_
    show Steps p.tables e below (T15.setTop (mkF m 86 #[.val (.int p1), .val (.int p2), .val (.int p3), .val (.int p4), .val (.int p5), .val (.int (f1 p3 (f0_u1 p5))), .val (.int (f1 p4 (f0_u2 p5))), .val (.int (f0_u3 p1 p3 p5)), .val (.int (f0_u4 p1 p3 p5)), .val (.long ((p1.toInt64) + ((f1 p3 (f0_u1 p5)).toInt64))), .second, .unset, .unset, .val (.long ((p2.toInt64) + ((f1 p4 (f0_u2 p5)).toInt64))), .second, .unset, .unset] [(.long (2147483647 : Int64)), (.long ((p2.toInt64) + ((f1 p4 (f0_u2 p5)).toInt64)))])) t
    refine XS.lcmp X15.here hx rfl (Jvm.hb hby at_86) rfl ?_
    show Steps p.tables e below (T15.setTop (mkF m 87 #[.val (.int p1), .val (.int p2), .val (.int p3), .val (.int p4), .val (.int p5), .val (.int (f1 p3 (f0_u1 p5))), .val (.int (f1 p4 (f0_u2 p5))), .val (.int (f0_u3 p1 p3 p5)), .val (.int (f0_u4 p1 p3 p5)), .val (.long ((p1.toInt64) + ((f1 p3 (f0_u1 p5)).toInt64))), .second, .unset, .unset, .val (.long ((p2.toInt64) + ((f1 p4 (f0_u2 p5)).toInt64))), .second, .unset, .unset] [(.int (own_cmp ((p2.toInt64) + ((f1 p4 (f0_u2 p5)).toInt64)) (2147483647 : Int64)))])) t
    exact k
  have K24 : ∀ t, Steps p.tables e below (T15.setTop (mkF m 110 #[.val (.int p1), .val (.int p2), .val (.int p3), .val (.int p4), .val (.int p5), .val (.int (f1 p3 (f0_u1 p5))), .val (.int (f1 p4 (f0_u2 p5))), .val (.int (f0_u3 p1 p3 p5)), .val (.int (f0_u4 p1 p3 p5)), .val (.long ((p1.toInt64) + ((f1 p3 (f0_u1 p5)).toInt64))), .second, .val (.int (f0_u5 p2 p4 p5)), .val (.int (f0_u6 p2 p4 p5)), .val (.long ((p2.toInt64) + ((f1 p4 (f0_u2 p5)).toInt64))), .second, .unset, .unset] [])) t → Steps p.tables e below (T15.setTop (mkF m 87 #[.val (.int p1), .val (.int p2), .val (.int p3), .val (.int p4), .val (.int p5), .val (.int (f1 p3 (f0_u1 p5))), .val (.int (f1 p4 (f0_u2 p5))), .val (.int (f0_u3 p1 p3 p5)), .val (.int (f0_u4 p1 p3 p5)), .val (.long ((p1.toInt64) + ((f1 p3 (f0_u1 p5)).toInt64))), .second, .unset, .unset, .val (.long ((p2.toInt64) + ((f1 p4 (f0_u2 p5)).toInt64))), .second, .unset, .unset] [(.int (own_cmp ((p2.toInt64) + ((f1 p4 (f0_u2 p5)).toInt64)) (2147483647 : Int64)))])) t := by
    intro t k
    by_cases hc24 : (0 : Int32) < (own_cmp ((p2.toInt64) + ((f1 p4 (f0_u2 p5)).toInt64)) (2147483647 : Int64))
    · have K25 : ∀ t, Steps p.tables e below (T15.setTop (mkF m 90 #[.val (.int p1), .val (.int p2), .val (.int p3), .val (.int p4), .val (.int p5), .val (.int (f1 p3 (f0_u1 p5))), .val (.int (f1 p4 (f0_u2 p5))), .val (.int (f0_u3 p1 p3 p5)), .val (.int (f0_u4 p1 p3 p5)), .val (.long ((p1.toInt64) + ((f1 p3 (f0_u1 p5)).toInt64))), .second, .unset, .unset, .val (.long ((p2.toInt64) + ((f1 p4 (f0_u2 p5)).toInt64))), .second, .unset, .unset] [])) t → Steps p.tables e below (T15.setTop (mkF m 87 #[.val (.int p1), .val (.int p2), .val (.int p3), .val (.int p4), .val (.int p5), .val (.int (f1 p3 (f0_u1 p5))), .val (.int (f1 p4 (f0_u2 p5))), .val (.int (f0_u3 p1 p3 p5)), .val (.int (f0_u4 p1 p3 p5)), .val (.long ((p1.toInt64) + ((f1 p3 (f0_u1 p5)).toInt64))), .second, .unset, .unset, .val (.long ((p2.toInt64) + ((f1 p4 (f0_u2 p5)).toInt64))), .second, .unset, .unset] [(.int (own_cmp ((p2.toInt64) + ((f1 p4 (f0_u2 p5)).toInt64)) (2147483647 : Int64)))])) t := by
        intro t k
        refine XS.ifNo X15.here hx rfl (Jvm.hb hby at_87) rfl ((if0 _ _).trans (tlt hc24).2.2.2) ?_
        exact k
      have K26 : ∀ t, Steps p.tables e below (T15.setTop (mkF m 110 #[.val (.int p1), .val (.int p2), .val (.int p3), .val (.int p4), .val (.int p5), .val (.int (f1 p3 (f0_u1 p5))), .val (.int (f1 p4 (f0_u2 p5))), .val (.int (f0_u3 p1 p3 p5)), .val (.int (f0_u4 p1 p3 p5)), .val (.long ((p1.toInt64) + ((f1 p3 (f0_u1 p5)).toInt64))), .second, .val (.int (p2 - (f1 p4 (f0_u2 p5)))), .val (.int p2), .val (.long ((p2.toInt64) + ((f1 p4 (f0_u2 p5)).toInt64))), .second, .unset, .unset] [])) t → Steps p.tables e below (T15.setTop (mkF m 90 #[.val (.int p1), .val (.int p2), .val (.int p3), .val (.int p4), .val (.int p5), .val (.int (f1 p3 (f0_u1 p5))), .val (.int (f1 p4 (f0_u2 p5))), .val (.int (f0_u3 p1 p3 p5)), .val (.int (f0_u4 p1 p3 p5)), .val (.long ((p1.toInt64) + ((f1 p3 (f0_u1 p5)).toInt64))), .second, .unset, .unset, .val (.long ((p2.toInt64) + ((f1 p4 (f0_u2 p5)).toInt64))), .second, .unset, .unset] [])) t := by
        intro t k
        refine XS.iloadN X15.here hx rfl (Jvm.hb hby at_90) rfl ?_
        show Steps p.tables e below (T15.setTop (mkF m 91 #[.val (.int p1), .val (.int p2), .val (.int p3), .val (.int p4), .val (.int p5), .val (.int (f1 p3 (f0_u1 p5))), .val (.int (f1 p4 (f0_u2 p5))), .val (.int (f0_u3 p1 p3 p5)), .val (.int (f0_u4 p1 p3 p5)), .val (.long ((p1.toInt64) + ((f1 p3 (f0_u1 p5)).toInt64))), .second, .unset, .unset, .val (.long ((p2.toInt64) + ((f1 p4 (f0_u2 p5)).toInt64))), .second, .unset, .unset] [(.int p2)])) t
        refine XS.istore X15.here hx rfl (Jvm.hb hby at_91) rfl (l' := #[.val (.int p1), .val (.int p2), .val (.int p3), .val (.int p4), .val (.int p5), .val (.int (f1 p3 (f0_u1 p5))), .val (.int (f1 p4 (f0_u2 p5))), .val (.int (f0_u3 p1 p3 p5)), .val (.int (f0_u4 p1 p3 p5)), .val (.long ((p1.toInt64) + ((f1 p3 (f0_u1 p5)).toInt64))), .second, .unset, .val (.int p2), .val (.long ((p2.toInt64) + ((f1 p4 (f0_u2 p5)).toInt64))), .second, .unset, .unset]) rfl ?_
        show Steps p.tables e below (T15.setTop (mkF m 93 #[.val (.int p1), .val (.int p2), .val (.int p3), .val (.int p4), .val (.int p5), .val (.int (f1 p3 (f0_u1 p5))), .val (.int (f1 p4 (f0_u2 p5))), .val (.int (f0_u3 p1 p3 p5)), .val (.int (f0_u4 p1 p3 p5)), .val (.long ((p1.toInt64) + ((f1 p3 (f0_u1 p5)).toInt64))), .second, .unset, .val (.int p2), .val (.long ((p2.toInt64) + ((f1 p4 (f0_u2 p5)).toInt64))), .second, .unset, .unset] [])) t
        refine XS.iloadN X15.here hx rfl (Jvm.hb hby at_93) rfl ?_
        show Steps p.tables e below (T15.setTop (mkF m 94 #[.val (.int p1), .val (.int p2), .val (.int p3), .val (.int p4), .val (.int p5), .val (.int (f1 p3 (f0_u1 p5))), .val (.int (f1 p4 (f0_u2 p5))), .val (.int (f0_u3 p1 p3 p5)), .val (.int (f0_u4 p1 p3 p5)), .val (.long ((p1.toInt64) + ((f1 p3 (f0_u1 p5)).toInt64))), .second, .unset, .val (.int p2), .val (.long ((p2.toInt64) + ((f1 p4 (f0_u2 p5)).toInt64))), .second, .unset, .unset] [(.int p2)])) t
        refine XS.iload X15.here hx rfl (Jvm.hb hby at_94) rfl ?_
        show Steps p.tables e below (T15.setTop (mkF m 96 #[.val (.int p1), .val (.int p2), .val (.int p3), .val (.int p4), .val (.int p5), .val (.int (f1 p3 (f0_u1 p5))), .val (.int (f1 p4 (f0_u2 p5))), .val (.int (f0_u3 p1 p3 p5)), .val (.int (f0_u4 p1 p3 p5)), .val (.long ((p1.toInt64) + ((f1 p3 (f0_u1 p5)).toInt64))), .second, .unset, .val (.int p2), .val (.long ((p2.toInt64) + ((f1 p4 (f0_u2 p5)).toInt64))), .second, .unset, .unset] [(.int (f1 p4 (f0_u2 p5))), (.int p2)])) t
        refine XS.isub X15.here hx rfl (Jvm.hb hby at_96) rfl ?_
        show Steps p.tables e below (T15.setTop (mkF m 97 #[.val (.int p1), .val (.int p2), .val (.int p3), .val (.int p4), .val (.int p5), .val (.int (f1 p3 (f0_u1 p5))), .val (.int (f1 p4 (f0_u2 p5))), .val (.int (f0_u3 p1 p3 p5)), .val (.int (f0_u4 p1 p3 p5)), .val (.long ((p1.toInt64) + ((f1 p3 (f0_u1 p5)).toInt64))), .second, .unset, .val (.int p2), .val (.long ((p2.toInt64) + ((f1 p4 (f0_u2 p5)).toInt64))), .second, .unset, .unset] [(.int (p2 - (f1 p4 (f0_u2 p5))))])) t
        refine XS.istore X15.here hx rfl (Jvm.hb hby at_97) rfl (l' := #[.val (.int p1), .val (.int p2), .val (.int p3), .val (.int p4), .val (.int p5), .val (.int (f1 p3 (f0_u1 p5))), .val (.int (f1 p4 (f0_u2 p5))), .val (.int (f0_u3 p1 p3 p5)), .val (.int (f0_u4 p1 p3 p5)), .val (.long ((p1.toInt64) + ((f1 p3 (f0_u1 p5)).toInt64))), .second, .val (.int (p2 - (f1 p4 (f0_u2 p5)))), .val (.int p2), .val (.long ((p2.toInt64) + ((f1 p4 (f0_u2 p5)).toInt64))), .second, .unset, .unset]) rfl ?_
        show Steps p.tables e below (T15.setTop (mkF m 99 #[.val (.int p1), .val (.int p2), .val (.int p3), .val (.int p4), .val (.int p5), .val (.int (f1 p3 (f0_u1 p5))), .val (.int (f1 p4 (f0_u2 p5))), .val (.int (f0_u3 p1 p3 p5)), .val (.int (f0_u4 p1 p3 p5)), .val (.long ((p1.toInt64) + ((f1 p3 (f0_u1 p5)).toInt64))), .second, .val (.int (p2 - (f1 p4 (f0_u2 p5)))), .val (.int p2), .val (.long ((p2.toInt64) + ((f1 p4 (f0_u2 p5)).toInt64))), .second, .unset, .unset] [])) t
        refine XS.goto X15.here hx rfl (pc0 := 99) (pc' := 110) rfl (Jvm.hb hby at_99) (by decide) (by decide) ?_
        show Steps p.tables e below (T15.setTop (mkF m 110 #[.val (.int p1), .val (.int p2), .val (.int p3), .val (.int p4), .val (.int p5), .val (.int (f1 p3 (f0_u1 p5))), .val (.int (f1 p4 (f0_u2 p5))), .val (.int (f0_u3 p1 p3 p5)), .val (.int (f0_u4 p1 p3 p5)), .val (.long ((p1.toInt64) + ((f1 p3 (f0_u1 p5)).toInt64))), .second, .val (.int (p2 - (f1 p4 (f0_u2 p5)))), .val (.int p2), .val (.long ((p2.toInt64) + ((f1 p4 (f0_u2 p5)).toInt64))), .second, .unset, .unset] [])) t
        exact k
      rw [show (f0_u5 p2 p4 p5) = (p2 - (f1 p4 (f0_u2 p5))) from if_pos hc24] at k
      rw [show (f0_u6 p2 p4 p5) = p2 from if_pos hc24] at k
      exact K25 _ (K26 _ (k))
    · have K27 : ∀ t, Steps p.tables e below (T15.setTop (mkF m 102 #[.val (.int p1), .val (.int p2), .val (.int p3), .val (.int p4), .val (.int p5), .val (.int (f1 p3 (f0_u1 p5))), .val (.int (f1 p4 (f0_u2 p5))), .val (.int (f0_u3 p1 p3 p5)), .val (.int (f0_u4 p1 p3 p5)), .val (.long ((p1.toInt64) + ((f1 p3 (f0_u1 p5)).toInt64))), .second, .unset, .unset, .val (.long ((p2.toInt64) + ((f1 p4 (f0_u2 p5)).toInt64))), .second, .unset, .unset] [])) t → Steps p.tables e below (T15.setTop (mkF m 87 #[.val (.int p1), .val (.int p2), .val (.int p3), .val (.int p4), .val (.int p5), .val (.int (f1 p3 (f0_u1 p5))), .val (.int (f1 p4 (f0_u2 p5))), .val (.int (f0_u3 p1 p3 p5)), .val (.int (f0_u4 p1 p3 p5)), .val (.long ((p1.toInt64) + ((f1 p3 (f0_u1 p5)).toInt64))), .second, .unset, .unset, .val (.long ((p2.toInt64) + ((f1 p4 (f0_u2 p5)).toInt64))), .second, .unset, .unset] [(.int (own_cmp ((p2.toInt64) + ((f1 p4 (f0_u2 p5)).toInt64)) (2147483647 : Int64)))])) t := by
        intro t k
        refine XS.ifYes X15.here hx rfl (pc0 := 87) (pc' := 102) rfl (Jvm.hb hby at_87) rfl ((if0 _ _).trans (flt hc24).2.2.2) (by decide) (by decide) ?_
        exact k
      have K28 : ∀ t, Steps p.tables e below (T15.setTop (mkF m 110 #[.val (.int p1), .val (.int p2), .val (.int p3), .val (.int p4), .val (.int p5), .val (.int (f1 p3 (f0_u1 p5))), .val (.int (f1 p4 (f0_u2 p5))), .val (.int (f0_u3 p1 p3 p5)), .val (.int (f0_u4 p1 p3 p5)), .val (.long ((p1.toInt64) + ((f1 p3 (f0_u1 p5)).toInt64))), .second, .val (.int p2), .val (.int (((p2.toInt64) + ((f1 p4 (f0_u2 p5)).toInt64)).toInt32)), .val (.long ((p2.toInt64) + ((f1 p4 (f0_u2 p5)).toInt64))), .second, .unset, .unset] [])) t → Steps p.tables e below (T15.setTop (mkF m 102 #[.val (.int p1), .val (.int p2), .val (.int p3), .val (.int p4), .val (.int p5), .val (.int (f1 p3 (f0_u1 p5))), .val (.int (f1 p4 (f0_u2 p5))), .val (.int (f0_u3 p1 p3 p5)), .val (.int (f0_u4 p1 p3 p5)), .val (.long ((p1.toInt64) + ((f1 p3 (f0_u1 p5)).toInt64))), .second, .unset, .unset, .val (.long ((p2.toInt64) + ((f1 p4 (f0_u2 p5)).toInt64))), .second, .unset, .unset] [])) t := by
        intro t k
        refine XS.iloadN X15.here hx rfl (Jvm.hb hby at_102) rfl ?_
        show Steps p.tables e below (T15.setTop (mkF m 103 #[.val (.int p1), .val (.int p2), .val (.int p3), .val (.int p4), .val (.int p5), .val (.int (f1 p3 (f0_u1 p5))), .val (.int (f1 p4 (f0_u2 p5))), .val (.int (f0_u3 p1 p3 p5)), .val (.int (f0_u4 p1 p3 p5)), .val (.long ((p1.toInt64) + ((f1 p3 (f0_u1 p5)).toInt64))), .second, .unset, .unset, .val (.long ((p2.toInt64) + ((f1 p4 (f0_u2 p5)).toInt64))), .second, .unset, .unset] [(.int p2)])) t
        refine XS.istore X15.here hx rfl (Jvm.hb hby at_103) rfl (l' := #[.val (.int p1), .val (.int p2), .val (.int p3), .val (.int p4), .val (.int p5), .val (.int (f1 p3 (f0_u1 p5))), .val (.int (f1 p4 (f0_u2 p5))), .val (.int (f0_u3 p1 p3 p5)), .val (.int (f0_u4 p1 p3 p5)), .val (.long ((p1.toInt64) + ((f1 p3 (f0_u1 p5)).toInt64))), .second, .val (.int p2), .unset, .val (.long ((p2.toInt64) + ((f1 p4 (f0_u2 p5)).toInt64))), .second, .unset, .unset]) rfl ?_
        show Steps p.tables e below (T15.setTop (mkF m 105 #[.val (.int p1), .val (.int p2), .val (.int p3), .val (.int p4), .val (.int p5), .val (.int (f1 p3 (f0_u1 p5))), .val (.int (f1 p4 (f0_u2 p5))), .val (.int (f0_u3 p1 p3 p5)), .val (.int (f0_u4 p1 p3 p5)), .val (.long ((p1.toInt64) + ((f1 p3 (f0_u1 p5)).toInt64))), .second, .val (.int p2), .unset, .val (.long ((p2.toInt64) + ((f1 p4 (f0_u2 p5)).toInt64))), .second, .unset, .unset] [])) t
        refine XS.lload X15.here hx rfl (Jvm.hb hby at_105) rfl ?_
        show Steps p.tables e below (T15.setTop (mkF m 107 #[.val (.int p1), .val (.int p2), .val (.int p3), .val (.int p4), .val (.int p5), .val (.int (f1 p3 (f0_u1 p5))), .val (.int (f1 p4 (f0_u2 p5))), .val (.int (f0_u3 p1 p3 p5)), .val (.int (f0_u4 p1 p3 p5)), .val (.long ((p1.toInt64) + ((f1 p3 (f0_u1 p5)).toInt64))), .second, .val (.int p2), .unset, .val (.long ((p2.toInt64) + ((f1 p4 (f0_u2 p5)).toInt64))), .second, .unset, .unset] [(.long ((p2.toInt64) + ((f1 p4 (f0_u2 p5)).toInt64)))])) t
        refine XS.l2i X15.here hx rfl (Jvm.hb hby at_107) rfl ?_
        show Steps p.tables e below (T15.setTop (mkF m 108 #[.val (.int p1), .val (.int p2), .val (.int p3), .val (.int p4), .val (.int p5), .val (.int (f1 p3 (f0_u1 p5))), .val (.int (f1 p4 (f0_u2 p5))), .val (.int (f0_u3 p1 p3 p5)), .val (.int (f0_u4 p1 p3 p5)), .val (.long ((p1.toInt64) + ((f1 p3 (f0_u1 p5)).toInt64))), .second, .val (.int p2), .unset, .val (.long ((p2.toInt64) + ((f1 p4 (f0_u2 p5)).toInt64))), .second, .unset, .unset] [(.int (((p2.toInt64) + ((f1 p4 (f0_u2 p5)).toInt64)).toInt32))])) t
        refine XS.istore X15.here hx rfl (Jvm.hb hby at_108) rfl (l' := #[.val (.int p1), .val (.int p2), .val (.int p3), .val (.int p4), .val (.int p5), .val (.int (f1 p3 (f0_u1 p5))), .val (.int (f1 p4 (f0_u2 p5))), .val (.int (f0_u3 p1 p3 p5)), .val (.int (f0_u4 p1 p3 p5)), .val (.long ((p1.toInt64) + ((f1 p3 (f0_u1 p5)).toInt64))), .second, .val (.int p2), .val (.int (((p2.toInt64) + ((f1 p4 (f0_u2 p5)).toInt64)).toInt32)), .val (.long ((p2.toInt64) + ((f1 p4 (f0_u2 p5)).toInt64))), .second, .unset, .unset]) rfl ?_
        show Steps p.tables e below (T15.setTop (mkF m 110 #[.val (.int p1), .val (.int p2), .val (.int p3), .val (.int p4), .val (.int p5), .val (.int (f1 p3 (f0_u1 p5))), .val (.int (f1 p4 (f0_u2 p5))), .val (.int (f0_u3 p1 p3 p5)), .val (.int (f0_u4 p1 p3 p5)), .val (.long ((p1.toInt64) + ((f1 p3 (f0_u1 p5)).toInt64))), .second, .val (.int p2), .val (.int (((p2.toInt64) + ((f1 p4 (f0_u2 p5)).toInt64)).toInt32)), .val (.long ((p2.toInt64) + ((f1 p4 (f0_u2 p5)).toInt64))), .second, .unset, .unset] [])) t
        exact k
      rw [show (f0_u5 p2 p4 p5) = p2 from if_neg hc24] at k
      rw [show (f0_u6 p2 p4 p5) = (((p2.toInt64) + ((f1 p4 (f0_u2 p5)).toInt64)).toInt32) from if_neg hc24] at k
      exact K27 _ (K28 _ (k))
  obtain ⟨T29, h29, X29, e29, E29, A29, D29, -, st29⟩ := newO X15 hx hZ hown (hw _ (List.mem_of_getElem? (i := 6) rfl)) (hw _ (List.mem_of_getElem? (i := 7) rfl)) (hw _ (List.mem_of_getElem? (i := 8) rfl)) e15 (g := (mkF m 110 #[.val (.int p1), .val (.int p2), .val (.int p3), .val (.int p4), .val (.int p5), .val (.int (f1 p3 (f0_u1 p5))), .val (.int (f1 p4 (f0_u2 p5))), .val (.int (f0_u3 p1 p3 p5)), .val (.int (f0_u4 p1 p3 p5)), .val (.long ((p1.toInt64) + ((f1 p3 (f0_u1 p5)).toInt64))), .second, .val (.int (f0_u5 p2 p4 p5)), .val (.int (f0_u6 p2 p4 p5)), .val (.long ((p2.toInt64) + ((f1 p4 (f0_u2 p5)).toInt64))), .second, .unset, .unset] [])) rfl (Jvm.hb hby at_110) (by decide) (by decide)
  obtain ⟨b29, g29⟩ : ∃ z, z = h0.size := ⟨_, rfl⟩
  rw [← g29] at A29 D29 st29
  have KP29 : Keep h0 h29 [] := (Keep.refl h0 []).ext E29
  have gb_b29 : n0 ≤ b29 := Nat.le_trans Z0 (Nat.le_of_eq g29.symm)
  have sz_b29 : h0.size ≤ b29 := Nat.le_trans (Keep.refl h0 []).1 (Nat.le_of_eq g29.symm)
  have F29_left : Fld Z h29 b29 "com/example/gutter/gutter/layout/Rect" "left" "I" (.int (0 : Int32)) := D29 (Or.inr (hw _ (List.mem_of_getElem? (i := 21) rfl))) (ty := .int) (by decide)
  have F29_top : Fld Z h29 b29 "com/example/gutter/gutter/layout/Rect" "top" "I" (.int (0 : Int32)) := D29 (Or.inr (hw _ (List.mem_of_getElem? (i := 23) rfl))) (ty := .int) (by decide)
  have F29_right : Fld Z h29 b29 "com/example/gutter/gutter/layout/Rect" "right" "I" (.int (0 : Int32)) := D29 (Or.inr (hw _ (List.mem_of_getElem? (i := 25) rfl))) (ty := .int) (by decide)
  have F29_bottom : Fld Z h29 b29 "com/example/gutter/gutter/layout/Rect" "bottom" "I" (.int (0 : Int32)) := D29 (Or.inr (hw _ (List.mem_of_getElem? (i := 27) rfl))) (ty := .int) (by decide)
  have K30 : ∀ t, Steps p.tables e below (T29.setTop (mkF m 113 #[.val (.int p1), .val (.int p2), .val (.int p3), .val (.int p4), .val (.int p5), .val (.int (f1 p3 (f0_u1 p5))), .val (.int (f1 p4 (f0_u2 p5))), .val (.int (f0_u3 p1 p3 p5)), .val (.int (f0_u4 p1 p3 p5)), .val (.long ((p1.toInt64) + ((f1 p3 (f0_u1 p5)).toInt64))), .second, .val (.int (f0_u5 p2 p4 p5)), .val (.int (f0_u6 p2 p4 p5)), .val (.long ((p2.toInt64) + ((f1 p4 (f0_u2 p5)).toInt64))), .second, .unset, .unset] [(.ref b29)])) t → Steps p.tables e below (T15.setTop (mkF m 110 #[.val (.int p1), .val (.int p2), .val (.int p3), .val (.int p4), .val (.int p5), .val (.int (f1 p3 (f0_u1 p5))), .val (.int (f1 p4 (f0_u2 p5))), .val (.int (f0_u3 p1 p3 p5)), .val (.int (f0_u4 p1 p3 p5)), .val (.long ((p1.toInt64) + ((f1 p3 (f0_u1 p5)).toInt64))), .second, .val (.int (f0_u5 p2 p4 p5)), .val (.int (f0_u6 p2 p4 p5)), .val (.long ((p2.toInt64) + ((f1 p4 (f0_u2 p5)).toInt64))), .second, .unset, .unset] [])) t := fun t k => st29 _ k
  have K31 : ∀ t, Steps p.tables e below (T29.setTop (mkF m 122 #[.val (.int p1), .val (.int p2), .val (.int p3), .val (.int p4), .val (.int p5), .val (.int (f1 p3 (f0_u1 p5))), .val (.int (f1 p4 (f0_u2 p5))), .val (.int (f0_u3 p1 p3 p5)), .val (.int (f0_u4 p1 p3 p5)), .val (.long ((p1.toInt64) + ((f1 p3 (f0_u1 p5)).toInt64))), .second, .val (.int (f0_u5 p2 p4 p5)), .val (.int (f0_u6 p2 p4 p5)), .val (.long ((p2.toInt64) + ((f1 p4 (f0_u2 p5)).toInt64))), .second, .unset, .unset] [(.int (f0_u6 p2 p4 p5)), (.int (f0_u4 p1 p3 p5)), (.int (f0_u5 p2 p4 p5)), (.int (f0_u3 p1 p3 p5)), (.ref b29), (.ref b29)])) t → Steps p.tables e below (T29.setTop (mkF m 113 #[.val (.int p1), .val (.int p2), .val (.int p3), .val (.int p4), .val (.int p5), .val (.int (f1 p3 (f0_u1 p5))), .val (.int (f1 p4 (f0_u2 p5))), .val (.int (f0_u3 p1 p3 p5)), .val (.int (f0_u4 p1 p3 p5)), .val (.long ((p1.toInt64) + ((f1 p3 (f0_u1 p5)).toInt64))), .second, .val (.int (f0_u5 p2 p4 p5)), .val (.int (f0_u6 p2 p4 p5)), .val (.long ((p2.toInt64) + ((f1 p4 (f0_u2 p5)).toInt64))), .second, .unset, .unset] [(.ref b29)])) t := by
    intro t k
    refine XS.dup X29.here hx rfl (Jvm.hb hby at_113) rfl rfl ?_
    show Steps p.tables e below (T29.setTop (mkF m 114 #[.val (.int p1), .val (.int p2), .val (.int p3), .val (.int p4), .val (.int p5), .val (.int (f1 p3 (f0_u1 p5))), .val (.int (f1 p4 (f0_u2 p5))), .val (.int (f0_u3 p1 p3 p5)), .val (.int (f0_u4 p1 p3 p5)), .val (.long ((p1.toInt64) + ((f1 p3 (f0_u1 p5)).toInt64))), .second, .val (.int (f0_u5 p2 p4 p5)), .val (.int (f0_u6 p2 p4 p5)), .val (.long ((p2.toInt64) + ((f1 p4 (f0_u2 p5)).toInt64))), .second, .unset, .unset] [(.ref b29), (.ref b29)])) t
    refine XS.iload X29.here hx rfl (Jvm.hb hby at_114) rfl ?_
    show Steps p.tables e below (T29.setTop (mkF m 116 #[.val (.int p1), .val (.int p2), .val (.int p3), .val (.int p4), .val (.int p5), .val (.int (f1 p3 (f0_u1 p5))), .val (.int (f1 p4 (f0_u2 p5))), .val (.int (f0_u3 p1 p3 p5)), .val (.int (f0_u4 p1 p3 p5)), .val (.long ((p1.toInt64) + ((f1 p3 (f0_u1 p5)).toInt64))), .second, .val (.int (f0_u5 p2 p4 p5)), .val (.int (f0_u6 p2 p4 p5)), .val (.long ((p2.toInt64) + ((f1 p4 (f0_u2 p5)).toInt64))), .second, .unset, .unset] [(.int (f0_u3 p1 p3 p5)), (.ref b29), (.ref b29)])) t
    refine XS.iload X29.here hx rfl (Jvm.hb hby at_116) rfl ?_
    show Steps p.tables e below (T29.setTop (mkF m 118 #[.val (.int p1), .val (.int p2), .val (.int p3), .val (.int p4), .val (.int p5), .val (.int (f1 p3 (f0_u1 p5))), .val (.int (f1 p4 (f0_u2 p5))), .val (.int (f0_u3 p1 p3 p5)), .val (.int (f0_u4 p1 p3 p5)), .val (.long ((p1.toInt64) + ((f1 p3 (f0_u1 p5)).toInt64))), .second, .val (.int (f0_u5 p2 p4 p5)), .val (.int (f0_u6 p2 p4 p5)), .val (.long ((p2.toInt64) + ((f1 p4 (f0_u2 p5)).toInt64))), .second, .unset, .unset] [(.int (f0_u5 p2 p4 p5)), (.int (f0_u3 p1 p3 p5)), (.ref b29), (.ref b29)])) t
    refine XS.iload X29.here hx rfl (Jvm.hb hby at_118) rfl ?_
    show Steps p.tables e below (T29.setTop (mkF m 120 #[.val (.int p1), .val (.int p2), .val (.int p3), .val (.int p4), .val (.int p5), .val (.int (f1 p3 (f0_u1 p5))), .val (.int (f1 p4 (f0_u2 p5))), .val (.int (f0_u3 p1 p3 p5)), .val (.int (f0_u4 p1 p3 p5)), .val (.long ((p1.toInt64) + ((f1 p3 (f0_u1 p5)).toInt64))), .second, .val (.int (f0_u5 p2 p4 p5)), .val (.int (f0_u6 p2 p4 p5)), .val (.long ((p2.toInt64) + ((f1 p4 (f0_u2 p5)).toInt64))), .second, .unset, .unset] [(.int (f0_u4 p1 p3 p5)), (.int (f0_u5 p2 p4 p5)), (.int (f0_u3 p1 p3 p5)), (.ref b29), (.ref b29)])) t
    refine XS.iload X29.here hx rfl (Jvm.hb hby at_120) rfl ?_
    show Steps p.tables e below (T29.setTop (mkF m 122 #[.val (.int p1), .val (.int p2), .val (.int p3), .val (.int p4), .val (.int p5), .val (.int (f1 p3 (f0_u1 p5))), .val (.int (f1 p4 (f0_u2 p5))), .val (.int (f0_u3 p1 p3 p5)), .val (.int (f0_u4 p1 p3 p5)), .val (.long ((p1.toInt64) + ((f1 p3 (f0_u1 p5)).toInt64))), .second, .val (.int (f0_u5 p2 p4 p5)), .val (.int (f0_u6 p2 p4 p5)), .val (.long ((p2.toInt64) + ((f1 p4 (f0_u2 p5)).toInt64))), .second, .unset, .unset] [(.int (f0_u6 p2 p4 p5)), (.int (f0_u4 p1 p3 p5)), (.int (f0_u5 p2 p4 p5)), (.int (f0_u3 p1 p3 p5)), (.ref b29), (.ref b29)])) t
    exact k
  obtain ⟨_, _, ⟨T32, L32, k32, n32⟩, -, X32, ⟨Lc32, hQ32, l32, y32, z32⟩, st32⟩ := X29.specialBack hx (y := (⟨"com/example/gutter/gutter/layout/Rect", "<init>", "(IIII)V"⟩ : MethodName)) rfl hown (mvT hZ (hw _ (List.mem_of_getElem? (i := 9) rfl))) (mvT hZ (hw _ (List.mem_of_getElem? (i := 10) rfl))) (mvT hZ (hw _ (List.mem_of_getElem? (i := 11) rfl))) (by decide) (backOf (W := 1) (rm2 l Z a0 hw [] b29 (f0_u3 p1 p3 p5) (f0_u5 p2 p4 p5) (f0_u4 p1 p3 p5) (f0_u6 p2 p4 p5) (.int (0 : Int32)) (.int (0 : Int32)) (.int (0 : Int32)) (.int (0 : Int32)) h29 n0 (Nat.le_trans Z0 KP29.1) (own_hx _ _ _) (own_hy _ _ _) A29 F29_left gb_b29 F29_top F29_right F29_bottom) hZ (hw _ (List.mem_of_getElem? (i := 11) rfl)) (hw _ (List.mem_of_getElem? (i := 8) rfl)) (by decide) (by decide)) (g := (mkF m 122 #[.val (.int p1), .val (.int p2), .val (.int p3), .val (.int p4), .val (.int p5), .val (.int (f1 p3 (f0_u1 p5))), .val (.int (f1 p4 (f0_u2 p5))), .val (.int (f0_u3 p1 p3 p5)), .val (.int (f0_u4 p1 p3 p5)), .val (.long ((p1.toInt64) + ((f1 p3 (f0_u1 p5)).toInt64))), .second, .val (.int (f0_u5 p2 p4 p5)), .val (.int (f0_u6 p2 p4 p5)), .val (.long ((p2.toInt64) + ((f1 p4 (f0_u2 p5)).toInt64))), .second, .unset, .unset] [(.int (f0_u6 p2 p4 p5)), (.int (f0_u4 p1 p3 p5)), (.int (f0_u5 p2 p4 p5)), (.int (f0_u3 p1 p3 p5)), (.ref b29), (.ref b29)])) rfl (by rw [hml]; rfl) (Steps.refl _) (a := b29) (argsL := [(.int (f0_u3 p1 p3 p5)), (.int (f0_u5 p2 p4 p5)), (.int (f0_u4 p1 p3 p5)), (.int (f0_u6 p2 p4 p5))]) (rest := [(.ref b29)]) (lenOf pd_1 rfl) rfl (by show 2 * 0 + _ ≤ _; exact Nat.le_of_eq rfl) (Jvm.hb hby at_122) (fun _ _ => ⟨rfl, e29, (by decide : 1 + 0 ≤ _), (by decide : 4 + 0 ≤ _)⟩)
  dsimp only [Pt.U, Pt.locs, Pt.cells, Pt.slots] at X32 l32 y32 z32 st32 hQ32
  subst l32 y32 z32
  obtain ⟨h32, e32⟩ : ∃ z, T32.heap = z := ⟨_, rfl⟩
  rw [e32] at hQ32
  obtain ⟨rfl, N32q, Kq32, R32_0, R32_1, R32_2, R32_3, R32_4⟩ := hQ32
  have N32 := Fr.app N15 N32q
  have KP32 : Keep h0 h32 [] := KP29.trans Kq32 (allS (Or.inr sz_b29) all0)
  have K33 : ∀ t, Steps p.tables e below (T32.setTop (mkF m 125 #[.val (.int p1), .val (.int p2), .val (.int p3), .val (.int p4), .val (.int p5), .val (.int (f1 p3 (f0_u1 p5))), .val (.int (f1 p4 (f0_u2 p5))), .val (.int (f0_u3 p1 p3 p5)), .val (.int (f0_u4 p1 p3 p5)), .val (.long ((p1.toInt64) + ((f1 p3 (f0_u1 p5)).toInt64))), .second, .val (.int (f0_u5 p2 p4 p5)), .val (.int (f0_u6 p2 p4 p5)), .val (.long ((p2.toInt64) + ((f1 p4 (f0_u2 p5)).toInt64))), .second, .unset, .unset] [(.ref b29)])) t → Steps p.tables e below (T29.setTop (mkF m 122 #[.val (.int p1), .val (.int p2), .val (.int p3), .val (.int p4), .val (.int p5), .val (.int (f1 p3 (f0_u1 p5))), .val (.int (f1 p4 (f0_u2 p5))), .val (.int (f0_u3 p1 p3 p5)), .val (.int (f0_u4 p1 p3 p5)), .val (.long ((p1.toInt64) + ((f1 p3 (f0_u1 p5)).toInt64))), .second, .val (.int (f0_u5 p2 p4 p5)), .val (.int (f0_u6 p2 p4 p5)), .val (.long ((p2.toInt64) + ((f1 p4 (f0_u2 p5)).toInt64))), .second, .unset, .unset] [(.int (f0_u6 p2 p4 p5)), (.int (f0_u4 p1 p3 p5)), (.int (f0_u5 p2 p4 p5)), (.int (f0_u3 p1 p3 p5)), (.ref b29), (.ref b29)])) t := fun t k => st32.trans k
  have K34 : ∀ t, Steps p.tables e below (T32.setTop (mkF m 131 #[.val (.int p1), .val (.int p2), .val (.int p3), .val (.int p4), .val (.int p5), .val (.int (f1 p3 (f0_u1 p5))), .val (.int (f1 p4 (f0_u2 p5))), .val (.int (f0_u3 p1 p3 p5)), .val (.int (f0_u4 p1 p3 p5)), .val (.long ((p1.toInt64) + ((f1 p3 (f0_u1 p5)).toInt64))), .second, .val (.int (f0_u5 p2 p4 p5)), .val (.int (f0_u6 p2 p4 p5)), .val (.long ((p2.toInt64) + ((f1 p4 (f0_u2 p5)).toInt64))), .second, .val (.ref b29), .unset] [(.int (f0_u3 p1 p3 p5)), (.int (f0_u4 p1 p3 p5))])) t → Steps p.tables e below (T32.setTop (mkF m 125 #[.val (.int p1), .val (.int p2), .val (.int p3), .val (.int p4), .val (.int p5), .val (.int (f1 p3 (f0_u1 p5))), .val (.int (f1 p4 (f0_u2 p5))), .val (.int (f0_u3 p1 p3 p5)), .val (.int (f0_u4 p1 p3 p5)), .val (.long ((p1.toInt64) + ((f1 p3 (f0_u1 p5)).toInt64))), .second, .val (.int (f0_u5 p2 p4 p5)), .val (.int (f0_u6 p2 p4 p5)), .val (.long ((p2.toInt64) + ((f1 p4 (f0_u2 p5)).toInt64))), .second, .unset, .unset] [(.ref b29)])) t := by
    intro t k
    refine XS.astore X32.here hx rfl (Jvm.hb hby at_125) rfl rfl (l' := #[.val (.int p1), .val (.int p2), .val (.int p3), .val (.int p4), .val (.int p5), .val (.int (f1 p3 (f0_u1 p5))), .val (.int (f1 p4 (f0_u2 p5))), .val (.int (f0_u3 p1 p3 p5)), .val (.int (f0_u4 p1 p3 p5)), .val (.long ((p1.toInt64) + ((f1 p3 (f0_u1 p5)).toInt64))), .second, .val (.int (f0_u5 p2 p4 p5)), .val (.int (f0_u6 p2 p4 p5)), .val (.long ((p2.toInt64) + ((f1 p4 (f0_u2 p5)).toInt64))), .second, .val (.ref b29), .unset]) rfl ?_
    show Steps p.tables e below (T32.setTop (mkF m 127 #[.val (.int p1), .val (.int p2), .val (.int p3), .val (.int p4), .val (.int p5), .val (.int (f1 p3 (f0_u1 p5))), .val (.int (f1 p4 (f0_u2 p5))), .val (.int (f0_u3 p1 p3 p5)), .val (.int (f0_u4 p1 p3 p5)), .val (.long ((p1.toInt64) + ((f1 p3 (f0_u1 p5)).toInt64))), .second, .val (.int (f0_u5 p2 p4 p5)), .val (.int (f0_u6 p2 p4 p5)), .val (.long ((p2.toInt64) + ((f1 p4 (f0_u2 p5)).toInt64))), .second, .val (.ref b29), .unset] [])) t
    refine XS.iload X32.here hx rfl (Jvm.hb hby at_127) rfl ?_
    show Steps p.tables e below (T32.setTop (mkF m 129 #[.val (.int p1), .val (.int p2), .val (.int p3), .val (.int p4), .val (.int p5), .val (.int (f1 p3 (f0_u1 p5))), .val (.int (f1 p4 (f0_u2 p5))), .val (.int (f0_u3 p1 p3 p5)), .val (.int (f0_u4 p1 p3 p5)), .val (.long ((p1.toInt64) + ((f1 p3 (f0_u1 p5)).toInt64))), .second, .val (.int (f0_u5 p2 p4 p5)), .val (.int (f0_u6 p2 p4 p5)), .val (.long ((p2.toInt64) + ((f1 p4 (f0_u2 p5)).toInt64))), .second, .val (.ref b29), .unset] [(.int (f0_u4 p1 p3 p5))])) t
    refine XS.iload X32.here hx rfl (Jvm.hb hby at_129) rfl ?_
    show Steps p.tables e below (T32.setTop (mkF m 131 #[.val (.int p1), .val (.int p2), .val (.int p3), .val (.int p4), .val (.int p5), .val (.int (f1 p3 (f0_u1 p5))), .val (.int (f1 p4 (f0_u2 p5))), .val (.int (f0_u3 p1 p3 p5)), .val (.int (f0_u4 p1 p3 p5)), .val (.long ((p1.toInt64) + ((f1 p3 (f0_u1 p5)).toInt64))), .second, .val (.int (f0_u5 p2 p4 p5)), .val (.int (f0_u6 p2 p4 p5)), .val (.long ((p2.toInt64) + ((f1 p4 (f0_u2 p5)).toInt64))), .second, .val (.ref b29), .unset] [(.int (f0_u3 p1 p3 p5)), (.int (f0_u4 p1 p3 p5))])) t
    exact k
  have K35 : ∀ t, Steps p.tables e below (T32.setTop (mkF m 146 #[.val (.int p1), .val (.int p2), .val (.int p3), .val (.int p4), .val (.int p5), .val (.int (f1 p3 (f0_u1 p5))), .val (.int (f1 p4 (f0_u2 p5))), .val (.int (f0_u3 p1 p3 p5)), .val (.int (f0_u4 p1 p3 p5)), .val (.long ((p1.toInt64) + ((f1 p3 (f0_u1 p5)).toInt64))), .second, .val (.int (f0_u5 p2 p4 p5)), .val (.int (f0_u6 p2 p4 p5)), .val (.long ((p2.toInt64) + ((f1 p4 (f0_u2 p5)).toInt64))), .second, .val (.ref b29), .unset] [(.int (f0_u7 p1 p2 p3 p4 p5))])) t → Steps p.tables e below (T32.setTop (mkF m 131 #[.val (.int p1), .val (.int p2), .val (.int p3), .val (.int p4), .val (.int p5), .val (.int (f1 p3 (f0_u1 p5))), .val (.int (f1 p4 (f0_u2 p5))), .val (.int (f0_u3 p1 p3 p5)), .val (.int (f0_u4 p1 p3 p5)), .val (.long ((p1.toInt64) + ((f1 p3 (f0_u1 p5)).toInt64))), .second, .val (.int (f0_u5 p2 p4 p5)), .val (.int (f0_u6 p2 p4 p5)), .val (.long ((p2.toInt64) + ((f1 p4 (f0_u2 p5)).toInt64))), .second, .val (.ref b29), .unset] [(.int (f0_u3 p1 p3 p5)), (.int (f0_u4 p1 p3 p5))])) t := by
    intro t k
    by_cases hc35 : (f0_u3 p1 p3 p5) < (f0_u4 p1 p3 p5)
    · have K36 : ∀ t, Steps p.tables e below (T32.setTop (mkF m 134 #[.val (.int p1), .val (.int p2), .val (.int p3), .val (.int p4), .val (.int p5), .val (.int (f1 p3 (f0_u1 p5))), .val (.int (f1 p4 (f0_u2 p5))), .val (.int (f0_u3 p1 p3 p5)), .val (.int (f0_u4 p1 p3 p5)), .val (.long ((p1.toInt64) + ((f1 p3 (f0_u1 p5)).toInt64))), .second, .val (.int (f0_u5 p2 p4 p5)), .val (.int (f0_u6 p2 p4 p5)), .val (.long ((p2.toInt64) + ((f1 p4 (f0_u2 p5)).toInt64))), .second, .val (.ref b29), .unset] [])) t → Steps p.tables e below (T32.setTop (mkF m 131 #[.val (.int p1), .val (.int p2), .val (.int p3), .val (.int p4), .val (.int p5), .val (.int (f1 p3 (f0_u1 p5))), .val (.int (f1 p4 (f0_u2 p5))), .val (.int (f0_u3 p1 p3 p5)), .val (.int (f0_u4 p1 p3 p5)), .val (.long ((p1.toInt64) + ((f1 p3 (f0_u1 p5)).toInt64))), .second, .val (.int (f0_u5 p2 p4 p5)), .val (.int (f0_u6 p2 p4 p5)), .val (.long ((p2.toInt64) + ((f1 p4 (f0_u2 p5)).toInt64))), .second, .val (.ref b29), .unset] [(.int (f0_u3 p1 p3 p5)), (.int (f0_u4 p1 p3 p5))])) t := by
        intro t k
        refine XS.icmpNo X32.here hx rfl (Jvm.hb hby at_131) rfl (tlt hc35).2.2.2 ?_
        exact k
      have K37 : ∀ t, Steps p.tables e below (T32.setTop (mkF m 138 #[.val (.int p1), .val (.int p2), .val (.int p3), .val (.int p4), .val (.int p5), .val (.int (f1 p3 (f0_u1 p5))), .val (.int (f1 p4 (f0_u2 p5))), .val (.int (f0_u3 p1 p3 p5)), .val (.int (f0_u4 p1 p3 p5)), .val (.long ((p1.toInt64) + ((f1 p3 (f0_u1 p5)).toInt64))), .second, .val (.int (f0_u5 p2 p4 p5)), .val (.int (f0_u6 p2 p4 p5)), .val (.long ((p2.toInt64) + ((f1 p4 (f0_u2 p5)).toInt64))), .second, .val (.ref b29), .unset] [(.int (f0_u5 p2 p4 p5)), (.int (f0_u6 p2 p4 p5))])) t → Steps p.tables e below (T32.setTop (mkF m 134 #[.val (.int p1), .val (.int p2), .val (.int p3), .val (.int p4), .val (.int p5), .val (.int (f1 p3 (f0_u1 p5))), .val (.int (f1 p4 (f0_u2 p5))), .val (.int (f0_u3 p1 p3 p5)), .val (.int (f0_u4 p1 p3 p5)), .val (.long ((p1.toInt64) + ((f1 p3 (f0_u1 p5)).toInt64))), .second, .val (.int (f0_u5 p2 p4 p5)), .val (.int (f0_u6 p2 p4 p5)), .val (.long ((p2.toInt64) + ((f1 p4 (f0_u2 p5)).toInt64))), .second, .val (.ref b29), .unset] [])) t := by
        intro t k
        refine XS.iload X32.here hx rfl (Jvm.hb hby at_134) rfl ?_
        show Steps p.tables e below (T32.setTop (mkF m 136 #[.val (.int p1), .val (.int p2), .val (.int p3), .val (.int p4), .val (.int p5), .val (.int (f1 p3 (f0_u1 p5))), .val (.int (f1 p4 (f0_u2 p5))), .val (.int (f0_u3 p1 p3 p5)), .val (.int (f0_u4 p1 p3 p5)), .val (.long ((p1.toInt64) + ((f1 p3 (f0_u1 p5)).toInt64))), .second, .val (.int (f0_u5 p2 p4 p5)), .val (.int (f0_u6 p2 p4 p5)), .val (.long ((p2.toInt64) + ((f1 p4 (f0_u2 p5)).toInt64))), .second, .val (.ref b29), .unset] [(.int (f0_u6 p2 p4 p5))])) t
        refine XS.iload X32.here hx rfl (Jvm.hb hby at_136) rfl ?_
        show Steps p.tables e below (T32.setTop (mkF m 138 #[.val (.int p1), .val (.int p2), .val (.int p3), .val (.int p4), .val (.int p5), .val (.int (f1 p3 (f0_u1 p5))), .val (.int (f1 p4 (f0_u2 p5))), .val (.int (f0_u3 p1 p3 p5)), .val (.int (f0_u4 p1 p3 p5)), .val (.long ((p1.toInt64) + ((f1 p3 (f0_u1 p5)).toInt64))), .second, .val (.int (f0_u5 p2 p4 p5)), .val (.int (f0_u6 p2 p4 p5)), .val (.long ((p2.toInt64) + ((f1 p4 (f0_u2 p5)).toInt64))), .second, .val (.ref b29), .unset] [(.int (f0_u5 p2 p4 p5)), (.int (f0_u6 p2 p4 p5))])) t
        exact k
      by_cases hc38 : (f0_u5 p2 p4 p5) < (f0_u6 p2 p4 p5)
      · have K39 : ∀ t, Steps p.tables e below (T32.setTop (mkF m 141 #[.val (.int p1), .val (.int p2), .val (.int p3), .val (.int p4), .val (.int p5), .val (.int (f1 p3 (f0_u1 p5))), .val (.int (f1 p4 (f0_u2 p5))), .val (.int (f0_u3 p1 p3 p5)), .val (.int (f0_u4 p1 p3 p5)), .val (.long ((p1.toInt64) + ((f1 p3 (f0_u1 p5)).toInt64))), .second, .val (.int (f0_u5 p2 p4 p5)), .val (.int (f0_u6 p2 p4 p5)), .val (.long ((p2.toInt64) + ((f1 p4 (f0_u2 p5)).toInt64))), .second, .val (.ref b29), .unset] [])) t → Steps p.tables e below (T32.setTop (mkF m 138 #[.val (.int p1), .val (.int p2), .val (.int p3), .val (.int p4), .val (.int p5), .val (.int (f1 p3 (f0_u1 p5))), .val (.int (f1 p4 (f0_u2 p5))), .val (.int (f0_u3 p1 p3 p5)), .val (.int (f0_u4 p1 p3 p5)), .val (.long ((p1.toInt64) + ((f1 p3 (f0_u1 p5)).toInt64))), .second, .val (.int (f0_u5 p2 p4 p5)), .val (.int (f0_u6 p2 p4 p5)), .val (.long ((p2.toInt64) + ((f1 p4 (f0_u2 p5)).toInt64))), .second, .val (.ref b29), .unset] [(.int (f0_u5 p2 p4 p5)), (.int (f0_u6 p2 p4 p5))])) t := by
          intro t k
          refine XS.icmpNo X32.here hx rfl (Jvm.hb hby at_138) rfl (tlt hc38).2.2.2 ?_
          exact k
        have K40 : ∀ t, Steps p.tables e below (T32.setTop (mkF m 146 #[.val (.int p1), .val (.int p2), .val (.int p3), .val (.int p4), .val (.int p5), .val (.int (f1 p3 (f0_u1 p5))), .val (.int (f1 p4 (f0_u2 p5))), .val (.int (f0_u3 p1 p3 p5)), .val (.int (f0_u4 p1 p3 p5)), .val (.long ((p1.toInt64) + ((f1 p3 (f0_u1 p5)).toInt64))), .second, .val (.int (f0_u5 p2 p4 p5)), .val (.int (f0_u6 p2 p4 p5)), .val (.long ((p2.toInt64) + ((f1 p4 (f0_u2 p5)).toInt64))), .second, .val (.ref b29), .unset] [(.int (1 : Int32))])) t → Steps p.tables e below (T32.setTop (mkF m 141 #[.val (.int p1), .val (.int p2), .val (.int p3), .val (.int p4), .val (.int p5), .val (.int (f1 p3 (f0_u1 p5))), .val (.int (f1 p4 (f0_u2 p5))), .val (.int (f0_u3 p1 p3 p5)), .val (.int (f0_u4 p1 p3 p5)), .val (.long ((p1.toInt64) + ((f1 p3 (f0_u1 p5)).toInt64))), .second, .val (.int (f0_u5 p2 p4 p5)), .val (.int (f0_u6 p2 p4 p5)), .val (.long ((p2.toInt64) + ((f1 p4 (f0_u2 p5)).toInt64))), .second, .val (.ref b29), .unset] [])) t := by
          intro t k
          refine XS.iconst X32.here hx rfl (Jvm.hb hby at_141) ?_
          show Steps p.tables e below (T32.setTop (mkF m 142 #[.val (.int p1), .val (.int p2), .val (.int p3), .val (.int p4), .val (.int p5), .val (.int (f1 p3 (f0_u1 p5))), .val (.int (f1 p4 (f0_u2 p5))), .val (.int (f0_u3 p1 p3 p5)), .val (.int (f0_u4 p1 p3 p5)), .val (.long ((p1.toInt64) + ((f1 p3 (f0_u1 p5)).toInt64))), .second, .val (.int (f0_u5 p2 p4 p5)), .val (.int (f0_u6 p2 p4 p5)), .val (.long ((p2.toInt64) + ((f1 p4 (f0_u2 p5)).toInt64))), .second, .val (.ref b29), .unset] [(.int (1 : Int32))])) t
          refine XS.goto X32.here hx rfl (pc0 := 142) (pc' := 146) rfl (Jvm.hb hby at_142) (by decide) (by decide) ?_
          show Steps p.tables e below (T32.setTop (mkF m 146 #[.val (.int p1), .val (.int p2), .val (.int p3), .val (.int p4), .val (.int p5), .val (.int (f1 p3 (f0_u1 p5))), .val (.int (f1 p4 (f0_u2 p5))), .val (.int (f0_u3 p1 p3 p5)), .val (.int (f0_u4 p1 p3 p5)), .val (.long ((p1.toInt64) + ((f1 p3 (f0_u1 p5)).toInt64))), .second, .val (.int (f0_u5 p2 p4 p5)), .val (.int (f0_u6 p2 p4 p5)), .val (.long ((p2.toInt64) + ((f1 p4 (f0_u2 p5)).toInt64))), .second, .val (.ref b29), .unset] [(.int (1 : Int32))])) t
          exact k
        rw [show (f0_u7 p1 p2 p3 p4 p5) = (1 : Int32) from (if_pos hc35).trans (if_pos hc38)] at k
        exact K36 _ (K37 _ (K39 _ (K40 _ (k))))
      · have K41 : ∀ t, Steps p.tables e below (T32.setTop (mkF m 145 #[.val (.int p1), .val (.int p2), .val (.int p3), .val (.int p4), .val (.int p5), .val (.int (f1 p3 (f0_u1 p5))), .val (.int (f1 p4 (f0_u2 p5))), .val (.int (f0_u3 p1 p3 p5)), .val (.int (f0_u4 p1 p3 p5)), .val (.long ((p1.toInt64) + ((f1 p3 (f0_u1 p5)).toInt64))), .second, .val (.int (f0_u5 p2 p4 p5)), .val (.int (f0_u6 p2 p4 p5)), .val (.long ((p2.toInt64) + ((f1 p4 (f0_u2 p5)).toInt64))), .second, .val (.ref b29), .unset] [])) t → Steps p.tables e below (T32.setTop (mkF m 138 #[.val (.int p1), .val (.int p2), .val (.int p3), .val (.int p4), .val (.int p5), .val (.int (f1 p3 (f0_u1 p5))), .val (.int (f1 p4 (f0_u2 p5))), .val (.int (f0_u3 p1 p3 p5)), .val (.int (f0_u4 p1 p3 p5)), .val (.long ((p1.toInt64) + ((f1 p3 (f0_u1 p5)).toInt64))), .second, .val (.int (f0_u5 p2 p4 p5)), .val (.int (f0_u6 p2 p4 p5)), .val (.long ((p2.toInt64) + ((f1 p4 (f0_u2 p5)).toInt64))), .second, .val (.ref b29), .unset] [(.int (f0_u5 p2 p4 p5)), (.int (f0_u6 p2 p4 p5))])) t := by
          intro t k
          refine XS.icmpYes X32.here hx rfl (pc0 := 138) (pc' := 145) rfl (Jvm.hb hby at_138) rfl (flt hc38).2.2.2 (by decide) (by decide) ?_
          exact k
        have K42 : ∀ t, Steps p.tables e below (T32.setTop (mkF m 146 #[.val (.int p1), .val (.int p2), .val (.int p3), .val (.int p4), .val (.int p5), .val (.int (f1 p3 (f0_u1 p5))), .val (.int (f1 p4 (f0_u2 p5))), .val (.int (f0_u3 p1 p3 p5)), .val (.int (f0_u4 p1 p3 p5)), .val (.long ((p1.toInt64) + ((f1 p3 (f0_u1 p5)).toInt64))), .second, .val (.int (f0_u5 p2 p4 p5)), .val (.int (f0_u6 p2 p4 p5)), .val (.long ((p2.toInt64) + ((f1 p4 (f0_u2 p5)).toInt64))), .second, .val (.ref b29), .unset] [(.int (0 : Int32))])) t → Steps p.tables e below (T32.setTop (mkF m 145 #[.val (.int p1), .val (.int p2), .val (.int p3), .val (.int p4), .val (.int p5), .val (.int (f1 p3 (f0_u1 p5))), .val (.int (f1 p4 (f0_u2 p5))), .val (.int (f0_u3 p1 p3 p5)), .val (.int (f0_u4 p1 p3 p5)), .val (.long ((p1.toInt64) + ((f1 p3 (f0_u1 p5)).toInt64))), .second, .val (.int (f0_u5 p2 p4 p5)), .val (.int (f0_u6 p2 p4 p5)), .val (.long ((p2.toInt64) + ((f1 p4 (f0_u2 p5)).toInt64))), .second, .val (.ref b29), .unset] [])) t := by
          intro t k
          refine XS.iconst X32.here hx rfl (Jvm.hb hby at_145) ?_
          show Steps p.tables e below (T32.setTop (mkF m 146 #[.val (.int p1), .val (.int p2), .val (.int p3), .val (.int p4), .val (.int p5), .val (.int (f1 p3 (f0_u1 p5))), .val (.int (f1 p4 (f0_u2 p5))), .val (.int (f0_u3 p1 p3 p5)), .val (.int (f0_u4 p1 p3 p5)), .val (.long ((p1.toInt64) + ((f1 p3 (f0_u1 p5)).toInt64))), .second, .val (.int (f0_u5 p2 p4 p5)), .val (.int (f0_u6 p2 p4 p5)), .val (.long ((p2.toInt64) + ((f1 p4 (f0_u2 p5)).toInt64))), .second, .val (.ref b29), .unset] [(.int (0 : Int32))])) t
          exact k
        rw [show (f0_u7 p1 p2 p3 p4 p5) = (0 : Int32) from (if_pos hc35).trans (if_neg hc38)] at k
        exact K36 _ (K37 _ (K41 _ (K42 _ (k))))
    · have K43 : ∀ t, Steps p.tables e below (T32.setTop (mkF m 145 #[.val (.int p1), .val (.int p2), .val (.int p3), .val (.int p4), .val (.int p5), .val (.int (f1 p3 (f0_u1 p5))), .val (.int (f1 p4 (f0_u2 p5))), .val (.int (f0_u3 p1 p3 p5)), .val (.int (f0_u4 p1 p3 p5)), .val (.long ((p1.toInt64) + ((f1 p3 (f0_u1 p5)).toInt64))), .second, .val (.int (f0_u5 p2 p4 p5)), .val (.int (f0_u6 p2 p4 p5)), .val (.long ((p2.toInt64) + ((f1 p4 (f0_u2 p5)).toInt64))), .second, .val (.ref b29), .unset] [])) t → Steps p.tables e below (T32.setTop (mkF m 131 #[.val (.int p1), .val (.int p2), .val (.int p3), .val (.int p4), .val (.int p5), .val (.int (f1 p3 (f0_u1 p5))), .val (.int (f1 p4 (f0_u2 p5))), .val (.int (f0_u3 p1 p3 p5)), .val (.int (f0_u4 p1 p3 p5)), .val (.long ((p1.toInt64) + ((f1 p3 (f0_u1 p5)).toInt64))), .second, .val (.int (f0_u5 p2 p4 p5)), .val (.int (f0_u6 p2 p4 p5)), .val (.long ((p2.toInt64) + ((f1 p4 (f0_u2 p5)).toInt64))), .second, .val (.ref b29), .unset] [(.int (f0_u3 p1 p3 p5)), (.int (f0_u4 p1 p3 p5))])) t := by
        intro t k
        refine XS.icmpYes X32.here hx rfl (pc0 := 131) (pc' := 145) rfl (Jvm.hb hby at_131) rfl (flt hc35).2.2.2 (by decide) (by decide) ?_
        exact k
      have K44 : ∀ t, Steps p.tables e below (T32.setTop (mkF m 146 #[.val (.int p1), .val (.int p2), .val (.int p3), .val (.int p4), .val (.int p5), .val (.int (f1 p3 (f0_u1 p5))), .val (.int (f1 p4 (f0_u2 p5))), .val (.int (f0_u3 p1 p3 p5)), .val (.int (f0_u4 p1 p3 p5)), .val (.long ((p1.toInt64) + ((f1 p3 (f0_u1 p5)).toInt64))), .second, .val (.int (f0_u5 p2 p4 p5)), .val (.int (f0_u6 p2 p4 p5)), .val (.long ((p2.toInt64) + ((f1 p4 (f0_u2 p5)).toInt64))), .second, .val (.ref b29), .unset] [(.int (0 : Int32))])) t → Steps p.tables e below (T32.setTop (mkF m 145 #[.val (.int p1), .val (.int p2), .val (.int p3), .val (.int p4), .val (.int p5), .val (.int (f1 p3 (f0_u1 p5))), .val (.int (f1 p4 (f0_u2 p5))), .val (.int (f0_u3 p1 p3 p5)), .val (.int (f0_u4 p1 p3 p5)), .val (.long ((p1.toInt64) + ((f1 p3 (f0_u1 p5)).toInt64))), .second, .val (.int (f0_u5 p2 p4 p5)), .val (.int (f0_u6 p2 p4 p5)), .val (.long ((p2.toInt64) + ((f1 p4 (f0_u2 p5)).toInt64))), .second, .val (.ref b29), .unset] [])) t := by
        intro t k
        refine XS.iconst X32.here hx rfl (Jvm.hb hby at_145) ?_
        show Steps p.tables e below (T32.setTop (mkF m 146 #[.val (.int p1), .val (.int p2), .val (.int p3), .val (.int p4), .val (.int p5), .val (.int (f1 p3 (f0_u1 p5))), .val (.int (f1 p4 (f0_u2 p5))), .val (.int (f0_u3 p1 p3 p5)), .val (.int (f0_u4 p1 p3 p5)), .val (.long ((p1.toInt64) + ((f1 p3 (f0_u1 p5)).toInt64))), .second, .val (.int (f0_u5 p2 p4 p5)), .val (.int (f0_u6 p2 p4 p5)), .val (.long ((p2.toInt64) + ((f1 p4 (f0_u2 p5)).toInt64))), .second, .val (.ref b29), .unset] [(.int (0 : Int32))])) t
        exact k
      rw [show (f0_u7 p1 p2 p3 p4 p5) = (0 : Int32) from if_neg hc35] at k
      exact K43 _ (K44 _ (k))
  have K45 : ∀ t, Steps p.tables e below (T32.setTop (mkF m 150 #[.val (.int p1), .val (.int p2), .val (.int p3), .val (.int p4), .val (.int p5), .val (.int (f1 p3 (f0_u1 p5))), .val (.int (f1 p4 (f0_u2 p5))), .val (.int (f0_u3 p1 p3 p5)), .val (.int (f0_u4 p1 p3 p5)), .val (.long ((p1.toInt64) + ((f1 p3 (f0_u1 p5)).toInt64))), .second, .val (.int (f0_u5 p2 p4 p5)), .val (.int (f0_u6 p2 p4 p5)), .val (.long ((p2.toInt64) + ((f1 p4 (f0_u2 p5)).toInt64))), .second, .val (.ref b29), .val (.int (f0_u7 p1 p2 p3 p4 p5))] [(.ref b29)])) t → Steps p.tables e below (T32.setTop (mkF m 146 #[.val (.int p1), .val (.int p2), .val (.int p3), .val (.int p4), .val (.int p5), .val (.int (f1 p3 (f0_u1 p5))), .val (.int (f1 p4 (f0_u2 p5))), .val (.int (f0_u3 p1 p3 p5)), .val (.int (f0_u4 p1 p3 p5)), .val (.long ((p1.toInt64) + ((f1 p3 (f0_u1 p5)).toInt64))), .second, .val (.int (f0_u5 p2 p4 p5)), .val (.int (f0_u6 p2 p4 p5)), .val (.long ((p2.toInt64) + ((f1 p4 (f0_u2 p5)).toInt64))), .second, .val (.ref b29), .unset] [(.int (f0_u7 p1 p2 p3 p4 p5))])) t := by
    intro t k
    refine XS.istore X32.here hx rfl (Jvm.hb hby at_146) rfl (l' := #[.val (.int p1), .val (.int p2), .val (.int p3), .val (.int p4), .val (.int p5), .val (.int (f1 p3 (f0_u1 p5))), .val (.int (f1 p4 (f0_u2 p5))), .val (.int (f0_u3 p1 p3 p5)), .val (.int (f0_u4 p1 p3 p5)), .val (.long ((p1.toInt64) + ((f1 p3 (f0_u1 p5)).toInt64))), .second, .val (.int (f0_u5 p2 p4 p5)), .val (.int (f0_u6 p2 p4 p5)), .val (.long ((p2.toInt64) + ((f1 p4 (f0_u2 p5)).toInt64))), .second, .val (.ref b29), .val (.int (f0_u7 p1 p2 p3 p4 p5))]) rfl ?_
    show Steps p.tables e below (T32.setTop (mkF m 148 #[.val (.int p1), .val (.int p2), .val (.int p3), .val (.int p4), .val (.int p5), .val (.int (f1 p3 (f0_u1 p5))), .val (.int (f1 p4 (f0_u2 p5))), .val (.int (f0_u3 p1 p3 p5)), .val (.int (f0_u4 p1 p3 p5)), .val (.long ((p1.toInt64) + ((f1 p3 (f0_u1 p5)).toInt64))), .second, .val (.int (f0_u5 p2 p4 p5)), .val (.int (f0_u6 p2 p4 p5)), .val (.long ((p2.toInt64) + ((f1 p4 (f0_u2 p5)).toInt64))), .second, .val (.ref b29), .val (.int (f0_u7 p1 p2 p3 p4 p5))] [])) t
    refine XS.aload X32.here hx rfl (Jvm.hb hby at_148) rfl rfl ?_
    show Steps p.tables e below (T32.setTop (mkF m 150 #[.val (.int p1), .val (.int p2), .val (.int p3), .val (.int p4), .val (.int p5), .val (.int (f1 p3 (f0_u1 p5))), .val (.int (f1 p4 (f0_u2 p5))), .val (.int (f0_u3 p1 p3 p5)), .val (.int (f0_u4 p1 p3 p5)), .val (.long ((p1.toInt64) + ((f1 p3 (f0_u1 p5)).toInt64))), .second, .val (.int (f0_u5 p2 p4 p5)), .val (.int (f0_u6 p2 p4 p5)), .val (.long ((p2.toInt64) + ((f1 p4 (f0_u2 p5)).toInt64))), .second, .val (.ref b29), .val (.int (f0_u7 p1 p2 p3 p4 p5))] [(.ref b29)])) t
    exact k
  obtain ⟨cq46, kq46, q46a, q46b, q46c⟩ := isOf hZ e32 R32_0
  obtain ⟨_, _, ⟨T46, L46, k46, n46⟩, -, X46, ⟨Lc46, hQ46, l46, y46, z46⟩, st46⟩ := X32.virtualBack hx (y := (⟨"com/example/gutter/gutter/layout/Rect", "hasArea", "()Z"⟩ : MethodName)) (z := (⟨"com/example/gutter/gutter/layout/Rect", "hasArea", "()Z"⟩ : MethodName)) hown (mvT hZ (hw _ (List.mem_of_getElem? (i := 28) rfl))) (mvT hZ (hw _ (List.mem_of_getElem? (i := 29) rfl))) (notFace_of_selects (args := #[]) (mvT hZ (hw _ (List.mem_of_getElem? (i := 31) rfl)))) (mvT hZ (hw _ (List.mem_of_getElem? (i := 31) rfl))) (mvT hZ (hw _ (List.mem_of_getElem? (i := 30) rfl))) (by decide) (backOf (W := 0) (rm5 l Z a0 hw [] b29 (f0_u4 p1 p3 p5) (f0_u3 p1 p3 p5) (f0_u6 p2 p4 p5) (f0_u5 p2 p4 p5) h32 n0 (Nat.le_trans Z0 KP32.1) R32_0 R32_3 R32_1 R32_4 R32_2) hZ (hw _ (List.mem_of_getElem? (i := 32) rfl)) (hw _ (List.mem_of_getElem? (i := 8) rfl)) (by decide) (by decide)) q46a q46c (g := (mkF m 150 #[.val (.int p1), .val (.int p2), .val (.int p3), .val (.int p4), .val (.int p5), .val (.int (f1 p3 (f0_u1 p5))), .val (.int (f1 p4 (f0_u2 p5))), .val (.int (f0_u3 p1 p3 p5)), .val (.int (f0_u4 p1 p3 p5)), .val (.long ((p1.toInt64) + ((f1 p3 (f0_u1 p5)).toInt64))), .second, .val (.int (f0_u5 p2 p4 p5)), .val (.int (f0_u6 p2 p4 p5)), .val (.long ((p2.toInt64) + ((f1 p4 (f0_u2 p5)).toInt64))), .second, .val (.ref b29), .val (.int (f0_u7 p1 p2 p3 p4 p5))] [(.ref b29)])) rfl (by rw [hml]; rfl) (Steps.refl _) (argsL := []) (rest := []) (lenOf pd_3 rfl) rfl (by show 2 * 0 + _ ≤ _; exact Nat.le_of_eq rfl) (Jvm.hb hby at_150) (fun _ _ => ⟨rfl, e32, (by decide : 1 + 0 ≤ _), (by decide : 4 + 0 ≤ _)⟩)
  dsimp only [Pt.U, Pt.locs, Pt.cells, Pt.slots] at X46 l46 y46 z46 st46 hQ46
  subst l46 y46 z46
  obtain ⟨rfl, N46q, e46⟩ := hQ46
  have N46 := Fr.app N32 N46q
  have K47 : ∀ t, Steps p.tables e below (T46.setTop (mkF m 153 #[.val (.int p1), .val (.int p2), .val (.int p3), .val (.int p4), .val (.int p5), .val (.int (f1 p3 (f0_u1 p5))), .val (.int (f1 p4 (f0_u2 p5))), .val (.int (f0_u3 p1 p3 p5)), .val (.int (f0_u4 p1 p3 p5)), .val (.long ((p1.toInt64) + ((f1 p3 (f0_u1 p5)).toInt64))), .second, .val (.int (f0_u5 p2 p4 p5)), .val (.int (f0_u6 p2 p4 p5)), .val (.long ((p2.toInt64) + ((f1 p4 (f0_u2 p5)).toInt64))), .second, .val (.ref b29), .val (.int (f0_u7 p1 p2 p3 p4 p5))] [(.int (f5 (f0_u4 p1 p3 p5) (f0_u3 p1 p3 p5) (f0_u6 p2 p4 p5) (f0_u5 p2 p4 p5)))])) t → Steps p.tables e below (T32.setTop (mkF m 150 #[.val (.int p1), .val (.int p2), .val (.int p3), .val (.int p4), .val (.int p5), .val (.int (f1 p3 (f0_u1 p5))), .val (.int (f1 p4 (f0_u2 p5))), .val (.int (f0_u3 p1 p3 p5)), .val (.int (f0_u4 p1 p3 p5)), .val (.long ((p1.toInt64) + ((f1 p3 (f0_u1 p5)).toInt64))), .second, .val (.int (f0_u5 p2 p4 p5)), .val (.int (f0_u6 p2 p4 p5)), .val (.long ((p2.toInt64) + ((f1 p4 (f0_u2 p5)).toInt64))), .second, .val (.ref b29), .val (.int (f0_u7 p1 p2 p3 p4 p5))] [(.ref b29)])) t := fun t k => st46.trans k
  have K48 : ∀ t, Steps p.tables e below (T46.setTop (mkF m 155 #[.val (.int p1), .val (.int p2), .val (.int p3), .val (.int p4), .val (.int p5), .val (.int (f1 p3 (f0_u1 p5))), .val (.int (f1 p4 (f0_u2 p5))), .val (.int (f0_u3 p1 p3 p5)), .val (.int (f0_u4 p1 p3 p5)), .val (.long ((p1.toInt64) + ((f1 p3 (f0_u1 p5)).toInt64))), .second, .val (.int (f0_u5 p2 p4 p5)), .val (.int (f0_u6 p2 p4 p5)), .val (.long ((p2.toInt64) + ((f1 p4 (f0_u2 p5)).toInt64))), .second, .val (.ref b29), .val (.int (f0_u7 p1 p2 p3 p4 p5))] [(.int (f0_u7 p1 p2 p3 p4 p5)), (.int (f5 (f0_u4 p1 p3 p5) (f0_u3 p1 p3 p5) (f0_u6 p2 p4 p5) (f0_u5 p2 p4 p5)))])) t → Steps p.tables e below (T46.setTop (mkF m 153 #[.val (.int p1), .val (.int p2), .val (.int p3), .val (.int p4), .val (.int p5), .val (.int (f1 p3 (f0_u1 p5))), .val (.int (f1 p4 (f0_u2 p5))), .val (.int (f0_u3 p1 p3 p5)), .val (.int (f0_u4 p1 p3 p5)), .val (.long ((p1.toInt64) + ((f1 p3 (f0_u1 p5)).toInt64))), .second, .val (.int (f0_u5 p2 p4 p5)), .val (.int (f0_u6 p2 p4 p5)), .val (.long ((p2.toInt64) + ((f1 p4 (f0_u2 p5)).toInt64))), .second, .val (.ref b29), .val (.int (f0_u7 p1 p2 p3 p4 p5))] [(.int (f5 (f0_u4 p1 p3 p5) (f0_u3 p1 p3 p5) (f0_u6 p2 p4 p5) (f0_u5 p2 p4 p5)))])) t := by
    intro t k
    refine XS.iload X46.here hx rfl (Jvm.hb hby at_153) rfl ?_
    show Steps p.tables e below (T46.setTop (mkF m 155 #[.val (.int p1), .val (.int p2), .val (.int p3), .val (.int p4), .val (.int p5), .val (.int (f1 p3 (f0_u1 p5))), .val (.int (f1 p4 (f0_u2 p5))), .val (.int (f0_u3 p1 p3 p5)), .val (.int (f0_u4 p1 p3 p5)), .val (.long ((p1.toInt64) + ((f1 p3 (f0_u1 p5)).toInt64))), .second, .val (.int (f0_u5 p2 p4 p5)), .val (.int (f0_u6 p2 p4 p5)), .val (.long ((p2.toInt64) + ((f1 p4 (f0_u2 p5)).toInt64))), .second, .val (.ref b29), .val (.int (f0_u7 p1 p2 p3 p4 p5))] [(.int (f0_u7 p1 p2 p3 p4 p5)), (.int (f5 (f0_u4 p1 p3 p5) (f0_u3 p1 p3 p5) (f0_u6 p2 p4 p5) (f0_u5 p2 p4 p5)))])) t
    exact k
  by_cases hc49 : (f5 (f0_u4 p1 p3 p5) (f0_u3 p1 p3 p5) (f0_u6 p2 p4 p5) (f0_u5 p2 p4 p5)) = (f0_u7 p1 p2 p3 p4 p5)
  · have K50 : ∀ t, Steps p.tables e below (T46.setTop (mkF m 158 #[.val (.int p1), .val (.int p2), .val (.int p3), .val (.int p4), .val (.int p5), .val (.int (f1 p3 (f0_u1 p5))), .val (.int (f1 p4 (f0_u2 p5))), .val (.int (f0_u3 p1 p3 p5)), .val (.int (f0_u4 p1 p3 p5)), .val (.long ((p1.toInt64) + ((f1 p3 (f0_u1 p5)).toInt64))), .second, .val (.int (f0_u5 p2 p4 p5)), .val (.int (f0_u6 p2 p4 p5)), .val (.long ((p2.toInt64) + ((f1 p4 (f0_u2 p5)).toInt64))), .second, .val (.ref b29), .val (.int (f0_u7 p1 p2 p3 p4 p5))] [])) t → Steps p.tables e below (T46.setTop (mkF m 155 #[.val (.int p1), .val (.int p2), .val (.int p3), .val (.int p4), .val (.int p5), .val (.int (f1 p3 (f0_u1 p5))), .val (.int (f1 p4 (f0_u2 p5))), .val (.int (f0_u3 p1 p3 p5)), .val (.int (f0_u4 p1 p3 p5)), .val (.long ((p1.toInt64) + ((f1 p3 (f0_u1 p5)).toInt64))), .second, .val (.int (f0_u5 p2 p4 p5)), .val (.int (f0_u6 p2 p4 p5)), .val (.long ((p2.toInt64) + ((f1 p4 (f0_u2 p5)).toInt64))), .second, .val (.ref b29), .val (.int (f0_u7 p1 p2 p3 p4 p5))] [(.int (f0_u7 p1 p2 p3 p4 p5)), (.int (f5 (f0_u4 p1 p3 p5) (f0_u3 p1 p3 p5) (f0_u6 p2 p4 p5) (f0_u5 p2 p4 p5)))])) t := by
      intro t k
      refine XS.icmpNo X46.here hx rfl (Jvm.hb hby at_155) rfl (teq hc49).2 ?_
      exact k
    have K51 : ∀ t, Steps p.tables e below (T46.setTop (mkF m 163 #[.val (.int p1), .val (.int p2), .val (.int p3), .val (.int p4), .val (.int p5), .val (.int (f1 p3 (f0_u1 p5))), .val (.int (f1 p4 (f0_u2 p5))), .val (.int (f0_u3 p1 p3 p5)), .val (.int (f0_u4 p1 p3 p5)), .val (.long ((p1.toInt64) + ((f1 p3 (f0_u1 p5)).toInt64))), .second, .val (.int (f0_u5 p2 p4 p5)), .val (.int (f0_u6 p2 p4 p5)), .val (.long ((p2.toInt64) + ((f1 p4 (f0_u2 p5)).toInt64))), .second, .val (.ref b29), .val (.int (f0_u7 p1 p2 p3 p4 p5))] [(.int (1 : Int32))])) t → Steps p.tables e below (T46.setTop (mkF m 158 #[.val (.int p1), .val (.int p2), .val (.int p3), .val (.int p4), .val (.int p5), .val (.int (f1 p3 (f0_u1 p5))), .val (.int (f1 p4 (f0_u2 p5))), .val (.int (f0_u3 p1 p3 p5)), .val (.int (f0_u4 p1 p3 p5)), .val (.long ((p1.toInt64) + ((f1 p3 (f0_u1 p5)).toInt64))), .second, .val (.int (f0_u5 p2 p4 p5)), .val (.int (f0_u6 p2 p4 p5)), .val (.long ((p2.toInt64) + ((f1 p4 (f0_u2 p5)).toInt64))), .second, .val (.ref b29), .val (.int (f0_u7 p1 p2 p3 p4 p5))] [])) t := by
      intro t k
      refine XS.iconst X46.here hx rfl (Jvm.hb hby at_158) ?_
      show Steps p.tables e below (T46.setTop (mkF m 159 #[.val (.int p1), .val (.int p2), .val (.int p3), .val (.int p4), .val (.int p5), .val (.int (f1 p3 (f0_u1 p5))), .val (.int (f1 p4 (f0_u2 p5))), .val (.int (f0_u3 p1 p3 p5)), .val (.int (f0_u4 p1 p3 p5)), .val (.long ((p1.toInt64) + ((f1 p3 (f0_u1 p5)).toInt64))), .second, .val (.int (f0_u5 p2 p4 p5)), .val (.int (f0_u6 p2 p4 p5)), .val (.long ((p2.toInt64) + ((f1 p4 (f0_u2 p5)).toInt64))), .second, .val (.ref b29), .val (.int (f0_u7 p1 p2 p3 p4 p5))] [(.int (1 : Int32))])) t
      refine XS.goto X46.here hx rfl (pc0 := 159) (pc' := 163) rfl (Jvm.hb hby at_159) (by decide) (by decide) ?_
      show Steps p.tables e below (T46.setTop (mkF m 163 #[.val (.int p1), .val (.int p2), .val (.int p3), .val (.int p4), .val (.int p5), .val (.int (f1 p3 (f0_u1 p5))), .val (.int (f1 p4 (f0_u2 p5))), .val (.int (f0_u3 p1 p3 p5)), .val (.int (f0_u4 p1 p3 p5)), .val (.long ((p1.toInt64) + ((f1 p3 (f0_u1 p5)).toInt64))), .second, .val (.int (f0_u5 p2 p4 p5)), .val (.int (f0_u6 p2 p4 p5)), .val (.long ((p2.toInt64) + ((f1 p4 (f0_u2 p5)).toInt64))), .second, .val (.ref b29), .val (.int (f0_u7 p1 p2 p3 p4 p5))] [(.int (1 : Int32))])) t
      exact k
    obtain ⟨fs, hr, hrun, hended, hW, hsame⟩ := X46.leave (v := some (.int (1 : Int32))) (fun h => by rw [Bd.returns] at h; cases h) Bd.notSynchronized
    refine ⟨_, _, pre0 _ (K1 _ (K2 _ (K8 _ (K9 _ (K10 _ (K16 _ (K17 _ (K18 _ (K23 _ (K24 _ (K30 _ (K31 _ (K33 _ (K34 _ (K35 _ (K45 _ (K47 _ (K48 _ (K50 _ (K51 _ (retN X46 hx (t := .boolean) Bd.returns (by simp) (Jvm.hb hby at_163) hr))))))))))))))))))))), hrun, hended, _, _, rfl, ?_, ⟨_, rfl⟩, hW, hsame.mono (by decide) (by decide)⟩
    show Q0 Z p1 p2 p3 p4 p5 h0 n0 _ T46.heap _
    rw [e46]
    exact ⟨congrArg (fun z => some (Value.int z)) (show (1 : Int32) = f0 p1 p2 p3 p4 p5 from Eq.symm (if_pos hc49)), N46, KP32⟩
  · have K52 : ∀ t, Steps p.tables e below (T46.setTop (mkF m 162 #[.val (.int p1), .val (.int p2), .val (.int p3), .val (.int p4), .val (.int p5), .val (.int (f1 p3 (f0_u1 p5))), .val (.int (f1 p4 (f0_u2 p5))), .val (.int (f0_u3 p1 p3 p5)), .val (.int (f0_u4 p1 p3 p5)), .val (.long ((p1.toInt64) + ((f1 p3 (f0_u1 p5)).toInt64))), .second, .val (.int (f0_u5 p2 p4 p5)), .val (.int (f0_u6 p2 p4 p5)), .val (.long ((p2.toInt64) + ((f1 p4 (f0_u2 p5)).toInt64))), .second, .val (.ref b29), .val (.int (f0_u7 p1 p2 p3 p4 p5))] [])) t → Steps p.tables e below (T46.setTop (mkF m 155 #[.val (.int p1), .val (.int p2), .val (.int p3), .val (.int p4), .val (.int p5), .val (.int (f1 p3 (f0_u1 p5))), .val (.int (f1 p4 (f0_u2 p5))), .val (.int (f0_u3 p1 p3 p5)), .val (.int (f0_u4 p1 p3 p5)), .val (.long ((p1.toInt64) + ((f1 p3 (f0_u1 p5)).toInt64))), .second, .val (.int (f0_u5 p2 p4 p5)), .val (.int (f0_u6 p2 p4 p5)), .val (.long ((p2.toInt64) + ((f1 p4 (f0_u2 p5)).toInt64))), .second, .val (.ref b29), .val (.int (f0_u7 p1 p2 p3 p4 p5))] [(.int (f0_u7 p1 p2 p3 p4 p5)), (.int (f5 (f0_u4 p1 p3 p5) (f0_u3 p1 p3 p5) (f0_u6 p2 p4 p5) (f0_u5 p2 p4 p5)))])) t := by
      intro t k
      refine XS.icmpYes X46.here hx rfl (pc0 := 155) (pc' := 162) rfl (Jvm.hb hby at_155) rfl (feq hc49).2 (by decide) (by decide) ?_
      exact k
    have K53 : ∀ t, Steps p.tables e below (T46.setTop (mkF m 163 #[.val (.int p1), .val (.int p2), .val (.int p3), .val (.int p4), .val (.int p5), .val (.int (f1 p3 (f0_u1 p5))), .val (.int (f1 p4 (f0_u2 p5))), .val (.int (f0_u3 p1 p3 p5)), .val (.int (f0_u4 p1 p3 p5)), .val (.long ((p1.toInt64) + ((f1 p3 (f0_u1 p5)).toInt64))), .second, .val (.int (f0_u5 p2 p4 p5)), .val (.int (f0_u6 p2 p4 p5)), .val (.long ((p2.toInt64) + ((f1 p4 (f0_u2 p5)).toInt64))), .second, .val (.ref b29), .val (.int (f0_u7 p1 p2 p3 p4 p5))] [(.int (0 : Int32))])) t → Steps p.tables e below (T46.setTop (mkF m 162 #[.val (.int p1), .val (.int p2), .val (.int p3), .val (.int p4), .val (.int p5), .val (.int (f1 p3 (f0_u1 p5))), .val (.int (f1 p4 (f0_u2 p5))), .val (.int (f0_u3 p1 p3 p5)), .val (.int (f0_u4 p1 p3 p5)), .val (.long ((p1.toInt64) + ((f1 p3 (f0_u1 p5)).toInt64))), .second, .val (.int (f0_u5 p2 p4 p5)), .val (.int (f0_u6 p2 p4 p5)), .val (.long ((p2.toInt64) + ((f1 p4 (f0_u2 p5)).toInt64))), .second, .val (.ref b29), .val (.int (f0_u7 p1 p2 p3 p4 p5))] [])) t := by
      intro t k
      refine XS.iconst X46.here hx rfl (Jvm.hb hby at_162) ?_
      show Steps p.tables e below (T46.setTop (mkF m 163 #[.val (.int p1), .val (.int p2), .val (.int p3), .val (.int p4), .val (.int p5), .val (.int (f1 p3 (f0_u1 p5))), .val (.int (f1 p4 (f0_u2 p5))), .val (.int (f0_u3 p1 p3 p5)), .val (.int (f0_u4 p1 p3 p5)), .val (.long ((p1.toInt64) + ((f1 p3 (f0_u1 p5)).toInt64))), .second, .val (.int (f0_u5 p2 p4 p5)), .val (.int (f0_u6 p2 p4 p5)), .val (.long ((p2.toInt64) + ((f1 p4 (f0_u2 p5)).toInt64))), .second, .val (.ref b29), .val (.int (f0_u7 p1 p2 p3 p4 p5))] [(.int (0 : Int32))])) t
      exact k
    obtain ⟨fs, hr, hrun, hended, hW, hsame⟩ := X46.leave (v := some (.int (0 : Int32))) (fun h => by rw [Bd.returns] at h; cases h) Bd.notSynchronized
    refine ⟨_, _, pre0 _ (K1 _ (K2 _ (K8 _ (K9 _ (K10 _ (K16 _ (K17 _ (K18 _ (K23 _ (K24 _ (K30 _ (K31 _ (K33 _ (K34 _ (K35 _ (K45 _ (K47 _ (K48 _ (K52 _ (K53 _ (retN X46 hx (t := .boolean) Bd.returns (by simp) (Jvm.hb hby at_163) hr))))))))))))))))))))), hrun, hended, _, _, rfl, ?_, ⟨_, rfl⟩, hW, hsame.mono (by decide) (by decide)⟩
    show Q0 Z p1 p2 p3 p4 p5 h0 n0 _ T46.heap _
    rw [e46]
    exact ⟨congrArg (fun z => some (Value.int z)) (show (0 : Int32) = f0 p1 p2 p3 p4 p5 from Eq.symm (if_neg hc49)), N46, KP32⟩
theorem own_pos (l r w : Int32) (h : l.toInt + w.toInt = r.toInt) (hw : 0 ≤ w.toInt) : (0 < r - l) ↔ l < r := by
  have r4 := w.toInt_lt
  rw [Int32.lt_iff_toInt_lt, Int32.lt_iff_toInt_lt, Int32.toInt_sub, Int.bmod_eq_of_le (by omega) (by omega)]
  have z : (0 : Int32).toInt = 0 := by decide
  omega
theorem plain (a b c d e : Int32) : f0 a b c d e = 1 := by
  refine if_pos ?_
  have hx := own_pos _ _ _ (own_x a c e) (own_f1 _ _)
  have hy := own_pos _ _ _ (own_y b d e) (own_f1 _ _)
  unfold f5 f6 f7 f0_u7
  simp only [hx, hy]
set_option maxRecDepth 65536 in
set_option maxHeartbeats 40000000 in
theorem comes_1 {Post : Tables → Env → Array Value → State → Outcome → State → Prop} (hpost : ∀ tb e args s v u, (limb_1_1.after args s (.returned v) u = true ∧ limb_1_2.after args s (.returned v) u = true ∧ True) → FrameEnd s (.returned v) u (Jvm.fieldLocs frame_1_writes args s ++ Jvm.arrayLocs frame_1_arrays args s ++ Jvm.staticLocs frame_1_statics s) 16 128 → Post tb e args s (.returned v) u) :
    ArmFor flags0 classFile x code maxLocals ret World_1 tables_1 room_1 Calls_1 rest_1 Pre_1 Post := by
  intro l hfl _ _ p e ha hc hk s m args below hf hA hF happ hP
  obtain ⟨hcalls, hrest, hpre⟩ := hP
  obtain ⟨-, -, -, hnamed, -, -, -, hat⟩ := (Spec.applies_iff hf).mp happ
  obtain ⟨hg, hn⟩ := and_e (Cond.before_iff.mp (show (Jvm.Cond.and given_1 narrow_1).before args s = true from hpre))
  obtain ⟨gc, g0⟩ := and_e hg
  obtain ⟨gi0, g1⟩ := and_e g0
  obtain ⟨gi1, g2⟩ := and_e g1
  obtain ⟨gi2, g3⟩ := and_e g2
  obtain ⟨gi3, g4⟩ := and_e g3
  have gi4 := g4
  obtain ⟨w0, w1, w2, w3, w4, rfl⟩ : ∃ w0 w1 w2 w3 w4 : Value, args = #[w0, w1, w2, w3, w4] := by
    have hs : args.size = 5 := by simpa [Cond.value, given_1] using gc
    obtain ⟨L⟩ := args
    match L, hs with
    | [w0, w1, w2, w3, w4], _ => exact ⟨w0, w1, w2, w3, w4, rfl⟩
  have hw := fun d (hd : d ∈ tables_1) => atoms_spec (ws := Jvm.Cond.code x code maxLocals ret :: tables_1) hat d (List.mem_cons_of_mem _ hd)
  have hfit : Fit s := fun {y c} hc i hi => by
    obtain ⟨ha, rfl⟩ := Array.getElem?_eq_some_iff.mp hc
    have q := List.all_eq_true.mp ((Array.all_eq_true_iff_forall_mem.mp hF) _ (Array.getElem_mem ha)) i (List.mem_range.mpr hi)
    simpa [Array.getElem?_eq_getElem hi] using q
  obtain ⟨i0, ei0⟩ := is_v gi0
  obtain rfl : w0 = (.int i0) := Option.some.inj ei0
  obtain ⟨i1, ei1⟩ := is_v gi1
  obtain rfl : w1 = (.int i1) := Option.some.inj ei1
  obtain ⟨i2, ei2⟩ := is_v gi2
  obtain rfl : w2 = (.int i2) := Option.some.inj ei2
  obtain ⟨i3, ei3⟩ := is_v gi3
  obtain rfl : w3 = (.int i3) := Option.some.inj ei3
  obtain ⟨i4, ei4⟩ := is_v gi4
  obtain rfl : w4 = (.int i4) := Option.some.inj ei4
  obtain ⟨n, o, h1, h2, h3, v, L, rfl, ⟨hv, N, -⟩, hq⟩ := rm0 l s _ hw tables_1 i0 i1 i2 i3 i4 s.heap s.heap.size (Nat.le_refl _)  p e ha hc hk s m _ below hf ((Spec.applies_iff_loose hf).mp happ).1 ⟨rfl, State.Warmed39.refl s, rfl⟩ trivial
  rw [plain i0 i1 i2 i3 i4] at hv
  subst hv
  refine ⟨n, _, h1, h2, h3, hpost _ _ _ _ _ _ ⟨Cond.after_iff.mpr rfl, Cond.after_iff.mpr (eq_i res_at (Term.int_eval (1)) rfl), trivial⟩ ⟨hq.1, hq.2.1, (hq.2.2.sift fun y hy => Or.inr (N y hy)).mono (by decide) (by decide)⟩⟩
theorem main_1_1 : Claimed_1_1 := comes_1 fun _ _ _ _ _ _ h hF => ⟨h.1, hF⟩
theorem main_1_2 : Claimed_1_2 := comes_1 fun _ _ _ _ _ _ h hF => ⟨h.2.1, hF⟩
end Jvm.Pilot.@@N@@
namespace Jvm.Pilot.@@N@@
open Jvm Jvm.ClassFile Sem Op Lib Jvm.Free Jvm.Stand Jvm.Pilot.@@N@@.Jvm.D
/-! MADE BY PROGRAM (witnessworld.py) out of the Statement's table words and the real class files: 10 classes; the members and pool entries that the words name. The judged class is class 1, her method 2. -/
namespace start1
open Jvm.ClassFile
def u (s : String) : CpInfo := .utf8 (stringToUtf16 s)
/-- a pool by its gaps: so many unusable entries, then the entry; so many at the end -/
def gap : Nat → List CpInfo → List CpInfo
  | 0, r => r
  | n + 1, r => .unusable :: gap n r
def poolList (es : List (Nat × CpInfo)) (last : Nat) : List CpInfo := es.foldr (fun e r => gap e.1 (e.2 :: r)) (gap last [])
def pool (es : List (Nat × CpInfo)) (last : Nat) : Array CpInfo := ⟨poolList es last⟩
def fileOf (pool : Array CpInfo) (this : Nat) (attrs : Array Attribute := #[]) (ms : Array MethodInfo := #[]) (fl : Nat := 33) (sup : Nat := 0) (ifs : Array Nat := #[]) (fds : Array FieldInfo := #[]) : ClassFile where
  minorVersion := 0
  majorVersion := 65
  constantPool := pool
  accessFlags := fl
  thisClass := this
  superClass := sup
  interfaces := ifs
  fields := fds
  methods := ms
  attributes := attrs
def plain (name : String) (sup : Option ClassId) : Class where
  name := name
  kind := .ordinary
  loader := none
  accessFlags := 33
  super := sup
  interfaces := #[]
  cf := none
  fields := #[]
  methods := #[]
  instanceTypes := #[]
  staticTypes := #[]
  resolved := #[]
  callSites := []
  init := .initialized
  statics := none
  mirror := none

def pool0 : Array CpInfo := pool [(5, u "<init>"), (0, u "()V"), (1, .class_ 10), (1, u "java/lang/Object")] 113

def k0c0 : Code := { maxStack := 0, maxLocals := 1, code := object_method_1_code, exceptionTable := #[], attributes := #[] }
def k0m0 : Method := { name := "<init>", desc := "()V", sig := { parameters := [], returnType := none }, accessFlags := 1, code := some k0c0 }
/-- java/lang/Object -/
def k0 : Class := { plain "java/lang/Object" none with
  accessFlags := 33
  interfaces := #[]
  cf := some (fileOf pool0 8 #[] #[{ accessFlags := 1, nameIndex := 5, descriptorIndex := 6, attributes := #[] }] 33 0 #[] #[])
  fields := #[]
  methods := #[k0m0]
  instanceTypes := #[]
  staticTypes := #[]
  resolved := Array.replicate 124 none
  statics := none }

def pool1 : Array CpInfo := pool [(2, .class_ 4), (1, u "java/lang/Object"), (0, u "<init>"), (0, u "()V"), (0, .integer 2147483647), (0, .methodref 9 10), (0, .class_ 11), (0, .nameAndType 12 13), (0, u "com/example/gutter/gutter/layout/RectHasAreaPinLaw"), (0, u "extent"), (0, u "(IZ)I"), (2, .long 2147483647), (1, .class_ 19), (0, u "com/example/gutter/gutter/layout/Rect"), (0, .methodref 18 21), (0, .nameAndType 5 22), (0, u "(IIII)V"), (0, .methodref 18 24), (0, .nameAndType 25 26), (0, u "hasArea"), (0, u "()Z"), (3, u "law"), (0, u "(IIIII)Z")] 2

def k1m0 : Method := { name := "<init>", desc := "()V", sig := { parameters := [], returnType := none }, accessFlags := 1, code := none }
def k1c1 : Code := { maxStack := 2, maxLocals := 2, code := method_2_code, exceptionTable := #[], attributes := #[] }
def k1m1 : Method := { name := "extent", desc := "(IZ)I", sig := { parameters := [.int, .boolean], returnType := some .int }, accessFlags := 10, code := some k1c1 }
def k1c2 : Code := { maxStack := 6, maxLocals := 17, code := code, exceptionTable := #[], attributes := #[] }
def k1m2 : Method := { name := "law", desc := "(IIIII)Z", sig := { parameters := [.int, .int, .int, .int, .int], returnType := some .boolean }, accessFlags := 9, code := some k1c2 }
/-- com/example/gutter/gutter/layout/RectHasAreaPinLaw -/
def k1 : Class := { plain "com/example/gutter/gutter/layout/RectHasAreaPinLaw" (some 0) with
  accessFlags := 49
  interfaces := #[]
  cf := some (fileOf pool1 9 #[] #[{ accessFlags := 1, nameIndex := 5, descriptorIndex := 6, attributes := #[] }, { accessFlags := 10, nameIndex := 12, descriptorIndex := 13, attributes := #[] }, { accessFlags := 9, nameIndex := 30, descriptorIndex := 31, attributes := #[] }] 49 2 #[] #[])
  fields := #[]
  methods := #[k1m0, k1m1, k1m2]
  instanceTypes := #[]
  staticTypes := #[]
  resolved := Array.replicate 34 none
  statics := none }

def pool2 : Array CpInfo := pool [(1, .methodref 2 3), (0, .class_ 4), (0, .nameAndType 5 6), (0, u "java/lang/Object"), (0, u "<init>"), (0, u "()V"), (0, .class_ 8), (0, u "java/lang/Record")] 13

def k2c0 : Code := { maxStack := 1, maxLocals := 1, code := jdk_30_method_1_code, exceptionTable := #[], attributes := #[] }
def k2m0 : Method := { name := "<init>", desc := "()V", sig := { parameters := [], returnType := none }, accessFlags := 4, code := some k2c0 }
/-- java/lang/Record -/
def k2 : Class := { plain "java/lang/Record" (some 0) with
  accessFlags := 1057
  interfaces := #[]
  cf := some (fileOf pool2 7 #[] #[{ accessFlags := 4, nameIndex := 5, descriptorIndex := 6, attributes := #[] }] 1057 2 #[] #[])
  fields := #[]
  methods := #[k2m0]
  instanceTypes := #[]
  staticTypes := #[]
  resolved := Array.replicate 22 none
  statics := none }

def pool3 : Array CpInfo := pool [(1, .methodref 2 3), (0, .class_ 4), (0, .nameAndType 5 6), (0, u "java/lang/Record"), (0, u "<init>"), (0, u "()V"), (9, .fieldref 17 18), (0, .class_ 19), (0, .nameAndType 20 21), (0, u "com/example/gutter/gutter/layout/Rect"), (0, u "left"), (0, u "I"), (0, .fieldref 17 23), (0, .nameAndType 24 21), (0, u "top"), (0, .fieldref 17 26), (0, .nameAndType 27 21), (0, u "right"), (0, .fieldref 17 29), (0, .nameAndType 30 21), (0, u "bottom"), (15, u "(IIII)V"), (0, .methodref 17 48), (0, .nameAndType 49 50), (0, u "width"), (0, u "()I"), (0, .methodref 17 52), (0, .nameAndType 53 50), (0, u "height"), (25, u "hasArea"), (0, u "()Z")] 36

def k3c0 : Code := { maxStack := 6, maxLocals := 5, code := prog_6_method_1_code, exceptionTable := #[], attributes := #[] }
def k3m0 : Method := { name := "<init>", desc := "(IIII)V", sig := { parameters := [.int, .int, .int, .int], returnType := none }, accessFlags := 1, code := some k3c0 }
def k3c1 : Code := { maxStack := 2, maxLocals := 1, code := prog_6_method_4_code, exceptionTable := #[], attributes := #[] }
def k3m1 : Method := { name := "width", desc := "()I", sig := { parameters := [], returnType := some .int }, accessFlags := 1, code := some k3c1 }
def k3c2 : Code := { maxStack := 2, maxLocals := 1, code := prog_6_method_5_code, exceptionTable := #[], attributes := #[] }
def k3m2 : Method := { name := "height", desc := "()I", sig := { parameters := [], returnType := some .int }, accessFlags := 1, code := some k3c2 }
def k3c3 : Code := { maxStack := 1, maxLocals := 1, code := prog_6_method_7_code, exceptionTable := #[], attributes := #[] }
def k3m3 : Method := { name := "hasArea", desc := "()Z", sig := { parameters := [], returnType := some .boolean }, accessFlags := 1, code := some k3c3 }
/-- com/example/gutter/gutter/layout/Rect -/
def k3 : Class := { plain "com/example/gutter/gutter/layout/Rect" (some 2) with
  accessFlags := 49
  interfaces := #[]
  cf := some (fileOf pool3 17 #[] #[{ accessFlags := 1, nameIndex := 5, descriptorIndex := 46, attributes := #[] }, { accessFlags := 1, nameIndex := 49, descriptorIndex := 50, attributes := #[] }, { accessFlags := 1, nameIndex := 53, descriptorIndex := 50, attributes := #[] }, { accessFlags := 1, nameIndex := 79, descriptorIndex := 80, attributes := #[] }] 49 2 #[] #[{ accessFlags := 18, nameIndex := 20, descriptorIndex := 21, attributes := #[] }, { accessFlags := 18, nameIndex := 24, descriptorIndex := 21, attributes := #[] }, { accessFlags := 18, nameIndex := 27, descriptorIndex := 21, attributes := #[] }, { accessFlags := 18, nameIndex := 30, descriptorIndex := 21, attributes := #[] }])
  fields := #[{ name := "left", type := .int, accessFlags := 18, slot := 0, constantValue := 0 }, { name := "top", type := .int, accessFlags := 18, slot := 1, constantValue := 0 }, { name := "right", type := .int, accessFlags := 18, slot := 2, constantValue := 0 }, { name := "bottom", type := .int, accessFlags := 18, slot := 3, constantValue := 0 }]
  methods := #[k3m0, k3m1, k3m2, k3m3]
  instanceTypes := #[.int, .int, .int, .int]
  staticTypes := #[]
  resolved := Array.replicate 117 none
  statics := none }

def pool4 : Array CpInfo := pool [(1, u "java/lang/Cloneable"), (0, .class_ 1), (0, u "java/lang/Object"), (0, .class_ 3)] 3

/-- java/lang/Cloneable -/
def k4 : Class := { plain "java/lang/Cloneable" (some 0) with
  accessFlags := 1537
  interfaces := #[]
  cf := some (fileOf pool4 2 #[] #[] 1537 4 #[] #[])
  fields := #[]
  methods := #[]
  instanceTypes := #[]
  staticTypes := #[]
  resolved := Array.replicate 8 none
  statics := none }

def pool5 : Array CpInfo := pool [(1, u "java/io/Serializable"), (0, .class_ 1), (0, u "java/lang/Object"), (0, .class_ 3)] 3

/-- java/io/Serializable -/
def k5 : Class := { plain "java/io/Serializable" (some 0) with
  accessFlags := 1537
  interfaces := #[]
  cf := some (fileOf pool5 2 #[] #[] 1537 4 #[] #[])
  fields := #[]
  methods := #[]
  instanceTypes := #[]
  staticTypes := #[]
  resolved := Array.replicate 8 none
  statics := none }

/-- the primitive byte -/
def k6 : Class := { plain "byte" none with kind := .primitive 'B', accessFlags := 0x411 }
/-- [B -/
def k7 : Class := { plain "[B" (some 0) with kind := .array 6 .byte, interfaces := #[4, 5], accessFlags := 1041 }

/-- the primitive int -/
def k8 : Class := { plain "int" none with kind := .primitive 'I', accessFlags := 0x411 }
/-- [I -/
def k9 : Class := { plain "[I" (some 0) with kind := .array 8 .int, interfaces := #[4, 5], accessFlags := 1041 }

def heap : Heap := #[]
def classes : Array Class := #[k0, k1, k2, k3, k4, k5, k6, k7, k8, k9]
def interned : List (Array UInt16 × Addr) := []
def slotsUsed : Nat := 0
def theMethod : MethodId := ⟨1, 2⟩
def args0 : Array Value := #[.int 5, .int 6, .int 7, .int 8, .int 9]
def aboutOver (below : List Frame) : State where
  vm := { classes := classes, interned := interned.toArray }
  heap := heap
  slotsUsed := slotsUsed
  threads := #[{ frames := .invoking theMethod args0 :: below }]
def below0 : List Frame := [.native { method := ⟨0, 0⟩, args := #[] }]
def about1 : State := aboutOver below0
def p0 : Program := .bare "" "" ""
def e0 : Env := launch0.env 0 0 0
theorem w_frames : about1.frames = Frame.invoking theMethod args0 :: below0 := rfl
set_option maxRecDepth 65536 in
theorem w_args : argsFit about1.vm theMethod args0 = true := by decide +kernel
set_option maxRecDepth 65536 in
theorem w_heap : heapFits about1 = true := by decide +kernel
set_option maxRecDepth 65536 in
theorem w_runnable : about1.curStatus? = some .runnable := by decide +kernel
set_option maxRecDepth 65536 in
theorem w_alone : about1.alone = true := by decide +kernel
set_option maxRecDepth 65536 in
theorem w_named : about1.methodNamed? x = some theMethod := by decide +kernel
set_option maxRecDepth 65536 in
theorem w_hears : about1.hears theMethod below0 = true := by decide +kernel
set_option maxRecDepth 65536 in
theorem w_ripe : about1.ripe theMethod args0 below0 = true := by decide +kernel
theorem w_running : about1.status = .running := rfl
set_option maxRecDepth 65536 in
theorem w_room : about1.hasRoom e0.platform room_1 = true :=
  launch0.hasRoom_least _ room_1 (by decide +kernel) (by decide +kernel) (by decide +kernel) (by decide +kernel) (by decide +kernel) (by decide +kernel)
theorem allAtoms_all (ts : List Jvm.Cond) (a : Array Jvm.Value) (st : Jvm.State) : (allAtoms ts).before a st = ts.all (fun c => c.before a st) := by
  induction ts with
  | nil => rfl
  | cons c t ih =>
    show (Jvm.Cond.and c (allAtoms t)).before a st = _
    rw [Jvm.Cond.before_and, ih, List.all_cons]
def words1 : List Jvm.Cond := Jvm.Cond.code x code maxLocals ret :: tables_1
/-- a 'code' word, met by the world's own term for the bytes: nothing is compared byte by byte -/
theorem code_word {y : MethodName} {bytes : ByteArray} {mx : Nat} {rt : Option FieldType} {a : Array Value} {s : State} {m : MethodId} {meth : Method} {c : Code} (h1 : s.methodNamed? y = some m) (h2 : s.vm.method? m = some meth) (h3 : meth.code = some c) (h4 : c.code = bytes)
    (h5 : (c.maxLocals == mx && c.exceptionTable.isEmpty && decide (c.maxStack ≤ mostOperands) && decide (meth.sig.returnType = rt) && !meth.locks && decide (parseMethodDescriptor y.desc = some meth.sig)) = true) : (Jvm.Cond.code y bytes mx rt).before a s = true := by
  simp only [Bool.and_eq_true, beq_iff_eq, Bool.not_eq_true', decide_eq_true_eq] at h5
  obtain ⟨⟨⟨⟨⟨g1, g2⟩, g3⟩, g4⟩, g5⟩, g6⟩ := h5
  simp [Cond.before, Cond.holds, Cond.value, h1, h2, h3, h4, g1, g2, g3, g4, g5, g6]
def isCode : Jvm.Cond → Bool
  | .code _ _ _ _ => true
  | _ => false
theorem all_split {L : List Jvm.Cond} {P : Jvm.Cond → Bool} (h1 : L.all (fun c => isCode c || P c) = true) (h2 : ∀ c ∈ L.filter isCode, P c = true) : L.all P = true := by
  refine List.all_eq_true.mpr fun c hc => ?_
  have h := List.all_eq_true.mp h1 c hc
  rcases Bool.eq_false_or_eq_true (isCode c) with hi | hi
  · exact h2 c (List.mem_filter.mpr ⟨hc, hi⟩)
  · simpa [hi] using h
set_option maxRecDepth 65536 in
theorem w_c0 : (Jvm.Cond.code x code maxLocals ret).before args0 about1 = true := code_word (m := ⟨1, 2⟩) (meth := k1m2) (c := k1c2) (by decide +kernel) rfl rfl rfl (by decide +kernel)
set_option maxRecDepth 65536 in
theorem w_c1 : (Jvm.Cond.code ({ cls := "com/example/gutter/gutter/layout/RectHasAreaPinLaw", name := "extent", desc := "(IZ)I" } : Jvm.MethodName) method_2_code (2 : Nat) (Option.some Jvm.ClassFile.FieldType.int)).before args0 about1 = true := code_word (m := ⟨1, 1⟩) (meth := k1m1) (c := k1c1) (by decide +kernel) rfl rfl rfl (by decide +kernel)
set_option maxRecDepth 65536 in
theorem w_c2 : (Jvm.Cond.code ({ cls := "com/example/gutter/gutter/layout/Rect", name := "<init>", desc := "(IIII)V" } : Jvm.MethodName) prog_6_method_1_code (5 : Nat) (Option.none : Option Jvm.ClassFile.FieldType)).before args0 about1 = true := code_word (m := ⟨3, 0⟩) (meth := k3m0) (c := k3c0) (by decide +kernel) rfl rfl rfl (by decide +kernel)
set_option maxRecDepth 65536 in
theorem w_c3 : (Jvm.Cond.code ({ cls := "java/lang/Record", name := "<init>", desc := "()V" } : Jvm.MethodName) jdk_30_method_1_code (1 : Nat) (Option.none : Option Jvm.ClassFile.FieldType)).before args0 about1 = true := code_word (m := ⟨2, 0⟩) (meth := k2m0) (c := k2c0) (by decide +kernel) rfl rfl rfl (by decide +kernel)
set_option maxRecDepth 65536 in
theorem w_c4 : (Jvm.Cond.code ({ cls := "java/lang/Object", name := "<init>", desc := "()V" } : Jvm.MethodName) object_method_1_code (1 : Nat) (Option.none : Option Jvm.ClassFile.FieldType)).before args0 about1 = true := code_word (m := ⟨0, 0⟩) (meth := k0m0) (c := k0c0) (by decide +kernel) rfl rfl rfl (by decide +kernel)
set_option maxRecDepth 65536 in
theorem w_c5 : (Jvm.Cond.code ({ cls := "com/example/gutter/gutter/layout/Rect", name := "hasArea", desc := "()Z" } : Jvm.MethodName) prog_6_method_7_code (1 : Nat) (Option.some Jvm.ClassFile.FieldType.boolean)).before args0 about1 = true := code_word (m := ⟨3, 3⟩) (meth := k3m3) (c := k3c3) (by decide +kernel) rfl rfl rfl (by decide +kernel)
set_option maxRecDepth 65536 in
theorem w_c6 : (Jvm.Cond.code ({ cls := "com/example/gutter/gutter/layout/Rect", name := "width", desc := "()I" } : Jvm.MethodName) prog_6_method_4_code (1 : Nat) (Option.some Jvm.ClassFile.FieldType.int)).before args0 about1 = true := code_word (m := ⟨3, 1⟩) (meth := k3m1) (c := k3c1) (by decide +kernel) rfl rfl rfl (by decide +kernel)
set_option maxRecDepth 65536 in
theorem w_c7 : (Jvm.Cond.code ({ cls := "com/example/gutter/gutter/layout/Rect", name := "height", desc := "()I" } : Jvm.MethodName) prog_6_method_5_code (1 : Nat) (Option.some Jvm.ClassFile.FieldType.int)).before args0 about1 = true := code_word (m := ⟨3, 2⟩) (meth := k3m2) (c := k3c2) (by decide +kernel) rfl rfl rfl (by decide +kernel)
def codes1 : List Jvm.Cond := [Jvm.Cond.code x code maxLocals ret, Jvm.Cond.code ({ cls := "com/example/gutter/gutter/layout/RectHasAreaPinLaw", name := "extent", desc := "(IZ)I" } : Jvm.MethodName) method_2_code (2 : Nat) (Option.some Jvm.ClassFile.FieldType.int), Jvm.Cond.code ({ cls := "com/example/gutter/gutter/layout/Rect", name := "<init>", desc := "(IIII)V" } : Jvm.MethodName) prog_6_method_1_code (5 : Nat) (Option.none : Option Jvm.ClassFile.FieldType), Jvm.Cond.code ({ cls := "java/lang/Record", name := "<init>", desc := "()V" } : Jvm.MethodName) jdk_30_method_1_code (1 : Nat) (Option.none : Option Jvm.ClassFile.FieldType), Jvm.Cond.code ({ cls := "java/lang/Object", name := "<init>", desc := "()V" } : Jvm.MethodName) object_method_1_code (1 : Nat) (Option.none : Option Jvm.ClassFile.FieldType), Jvm.Cond.code ({ cls := "com/example/gutter/gutter/layout/Rect", name := "hasArea", desc := "()Z" } : Jvm.MethodName) prog_6_method_7_code (1 : Nat) (Option.some Jvm.ClassFile.FieldType.boolean), Jvm.Cond.code ({ cls := "com/example/gutter/gutter/layout/Rect", name := "width", desc := "()I" } : Jvm.MethodName) prog_6_method_4_code (1 : Nat) (Option.some Jvm.ClassFile.FieldType.int), Jvm.Cond.code ({ cls := "com/example/gutter/gutter/layout/Rect", name := "height", desc := "()I" } : Jvm.MethodName) prog_6_method_5_code (1 : Nat) (Option.some Jvm.ClassFile.FieldType.int)]
set_option maxRecDepth 65536 in
theorem codes_eq : words1.filter isCode = codes1 := rfl
theorem w_codes : ∀ c ∈ words1.filter isCode, c.before args0 about1 = true := by
  rw [codes_eq]
  intro c hc
  simp only [codes1, List.mem_cons, List.not_mem_nil, or_false] at hc
  rcases hc with rfl | rfl | rfl | rfl | rfl | rfl | rfl | rfl
  · exact w_c0
  · exact w_c1
  · exact w_c2
  · exact w_c3
  · exact w_c4
  · exact w_c5
  · exact w_c6
  · exact w_c7
set_option maxRecDepth 65536 in
theorem w_t1 : (words1.take 24).all (fun c => isCode c || c.before args0 about1) = true := by decide +kernel
set_option maxRecDepth 65536 in
theorem w_t2 : (words1.drop 24).all (fun c => isCode c || c.before args0 about1) = true := by decide +kernel
theorem w_tables : (allAtoms (Jvm.Cond.code x code maxLocals ret :: tables_1)).before args0 about1 = true := by
  rw [allAtoms_all]
  show words1.all (fun c => c.before args0 about1) = true
  refine all_split ?_ w_codes
  rw [← List.take_append_drop 24 words1, List.all_append, w_t1, w_t2]
  rfl
set_option maxRecDepth 65536 in
theorem w_case : (Jvm.Cond.and given_1 narrow_1).before args0 about1 = true := by decide +kernel
theorem w_applies : (headSpec (Jvm.Cond.code x code maxLocals ret :: tables_1) room_1).applies x e0.platform about1 = true :=
  (Spec.applies_iff w_frames).mpr ⟨w_running, w_runnable, w_alone, w_named, w_hears, w_ripe, w_room, w_tables⟩
theorem atStart : AtStart classFile x code maxLocals ret World_1 tables_1 room_1 Calls_1 rest_1 Pre_1 launch0 p0 e0 about1 theMethod args0 below0 :=
  ⟨lists_1, trivial, launch0.admits_env _ _ _, launch0.least_env, fairChoices_fair.cas, fairChoices_fair.clock, w_frames, w_args, w_heap, w_applies, trivial, trivial, w_case⟩
end start1
theorem witness_1 : WitnessClaimed_1 := ⟨start1.p0, start1.e0, start1.about1, start1.theMethod, start1.args0, start1.below0, start1.atStart⟩
end Jvm.Pilot.@@N@@
