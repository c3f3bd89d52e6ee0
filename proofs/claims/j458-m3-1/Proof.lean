import JvmDerived
import JvmDerived.Pilot.@@N@@Statement
import JvmDerived.Pilot.@@N@@Code
set_option linter.unusedVariables false
set_option linter.unusedSimpArgs false
namespace Jvm.RoadKit
open Sem ClassFile Op Lib Jvm.Stand Jvm.Free Jvm.LawKit
section New
variable {p : Program} {l : Launch} {e : Env} {R : Room} {s : State} {m : MethodId} {args : Array Value} {below : List Frame} {meth : Method} {c : Code} {T : State} {locs : List Loc} {cells slots : Nat}
theorem retI (X : Stand p l e R s m args below meth c T locs cells slots) (hx : p.tables.exec = Jvm.exec) {pc : Nat} {Ls : Array Slot} {z : Int32} {rest : List Value} (hret : meth.sig.returnType = some .int) (hd : decode c.code pc = .ok (.ireturn, 1)) {fs : List Frame}
    (hl : ∀ (f : JFrame) (acts : List Action), f.method = m → f.locked = none → f.entered = [] → (doReturn e (T.setTop f) acts (some (.int z))).1 = T.setFrames fs) : Steps p.tables e below (T.setTop (mkF m pc Ls (.int z :: rest))) (T.setFrames fs) := by
  have hm' : T.vm.method? m = some meth := X.method'
  have hn : narrow .int (.int z) = .int z := rfl
  show Steps p.tables e below (T.setTop { method := m, pc := pc, locals := Ls, stack := _ :: rest, locked := none }) _
  jvm_step X.here [X.here.top, hx, hd, hm', hret, hn]
  first | (intro acts; rw [hl _ acts rfl rfl rfl]) | rw [hl _ _ rfl rfl rfl]
  exact Steps.refl _
end New
end Jvm.RoadKit
namespace Jvm.Pilot.@@N@@
open Jvm Jvm.ClassFile Sem Op Lib Jvm.Free Jvm.Stand Jvm.LawKit Jvm.RoadKit Bundle Jvm.Pilot.@@N@@.Jvm.D
theorem own_fld {s : State} {args : Array Value} {t : Term} {x : Addr} {C n d : String} {k : Int32} (ev : t.eval args s none [] s = some (.ref x)) (h : (Jvm.Cond.eq (.field t C n d) (.int k)).value args s none s [] = some true) : Fld s s.heap x C n d (.int k) := by
  have hf := fld_at (C := C) (n := n) (dd := d) ev
  have hk : (Term.int k).eval args s none [] s = some (.int k) := Term.int_eval k
  cases hq : s.fieldOf? x C n d with
  | none => rw [hq] at hf; simp [Cond.value, hf] at h
  | some v =>
    rw [hq] at hf
    cases v <;> simp [Cond.value, hf, hk] at h
    subst h
    exact Fld.start hq
def upd (f : Int32 → Int32) (j v : Int32) : Int32 → Int32 := fun k => if k = j then v else f k
def Ia (Z : State) (h : Heap) (a : Addr) (ty : FieldType) (n : Int32) (f : Int32 → Int32) : Prop := ∃ c : Cell, Arr Z h a c ty ∧ c.slots.size = n.toNatClampNeg ∧ ¬ n < 0 ∧ ∀ j : Int32, ¬ j < 0 → j < n → c.slots[j.toNatClampNeg]? = some (.int (f j))
section OwnIa
variable {Z : State} {h h' : Heap} {a b : Addr} {ty : FieldType} {n j x : Int32} {f : Int32 → Int32} {sl : Nat} {v : Value} {ws : List Addr}
theorem own_ext (K : Keep h h' []) : Ext h h' := ⟨K.1, fun a c q => K.2.1 a c q nin0⟩
theorem Ia.lt (F : Ia Z h a ty n f) : a < h.size := by obtain ⟨c, A, -⟩ := F; exact A.lt
theorem Ia.ext (F : Ia Z h a ty n f) (E : Ext h h') : Ia Z h' a ty n f := by obtain ⟨c, A, r⟩ := F; exact ⟨c, A.ext E, r⟩
theorem Ia.other (F : Ia Z h b ty n f) (W : Wr h h' a sl v) (q : b ≠ a) : Ia Z h' b ty n f := by obtain ⟨c, A, r⟩ := F; exact ⟨c, A.other W q, r⟩
theorem Ia.keep (F : Ia Z h a ty n f) (K : Keep h h' ws) (q : a ∉ ws) : Ia Z h' a ty n f := by obtain ⟨c, A, r⟩ := F; exact ⟨c, ⟨K.2.1 a c A.1 q, A.2⟩, r⟩
theorem Ia.at (F : Ia Z h a ty n f) (q : ¬ j < 0 ∧ j < n) : ∃ c : Cell, Arr Z h a c ty ∧ ¬ (j < 0 ∨ c.slots.size ≤ j.toNatClampNeg) ∧ c.slots[j.toNatClampNeg]? = some (.int (f j)) := by
  obtain ⟨c, A, S, N, G⟩ := F
  exact ⟨c, A, inb_of S q, G j q.1 q.2⟩
theorem Ia.len (F : Ia Z h a ty n f) : ∃ c : Cell, Arr Z h a c ty ∧ c.slots.size = n.toNatClampNeg ∧ ¬ n < 0 := by
  obtain ⟨c, A, S, N, G⟩ := F
  exact ⟨c, A, S, N⟩
theorem Ia.new {k : ClassId} (A : Arr Z h a (newA k ty n) ty) (q : ¬ n < 0) (e : defaultValue ty = .int 0) : Ia Z h a ty n (fun _ => 0) :=
  ⟨_, A, sz_new _ _ _, q, fun j h1 h2 => by
    have hi := inb_of (sz_new k ty n) ⟨h1, h2⟩
    rw [sz_new] at hi
    rw [get_new hi, e]⟩
theorem Ia.set (F : Ia Z h a ty n f) (W : Wr h h' a j.toNatClampNeg (.int x)) (hj : ¬ j < 0) : Ia Z h' a ty n (upd f j x) := by
  obtain ⟨c, A, S, N, G⟩ := F
  refine ⟨_, A.same W, by rw [sz_set]; exact S, N, fun k h1 h2 => ?_⟩
  by_cases e : k = j
  · subst e
    rw [get_hit (inb_of S ⟨h1, h2⟩) rfl]
    exact congrArg (fun z => some (Value.int z)) (if_pos rfl).symm
  · rw [get_miss hj h1 e, G k h1 h2]
    exact congrArg (fun z => some (Value.int z)) (if_neg e).symm
theorem own_nea {C : String} {a0 : Array Value} {k : Nat} (F : Exa Z h a C) (wi : (Jvm.Cond.instantiable C k).before a0 Z = true) (G : Ia Z h b ty n f) : a ≠ b := by
  obtain ⟨c, A, -⟩ := G
  exact ne_arr F wi A
theorem Ia.congr {g : Int32 → Int32} (F : Ia Z h a ty n f) (q : ∀ j : Int32, ¬ j < 0 → j < n → f j = g j) : Ia Z h a ty n g := by
  obtain ⟨c, A, S, N, G⟩ := F
  exact ⟨c, A, S, N, fun k h1 h2 => by rw [← q k h1 h2]; exact G k h1 h2⟩
end OwnIa
-- body 1: java/lang/Math.max(II)I
theorem d1_0 : decode jdk_29_method_65_code 0 = .ok (.iload_n 0, 1) := by decide +kernel
theorem d1_1 : decode jdk_29_method_65_code 1 = .ok (.iload_n 1, 1) := by decide +kernel
theorem d1_2 : decode jdk_29_method_65_code 2 = .ok (.if_icmp .lt 7, 3) := by decide +kernel
theorem d1_5 : decode jdk_29_method_65_code 5 = .ok (.iload_n 0, 1) := by decide +kernel
theorem d1_6 : decode jdk_29_method_65_code 6 = .ok (.goto 4, 3) := by decide +kernel
theorem d1_9 : decode jdk_29_method_65_code 9 = .ok (.iload_n 1, 1) := by decide +kernel
theorem d1_10 : decode jdk_29_method_65_code 10 = .ok (.ireturn, 1) := by decide +kernel
theorem ef_1 (m : MethodId) (p1 : Int32) (p2 : Int32) : entryFrame m #[(.int p1), (.int p2)] 2 = mkF m 0 #[.val (.int p1), .val (.int p2)] [] := by first | (simp [entryFrame, mkF, argsToLocals, Value.category]; done) | rfl
def f1 (p1 : Int32) (p2 : Int32) : Int32 := (if p1 < p2 then p2 else p1)
def Q1 (Z : State) (p1 : Int32) (p2 : Int32) (h0 : Heap) (n0 : Nat) (v : Option Value) (h : Heap) (L : List Loc) : Prop := v = some (.int (f1 p1 p2)) ∧ Fr n0 L ∧ h = h0
set_option maxRecDepth 65536 in
set_option maxHeartbeats 40000000 in
theorem rm1 (l : Launch) (Z : State) (a0 : Array Value) (hw : ∀ d ∈ tables_1, d.before a0 Z = true) (ws : List Jvm.Cond) (p1 : Int32) (p2 : Int32) (h0 : Heap) (n0 : Nat) (Z0 : n0 ≤ h0.size) :
    MetFree l (⟨"java/lang/Math", "max", "(II)I"⟩ : MethodName) (head1 (Jvm.Cond.code (⟨"java/lang/Math", "max", "(II)I"⟩ : MethodName) jdk_29_method_65_code 2 (some .int) :: ws) ({ frames := 0, cells := 0, slots := 0, locals := 0 } : Room)) (fun a U => a = #[(.int p1), (.int p2)] ∧ Z.Warmed39 U.vm ∧ U.heap = h0) (fun _ _ _ _ _ => True) (fun _ U o U' => ∃ v L, o = .returned v ∧ Q1 Z p1 p2 h0 n0 v U'.heap L ∧ FrameEnd U o U' L ({ frames := 0, cells := 0, slots := 0, locals := 0 } : Room).cells ({ frames := 0, cells := 0, slots := 0, locals := 0 } : Room).slots) := by
  refine MetFree.of_bodySF (Jvm.Free.JP.mathPlain rfl (by decide +kernel)) hisR ?_
  intro p e s m args below meth c s₁ Bd hml0 hP hK
  obtain ⟨rfl, hZ, hh⟩ := hP
  have hx := Bd.exec
  have hby := Bd.bytes
  have hml : c.maxLocals = 2 := hml0
  have hown : s.vm.findClass "java/lang/Math" = some m.cls := findClass_of_methodNamed Bd.named
  have hnm := (name_of_methodNamed Bd.named Bd.method).1
  have X0 : Stand p l e ({ frames := 0, cells := 0, slots := 0, locals := 0 } : Room) s m #[(.int p1), (.int p2)] below meth c s₁ [] 0 0 := Stand.of_body Bd
  have e0 : s₁.heap = h0 := by rw [← hh, Bd.state]; rfl
  have N0 := Fr.nil n0
  have pre0 : ∀ t, Steps p.tables e below (s₁.setTop (mkF m 0 #[.val (.int p1), .val (.int p2)] [])) t → Steps p.tables e below (s₁.setTop (entryFrame m #[(.int p1), (.int p2)] 2)) t := fun t k => castTop (ef_1 m p1 p2) k
  have K1 : ∀ t, Steps p.tables e below (s₁.setTop (mkF m 2 #[.val (.int p1), .val (.int p2)] [(.int p2), (.int p1)])) t → Steps p.tables e below (s₁.setTop (mkF m 0 #[.val (.int p1), .val (.int p2)] [])) t := by
    intro t k
    refine XS.iloadN X0.here hx rfl (hb hby d1_0) rfl ?_
    show Steps p.tables e below (s₁.setTop (mkF m 1 #[.val (.int p1), .val (.int p2)] [(.int p1)])) t
    refine XS.iloadN X0.here hx rfl (hb hby d1_1) rfl ?_
    show Steps p.tables e below (s₁.setTop (mkF m 2 #[.val (.int p1), .val (.int p2)] [(.int p2), (.int p1)])) t
    exact k
  by_cases hc2 : p1 < p2
  · have K3 : ∀ t, Steps p.tables e below (s₁.setTop (mkF m 9 #[.val (.int p1), .val (.int p2)] [])) t → Steps p.tables e below (s₁.setTop (mkF m 2 #[.val (.int p1), .val (.int p2)] [(.int p2), (.int p1)])) t := by
      intro t k
      refine XS.icmpYes X0.here hx rfl (pc0 := 2) (pc' := 9) rfl (hb hby d1_2) rfl (tlt hc2).1 (by decide) (by decide) ?_
      exact k
    have K4 : ∀ t, Steps p.tables e below (s₁.setTop (mkF m 10 #[.val (.int p1), .val (.int p2)] [(.int p2)])) t → Steps p.tables e below (s₁.setTop (mkF m 9 #[.val (.int p1), .val (.int p2)] [])) t := by
      intro t k
      refine XS.iloadN X0.here hx rfl (hb hby d1_9) rfl ?_
      show Steps p.tables e below (s₁.setTop (mkF m 10 #[.val (.int p1), .val (.int p2)] [(.int p2)])) t
      exact k
    obtain ⟨fs, hr, hrun, hended, hW, hsame⟩ := X0.leave (v := some (.int p2)) (fun h => by rw [Bd.returns] at h; cases h)
    refine ⟨_, _, pre0 _ (K1 _ (K3 _ (K4 _ (retI X0 hx Bd.returns (hb hby d1_10) hr)))), hrun, hended, _, _, rfl, ?_, ⟨_, rfl⟩, hW, hsame.mono (by decide) (by decide)⟩
    show Q1 Z p1 p2 h0 n0 _ s₁.heap _
    rw [e0]
    exact ⟨congrArg (fun z => some (Value.int z)) (show p2 = f1 p1 p2 from Eq.symm (if_pos hc2)), N0, rfl⟩
  · have K5 : ∀ t, Steps p.tables e below (s₁.setTop (mkF m 5 #[.val (.int p1), .val (.int p2)] [])) t → Steps p.tables e below (s₁.setTop (mkF m 2 #[.val (.int p1), .val (.int p2)] [(.int p2), (.int p1)])) t := by
      intro t k
      refine XS.icmpNo X0.here hx rfl (hb hby d1_2) rfl (flt hc2).1 ?_
      exact k
    have K6 : ∀ t, Steps p.tables e below (s₁.setTop (mkF m 10 #[.val (.int p1), .val (.int p2)] [(.int p1)])) t → Steps p.tables e below (s₁.setTop (mkF m 5 #[.val (.int p1), .val (.int p2)] [])) t := by
      intro t k
      refine XS.iloadN X0.here hx rfl (hb hby d1_5) rfl ?_
      show Steps p.tables e below (s₁.setTop (mkF m 6 #[.val (.int p1), .val (.int p2)] [(.int p1)])) t
      refine XS.goto X0.here hx rfl (pc0 := 6) (pc' := 10) rfl (hb hby d1_6) (by decide) (by decide) ?_
      show Steps p.tables e below (s₁.setTop (mkF m 10 #[.val (.int p1), .val (.int p2)] [(.int p1)])) t
      exact k
    obtain ⟨fs, hr, hrun, hended, hW, hsame⟩ := X0.leave (v := some (.int p1)) (fun h => by rw [Bd.returns] at h; cases h)
    refine ⟨_, _, pre0 _ (K1 _ (K5 _ (K6 _ (retI X0 hx Bd.returns (hb hby d1_10) hr)))), hrun, hended, _, _, rfl, ?_, ⟨_, rfl⟩, hW, hsame.mono (by decide) (by decide)⟩
    show Q1 Z p1 p2 h0 n0 _ s₁.heap _
    rw [e0]
    exact ⟨congrArg (fun z => some (Value.int z)) (show p1 = f1 p1 p2 from Eq.symm (if_neg hc2)), N0, rfl⟩
theorem own_max (a b : Int32) : ¬ f1 a b < a := by
  unfold f1
  split
  · exact fun q => Int32.lt_irrefl (Int32.lt_trans q ‹_›)
  · exact Int32.lt_irrefl
-- body 3: java/lang/Record.<init>()V
theorem d3_0 : decode jdk_30_method_1_code 0 = .ok (.aload_n 0, 1) := by decide +kernel
theorem d3_1 : decode jdk_30_method_1_code 1 = .ok (.invokespecial 1, 3) := by decide +kernel
theorem d3_4 : decode jdk_30_method_1_code 4 = .ok (.return_, 1) := by decide +kernel
theorem pn_3 : plainName "java/lang/Record" = true := by first | (simp [plainName, overriddenIn]; done) | decide +kernel
theorem ef_3 (m : MethodId) (a1 : Addr) : entryFrame m #[(.ref a1)] 1 = mkF m 0 #[.val (.ref a1)] [] := by first | (simp [entryFrame, mkF, argsToLocals, Value.category]; done) | rfl
def Q3 (Z : State) (a1 : Addr) (h0 : Heap) (n0 : Nat) (v : Option Value) (h : Heap) (L : List Loc) : Prop := v = none ∧ Fr n0 L ∧ h = h0
set_option maxRecDepth 65536 in
set_option maxHeartbeats 40000000 in
theorem rm3 (l : Launch) (Z : State) (a0 : Array Value) (hw : ∀ d ∈ tables_1, d.before a0 Z = true) (ws : List Jvm.Cond) (a1 : Addr) (h0 : Heap) (n0 : Nat) (Z0 : n0 ≤ h0.size) :
    MetFree l (⟨"java/lang/Record", "<init>", "()V"⟩ : MethodName) (head1 (Jvm.Cond.code (⟨"java/lang/Record", "<init>", "()V"⟩ : MethodName) jdk_30_method_1_code 1 none :: ws) ({ frames := 1, cells := 0, slots := 0, locals := 12 } : Room)) (fun a U => a = #[(.ref a1)] ∧ Z.Warmed39 U.vm ∧ U.heap = h0) (fun _ _ _ _ _ => True) (fun _ U o U' => ∃ v L, o = .returned v ∧ Q3 Z a1 h0 n0 v U'.heap L ∧ FrameEnd U o U' L ({ frames := 1, cells := 0, slots := 0, locals := 12 } : Room).cells ({ frames := 1, cells := 0, slots := 0, locals := 12 } : Room).slots) := by
  refine MetFree.of_bodySF (plainFor_of_name pn_3) hisR ?_
  intro p e s m args below meth c s₁ Bd hml0 hP hK
  obtain ⟨rfl, hZ, hh⟩ := hP
  have hx := Bd.exec
  have hby := Bd.bytes
  have hml : c.maxLocals = 1 := hml0
  have hown : s.vm.findClass "java/lang/Record" = some m.cls := findClass_of_methodNamed Bd.named
  have hnm := (name_of_methodNamed Bd.named Bd.method).1
  have X0 : Stand p l e ({ frames := 1, cells := 0, slots := 0, locals := 12 } : Room) s m #[(.ref a1)] below meth c s₁ [] 0 0 := Stand.of_body Bd
  have e0 : s₁.heap = h0 := by rw [← hh, Bd.state]; rfl
  have N0 := Fr.nil n0
  have pre0 : ∀ t, Steps p.tables e below (s₁.setTop (mkF m 0 #[.val (.ref a1)] [])) t → Steps p.tables e below (s₁.setTop (entryFrame m #[(.ref a1)] 1)) t := fun t k => castTop (ef_3 m a1) k
  have K1 : ∀ t, Steps p.tables e below (s₁.setTop (mkF m 1 #[.val (.ref a1)] [(.ref a1)])) t → Steps p.tables e below (s₁.setTop (mkF m 0 #[.val (.ref a1)] [])) t := by
    intro t k
    refine XS.aloadN X0.here hx rfl (hb hby d3_0) rfl rfl ?_
    show Steps p.tables e below (s₁.setTop (mkF m 1 #[.val (.ref a1)] [(.ref a1)])) t
    exact k
  obtain ⟨T2, X2, e2, st2⟩ := initO X0 hx hZ hown (hw _ (List.mem_of_getElem? (i := 15) rfl)) (hw _ (List.mem_of_getElem? (i := 16) rfl)) (hw _ (List.mem_of_getElem? (i := 17) rfl)) e0 (g := (mkF m 1 #[.val (.ref a1)] [(.ref a1)])) rfl (by rw [hml]; rfl) rfl (hb hby d3_1) (by decide) (W := 0) (by show 2 * 0 + _ ≤ _; exact Nat.le_of_eq rfl) (by decide)
  have K3 : ∀ t, Steps p.tables e below (T2.setTop (mkF m 4 #[.val (.ref a1)] [])) t → Steps p.tables e below (s₁.setTop (mkF m 1 #[.val (.ref a1)] [(.ref a1)])) t := fun t k => st2 _ k
  obtain ⟨fs, hr, hrun, hended, hW, hsame⟩ := X2.leave (v := none) (fun _ => rfl)
  refine ⟨_, _, pre0 _ (K1 _ (K3 _ (X2.returnOut hx Bd.returns (hb hby d3_4) hr))), hrun, hended, _, _, rfl, ?_, ⟨_, rfl⟩, hW, hsame.mono (by decide) (by decide)⟩
  show Q3 Z a1 h0 n0 _ T2.heap _
  rw [e2]
  exact ⟨rfl, N0, rfl⟩
-- body 2: com/example/gutter/gutter/layout/Rect.<init>(IIII)V
theorem d2_0 : decode prog_6_method_1_code 0 = .ok (.aload_n 0, 1) := by decide +kernel
theorem d2_1 : decode prog_6_method_1_code 1 = .ok (.invokespecial 1, 3) := by decide +kernel
theorem d2_4 : decode prog_6_method_1_code 4 = .ok (.iload_n 3, 1) := by decide +kernel
theorem d2_5 : decode prog_6_method_1_code 5 = .ok (.iload_n 1, 1) := by decide +kernel
theorem d2_6 : decode prog_6_method_1_code 6 = .ok (.if_icmp .lt 9, 3) := by decide +kernel
theorem d2_9 : decode prog_6_method_1_code 9 = .ok (.iload 4, 2) := by decide +kernel
theorem d2_11 : decode prog_6_method_1_code 11 = .ok (.iload_n 2, 1) := by decide +kernel
theorem d2_12 : decode prog_6_method_1_code 12 = .ok (.if_icmp .ge 21, 3) := by decide +kernel
theorem d2_33 : decode prog_6_method_1_code 33 = .ok (.aload_n 0, 1) := by decide +kernel
theorem d2_34 : decode prog_6_method_1_code 34 = .ok (.iload_n 1, 1) := by decide +kernel
theorem d2_35 : decode prog_6_method_1_code 35 = .ok (.putfield 16, 3) := by decide +kernel
theorem d2_38 : decode prog_6_method_1_code 38 = .ok (.aload_n 0, 1) := by decide +kernel
theorem d2_39 : decode prog_6_method_1_code 39 = .ok (.iload_n 2, 1) := by decide +kernel
theorem d2_40 : decode prog_6_method_1_code 40 = .ok (.putfield 22, 3) := by decide +kernel
theorem d2_43 : decode prog_6_method_1_code 43 = .ok (.aload_n 0, 1) := by decide +kernel
theorem d2_44 : decode prog_6_method_1_code 44 = .ok (.iload_n 3, 1) := by decide +kernel
theorem d2_45 : decode prog_6_method_1_code 45 = .ok (.putfield 25, 3) := by decide +kernel
theorem d2_48 : decode prog_6_method_1_code 48 = .ok (.aload_n 0, 1) := by decide +kernel
theorem d2_49 : decode prog_6_method_1_code 49 = .ok (.iload 4, 2) := by decide +kernel
theorem d2_51 : decode prog_6_method_1_code 51 = .ok (.putfield 28, 3) := by decide +kernel
theorem d2_54 : decode prog_6_method_1_code 54 = .ok (.return_, 1) := by decide +kernel
theorem pn_2 : plainName "com/example/gutter/gutter/layout/Rect" = true := by first | (simp [plainName, overriddenIn]; done) | decide +kernel
theorem pd_2 : parseMethodDescriptor "()V" = some ⟨[], none⟩ := by decide +kernel
theorem ef_2 (m : MethodId) (a1 : Addr) (p2 : Int32) (p3 : Int32) (p4 : Int32) (p5 : Int32) : entryFrame m #[(.ref a1), (.int p2), (.int p3), (.int p4), (.int p5)] 5 = mkF m 0 #[.val (.ref a1), .val (.int p2), .val (.int p3), .val (.int p4), .val (.int p5)] [] := by first | (simp [entryFrame, mkF, argsToLocals, Value.category]; done) | rfl
def Q2 (Z : State) (a1 : Addr) (p2 : Int32) (p3 : Int32) (p4 : Int32) (p5 : Int32) (u_left_a1 : Value) (u_top_a1 : Value) (u_right_a1 : Value) (u_bottom_a1 : Value) (h0 : Heap) (n0 : Nat) (v : Option Value) (h : Heap) (L : List Loc) : Prop := v = none ∧ Fr n0 L ∧ Keep h0 h [a1] ∧ Exa Z h a1 "com/example/gutter/gutter/layout/Rect" ∧ Fld Z h a1 "com/example/gutter/gutter/layout/Rect" "left" "I" (.int p2) ∧ Fld Z h a1 "com/example/gutter/gutter/layout/Rect" "top" "I" (.int p3) ∧ Fld Z h a1 "com/example/gutter/gutter/layout/Rect" "right" "I" (.int p4) ∧ Fld Z h a1 "com/example/gutter/gutter/layout/Rect" "bottom" "I" (.int p5)
set_option maxRecDepth 65536 in
set_option maxHeartbeats 40000000 in
theorem rm2 (l : Launch) (Z : State) (a0 : Array Value) (hw : ∀ d ∈ tables_1, d.before a0 Z = true) (ws : List Jvm.Cond) (a1 : Addr) (p2 : Int32) (p3 : Int32) (p4 : Int32) (p5 : Int32) (u_left_a1 : Value) (u_top_a1 : Value) (u_right_a1 : Value) (u_bottom_a1 : Value) (h0 : Heap) (n0 : Nat) (Z0 : n0 ≤ h0.size) (hlr : ¬ p4 < p2) (htb : ¬ p5 < p3) (E_a1 : Exa Z h0 a1 "com/example/gutter/gutter/layout/Rect") (F_left_a1 : Fld Z h0 a1 "com/example/gutter/gutter/layout/Rect" "left" "I" u_left_a1) (g_a1 : n0 ≤ a1) (F_top_a1 : Fld Z h0 a1 "com/example/gutter/gutter/layout/Rect" "top" "I" u_top_a1) (F_right_a1 : Fld Z h0 a1 "com/example/gutter/gutter/layout/Rect" "right" "I" u_right_a1) (F_bottom_a1 : Fld Z h0 a1 "com/example/gutter/gutter/layout/Rect" "bottom" "I" u_bottom_a1) :
    MetFree l (⟨"com/example/gutter/gutter/layout/Rect", "<init>", "(IIII)V"⟩ : MethodName) (head1 (Jvm.Cond.code (⟨"com/example/gutter/gutter/layout/Rect", "<init>", "(IIII)V"⟩ : MethodName) prog_6_method_1_code 5 none :: ws) ({ frames := 2, cells := 0, slots := 0, locals := 24 } : Room)) (fun a U => a = #[(.ref a1), (.int p2), (.int p3), (.int p4), (.int p5)] ∧ Z.Warmed39 U.vm ∧ U.heap = h0) (fun _ _ _ _ _ => True) (fun _ U o U' => ∃ v L, o = .returned v ∧ Q2 Z a1 p2 p3 p4 p5 u_left_a1 u_top_a1 u_right_a1 u_bottom_a1 h0 n0 v U'.heap L ∧ FrameEnd U o U' L ({ frames := 2, cells := 0, slots := 0, locals := 24 } : Room).cells ({ frames := 2, cells := 0, slots := 0, locals := 24 } : Room).slots) := by
  refine MetFree.of_bodySF (plainFor_of_name pn_2) hisR ?_
  intro p e s m args below meth c s₁ Bd hml0 hP hK
  obtain ⟨rfl, hZ, hh⟩ := hP
  have hx := Bd.exec
  have hby := Bd.bytes
  have hml : c.maxLocals = 5 := hml0
  have hown : s.vm.findClass "com/example/gutter/gutter/layout/Rect" = some m.cls := findClass_of_methodNamed Bd.named
  have hnm := (name_of_methodNamed Bd.named Bd.method).1
  have X0 : Stand p l e ({ frames := 2, cells := 0, slots := 0, locals := 24 } : Room) s m #[(.ref a1), (.int p2), (.int p3), (.int p4), (.int p5)] below meth c s₁ [] 0 0 := Stand.of_body Bd
  have e0 : s₁.heap = h0 := by rw [← hh, Bd.state]; rfl
  have N0 := Fr.nil n0
  have pre0 : ∀ t, Steps p.tables e below (s₁.setTop (mkF m 0 #[.val (.ref a1), .val (.int p2), .val (.int p3), .val (.int p4), .val (.int p5)] [])) t → Steps p.tables e below (s₁.setTop (entryFrame m #[(.ref a1), (.int p2), (.int p3), (.int p4), (.int p5)] 5)) t := fun t k => castTop (ef_2 m a1 p2 p3 p4 p5) k
  have K1 : ∀ t, Steps p.tables e below (s₁.setTop (mkF m 1 #[.val (.ref a1), .val (.int p2), .val (.int p3), .val (.int p4), .val (.int p5)] [(.ref a1)])) t → Steps p.tables e below (s₁.setTop (mkF m 0 #[.val (.ref a1), .val (.int p2), .val (.int p3), .val (.int p4), .val (.int p5)] [])) t := by
    intro t k
    refine XS.aloadN X0.here hx rfl (hb hby d2_0) rfl rfl ?_
    show Steps p.tables e below (s₁.setTop (mkF m 1 #[.val (.ref a1), .val (.int p2), .val (.int p3), .val (.int p4), .val (.int p5)] [(.ref a1)])) t
    exact k
  obtain ⟨_, _, ⟨T2, L2, k2, n2⟩, -, X2, ⟨Lc2, hQ2, l2, y2, z2⟩, st2⟩ := X0.specialBack hx (y := (⟨"java/lang/Record", "<init>", "()V"⟩ : MethodName)) rfl hown (mvT hZ (hw _ (List.mem_of_getElem? (i := 10) rfl))) (mvT hZ (hw _ (List.mem_of_getElem? (i := 11) rfl))) (mvT hZ (hw _ (List.mem_of_getElem? (i := 14) rfl))) (by decide) (backOf (W := 0) (rm3 l Z a0 hw [] a1 h0 n0 Z0 ) hZ (hw _ (List.mem_of_getElem? (i := 14) rfl)) (hw _ (List.mem_of_getElem? (i := 13) rfl)) (by decide) (by decide)) (g := (mkF m 1 #[.val (.ref a1), .val (.int p2), .val (.int p3), .val (.int p4), .val (.int p5)] [(.ref a1)])) rfl (by rw [hml]; rfl) (Steps.refl _) (a := a1) (argsL := []) (rest := []) (lenOf pd_2 rfl) rfl (by show 2 * 0 + _ ≤ _; exact Nat.le_of_eq rfl) (hb hby d2_1) (fun _ _ => ⟨rfl, e0, (by decide : 0 + 0 ≤ _), (by decide : 0 + 0 ≤ _)⟩)
  dsimp only [Pt.U, Pt.locs, Pt.cells, Pt.slots] at X2 l2 y2 z2 st2 hQ2
  subst l2 y2 z2
  obtain ⟨rfl, N2q, e2⟩ := hQ2
  have N2 := Fr.app N0 N2q
  have K3 : ∀ t, Steps p.tables e below (T2.setTop (mkF m 4 #[.val (.ref a1), .val (.int p2), .val (.int p3), .val (.int p4), .val (.int p5)] [])) t → Steps p.tables e below (s₁.setTop (mkF m 1 #[.val (.ref a1), .val (.int p2), .val (.int p3), .val (.int p4), .val (.int p5)] [(.ref a1)])) t := fun t k => st2.trans k
  have K4 : ∀ t, Steps p.tables e below (T2.setTop (mkF m 6 #[.val (.ref a1), .val (.int p2), .val (.int p3), .val (.int p4), .val (.int p5)] [(.int p2), (.int p4)])) t → Steps p.tables e below (T2.setTop (mkF m 4 #[.val (.ref a1), .val (.int p2), .val (.int p3), .val (.int p4), .val (.int p5)] [])) t := by
    intro t k
    refine XS.iloadN X2.here hx rfl (hb hby d2_4) rfl ?_
    show Steps p.tables e below (T2.setTop (mkF m 5 #[.val (.ref a1), .val (.int p2), .val (.int p3), .val (.int p4), .val (.int p5)] [(.int p4)])) t
    refine XS.iloadN X2.here hx rfl (hb hby d2_5) rfl ?_
    show Steps p.tables e below (T2.setTop (mkF m 6 #[.val (.ref a1), .val (.int p2), .val (.int p3), .val (.int p4), .val (.int p5)] [(.int p2), (.int p4)])) t
    exact k
  have hc5 : ¬ (p4 < p2) := hlr
  have K6 : ∀ t, Steps p.tables e below (T2.setTop (mkF m 9 #[.val (.ref a1), .val (.int p2), .val (.int p3), .val (.int p4), .val (.int p5)] [])) t → Steps p.tables e below (T2.setTop (mkF m 6 #[.val (.ref a1), .val (.int p2), .val (.int p3), .val (.int p4), .val (.int p5)] [(.int p2), (.int p4)])) t := by
    intro t k
    refine XS.icmpNo X2.here hx rfl (hb hby d2_6) rfl (flt hc5).1 ?_
    exact k
  have K7 : ∀ t, Steps p.tables e below (T2.setTop (mkF m 12 #[.val (.ref a1), .val (.int p2), .val (.int p3), .val (.int p4), .val (.int p5)] [(.int p3), (.int p5)])) t → Steps p.tables e below (T2.setTop (mkF m 9 #[.val (.ref a1), .val (.int p2), .val (.int p3), .val (.int p4), .val (.int p5)] [])) t := by
    intro t k
    refine XS.iload X2.here hx rfl (hb hby d2_9) rfl ?_
    show Steps p.tables e below (T2.setTop (mkF m 11 #[.val (.ref a1), .val (.int p2), .val (.int p3), .val (.int p4), .val (.int p5)] [(.int p5)])) t
    refine XS.iloadN X2.here hx rfl (hb hby d2_11) rfl ?_
    show Steps p.tables e below (T2.setTop (mkF m 12 #[.val (.ref a1), .val (.int p2), .val (.int p3), .val (.int p4), .val (.int p5)] [(.int p3), (.int p5)])) t
    exact k
  have hc8 : ¬ (p5 < p3) := htb
  have K9 : ∀ t, Steps p.tables e below (T2.setTop (mkF m 33 #[.val (.ref a1), .val (.int p2), .val (.int p3), .val (.int p4), .val (.int p5)] [])) t → Steps p.tables e below (T2.setTop (mkF m 12 #[.val (.ref a1), .val (.int p2), .val (.int p3), .val (.int p4), .val (.int p5)] [(.int p3), (.int p5)])) t := by
    intro t k
    refine XS.icmpYes X2.here hx rfl (pc0 := 12) (pc' := 33) rfl (hb hby d2_12) rfl (flt hc8).2.1 (by decide) (by decide) ?_
    exact k
  have K10 : ∀ t, Steps p.tables e below (T2.setTop (mkF m 35 #[.val (.ref a1), .val (.int p2), .val (.int p3), .val (.int p4), .val (.int p5)] [(.int p2), (.ref a1)])) t → Steps p.tables e below (T2.setTop (mkF m 33 #[.val (.ref a1), .val (.int p2), .val (.int p3), .val (.int p4), .val (.int p5)] [])) t := by
    intro t k
    refine XS.aloadN X2.here hx rfl (hb hby d2_33) rfl rfl ?_
    show Steps p.tables e below (T2.setTop (mkF m 34 #[.val (.ref a1), .val (.int p2), .val (.int p3), .val (.int p4), .val (.int p5)] [(.ref a1)])) t
    refine XS.iloadN X2.here hx rfl (hb hby d2_34) rfl ?_
    show Steps p.tables e below (T2.setTop (mkF m 35 #[.val (.ref a1), .val (.int p2), .val (.int p3), .val (.int p4), .val (.int p5)] [(.int p2), (.ref a1)])) t
    exact k
  obtain ⟨T11, h11, X11, e11, W11, st11⟩ := putF X2 hx hZ hown (host := "") (Or.inl (hw _ (List.mem_of_getElem? (i := 18) rfl))) Via.refl e2 F_left_a1 E_a1 (Or.inr ⟨(hw _ (List.mem_of_getElem? (i := 19) rfl)), rfl, hnm⟩) (hw _ (List.mem_of_getElem? (i := 5) rfl)) (ty := .int) (by decide) rfl rfl (g := (mkF m 35 #[.val (.ref a1), .val (.int p2), .val (.int p3), .val (.int p4), .val (.int p5)] [(.int p2), (.ref a1)])) rfl rfl (hb hby d2_35)
  have KP11 : Keep h0 h11 [a1] := (Keep.refl h0 [a1]).wr W11 (Or.inl (List.mem_of_getElem? (i := 0) rfl))
  have N11 := Fr.snoc X11 N2 g_a1
  have E11_0 : Exa Z h11 a1 "com/example/gutter/gutter/layout/Rect" := E_a1.wr W11
  have F11_1 : Fld Z h11 a1 "com/example/gutter/gutter/layout/Rect" "top" "I" u_top_a1 := F_top_a1.other W11 (Or.inr (slot_ne (Or.inr (hw _ (List.mem_of_getElem? (i := 21) rfl))) (Or.inr (hw _ (List.mem_of_getElem? (i := 19) rfl))) (by decide) (t := .int) (t' := .int) (by decide) (by decide)))
  have F11_2 : Fld Z h11 a1 "com/example/gutter/gutter/layout/Rect" "right" "I" u_right_a1 := F_right_a1.other W11 (Or.inr (slot_ne (Or.inr (hw _ (List.mem_of_getElem? (i := 23) rfl))) (Or.inr (hw _ (List.mem_of_getElem? (i := 19) rfl))) (by decide) (t := .int) (t' := .int) (by decide) (by decide)))
  have F11_3 : Fld Z h11 a1 "com/example/gutter/gutter/layout/Rect" "bottom" "I" u_bottom_a1 := F_bottom_a1.other W11 (Or.inr (slot_ne (Or.inr (hw _ (List.mem_of_getElem? (i := 25) rfl))) (Or.inr (hw _ (List.mem_of_getElem? (i := 19) rfl))) (by decide) (t := .int) (t' := .int) (by decide) (by decide)))
  have Fw11 : Fld Z h11 a1 "com/example/gutter/gutter/layout/Rect" "left" "I" (.int p2) := F_left_a1.same W11
  have K12 : ∀ t, Steps p.tables e below (T11.setTop (mkF m 38 #[.val (.ref a1), .val (.int p2), .val (.int p3), .val (.int p4), .val (.int p5)] [])) t → Steps p.tables e below (T2.setTop (mkF m 35 #[.val (.ref a1), .val (.int p2), .val (.int p3), .val (.int p4), .val (.int p5)] [(.int p2), (.ref a1)])) t := fun t k => st11 _ k
  have K13 : ∀ t, Steps p.tables e below (T11.setTop (mkF m 40 #[.val (.ref a1), .val (.int p2), .val (.int p3), .val (.int p4), .val (.int p5)] [(.int p3), (.ref a1)])) t → Steps p.tables e below (T11.setTop (mkF m 38 #[.val (.ref a1), .val (.int p2), .val (.int p3), .val (.int p4), .val (.int p5)] [])) t := by
    intro t k
    refine XS.aloadN X11.here hx rfl (hb hby d2_38) rfl rfl ?_
    show Steps p.tables e below (T11.setTop (mkF m 39 #[.val (.ref a1), .val (.int p2), .val (.int p3), .val (.int p4), .val (.int p5)] [(.ref a1)])) t
    refine XS.iloadN X11.here hx rfl (hb hby d2_39) rfl ?_
    show Steps p.tables e below (T11.setTop (mkF m 40 #[.val (.ref a1), .val (.int p2), .val (.int p3), .val (.int p4), .val (.int p5)] [(.int p3), (.ref a1)])) t
    exact k
  obtain ⟨T14, h14, X14, e14, W14, st14⟩ := putF X11 hx hZ hown (host := "") (Or.inl (hw _ (List.mem_of_getElem? (i := 20) rfl))) Via.refl e11 F11_1 E11_0 (Or.inr ⟨(hw _ (List.mem_of_getElem? (i := 21) rfl)), rfl, hnm⟩) (hw _ (List.mem_of_getElem? (i := 5) rfl)) (ty := .int) (by decide) rfl rfl (g := (mkF m 40 #[.val (.ref a1), .val (.int p2), .val (.int p3), .val (.int p4), .val (.int p5)] [(.int p3), (.ref a1)])) rfl rfl (hb hby d2_40)
  have KP14 : Keep h0 h14 [a1] := KP11.wr W14 (Or.inl (List.mem_of_getElem? (i := 0) rfl))
  have N14 := Fr.snoc X14 N11 g_a1
  have E14_0 : Exa Z h14 a1 "com/example/gutter/gutter/layout/Rect" := E11_0.wr W14
  have F14_1 : Fld Z h14 a1 "com/example/gutter/gutter/layout/Rect" "right" "I" u_right_a1 := F11_2.other W14 (Or.inr (slot_ne (Or.inr (hw _ (List.mem_of_getElem? (i := 23) rfl))) (Or.inr (hw _ (List.mem_of_getElem? (i := 21) rfl))) (by decide) (t := .int) (t' := .int) (by decide) (by decide)))
  have F14_2 : Fld Z h14 a1 "com/example/gutter/gutter/layout/Rect" "bottom" "I" u_bottom_a1 := F11_3.other W14 (Or.inr (slot_ne (Or.inr (hw _ (List.mem_of_getElem? (i := 25) rfl))) (Or.inr (hw _ (List.mem_of_getElem? (i := 21) rfl))) (by decide) (t := .int) (t' := .int) (by decide) (by decide)))
  have F14_3 : Fld Z h14 a1 "com/example/gutter/gutter/layout/Rect" "left" "I" (.int p2) := Fw11.other W14 (Or.inr (slot_ne (Or.inr (hw _ (List.mem_of_getElem? (i := 19) rfl))) (Or.inr (hw _ (List.mem_of_getElem? (i := 21) rfl))) (by decide) (t := .int) (t' := .int) (by decide) (by decide)))
  have Fw14 : Fld Z h14 a1 "com/example/gutter/gutter/layout/Rect" "top" "I" (.int p3) := F11_1.same W14
  have K15 : ∀ t, Steps p.tables e below (T14.setTop (mkF m 43 #[.val (.ref a1), .val (.int p2), .val (.int p3), .val (.int p4), .val (.int p5)] [])) t → Steps p.tables e below (T11.setTop (mkF m 40 #[.val (.ref a1), .val (.int p2), .val (.int p3), .val (.int p4), .val (.int p5)] [(.int p3), (.ref a1)])) t := fun t k => st14 _ k
  have K16 : ∀ t, Steps p.tables e below (T14.setTop (mkF m 45 #[.val (.ref a1), .val (.int p2), .val (.int p3), .val (.int p4), .val (.int p5)] [(.int p4), (.ref a1)])) t → Steps p.tables e below (T14.setTop (mkF m 43 #[.val (.ref a1), .val (.int p2), .val (.int p3), .val (.int p4), .val (.int p5)] [])) t := by
    intro t k
    refine XS.aloadN X14.here hx rfl (hb hby d2_43) rfl rfl ?_
    show Steps p.tables e below (T14.setTop (mkF m 44 #[.val (.ref a1), .val (.int p2), .val (.int p3), .val (.int p4), .val (.int p5)] [(.ref a1)])) t
    refine XS.iloadN X14.here hx rfl (hb hby d2_44) rfl ?_
    show Steps p.tables e below (T14.setTop (mkF m 45 #[.val (.ref a1), .val (.int p2), .val (.int p3), .val (.int p4), .val (.int p5)] [(.int p4), (.ref a1)])) t
    exact k
  obtain ⟨T17, h17, X17, e17, W17, st17⟩ := putF X14 hx hZ hown (host := "") (Or.inl (hw _ (List.mem_of_getElem? (i := 22) rfl))) Via.refl e14 F14_1 E14_0 (Or.inr ⟨(hw _ (List.mem_of_getElem? (i := 23) rfl)), rfl, hnm⟩) (hw _ (List.mem_of_getElem? (i := 5) rfl)) (ty := .int) (by decide) rfl rfl (g := (mkF m 45 #[.val (.ref a1), .val (.int p2), .val (.int p3), .val (.int p4), .val (.int p5)] [(.int p4), (.ref a1)])) rfl rfl (hb hby d2_45)
  have KP17 : Keep h0 h17 [a1] := KP14.wr W17 (Or.inl (List.mem_of_getElem? (i := 0) rfl))
  have N17 := Fr.snoc X17 N14 g_a1
  have E17_0 : Exa Z h17 a1 "com/example/gutter/gutter/layout/Rect" := E14_0.wr W17
  have F17_1 : Fld Z h17 a1 "com/example/gutter/gutter/layout/Rect" "bottom" "I" u_bottom_a1 := F14_2.other W17 (Or.inr (slot_ne (Or.inr (hw _ (List.mem_of_getElem? (i := 25) rfl))) (Or.inr (hw _ (List.mem_of_getElem? (i := 23) rfl))) (by decide) (t := .int) (t' := .int) (by decide) (by decide)))
  have F17_2 : Fld Z h17 a1 "com/example/gutter/gutter/layout/Rect" "left" "I" (.int p2) := F14_3.other W17 (Or.inr (slot_ne (Or.inr (hw _ (List.mem_of_getElem? (i := 19) rfl))) (Or.inr (hw _ (List.mem_of_getElem? (i := 23) rfl))) (by decide) (t := .int) (t' := .int) (by decide) (by decide)))
  have F17_3 : Fld Z h17 a1 "com/example/gutter/gutter/layout/Rect" "top" "I" (.int p3) := Fw14.other W17 (Or.inr (slot_ne (Or.inr (hw _ (List.mem_of_getElem? (i := 21) rfl))) (Or.inr (hw _ (List.mem_of_getElem? (i := 23) rfl))) (by decide) (t := .int) (t' := .int) (by decide) (by decide)))
  have Fw17 : Fld Z h17 a1 "com/example/gutter/gutter/layout/Rect" "right" "I" (.int p4) := F14_1.same W17
  have K18 : ∀ t, Steps p.tables e below (T17.setTop (mkF m 48 #[.val (.ref a1), .val (.int p2), .val (.int p3), .val (.int p4), .val (.int p5)] [])) t → Steps p.tables e below (T14.setTop (mkF m 45 #[.val (.ref a1), .val (.int p2), .val (.int p3), .val (.int p4), .val (.int p5)] [(.int p4), (.ref a1)])) t := fun t k => st17 _ k
  have K19 : ∀ t, Steps p.tables e below (T17.setTop (mkF m 51 #[.val (.ref a1), .val (.int p2), .val (.int p3), .val (.int p4), .val (.int p5)] [(.int p5), (.ref a1)])) t → Steps p.tables e below (T17.setTop (mkF m 48 #[.val (.ref a1), .val (.int p2), .val (.int p3), .val (.int p4), .val (.int p5)] [])) t := by
    intro t k
    refine XS.aloadN X17.here hx rfl (hb hby d2_48) rfl rfl ?_
    show Steps p.tables e below (T17.setTop (mkF m 49 #[.val (.ref a1), .val (.int p2), .val (.int p3), .val (.int p4), .val (.int p5)] [(.ref a1)])) t
    refine XS.iload X17.here hx rfl (hb hby d2_49) rfl ?_
    show Steps p.tables e below (T17.setTop (mkF m 51 #[.val (.ref a1), .val (.int p2), .val (.int p3), .val (.int p4), .val (.int p5)] [(.int p5), (.ref a1)])) t
    exact k
  obtain ⟨T20, h20, X20, e20, W20, st20⟩ := putF X17 hx hZ hown (host := "") (Or.inl (hw _ (List.mem_of_getElem? (i := 24) rfl))) Via.refl e17 F17_1 E17_0 (Or.inr ⟨(hw _ (List.mem_of_getElem? (i := 25) rfl)), rfl, hnm⟩) (hw _ (List.mem_of_getElem? (i := 5) rfl)) (ty := .int) (by decide) rfl rfl (g := (mkF m 51 #[.val (.ref a1), .val (.int p2), .val (.int p3), .val (.int p4), .val (.int p5)] [(.int p5), (.ref a1)])) rfl rfl (hb hby d2_51)
  have KP20 : Keep h0 h20 [a1] := KP17.wr W20 (Or.inl (List.mem_of_getElem? (i := 0) rfl))
  have N20 := Fr.snoc X20 N17 g_a1
  have E20_0 : Exa Z h20 a1 "com/example/gutter/gutter/layout/Rect" := E17_0.wr W20
  have F20_1 : Fld Z h20 a1 "com/example/gutter/gutter/layout/Rect" "left" "I" (.int p2) := F17_2.other W20 (Or.inr (slot_ne (Or.inr (hw _ (List.mem_of_getElem? (i := 19) rfl))) (Or.inr (hw _ (List.mem_of_getElem? (i := 25) rfl))) (by decide) (t := .int) (t' := .int) (by decide) (by decide)))
  have F20_2 : Fld Z h20 a1 "com/example/gutter/gutter/layout/Rect" "top" "I" (.int p3) := F17_3.other W20 (Or.inr (slot_ne (Or.inr (hw _ (List.mem_of_getElem? (i := 21) rfl))) (Or.inr (hw _ (List.mem_of_getElem? (i := 25) rfl))) (by decide) (t := .int) (t' := .int) (by decide) (by decide)))
  have F20_3 : Fld Z h20 a1 "com/example/gutter/gutter/layout/Rect" "right" "I" (.int p4) := Fw17.other W20 (Or.inr (slot_ne (Or.inr (hw _ (List.mem_of_getElem? (i := 23) rfl))) (Or.inr (hw _ (List.mem_of_getElem? (i := 25) rfl))) (by decide) (t := .int) (t' := .int) (by decide) (by decide)))
  have Fw20 : Fld Z h20 a1 "com/example/gutter/gutter/layout/Rect" "bottom" "I" (.int p5) := F17_1.same W20
  have K21 : ∀ t, Steps p.tables e below (T20.setTop (mkF m 54 #[.val (.ref a1), .val (.int p2), .val (.int p3), .val (.int p4), .val (.int p5)] [])) t → Steps p.tables e below (T17.setTop (mkF m 51 #[.val (.ref a1), .val (.int p2), .val (.int p3), .val (.int p4), .val (.int p5)] [(.int p5), (.ref a1)])) t := fun t k => st20 _ k
  obtain ⟨fs, hr, hrun, hended, hW, hsame⟩ := X20.leave (v := none) (fun _ => rfl)
  refine ⟨_, _, pre0 _ (K1 _ (K3 _ (K4 _ (K6 _ (K7 _ (K9 _ (K10 _ (K12 _ (K13 _ (K15 _ (K16 _ (K18 _ (K19 _ (K21 _ (X20.returnOut hx Bd.returns (hb hby d2_54) hr))))))))))))))), hrun, hended, _, _, rfl, ?_, ⟨_, rfl⟩, hW, hsame.mono (by decide) (by decide)⟩
  show Q2 Z a1 p2 p3 p4 p5 u_left_a1 u_top_a1 u_right_a1 u_bottom_a1 h0 n0 _ T20.heap _
  rw [e20]
  exact ⟨rfl, N20, KP20, E20_0, F20_1, F20_2, F20_3, Fw20⟩
-- body 6: com/example/gutter/gutter/layout/Rect.bottom()I
theorem d6_0 : decode prog_6_method_16_code 0 = .ok (.aload_n 0, 1) := by decide +kernel
theorem d6_1 : decode prog_6_method_16_code 1 = .ok (.getfield 28, 3) := by decide +kernel
theorem d6_4 : decode prog_6_method_16_code 4 = .ok (.ireturn, 1) := by decide +kernel
theorem pn_6 : plainName "com/example/gutter/gutter/layout/Rect" = true := by first | (simp [plainName, overriddenIn]; done) | decide +kernel
theorem ef_6 (m : MethodId) (a1 : Addr) : entryFrame m #[(.ref a1)] 1 = mkF m 0 #[.val (.ref a1)] [] := by first | (simp [entryFrame, mkF, argsToLocals, Value.category]; done) | rfl
def f6 (v_bottom_a1 : Int32) : Int32 := v_bottom_a1
def Q6 (Z : State) (a1 : Addr) (v_bottom_a1 : Int32) (h0 : Heap) (n0 : Nat) (v : Option Value) (h : Heap) (L : List Loc) : Prop := v = some (.int (f6 v_bottom_a1)) ∧ Fr n0 L ∧ h = h0
set_option maxRecDepth 65536 in
set_option maxHeartbeats 40000000 in
theorem rm6 (l : Launch) (Z : State) (a0 : Array Value) (hw : ∀ d ∈ tables_1, d.before a0 Z = true) (ws : List Jvm.Cond) (a1 : Addr) (v_bottom_a1 : Int32) (h0 : Heap) (n0 : Nat) (Z0 : n0 ≤ h0.size) (F_bottom_a1 : Fld Z h0 a1 "com/example/gutter/gutter/layout/Rect" "bottom" "I" (.int v_bottom_a1)) :
    MetFree l (⟨"com/example/gutter/gutter/layout/Rect", "bottom", "()I"⟩ : MethodName) (head1 (Jvm.Cond.code (⟨"com/example/gutter/gutter/layout/Rect", "bottom", "()I"⟩ : MethodName) prog_6_method_16_code 1 (some .int) :: ws) ({ frames := 0, cells := 0, slots := 0, locals := 0 } : Room)) (fun a U => a = #[(.ref a1)] ∧ Z.Warmed39 U.vm ∧ U.heap = h0) (fun _ _ _ _ _ => True) (fun _ U o U' => ∃ v L, o = .returned v ∧ Q6 Z a1 v_bottom_a1 h0 n0 v U'.heap L ∧ FrameEnd U o U' L ({ frames := 0, cells := 0, slots := 0, locals := 0 } : Room).cells ({ frames := 0, cells := 0, slots := 0, locals := 0 } : Room).slots) := by
  refine MetFree.of_bodySF (plainFor_of_name pn_6) hisR ?_
  intro p e s m args below meth c s₁ Bd hml0 hP hK
  obtain ⟨rfl, hZ, hh⟩ := hP
  have hx := Bd.exec
  have hby := Bd.bytes
  have hml : c.maxLocals = 1 := hml0
  have hown : s.vm.findClass "com/example/gutter/gutter/layout/Rect" = some m.cls := findClass_of_methodNamed Bd.named
  have hnm := (name_of_methodNamed Bd.named Bd.method).1
  have X0 : Stand p l e ({ frames := 0, cells := 0, slots := 0, locals := 0 } : Room) s m #[(.ref a1)] below meth c s₁ [] 0 0 := Stand.of_body Bd
  have e0 : s₁.heap = h0 := by rw [← hh, Bd.state]; rfl
  have N0 := Fr.nil n0
  have pre0 : ∀ t, Steps p.tables e below (s₁.setTop (mkF m 0 #[.val (.ref a1)] [])) t → Steps p.tables e below (s₁.setTop (entryFrame m #[(.ref a1)] 1)) t := fun t k => castTop (ef_6 m a1) k
  have K1 : ∀ t, Steps p.tables e below (s₁.setTop (mkF m 1 #[.val (.ref a1)] [(.ref a1)])) t → Steps p.tables e below (s₁.setTop (mkF m 0 #[.val (.ref a1)] [])) t := by
    intro t k
    refine XS.aloadN X0.here hx rfl (hb hby d6_0) rfl rfl ?_
    show Steps p.tables e below (s₁.setTop (mkF m 1 #[.val (.ref a1)] [(.ref a1)])) t
    exact k
  obtain ⟨T2, X2, e2, st2⟩ := getF X0 hx hZ hown (host := "") (Or.inl (hw _ (List.mem_of_getElem? (i := 24) rfl))) Via.refl e0 F_bottom_a1 (g := (mkF m 1 #[.val (.ref a1)] [(.ref a1)])) rfl rfl (hb hby d6_1)
  have K3 : ∀ t, Steps p.tables e below (T2.setTop (mkF m 4 #[.val (.ref a1)] [(.int v_bottom_a1)])) t → Steps p.tables e below (s₁.setTop (mkF m 1 #[.val (.ref a1)] [(.ref a1)])) t := fun t k => st2 _ k
  obtain ⟨fs, hr, hrun, hended, hW, hsame⟩ := X2.leave (v := some (.int v_bottom_a1)) (fun h => by rw [Bd.returns] at h; cases h)
  refine ⟨_, _, pre0 _ (K1 _ (K3 _ (retI X2 hx Bd.returns (hb hby d6_4) hr))), hrun, hended, _, _, rfl, ?_, ⟨_, rfl⟩, hW, hsame.mono (by decide) (by decide)⟩
  show Q6 Z a1 v_bottom_a1 h0 n0 _ T2.heap _
  rw [e2]
  exact ⟨congrArg (fun z => some (Value.int z)) (show v_bottom_a1 = f6 v_bottom_a1 from Eq.symm (rfl)), N0, rfl⟩
-- body 7: com/example/gutter/gutter/layout/Rect.right()I
theorem d7_0 : decode prog_6_method_15_code 0 = .ok (.aload_n 0, 1) := by decide +kernel
theorem d7_1 : decode prog_6_method_15_code 1 = .ok (.getfield 25, 3) := by decide +kernel
theorem d7_4 : decode prog_6_method_15_code 4 = .ok (.ireturn, 1) := by decide +kernel
theorem pn_7 : plainName "com/example/gutter/gutter/layout/Rect" = true := by first | (simp [plainName, overriddenIn]; done) | decide +kernel
theorem ef_7 (m : MethodId) (a1 : Addr) : entryFrame m #[(.ref a1)] 1 = mkF m 0 #[.val (.ref a1)] [] := by first | (simp [entryFrame, mkF, argsToLocals, Value.category]; done) | rfl
def f7 (v_right_a1 : Int32) : Int32 := v_right_a1
def Q7 (Z : State) (a1 : Addr) (v_right_a1 : Int32) (h0 : Heap) (n0 : Nat) (v : Option Value) (h : Heap) (L : List Loc) : Prop := v = some (.int (f7 v_right_a1)) ∧ Fr n0 L ∧ h = h0
set_option maxRecDepth 65536 in
set_option maxHeartbeats 40000000 in
theorem rm7 (l : Launch) (Z : State) (a0 : Array Value) (hw : ∀ d ∈ tables_1, d.before a0 Z = true) (ws : List Jvm.Cond) (a1 : Addr) (v_right_a1 : Int32) (h0 : Heap) (n0 : Nat) (Z0 : n0 ≤ h0.size) (F_right_a1 : Fld Z h0 a1 "com/example/gutter/gutter/layout/Rect" "right" "I" (.int v_right_a1)) :
    MetFree l (⟨"com/example/gutter/gutter/layout/Rect", "right", "()I"⟩ : MethodName) (head1 (Jvm.Cond.code (⟨"com/example/gutter/gutter/layout/Rect", "right", "()I"⟩ : MethodName) prog_6_method_15_code 1 (some .int) :: ws) ({ frames := 0, cells := 0, slots := 0, locals := 0 } : Room)) (fun a U => a = #[(.ref a1)] ∧ Z.Warmed39 U.vm ∧ U.heap = h0) (fun _ _ _ _ _ => True) (fun _ U o U' => ∃ v L, o = .returned v ∧ Q7 Z a1 v_right_a1 h0 n0 v U'.heap L ∧ FrameEnd U o U' L ({ frames := 0, cells := 0, slots := 0, locals := 0 } : Room).cells ({ frames := 0, cells := 0, slots := 0, locals := 0 } : Room).slots) := by
  refine MetFree.of_bodySF (plainFor_of_name pn_7) hisR ?_
  intro p e s m args below meth c s₁ Bd hml0 hP hK
  obtain ⟨rfl, hZ, hh⟩ := hP
  have hx := Bd.exec
  have hby := Bd.bytes
  have hml : c.maxLocals = 1 := hml0
  have hown : s.vm.findClass "com/example/gutter/gutter/layout/Rect" = some m.cls := findClass_of_methodNamed Bd.named
  have hnm := (name_of_methodNamed Bd.named Bd.method).1
  have X0 : Stand p l e ({ frames := 0, cells := 0, slots := 0, locals := 0 } : Room) s m #[(.ref a1)] below meth c s₁ [] 0 0 := Stand.of_body Bd
  have e0 : s₁.heap = h0 := by rw [← hh, Bd.state]; rfl
  have N0 := Fr.nil n0
  have pre0 : ∀ t, Steps p.tables e below (s₁.setTop (mkF m 0 #[.val (.ref a1)] [])) t → Steps p.tables e below (s₁.setTop (entryFrame m #[(.ref a1)] 1)) t := fun t k => castTop (ef_7 m a1) k
  have K1 : ∀ t, Steps p.tables e below (s₁.setTop (mkF m 1 #[.val (.ref a1)] [(.ref a1)])) t → Steps p.tables e below (s₁.setTop (mkF m 0 #[.val (.ref a1)] [])) t := by
    intro t k
    refine XS.aloadN X0.here hx rfl (hb hby d7_0) rfl rfl ?_
    show Steps p.tables e below (s₁.setTop (mkF m 1 #[.val (.ref a1)] [(.ref a1)])) t
    exact k
  obtain ⟨T2, X2, e2, st2⟩ := getF X0 hx hZ hown (host := "") (Or.inl (hw _ (List.mem_of_getElem? (i := 22) rfl))) Via.refl e0 F_right_a1 (g := (mkF m 1 #[.val (.ref a1)] [(.ref a1)])) rfl rfl (hb hby d7_1)
  have K3 : ∀ t, Steps p.tables e below (T2.setTop (mkF m 4 #[.val (.ref a1)] [(.int v_right_a1)])) t → Steps p.tables e below (s₁.setTop (mkF m 1 #[.val (.ref a1)] [(.ref a1)])) t := fun t k => st2 _ k
  obtain ⟨fs, hr, hrun, hended, hW, hsame⟩ := X2.leave (v := some (.int v_right_a1)) (fun h => by rw [Bd.returns] at h; cases h)
  refine ⟨_, _, pre0 _ (K1 _ (K3 _ (retI X2 hx Bd.returns (hb hby d7_4) hr))), hrun, hended, _, _, rfl, ?_, ⟨_, rfl⟩, hW, hsame.mono (by decide) (by decide)⟩
  show Q7 Z a1 v_right_a1 h0 n0 _ T2.heap _
  rw [e2]
  exact ⟨congrArg (fun z => some (Value.int z)) (show v_right_a1 = f7 v_right_a1 from Eq.symm (rfl)), N0, rfl⟩
-- body 5: com/example/gutter/gutter/segment/Separator$Orientation.end(Lcom/example/gutter/gutter/layout/Rect;)I
theorem d5_0 : decode prog_11_method_6_code 0 = .ok (.aload_n 0, 1) := by decide +kernel
theorem d5_1 : decode prog_11_method_6_code 1 = .ok (.getstatic 3, 3) := by decide +kernel
theorem d5_4 : decode prog_11_method_6_code 4 = .ok (.if_acmp .ne 10, 3) := by decide +kernel
theorem d5_7 : decode prog_11_method_6_code 7 = .ok (.aload_n 1, 1) := by decide +kernel
theorem d5_8 : decode prog_11_method_6_code 8 = .ok (.invokevirtual 54, 3) := by decide +kernel
theorem d5_11 : decode prog_11_method_6_code 11 = .ok (.goto 7, 3) := by decide +kernel
theorem d5_14 : decode prog_11_method_6_code 14 = .ok (.aload_n 1, 1) := by decide +kernel
theorem d5_15 : decode prog_11_method_6_code 15 = .ok (.invokevirtual 57, 3) := by decide +kernel
theorem d5_18 : decode prog_11_method_6_code 18 = .ok (.ireturn, 1) := by decide +kernel
theorem pn_5 : plainName "com/example/gutter/gutter/segment/Separator$Orientation" = true := by first | (simp [plainName, overriddenIn]; done) | decide +kernel
theorem pd_4 : parseMethodDescriptor "()I" = some ⟨[], some .int⟩ := by decide +kernel
theorem ef_5 (m : MethodId) (a1 : Addr) (a2 : Addr) : entryFrame m #[(.ref a1), (.ref a2)] 2 = mkF m 0 #[.val (.ref a1), .val (.ref a2)] [] := by first | (simp [entryFrame, mkF, argsToLocals, Value.category]; done) | rfl
def f5 (a1 : Addr) (w_HORIZONTAL : Addr) (v_bottom_a2 : Int32) (v_right_a2 : Int32) : Int32 := (if a1 = w_HORIZONTAL then (f6 v_bottom_a2) else (f7 v_right_a2))
def Q5 (Z : State) (a1 : Addr) (a2 : Addr) (w_HORIZONTAL : Addr) (v_bottom_a2 : Int32) (v_right_a2 : Int32) (h0 : Heap) (n0 : Nat) (v : Option Value) (h : Heap) (L : List Loc) : Prop := v = some (.int (f5 a1 w_HORIZONTAL v_bottom_a2 v_right_a2)) ∧ Fr n0 L ∧ h = h0
set_option maxRecDepth 65536 in
set_option maxHeartbeats 40000000 in
theorem rm5 (l : Launch) (Z : State) (a0 : Array Value) (hw : ∀ d ∈ tables_1, d.before a0 Z = true) (ws : List Jvm.Cond) (a1 : Addr) (a2 : Addr) (w_HORIZONTAL : Addr) (v_bottom_a2 : Int32) (v_right_a2 : Int32) (h0 : Heap) (n0 : Nat) (Z0 : n0 ≤ h0.size) (S_HORIZONTAL : Sta Z h0 "com/example/gutter/gutter/segment/Separator$Orientation" "HORIZONTAL" "Lcom/example/gutter/gutter/segment/Separator$Orientation;" (.ref w_HORIZONTAL)) (E_a2 : Exa Z h0 a2 "com/example/gutter/gutter/layout/Rect") (F_bottom_a2 : Fld Z h0 a2 "com/example/gutter/gutter/layout/Rect" "bottom" "I" (.int v_bottom_a2)) (F_right_a2 : Fld Z h0 a2 "com/example/gutter/gutter/layout/Rect" "right" "I" (.int v_right_a2)) :
    MetFree l (⟨"com/example/gutter/gutter/segment/Separator$Orientation", "end", "(Lcom/example/gutter/gutter/layout/Rect;)I"⟩ : MethodName) (head1 (Jvm.Cond.code (⟨"com/example/gutter/gutter/segment/Separator$Orientation", "end", "(Lcom/example/gutter/gutter/layout/Rect;)I"⟩ : MethodName) prog_11_method_6_code 2 (some .int) :: ws) ({ frames := 1, cells := 0, slots := 0, locals := 12 } : Room)) (fun a U => a = #[(.ref a1), (.ref a2)] ∧ Z.Warmed39 U.vm ∧ U.heap = h0) (fun _ _ _ _ _ => True) (fun _ U o U' => ∃ v L, o = .returned v ∧ Q5 Z a1 a2 w_HORIZONTAL v_bottom_a2 v_right_a2 h0 n0 v U'.heap L ∧ FrameEnd U o U' L ({ frames := 1, cells := 0, slots := 0, locals := 12 } : Room).cells ({ frames := 1, cells := 0, slots := 0, locals := 12 } : Room).slots) := by
  refine MetFree.of_bodySF (plainFor_of_name pn_5) hisR ?_
  intro p e s m args below meth c s₁ Bd hml0 hP hK
  obtain ⟨rfl, hZ, hh⟩ := hP
  have hx := Bd.exec
  have hby := Bd.bytes
  have hml : c.maxLocals = 2 := hml0
  have hown : s.vm.findClass "com/example/gutter/gutter/segment/Separator$Orientation" = some m.cls := findClass_of_methodNamed Bd.named
  have hnm := (name_of_methodNamed Bd.named Bd.method).1
  have X0 : Stand p l e ({ frames := 1, cells := 0, slots := 0, locals := 12 } : Room) s m #[(.ref a1), (.ref a2)] below meth c s₁ [] 0 0 := Stand.of_body Bd
  have e0 : s₁.heap = h0 := by rw [← hh, Bd.state]; rfl
  have N0 := Fr.nil n0
  have pre0 : ∀ t, Steps p.tables e below (s₁.setTop (mkF m 0 #[.val (.ref a1), .val (.ref a2)] [])) t → Steps p.tables e below (s₁.setTop (entryFrame m #[(.ref a1), (.ref a2)] 2)) t := fun t k => castTop (ef_5 m a1 a2) k
  have K1 : ∀ t, Steps p.tables e below (s₁.setTop (mkF m 1 #[.val (.ref a1), .val (.ref a2)] [(.ref a1)])) t → Steps p.tables e below (s₁.setTop (mkF m 0 #[.val (.ref a1), .val (.ref a2)] [])) t := by
    intro t k
    refine XS.aloadN X0.here hx rfl (hb hby d5_0) rfl rfl ?_
    show Steps p.tables e below (s₁.setTop (mkF m 1 #[.val (.ref a1), .val (.ref a2)] [(.ref a1)])) t
    exact k
  obtain ⟨T2, X2, e2, st2⟩ := getS2 X0 hx hZ hown (host := "") (Or.inl (hw _ (List.mem_of_getElem? (i := 34) rfl))) Via.refl e0 S_HORIZONTAL (g := (mkF m 1 #[.val (.ref a1), .val (.ref a2)] [(.ref a1)])) rfl (hb hby d5_1)
  have K3 : ∀ t, Steps p.tables e below (T2.setTop (mkF m 4 #[.val (.ref a1), .val (.ref a2)] [(.ref w_HORIZONTAL), (.ref a1)])) t → Steps p.tables e below (s₁.setTop (mkF m 1 #[.val (.ref a1), .val (.ref a2)] [(.ref a1)])) t := fun t k => st2 _ k
  by_cases hc4 : a1 = w_HORIZONTAL
  · have K5 : ∀ t, Steps p.tables e below (T2.setTop (mkF m 7 #[.val (.ref a1), .val (.ref a2)] [])) t → Steps p.tables e below (T2.setTop (mkF m 4 #[.val (.ref a1), .val (.ref a2)] [(.ref w_HORIZONTAL), (.ref a1)])) t := by
      intro t k
      refine Jvm.RoadKit.acmp (g := (mkF m 4 #[.val (.ref a1), .val (.ref a2)] [(.ref w_HORIZONTAL), (.ref a1)])) X2 hx rfl rfl rfl (pc0 := 4) (pc' := 7) (same := true) rfl (hb hby d5_4) rfl (decide_eq_true (congrArg Value.ref hc4)) (by decide) (by decide) ?_
      exact k
    have K6 : ∀ t, Steps p.tables e below (T2.setTop (mkF m 8 #[.val (.ref a1), .val (.ref a2)] [(.ref a2)])) t → Steps p.tables e below (T2.setTop (mkF m 7 #[.val (.ref a1), .val (.ref a2)] [])) t := by
      intro t k
      refine XS.aloadN X2.here hx rfl (hb hby d5_7) rfl rfl ?_
      show Steps p.tables e below (T2.setTop (mkF m 8 #[.val (.ref a1), .val (.ref a2)] [(.ref a2)])) t
      exact k
    obtain ⟨cq7, kq7, q7a, q7b, q7c⟩ := isOf hZ e2 E_a2
    obtain ⟨_, _, ⟨T7, L7, k7, n7⟩, -, X7, ⟨Lc7, hQ7, l7, y7, z7⟩, st7⟩ := X2.virtualBack hx (y := (⟨"com/example/gutter/gutter/layout/Rect", "bottom", "()I"⟩ : MethodName)) (z := (⟨"com/example/gutter/gutter/layout/Rect", "bottom", "()I"⟩ : MethodName)) hown (mvT hZ (hw _ (List.mem_of_getElem? (i := 35) rfl))) (mvT hZ (hw _ (List.mem_of_getElem? (i := 36) rfl))) (notFace_of_selects (args := #[]) (mvT hZ (hw _ (List.mem_of_getElem? (i := 38) rfl)))) (mvT hZ (hw _ (List.mem_of_getElem? (i := 38) rfl))) (mvT hZ (hw _ (List.mem_of_getElem? (i := 37) rfl))) (by decide) (backOf (W := 0) (rm6 l Z a0 hw [] a2 v_bottom_a2 h0 n0 Z0 F_bottom_a2) hZ (hw _ (List.mem_of_getElem? (i := 39) rfl)) (hw _ (List.mem_of_getElem? (i := 6) rfl)) (by decide) (by decide)) q7a q7c (g := (mkF m 8 #[.val (.ref a1), .val (.ref a2)] [(.ref a2)])) rfl (by rw [hml]; rfl) (Steps.refl _) (argsL := []) (rest := []) (lenOf pd_4 rfl) rfl (by show 2 * 0 + _ ≤ _; exact Nat.le_of_eq rfl) (hb hby d5_8) (fun _ _ => ⟨rfl, e2, (by decide : 0 + 0 ≤ _), (by decide : 0 + 0 ≤ _)⟩)
    dsimp only [Pt.U, Pt.locs, Pt.cells, Pt.slots] at X7 l7 y7 z7 st7 hQ7
    subst l7 y7 z7
    obtain ⟨rfl, N7q, e7⟩ := hQ7
    have N7 := Fr.app N0 N7q
    have K8 : ∀ t, Steps p.tables e below (T7.setTop (mkF m 11 #[.val (.ref a1), .val (.ref a2)] [(.int (f6 v_bottom_a2))])) t → Steps p.tables e below (T2.setTop (mkF m 8 #[.val (.ref a1), .val (.ref a2)] [(.ref a2)])) t := fun t k => st7.trans k
    have K9 : ∀ t, Steps p.tables e below (T7.setTop (mkF m 18 #[.val (.ref a1), .val (.ref a2)] [(.int (f6 v_bottom_a2))])) t → Steps p.tables e below (T7.setTop (mkF m 11 #[.val (.ref a1), .val (.ref a2)] [(.int (f6 v_bottom_a2))])) t := by
      intro t k
      refine XS.goto X7.here hx rfl (pc0 := 11) (pc' := 18) rfl (hb hby d5_11) (by decide) (by decide) ?_
      show Steps p.tables e below (T7.setTop (mkF m 18 #[.val (.ref a1), .val (.ref a2)] [(.int (f6 v_bottom_a2))])) t
      exact k
    obtain ⟨fs, hr, hrun, hended, hW, hsame⟩ := X7.leave (v := some (.int (f6 v_bottom_a2))) (fun h => by rw [Bd.returns] at h; cases h)
    refine ⟨_, _, pre0 _ (K1 _ (K3 _ (K5 _ (K6 _ (K8 _ (K9 _ (retI X7 hx Bd.returns (hb hby d5_18) hr))))))), hrun, hended, _, _, rfl, ?_, ⟨_, rfl⟩, hW, hsame.mono (by decide) (by decide)⟩
    show Q5 Z a1 a2 w_HORIZONTAL v_bottom_a2 v_right_a2 h0 n0 _ T7.heap _
    rw [e7]
    exact ⟨congrArg (fun z => some (Value.int z)) (show (f6 v_bottom_a2) = f5 a1 w_HORIZONTAL v_bottom_a2 v_right_a2 from Eq.symm (if_pos hc4)), N7, rfl⟩
  · have K10 : ∀ t, Steps p.tables e below (T2.setTop (mkF m 14 #[.val (.ref a1), .val (.ref a2)] [])) t → Steps p.tables e below (T2.setTop (mkF m 4 #[.val (.ref a1), .val (.ref a2)] [(.ref w_HORIZONTAL), (.ref a1)])) t := by
      intro t k
      refine Jvm.RoadKit.acmp (g := (mkF m 4 #[.val (.ref a1), .val (.ref a2)] [(.ref w_HORIZONTAL), (.ref a1)])) X2 hx rfl rfl rfl (pc0 := 4) (pc' := 14) (same := false) rfl (hb hby d5_4) rfl (decide_eq_false fun q => hc4 (Value.ref.inj q)) (by decide) (by decide) ?_
      exact k
    have K11 : ∀ t, Steps p.tables e below (T2.setTop (mkF m 15 #[.val (.ref a1), .val (.ref a2)] [(.ref a2)])) t → Steps p.tables e below (T2.setTop (mkF m 14 #[.val (.ref a1), .val (.ref a2)] [])) t := by
      intro t k
      refine XS.aloadN X2.here hx rfl (hb hby d5_14) rfl rfl ?_
      show Steps p.tables e below (T2.setTop (mkF m 15 #[.val (.ref a1), .val (.ref a2)] [(.ref a2)])) t
      exact k
    obtain ⟨cq12, kq12, q12a, q12b, q12c⟩ := isOf hZ e2 E_a2
    obtain ⟨_, _, ⟨T12, L12, k12, n12⟩, -, X12, ⟨Lc12, hQ12, l12, y12, z12⟩, st12⟩ := X2.virtualBack hx (y := (⟨"com/example/gutter/gutter/layout/Rect", "right", "()I"⟩ : MethodName)) (z := (⟨"com/example/gutter/gutter/layout/Rect", "right", "()I"⟩ : MethodName)) hown (mvT hZ (hw _ (List.mem_of_getElem? (i := 42) rfl))) (mvT hZ (hw _ (List.mem_of_getElem? (i := 43) rfl))) (notFace_of_selects (args := #[]) (mvT hZ (hw _ (List.mem_of_getElem? (i := 45) rfl)))) (mvT hZ (hw _ (List.mem_of_getElem? (i := 45) rfl))) (mvT hZ (hw _ (List.mem_of_getElem? (i := 44) rfl))) (by decide) (backOf (W := 0) (rm7 l Z a0 hw [] a2 v_right_a2 h0 n0 Z0 F_right_a2) hZ (hw _ (List.mem_of_getElem? (i := 46) rfl)) (hw _ (List.mem_of_getElem? (i := 6) rfl)) (by decide) (by decide)) q12a q12c (g := (mkF m 15 #[.val (.ref a1), .val (.ref a2)] [(.ref a2)])) rfl (by rw [hml]; rfl) (Steps.refl _) (argsL := []) (rest := []) (lenOf pd_4 rfl) rfl (by show 2 * 0 + _ ≤ _; exact Nat.le_of_eq rfl) (hb hby d5_15) (fun _ _ => ⟨rfl, e2, (by decide : 0 + 0 ≤ _), (by decide : 0 + 0 ≤ _)⟩)
    dsimp only [Pt.U, Pt.locs, Pt.cells, Pt.slots] at X12 l12 y12 z12 st12 hQ12
    subst l12 y12 z12
    obtain ⟨rfl, N12q, e12⟩ := hQ12
    have N12 := Fr.app N0 N12q
    have K13 : ∀ t, Steps p.tables e below (T12.setTop (mkF m 18 #[.val (.ref a1), .val (.ref a2)] [(.int (f7 v_right_a2))])) t → Steps p.tables e below (T2.setTop (mkF m 15 #[.val (.ref a1), .val (.ref a2)] [(.ref a2)])) t := fun t k => st12.trans k
    obtain ⟨fs, hr, hrun, hended, hW, hsame⟩ := X12.leave (v := some (.int (f7 v_right_a2))) (fun h => by rw [Bd.returns] at h; cases h)
    refine ⟨_, _, pre0 _ (K1 _ (K3 _ (K10 _ (K11 _ (K13 _ (retI X12 hx Bd.returns (hb hby d5_18) hr)))))), hrun, hended, _, _, rfl, ?_, ⟨_, rfl⟩, hW, hsame.mono (by decide) (by decide)⟩
    show Q5 Z a1 a2 w_HORIZONTAL v_bottom_a2 v_right_a2 h0 n0 _ T12.heap _
    rw [e12]
    exact ⟨congrArg (fun z => some (Value.int z)) (show (f7 v_right_a2) = f5 a1 w_HORIZONTAL v_bottom_a2 v_right_a2 from Eq.symm (if_neg hc4)), N12, rfl⟩
-- body 0: com/example/gutter/gutter/segment/OrientationEndPinLaw.law(IIII)Z
theorem pn_0 : plainName "com/example/gutter/gutter/segment/OrientationEndPinLaw" = true := by first | (simp [plainName, overriddenIn]; done) | decide +kernel
theorem pd_0 : parseMethodDescriptor "(II)I" = some ⟨[.int, .int], some .int⟩ := by decide +kernel
theorem pd_1 : parseMethodDescriptor "(IIII)V" = some ⟨[.int, .int, .int, .int], none⟩ := by decide +kernel
theorem pd_3 : parseMethodDescriptor "(Lcom/example/gutter/gutter/layout/Rect;)I" = some ⟨[(.object "com/example/gutter/gutter/layout/Rect")], some .int⟩ := by decide +kernel
theorem ef_0 (m : MethodId) (p1 : Int32) (p2 : Int32) (p3 : Int32) (p4 : Int32) : entryFrame m #[(.int p1), (.int p2), (.int p3), (.int p4)] maxLocals = mkF m 0 #[.val (.int p1), .val (.int p2), .val (.int p3), .val (.int p4), .unset, .unset, .unset, .unset, .unset] [] := by first | (simp [entryFrame, mkF, argsToLocals, Value.category, maxLocals]; done) | rfl
def f0 (p1 : Int32) (p2 : Int32) (p3 : Int32) (p4 : Int32) (w_HORIZONTAL : Addr) (w_VERTICAL : Addr) : Int32 := (if (f5 w_HORIZONTAL w_HORIZONTAL (f1 p2 p4) (f1 p1 p3)) = (f1 p2 p4) then (if (f5 w_VERTICAL w_HORIZONTAL (f1 p2 p4) (f1 p1 p3)) = (f1 p1 p3) then (1 : Int32) else (0 : Int32)) else (0 : Int32))
def Q0 (Z : State) (p1 : Int32) (p2 : Int32) (p3 : Int32) (p4 : Int32) (w_HORIZONTAL : Addr) (w_VERTICAL : Addr) (h0 : Heap) (n0 : Nat) (v : Option Value) (h : Heap) (L : List Loc) : Prop := v = some (.int (f0 p1 p2 p3 p4 w_HORIZONTAL w_VERTICAL)) ∧ Fr n0 L ∧ Keep h0 h []
set_option maxRecDepth 65536 in
set_option maxHeartbeats 40000000 in
theorem rm0 (l : Launch) (Z : State) (a0 : Array Value) (hw : ∀ d ∈ tables_1, d.before a0 Z = true) (ws : List Jvm.Cond) (p1 : Int32) (p2 : Int32) (p3 : Int32) (p4 : Int32) (w_HORIZONTAL : Addr) (w_VERTICAL : Addr) (h0 : Heap) (n0 : Nat) (Z0 : n0 ≤ h0.size) (S_HORIZONTAL : Sta Z h0 "com/example/gutter/gutter/segment/Separator$Orientation" "HORIZONTAL" "Lcom/example/gutter/gutter/segment/Separator$Orientation;" (.ref w_HORIZONTAL)) (E_w_HORIZONTAL : Exa Z h0 w_HORIZONTAL "com/example/gutter/gutter/segment/Separator$Orientation") (S_VERTICAL : Sta Z h0 "com/example/gutter/gutter/segment/Separator$Orientation" "VERTICAL" "Lcom/example/gutter/gutter/segment/Separator$Orientation;" (.ref w_VERTICAL)) (E_w_VERTICAL : Exa Z h0 w_VERTICAL "com/example/gutter/gutter/segment/Separator$Orientation") :
    MetFree l x (head1 (Jvm.Cond.code x code maxLocals ret :: ws) room_1) (fun a U => a = #[(.int p1), (.int p2), (.int p3), (.int p4)] ∧ Z.Warmed39 U.vm ∧ U.heap = h0) (fun _ _ _ _ _ => True) (fun _ U o U' => ∃ v L, o = .returned v ∧ Q0 Z p1 p2 p3 p4 w_HORIZONTAL w_VERTICAL h0 n0 v U'.heap L ∧ FrameEnd U o U' L room_1.cells room_1.slots) := by
  refine MetFree.of_bodySF (plainFor_of_name pn_0) hisR ?_
  intro p e s m args below meth c s₁ Bd hml0 hP hK
  obtain ⟨rfl, hZ, hh⟩ := hP
  have hx := Bd.exec
  have hby := Bd.bytes
  have hml : c.maxLocals = 9 := hml0
  have hown : s.vm.findClass "com/example/gutter/gutter/segment/OrientationEndPinLaw" = some m.cls := findClass_of_methodNamed Bd.named
  have hnm := (name_of_methodNamed Bd.named Bd.method).1
  have X0 : Stand p l e room_1 s m #[(.int p1), (.int p2), (.int p3), (.int p4)] below meth c s₁ [] 0 0 := Stand.of_body Bd
  have e0 : s₁.heap = h0 := by rw [← hh, Bd.state]; rfl
  have N0 := Fr.nil n0
  have pre0 : ∀ t, Steps p.tables e below (s₁.setTop (mkF m 0 #[.val (.int p1), .val (.int p2), .val (.int p3), .val (.int p4), .unset, .unset, .unset, .unset, .unset] [])) t → Steps p.tables e below (s₁.setTop (entryFrame m #[(.int p1), (.int p2), (.int p3), (.int p4)] maxLocals)) t := fun t k => castTop (ef_0 m p1 p2 p3 p4) k
  have K1 : ∀ t, Steps p.tables e below (s₁.setTop (mkF m 2 #[.val (.int p1), .val (.int p2), .val (.int p3), .val (.int p4), .unset, .unset, .unset, .unset, .unset] [(.int p3), (.int p1)])) t → Steps p.tables e below (s₁.setTop (mkF m 0 #[.val (.int p1), .val (.int p2), .val (.int p3), .val (.int p4), .unset, .unset, .unset, .unset, .unset] [])) t := by
    intro t k
    refine XS.iloadN X0.here hx rfl (hb hby at_0) rfl ?_
    show Steps p.tables e below (s₁.setTop (mkF m 1 #[.val (.int p1), .val (.int p2), .val (.int p3), .val (.int p4), .unset, .unset, .unset, .unset, .unset] [(.int p1)])) t
    refine XS.iloadN X0.here hx rfl (hb hby at_1) rfl ?_
    show Steps p.tables e below (s₁.setTop (mkF m 2 #[.val (.int p1), .val (.int p2), .val (.int p3), .val (.int p4), .unset, .unset, .unset, .unset, .unset] [(.int p3), (.int p1)])) t
    exact k
  obtain ⟨_, _, ⟨T2, L2, k2, n2⟩, -, X2, ⟨Lc2, hQ2, l2, y2, z2⟩, st2⟩ := Jvm.LawKit.callS X0 hx (y := (⟨"java/lang/Math", "max", "(II)I"⟩ : MethodName)) hown (mvT hZ (hw _ (List.mem_of_getElem? (i := 0) rfl))) (mvT hZ (hw _ (List.mem_of_getElem? (i := 1) rfl))) (mvT hZ (hw _ (List.mem_of_getElem? (i := 2) rfl))) (mvT hZ (hw _ (List.mem_of_getElem? (i := 3) rfl))) (by decide) (backOf (W := 0) (rm1 l Z a0 hw [] p1 p3 h0 n0 Z0 ) hZ (hw _ (List.mem_of_getElem? (i := 3) rfl)) (hw _ (List.mem_of_getElem? (i := 2) rfl)) (by decide) (by decide)) (g := (mkF m 2 #[.val (.int p1), .val (.int p2), .val (.int p3), .val (.int p4), .unset, .unset, .unset, .unset, .unset] [(.int p3), (.int p1)])) rfl (by rw [hml]; rfl) (argsL := [(.int p1), (.int p3)]) (rest := []) (lenOf pd_0 rfl) rfl (by show 2 * 0 + _ ≤ _; exact Nat.le_of_eq rfl) (hb hby at_2) (fun _ _ => ⟨rfl, e0, (by decide : 0 + 0 ≤ _), (by decide : 0 + 0 ≤ _)⟩)
  dsimp only [Pt.U, Pt.locs, Pt.cells, Pt.slots] at X2 l2 y2 z2 st2 hQ2
  subst l2 y2 z2
  obtain ⟨rfl, N2q, e2⟩ := hQ2
  have N2 := Fr.app N0 N2q
  have K3 : ∀ t, Steps p.tables e below (T2.setTop (mkF m 5 #[.val (.int p1), .val (.int p2), .val (.int p3), .val (.int p4), .unset, .unset, .unset, .unset, .unset] [(.int (f1 p1 p3))])) t → Steps p.tables e below (s₁.setTop (mkF m 2 #[.val (.int p1), .val (.int p2), .val (.int p3), .val (.int p4), .unset, .unset, .unset, .unset, .unset] [(.int p3), (.int p1)])) t := fun t k => st2 _ k
  have K4 : ∀ t, Steps p.tables e below (T2.setTop (mkF m 9 #[.val (.int p1), .val (.int p2), .val (.int p3), .val (.int p4), .val (.int (f1 p1 p3)), .unset, .unset, .unset, .unset] [(.int p4), (.int p2)])) t → Steps p.tables e below (T2.setTop (mkF m 5 #[.val (.int p1), .val (.int p2), .val (.int p3), .val (.int p4), .unset, .unset, .unset, .unset, .unset] [(.int (f1 p1 p3))])) t := by
    intro t k
    refine XS.istore X2.here hx rfl (hb hby at_5) rfl (l' := #[.val (.int p1), .val (.int p2), .val (.int p3), .val (.int p4), .val (.int (f1 p1 p3)), .unset, .unset, .unset, .unset]) rfl ?_
    show Steps p.tables e below (T2.setTop (mkF m 7 #[.val (.int p1), .val (.int p2), .val (.int p3), .val (.int p4), .val (.int (f1 p1 p3)), .unset, .unset, .unset, .unset] [])) t
    refine XS.iloadN X2.here hx rfl (hb hby at_7) rfl ?_
    show Steps p.tables e below (T2.setTop (mkF m 8 #[.val (.int p1), .val (.int p2), .val (.int p3), .val (.int p4), .val (.int (f1 p1 p3)), .unset, .unset, .unset, .unset] [(.int p2)])) t
    refine XS.iloadN X2.here hx rfl (hb hby at_8) rfl ?_
    show Steps p.tables e below (T2.setTop (mkF m 9 #[.val (.int p1), .val (.int p2), .val (.int p3), .val (.int p4), .val (.int (f1 p1 p3)), .unset, .unset, .unset, .unset] [(.int p4), (.int p2)])) t
    exact k
  obtain ⟨_, _, ⟨T5, L5, k5, n5⟩, -, X5, ⟨Lc5, hQ5, l5, y5, z5⟩, st5⟩ := Jvm.LawKit.callS X2 hx (y := (⟨"java/lang/Math", "max", "(II)I"⟩ : MethodName)) hown (mvT hZ (hw _ (List.mem_of_getElem? (i := 0) rfl))) (mvT hZ (hw _ (List.mem_of_getElem? (i := 1) rfl))) (mvT hZ (hw _ (List.mem_of_getElem? (i := 2) rfl))) (mvT hZ (hw _ (List.mem_of_getElem? (i := 3) rfl))) (by decide) (backOf (W := 0) (rm1 l Z a0 hw [] p2 p4 h0 n0 Z0 ) hZ (hw _ (List.mem_of_getElem? (i := 3) rfl)) (hw _ (List.mem_of_getElem? (i := 2) rfl)) (by decide) (by decide)) (g := (mkF m 9 #[.val (.int p1), .val (.int p2), .val (.int p3), .val (.int p4), .val (.int (f1 p1 p3)), .unset, .unset, .unset, .unset] [(.int p4), (.int p2)])) rfl (by rw [hml]; rfl) (argsL := [(.int p2), (.int p4)]) (rest := []) (lenOf pd_0 rfl) rfl (by show 2 * 0 + _ ≤ _; exact Nat.le_of_eq rfl) (hb hby at_9) (fun _ _ => ⟨rfl, e2, (by decide : 0 + 0 ≤ _), (by decide : 0 + 0 ≤ _)⟩)
  dsimp only [Pt.U, Pt.locs, Pt.cells, Pt.slots] at X5 l5 y5 z5 st5 hQ5
  subst l5 y5 z5
  obtain ⟨rfl, N5q, e5⟩ := hQ5
  have N5 := Fr.app N2 N5q
  have K6 : ∀ t, Steps p.tables e below (T5.setTop (mkF m 12 #[.val (.int p1), .val (.int p2), .val (.int p3), .val (.int p4), .val (.int (f1 p1 p3)), .unset, .unset, .unset, .unset] [(.int (f1 p2 p4))])) t → Steps p.tables e below (T2.setTop (mkF m 9 #[.val (.int p1), .val (.int p2), .val (.int p3), .val (.int p4), .val (.int (f1 p1 p3)), .unset, .unset, .unset, .unset] [(.int p4), (.int p2)])) t := fun t k => st5 _ k
  have K7 : ∀ t, Steps p.tables e below (T5.setTop (mkF m 14 #[.val (.int p1), .val (.int p2), .val (.int p3), .val (.int p4), .val (.int (f1 p1 p3)), .val (.int (f1 p2 p4)), .unset, .unset, .unset] [])) t → Steps p.tables e below (T5.setTop (mkF m 12 #[.val (.int p1), .val (.int p2), .val (.int p3), .val (.int p4), .val (.int (f1 p1 p3)), .unset, .unset, .unset, .unset] [(.int (f1 p2 p4))])) t := by
    intro t k
    refine XS.istore X5.here hx rfl (hb hby at_12) rfl (l' := #[.val (.int p1), .val (.int p2), .val (.int p3), .val (.int p4), .val (.int (f1 p1 p3)), .val (.int (f1 p2 p4)), .unset, .unset, .unset]) rfl ?_
    show Steps p.tables e below (T5.setTop (mkF m 14 #[.val (.int p1), .val (.int p2), .val (.int p3), .val (.int p4), .val (.int (f1 p1 p3)), .val (.int (f1 p2 p4)), .unset, .unset, .unset] [])) t
    exact k
  obtain ⟨T8, h8, X8, e8, E8, A8, D8, -, st8⟩ := newO X5 hx hZ hown (hw _ (List.mem_of_getElem? (i := 4) rfl)) (hw _ (List.mem_of_getElem? (i := 5) rfl)) (hw _ (List.mem_of_getElem? (i := 6) rfl)) e5 (g := (mkF m 14 #[.val (.int p1), .val (.int p2), .val (.int p3), .val (.int p4), .val (.int (f1 p1 p3)), .val (.int (f1 p2 p4)), .unset, .unset, .unset] [])) rfl (hb hby at_14) (by decide) (by decide)
  obtain ⟨b8, g8⟩ : ∃ z, z = h0.size := ⟨_, rfl⟩
  rw [← g8] at A8 D8 st8
  have KP8 : Keep h0 h8 [] := (Keep.refl h0 []).ext E8
  have E8_1 : Exa Z h8 w_HORIZONTAL "com/example/gutter/gutter/segment/Separator$Orientation" := E_w_HORIZONTAL.ext E8
  have E8_3 : Exa Z h8 w_VERTICAL "com/example/gutter/gutter/segment/Separator$Orientation" := E_w_VERTICAL.ext E8
  have ne8_0 : w_HORIZONTAL ≠ b8 := Nat.ne_of_lt (Nat.lt_of_lt_of_le E_w_HORIZONTAL.lt (Nat.le_of_eq g8.symm))
  have ne8_2 : w_VERTICAL ≠ b8 := Nat.ne_of_lt (Nat.lt_of_lt_of_le E_w_VERTICAL.lt (Nat.le_of_eq g8.symm))
  have gb_b8 : n0 ≤ b8 := Nat.le_trans Z0 (Nat.le_of_eq g8.symm)
  have sz_b8 : h0.size ≤ b8 := Nat.le_trans (Keep.refl h0 []).1 (Nat.le_of_eq g8.symm)
  have F8_left : Fld Z h8 b8 "com/example/gutter/gutter/layout/Rect" "left" "I" (.int (0 : Int32)) := D8 (Or.inr (hw _ (List.mem_of_getElem? (i := 19) rfl))) (ty := .int) (by decide)
  have F8_top : Fld Z h8 b8 "com/example/gutter/gutter/layout/Rect" "top" "I" (.int (0 : Int32)) := D8 (Or.inr (hw _ (List.mem_of_getElem? (i := 21) rfl))) (ty := .int) (by decide)
  have F8_right : Fld Z h8 b8 "com/example/gutter/gutter/layout/Rect" "right" "I" (.int (0 : Int32)) := D8 (Or.inr (hw _ (List.mem_of_getElem? (i := 23) rfl))) (ty := .int) (by decide)
  have F8_bottom : Fld Z h8 b8 "com/example/gutter/gutter/layout/Rect" "bottom" "I" (.int (0 : Int32)) := D8 (Or.inr (hw _ (List.mem_of_getElem? (i := 25) rfl))) (ty := .int) (by decide)
  have K9 : ∀ t, Steps p.tables e below (T8.setTop (mkF m 17 #[.val (.int p1), .val (.int p2), .val (.int p3), .val (.int p4), .val (.int (f1 p1 p3)), .val (.int (f1 p2 p4)), .unset, .unset, .unset] [(.ref b8)])) t → Steps p.tables e below (T5.setTop (mkF m 14 #[.val (.int p1), .val (.int p2), .val (.int p3), .val (.int p4), .val (.int (f1 p1 p3)), .val (.int (f1 p2 p4)), .unset, .unset, .unset] [])) t := fun t k => st8 _ k
  have K10 : ∀ t, Steps p.tables e below (T8.setTop (mkF m 24 #[.val (.int p1), .val (.int p2), .val (.int p3), .val (.int p4), .val (.int (f1 p1 p3)), .val (.int (f1 p2 p4)), .unset, .unset, .unset] [(.int (f1 p2 p4)), (.int (f1 p1 p3)), (.int p2), (.int p1), (.ref b8), (.ref b8)])) t → Steps p.tables e below (T8.setTop (mkF m 17 #[.val (.int p1), .val (.int p2), .val (.int p3), .val (.int p4), .val (.int (f1 p1 p3)), .val (.int (f1 p2 p4)), .unset, .unset, .unset] [(.ref b8)])) t := by
    intro t k
    refine XS.dup X8.here hx rfl (hb hby at_17) rfl rfl ?_
    show Steps p.tables e below (T8.setTop (mkF m 18 #[.val (.int p1), .val (.int p2), .val (.int p3), .val (.int p4), .val (.int (f1 p1 p3)), .val (.int (f1 p2 p4)), .unset, .unset, .unset] [(.ref b8), (.ref b8)])) t
    refine XS.iloadN X8.here hx rfl (hb hby at_18) rfl ?_
    show Steps p.tables e below (T8.setTop (mkF m 19 #[.val (.int p1), .val (.int p2), .val (.int p3), .val (.int p4), .val (.int (f1 p1 p3)), .val (.int (f1 p2 p4)), .unset, .unset, .unset] [(.int p1), (.ref b8), (.ref b8)])) t
    refine XS.iloadN X8.here hx rfl (hb hby at_19) rfl ?_
    show Steps p.tables e below (T8.setTop (mkF m 20 #[.val (.int p1), .val (.int p2), .val (.int p3), .val (.int p4), .val (.int (f1 p1 p3)), .val (.int (f1 p2 p4)), .unset, .unset, .unset] [(.int p2), (.int p1), (.ref b8), (.ref b8)])) t
    refine XS.iload X8.here hx rfl (hb hby at_20) rfl ?_
    show Steps p.tables e below (T8.setTop (mkF m 22 #[.val (.int p1), .val (.int p2), .val (.int p3), .val (.int p4), .val (.int (f1 p1 p3)), .val (.int (f1 p2 p4)), .unset, .unset, .unset] [(.int (f1 p1 p3)), (.int p2), (.int p1), (.ref b8), (.ref b8)])) t
    refine XS.iload X8.here hx rfl (hb hby at_22) rfl ?_
    show Steps p.tables e below (T8.setTop (mkF m 24 #[.val (.int p1), .val (.int p2), .val (.int p3), .val (.int p4), .val (.int (f1 p1 p3)), .val (.int (f1 p2 p4)), .unset, .unset, .unset] [(.int (f1 p2 p4)), (.int (f1 p1 p3)), (.int p2), (.int p1), (.ref b8), (.ref b8)])) t
    exact k
  obtain ⟨_, _, ⟨T11, L11, k11, n11⟩, -, X11, ⟨Lc11, hQ11, l11, y11, z11⟩, st11⟩ := X8.specialBack hx (y := (⟨"com/example/gutter/gutter/layout/Rect", "<init>", "(IIII)V"⟩ : MethodName)) rfl hown (mvT hZ (hw _ (List.mem_of_getElem? (i := 7) rfl))) (mvT hZ (hw _ (List.mem_of_getElem? (i := 8) rfl))) (mvT hZ (hw _ (List.mem_of_getElem? (i := 9) rfl))) (by decide) (backOf (W := 1) (rm2 l Z a0 hw [] b8 p1 p2 (f1 p1 p3) (f1 p2 p4) (.int (0 : Int32)) (.int (0 : Int32)) (.int (0 : Int32)) (.int (0 : Int32)) h8 n0 (Nat.le_trans Z0 KP8.1) (own_max _ _) (own_max _ _) A8 F8_left gb_b8 F8_top F8_right F8_bottom) hZ (hw _ (List.mem_of_getElem? (i := 9) rfl)) (hw _ (List.mem_of_getElem? (i := 6) rfl)) (by decide) (by decide)) (g := (mkF m 24 #[.val (.int p1), .val (.int p2), .val (.int p3), .val (.int p4), .val (.int (f1 p1 p3)), .val (.int (f1 p2 p4)), .unset, .unset, .unset] [(.int (f1 p2 p4)), (.int (f1 p1 p3)), (.int p2), (.int p1), (.ref b8), (.ref b8)])) rfl (by rw [hml]; rfl) (Steps.refl _) (a := b8) (argsL := [(.int p1), (.int p2), (.int (f1 p1 p3)), (.int (f1 p2 p4))]) (rest := [(.ref b8)]) (lenOf pd_1 rfl) rfl (by show 2 * 0 + _ ≤ _; exact Nat.le_of_eq rfl) (hb hby at_24) (fun _ _ => ⟨rfl, e8, (by decide : 1 + 0 ≤ _), (by decide : 4 + 0 ≤ _)⟩)
  dsimp only [Pt.U, Pt.locs, Pt.cells, Pt.slots] at X11 l11 y11 z11 st11 hQ11
  subst l11 y11 z11
  obtain ⟨h11, e11⟩ : ∃ z, T11.heap = z := ⟨_, rfl⟩
  rw [e11] at hQ11
  obtain ⟨rfl, N11q, Kq11, R11_0, R11_1, R11_2, R11_3, R11_4⟩ := hQ11
  have N11 := Fr.app N5 N11q
  have KP11 : Keep h0 h11 [] := KP8.trans Kq11 (allS (Or.inr sz_b8) all0)
  have E11_1 : Exa Z h11 w_HORIZONTAL "com/example/gutter/gutter/segment/Separator$Orientation" := E8_1.keep Kq11
  have E11_3 : Exa Z h11 w_VERTICAL "com/example/gutter/gutter/segment/Separator$Orientation" := E8_3.keep Kq11
  have K12 : ∀ t, Steps p.tables e below (T11.setTop (mkF m 27 #[.val (.int p1), .val (.int p2), .val (.int p3), .val (.int p4), .val (.int (f1 p1 p3)), .val (.int (f1 p2 p4)), .unset, .unset, .unset] [(.ref b8)])) t → Steps p.tables e below (T8.setTop (mkF m 24 #[.val (.int p1), .val (.int p2), .val (.int p3), .val (.int p4), .val (.int (f1 p1 p3)), .val (.int (f1 p2 p4)), .unset, .unset, .unset] [(.int (f1 p2 p4)), (.int (f1 p1 p3)), (.int p2), (.int p1), (.ref b8), (.ref b8)])) t := fun t k => st11.trans k
  have K13 : ∀ t, Steps p.tables e below (T11.setTop (mkF m 29 #[.val (.int p1), .val (.int p2), .val (.int p3), .val (.int p4), .val (.int (f1 p1 p3)), .val (.int (f1 p2 p4)), .val (.ref b8), .unset, .unset] [])) t → Steps p.tables e below (T11.setTop (mkF m 27 #[.val (.int p1), .val (.int p2), .val (.int p3), .val (.int p4), .val (.int (f1 p1 p3)), .val (.int (f1 p2 p4)), .unset, .unset, .unset] [(.ref b8)])) t := by
    intro t k
    refine XS.astore X11.here hx rfl (hb hby at_27) rfl rfl (l' := #[.val (.int p1), .val (.int p2), .val (.int p3), .val (.int p4), .val (.int (f1 p1 p3)), .val (.int (f1 p2 p4)), .val (.ref b8), .unset, .unset]) rfl ?_
    show Steps p.tables e below (T11.setTop (mkF m 29 #[.val (.int p1), .val (.int p2), .val (.int p3), .val (.int p4), .val (.int (f1 p1 p3)), .val (.int (f1 p2 p4)), .val (.ref b8), .unset, .unset] [])) t
    exact k
  obtain ⟨T14, X14, e14, st14⟩ := getS2 X11 hx hZ hown (host := "") (Or.inl (hw _ (List.mem_of_getElem? (i := 26) rfl))) Via.refl e11 (S_HORIZONTAL.ext (own_ext KP11)) (g := (mkF m 29 #[.val (.int p1), .val (.int p2), .val (.int p3), .val (.int p4), .val (.int (f1 p1 p3)), .val (.int (f1 p2 p4)), .val (.ref b8), .unset, .unset] [])) rfl (hb hby at_29)
  have K15 : ∀ t, Steps p.tables e below (T14.setTop (mkF m 32 #[.val (.int p1), .val (.int p2), .val (.int p3), .val (.int p4), .val (.int (f1 p1 p3)), .val (.int (f1 p2 p4)), .val (.ref b8), .unset, .unset] [(.ref w_HORIZONTAL)])) t → Steps p.tables e below (T11.setTop (mkF m 29 #[.val (.int p1), .val (.int p2), .val (.int p3), .val (.int p4), .val (.int (f1 p1 p3)), .val (.int (f1 p2 p4)), .val (.ref b8), .unset, .unset] [])) t := fun t k => st14 _ k
  have K16 : ∀ t, Steps p.tables e below (T14.setTop (mkF m 34 #[.val (.int p1), .val (.int p2), .val (.int p3), .val (.int p4), .val (.int (f1 p1 p3)), .val (.int (f1 p2 p4)), .val (.ref b8), .unset, .unset] [(.ref b8), (.ref w_HORIZONTAL)])) t → Steps p.tables e below (T14.setTop (mkF m 32 #[.val (.int p1), .val (.int p2), .val (.int p3), .val (.int p4), .val (.int (f1 p1 p3)), .val (.int (f1 p2 p4)), .val (.ref b8), .unset, .unset] [(.ref w_HORIZONTAL)])) t := by
    intro t k
    refine XS.aload X14.here hx rfl (hb hby at_32) rfl rfl ?_
    show Steps p.tables e below (T14.setTop (mkF m 34 #[.val (.int p1), .val (.int p2), .val (.int p3), .val (.int p4), .val (.int (f1 p1 p3)), .val (.int (f1 p2 p4)), .val (.ref b8), .unset, .unset] [(.ref b8), (.ref w_HORIZONTAL)])) t
    exact k
  obtain ⟨cq17, kq17, q17a, q17b, q17c⟩ := isOf hZ e14 E11_1
  obtain ⟨_, _, ⟨T17, L17, k17, n17⟩, -, X17, ⟨Lc17, hQ17, l17, y17, z17⟩, st17⟩ := X14.virtualBack hx (y := (⟨"com/example/gutter/gutter/segment/Separator$Orientation", "end", "(Lcom/example/gutter/gutter/layout/Rect;)I"⟩ : MethodName)) (z := (⟨"com/example/gutter/gutter/segment/Separator$Orientation", "end", "(Lcom/example/gutter/gutter/layout/Rect;)I"⟩ : MethodName)) hown (mvT hZ (hw _ (List.mem_of_getElem? (i := 29) rfl))) (mvT hZ (hw _ (List.mem_of_getElem? (i := 30) rfl))) (notFace_of_selects (args := #[]) (mvT hZ (hw _ (List.mem_of_getElem? (i := 32) rfl)))) (mvT hZ (hw _ (List.mem_of_getElem? (i := 32) rfl))) (mvT hZ (hw _ (List.mem_of_getElem? (i := 31) rfl))) (by decide) (backOf (W := 0) (rm5 l Z a0 hw [] w_HORIZONTAL b8 w_HORIZONTAL (f1 p2 p4) (f1 p1 p3) h11 n0 (Nat.le_trans Z0 KP11.1) (S_HORIZONTAL.ext (own_ext KP11)) R11_0 R11_4 R11_3) hZ (hw _ (List.mem_of_getElem? (i := 33) rfl)) (hw _ (List.mem_of_getElem? (i := 27) rfl)) (by decide) (by decide)) q17a q17c (g := (mkF m 34 #[.val (.int p1), .val (.int p2), .val (.int p3), .val (.int p4), .val (.int (f1 p1 p3)), .val (.int (f1 p2 p4)), .val (.ref b8), .unset, .unset] [(.ref b8), (.ref w_HORIZONTAL)])) rfl (by rw [hml]; rfl) (Steps.refl _) (argsL := [(.ref b8)]) (rest := []) (lenOf pd_3 rfl) rfl (by show 2 * 0 + _ ≤ _; exact Nat.le_of_eq rfl) (hb hby at_34) (fun _ _ => ⟨rfl, e14, (by decide : 1 + 0 ≤ _), (by decide : 4 + 0 ≤ _)⟩)
  dsimp only [Pt.U, Pt.locs, Pt.cells, Pt.slots] at X17 l17 y17 z17 st17 hQ17
  subst l17 y17 z17
  obtain ⟨rfl, N17q, e17⟩ := hQ17
  have N17 := Fr.app N11 N17q
  have K18 : ∀ t, Steps p.tables e below (T17.setTop (mkF m 37 #[.val (.int p1), .val (.int p2), .val (.int p3), .val (.int p4), .val (.int (f1 p1 p3)), .val (.int (f1 p2 p4)), .val (.ref b8), .unset, .unset] [(.int (f5 w_HORIZONTAL w_HORIZONTAL (f1 p2 p4) (f1 p1 p3)))])) t → Steps p.tables e below (T14.setTop (mkF m 34 #[.val (.int p1), .val (.int p2), .val (.int p3), .val (.int p4), .val (.int (f1 p1 p3)), .val (.int (f1 p2 p4)), .val (.ref b8), .unset, .unset] [(.ref b8), (.ref w_HORIZONTAL)])) t := fun t k => st17.trans k
  have K19 : ∀ t, Steps p.tables e below (T17.setTop (mkF m 39 #[.val (.int p1), .val (.int p2), .val (.int p3), .val (.int p4), .val (.int (f1 p1 p3)), .val (.int (f1 p2 p4)), .val (.ref b8), .val (.int (f5 w_HORIZONTAL w_HORIZONTAL (f1 p2 p4) (f1 p1 p3))), .unset] [])) t → Steps p.tables e below (T17.setTop (mkF m 37 #[.val (.int p1), .val (.int p2), .val (.int p3), .val (.int p4), .val (.int (f1 p1 p3)), .val (.int (f1 p2 p4)), .val (.ref b8), .unset, .unset] [(.int (f5 w_HORIZONTAL w_HORIZONTAL (f1 p2 p4) (f1 p1 p3)))])) t := by
    intro t k
    refine XS.istore X17.here hx rfl (hb hby at_37) rfl (l' := #[.val (.int p1), .val (.int p2), .val (.int p3), .val (.int p4), .val (.int (f1 p1 p3)), .val (.int (f1 p2 p4)), .val (.ref b8), .val (.int (f5 w_HORIZONTAL w_HORIZONTAL (f1 p2 p4) (f1 p1 p3))), .unset]) rfl ?_
    show Steps p.tables e below (T17.setTop (mkF m 39 #[.val (.int p1), .val (.int p2), .val (.int p3), .val (.int p4), .val (.int (f1 p1 p3)), .val (.int (f1 p2 p4)), .val (.ref b8), .val (.int (f5 w_HORIZONTAL w_HORIZONTAL (f1 p2 p4) (f1 p1 p3))), .unset] [])) t
    exact k
  obtain ⟨T20, X20, e20, st20⟩ := getS2 X17 hx hZ hown (host := "") (Or.inl (hw _ (List.mem_of_getElem? (i := 40) rfl))) Via.refl e17 (S_VERTICAL.ext (own_ext KP11)) (g := (mkF m 39 #[.val (.int p1), .val (.int p2), .val (.int p3), .val (.int p4), .val (.int (f1 p1 p3)), .val (.int (f1 p2 p4)), .val (.ref b8), .val (.int (f5 w_HORIZONTAL w_HORIZONTAL (f1 p2 p4) (f1 p1 p3))), .unset] [])) rfl (hb hby at_39)
  have K21 : ∀ t, Steps p.tables e below (T20.setTop (mkF m 42 #[.val (.int p1), .val (.int p2), .val (.int p3), .val (.int p4), .val (.int (f1 p1 p3)), .val (.int (f1 p2 p4)), .val (.ref b8), .val (.int (f5 w_HORIZONTAL w_HORIZONTAL (f1 p2 p4) (f1 p1 p3))), .unset] [(.ref w_VERTICAL)])) t → Steps p.tables e below (T17.setTop (mkF m 39 #[.val (.int p1), .val (.int p2), .val (.int p3), .val (.int p4), .val (.int (f1 p1 p3)), .val (.int (f1 p2 p4)), .val (.ref b8), .val (.int (f5 w_HORIZONTAL w_HORIZONTAL (f1 p2 p4) (f1 p1 p3))), .unset] [])) t := fun t k => st20 _ k
  have K22 : ∀ t, Steps p.tables e below (T20.setTop (mkF m 44 #[.val (.int p1), .val (.int p2), .val (.int p3), .val (.int p4), .val (.int (f1 p1 p3)), .val (.int (f1 p2 p4)), .val (.ref b8), .val (.int (f5 w_HORIZONTAL w_HORIZONTAL (f1 p2 p4) (f1 p1 p3))), .unset] [(.ref b8), (.ref w_VERTICAL)])) t → Steps p.tables e below (T20.setTop (mkF m 42 #[.val (.int p1), .val (.int p2), .val (.int p3), .val (.int p4), .val (.int (f1 p1 p3)), .val (.int (f1 p2 p4)), .val (.ref b8), .val (.int (f5 w_HORIZONTAL w_HORIZONTAL (f1 p2 p4) (f1 p1 p3))), .unset] [(.ref w_VERTICAL)])) t := by
    intro t k
    refine XS.aload X20.here hx rfl (hb hby at_42) rfl rfl ?_
    show Steps p.tables e below (T20.setTop (mkF m 44 #[.val (.int p1), .val (.int p2), .val (.int p3), .val (.int p4), .val (.int (f1 p1 p3)), .val (.int (f1 p2 p4)), .val (.ref b8), .val (.int (f5 w_HORIZONTAL w_HORIZONTAL (f1 p2 p4) (f1 p1 p3))), .unset] [(.ref b8), (.ref w_VERTICAL)])) t
    exact k
  obtain ⟨cq23, kq23, q23a, q23b, q23c⟩ := isOf hZ e20 E11_3
  obtain ⟨_, _, ⟨T23, L23, k23, n23⟩, -, X23, ⟨Lc23, hQ23, l23, y23, z23⟩, st23⟩ := X20.virtualBack hx (y := (⟨"com/example/gutter/gutter/segment/Separator$Orientation", "end", "(Lcom/example/gutter/gutter/layout/Rect;)I"⟩ : MethodName)) (z := (⟨"com/example/gutter/gutter/segment/Separator$Orientation", "end", "(Lcom/example/gutter/gutter/layout/Rect;)I"⟩ : MethodName)) hown (mvT hZ (hw _ (List.mem_of_getElem? (i := 29) rfl))) (mvT hZ (hw _ (List.mem_of_getElem? (i := 30) rfl))) (notFace_of_selects (args := #[]) (mvT hZ (hw _ (List.mem_of_getElem? (i := 32) rfl)))) (mvT hZ (hw _ (List.mem_of_getElem? (i := 32) rfl))) (mvT hZ (hw _ (List.mem_of_getElem? (i := 31) rfl))) (by decide) (backOf (W := 0) (rm5 l Z a0 hw [] w_VERTICAL b8 w_HORIZONTAL (f1 p2 p4) (f1 p1 p3) h11 n0 (Nat.le_trans Z0 KP11.1) (S_HORIZONTAL.ext (own_ext KP11)) R11_0 R11_4 R11_3) hZ (hw _ (List.mem_of_getElem? (i := 33) rfl)) (hw _ (List.mem_of_getElem? (i := 27) rfl)) (by decide) (by decide)) q23a q23c (g := (mkF m 44 #[.val (.int p1), .val (.int p2), .val (.int p3), .val (.int p4), .val (.int (f1 p1 p3)), .val (.int (f1 p2 p4)), .val (.ref b8), .val (.int (f5 w_HORIZONTAL w_HORIZONTAL (f1 p2 p4) (f1 p1 p3))), .unset] [(.ref b8), (.ref w_VERTICAL)])) rfl (by rw [hml]; rfl) (Steps.refl _) (argsL := [(.ref b8)]) (rest := []) (lenOf pd_3 rfl) rfl (by show 2 * 0 + _ ≤ _; exact Nat.le_of_eq rfl) (hb hby at_44) (fun _ _ => ⟨rfl, e20, (by decide : 1 + 0 ≤ _), (by decide : 4 + 0 ≤ _)⟩)
  dsimp only [Pt.U, Pt.locs, Pt.cells, Pt.slots] at X23 l23 y23 z23 st23 hQ23
  subst l23 y23 z23
  obtain ⟨rfl, N23q, e23⟩ := hQ23
  have N23 := Fr.app N17 N23q
  have K24 : ∀ t, Steps p.tables e below (T23.setTop (mkF m 47 #[.val (.int p1), .val (.int p2), .val (.int p3), .val (.int p4), .val (.int (f1 p1 p3)), .val (.int (f1 p2 p4)), .val (.ref b8), .val (.int (f5 w_HORIZONTAL w_HORIZONTAL (f1 p2 p4) (f1 p1 p3))), .unset] [(.int (f5 w_VERTICAL w_HORIZONTAL (f1 p2 p4) (f1 p1 p3)))])) t → Steps p.tables e below (T20.setTop (mkF m 44 #[.val (.int p1), .val (.int p2), .val (.int p3), .val (.int p4), .val (.int (f1 p1 p3)), .val (.int (f1 p2 p4)), .val (.ref b8), .val (.int (f5 w_HORIZONTAL w_HORIZONTAL (f1 p2 p4) (f1 p1 p3))), .unset] [(.ref b8), (.ref w_VERTICAL)])) t := fun t k => st23.trans k
  have K25 : ∀ t, Steps p.tables e below (T23.setTop (mkF m 53 #[.val (.int p1), .val (.int p2), .val (.int p3), .val (.int p4), .val (.int (f1 p1 p3)), .val (.int (f1 p2 p4)), .val (.ref b8), .val (.int (f5 w_HORIZONTAL w_HORIZONTAL (f1 p2 p4) (f1 p1 p3))), .val (.int (f5 w_VERTICAL w_HORIZONTAL (f1 p2 p4) (f1 p1 p3)))] [(.int (f1 p2 p4)), (.int (f5 w_HORIZONTAL w_HORIZONTAL (f1 p2 p4) (f1 p1 p3)))])) t → Steps p.tables e below (T23.setTop (mkF m 47 #[.val (.int p1), .val (.int p2), .val (.int p3), .val (.int p4), .val (.int (f1 p1 p3)), .val (.int (f1 p2 p4)), .val (.ref b8), .val (.int (f5 w_HORIZONTAL w_HORIZONTAL (f1 p2 p4) (f1 p1 p3))), .unset] [(.int (f5 w_VERTICAL w_HORIZONTAL (f1 p2 p4) (f1 p1 p3)))])) t := by
    intro t k
    refine XS.istore X23.here hx rfl (hb hby at_47) rfl (l' := #[.val (.int p1), .val (.int p2), .val (.int p3), .val (.int p4), .val (.int (f1 p1 p3)), .val (.int (f1 p2 p4)), .val (.ref b8), .val (.int (f5 w_HORIZONTAL w_HORIZONTAL (f1 p2 p4) (f1 p1 p3))), .val (.int (f5 w_VERTICAL w_HORIZONTAL (f1 p2 p4) (f1 p1 p3)))]) rfl ?_
    show Steps p.tables e below (T23.setTop (mkF m 49 #[.val (.int p1), .val (.int p2), .val (.int p3), .val (.int p4), .val (.int (f1 p1 p3)), .val (.int (f1 p2 p4)), .val (.ref b8), .val (.int (f5 w_HORIZONTAL w_HORIZONTAL (f1 p2 p4) (f1 p1 p3))), .val (.int (f5 w_VERTICAL w_HORIZONTAL (f1 p2 p4) (f1 p1 p3)))] [])) t
    refine XS.iload X23.here hx rfl (hb hby at_49) rfl ?_
    show Steps p.tables e below (T23.setTop (mkF m 51 #[.val (.int p1), .val (.int p2), .val (.int p3), .val (.int p4), .val (.int (f1 p1 p3)), .val (.int (f1 p2 p4)), .val (.ref b8), .val (.int (f5 w_HORIZONTAL w_HORIZONTAL (f1 p2 p4) (f1 p1 p3))), .val (.int (f5 w_VERTICAL w_HORIZONTAL (f1 p2 p4) (f1 p1 p3)))] [(.int (f5 w_HORIZONTAL w_HORIZONTAL (f1 p2 p4) (f1 p1 p3)))])) t
    refine XS.iload X23.here hx rfl (hb hby at_51) rfl ?_
    show Steps p.tables e below (T23.setTop (mkF m 53 #[.val (.int p1), .val (.int p2), .val (.int p3), .val (.int p4), .val (.int (f1 p1 p3)), .val (.int (f1 p2 p4)), .val (.ref b8), .val (.int (f5 w_HORIZONTAL w_HORIZONTAL (f1 p2 p4) (f1 p1 p3))), .val (.int (f5 w_VERTICAL w_HORIZONTAL (f1 p2 p4) (f1 p1 p3)))] [(.int (f1 p2 p4)), (.int (f5 w_HORIZONTAL w_HORIZONTAL (f1 p2 p4) (f1 p1 p3)))])) t
    exact k
  by_cases hc26 : (f5 w_HORIZONTAL w_HORIZONTAL (f1 p2 p4) (f1 p1 p3)) = (f1 p2 p4)
  · have K27 : ∀ t, Steps p.tables e below (T23.setTop (mkF m 56 #[.val (.int p1), .val (.int p2), .val (.int p3), .val (.int p4), .val (.int (f1 p1 p3)), .val (.int (f1 p2 p4)), .val (.ref b8), .val (.int (f5 w_HORIZONTAL w_HORIZONTAL (f1 p2 p4) (f1 p1 p3))), .val (.int (f5 w_VERTICAL w_HORIZONTAL (f1 p2 p4) (f1 p1 p3)))] [])) t → Steps p.tables e below (T23.setTop (mkF m 53 #[.val (.int p1), .val (.int p2), .val (.int p3), .val (.int p4), .val (.int (f1 p1 p3)), .val (.int (f1 p2 p4)), .val (.ref b8), .val (.int (f5 w_HORIZONTAL w_HORIZONTAL (f1 p2 p4) (f1 p1 p3))), .val (.int (f5 w_VERTICAL w_HORIZONTAL (f1 p2 p4) (f1 p1 p3)))] [(.int (f1 p2 p4)), (.int (f5 w_HORIZONTAL w_HORIZONTAL (f1 p2 p4) (f1 p1 p3)))])) t := by
      intro t k
      refine XS.icmpNo X23.here hx rfl (hb hby at_53) rfl (teq hc26).2 ?_
      exact k
    have K28 : ∀ t, Steps p.tables e below (T23.setTop (mkF m 60 #[.val (.int p1), .val (.int p2), .val (.int p3), .val (.int p4), .val (.int (f1 p1 p3)), .val (.int (f1 p2 p4)), .val (.ref b8), .val (.int (f5 w_HORIZONTAL w_HORIZONTAL (f1 p2 p4) (f1 p1 p3))), .val (.int (f5 w_VERTICAL w_HORIZONTAL (f1 p2 p4) (f1 p1 p3)))] [(.int (f1 p1 p3)), (.int (f5 w_VERTICAL w_HORIZONTAL (f1 p2 p4) (f1 p1 p3)))])) t → Steps p.tables e below (T23.setTop (mkF m 56 #[.val (.int p1), .val (.int p2), .val (.int p3), .val (.int p4), .val (.int (f1 p1 p3)), .val (.int (f1 p2 p4)), .val (.ref b8), .val (.int (f5 w_HORIZONTAL w_HORIZONTAL (f1 p2 p4) (f1 p1 p3))), .val (.int (f5 w_VERTICAL w_HORIZONTAL (f1 p2 p4) (f1 p1 p3)))] [])) t := by
      intro t k
      refine XS.iload X23.here hx rfl (hb hby at_56) rfl ?_
      show Steps p.tables e below (T23.setTop (mkF m 58 #[.val (.int p1), .val (.int p2), .val (.int p3), .val (.int p4), .val (.int (f1 p1 p3)), .val (.int (f1 p2 p4)), .val (.ref b8), .val (.int (f5 w_HORIZONTAL w_HORIZONTAL (f1 p2 p4) (f1 p1 p3))), .val (.int (f5 w_VERTICAL w_HORIZONTAL (f1 p2 p4) (f1 p1 p3)))] [(.int (f5 w_VERTICAL w_HORIZONTAL (f1 p2 p4) (f1 p1 p3)))])) t
      refine XS.iload X23.here hx rfl (hb hby at_58) rfl ?_
      show Steps p.tables e below (T23.setTop (mkF m 60 #[.val (.int p1), .val (.int p2), .val (.int p3), .val (.int p4), .val (.int (f1 p1 p3)), .val (.int (f1 p2 p4)), .val (.ref b8), .val (.int (f5 w_HORIZONTAL w_HORIZONTAL (f1 p2 p4) (f1 p1 p3))), .val (.int (f5 w_VERTICAL w_HORIZONTAL (f1 p2 p4) (f1 p1 p3)))] [(.int (f1 p1 p3)), (.int (f5 w_VERTICAL w_HORIZONTAL (f1 p2 p4) (f1 p1 p3)))])) t
      exact k
    by_cases hc29 : (f5 w_VERTICAL w_HORIZONTAL (f1 p2 p4) (f1 p1 p3)) = (f1 p1 p3)
    · have K30 : ∀ t, Steps p.tables e below (T23.setTop (mkF m 63 #[.val (.int p1), .val (.int p2), .val (.int p3), .val (.int p4), .val (.int (f1 p1 p3)), .val (.int (f1 p2 p4)), .val (.ref b8), .val (.int (f5 w_HORIZONTAL w_HORIZONTAL (f1 p2 p4) (f1 p1 p3))), .val (.int (f5 w_VERTICAL w_HORIZONTAL (f1 p2 p4) (f1 p1 p3)))] [])) t → Steps p.tables e below (T23.setTop (mkF m 60 #[.val (.int p1), .val (.int p2), .val (.int p3), .val (.int p4), .val (.int (f1 p1 p3)), .val (.int (f1 p2 p4)), .val (.ref b8), .val (.int (f5 w_HORIZONTAL w_HORIZONTAL (f1 p2 p4) (f1 p1 p3))), .val (.int (f5 w_VERTICAL w_HORIZONTAL (f1 p2 p4) (f1 p1 p3)))] [(.int (f1 p1 p3)), (.int (f5 w_VERTICAL w_HORIZONTAL (f1 p2 p4) (f1 p1 p3)))])) t := by
        intro t k
        refine XS.icmpNo X23.here hx rfl (hb hby at_60) rfl (teq hc29).2 ?_
        exact k
      have K31 : ∀ t, Steps p.tables e below (T23.setTop (mkF m 68 #[.val (.int p1), .val (.int p2), .val (.int p3), .val (.int p4), .val (.int (f1 p1 p3)), .val (.int (f1 p2 p4)), .val (.ref b8), .val (.int (f5 w_HORIZONTAL w_HORIZONTAL (f1 p2 p4) (f1 p1 p3))), .val (.int (f5 w_VERTICAL w_HORIZONTAL (f1 p2 p4) (f1 p1 p3)))] [(.int (1 : Int32))])) t → Steps p.tables e below (T23.setTop (mkF m 63 #[.val (.int p1), .val (.int p2), .val (.int p3), .val (.int p4), .val (.int (f1 p1 p3)), .val (.int (f1 p2 p4)), .val (.ref b8), .val (.int (f5 w_HORIZONTAL w_HORIZONTAL (f1 p2 p4) (f1 p1 p3))), .val (.int (f5 w_VERTICAL w_HORIZONTAL (f1 p2 p4) (f1 p1 p3)))] [])) t := by
        intro t k
        refine XS.iconst X23.here hx rfl (hb hby at_63) ?_
        show Steps p.tables e below (T23.setTop (mkF m 64 #[.val (.int p1), .val (.int p2), .val (.int p3), .val (.int p4), .val (.int (f1 p1 p3)), .val (.int (f1 p2 p4)), .val (.ref b8), .val (.int (f5 w_HORIZONTAL w_HORIZONTAL (f1 p2 p4) (f1 p1 p3))), .val (.int (f5 w_VERTICAL w_HORIZONTAL (f1 p2 p4) (f1 p1 p3)))] [(.int (1 : Int32))])) t
        refine XS.goto X23.here hx rfl (pc0 := 64) (pc' := 68) rfl (hb hby at_64) (by decide) (by decide) ?_
        show Steps p.tables e below (T23.setTop (mkF m 68 #[.val (.int p1), .val (.int p2), .val (.int p3), .val (.int p4), .val (.int (f1 p1 p3)), .val (.int (f1 p2 p4)), .val (.ref b8), .val (.int (f5 w_HORIZONTAL w_HORIZONTAL (f1 p2 p4) (f1 p1 p3))), .val (.int (f5 w_VERTICAL w_HORIZONTAL (f1 p2 p4) (f1 p1 p3)))] [(.int (1 : Int32))])) t
        exact k
      obtain ⟨fs, hr, hrun, hended, hW, hsame⟩ := X23.leave (v := some (.int (1 : Int32))) (fun h => by rw [Bd.returns] at h; cases h)
      refine ⟨_, _, pre0 _ (K1 _ (K3 _ (K4 _ (K6 _ (K7 _ (K9 _ (K10 _ (K12 _ (K13 _ (K15 _ (K16 _ (K18 _ (K19 _ (K21 _ (K22 _ (K24 _ (K25 _ (K27 _ (K28 _ (K30 _ (K31 _ (retN X23 hx (t := .boolean) Bd.returns (by simp) (hb hby at_68) hr)))))))))))))))))))))), hrun, hended, _, _, rfl, ?_, ⟨_, rfl⟩, hW, hsame.mono (by decide) (by decide)⟩
      show Q0 Z p1 p2 p3 p4 w_HORIZONTAL w_VERTICAL h0 n0 _ T23.heap _
      rw [e23]
      exact ⟨congrArg (fun z => some (Value.int z)) (show (1 : Int32) = f0 p1 p2 p3 p4 w_HORIZONTAL w_VERTICAL from Eq.symm ((if_pos hc26).trans (if_pos hc29))), N23, KP11⟩
    · have K32 : ∀ t, Steps p.tables e below (T23.setTop (mkF m 67 #[.val (.int p1), .val (.int p2), .val (.int p3), .val (.int p4), .val (.int (f1 p1 p3)), .val (.int (f1 p2 p4)), .val (.ref b8), .val (.int (f5 w_HORIZONTAL w_HORIZONTAL (f1 p2 p4) (f1 p1 p3))), .val (.int (f5 w_VERTICAL w_HORIZONTAL (f1 p2 p4) (f1 p1 p3)))] [])) t → Steps p.tables e below (T23.setTop (mkF m 60 #[.val (.int p1), .val (.int p2), .val (.int p3), .val (.int p4), .val (.int (f1 p1 p3)), .val (.int (f1 p2 p4)), .val (.ref b8), .val (.int (f5 w_HORIZONTAL w_HORIZONTAL (f1 p2 p4) (f1 p1 p3))), .val (.int (f5 w_VERTICAL w_HORIZONTAL (f1 p2 p4) (f1 p1 p3)))] [(.int (f1 p1 p3)), (.int (f5 w_VERTICAL w_HORIZONTAL (f1 p2 p4) (f1 p1 p3)))])) t := by
        intro t k
        refine XS.icmpYes X23.here hx rfl (pc0 := 60) (pc' := 67) rfl (hb hby at_60) rfl (feq hc29).2 (by decide) (by decide) ?_
        exact k
      have K33 : ∀ t, Steps p.tables e below (T23.setTop (mkF m 68 #[.val (.int p1), .val (.int p2), .val (.int p3), .val (.int p4), .val (.int (f1 p1 p3)), .val (.int (f1 p2 p4)), .val (.ref b8), .val (.int (f5 w_HORIZONTAL w_HORIZONTAL (f1 p2 p4) (f1 p1 p3))), .val (.int (f5 w_VERTICAL w_HORIZONTAL (f1 p2 p4) (f1 p1 p3)))] [(.int (0 : Int32))])) t → Steps p.tables e below (T23.setTop (mkF m 67 #[.val (.int p1), .val (.int p2), .val (.int p3), .val (.int p4), .val (.int (f1 p1 p3)), .val (.int (f1 p2 p4)), .val (.ref b8), .val (.int (f5 w_HORIZONTAL w_HORIZONTAL (f1 p2 p4) (f1 p1 p3))), .val (.int (f5 w_VERTICAL w_HORIZONTAL (f1 p2 p4) (f1 p1 p3)))] [])) t := by
        intro t k
        refine XS.iconst X23.here hx rfl (hb hby at_67) ?_
        show Steps p.tables e below (T23.setTop (mkF m 68 #[.val (.int p1), .val (.int p2), .val (.int p3), .val (.int p4), .val (.int (f1 p1 p3)), .val (.int (f1 p2 p4)), .val (.ref b8), .val (.int (f5 w_HORIZONTAL w_HORIZONTAL (f1 p2 p4) (f1 p1 p3))), .val (.int (f5 w_VERTICAL w_HORIZONTAL (f1 p2 p4) (f1 p1 p3)))] [(.int (0 : Int32))])) t
        exact k
      obtain ⟨fs, hr, hrun, hended, hW, hsame⟩ := X23.leave (v := some (.int (0 : Int32))) (fun h => by rw [Bd.returns] at h; cases h)
      refine ⟨_, _, pre0 _ (K1 _ (K3 _ (K4 _ (K6 _ (K7 _ (K9 _ (K10 _ (K12 _ (K13 _ (K15 _ (K16 _ (K18 _ (K19 _ (K21 _ (K22 _ (K24 _ (K25 _ (K27 _ (K28 _ (K32 _ (K33 _ (retN X23 hx (t := .boolean) Bd.returns (by simp) (hb hby at_68) hr)))))))))))))))))))))), hrun, hended, _, _, rfl, ?_, ⟨_, rfl⟩, hW, hsame.mono (by decide) (by decide)⟩
      show Q0 Z p1 p2 p3 p4 w_HORIZONTAL w_VERTICAL h0 n0 _ T23.heap _
      rw [e23]
      exact ⟨congrArg (fun z => some (Value.int z)) (show (0 : Int32) = f0 p1 p2 p3 p4 w_HORIZONTAL w_VERTICAL from Eq.symm ((if_pos hc26).trans (if_neg hc29))), N23, KP11⟩
  · have K34 : ∀ t, Steps p.tables e below (T23.setTop (mkF m 67 #[.val (.int p1), .val (.int p2), .val (.int p3), .val (.int p4), .val (.int (f1 p1 p3)), .val (.int (f1 p2 p4)), .val (.ref b8), .val (.int (f5 w_HORIZONTAL w_HORIZONTAL (f1 p2 p4) (f1 p1 p3))), .val (.int (f5 w_VERTICAL w_HORIZONTAL (f1 p2 p4) (f1 p1 p3)))] [])) t → Steps p.tables e below (T23.setTop (mkF m 53 #[.val (.int p1), .val (.int p2), .val (.int p3), .val (.int p4), .val (.int (f1 p1 p3)), .val (.int (f1 p2 p4)), .val (.ref b8), .val (.int (f5 w_HORIZONTAL w_HORIZONTAL (f1 p2 p4) (f1 p1 p3))), .val (.int (f5 w_VERTICAL w_HORIZONTAL (f1 p2 p4) (f1 p1 p3)))] [(.int (f1 p2 p4)), (.int (f5 w_HORIZONTAL w_HORIZONTAL (f1 p2 p4) (f1 p1 p3)))])) t := by
      intro t k
      refine XS.icmpYes X23.here hx rfl (pc0 := 53) (pc' := 67) rfl (hb hby at_53) rfl (feq hc26).2 (by decide) (by decide) ?_
      exact k
    have K35 : ∀ t, Steps p.tables e below (T23.setTop (mkF m 68 #[.val (.int p1), .val (.int p2), .val (.int p3), .val (.int p4), .val (.int (f1 p1 p3)), .val (.int (f1 p2 p4)), .val (.ref b8), .val (.int (f5 w_HORIZONTAL w_HORIZONTAL (f1 p2 p4) (f1 p1 p3))), .val (.int (f5 w_VERTICAL w_HORIZONTAL (f1 p2 p4) (f1 p1 p3)))] [(.int (0 : Int32))])) t → Steps p.tables e below (T23.setTop (mkF m 67 #[.val (.int p1), .val (.int p2), .val (.int p3), .val (.int p4), .val (.int (f1 p1 p3)), .val (.int (f1 p2 p4)), .val (.ref b8), .val (.int (f5 w_HORIZONTAL w_HORIZONTAL (f1 p2 p4) (f1 p1 p3))), .val (.int (f5 w_VERTICAL w_HORIZONTAL (f1 p2 p4) (f1 p1 p3)))] [])) t := by
      intro t k
      refine XS.iconst X23.here hx rfl (hb hby at_67) ?_
      show Steps p.tables e below (T23.setTop (mkF m 68 #[.val (.int p1), .val (.int p2), .val (.int p3), .val (.int p4), .val (.int (f1 p1 p3)), .val (.int (f1 p2 p4)), .val (.ref b8), .val (.int (f5 w_HORIZONTAL w_HORIZONTAL (f1 p2 p4) (f1 p1 p3))), .val (.int (f5 w_VERTICAL w_HORIZONTAL (f1 p2 p4) (f1 p1 p3)))] [(.int (0 : Int32))])) t
      exact k
    obtain ⟨fs, hr, hrun, hended, hW, hsame⟩ := X23.leave (v := some (.int (0 : Int32))) (fun h => by rw [Bd.returns] at h; cases h)
    refine ⟨_, _, pre0 _ (K1 _ (K3 _ (K4 _ (K6 _ (K7 _ (K9 _ (K10 _ (K12 _ (K13 _ (K15 _ (K16 _ (K18 _ (K19 _ (K21 _ (K22 _ (K24 _ (K25 _ (K34 _ (K35 _ (retN X23 hx (t := .boolean) Bd.returns (by simp) (hb hby at_68) hr)))))))))))))))))))), hrun, hended, _, _, rfl, ?_, ⟨_, rfl⟩, hW, hsame.mono (by decide) (by decide)⟩
    show Q0 Z p1 p2 p3 p4 w_HORIZONTAL w_VERTICAL h0 n0 _ T23.heap _
    rw [e23]
    exact ⟨congrArg (fun z => some (Value.int z)) (show (0 : Int32) = f0 p1 p2 p3 p4 w_HORIZONTAL w_VERTICAL from Eq.symm (if_neg hc26)), N23, KP11⟩
theorem plain (a b c d : Int32) (h v : Addr) (q : v ≠ h) : f0 a b c d h v = 1 := by
  have h1 : f5 h h (f1 b d) (f1 a c) = f1 b d := if_pos rfl
  have h2 : f5 v h (f1 b d) (f1 a c) = f1 a c := if_neg q
  exact (if_pos h1).trans (if_pos h2)
set_option maxRecDepth 65536 in
set_option maxHeartbeats 40000000 in
theorem comes_1 {Post : Tables → Env → Array Value → State → Outcome → State → Prop} (hpost : ∀ tb e args s v u, (limb_1_1.after args s (.returned v) u = true ∧ limb_1_2.after args s (.returned v) u = true ∧ True) → FrameEnd s (.returned v) u (Jvm.fieldLocs frame_1_writes args s ++ Jvm.arrayLocs frame_1_arrays args s ++ Jvm.staticLocs frame_1_statics s) 16 128 → Post tb e args s (.returned v) u) :
    ArmFor flags0 classFile x code maxLocals ret World_1 tables_1 room_1 Calls_1 rest_1 Pre_1 Post := by
  intro l hfl _ _ p e ha hc hk s m args below hf hA hF happ hP
  obtain ⟨hcalls, hrest, hpre⟩ := hP
  obtain ⟨-, -, -, hnamed, -, -, -, hat⟩ := (Spec.applies_iff hf).mp happ
  obtain ⟨hg, hn⟩ := and_e (Cond.before_iff.mp (show (Jvm.Cond.and given_1 narrow_1).before args s = true from hpre))
  obtain ⟨gc, g0⟩ := and_e hg
  obtain ⟨gi0, g1⟩ := and_e g0
  obtain ⟨gi1, g2⟩ := and_e g1
  obtain ⟨gi2, g3⟩ := and_e g2
  have gi3 := g3
  obtain ⟨w0, w1, w2, w3, rfl⟩ : ∃ w0 w1 w2 w3 : Value, args = #[w0, w1, w2, w3] := by
    have hs : args.size = 4 := by simpa [Cond.value, given_1] using gc
    obtain ⟨L⟩ := args
    match L, hs with
    | [w0, w1, w2, w3], _ => exact ⟨w0, w1, w2, w3, rfl⟩
  have hw := fun d (hd : d ∈ tables_1) => atoms_spec (ws := Jvm.Cond.code x code maxLocals ret :: tables_1) hat d (List.mem_cons_of_mem _ hd)
  have hfit : Fit s := fun {y c} hc i hi => by
    obtain ⟨ha, rfl⟩ := Array.getElem?_eq_some_iff.mp hc
    have q := List.all_eq_true.mp ((Array.all_eq_true_iff_forall_mem.mp hF) _ (Array.getElem_mem ha)) i (List.mem_range.mpr hi)
    simpa [Array.getElem?_eq_getElem hi] using q
  obtain ⟨i0, ei0⟩ := is_v gi0
  obtain rfl : w0 = (.int i0) := Option.some.inj ei0
  obtain ⟨i1, ei1⟩ := is_v gi1
  obtain rfl : w1 = (.int i1) := Option.some.inj ei1
  obtain ⟨i2, ei2⟩ := is_v gi2
  obtain rfl : w2 = (.int i2) := Option.some.inj ei2
  obtain ⟨i3, ei3⟩ := is_v gi3
  obtain rfl : w3 = (.int i3) := Option.some.inj ei3
  obtain ⟨hm0, hn0⟩ := and_e hn
  obtain ⟨hm1, hn1⟩ := and_e hn0
  obtain ⟨hm2, hn2⟩ := and_e hn1
  obtain ⟨w_HORIZONTAL, ev_HORIZONTAL⟩ := exa_v hm0
  have E_w_HORIZONTAL : Exa s s.heap w_HORIZONTAL "com/example/gutter/gutter/segment/Separator$Orientation" := Exa.start ev_HORIZONTAL hm0
  have S_HORIZONTAL : Sta s s.heap "com/example/gutter/gutter/segment/Separator$Orientation" "HORIZONTAL" "Lcom/example/gutter/gutter/segment/Separator$Orientation;" (.ref w_HORIZONTAL) := Sta.start ev_HORIZONTAL (Or.inr ⟨(hw _ (List.mem_of_getElem? (i := 27) rfl)), (hw _ (List.mem_of_getElem? (i := 28) rfl))⟩)
  obtain ⟨w_VERTICAL, ev_VERTICAL⟩ := exa_v hm1
  have E_w_VERTICAL : Exa s s.heap w_VERTICAL "com/example/gutter/gutter/segment/Separator$Orientation" := Exa.start ev_VERTICAL hm1
  have S_VERTICAL : Sta s s.heap "com/example/gutter/gutter/segment/Separator$Orientation" "VERTICAL" "Lcom/example/gutter/gutter/segment/Separator$Orientation;" (.ref w_VERTICAL) := Sta.start ev_VERTICAL (Or.inr ⟨(hw _ (List.mem_of_getElem? (i := 27) rfl)), (hw _ (List.mem_of_getElem? (i := 41) rfl))⟩)
  have F_ordinal_VERTICAL : Fld s s.heap w_VERTICAL "java/lang/Enum" "ordinal" "I" (.int (1 : Int32)) := own_fld ev_VERTICAL hm2
  have F_ordinal_HORIZONTAL : Fld s s.heap w_HORIZONTAL "java/lang/Enum" "ordinal" "I" (.int (0 : Int32)) := own_fld ev_HORIZONTAL hn2
  obtain ⟨n, o, h1, h2, h3, v, L, rfl, ⟨hv, N, -⟩, hq⟩ := rm0 l s _ hw tables_1 i0 i1 i2 i3 w_HORIZONTAL w_VERTICAL s.heap s.heap.size (Nat.le_refl _) S_HORIZONTAL E_w_HORIZONTAL S_VERTICAL E_w_VERTICAL p e ha hc hk s m _ below hf ((Spec.applies_iff_loose hf).mp happ).1 ⟨rfl, State.Warmed39.refl s, rfl⟩ trivial
  rw [plain i0 i1 i2 i3 w_HORIZONTAL w_VERTICAL (Fld.ne F_ordinal_VERTICAL F_ordinal_HORIZONTAL (by decide))] at hv
  subst hv
  refine ⟨n, _, h1, h2, h3, hpost _ _ _ _ _ _ ⟨Cond.after_iff.mpr rfl, Cond.after_iff.mpr (eq_i res_at (Term.int_eval (1)) rfl), trivial⟩ ⟨hq.1, hq.2.1, (hq.2.2.sift fun y hy => Or.inr (N y hy)).mono (by decide) (by decide)⟩⟩
theorem main_1_1 : Claimed_1_1 := comes_1 fun _ _ _ _ _ _ h hF => ⟨h.1, hF⟩
theorem main_1_2 : Claimed_1_2 := comes_1 fun _ _ _ _ _ _ h hF => ⟨h.2.1, hF⟩
end Jvm.Pilot.@@N@@
namespace Jvm.Pilot.@@N@@
open Jvm Jvm.ClassFile Sem Op Lib Jvm.Free Jvm.Stand Jvm.Pilot.@@N@@.Jvm.D
/-! MADE BY PROGRAM (witnessworld.py) out of the Statement's table words and the real class files: 15 classes; the members and pool entries that the words name. The judged class is class 1, her method 1. -/
namespace start1
open Jvm.ClassFile
def u (s : String) : CpInfo := .utf8 (stringToUtf16 s)
/-- a pool by its gaps: so many unusable entries, then the entry; so many at the end -/
def gap : Nat → List CpInfo → List CpInfo
  | 0, r => r
  | n + 1, r => .unusable :: gap n r
def poolList (es : List (Nat × CpInfo)) (last : Nat) : List CpInfo := es.foldr (fun e r => gap e.1 (e.2 :: r)) (gap last [])
def pool (es : List (Nat × CpInfo)) (last : Nat) : Array CpInfo := ⟨poolList es last⟩
def fileOf (pool : Array CpInfo) (this : Nat) (attrs : Array Attribute := #[]) (ms : Array MethodInfo := #[]) (fl : Nat := 33) (sup : Nat := 0) (ifs : Array Nat := #[]) (fds : Array FieldInfo := #[]) : ClassFile where
  minorVersion := 0
  majorVersion := 65
  constantPool := pool
  accessFlags := fl
  thisClass := this
  superClass := sup
  interfaces := ifs
  fields := fds
  methods := ms
  attributes := attrs
def plain (name : String) (sup : Option ClassId) : Class where
  name := name
  kind := .ordinary
  loader := none
  accessFlags := 33
  super := sup
  interfaces := #[]
  cf := none
  fields := #[]
  methods := #[]
  instanceTypes := #[]
  staticTypes := #[]
  resolved := #[]
  callSites := []
  init := .initialized
  statics := none
  mirror := none

def pool0 : Array CpInfo := pool [(5, u "<init>"), (0, u "()V"), (1, .class_ 10), (1, u "java/lang/Object")] 113

def k0c0 : Code := { maxStack := 0, maxLocals := 1, code := object_method_1_code, exceptionTable := #[], attributes := #[] }
def k0m0 : Method := { name := "<init>", desc := "()V", sig := { parameters := [], returnType := none }, accessFlags := 1, code := some k0c0 }
/-- java/lang/Object -/
def k0 : Class := { plain "java/lang/Object" none with
  accessFlags := 33
  interfaces := #[]
  cf := some (fileOf pool0 8 #[] #[{ accessFlags := 1, nameIndex := 5, descriptorIndex := 6, attributes := #[] }] 33 0 #[] #[])
  fields := #[]
  methods := #[k0m0]
  instanceTypes := #[]
  staticTypes := #[]
  resolved := Array.replicate 124 none
  statics := none }

def pool1 : Array CpInfo := pool [(2, .class_ 4), (1, u "java/lang/Object"), (0, u "<init>"), (0, u "()V"), (0, .methodref 8 9), (0, .class_ 10), (0, .nameAndType 11 12), (0, u "java/lang/Math"), (0, u "max"), (0, u "(II)I"), (0, .class_ 14), (0, u "com/example/gutter/gutter/layout/Rect"), (0, .methodref 13 16), (0, .nameAndType 5 17), (0, u "(IIII)V"), (0, .fieldref 19 20), (0, .class_ 21), (0, .nameAndType 22 23), (0, u "com/example/gutter/gutter/segment/Separator$Orientation"), (0, u "HORIZONTAL"), (0, u "Lcom/example/gutter/gutter/segment/Separator$Orientation;"), (0, .methodref 19 25), (0, .nameAndType 26 27), (0, u "end"), (0, u "(Lcom/example/gutter/gutter/layout/Rect;)I"), (0, .fieldref 19 29), (0, .nameAndType 30 23), (0, u "VERTICAL"), (0, .class_ 32), (0, u "com/example/gutter/gutter/segment/OrientationEndPinLaw"), (2, u "law"), (0, u "(IIII)Z")] 7

def k1m0 : Method := { name := "<init>", desc := "()V", sig := { parameters := [], returnType := none }, accessFlags := 1, code := none }
def k1c1 : Code := { maxStack := 6, maxLocals := 9, code := code, exceptionTable := #[], attributes := #[] }
def k1m1 : Method := { name := "law", desc := "(IIII)Z", sig := { parameters := [.int, .int, .int, .int], returnType := some .boolean }, accessFlags := 9, code := some k1c1 }
/-- com/example/gutter/gutter/segment/OrientationEndPinLaw -/
def k1 : Class := { plain "com/example/gutter/gutter/segment/OrientationEndPinLaw" (some 0) with
  accessFlags := 49
  interfaces := #[]
  cf := some (fileOf pool1 31 #[] #[{ accessFlags := 1, nameIndex := 5, descriptorIndex := 6, attributes := #[] }, { accessFlags := 9, nameIndex := 35, descriptorIndex := 36, attributes := #[] }] 49 2 #[] #[])
  fields := #[]
  methods := #[k1m0, k1m1]
  instanceTypes := #[]
  staticTypes := #[]
  resolved := Array.replicate 44 none
  statics := none }

def pool2 : Array CpInfo := pool [(1, .class_ 2), (0, u "java/lang/Math"), (1, .class_ 6), (1, u "java/lang/Object"), (0, u "<init>"), (0, u "()V"), (89, .class_ 100), (1, u "java/lang/Math$RandomNumberGeneratorHolder"), (71, u "negativeZeroFloatBits"), (0, u "J"), (2, u "negativeZeroDoubleBits"), (21, u "max"), (46, u "$assertionsDisabled"), (0, u "Z"), (88, u "(II)I"), (2, u "twoToTheDoubleScaleDown"), (0, u "D"), (4, u "twoToTheDoubleScaleUp"), (9, u "E"), (3, u "PI"), (2, u "TAU"), (2, u "DEGREES_TO_RADIANS"), (0, u "RADIANS_TO_DEGREES")] 94

def k2m0 : Method := { name := "<init>", desc := "()V", sig := { parameters := [], returnType := none }, accessFlags := 2, code := none }
def k2c1 : Code := { maxStack := 2, maxLocals := 2, code := jdk_29_method_65_code, exceptionTable := #[], attributes := #[] }
def k2m1 : Method := { name := "max", desc := "(II)I", sig := { parameters := [.int, .int], returnType := some .int }, accessFlags := 9, code := some k2c1 }
/-- java/lang/Math -/
def k2 : Class := { plain "java/lang/Math" (some 0) with
  accessFlags := 49
  interfaces := #[]
  cf := some (fileOf pool2 1 #[.nestMembers #[98]] #[{ accessFlags := 2, nameIndex := 7, descriptorIndex := 8, attributes := #[] }, { accessFlags := 9, nameIndex := 198, descriptorIndex := 335, attributes := #[] }] 49 4 #[] #[{ accessFlags := 25, nameIndex := 354, descriptorIndex := 339, attributes := #[] }, { accessFlags := 25, nameIndex := 358, descriptorIndex := 339, attributes := #[] }, { accessFlags := 25, nameIndex := 361, descriptorIndex := 339, attributes := #[] }, { accessFlags := 26, nameIndex := 364, descriptorIndex := 339, attributes := #[] }, { accessFlags := 26, nameIndex := 365, descriptorIndex := 339, attributes := #[] }, { accessFlags := 26, nameIndex := 172, descriptorIndex := 173, attributes := #[] }, { accessFlags := 26, nameIndex := 176, descriptorIndex := 173, attributes := #[] }, { accessFlags := 8, nameIndex := 344, descriptorIndex := 339, attributes := #[] }, { accessFlags := 8, nameIndex := 338, descriptorIndex := 339, attributes := #[] }, { accessFlags := 4120, nameIndex := 245, descriptorIndex := 246, attributes := #[] }])
  fields := #[{ name := "E", type := .double, accessFlags := 25, slot := 0, constantValue := 0 }, { name := "PI", type := .double, accessFlags := 25, slot := 1, constantValue := 0 }, { name := "TAU", type := .double, accessFlags := 25, slot := 2, constantValue := 0 }, { name := "DEGREES_TO_RADIANS", type := .double, accessFlags := 26, slot := 3, constantValue := 0 }, { name := "RADIANS_TO_DEGREES", type := .double, accessFlags := 26, slot := 4, constantValue := 0 }, { name := "negativeZeroFloatBits", type := .long, accessFlags := 26, slot := 5, constantValue := 0 }, { name := "negativeZeroDoubleBits", type := .long, accessFlags := 26, slot := 6, constantValue := 0 }, { name := "twoToTheDoubleScaleUp", type := .double, accessFlags := 8, slot := 7, constantValue := 0 }, { name := "twoToTheDoubleScaleDown", type := .double, accessFlags := 8, slot := 8, constantValue := 0 }, { name := "$assertionsDisabled", type := .boolean, accessFlags := 4120, slot := 9, constantValue := 0 }]
  methods := #[k2m0, k2m1]
  instanceTypes := #[]
  staticTypes := #[.double, .double, .double, .double, .double, .long, .long, .double, .double, .boolean]
  resolved := Array.replicate 460 none
  statics := none }

def pool3 : Array CpInfo := pool [(1, .methodref 2 3), (0, .class_ 4), (0, .nameAndType 5 6), (0, u "java/lang/Object"), (0, u "<init>"), (0, u "()V"), (0, .class_ 8), (0, u "java/lang/Record")] 13

def k3c0 : Code := { maxStack := 1, maxLocals := 1, code := jdk_30_method_1_code, exceptionTable := #[], attributes := #[] }
def k3m0 : Method := { name := "<init>", desc := "()V", sig := { parameters := [], returnType := none }, accessFlags := 4, code := some k3c0 }
/-- java/lang/Record -/
def k3 : Class := { plain "java/lang/Record" (some 0) with
  accessFlags := 1057
  interfaces := #[]
  cf := some (fileOf pool3 7 #[] #[{ accessFlags := 4, nameIndex := 5, descriptorIndex := 6, attributes := #[] }] 1057 2 #[] #[])
  fields := #[]
  methods := #[k3m0]
  instanceTypes := #[]
  staticTypes := #[]
  resolved := Array.replicate 22 none
  statics := none }

def pool4 : Array CpInfo := pool [(1, .methodref 2 3), (0, .class_ 4), (0, .nameAndType 5 6), (0, u "java/lang/Record"), (0, u "<init>"), (0, u "()V"), (9, .fieldref 17 18), (0, .class_ 19), (0, .nameAndType 20 21), (0, u "com/example/gutter/gutter/layout/Rect"), (0, u "left"), (0, u "I"), (0, .fieldref 17 23), (0, .nameAndType 24 21), (0, u "top"), (0, .fieldref 17 26), (0, .nameAndType 27 21), (0, u "right"), (0, .fieldref 17 29), (0, .nameAndType 30 21), (0, u "bottom"), (15, u "(IIII)V"), (3, u "()I")] 66

def k4c0 : Code := { maxStack := 6, maxLocals := 5, code := prog_6_method_1_code, exceptionTable := #[], attributes := #[] }
def k4m0 : Method := { name := "<init>", desc := "(IIII)V", sig := { parameters := [.int, .int, .int, .int], returnType := none }, accessFlags := 1, code := some k4c0 }
def k4c1 : Code := { maxStack := 1, maxLocals := 1, code := prog_6_method_15_code, exceptionTable := #[], attributes := #[] }
def k4m1 : Method := { name := "right", desc := "()I", sig := { parameters := [], returnType := some .int }, accessFlags := 1, code := some k4c1 }
def k4c2 : Code := { maxStack := 1, maxLocals := 1, code := prog_6_method_16_code, exceptionTable := #[], attributes := #[] }
def k4m2 : Method := { name := "bottom", desc := "()I", sig := { parameters := [], returnType := some .int }, accessFlags := 1, code := some k4c2 }
/-- com/example/gutter/gutter/layout/Rect -/
def k4 : Class := { plain "com/example/gutter/gutter/layout/Rect" (some 3) with
  accessFlags := 49
  interfaces := #[]
  cf := some (fileOf pool4 17 #[] #[{ accessFlags := 1, nameIndex := 5, descriptorIndex := 46, attributes := #[] }, { accessFlags := 1, nameIndex := 27, descriptorIndex := 50, attributes := #[] }, { accessFlags := 1, nameIndex := 30, descriptorIndex := 50, attributes := #[] }] 49 2 #[] #[{ accessFlags := 18, nameIndex := 20, descriptorIndex := 21, attributes := #[] }, { accessFlags := 18, nameIndex := 24, descriptorIndex := 21, attributes := #[] }, { accessFlags := 18, nameIndex := 27, descriptorIndex := 21, attributes := #[] }, { accessFlags := 18, nameIndex := 30, descriptorIndex := 21, attributes := #[] }])
  fields := #[{ name := "left", type := .int, accessFlags := 18, slot := 0, constantValue := 0 }, { name := "top", type := .int, accessFlags := 18, slot := 1, constantValue := 0 }, { name := "right", type := .int, accessFlags := 18, slot := 2, constantValue := 0 }, { name := "bottom", type := .int, accessFlags := 18, slot := 3, constantValue := 0 }]
  methods := #[k4m0, k4m1, k4m2]
  instanceTypes := #[.int, .int, .int, .int]
  staticTypes := #[]
  resolved := Array.replicate 117 none
  statics := none }

def pool5 : Array CpInfo := pool [(1, .class_ 2), (0, u "java/lang/constant/Constable"), (0, .class_ 4), (0, u "java/lang/Object")] 6

/-- java/lang/constant/Constable -/
def k5 : Class := { plain "java/lang/constant/Constable" (some 0) with
  accessFlags := 1537
  interfaces := #[]
  cf := some (fileOf pool5 1 #[] #[] 1537 3 #[] #[])
  fields := #[]
  methods := #[]
  instanceTypes := #[]
  staticTypes := #[]
  resolved := Array.replicate 11 none
  statics := none }

def pool6 : Array CpInfo := pool [(1, .class_ 2), (0, u "java/lang/Comparable"), (0, .class_ 4), (0, u "java/lang/Object")] 7

/-- java/lang/Comparable -/
def k6 : Class := { plain "java/lang/Comparable" (some 0) with
  accessFlags := 1537
  interfaces := #[]
  cf := some (fileOf pool6 1 #[] #[] 1537 3 #[] #[])
  fields := #[]
  methods := #[]
  instanceTypes := #[]
  staticTypes := #[]
  resolved := Array.replicate 12 none
  statics := none }

def pool7 : Array CpInfo := pool [(1, .class_ 2), (0, u "java/io/Serializable"), (0, .class_ 4), (0, u "java/lang/Object")] 2

/-- java/io/Serializable -/
def k7 : Class := { plain "java/io/Serializable" (some 0) with
  accessFlags := 1537
  interfaces := #[]
  cf := some (fileOf pool7 1 #[] #[] 1537 3 #[] #[])
  fields := #[]
  methods := #[]
  instanceTypes := #[]
  staticTypes := #[]
  resolved := Array.replicate 7 none
  statics := none }

def pool8 : Array CpInfo := pool [(2, .class_ 4), (1, u "java/lang/Enum"), (0, u "name"), (0, u "Ljava/lang/String;"), (2, u "ordinal"), (0, u "I"), (1, .class_ 14), (1, u "java/lang/Object"), (4, u "hash"), (86, .class_ 108), (1, u "java/lang/Enum$EnumDesc"), (2, .class_ 112), (0, u "java/lang/constant/Constable"), (0, .class_ 114), (0, u "java/lang/Comparable"), (0, .class_ 116), (0, u "java/io/Serializable")] 87

/-- java/lang/Enum -/
def k8 : Class := { plain "java/lang/Enum" (some 0) with
  accessFlags := 1057
  interfaces := #[5, 6, 7]
  cf := some (fileOf pool8 2 #[.nestMembers #[106]] #[] 1057 12 #[111, 113, 115] #[{ accessFlags := 18, nameIndex := 5, descriptorIndex := 6, attributes := #[] }, { accessFlags := 18, nameIndex := 9, descriptorIndex := 10, attributes := #[] }, { accessFlags := 2, nameIndex := 19, descriptorIndex := 10, attributes := #[] }])
  fields := #[{ name := "name", type := (.object "java/lang/String"), accessFlags := 18, slot := 0, constantValue := 0 }, { name := "ordinal", type := .int, accessFlags := 18, slot := 1, constantValue := 0 }, { name := "hash", type := .int, accessFlags := 2, slot := 2, constantValue := 0 }]
  methods := #[]
  instanceTypes := #[(.object "java/lang/String"), .int, .int]
  staticTypes := #[]
  resolved := Array.replicate 204 none
  statics := none }

def pool9 : Array CpInfo := pool [(1, .class_ 2), (0, u "com/example/gutter/gutter/segment/Separator$Orientation"), (0, .fieldref 1 4), (0, .nameAndType 5 6), (0, u "HORIZONTAL"), (0, u "Lcom/example/gutter/gutter/segment/Separator$Orientation;"), (2, u "VERTICAL"), (2, u "$VALUES"), (0, u "[Lcom/example/gutter/gutter/segment/Separator$Orientation;"), (6, .class_ 22), (1, u "java/lang/Enum"), (23, .class_ 48), (1, u "com/example/gutter/gutter/layout/Rect"), (1, u "()I"), (3, .methodref 46 55), (0, .nameAndType 56 50), (0, u "bottom"), (0, .methodref 46 58), (0, .nameAndType 59 50), (0, u "right"), (16, u "(Lcom/example/gutter/gutter/layout/Rect;)I"), (1, u "end"), (5, .class_ 85), (0, u "com/example/gutter/gutter/segment/Separator")] 2

def k9c0 : Code := { maxStack := 2, maxLocals := 2, code := prog_11_method_6_code, exceptionTable := #[], attributes := #[] }
def k9m0 : Method := { name := "end", desc := "(Lcom/example/gutter/gutter/layout/Rect;)I", sig := { parameters := [(.object "com/example/gutter/gutter/layout/Rect")], returnType := some .int }, accessFlags := 0, code := some k9c0 }
/-- com/example/gutter/gutter/segment/Separator$Orientation -/
def k9 : Class := { plain "com/example/gutter/gutter/segment/Separator$Orientation" (some 8) with
  accessFlags := 16433
  interfaces := #[]
  cf := some (fileOf pool9 1 #[.nestHost 84] #[{ accessFlags := 0, nameIndex := 78, descriptorIndex := 76, attributes := #[] }] 16433 20 #[] #[{ accessFlags := 16409, nameIndex := 5, descriptorIndex := 6, attributes := #[] }, { accessFlags := 16409, nameIndex := 9, descriptorIndex := 6, attributes := #[] }, { accessFlags := 4122, nameIndex := 12, descriptorIndex := 13, attributes := #[] }])
  fields := #[{ name := "HORIZONTAL", type := (.object "com/example/gutter/gutter/segment/Separator$Orientation"), accessFlags := 16409, slot := 0, constantValue := 0 }, { name := "VERTICAL", type := (.object "com/example/gutter/gutter/segment/Separator$Orientation"), accessFlags := 16409, slot := 1, constantValue := 0 }, { name := "$VALUES", type := (.array (.object "com/example/gutter/gutter/segment/Separator$Orientation")), accessFlags := 4122, slot := 2, constantValue := 0 }]
  methods := #[k9m0]
  instanceTypes := #[(.object "java/lang/String"), .int, .int]
  staticTypes := #[(.object "com/example/gutter/gutter/segment/Separator$Orientation"), (.object "com/example/gutter/gutter/segment/Separator$Orientation"), (.array (.object "com/example/gutter/gutter/segment/Separator$Orientation"))]
  resolved := Array.replicate 88 none
  statics := some 0 }

def pool10 : Array CpInfo := pool [(1, u "java/lang/Cloneable"), (0, .class_ 1), (0, u "java/lang/Object"), (0, .class_ 3)] 3

/-- java/lang/Cloneable -/
def k10 : Class := { plain "java/lang/Cloneable" (some 0) with
  accessFlags := 1537
  interfaces := #[]
  cf := some (fileOf pool10 2 #[] #[] 1537 4 #[] #[])
  fields := #[]
  methods := #[]
  instanceTypes := #[]
  staticTypes := #[]
  resolved := Array.replicate 8 none
  statics := none }

/-- the primitive byte -/
def k11 : Class := { plain "byte" none with kind := .primitive 'B', accessFlags := 0x411 }
/-- [B -/
def k12 : Class := { plain "[B" (some 0) with kind := .array 11 .byte, interfaces := #[10, 7], accessFlags := 1041 }

/-- the primitive int -/
def k13 : Class := { plain "int" none with kind := .primitive 'I', accessFlags := 0x411 }
/-- [I -/
def k14 : Class := { plain "[I" (some 0) with kind := .array 13 .int, interfaces := #[10, 7], accessFlags := 1041 }

def heap : Heap := #[{ cls := 9, slots := #[.ref 1, .ref 2, .null], vm := .statics 9 },
  { cls := 9, slots := #[.null, .int 0, .int 0], vm := .none },
  { cls := 9, slots := #[.null, .int 1, .int 0], vm := .none }]
def classes : Array Class := #[k0, k1, k2, k3, k4, k5, k6, k7, k8, k9, k10, k11, k12, k13, k14]
def interned : List (Array UInt16 × Addr) := []
def slotsUsed : Nat := 9
def theMethod : MethodId := ⟨1, 1⟩
def args0 : Array Value := #[.int 5, .int 6, .int 7, .int 8]
def aboutOver (below : List Frame) : State where
  vm := { classes := classes, interned := interned.toArray }
  heap := heap
  slotsUsed := slotsUsed
  threads := #[{ frames := .invoking theMethod args0 :: below }]
def below0 : List Frame := [.native { method := ⟨0, 0⟩, args := #[] }]
def about1 : State := aboutOver below0
def p0 : Program := .bare "" "" ""
def e0 : Env := launch0.env 0 0 0
theorem w_frames : about1.frames = Frame.invoking theMethod args0 :: below0 := rfl
set_option maxRecDepth 65536 in
theorem w_args : argsFit about1.vm theMethod args0 = true := by decide +kernel
set_option maxRecDepth 65536 in
theorem w_heap : heapFits about1 = true := by decide +kernel
set_option maxRecDepth 65536 in
theorem w_runnable : about1.curStatus? = some .runnable := by decide +kernel
set_option maxRecDepth 65536 in
theorem w_alone : about1.alone = true := by decide +kernel
set_option maxRecDepth 65536 in
theorem w_named : about1.methodNamed? x = some theMethod := by decide +kernel
set_option maxRecDepth 65536 in
theorem w_hears : about1.hears theMethod below0 = true := by decide +kernel
set_option maxRecDepth 65536 in
theorem w_ripe : about1.ripe theMethod args0 below0 = true := by decide +kernel
theorem w_running : about1.status = .running := rfl
set_option maxRecDepth 65536 in
theorem w_room : about1.hasRoom e0.platform room_1 = true :=
  launch0.hasRoom_least _ room_1 (by decide +kernel) (by decide +kernel) (by decide +kernel) (by decide +kernel) (by decide +kernel) (by decide +kernel)
theorem allAtoms_all (ts : List Jvm.Cond) (a : Array Jvm.Value) (st : Jvm.State) : (allAtoms ts).before a st = ts.all (fun c => c.before a st) := by
  induction ts with
  | nil => rfl
  | cons c t ih =>
    show (Jvm.Cond.and c (allAtoms t)).before a st = _
    rw [Jvm.Cond.before_and, ih, List.all_cons]
def words1 : List Jvm.Cond := Jvm.Cond.code x code maxLocals ret :: tables_1
/-- a 'code' word, met by the world's own term for the bytes: nothing is compared byte by byte -/
theorem code_word {y : MethodName} {bytes : ByteArray} {mx : Nat} {rt : Option FieldType} {a : Array Value} {s : State} {m : MethodId} {meth : Method} {c : Code} (h1 : s.methodNamed? y = some m) (h2 : s.vm.method? m = some meth) (h3 : meth.code = some c) (h4 : c.code = bytes)
    (h5 : (c.maxLocals == mx && c.exceptionTable.isEmpty && decide (c.maxStack ≤ mostOperands) && decide (meth.sig.returnType = rt) && !meth.locks && decide (parseMethodDescriptor y.desc = some meth.sig)) = true) : (Jvm.Cond.code y bytes mx rt).before a s = true := by
  simp only [Bool.and_eq_true, beq_iff_eq, Bool.not_eq_true', decide_eq_true_eq] at h5
  obtain ⟨⟨⟨⟨⟨g1, g2⟩, g3⟩, g4⟩, g5⟩, g6⟩ := h5
  simp [Cond.before, Cond.holds, Cond.value, h1, h2, h3, h4, g1, g2, g3, g4, g5, g6]
def isCode : Jvm.Cond → Bool
  | .code _ _ _ _ => true
  | _ => false
theorem all_split {L : List Jvm.Cond} {P : Jvm.Cond → Bool} (h1 : L.all (fun c => isCode c || P c) = true) (h2 : ∀ c ∈ L.filter isCode, P c = true) : L.all P = true := by
  refine List.all_eq_true.mpr fun c hc => ?_
  have h := List.all_eq_true.mp h1 c hc
  rcases Bool.eq_false_or_eq_true (isCode c) with hi | hi
  · exact h2 c (List.mem_filter.mpr ⟨hc, hi⟩)
  · simpa [hi] using h
set_option maxRecDepth 65536 in
theorem w_c0 : (Jvm.Cond.code x code maxLocals ret).before args0 about1 = true := code_word (m := ⟨1, 1⟩) (meth := k1m1) (c := k1c1) (by decide +kernel) rfl rfl rfl (by decide +kernel)
set_option maxRecDepth 65536 in
theorem w_c1 : (Jvm.Cond.code ({ cls := "java/lang/Math", name := "max", desc := "(II)I" } : Jvm.MethodName) jdk_29_method_65_code (2 : Nat) (Option.some Jvm.ClassFile.FieldType.int)).before args0 about1 = true := code_word (m := ⟨2, 1⟩) (meth := k2m1) (c := k2c1) (by decide +kernel) rfl rfl rfl (by decide +kernel)
set_option maxRecDepth 65536 in
theorem w_c2 : (Jvm.Cond.code ({ cls := "com/example/gutter/gutter/layout/Rect", name := "<init>", desc := "(IIII)V" } : Jvm.MethodName) prog_6_method_1_code (5 : Nat) (Option.none : Option Jvm.ClassFile.FieldType)).before args0 about1 = true := code_word (m := ⟨4, 0⟩) (meth := k4m0) (c := k4c0) (by decide +kernel) rfl rfl rfl (by decide +kernel)
set_option maxRecDepth 65536 in
theorem w_c3 : (Jvm.Cond.code ({ cls := "java/lang/Record", name := "<init>", desc := "()V" } : Jvm.MethodName) jdk_30_method_1_code (1 : Nat) (Option.none : Option Jvm.ClassFile.FieldType)).before args0 about1 = true := code_word (m := ⟨3, 0⟩) (meth := k3m0) (c := k3c0) (by decide +kernel) rfl rfl rfl (by decide +kernel)
set_option maxRecDepth 65536 in
theorem w_c4 : (Jvm.Cond.code ({ cls := "java/lang/Object", name := "<init>", desc := "()V" } : Jvm.MethodName) object_method_1_code (1 : Nat) (Option.none : Option Jvm.ClassFile.FieldType)).before args0 about1 = true := code_word (m := ⟨0, 0⟩) (meth := k0m0) (c := k0c0) (by decide +kernel) rfl rfl rfl (by decide +kernel)
set_option maxRecDepth 65536 in
theorem w_c5 : (Jvm.Cond.code ({ cls := "com/example/gutter/gutter/segment/Separator$Orientation", name := "end", desc := "(Lcom/example/gutter/gutter/layout/Rect;)I" } : Jvm.MethodName) prog_11_method_6_code (2 : Nat) (Option.some Jvm.ClassFile.FieldType.int)).before args0 about1 = true := code_word (m := ⟨9, 0⟩) (meth := k9m0) (c := k9c0) (by decide +kernel) rfl rfl rfl (by decide +kernel)
set_option maxRecDepth 65536 in
theorem w_c6 : (Jvm.Cond.code ({ cls := "com/example/gutter/gutter/layout/Rect", name := "bottom", desc := "()I" } : Jvm.MethodName) prog_6_method_16_code (1 : Nat) (Option.some Jvm.ClassFile.FieldType.int)).before args0 about1 = true := code_word (m := ⟨4, 2⟩) (meth := k4m2) (c := k4c2) (by decide +kernel) rfl rfl rfl (by decide +kernel)
set_option maxRecDepth 65536 in
theorem w_c7 : (Jvm.Cond.code ({ cls := "com/example/gutter/gutter/layout/Rect", name := "right", desc := "()I" } : Jvm.MethodName) prog_6_method_15_code (1 : Nat) (Option.some Jvm.ClassFile.FieldType.int)).before args0 about1 = true := code_word (m := ⟨4, 1⟩) (meth := k4m1) (c := k4c1) (by decide +kernel) rfl rfl rfl (by decide +kernel)
def codes1 : List Jvm.Cond := [Jvm.Cond.code x code maxLocals ret, Jvm.Cond.code ({ cls := "java/lang/Math", name := "max", desc := "(II)I" } : Jvm.MethodName) jdk_29_method_65_code (2 : Nat) (Option.some Jvm.ClassFile.FieldType.int), Jvm.Cond.code ({ cls := "com/example/gutter/gutter/layout/Rect", name := "<init>", desc := "(IIII)V" } : Jvm.MethodName) prog_6_method_1_code (5 : Nat) (Option.none : Option Jvm.ClassFile.FieldType), Jvm.Cond.code ({ cls := "java/lang/Record", name := "<init>", desc := "()V" } : Jvm.MethodName) jdk_30_method_1_code (1 : Nat) (Option.none : Option Jvm.ClassFile.FieldType), Jvm.Cond.code ({ cls := "java/lang/Object", name := "<init>", desc := "()V" } : Jvm.MethodName) object_method_1_code (1 : Nat) (Option.none : Option Jvm.ClassFile.FieldType), Jvm.Cond.code ({ cls := "com/example/gutter/gutter/segment/Separator$Orientation", name := "end", desc := "(Lcom/example/gutter/gutter/layout/Rect;)I" } : Jvm.MethodName) prog_11_method_6_code (2 : Nat) (Option.some Jvm.ClassFile.FieldType.int), Jvm.Cond.code ({ cls := "com/example/gutter/gutter/layout/Rect", name := "bottom", desc := "()I" } : Jvm.MethodName) prog_6_method_16_code (1 : Nat) (Option.some Jvm.ClassFile.FieldType.int), Jvm.Cond.code ({ cls := "com/example/gutter/gutter/layout/Rect", name := "right", desc := "()I" } : Jvm.MethodName) prog_6_method_15_code (1 : Nat) (Option.some Jvm.ClassFile.FieldType.int)]
set_option maxRecDepth 65536 in
theorem codes_eq : words1.filter isCode = codes1 := rfl
theorem w_codes : ∀ c ∈ words1.filter isCode, c.before args0 about1 = true := by
  rw [codes_eq]
  intro c hc
  simp only [codes1, List.mem_cons, List.not_mem_nil, or_false] at hc
  rcases hc with rfl | rfl | rfl | rfl | rfl | rfl | rfl | rfl
  · exact w_c0
  · exact w_c1
  · exact w_c2
  · exact w_c3
  · exact w_c4
  · exact w_c5
  · exact w_c6
  · exact w_c7
set_option maxRecDepth 65536 in
theorem w_t1 : (words1.take 24).all (fun c => isCode c || c.before args0 about1) = true := by decide +kernel
set_option maxRecDepth 65536 in
theorem w_t2 : (words1.drop 24).all (fun c => isCode c || c.before args0 about1) = true := by decide +kernel
theorem w_tables : (allAtoms (Jvm.Cond.code x code maxLocals ret :: tables_1)).before args0 about1 = true := by
  rw [allAtoms_all]
  show words1.all (fun c => c.before args0 about1) = true
  refine all_split ?_ w_codes
  rw [← List.take_append_drop 24 words1, List.all_append, w_t1, w_t2]
  rfl
set_option maxRecDepth 65536 in
theorem w_case : (Jvm.Cond.and given_1 narrow_1).before args0 about1 = true := by decide +kernel
theorem w_applies : (headSpec (Jvm.Cond.code x code maxLocals ret :: tables_1) room_1).applies x e0.platform about1 = true :=
  (Spec.applies_iff w_frames).mpr ⟨w_running, w_runnable, w_alone, w_named, w_hears, w_ripe, w_room, w_tables⟩
theorem atStart : AtStart classFile x code maxLocals ret World_1 tables_1 room_1 Calls_1 rest_1 Pre_1 launch0 p0 e0 about1 theMethod args0 below0 :=
  ⟨lists_1, trivial, launch0.admits_env _ _ _, launch0.least_env, fairChoices_fair.cas, fairChoices_fair.clock, w_frames, w_args, w_heap, w_applies, trivial, trivial, w_case⟩
end start1
theorem witness_1 : WitnessClaimed_1 := ⟨start1.p0, start1.e0, start1.about1, start1.theMethod, start1.args0, start1.below0, start1.atStart⟩
end Jvm.Pilot.@@N@@
