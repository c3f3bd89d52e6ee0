import JvmDerived
import JvmDerived.Pilot.@@N@@Statement
import JvmDerived.Pilot.@@N@@Code
set_option linter.unusedVariables false
set_option linter.unusedSimpArgs false
namespace Jvm.RoadKit
open Sem ClassFile Op Lib Jvm.Stand Jvm.Free Jvm.LawKit
section New
variable {p : Program} {l : Launch} {e : Env} {R : Room} {s : State} {m : MethodId} {args : Array Value} {below : List Frame} {meth : Method} {c : Code} {T : State} {locs : List Loc} {cells slots : Nat}
theorem retI (X : Stand p l e R s m args below meth c T locs cells slots) (hx : p.tables.exec = Jvm.exec) {pc : Nat} {Ls : Array Slot} {z : Int32} {rest : List Value} (hret : meth.sig.returnType = some .int) (hd : decode c.code pc = .ok (.ireturn, 1)) {fs : List Frame}
    (hl : ∀ (f : JFrame) (acts : List Action), f.method = m → f.locked = none → f.entered = [] → (doReturn e (T.setTop f) acts (some (.int z))).1 = T.setFrames fs) : Steps p.tables e below (T.setTop (mkF m pc Ls (.int z :: rest))) (T.setFrames fs) := by
  have hm' : T.vm.method? m = some meth := X.method'
  have hn : narrow .int (.int z) = .int z := rfl
  show Steps p.tables e below (T.setTop { method := m, pc := pc, locals := Ls, stack := _ :: rest, locked := none }) _
  jvm_step X.here [X.here.top, hx, hd, hm', hret, hn]
  first | (intro acts; rw [hl _ acts rfl rfl rfl]) | rw [hl _ _ rfl rfl rfl]
  exact Steps.refl _
end New
end Jvm.RoadKit
namespace Jvm.Pilot.@@N@@
open Jvm Jvm.ClassFile Sem Op Lib Jvm.Free Jvm.Stand Jvm.LawKit Jvm.RoadKit Bundle Jvm.Pilot.@@N@@.Jvm.D
theorem own_fld {s : State} {args : Array Value} {t : Term} {x : Addr} {C n d : String} {k : Int32} (ev : t.eval args s none [] s = some (.ref x)) (h : (Jvm.Cond.eq (.field t C n d) (.int k)).value args s none s [] = some true) : Fld s s.heap x C n d (.int k) := by
  have hf := fld_at (C := C) (n := n) (dd := d) ev
  have hk : (Term.int k).eval args s none [] s = some (.int k) := Term.int_eval k
  cases hq : s.fieldOf? x C n d with
  | none => rw [hq] at hf; simp [Cond.value, hf] at h
  | some v =>
    rw [hq] at hf
    cases v <;> simp [Cond.value, hf, hk] at h
    subst h
    exact Fld.start hq
def upd (f : Int32 → Int32) (j v : Int32) : Int32 → Int32 := fun k => if k = j then v else f k
def Ia (Z : State) (h : Heap) (a : Addr) (ty : FieldType) (n : Int32) (f : Int32 → Int32) : Prop := ∃ c : Cell, Arr Z h a c ty ∧ c.slots.size = n.toNatClampNeg ∧ ¬ n < 0 ∧ ∀ j : Int32, ¬ j < 0 → j < n → c.slots[j.toNatClampNeg]? = some (.int (f j))
section OwnIa
variable {Z : State} {h h' : Heap} {a b : Addr} {ty : FieldType} {n j x : Int32} {f : Int32 → Int32} {sl : Nat} {v : Value} {ws : List Addr}
theorem own_ext (K : Keep h h' []) : Ext h h' := ⟨K.1, fun a c q => K.2.1 a c q nin0⟩
theorem Ia.lt (F : Ia Z h a ty n f) : a < h.size := by obtain ⟨c, A, -⟩ := F; exact A.lt
theorem Ia.ext (F : Ia Z h a ty n f) (E : Ext h h') : Ia Z h' a ty n f := by obtain ⟨c, A, r⟩ := F; exact ⟨c, A.ext E, r⟩
theorem Ia.other (F : Ia Z h b ty n f) (W : Wr h h' a sl v) (q : b ≠ a) : Ia Z h' b ty n f := by obtain ⟨c, A, r⟩ := F; exact ⟨c, A.other W q, r⟩
theorem Ia.keep (F : Ia Z h a ty n f) (K : Keep h h' ws) (q : a ∉ ws) : Ia Z h' a ty n f := by obtain ⟨c, A, r⟩ := F; exact ⟨c, ⟨K.2.1 a c A.1 q, A.2⟩, r⟩
theorem Ia.at (F : Ia Z h a ty n f) (q : ¬ j < 0 ∧ j < n) : ∃ c : Cell, Arr Z h a c ty ∧ ¬ (j < 0 ∨ c.slots.size ≤ j.toNatClampNeg) ∧ c.slots[j.toNatClampNeg]? = some (.int (f j)) := by
  obtain ⟨c, A, S, N, G⟩ := F
  exact ⟨c, A, inb_of S q, G j q.1 q.2⟩
theorem Ia.len (F : Ia Z h a ty n f) : ∃ c : Cell, Arr Z h a c ty ∧ c.slots.size = n.toNatClampNeg ∧ ¬ n < 0 := by
  obtain ⟨c, A, S, N, G⟩ := F
  exact ⟨c, A, S, N⟩
theorem Ia.new {k : ClassId} (A : Arr Z h a (newA k ty n) ty) (q : ¬ n < 0) (e : defaultValue ty = .int 0) : Ia Z h a ty n (fun _ => 0) :=
  ⟨_, A, sz_new _ _ _, q, fun j h1 h2 => by
    have hi := inb_of (sz_new k ty n) ⟨h1, h2⟩
    rw [sz_new] at hi
    rw [get_new hi, e]⟩
theorem Ia.set (F : Ia Z h a ty n f) (W : Wr h h' a j.toNatClampNeg (.int x)) (hj : ¬ j < 0) : Ia Z h' a ty n (upd f j x) := by
  obtain ⟨c, A, S, N, G⟩ := F
  refine ⟨_, A.same W, by rw [sz_set]; exact S, N, fun k h1 h2 => ?_⟩
  by_cases e : k = j
  · subst e
    rw [get_hit (inb_of S ⟨h1, h2⟩) rfl]
    exact congrArg (fun z => some (Value.int z)) (if_pos rfl).symm
  · rw [get_miss hj h1 e, G k h1 h2]
    exact congrArg (fun z => some (Value.int z)) (if_neg e).symm
theorem own_nea {C : String} {a0 : Array Value} {k : Nat} (F : Exa Z h a C) (wi : (Jvm.Cond.instantiable C k).before a0 Z = true) (G : Ia Z h b ty n f) : a ≠ b := by
  obtain ⟨c, A, -⟩ := G
  exact ne_arr F wi A
theorem Ia.congr {g : Int32 → Int32} (F : Ia Z h a ty n f) (q : ∀ j : Int32, ¬ j < 0 → j < n → f j = g j) : Ia Z h a ty n g := by
  obtain ⟨c, A, S, N, G⟩ := F
  exact ⟨c, A, S, N, fun k h1 h2 => by rw [← q k h1 h2]; exact G k h1 h2⟩
end OwnIa
theorem own_nat (b : Int32) : b = Int32.ofNat b.toBitVec.toNat := by
  apply Int32.toBitVec_inj.mp
  simp
theorem own_mask (a m : Int32) (k : Nat) (h : m.toBitVec.toNat = k) : ∃ n, n < k + 1 ∧ a &&& m = Int32.ofNat n := by
  refine ⟨(a &&& m).toBitVec.toNat, ?_, own_nat _⟩
  have : (a &&& m).toBitVec.toNat = a.toBitVec.toNat &&& m.toBitVec.toNat := by simp
  rw [this, h]
  exact Nat.lt_succ_of_le Nat.and_le_right
theorem own_ofNat (n : Nat) (h : n < 2147483648) : (Int32.ofNat n).toInt = (n : Int) := Int32.toInt_ofNat_of_lt h
theorem own_rem (n k : Nat) (h : n < 2147483648) (h1 : k < 2147483648) : Int32.ofNat n % Int32.ofNat k = Int32.ofNat (n % k) := by
  apply Int32.toInt_inj.mp
  rw [Int32.toInt_mod, own_ofNat n h, own_ofNat k h1, own_ofNat (n % k) (Nat.lt_of_le_of_lt (Nat.mod_le n k) h)]
  rw [Int.tmod_eq_emod_of_nonneg (by omega)]
  exact (Int.natCast_emod n k).symm
theorem own_b7 (x : Int32) : ¬ (x &&& 7) < 0 ∧ (x &&& 7) < 8 := by
  obtain ⟨n, hn, e⟩ := own_mask x 7 7 (by decide)
  rw [e]
  exact (show ∀ k : Fin 8, ¬ Int32.ofNat k.val < 0 ∧ Int32.ofNat k.val < 8 from by decide) ⟨n, hn⟩
theorem own_b1 (x n : Int32) (h : 0 < x) (hs : ¬ n < x) : ¬ x - 1 < 0 ∧ x - 1 < n := by
  have z0 : (0 : Int32).toInt = 0 := by decide
  have z1 : (1 : Int32).toInt = 1 := by decide
  have h1 := Int32.lt_iff_toInt_lt.mp h
  have h2 : ¬ (n.toInt < x.toInt) := fun q => hs (Int32.lt_iff_toInt_lt.mpr q)
  have r := x.toInt_lt
  have e : (x - 1).toInt = x.toInt - 1 := by
    rw [Int32.toInt_sub, z1]; exact Int.bmod_eq_of_le (by omega) (by omega)
  rw [Int32.lt_iff_toInt_lt, Int32.lt_iff_toInt_lt, e]
  omega
theorem own_start (x : Int32) : ∃ n, n < 7 ∧ (x &&& 2147483647) % 7 = Int32.ofNat n := by
  obtain ⟨n, hn, e⟩ := own_mask x 2147483647 2147483647 (by decide)
  exact ⟨n % 7, Nat.mod_lt _ (by decide), by rw [e]; exact own_rem n 7 hn (by decide)⟩
theorem own_end (x y : Int32) : ∃ n m, n < 7 ∧ n ≤ m ∧ m < 7 ∧ (x &&& 2147483647) % 7 = Int32.ofNat n ∧ (x &&& 2147483647) % 7 + (y &&& 2147483647) % (7 - (x &&& 2147483647) % 7) = Int32.ofNat m := by
  obtain ⟨n, hn, e⟩ := own_start x
  obtain ⟨k, hk, e'⟩ := own_mask y 2147483647 2147483647 (by decide)
  have h7 : (7 : Int32) - Int32.ofNat n = Int32.ofNat (7 - n) := (show ∀ k : Fin 7, (7 : Int32) - Int32.ofNat k.val = Int32.ofNat (7 - k.val) from by decide) ⟨n, hn⟩
  have hm : k % (7 - n) < 7 - n := Nat.mod_lt _ (by omega)
  refine ⟨n, n + k % (7 - n), hn, by omega, by omega, e, ?_⟩
  rw [e, e', h7, own_rem k (7 - n) hk (by omega)]
  exact (Int32.ofNat_add n _).symm
theorem own_nz (x : Int32) : (7 : Int32) - (x &&& 2147483647) % 7 ≠ 0 := by
  obtain ⟨n, hn, e⟩ := own_start x
  rw [e]
  exact (show ∀ k : Fin 7, (7 : Int32) - Int32.ofNat k.val ≠ 0 from by decide) ⟨n, hn⟩
theorem own_s6 (x : Int32) : ¬ (6 : Int32) < (x &&& 2147483647) % 7 := by
  obtain ⟨n, hn, e⟩ := own_start x
  rw [e]
  exact (show ∀ k : Fin 7, ¬ (6 : Int32) < Int32.ofNat k.val from by decide) ⟨n, hn⟩
theorem own_e0 (x y : Int32) : ¬ (x &&& 2147483647) % 7 + (y &&& 2147483647) % (7 - (x &&& 2147483647) % 7) < 0 := by
  obtain ⟨n, m, hn, h1, h2, e, e'⟩ := own_end x y
  rw [e']
  exact (show ∀ k : Fin 7, ¬ Int32.ofNat k.val < 0 from by decide) ⟨m, h2⟩
-- body 3: com/example/clapboard/clapboard/parse/TitleTextIsAloneInBracketsPinLaw.kind(C)I
theorem d3_0 : decode method_3_code 0 = .ok (.iload_n 0, 1) := by decide +kernel
theorem d3_1 : decode method_3_code 1 = .ok (.bipush 40, 2) := by decide +kernel
theorem d3_3 : decode method_3_code 3 = .ok (.if_icmp .ne 5, 3) := by decide +kernel
theorem d3_6 : decode method_3_code 6 = .ok (.iconst 1, 1) := by decide +kernel
theorem d3_7 : decode method_3_code 7 = .ok (.ireturn, 1) := by decide +kernel
theorem d3_8 : decode method_3_code 8 = .ok (.iload_n 0, 1) := by decide +kernel
theorem d3_9 : decode method_3_code 9 = .ok (.bipush 91, 2) := by decide +kernel
theorem d3_11 : decode method_3_code 11 = .ok (.if_icmp .ne 5, 3) := by decide +kernel
theorem d3_14 : decode method_3_code 14 = .ok (.iconst 2, 1) := by decide +kernel
theorem d3_15 : decode method_3_code 15 = .ok (.ireturn, 1) := by decide +kernel
theorem d3_16 : decode method_3_code 16 = .ok (.iload_n 0, 1) := by decide +kernel
theorem d3_17 : decode method_3_code 17 = .ok (.bipush 123, 2) := by decide +kernel
theorem d3_19 : decode method_3_code 19 = .ok (.if_icmp .ne 5, 3) := by decide +kernel
theorem d3_22 : decode method_3_code 22 = .ok (.iconst 3, 1) := by decide +kernel
theorem d3_23 : decode method_3_code 23 = .ok (.ireturn, 1) := by decide +kernel
theorem d3_24 : decode method_3_code 24 = .ok (.iload_n 0, 1) := by decide +kernel
theorem d3_25 : decode method_3_code 25 = .ok (.bipush 41, 2) := by decide +kernel
theorem d3_27 : decode method_3_code 27 = .ok (.if_icmp .ne 5, 3) := by decide +kernel
theorem d3_30 : decode method_3_code 30 = .ok (.iconst (-1), 1) := by decide +kernel
theorem d3_31 : decode method_3_code 31 = .ok (.ireturn, 1) := by decide +kernel
theorem d3_32 : decode method_3_code 32 = .ok (.iload_n 0, 1) := by decide +kernel
theorem d3_33 : decode method_3_code 33 = .ok (.bipush 93, 2) := by decide +kernel
theorem d3_35 : decode method_3_code 35 = .ok (.if_icmp .ne 6, 3) := by decide +kernel
theorem d3_38 : decode method_3_code 38 = .ok (.bipush (-2), 2) := by decide +kernel
theorem d3_40 : decode method_3_code 40 = .ok (.ireturn, 1) := by decide +kernel
theorem d3_41 : decode method_3_code 41 = .ok (.iload_n 0, 1) := by decide +kernel
theorem d3_42 : decode method_3_code 42 = .ok (.bipush 125, 2) := by decide +kernel
theorem d3_44 : decode method_3_code 44 = .ok (.if_icmp .ne 6, 3) := by decide +kernel
theorem d3_47 : decode method_3_code 47 = .ok (.bipush (-3), 2) := by decide +kernel
theorem d3_49 : decode method_3_code 49 = .ok (.ireturn, 1) := by decide +kernel
theorem d3_50 : decode method_3_code 50 = .ok (.iconst 0, 1) := by decide +kernel
theorem d3_51 : decode method_3_code 51 = .ok (.ireturn, 1) := by decide +kernel
theorem pn_3 : plainName "com/example/clapboard/clapboard/parse/TitleTextIsAloneInBracketsPinLaw" = true := by first | (simp [plainName, overriddenIn]; done) | decide +kernel
theorem ef_3 (m : MethodId) (p1 : Int32) : entryFrame m #[(.int p1)] 1 = mkF m 0 #[.val (.int p1)] [] := by first | (simp [entryFrame, mkF, argsToLocals, Value.category]; done) | rfl
def f3 (p1 : Int32) : Int32 := (if p1 = (40 : Int32) then (1 : Int32) else (if p1 = (91 : Int32) then (2 : Int32) else (if p1 = (123 : Int32) then (3 : Int32) else (if p1 = (41 : Int32) then (-1 : Int32) else (if p1 = (93 : Int32) then (-2 : Int32) else (if p1 = (125 : Int32) then (-3 : Int32) else (0 : Int32)))))))
def Q3 (Z : State) (p1 : Int32) (h0 : Heap) (n0 : Nat) (v : Option Value) (h : Heap) (L : List Loc) : Prop := v = some (.int (f3 p1)) ∧ Fr n0 L ∧ h = h0
set_option maxRecDepth 65536 in
set_option maxHeartbeats 40000000 in
theorem rm3 (l : Launch) (Z : State) (a0 : Array Value) (hw : ∀ d ∈ tables_1, d.before a0 Z = true) (ws : List Jvm.Cond) (p1 : Int32) (h0 : Heap) (n0 : Nat) (Z0 : n0 ≤ h0.size) :
    MetFree l (⟨"com/example/clapboard/clapboard/parse/TitleTextIsAloneInBracketsPinLaw", "kind", "(C)I"⟩ : MethodName) (head1 (Jvm.Cond.code (⟨"com/example/clapboard/clapboard/parse/TitleTextIsAloneInBracketsPinLaw", "kind", "(C)I"⟩ : MethodName) method_3_code 1 (some .int) :: ws) ({ frames := 0, cells := 0, slots := 0, locals := 0 } : Room)) (fun a U => a = #[(.int p1)] ∧ Z.Warmed39 U.vm ∧ U.heap = h0) (fun _ _ _ _ _ => True) (fun _ U o U' => ∃ v L, o = .returned v ∧ Q3 Z p1 h0 n0 v U'.heap L ∧ FrameEnd U o U' L ({ frames := 0, cells := 0, slots := 0, locals := 0 } : Room).cells ({ frames := 0, cells := 0, slots := 0, locals := 0 } : Room).slots) := by
  refine MetFree.of_bodySF (plainFor_of_name pn_3) hisR ?_
  intro p e s m args below meth c s₁ Bd hml0 hP hK
  obtain ⟨rfl, hZ, hh⟩ := hP
  have hx := Bd.exec
  have hby := Bd.bytes
  have hml : c.maxLocals = 1 := hml0
  have hown : s.vm.findClass "com/example/clapboard/clapboard/parse/TitleTextIsAloneInBracketsPinLaw" = some m.cls := findClass_of_methodNamed Bd.named
  have hnm := (name_of_methodNamed Bd.named Bd.method).1
  have X0 : Stand p l e ({ frames := 0, cells := 0, slots := 0, locals := 0 } : Room) s m #[(.int p1)] below meth c s₁ [] 0 0 := Stand.of_body Bd
  have e0 : s₁.heap = h0 := by rw [← hh, Bd.state]; rfl
  have N0 := Fr.nil n0
  have pre0 : ∀ t, Steps p.tables e below (s₁.setTop (mkF m 0 #[.val (.int p1)] [])) t → Steps p.tables e below (s₁.setTop (entryFrame m #[(.int p1)] 1)) t := fun t k => castTop (ef_3 m p1) k
  have K1 : ∀ t, Steps p.tables e below (s₁.setTop (mkF m 3 #[.val (.int p1)] [(.int (40 : Int32)), (.int p1)])) t → Steps p.tables e below (s₁.setTop (mkF m 0 #[.val (.int p1)] [])) t := by
    intro t k
    refine XS.iloadN X0.here hx rfl (hb hby d3_0) rfl ?_
    show Steps p.tables e below (s₁.setTop (mkF m 1 #[.val (.int p1)] [(.int p1)])) t
    refine XS.bipush X0.here hx rfl (hb hby d3_1) ?_
    show Steps p.tables e below (s₁.setTop (mkF m 3 #[.val (.int p1)] [(.int (40 : Int32)), (.int p1)])) t
    exact k
  by_cases hc2 : p1 = (40 : Int32)
  · have K3 : ∀ t, Steps p.tables e below (s₁.setTop (mkF m 6 #[.val (.int p1)] [])) t → Steps p.tables e below (s₁.setTop (mkF m 3 #[.val (.int p1)] [(.int (40 : Int32)), (.int p1)])) t := by
      intro t k
      refine XS.icmpNo X0.here hx rfl (hb hby d3_3) rfl (teq hc2).2 ?_
      exact k
    have K4 : ∀ t, Steps p.tables e below (s₁.setTop (mkF m 7 #[.val (.int p1)] [(.int (1 : Int32))])) t → Steps p.tables e below (s₁.setTop (mkF m 6 #[.val (.int p1)] [])) t := by
      intro t k
      refine XS.iconst X0.here hx rfl (hb hby d3_6) ?_
      show Steps p.tables e below (s₁.setTop (mkF m 7 #[.val (.int p1)] [(.int (1 : Int32))])) t
      exact k
    obtain ⟨fs, hr, hrun, hended, hW, hsame⟩ := X0.leave (v := some (.int (1 : Int32))) (fun h => by rw [Bd.returns] at h; cases h)
    refine ⟨_, _, pre0 _ (K1 _ (K3 _ (K4 _ (retI X0 hx Bd.returns (hb hby d3_7) hr)))), hrun, hended, _, _, rfl, ?_, ⟨_, rfl⟩, hW, hsame.mono (by decide) (by decide)⟩
    show Q3 Z p1 h0 n0 _ s₁.heap _
    rw [e0]
    exact ⟨congrArg (fun z => some (Value.int z)) (show (1 : Int32) = f3 p1 from Eq.symm (if_pos hc2)), N0, rfl⟩
  · have K5 : ∀ t, Steps p.tables e below (s₁.setTop (mkF m 8 #[.val (.int p1)] [])) t → Steps p.tables e below (s₁.setTop (mkF m 3 #[.val (.int p1)] [(.int (40 : Int32)), (.int p1)])) t := by
      intro t k
      refine XS.icmpYes X0.here hx rfl (pc0 := 3) (pc' := 8) rfl (hb hby d3_3) rfl (feq hc2).2 (by decide) (by decide) ?_
      exact k
    have K6 : ∀ t, Steps p.tables e below (s₁.setTop (mkF m 11 #[.val (.int p1)] [(.int (91 : Int32)), (.int p1)])) t → Steps p.tables e below (s₁.setTop (mkF m 8 #[.val (.int p1)] [])) t := by
      intro t k
      refine XS.iloadN X0.here hx rfl (hb hby d3_8) rfl ?_
      show Steps p.tables e below (s₁.setTop (mkF m 9 #[.val (.int p1)] [(.int p1)])) t
      refine XS.bipush X0.here hx rfl (hb hby d3_9) ?_
      show Steps p.tables e below (s₁.setTop (mkF m 11 #[.val (.int p1)] [(.int (91 : Int32)), (.int p1)])) t
      exact k
    by_cases hc7 : p1 = (91 : Int32)
    · have K8 : ∀ t, Steps p.tables e below (s₁.setTop (mkF m 14 #[.val (.int p1)] [])) t → Steps p.tables e below (s₁.setTop (mkF m 11 #[.val (.int p1)] [(.int (91 : Int32)), (.int p1)])) t := by
        intro t k
        refine XS.icmpNo X0.here hx rfl (hb hby d3_11) rfl (teq hc7).2 ?_
        exact k
      have K9 : ∀ t, Steps p.tables e below (s₁.setTop (mkF m 15 #[.val (.int p1)] [(.int (2 : Int32))])) t → Steps p.tables e below (s₁.setTop (mkF m 14 #[.val (.int p1)] [])) t := by
        intro t k
        refine XS.iconst X0.here hx rfl (hb hby d3_14) ?_
        show Steps p.tables e below (s₁.setTop (mkF m 15 #[.val (.int p1)] [(.int (2 : Int32))])) t
        exact k
      obtain ⟨fs, hr, hrun, hended, hW, hsame⟩ := X0.leave (v := some (.int (2 : Int32))) (fun h => by rw [Bd.returns] at h; cases h)
      refine ⟨_, _, pre0 _ (K1 _ (K5 _ (K6 _ (K8 _ (K9 _ (retI X0 hx Bd.returns (hb hby d3_15) hr)))))), hrun, hended, _, _, rfl, ?_, ⟨_, rfl⟩, hW, hsame.mono (by decide) (by decide)⟩
      show Q3 Z p1 h0 n0 _ s₁.heap _
      rw [e0]
      exact ⟨congrArg (fun z => some (Value.int z)) (show (2 : Int32) = f3 p1 from Eq.symm ((if_neg hc2).trans (if_pos hc7))), N0, rfl⟩
    · have K10 : ∀ t, Steps p.tables e below (s₁.setTop (mkF m 16 #[.val (.int p1)] [])) t → Steps p.tables e below (s₁.setTop (mkF m 11 #[.val (.int p1)] [(.int (91 : Int32)), (.int p1)])) t := by
        intro t k
        refine XS.icmpYes X0.here hx rfl (pc0 := 11) (pc' := 16) rfl (hb hby d3_11) rfl (feq hc7).2 (by decide) (by decide) ?_
        exact k
      have K11 : ∀ t, Steps p.tables e below (s₁.setTop (mkF m 19 #[.val (.int p1)] [(.int (123 : Int32)), (.int p1)])) t → Steps p.tables e below (s₁.setTop (mkF m 16 #[.val (.int p1)] [])) t := by
        intro t k
        refine XS.iloadN X0.here hx rfl (hb hby d3_16) rfl ?_
        show Steps p.tables e below (s₁.setTop (mkF m 17 #[.val (.int p1)] [(.int p1)])) t
        refine XS.bipush X0.here hx rfl (hb hby d3_17) ?_
        show Steps p.tables e below (s₁.setTop (mkF m 19 #[.val (.int p1)] [(.int (123 : Int32)), (.int p1)])) t
        exact k
      by_cases hc12 : p1 = (123 : Int32)
      · have K13 : ∀ t, Steps p.tables e below (s₁.setTop (mkF m 22 #[.val (.int p1)] [])) t → Steps p.tables e below (s₁.setTop (mkF m 19 #[.val (.int p1)] [(.int (123 : Int32)), (.int p1)])) t := by
          intro t k
          refine XS.icmpNo X0.here hx rfl (hb hby d3_19) rfl (teq hc12).2 ?_
          exact k
        have K14 : ∀ t, Steps p.tables e below (s₁.setTop (mkF m 23 #[.val (.int p1)] [(.int (3 : Int32))])) t → Steps p.tables e below (s₁.setTop (mkF m 22 #[.val (.int p1)] [])) t := by
          intro t k
          refine XS.iconst X0.here hx rfl (hb hby d3_22) ?_
          show Steps p.tables e below (s₁.setTop (mkF m 23 #[.val (.int p1)] [(.int (3 : Int32))])) t
          exact k
        obtain ⟨fs, hr, hrun, hended, hW, hsame⟩ := X0.leave (v := some (.int (3 : Int32))) (fun h => by rw [Bd.returns] at h; cases h)
        refine ⟨_, _, pre0 _ (K1 _ (K5 _ (K6 _ (K10 _ (K11 _ (K13 _ (K14 _ (retI X0 hx Bd.returns (hb hby d3_23) hr)))))))), hrun, hended, _, _, rfl, ?_, ⟨_, rfl⟩, hW, hsame.mono (by decide) (by decide)⟩
        show Q3 Z p1 h0 n0 _ s₁.heap _
        rw [e0]
        exact ⟨congrArg (fun z => some (Value.int z)) (show (3 : Int32) = f3 p1 from Eq.symm ((if_neg hc2).trans ((if_neg hc7).trans (if_pos hc12)))), N0, rfl⟩
      · have K15 : ∀ t, Steps p.tables e below (s₁.setTop (mkF m 24 #[.val (.int p1)] [])) t → Steps p.tables e below (s₁.setTop (mkF m 19 #[.val (.int p1)] [(.int (123 : Int32)), (.int p1)])) t := by
          intro t k
          refine XS.icmpYes X0.here hx rfl (pc0 := 19) (pc' := 24) rfl (hb hby d3_19) rfl (feq hc12).2 (by decide) (by decide) ?_
          exact k
        have K16 : ∀ t, Steps p.tables e below (s₁.setTop (mkF m 27 #[.val (.int p1)] [(.int (41 : Int32)), (.int p1)])) t → Steps p.tables e below (s₁.setTop (mkF m 24 #[.val (.int p1)] [])) t := by
          intro t k
          refine XS.iloadN X0.here hx rfl (hb hby d3_24) rfl ?_
          show Steps p.tables e below (s₁.setTop (mkF m 25 #[.val (.int p1)] [(.int p1)])) t
          refine XS.bipush X0.here hx rfl (hb hby d3_25) ?_
          show Steps p.tables e below (s₁.setTop (mkF m 27 #[.val (.int p1)] [(.int (41 : Int32)), (.int p1)])) t
          exact k
        by_cases hc17 : p1 = (41 : Int32)
        · have K18 : ∀ t, Steps p.tables e below (s₁.setTop (mkF m 30 #[.val (.int p1)] [])) t → Steps p.tables e below (s₁.setTop (mkF m 27 #[.val (.int p1)] [(.int (41 : Int32)), (.int p1)])) t := by
            intro t k
            refine XS.icmpNo X0.here hx rfl (hb hby d3_27) rfl (teq hc17).2 ?_
            exact k
          have K19 : ∀ t, Steps p.tables e below (s₁.setTop (mkF m 31 #[.val (.int p1)] [(.int (-1 : Int32))])) t → Steps p.tables e below (s₁.setTop (mkF m 30 #[.val (.int p1)] [])) t := by
            intro t k
            refine XS.iconst X0.here hx rfl (hb hby d3_30) ?_
            show Steps p.tables e below (s₁.setTop (mkF m 31 #[.val (.int p1)] [(.int (-1 : Int32))])) t
            exact k
          obtain ⟨fs, hr, hrun, hended, hW, hsame⟩ := X0.leave (v := some (.int (-1 : Int32))) (fun h => by rw [Bd.returns] at h; cases h)
          refine ⟨_, _, pre0 _ (K1 _ (K5 _ (K6 _ (K10 _ (K11 _ (K15 _ (K16 _ (K18 _ (K19 _ (retI X0 hx Bd.returns (hb hby d3_31) hr)))))))))), hrun, hended, _, _, rfl, ?_, ⟨_, rfl⟩, hW, hsame.mono (by decide) (by decide)⟩
          show Q3 Z p1 h0 n0 _ s₁.heap _
          rw [e0]
          exact ⟨congrArg (fun z => some (Value.int z)) (show (-1 : Int32) = f3 p1 from Eq.symm ((if_neg hc2).trans ((if_neg hc7).trans ((if_neg hc12).trans (if_pos hc17))))), N0, rfl⟩
        · have K20 : ∀ t, Steps p.tables e below (s₁.setTop (mkF m 32 #[.val (.int p1)] [])) t → Steps p.tables e below (s₁.setTop (mkF m 27 #[.val (.int p1)] [(.int (41 : Int32)), (.int p1)])) t := by
            intro t k
            refine XS.icmpYes X0.here hx rfl (pc0 := 27) (pc' := 32) rfl (hb hby d3_27) rfl (feq hc17).2 (by decide) (by decide) ?_
            exact k
          have K21 : ∀ t, Steps p.tables e below (s₁.setTop (mkF m 35 #[.val (.int p1)] [(.int (93 : Int32)), (.int p1)])) t → Steps p.tables e below (s₁.setTop (mkF m 32 #[.val (.int p1)] [])) t := by
            intro t k
            refine XS.iloadN X0.here hx rfl (hb hby d3_32) rfl ?_
            show Steps p.tables e below (s₁.setTop (mkF m 33 #[.val (.int p1)] [(.int p1)])) t
            refine XS.bipush X0.here hx rfl (hb hby d3_33) ?_
            show Steps p.tables e below (s₁.setTop (mkF m 35 #[.val (.int p1)] [(.int (93 : Int32)), (.int p1)])) t
            exact k
          by_cases hc22 : p1 = (93 : Int32)
          · have K23 : ∀ t, Steps p.tables e below (s₁.setTop (mkF m 38 #[.val (.int p1)] [])) t → Steps p.tables e below (s₁.setTop (mkF m 35 #[.val (.int p1)] [(.int (93 : Int32)), (.int p1)])) t := by
              intro t k
              refine XS.icmpNo X0.here hx rfl (hb hby d3_35) rfl (teq hc22).2 ?_
              exact k
            have K24 : ∀ t, Steps p.tables e below (s₁.setTop (mkF m 40 #[.val (.int p1)] [(.int (-2 : Int32))])) t → Steps p.tables e below (s₁.setTop (mkF m 38 #[.val (.int p1)] [])) t := by
              intro t k
              refine XS.bipush X0.here hx rfl (hb hby d3_38) ?_
              show Steps p.tables e below (s₁.setTop (mkF m 40 #[.val (.int p1)] [(.int (-2 : Int32))])) t
              exact k
            obtain ⟨fs, hr, hrun, hended, hW, hsame⟩ := X0.leave (v := some (.int (-2 : Int32))) (fun h => by rw [Bd.returns] at h; cases h)
            refine ⟨_, _, pre0 _ (K1 _ (K5 _ (K6 _ (K10 _ (K11 _ (K15 _ (K16 _ (K20 _ (K21 _ (K23 _ (K24 _ (retI X0 hx Bd.returns (hb hby d3_40) hr)))))))))))), hrun, hended, _, _, rfl, ?_, ⟨_, rfl⟩, hW, hsame.mono (by decide) (by decide)⟩
            show Q3 Z p1 h0 n0 _ s₁.heap _
            rw [e0]
            exact ⟨congrArg (fun z => some (Value.int z)) (show (-2 : Int32) = f3 p1 from Eq.symm ((if_neg hc2).trans ((if_neg hc7).trans ((if_neg hc12).trans ((if_neg hc17).trans (if_pos hc22)))))), N0, rfl⟩
          · have K25 : ∀ t, Steps p.tables e below (s₁.setTop (mkF m 41 #[.val (.int p1)] [])) t → Steps p.tables e below (s₁.setTop (mkF m 35 #[.val (.int p1)] [(.int (93 : Int32)), (.int p1)])) t := by
              intro t k
              refine XS.icmpYes X0.here hx rfl (pc0 := 35) (pc' := 41) rfl (hb hby d3_35) rfl (feq hc22).2 (by decide) (by decide) ?_
              exact k
            have K26 : ∀ t, Steps p.tables e below (s₁.setTop (mkF m 44 #[.val (.int p1)] [(.int (125 : Int32)), (.int p1)])) t → Steps p.tables e below (s₁.setTop (mkF m 41 #[.val (.int p1)] [])) t := by
              intro t k
              refine XS.iloadN X0.here hx rfl (hb hby d3_41) rfl ?_
              show Steps p.tables e below (s₁.setTop (mkF m 42 #[.val (.int p1)] [(.int p1)])) t
              refine XS.bipush X0.here hx rfl (hb hby d3_42) ?_
              show Steps p.tables e below (s₁.setTop (mkF m 44 #[.val (.int p1)] [(.int (125 : Int32)), (.int p1)])) t
              exact k
            by_cases hc27 : p1 = (125 : Int32)
            · have K28 : ∀ t, Steps p.tables e below (s₁.setTop (mkF m 47 #[.val (.int p1)] [])) t → Steps p.tables e below (s₁.setTop (mkF m 44 #[.val (.int p1)] [(.int (125 : Int32)), (.int p1)])) t := by
                intro t k
                refine XS.icmpNo X0.here hx rfl (hb hby d3_44) rfl (teq hc27).2 ?_
                exact k
              have K29 : ∀ t, Steps p.tables e below (s₁.setTop (mkF m 49 #[.val (.int p1)] [(.int (-3 : Int32))])) t → Steps p.tables e below (s₁.setTop (mkF m 47 #[.val (.int p1)] [])) t := by
                intro t k
                refine XS.bipush X0.here hx rfl (hb hby d3_47) ?_
                show Steps p.tables e below (s₁.setTop (mkF m 49 #[.val (.int p1)] [(.int (-3 : Int32))])) t
                exact k
              obtain ⟨fs, hr, hrun, hended, hW, hsame⟩ := X0.leave (v := some (.int (-3 : Int32))) (fun h => by rw [Bd.returns] at h; cases h)
              refine ⟨_, _, pre0 _ (K1 _ (K5 _ (K6 _ (K10 _ (K11 _ (K15 _ (K16 _ (K20 _ (K21 _ (K25 _ (K26 _ (K28 _ (K29 _ (retI X0 hx Bd.returns (hb hby d3_49) hr)))))))))))))), hrun, hended, _, _, rfl, ?_, ⟨_, rfl⟩, hW, hsame.mono (by decide) (by decide)⟩
              show Q3 Z p1 h0 n0 _ s₁.heap _
              rw [e0]
              exact ⟨congrArg (fun z => some (Value.int z)) (show (-3 : Int32) = f3 p1 from Eq.symm ((if_neg hc2).trans ((if_neg hc7).trans ((if_neg hc12).trans ((if_neg hc17).trans ((if_neg hc22).trans (if_pos hc27))))))), N0, rfl⟩
            · have K30 : ∀ t, Steps p.tables e below (s₁.setTop (mkF m 50 #[.val (.int p1)] [])) t → Steps p.tables e below (s₁.setTop (mkF m 44 #[.val (.int p1)] [(.int (125 : Int32)), (.int p1)])) t := by
                intro t k
                refine XS.icmpYes X0.here hx rfl (pc0 := 44) (pc' := 50) rfl (hb hby d3_44) rfl (feq hc27).2 (by decide) (by decide) ?_
                exact k
              have K31 : ∀ t, Steps p.tables e below (s₁.setTop (mkF m 51 #[.val (.int p1)] [(.int (0 : Int32))])) t → Steps p.tables e below (s₁.setTop (mkF m 50 #[.val (.int p1)] [])) t := by
                intro t k
                refine XS.iconst X0.here hx rfl (hb hby d3_50) ?_
                show Steps p.tables e below (s₁.setTop (mkF m 51 #[.val (.int p1)] [(.int (0 : Int32))])) t
                exact k
              obtain ⟨fs, hr, hrun, hended, hW, hsame⟩ := X0.leave (v := some (.int (0 : Int32))) (fun h => by rw [Bd.returns] at h; cases h)
              refine ⟨_, _, pre0 _ (K1 _ (K5 _ (K6 _ (K10 _ (K11 _ (K15 _ (K16 _ (K20 _ (K21 _ (K25 _ (K26 _ (K30 _ (K31 _ (retI X0 hx Bd.returns (hb hby d3_51) hr)))))))))))))), hrun, hended, _, _, rfl, ?_, ⟨_, rfl⟩, hW, hsame.mono (by decide) (by decide)⟩
              show Q3 Z p1 h0 n0 _ s₁.heap _
              rw [e0]
              exact ⟨congrArg (fun z => some (Value.int z)) (show (0 : Int32) = f3 p1 from Eq.symm ((if_neg hc2).trans ((if_neg hc7).trans ((if_neg hc12).trans ((if_neg hc17).trans ((if_neg hc22).trans (if_neg hc27))))))), N0, rfl⟩
-- body 2: com/example/clapboard/clapboard/parse/TitleTextIsAloneInBracketsPinLaw.isOpener(C)Z
theorem d2_0 : decode method_4_code 0 = .ok (.iload_n 0, 1) := by decide +kernel
theorem d2_1 : decode method_4_code 1 = .ok (.invokestatic 24, 3) := by decide +kernel
theorem d2_4 : decode method_4_code 4 = .ok (.istore_n 1, 1) := by decide +kernel
theorem d2_5 : decode method_4_code 5 = .ok (.iload_n 1, 1) := by decide +kernel
theorem d2_6 : decode method_4_code 6 = .ok (.iconst 1, 1) := by decide +kernel
theorem d2_7 : decode method_4_code 7 = .ok (.if_icmp .eq 8, 3) := by decide +kernel
theorem d2_10 : decode method_4_code 10 = .ok (.iload_n 1, 1) := by decide +kernel
theorem d2_11 : decode method_4_code 11 = .ok (.iconst 2, 1) := by decide +kernel
theorem d2_12 : decode method_4_code 12 = .ok (.if_icmp .ne 7, 3) := by decide +kernel
theorem d2_15 : decode method_4_code 15 = .ok (.iconst 1, 1) := by decide +kernel
theorem d2_16 : decode method_4_code 16 = .ok (.goto 4, 3) := by decide +kernel
theorem d2_19 : decode method_4_code 19 = .ok (.iconst 0, 1) := by decide +kernel
theorem d2_20 : decode method_4_code 20 = .ok (.ireturn, 1) := by decide +kernel
theorem pn_2 : plainName "com/example/clapboard/clapboard/parse/TitleTextIsAloneInBracketsPinLaw" = true := by first | (simp [plainName, overriddenIn]; done) | decide +kernel
theorem pd_2 : parseMethodDescriptor "(C)I" = some ⟨[.char], some .int⟩ := by decide +kernel
theorem ef_2 (m : MethodId) (p1 : Int32) : entryFrame m #[(.int p1)] 2 = mkF m 0 #[.val (.int p1), .unset] [] := by first | (simp [entryFrame, mkF, argsToLocals, Value.category]; done) | rfl
def f2 (p1 : Int32) : Int32 := (if (f3 p1) = (1 : Int32) then (1 : Int32) else (if (f3 p1) = (2 : Int32) then (1 : Int32) else (0 : Int32)))
def Q2 (Z : State) (p1 : Int32) (h0 : Heap) (n0 : Nat) (v : Option Value) (h : Heap) (L : List Loc) : Prop := v = some (.int (f2 p1)) ∧ Fr n0 L ∧ h = h0
set_option maxRecDepth 65536 in
set_option maxHeartbeats 40000000 in
theorem rm2 (l : Launch) (Z : State) (a0 : Array Value) (hw : ∀ d ∈ tables_1, d.before a0 Z = true) (ws : List Jvm.Cond) (p1 : Int32) (h0 : Heap) (n0 : Nat) (Z0 : n0 ≤ h0.size) :
    MetFree l (⟨"com/example/clapboard/clapboard/parse/TitleTextIsAloneInBracketsPinLaw", "isOpener", "(C)Z"⟩ : MethodName) (head1 (Jvm.Cond.code (⟨"com/example/clapboard/clapboard/parse/TitleTextIsAloneInBracketsPinLaw", "isOpener", "(C)Z"⟩ : MethodName) method_4_code 2 (some .boolean) :: ws) ({ frames := 1, cells := 0, slots := 0, locals := 12 } : Room)) (fun a U => a = #[(.int p1)] ∧ Z.Warmed39 U.vm ∧ U.heap = h0) (fun _ _ _ _ _ => True) (fun _ U o U' => ∃ v L, o = .returned v ∧ Q2 Z p1 h0 n0 v U'.heap L ∧ FrameEnd U o U' L ({ frames := 1, cells := 0, slots := 0, locals := 12 } : Room).cells ({ frames := 1, cells := 0, slots := 0, locals := 12 } : Room).slots) := by
  refine MetFree.of_bodySF (plainFor_of_name pn_2) hisR ?_
  intro p e s m args below meth c s₁ Bd hml0 hP hK
  obtain ⟨rfl, hZ, hh⟩ := hP
  have hx := Bd.exec
  have hby := Bd.bytes
  have hml : c.maxLocals = 2 := hml0
  have hown : s.vm.findClass "com/example/clapboard/clapboard/parse/TitleTextIsAloneInBracketsPinLaw" = some m.cls := findClass_of_methodNamed Bd.named
  have hnm := (name_of_methodNamed Bd.named Bd.method).1
  have X0 : Stand p l e ({ frames := 1, cells := 0, slots := 0, locals := 12 } : Room) s m #[(.int p1)] below meth c s₁ [] 0 0 := Stand.of_body Bd
  have e0 : s₁.heap = h0 := by rw [← hh, Bd.state]; rfl
  have N0 := Fr.nil n0
  have pre0 : ∀ t, Steps p.tables e below (s₁.setTop (mkF m 0 #[.val (.int p1), .unset] [])) t → Steps p.tables e below (s₁.setTop (entryFrame m #[(.int p1)] 2)) t := fun t k => castTop (ef_2 m p1) k
  have K1 : ∀ t, Steps p.tables e below (s₁.setTop (mkF m 1 #[.val (.int p1), .unset] [(.int p1)])) t → Steps p.tables e below (s₁.setTop (mkF m 0 #[.val (.int p1), .unset] [])) t := by
    intro t k
    refine XS.iloadN X0.here hx rfl (hb hby d2_0) rfl ?_
    show Steps p.tables e below (s₁.setTop (mkF m 1 #[.val (.int p1), .unset] [(.int p1)])) t
    exact k
  obtain ⟨_, _, ⟨T2, L2, k2, n2⟩, -, X2, ⟨Lc2, hQ2, l2, y2, z2⟩, st2⟩ := Jvm.LawKit.callS X0 hx (y := (⟨"com/example/clapboard/clapboard/parse/TitleTextIsAloneInBracketsPinLaw", "kind", "(C)I"⟩ : MethodName)) hown (mvT hZ (hw _ (List.mem_of_getElem? (i := 11) rfl))) (mvT hZ (hw _ (List.mem_of_getElem? (i := 12) rfl))) (mvT hZ (hw _ (List.mem_of_getElem? (i := 9) rfl))) (mvT hZ (hw _ (List.mem_of_getElem? (i := 13) rfl))) (by decide) (backOf (W := 0) (rm3 l Z a0 hw [] p1 h0 n0 Z0 ) hZ (hw _ (List.mem_of_getElem? (i := 13) rfl)) (hw _ (List.mem_of_getElem? (i := 9) rfl)) (by decide) (by decide)) (g := (mkF m 1 #[.val (.int p1), .unset] [(.int p1)])) rfl (by rw [hml]; rfl) (argsL := [(.int p1)]) (rest := []) (lenOf pd_2 rfl) rfl (by show 2 * 0 + _ ≤ _; exact Nat.le_of_eq rfl) (hb hby d2_1) (fun _ _ => ⟨rfl, e0, (by decide : 0 + 0 ≤ _), (by decide : 0 + 0 ≤ _)⟩)
  dsimp only [Pt.U, Pt.locs, Pt.cells, Pt.slots] at X2 l2 y2 z2 st2 hQ2
  subst l2 y2 z2
  obtain ⟨rfl, N2q, e2⟩ := hQ2
  have N2 := Fr.app N0 N2q
  have K3 : ∀ t, Steps p.tables e below (T2.setTop (mkF m 4 #[.val (.int p1), .unset] [(.int (f3 p1))])) t → Steps p.tables e below (s₁.setTop (mkF m 1 #[.val (.int p1), .unset] [(.int p1)])) t := fun t k => st2 _ k
  have K4 : ∀ t, Steps p.tables e below (T2.setTop (mkF m 7 #[.val (.int p1), .val (.int (f3 p1))] [(.int (1 : Int32)), (.int (f3 p1))])) t → Steps p.tables e below (T2.setTop (mkF m 4 #[.val (.int p1), .unset] [(.int (f3 p1))])) t := by
    intro t k
    refine XS.istoreN X2.here hx rfl (hb hby d2_4) rfl (l' := #[.val (.int p1), .val (.int (f3 p1))]) rfl ?_
    show Steps p.tables e below (T2.setTop (mkF m 5 #[.val (.int p1), .val (.int (f3 p1))] [])) t
    refine XS.iloadN X2.here hx rfl (hb hby d2_5) rfl ?_
    show Steps p.tables e below (T2.setTop (mkF m 6 #[.val (.int p1), .val (.int (f3 p1))] [(.int (f3 p1))])) t
    refine XS.iconst X2.here hx rfl (hb hby d2_6) ?_
    show Steps p.tables e below (T2.setTop (mkF m 7 #[.val (.int p1), .val (.int (f3 p1))] [(.int (1 : Int32)), (.int (f3 p1))])) t
    exact k
  by_cases hc5 : (f3 p1) = (1 : Int32)
  · have K6 : ∀ t, Steps p.tables e below (T2.setTop (mkF m 15 #[.val (.int p1), .val (.int (f3 p1))] [])) t → Steps p.tables e below (T2.setTop (mkF m 7 #[.val (.int p1), .val (.int (f3 p1))] [(.int (1 : Int32)), (.int (f3 p1))])) t := by
      intro t k
      refine XS.icmpYes X2.here hx rfl (pc0 := 7) (pc' := 15) rfl (hb hby d2_7) rfl (teq hc5).1 (by decide) (by decide) ?_
      exact k
    have K7 : ∀ t, Steps p.tables e below (T2.setTop (mkF m 20 #[.val (.int p1), .val (.int (f3 p1))] [(.int (1 : Int32))])) t → Steps p.tables e below (T2.setTop (mkF m 15 #[.val (.int p1), .val (.int (f3 p1))] [])) t := by
      intro t k
      refine XS.iconst X2.here hx rfl (hb hby d2_15) ?_
      show Steps p.tables e below (T2.setTop (mkF m 16 #[.val (.int p1), .val (.int (f3 p1))] [(.int (1 : Int32))])) t
      refine XS.goto X2.here hx rfl (pc0 := 16) (pc' := 20) rfl (hb hby d2_16) (by decide) (by decide) ?_
      show Steps p.tables e below (T2.setTop (mkF m 20 #[.val (.int p1), .val (.int (f3 p1))] [(.int (1 : Int32))])) t
      exact k
    obtain ⟨fs, hr, hrun, hended, hW, hsame⟩ := X2.leave (v := some (.int (1 : Int32))) (fun h => by rw [Bd.returns] at h; cases h)
    refine ⟨_, _, pre0 _ (K1 _ (K3 _ (K4 _ (K6 _ (K7 _ (retN X2 hx (t := .boolean) Bd.returns (by simp) (hb hby d2_20) hr)))))), hrun, hended, _, _, rfl, ?_, ⟨_, rfl⟩, hW, hsame.mono (by decide) (by decide)⟩
    show Q2 Z p1 h0 n0 _ T2.heap _
    rw [e2]
    exact ⟨congrArg (fun z => some (Value.int z)) (show (1 : Int32) = f2 p1 from Eq.symm (if_pos hc5)), N2, rfl⟩
  · have K8 : ∀ t, Steps p.tables e below (T2.setTop (mkF m 10 #[.val (.int p1), .val (.int (f3 p1))] [])) t → Steps p.tables e below (T2.setTop (mkF m 7 #[.val (.int p1), .val (.int (f3 p1))] [(.int (1 : Int32)), (.int (f3 p1))])) t := by
      intro t k
      refine XS.icmpNo X2.here hx rfl (hb hby d2_7) rfl (feq hc5).1 ?_
      exact k
    have K9 : ∀ t, Steps p.tables e below (T2.setTop (mkF m 12 #[.val (.int p1), .val (.int (f3 p1))] [(.int (2 : Int32)), (.int (f3 p1))])) t → Steps p.tables e below (T2.setTop (mkF m 10 #[.val (.int p1), .val (.int (f3 p1))] [])) t := by
      intro t k
      refine XS.iloadN X2.here hx rfl (hb hby d2_10) rfl ?_
      show Steps p.tables e below (T2.setTop (mkF m 11 #[.val (.int p1), .val (.int (f3 p1))] [(.int (f3 p1))])) t
      refine XS.iconst X2.here hx rfl (hb hby d2_11) ?_
      show Steps p.tables e below (T2.setTop (mkF m 12 #[.val (.int p1), .val (.int (f3 p1))] [(.int (2 : Int32)), (.int (f3 p1))])) t
      exact k
    by_cases hc10 : (f3 p1) = (2 : Int32)
    · have K11 : ∀ t, Steps p.tables e below (T2.setTop (mkF m 15 #[.val (.int p1), .val (.int (f3 p1))] [])) t → Steps p.tables e below (T2.setTop (mkF m 12 #[.val (.int p1), .val (.int (f3 p1))] [(.int (2 : Int32)), (.int (f3 p1))])) t := by
        intro t k
        refine XS.icmpNo X2.here hx rfl (hb hby d2_12) rfl (teq hc10).2 ?_
        exact k
      have K12 : ∀ t, Steps p.tables e below (T2.setTop (mkF m 20 #[.val (.int p1), .val (.int (f3 p1))] [(.int (1 : Int32))])) t → Steps p.tables e below (T2.setTop (mkF m 15 #[.val (.int p1), .val (.int (f3 p1))] [])) t := by
        intro t k
        refine XS.iconst X2.here hx rfl (hb hby d2_15) ?_
        show Steps p.tables e below (T2.setTop (mkF m 16 #[.val (.int p1), .val (.int (f3 p1))] [(.int (1 : Int32))])) t
        refine XS.goto X2.here hx rfl (pc0 := 16) (pc' := 20) rfl (hb hby d2_16) (by decide) (by decide) ?_
        show Steps p.tables e below (T2.setTop (mkF m 20 #[.val (.int p1), .val (.int (f3 p1))] [(.int (1 : Int32))])) t
        exact k
      obtain ⟨fs, hr, hrun, hended, hW, hsame⟩ := X2.leave (v := some (.int (1 : Int32))) (fun h => by rw [Bd.returns] at h; cases h)
      refine ⟨_, _, pre0 _ (K1 _ (K3 _ (K4 _ (K8 _ (K9 _ (K11 _ (K12 _ (retN X2 hx (t := .boolean) Bd.returns (by simp) (hb hby d2_20) hr)))))))), hrun, hended, _, _, rfl, ?_, ⟨_, rfl⟩, hW, hsame.mono (by decide) (by decide)⟩
      show Q2 Z p1 h0 n0 _ T2.heap _
      rw [e2]
      exact ⟨congrArg (fun z => some (Value.int z)) (show (1 : Int32) = f2 p1 from Eq.symm ((if_neg hc5).trans (if_pos hc10))), N2, rfl⟩
    · have K13 : ∀ t, Steps p.tables e below (T2.setTop (mkF m 19 #[.val (.int p1), .val (.int (f3 p1))] [])) t → Steps p.tables e below (T2.setTop (mkF m 12 #[.val (.int p1), .val (.int (f3 p1))] [(.int (2 : Int32)), (.int (f3 p1))])) t := by
        intro t k
        refine XS.icmpYes X2.here hx rfl (pc0 := 12) (pc' := 19) rfl (hb hby d2_12) rfl (feq hc10).2 (by decide) (by decide) ?_
        exact k
      have K14 : ∀ t, Steps p.tables e below (T2.setTop (mkF m 20 #[.val (.int p1), .val (.int (f3 p1))] [(.int (0 : Int32))])) t → Steps p.tables e below (T2.setTop (mkF m 19 #[.val (.int p1), .val (.int (f3 p1))] [])) t := by
        intro t k
        refine XS.iconst X2.here hx rfl (hb hby d2_19) ?_
        show Steps p.tables e below (T2.setTop (mkF m 20 #[.val (.int p1), .val (.int (f3 p1))] [(.int (0 : Int32))])) t
        exact k
      obtain ⟨fs, hr, hrun, hended, hW, hsame⟩ := X2.leave (v := some (.int (0 : Int32))) (fun h => by rw [Bd.returns] at h; cases h)
      refine ⟨_, _, pre0 _ (K1 _ (K3 _ (K4 _ (K8 _ (K9 _ (K13 _ (K14 _ (retN X2 hx (t := .boolean) Bd.returns (by simp) (hb hby d2_20) hr)))))))), hrun, hended, _, _, rfl, ?_, ⟨_, rfl⟩, hW, hsame.mono (by decide) (by decide)⟩
      show Q2 Z p1 h0 n0 _ T2.heap _
      rw [e2]
      exact ⟨congrArg (fun z => some (Value.int z)) (show (0 : Int32) = f2 p1 from Eq.symm ((if_neg hc5).trans (if_neg hc10))), N2, rfl⟩
-- body 4: com/example/clapboard/clapboard/parse/TitleTextIsAloneInBracketsPinLaw.isCloser(C)Z
theorem d4_0 : decode method_5_code 0 = .ok (.iload_n 0, 1) := by decide +kernel
theorem d4_1 : decode method_5_code 1 = .ok (.invokestatic 24, 3) := by decide +kernel
theorem d4_4 : decode method_5_code 4 = .ok (.istore_n 1, 1) := by decide +kernel
theorem d4_5 : decode method_5_code 5 = .ok (.iload_n 1, 1) := by decide +kernel
theorem d4_6 : decode method_5_code 6 = .ok (.iconst (-1), 1) := by decide +kernel
theorem d4_7 : decode method_5_code 7 = .ok (.if_icmp .eq 9, 3) := by decide +kernel
theorem d4_10 : decode method_5_code 10 = .ok (.iload_n 1, 1) := by decide +kernel
theorem d4_11 : decode method_5_code 11 = .ok (.bipush (-2), 2) := by decide +kernel
theorem d4_13 : decode method_5_code 13 = .ok (.if_icmp .ne 7, 3) := by decide +kernel
theorem d4_16 : decode method_5_code 16 = .ok (.iconst 1, 1) := by decide +kernel
theorem d4_17 : decode method_5_code 17 = .ok (.goto 4, 3) := by decide +kernel
theorem d4_20 : decode method_5_code 20 = .ok (.iconst 0, 1) := by decide +kernel
theorem d4_21 : decode method_5_code 21 = .ok (.ireturn, 1) := by decide +kernel
theorem pn_4 : plainName "com/example/clapboard/clapboard/parse/TitleTextIsAloneInBracketsPinLaw" = true := by first | (simp [plainName, overriddenIn]; done) | decide +kernel
theorem ef_4 (m : MethodId) (p1 : Int32) : entryFrame m #[(.int p1)] 2 = mkF m 0 #[.val (.int p1), .unset] [] := by first | (simp [entryFrame, mkF, argsToLocals, Value.category]; done) | rfl
def f4 (p1 : Int32) : Int32 := (if (f3 p1) = (-1 : Int32) then (1 : Int32) else (if (f3 p1) = (-2 : Int32) then (1 : Int32) else (0 : Int32)))
def Q4 (Z : State) (p1 : Int32) (h0 : Heap) (n0 : Nat) (v : Option Value) (h : Heap) (L : List Loc) : Prop := v = some (.int (f4 p1)) ∧ Fr n0 L ∧ h = h0
set_option maxRecDepth 65536 in
set_option maxHeartbeats 40000000 in
theorem rm4 (l : Launch) (Z : State) (a0 : Array Value) (hw : ∀ d ∈ tables_1, d.before a0 Z = true) (ws : List Jvm.Cond) (p1 : Int32) (h0 : Heap) (n0 : Nat) (Z0 : n0 ≤ h0.size) :
    MetFree l (⟨"com/example/clapboard/clapboard/parse/TitleTextIsAloneInBracketsPinLaw", "isCloser", "(C)Z"⟩ : MethodName) (head1 (Jvm.Cond.code (⟨"com/example/clapboard/clapboard/parse/TitleTextIsAloneInBracketsPinLaw", "isCloser", "(C)Z"⟩ : MethodName) method_5_code 2 (some .boolean) :: ws) ({ frames := 1, cells := 0, slots := 0, locals := 12 } : Room)) (fun a U => a = #[(.int p1)] ∧ Z.Warmed39 U.vm ∧ U.heap = h0) (fun _ _ _ _ _ => True) (fun _ U o U' => ∃ v L, o = .returned v ∧ Q4 Z p1 h0 n0 v U'.heap L ∧ FrameEnd U o U' L ({ frames := 1, cells := 0, slots := 0, locals := 12 } : Room).cells ({ frames := 1, cells := 0, slots := 0, locals := 12 } : Room).slots) := by
  refine MetFree.of_bodySF (plainFor_of_name pn_4) hisR ?_
  intro p e s m args below meth c s₁ Bd hml0 hP hK
  obtain ⟨rfl, hZ, hh⟩ := hP
  have hx := Bd.exec
  have hby := Bd.bytes
  have hml : c.maxLocals = 2 := hml0
  have hown : s.vm.findClass "com/example/clapboard/clapboard/parse/TitleTextIsAloneInBracketsPinLaw" = some m.cls := findClass_of_methodNamed Bd.named
  have hnm := (name_of_methodNamed Bd.named Bd.method).1
  have X0 : Stand p l e ({ frames := 1, cells := 0, slots := 0, locals := 12 } : Room) s m #[(.int p1)] below meth c s₁ [] 0 0 := Stand.of_body Bd
  have e0 : s₁.heap = h0 := by rw [← hh, Bd.state]; rfl
  have N0 := Fr.nil n0
  have pre0 : ∀ t, Steps p.tables e below (s₁.setTop (mkF m 0 #[.val (.int p1), .unset] [])) t → Steps p.tables e below (s₁.setTop (entryFrame m #[(.int p1)] 2)) t := fun t k => castTop (ef_4 m p1) k
  have K1 : ∀ t, Steps p.tables e below (s₁.setTop (mkF m 1 #[.val (.int p1), .unset] [(.int p1)])) t → Steps p.tables e below (s₁.setTop (mkF m 0 #[.val (.int p1), .unset] [])) t := by
    intro t k
    refine XS.iloadN X0.here hx rfl (hb hby d4_0) rfl ?_
    show Steps p.tables e below (s₁.setTop (mkF m 1 #[.val (.int p1), .unset] [(.int p1)])) t
    exact k
  obtain ⟨_, _, ⟨T2, L2, k2, n2⟩, -, X2, ⟨Lc2, hQ2, l2, y2, z2⟩, st2⟩ := Jvm.LawKit.callS X0 hx (y := (⟨"com/example/clapboard/clapboard/parse/TitleTextIsAloneInBracketsPinLaw", "kind", "(C)I"⟩ : MethodName)) hown (mvT hZ (hw _ (List.mem_of_getElem? (i := 11) rfl))) (mvT hZ (hw _ (List.mem_of_getElem? (i := 12) rfl))) (mvT hZ (hw _ (List.mem_of_getElem? (i := 9) rfl))) (mvT hZ (hw _ (List.mem_of_getElem? (i := 13) rfl))) (by decide) (backOf (W := 0) (rm3 l Z a0 hw [] p1 h0 n0 Z0 ) hZ (hw _ (List.mem_of_getElem? (i := 13) rfl)) (hw _ (List.mem_of_getElem? (i := 9) rfl)) (by decide) (by decide)) (g := (mkF m 1 #[.val (.int p1), .unset] [(.int p1)])) rfl (by rw [hml]; rfl) (argsL := [(.int p1)]) (rest := []) (lenOf pd_2 rfl) rfl (by show 2 * 0 + _ ≤ _; exact Nat.le_of_eq rfl) (hb hby d4_1) (fun _ _ => ⟨rfl, e0, (by decide : 0 + 0 ≤ _), (by decide : 0 + 0 ≤ _)⟩)
  dsimp only [Pt.U, Pt.locs, Pt.cells, Pt.slots] at X2 l2 y2 z2 st2 hQ2
  subst l2 y2 z2
  obtain ⟨rfl, N2q, e2⟩ := hQ2
  have N2 := Fr.app N0 N2q
  have K3 : ∀ t, Steps p.tables e below (T2.setTop (mkF m 4 #[.val (.int p1), .unset] [(.int (f3 p1))])) t → Steps p.tables e below (s₁.setTop (mkF m 1 #[.val (.int p1), .unset] [(.int p1)])) t := fun t k => st2 _ k
  have K4 : ∀ t, Steps p.tables e below (T2.setTop (mkF m 7 #[.val (.int p1), .val (.int (f3 p1))] [(.int (-1 : Int32)), (.int (f3 p1))])) t → Steps p.tables e below (T2.setTop (mkF m 4 #[.val (.int p1), .unset] [(.int (f3 p1))])) t := by
    intro t k
    refine XS.istoreN X2.here hx rfl (hb hby d4_4) rfl (l' := #[.val (.int p1), .val (.int (f3 p1))]) rfl ?_
    show Steps p.tables e below (T2.setTop (mkF m 5 #[.val (.int p1), .val (.int (f3 p1))] [])) t
    refine XS.iloadN X2.here hx rfl (hb hby d4_5) rfl ?_
    show Steps p.tables e below (T2.setTop (mkF m 6 #[.val (.int p1), .val (.int (f3 p1))] [(.int (f3 p1))])) t
    refine XS.iconst X2.here hx rfl (hb hby d4_6) ?_
    show Steps p.tables e below (T2.setTop (mkF m 7 #[.val (.int p1), .val (.int (f3 p1))] [(.int (-1 : Int32)), (.int (f3 p1))])) t
    exact k
  by_cases hc5 : (f3 p1) = (-1 : Int32)
  · have K6 : ∀ t, Steps p.tables e below (T2.setTop (mkF m 16 #[.val (.int p1), .val (.int (f3 p1))] [])) t → Steps p.tables e below (T2.setTop (mkF m 7 #[.val (.int p1), .val (.int (f3 p1))] [(.int (-1 : Int32)), (.int (f3 p1))])) t := by
      intro t k
      refine XS.icmpYes X2.here hx rfl (pc0 := 7) (pc' := 16) rfl (hb hby d4_7) rfl (teq hc5).1 (by decide) (by decide) ?_
      exact k
    have K7 : ∀ t, Steps p.tables e below (T2.setTop (mkF m 21 #[.val (.int p1), .val (.int (f3 p1))] [(.int (1 : Int32))])) t → Steps p.tables e below (T2.setTop (mkF m 16 #[.val (.int p1), .val (.int (f3 p1))] [])) t := by
      intro t k
      refine XS.iconst X2.here hx rfl (hb hby d4_16) ?_
      show Steps p.tables e below (T2.setTop (mkF m 17 #[.val (.int p1), .val (.int (f3 p1))] [(.int (1 : Int32))])) t
      refine XS.goto X2.here hx rfl (pc0 := 17) (pc' := 21) rfl (hb hby d4_17) (by decide) (by decide) ?_
      show Steps p.tables e below (T2.setTop (mkF m 21 #[.val (.int p1), .val (.int (f3 p1))] [(.int (1 : Int32))])) t
      exact k
    obtain ⟨fs, hr, hrun, hended, hW, hsame⟩ := X2.leave (v := some (.int (1 : Int32))) (fun h => by rw [Bd.returns] at h; cases h)
    refine ⟨_, _, pre0 _ (K1 _ (K3 _ (K4 _ (K6 _ (K7 _ (retN X2 hx (t := .boolean) Bd.returns (by simp) (hb hby d4_21) hr)))))), hrun, hended, _, _, rfl, ?_, ⟨_, rfl⟩, hW, hsame.mono (by decide) (by decide)⟩
    show Q4 Z p1 h0 n0 _ T2.heap _
    rw [e2]
    exact ⟨congrArg (fun z => some (Value.int z)) (show (1 : Int32) = f4 p1 from Eq.symm (if_pos hc5)), N2, rfl⟩
  · have K8 : ∀ t, Steps p.tables e below (T2.setTop (mkF m 10 #[.val (.int p1), .val (.int (f3 p1))] [])) t → Steps p.tables e below (T2.setTop (mkF m 7 #[.val (.int p1), .val (.int (f3 p1))] [(.int (-1 : Int32)), (.int (f3 p1))])) t := by
      intro t k
      refine XS.icmpNo X2.here hx rfl (hb hby d4_7) rfl (feq hc5).1 ?_
      exact k
    have K9 : ∀ t, Steps p.tables e below (T2.setTop (mkF m 13 #[.val (.int p1), .val (.int (f3 p1))] [(.int (-2 : Int32)), (.int (f3 p1))])) t → Steps p.tables e below (T2.setTop (mkF m 10 #[.val (.int p1), .val (.int (f3 p1))] [])) t := by
      intro t k
      refine XS.iloadN X2.here hx rfl (hb hby d4_10) rfl ?_
      show Steps p.tables e below (T2.setTop (mkF m 11 #[.val (.int p1), .val (.int (f3 p1))] [(.int (f3 p1))])) t
      refine XS.bipush X2.here hx rfl (hb hby d4_11) ?_
      show Steps p.tables e below (T2.setTop (mkF m 13 #[.val (.int p1), .val (.int (f3 p1))] [(.int (-2 : Int32)), (.int (f3 p1))])) t
      exact k
    by_cases hc10 : (f3 p1) = (-2 : Int32)
    · have K11 : ∀ t, Steps p.tables e below (T2.setTop (mkF m 16 #[.val (.int p1), .val (.int (f3 p1))] [])) t → Steps p.tables e below (T2.setTop (mkF m 13 #[.val (.int p1), .val (.int (f3 p1))] [(.int (-2 : Int32)), (.int (f3 p1))])) t := by
        intro t k
        refine XS.icmpNo X2.here hx rfl (hb hby d4_13) rfl (teq hc10).2 ?_
        exact k
      have K12 : ∀ t, Steps p.tables e below (T2.setTop (mkF m 21 #[.val (.int p1), .val (.int (f3 p1))] [(.int (1 : Int32))])) t → Steps p.tables e below (T2.setTop (mkF m 16 #[.val (.int p1), .val (.int (f3 p1))] [])) t := by
        intro t k
        refine XS.iconst X2.here hx rfl (hb hby d4_16) ?_
        show Steps p.tables e below (T2.setTop (mkF m 17 #[.val (.int p1), .val (.int (f3 p1))] [(.int (1 : Int32))])) t
        refine XS.goto X2.here hx rfl (pc0 := 17) (pc' := 21) rfl (hb hby d4_17) (by decide) (by decide) ?_
        show Steps p.tables e below (T2.setTop (mkF m 21 #[.val (.int p1), .val (.int (f3 p1))] [(.int (1 : Int32))])) t
        exact k
      obtain ⟨fs, hr, hrun, hended, hW, hsame⟩ := X2.leave (v := some (.int (1 : Int32))) (fun h => by rw [Bd.returns] at h; cases h)
      refine ⟨_, _, pre0 _ (K1 _ (K3 _ (K4 _ (K8 _ (K9 _ (K11 _ (K12 _ (retN X2 hx (t := .boolean) Bd.returns (by simp) (hb hby d4_21) hr)))))))), hrun, hended, _, _, rfl, ?_, ⟨_, rfl⟩, hW, hsame.mono (by decide) (by decide)⟩
      show Q4 Z p1 h0 n0 _ T2.heap _
      rw [e2]
      exact ⟨congrArg (fun z => some (Value.int z)) (show (1 : Int32) = f4 p1 from Eq.symm ((if_neg hc5).trans (if_pos hc10))), N2, rfl⟩
    · have K13 : ∀ t, Steps p.tables e below (T2.setTop (mkF m 20 #[.val (.int p1), .val (.int (f3 p1))] [])) t → Steps p.tables e below (T2.setTop (mkF m 13 #[.val (.int p1), .val (.int (f3 p1))] [(.int (-2 : Int32)), (.int (f3 p1))])) t := by
        intro t k
        refine XS.icmpYes X2.here hx rfl (pc0 := 13) (pc' := 20) rfl (hb hby d4_13) rfl (feq hc10).2 (by decide) (by decide) ?_
        exact k
      have K14 : ∀ t, Steps p.tables e below (T2.setTop (mkF m 21 #[.val (.int p1), .val (.int (f3 p1))] [(.int (0 : Int32))])) t → Steps p.tables e below (T2.setTop (mkF m 20 #[.val (.int p1), .val (.int (f3 p1))] [])) t := by
        intro t k
        refine XS.iconst X2.here hx rfl (hb hby d4_20) ?_
        show Steps p.tables e below (T2.setTop (mkF m 21 #[.val (.int p1), .val (.int (f3 p1))] [(.int (0 : Int32))])) t
        exact k
      obtain ⟨fs, hr, hrun, hended, hW, hsame⟩ := X2.leave (v := some (.int (0 : Int32))) (fun h => by rw [Bd.returns] at h; cases h)
      refine ⟨_, _, pre0 _ (K1 _ (K3 _ (K4 _ (K8 _ (K9 _ (K13 _ (K14 _ (retN X2 hx (t := .boolean) Bd.returns (by simp) (hb hby d4_21) hr)))))))), hrun, hended, _, _, rfl, ?_, ⟨_, rfl⟩, hW, hsame.mono (by decide) (by decide)⟩
      show Q4 Z p1 h0 n0 _ T2.heap _
      rw [e2]
      exact ⟨congrArg (fun z => some (Value.int z)) (show (0 : Int32) = f4 p1 from Eq.symm ((if_neg hc5).trans (if_neg hc10))), N2, rfl⟩
-- body 1: com/example/clapboard/clapboard/parse/TitleText.isAloneInBrackets([CII)Z
theorem d1_0 : decode prog_128_method_7_code 0 = .ok (.iload_n 1, 1) := by decide +kernel
theorem d1_1 : decode prog_128_method_7_code 1 = .ok (.ifCond .le 49, 3) := by decide +kernel
theorem d1_4 : decode prog_128_method_7_code 4 = .ok (.aload_n 0, 1) := by decide +kernel
theorem d1_5 : decode prog_128_method_7_code 5 = .ok (.iload_n 1, 1) := by decide +kernel
theorem d1_6 : decode prog_128_method_7_code 6 = .ok (.iconst 1, 1) := by decide +kernel
theorem d1_7 : decode prog_128_method_7_code 7 = .ok (.isub, 1) := by decide +kernel
theorem d1_8 : decode prog_128_method_7_code 8 = .ok (.caload, 1) := by decide +kernel
theorem d1_9 : decode prog_128_method_7_code 9 = .ok (.bipush 91, 2) := by decide +kernel
theorem d1_11 : decode prog_128_method_7_code 11 = .ok (.if_icmp .eq 13, 3) := by decide +kernel
theorem d1_14 : decode prog_128_method_7_code 14 = .ok (.aload_n 0, 1) := by decide +kernel
theorem d1_15 : decode prog_128_method_7_code 15 = .ok (.iload_n 1, 1) := by decide +kernel
theorem d1_16 : decode prog_128_method_7_code 16 = .ok (.iconst 1, 1) := by decide +kernel
theorem d1_17 : decode prog_128_method_7_code 17 = .ok (.isub, 1) := by decide +kernel
theorem d1_18 : decode prog_128_method_7_code 18 = .ok (.caload, 1) := by decide +kernel
theorem d1_19 : decode prog_128_method_7_code 19 = .ok (.bipush 40, 2) := by decide +kernel
theorem d1_21 : decode prog_128_method_7_code 21 = .ok (.if_icmp .ne 29, 3) := by decide +kernel
theorem d1_24 : decode prog_128_method_7_code 24 = .ok (.iload_n 2, 1) := by decide +kernel
theorem d1_25 : decode prog_128_method_7_code 25 = .ok (.aload_n 0, 1) := by decide +kernel
theorem d1_26 : decode prog_128_method_7_code 26 = .ok (.arraylength, 1) := by decide +kernel
theorem d1_27 : decode prog_128_method_7_code 27 = .ok (.if_icmp .ge 23, 3) := by decide +kernel
theorem d1_30 : decode prog_128_method_7_code 30 = .ok (.aload_n 0, 1) := by decide +kernel
theorem d1_31 : decode prog_128_method_7_code 31 = .ok (.iload_n 2, 1) := by decide +kernel
theorem d1_32 : decode prog_128_method_7_code 32 = .ok (.caload, 1) := by decide +kernel
theorem d1_33 : decode prog_128_method_7_code 33 = .ok (.bipush 93, 2) := by decide +kernel
theorem d1_35 : decode prog_128_method_7_code 35 = .ok (.if_icmp .eq 11, 3) := by decide +kernel
theorem d1_38 : decode prog_128_method_7_code 38 = .ok (.aload_n 0, 1) := by decide +kernel
theorem d1_39 : decode prog_128_method_7_code 39 = .ok (.iload_n 2, 1) := by decide +kernel
theorem d1_40 : decode prog_128_method_7_code 40 = .ok (.caload, 1) := by decide +kernel
theorem d1_41 : decode prog_128_method_7_code 41 = .ok (.bipush 41, 2) := by decide +kernel
theorem d1_43 : decode prog_128_method_7_code 43 = .ok (.if_icmp .ne 7, 3) := by decide +kernel
theorem d1_46 : decode prog_128_method_7_code 46 = .ok (.iconst 1, 1) := by decide +kernel
theorem d1_47 : decode prog_128_method_7_code 47 = .ok (.goto 4, 3) := by decide +kernel
theorem d1_50 : decode prog_128_method_7_code 50 = .ok (.iconst 0, 1) := by decide +kernel
theorem d1_51 : decode prog_128_method_7_code 51 = .ok (.ireturn, 1) := by decide +kernel
theorem pn_1 : plainName "com/example/clapboard/clapboard/parse/TitleText" = true := by first | (simp [plainName, overriddenIn]; done) | decide +kernel
theorem ef_1 (m : MethodId) (a1 : Addr) (p2 : Int32) (p3 : Int32) : entryFrame m #[(.ref a1), (.int p2), (.int p3)] 3 = mkF m 0 #[.val (.ref a1), .val (.int p2), .val (.int p3)] [] := by first | (simp [entryFrame, mkF, argsToLocals, Value.category]; done) | rfl
def f1 (p2 : Int32) (p3 : Int32) (n_a1 : Int32) (f_a1 : Int32 → Int32) : Int32 := (if (0 : Int32) < p2 then (if (f_a1 (p2 - (1 : Int32))) = (91 : Int32) then (if p3 < n_a1 then (if (f_a1 p3) = (93 : Int32) then (1 : Int32) else (if (f_a1 p3) = (41 : Int32) then (1 : Int32) else (0 : Int32))) else (0 : Int32)) else (if (f_a1 (p2 - (1 : Int32))) = (40 : Int32) then (if p3 < n_a1 then (if (f_a1 p3) = (93 : Int32) then (1 : Int32) else (if (f_a1 p3) = (41 : Int32) then (1 : Int32) else (0 : Int32))) else (0 : Int32)) else (0 : Int32))) else (0 : Int32))
def Q1 (Z : State) (a1 : Addr) (p2 : Int32) (p3 : Int32) (n_a1 : Int32) (f_a1 : Int32 → Int32) (h0 : Heap) (n0 : Nat) (v : Option Value) (h : Heap) (L : List Loc) : Prop := v = some (.int (f1 p2 p3 n_a1 f_a1)) ∧ Fr n0 L ∧ h = h0
set_option maxRecDepth 65536 in
set_option maxHeartbeats 40000000 in
theorem rm1 (l : Launch) (Z : State) (a0 : Array Value) (hw : ∀ d ∈ tables_1, d.before a0 Z = true) (ws : List Jvm.Cond) (a1 : Addr) (p2 : Int32) (p3 : Int32) (n_a1 : Int32) (f_a1 : Int32 → Int32) (h0 : Heap) (n0 : Nat) (Z0 : n0 ≤ h0.size) (hs : ¬ n_a1 < p2) (he : ¬ p3 < 0) (A_a1 : Ia Z h0 a1 .char n_a1 f_a1) :
    MetFree l (⟨"com/example/clapboard/clapboard/parse/TitleText", "isAloneInBrackets", "([CII)Z"⟩ : MethodName) (head1 (Jvm.Cond.code (⟨"com/example/clapboard/clapboard/parse/TitleText", "isAloneInBrackets", "([CII)Z"⟩ : MethodName) prog_128_method_7_code 3 (some .boolean) :: ws) ({ frames := 0, cells := 0, slots := 0, locals := 0 } : Room)) (fun a U => a = #[(.ref a1), (.int p2), (.int p3)] ∧ Z.Warmed39 U.vm ∧ U.heap = h0) (fun _ _ _ _ _ => True) (fun _ U o U' => ∃ v L, o = .returned v ∧ Q1 Z a1 p2 p3 n_a1 f_a1 h0 n0 v U'.heap L ∧ FrameEnd U o U' L ({ frames := 0, cells := 0, slots := 0, locals := 0 } : Room).cells ({ frames := 0, cells := 0, slots := 0, locals := 0 } : Room).slots) := by
  refine MetFree.of_bodySF (plainFor_of_name pn_1) hisR ?_
  intro p e s m args below meth c s₁ Bd hml0 hP hK
  obtain ⟨rfl, hZ, hh⟩ := hP
  have hx := Bd.exec
  have hby := Bd.bytes
  have hml : c.maxLocals = 3 := hml0
  have hown : s.vm.findClass "com/example/clapboard/clapboard/parse/TitleText" = some m.cls := findClass_of_methodNamed Bd.named
  have hnm := (name_of_methodNamed Bd.named Bd.method).1
  have X0 : Stand p l e ({ frames := 0, cells := 0, slots := 0, locals := 0 } : Room) s m #[(.ref a1), (.int p2), (.int p3)] below meth c s₁ [] 0 0 := Stand.of_body Bd
  have e0 : s₁.heap = h0 := by rw [← hh, Bd.state]; rfl
  have N0 := Fr.nil n0
  have pre0 : ∀ t, Steps p.tables e below (s₁.setTop (mkF m 0 #[.val (.ref a1), .val (.int p2), .val (.int p3)] [])) t → Steps p.tables e below (s₁.setTop (entryFrame m #[(.ref a1), (.int p2), (.int p3)] 3)) t := fun t k => castTop (ef_1 m a1 p2 p3) k
  have K1 : ∀ t, Steps p.tables e below (s₁.setTop (mkF m 1 #[.val (.ref a1), .val (.int p2), .val (.int p3)] [(.int p2)])) t → Steps p.tables e below (s₁.setTop (mkF m 0 #[.val (.ref a1), .val (.int p2), .val (.int p3)] [])) t := by
    intro t k
    refine XS.iloadN X0.here hx rfl (hb hby d1_0) rfl ?_
    show Steps p.tables e below (s₁.setTop (mkF m 1 #[.val (.ref a1), .val (.int p2), .val (.int p3)] [(.int p2)])) t
    exact k
  by_cases hc2 : (0 : Int32) < p2
  · have K3 : ∀ t, Steps p.tables e below (s₁.setTop (mkF m 4 #[.val (.ref a1), .val (.int p2), .val (.int p3)] [])) t → Steps p.tables e below (s₁.setTop (mkF m 1 #[.val (.ref a1), .val (.int p2), .val (.int p3)] [(.int p2)])) t := by
      intro t k
      refine XS.ifNo X0.here hx rfl (hb hby d1_1) rfl ((if0 _ _).trans (tlt hc2).2.2.2) ?_
      exact k
    have K8 : ∀ t, Steps p.tables e below (s₁.setTop (mkF m 8 #[.val (.ref a1), .val (.int p2), .val (.int p3)] [(.int (p2 - (1 : Int32))), (.ref a1)])) t → Steps p.tables e below (s₁.setTop (mkF m 4 #[.val (.ref a1), .val (.int p2), .val (.int p3)] [])) t := by
      intro t k
      refine XS.aloadN X0.here hx rfl (hb hby d1_4) rfl rfl ?_
      show Steps p.tables e below (s₁.setTop (mkF m 5 #[.val (.ref a1), .val (.int p2), .val (.int p3)] [(.ref a1)])) t
      refine XS.iloadN X0.here hx rfl (hb hby d1_5) rfl ?_
      show Steps p.tables e below (s₁.setTop (mkF m 6 #[.val (.ref a1), .val (.int p2), .val (.int p3)] [(.int p2), (.ref a1)])) t
      refine XS.iconst X0.here hx rfl (hb hby d1_6) ?_
      show Steps p.tables e below (s₁.setTop (mkF m 7 #[.val (.ref a1), .val (.int p2), .val (.int p3)] [(.int (1 : Int32)), (.int p2), (.ref a1)])) t
      refine XS.isub X0.here hx rfl (hb hby d1_7) rfl ?_
      show Steps p.tables e below (s₁.setTop (mkF m 8 #[.val (.ref a1), .val (.int p2), .val (.int p3)] [(.int (p2 - (1 : Int32))), (.ref a1)])) t
      exact k
    have hin4 : ¬ (p2 - (1 : Int32)) < 0 ∧ (p2 - (1 : Int32)) < n_a1 := by exact own_b1 _ _ (by assumption) hs
    obtain ⟨cl5, Aq6, hjhin4, aq7⟩ := Ia.at A_a1 hin4
    have K9 : ∀ t, Steps p.tables e below (s₁.setTop (mkF m 11 #[.val (.ref a1), .val (.int p2), .val (.int p3)] [(.int (91 : Int32)), (.int (f_a1 (p2 - (1 : Int32))))])) t → Steps p.tables e below (s₁.setTop (mkF m 8 #[.val (.ref a1), .val (.int p2), .val (.int p3)] [(.int (p2 - (1 : Int32))), (.ref a1)])) t := by
      intro t k
      refine X0.caload hx (j := (p2 - (1 : Int32))) (v := .int (f_a1 (p2 - (1 : Int32)))) (by rw [e0]; exact Aq6.1) (State.isArrayOf_alike hZ.alike Aq6.2.1) Aq6.2.2 hjhin4 aq7 (g := (mkF m 8 #[.val (.ref a1), .val (.int p2), .val (.int p3)] [(.int (p2 - (1 : Int32))), (.ref a1)])) rfl rfl (hb hby d1_8) _ ?_
      show Steps p.tables e below (s₁.setTop (mkF m 9 #[.val (.ref a1), .val (.int p2), .val (.int p3)] [(.int (f_a1 (p2 - (1 : Int32))))])) t
      refine XS.bipush X0.here hx rfl (hb hby d1_9) ?_
      show Steps p.tables e below (s₁.setTop (mkF m 11 #[.val (.ref a1), .val (.int p2), .val (.int p3)] [(.int (91 : Int32)), (.int (f_a1 (p2 - (1 : Int32))))])) t
      exact k
    by_cases hc10 : (f_a1 (p2 - (1 : Int32))) = (91 : Int32)
    · have K11 : ∀ t, Steps p.tables e below (s₁.setTop (mkF m 24 #[.val (.ref a1), .val (.int p2), .val (.int p3)] [])) t → Steps p.tables e below (s₁.setTop (mkF m 11 #[.val (.ref a1), .val (.int p2), .val (.int p3)] [(.int (91 : Int32)), (.int (f_a1 (p2 - (1 : Int32))))])) t := by
        intro t k
        refine XS.icmpYes X0.here hx rfl (pc0 := 11) (pc' := 24) rfl (hb hby d1_11) rfl (teq hc10).1 (by decide) (by decide) ?_
        exact k
      have K16 : ∀ t, Steps p.tables e below (s₁.setTop (mkF m 26 #[.val (.ref a1), .val (.int p2), .val (.int p3)] [(.ref a1), (.int p3)])) t → Steps p.tables e below (s₁.setTop (mkF m 24 #[.val (.ref a1), .val (.int p2), .val (.int p3)] [])) t := by
        intro t k
        refine XS.iloadN X0.here hx rfl (hb hby d1_24) rfl ?_
        show Steps p.tables e below (s₁.setTop (mkF m 25 #[.val (.ref a1), .val (.int p2), .val (.int p3)] [(.int p3)])) t
        refine XS.aloadN X0.here hx rfl (hb hby d1_25) rfl rfl ?_
        show Steps p.tables e below (s₁.setTop (mkF m 26 #[.val (.ref a1), .val (.int p2), .val (.int p3)] [(.ref a1), (.int p3)])) t
        exact k
      obtain ⟨cl12, Aq13, sq14, nq15⟩ := Ia.len A_a1
      have K17 : ∀ t, Steps p.tables e below (s₁.setTop (mkF m 27 #[.val (.ref a1), .val (.int p2), .val (.int p3)] [(.int n_a1), (.int p3)])) t → Steps p.tables e below (s₁.setTop (mkF m 26 #[.val (.ref a1), .val (.int p2), .val (.int p3)] [(.ref a1), (.int p3)])) t := by
        intro t k
        refine X0.arraylength hx (by rw [e0]; exact Aq13.1) (State.isArrayOf_alike hZ.alike Aq13.2.1) (g := (mkF m 26 #[.val (.ref a1), .val (.int p2), .val (.int p3)] [(.ref a1), (.int p3)])) rfl rfl (hb hby d1_26) _ ?_
        rw [len_of sq14 nq15]
        show Steps p.tables e below (s₁.setTop (mkF m 27 #[.val (.ref a1), .val (.int p2), .val (.int p3)] [(.int n_a1), (.int p3)])) t
        exact k
      by_cases hc18 : p3 < n_a1
      · have K19 : ∀ t, Steps p.tables e below (s₁.setTop (mkF m 30 #[.val (.ref a1), .val (.int p2), .val (.int p3)] [])) t → Steps p.tables e below (s₁.setTop (mkF m 27 #[.val (.ref a1), .val (.int p2), .val (.int p3)] [(.int n_a1), (.int p3)])) t := by
          intro t k
          refine XS.icmpNo X0.here hx rfl (hb hby d1_27) rfl (tlt hc18).2.1 ?_
          exact k
        have K24 : ∀ t, Steps p.tables e below (s₁.setTop (mkF m 32 #[.val (.ref a1), .val (.int p2), .val (.int p3)] [(.int p3), (.ref a1)])) t → Steps p.tables e below (s₁.setTop (mkF m 30 #[.val (.ref a1), .val (.int p2), .val (.int p3)] [])) t := by
          intro t k
          refine XS.aloadN X0.here hx rfl (hb hby d1_30) rfl rfl ?_
          show Steps p.tables e below (s₁.setTop (mkF m 31 #[.val (.ref a1), .val (.int p2), .val (.int p3)] [(.ref a1)])) t
          refine XS.iloadN X0.here hx rfl (hb hby d1_31) rfl ?_
          show Steps p.tables e below (s₁.setTop (mkF m 32 #[.val (.ref a1), .val (.int p2), .val (.int p3)] [(.int p3), (.ref a1)])) t
          exact k
        have hin20 : ¬ p3 < 0 ∧ p3 < n_a1 := by exact ⟨he, by assumption⟩
        obtain ⟨cl21, Aq22, hjhin20, aq23⟩ := Ia.at A_a1 hin20
        have K25 : ∀ t, Steps p.tables e below (s₁.setTop (mkF m 35 #[.val (.ref a1), .val (.int p2), .val (.int p3)] [(.int (93 : Int32)), (.int (f_a1 p3))])) t → Steps p.tables e below (s₁.setTop (mkF m 32 #[.val (.ref a1), .val (.int p2), .val (.int p3)] [(.int p3), (.ref a1)])) t := by
          intro t k
          refine X0.caload hx (j := p3) (v := .int (f_a1 p3)) (by rw [e0]; exact Aq22.1) (State.isArrayOf_alike hZ.alike Aq22.2.1) Aq22.2.2 hjhin20 aq23 (g := (mkF m 32 #[.val (.ref a1), .val (.int p2), .val (.int p3)] [(.int p3), (.ref a1)])) rfl rfl (hb hby d1_32) _ ?_
          show Steps p.tables e below (s₁.setTop (mkF m 33 #[.val (.ref a1), .val (.int p2), .val (.int p3)] [(.int (f_a1 p3))])) t
          refine XS.bipush X0.here hx rfl (hb hby d1_33) ?_
          show Steps p.tables e below (s₁.setTop (mkF m 35 #[.val (.ref a1), .val (.int p2), .val (.int p3)] [(.int (93 : Int32)), (.int (f_a1 p3))])) t
          exact k
        by_cases hc26 : (f_a1 p3) = (93 : Int32)
        · have K27 : ∀ t, Steps p.tables e below (s₁.setTop (mkF m 46 #[.val (.ref a1), .val (.int p2), .val (.int p3)] [])) t → Steps p.tables e below (s₁.setTop (mkF m 35 #[.val (.ref a1), .val (.int p2), .val (.int p3)] [(.int (93 : Int32)), (.int (f_a1 p3))])) t := by
            intro t k
            refine XS.icmpYes X0.here hx rfl (pc0 := 35) (pc' := 46) rfl (hb hby d1_35) rfl (teq hc26).1 (by decide) (by decide) ?_
            exact k
          have K28 : ∀ t, Steps p.tables e below (s₁.setTop (mkF m 51 #[.val (.ref a1), .val (.int p2), .val (.int p3)] [(.int (1 : Int32))])) t → Steps p.tables e below (s₁.setTop (mkF m 46 #[.val (.ref a1), .val (.int p2), .val (.int p3)] [])) t := by
            intro t k
            refine XS.iconst X0.here hx rfl (hb hby d1_46) ?_
            show Steps p.tables e below (s₁.setTop (mkF m 47 #[.val (.ref a1), .val (.int p2), .val (.int p3)] [(.int (1 : Int32))])) t
            refine XS.goto X0.here hx rfl (pc0 := 47) (pc' := 51) rfl (hb hby d1_47) (by decide) (by decide) ?_
            show Steps p.tables e below (s₁.setTop (mkF m 51 #[.val (.ref a1), .val (.int p2), .val (.int p3)] [(.int (1 : Int32))])) t
            exact k
          obtain ⟨fs, hr, hrun, hended, hW, hsame⟩ := X0.leave (v := some (.int (1 : Int32))) (fun h => by rw [Bd.returns] at h; cases h)
          refine ⟨_, _, pre0 _ (K1 _ (K3 _ (K8 _ (K9 _ (K11 _ (K16 _ (K17 _ (K19 _ (K24 _ (K25 _ (K27 _ (K28 _ (retN X0 hx (t := .boolean) Bd.returns (by simp) (hb hby d1_51) hr))))))))))))), hrun, hended, _, _, rfl, ?_, ⟨_, rfl⟩, hW, hsame.mono (by decide) (by decide)⟩
          show Q1 Z a1 p2 p3 n_a1 f_a1 h0 n0 _ s₁.heap _
          rw [e0]
          exact ⟨congrArg (fun z => some (Value.int z)) (show (1 : Int32) = f1 p2 p3 n_a1 f_a1 from Eq.symm ((if_pos hc2).trans ((if_pos hc10).trans ((if_pos hc18).trans (if_pos hc26))))), N0, rfl⟩
        · have K29 : ∀ t, Steps p.tables e below (s₁.setTop (mkF m 38 #[.val (.ref a1), .val (.int p2), .val (.int p3)] [])) t → Steps p.tables e below (s₁.setTop (mkF m 35 #[.val (.ref a1), .val (.int p2), .val (.int p3)] [(.int (93 : Int32)), (.int (f_a1 p3))])) t := by
            intro t k
            refine XS.icmpNo X0.here hx rfl (hb hby d1_35) rfl (feq hc26).1 ?_
            exact k
          have K34 : ∀ t, Steps p.tables e below (s₁.setTop (mkF m 40 #[.val (.ref a1), .val (.int p2), .val (.int p3)] [(.int p3), (.ref a1)])) t → Steps p.tables e below (s₁.setTop (mkF m 38 #[.val (.ref a1), .val (.int p2), .val (.int p3)] [])) t := by
            intro t k
            refine XS.aloadN X0.here hx rfl (hb hby d1_38) rfl rfl ?_
            show Steps p.tables e below (s₁.setTop (mkF m 39 #[.val (.ref a1), .val (.int p2), .val (.int p3)] [(.ref a1)])) t
            refine XS.iloadN X0.here hx rfl (hb hby d1_39) rfl ?_
            show Steps p.tables e below (s₁.setTop (mkF m 40 #[.val (.ref a1), .val (.int p2), .val (.int p3)] [(.int p3), (.ref a1)])) t
            exact k
          have hin30 : ¬ p3 < 0 ∧ p3 < n_a1 := by exact ⟨he, by assumption⟩
          obtain ⟨cl31, Aq32, hjhin30, aq33⟩ := Ia.at A_a1 hin30
          have K35 : ∀ t, Steps p.tables e below (s₁.setTop (mkF m 43 #[.val (.ref a1), .val (.int p2), .val (.int p3)] [(.int (41 : Int32)), (.int (f_a1 p3))])) t → Steps p.tables e below (s₁.setTop (mkF m 40 #[.val (.ref a1), .val (.int p2), .val (.int p3)] [(.int p3), (.ref a1)])) t := by
            intro t k
            refine X0.caload hx (j := p3) (v := .int (f_a1 p3)) (by rw [e0]; exact Aq32.1) (State.isArrayOf_alike hZ.alike Aq32.2.1) Aq32.2.2 hjhin30 aq33 (g := (mkF m 40 #[.val (.ref a1), .val (.int p2), .val (.int p3)] [(.int p3), (.ref a1)])) rfl rfl (hb hby d1_40) _ ?_
            show Steps p.tables e below (s₁.setTop (mkF m 41 #[.val (.ref a1), .val (.int p2), .val (.int p3)] [(.int (f_a1 p3))])) t
            refine XS.bipush X0.here hx rfl (hb hby d1_41) ?_
            show Steps p.tables e below (s₁.setTop (mkF m 43 #[.val (.ref a1), .val (.int p2), .val (.int p3)] [(.int (41 : Int32)), (.int (f_a1 p3))])) t
            exact k
          by_cases hc36 : (f_a1 p3) = (41 : Int32)
          · have K37 : ∀ t, Steps p.tables e below (s₁.setTop (mkF m 46 #[.val (.ref a1), .val (.int p2), .val (.int p3)] [])) t → Steps p.tables e below (s₁.setTop (mkF m 43 #[.val (.ref a1), .val (.int p2), .val (.int p3)] [(.int (41 : Int32)), (.int (f_a1 p3))])) t := by
              intro t k
              refine XS.icmpNo X0.here hx rfl (hb hby d1_43) rfl (teq hc36).2 ?_
              exact k
            have K38 : ∀ t, Steps p.tables e below (s₁.setTop (mkF m 51 #[.val (.ref a1), .val (.int p2), .val (.int p3)] [(.int (1 : Int32))])) t → Steps p.tables e below (s₁.setTop (mkF m 46 #[.val (.ref a1), .val (.int p2), .val (.int p3)] [])) t := by
              intro t k
              refine XS.iconst X0.here hx rfl (hb hby d1_46) ?_
              show Steps p.tables e below (s₁.setTop (mkF m 47 #[.val (.ref a1), .val (.int p2), .val (.int p3)] [(.int (1 : Int32))])) t
              refine XS.goto X0.here hx rfl (pc0 := 47) (pc' := 51) rfl (hb hby d1_47) (by decide) (by decide) ?_
              show Steps p.tables e below (s₁.setTop (mkF m 51 #[.val (.ref a1), .val (.int p2), .val (.int p3)] [(.int (1 : Int32))])) t
              exact k
            obtain ⟨fs, hr, hrun, hended, hW, hsame⟩ := X0.leave (v := some (.int (1 : Int32))) (fun h => by rw [Bd.returns] at h; cases h)
            refine ⟨_, _, pre0 _ (K1 _ (K3 _ (K8 _ (K9 _ (K11 _ (K16 _ (K17 _ (K19 _ (K24 _ (K25 _ (K29 _ (K34 _ (K35 _ (K37 _ (K38 _ (retN X0 hx (t := .boolean) Bd.returns (by simp) (hb hby d1_51) hr)))))))))))))))), hrun, hended, _, _, rfl, ?_, ⟨_, rfl⟩, hW, hsame.mono (by decide) (by decide)⟩
            show Q1 Z a1 p2 p3 n_a1 f_a1 h0 n0 _ s₁.heap _
            rw [e0]
            exact ⟨congrArg (fun z => some (Value.int z)) (show (1 : Int32) = f1 p2 p3 n_a1 f_a1 from Eq.symm ((if_pos hc2).trans ((if_pos hc10).trans ((if_pos hc18).trans ((if_neg hc26).trans (if_pos hc36)))))), N0, rfl⟩
          · have K39 : ∀ t, Steps p.tables e below (s₁.setTop (mkF m 50 #[.val (.ref a1), .val (.int p2), .val (.int p3)] [])) t → Steps p.tables e below (s₁.setTop (mkF m 43 #[.val (.ref a1), .val (.int p2), .val (.int p3)] [(.int (41 : Int32)), (.int (f_a1 p3))])) t := by
              intro t k
              refine XS.icmpYes X0.here hx rfl (pc0 := 43) (pc' := 50) rfl (hb hby d1_43) rfl (feq hc36).2 (by decide) (by decide) ?_
              exact k
            have K40 : ∀ t, Steps p.tables e below (s₁.setTop (mkF m 51 #[.val (.ref a1), .val (.int p2), .val (.int p3)] [(.int (0 : Int32))])) t → Steps p.tables e below (s₁.setTop (mkF m 50 #[.val (.ref a1), .val (.int p2), .val (.int p3)] [])) t := by
              intro t k
              refine XS.iconst X0.here hx rfl (hb hby d1_50) ?_
              show Steps p.tables e below (s₁.setTop (mkF m 51 #[.val (.ref a1), .val (.int p2), .val (.int p3)] [(.int (0 : Int32))])) t
              exact k
            obtain ⟨fs, hr, hrun, hended, hW, hsame⟩ := X0.leave (v := some (.int (0 : Int32))) (fun h => by rw [Bd.returns] at h; cases h)
            refine ⟨_, _, pre0 _ (K1 _ (K3 _ (K8 _ (K9 _ (K11 _ (K16 _ (K17 _ (K19 _ (K24 _ (K25 _ (K29 _ (K34 _ (K35 _ (K39 _ (K40 _ (retN X0 hx (t := .boolean) Bd.returns (by simp) (hb hby d1_51) hr)))))))))))))))), hrun, hended, _, _, rfl, ?_, ⟨_, rfl⟩, hW, hsame.mono (by decide) (by decide)⟩
            show Q1 Z a1 p2 p3 n_a1 f_a1 h0 n0 _ s₁.heap _
            rw [e0]
            exact ⟨congrArg (fun z => some (Value.int z)) (show (0 : Int32) = f1 p2 p3 n_a1 f_a1 from Eq.symm ((if_pos hc2).trans ((if_pos hc10).trans ((if_pos hc18).trans ((if_neg hc26).trans (if_neg hc36)))))), N0, rfl⟩
      · have K41 : ∀ t, Steps p.tables e below (s₁.setTop (mkF m 50 #[.val (.ref a1), .val (.int p2), .val (.int p3)] [])) t → Steps p.tables e below (s₁.setTop (mkF m 27 #[.val (.ref a1), .val (.int p2), .val (.int p3)] [(.int n_a1), (.int p3)])) t := by
          intro t k
          refine XS.icmpYes X0.here hx rfl (pc0 := 27) (pc' := 50) rfl (hb hby d1_27) rfl (flt hc18).2.1 (by decide) (by decide) ?_
          exact k
        have K42 : ∀ t, Steps p.tables e below (s₁.setTop (mkF m 51 #[.val (.ref a1), .val (.int p2), .val (.int p3)] [(.int (0 : Int32))])) t → Steps p.tables e below (s₁.setTop (mkF m 50 #[.val (.ref a1), .val (.int p2), .val (.int p3)] [])) t := by
          intro t k
          refine XS.iconst X0.here hx rfl (hb hby d1_50) ?_
          show Steps p.tables e below (s₁.setTop (mkF m 51 #[.val (.ref a1), .val (.int p2), .val (.int p3)] [(.int (0 : Int32))])) t
          exact k
        obtain ⟨fs, hr, hrun, hended, hW, hsame⟩ := X0.leave (v := some (.int (0 : Int32))) (fun h => by rw [Bd.returns] at h; cases h)
        refine ⟨_, _, pre0 _ (K1 _ (K3 _ (K8 _ (K9 _ (K11 _ (K16 _ (K17 _ (K41 _ (K42 _ (retN X0 hx (t := .boolean) Bd.returns (by simp) (hb hby d1_51) hr)))))))))), hrun, hended, _, _, rfl, ?_, ⟨_, rfl⟩, hW, hsame.mono (by decide) (by decide)⟩
        show Q1 Z a1 p2 p3 n_a1 f_a1 h0 n0 _ s₁.heap _
        rw [e0]
        exact ⟨congrArg (fun z => some (Value.int z)) (show (0 : Int32) = f1 p2 p3 n_a1 f_a1 from Eq.symm ((if_pos hc2).trans ((if_pos hc10).trans (if_neg hc18)))), N0, rfl⟩
    · have K43 : ∀ t, Steps p.tables e below (s₁.setTop (mkF m 14 #[.val (.ref a1), .val (.int p2), .val (.int p3)] [])) t → Steps p.tables e below (s₁.setTop (mkF m 11 #[.val (.ref a1), .val (.int p2), .val (.int p3)] [(.int (91 : Int32)), (.int (f_a1 (p2 - (1 : Int32))))])) t := by
        intro t k
        refine XS.icmpNo X0.here hx rfl (hb hby d1_11) rfl (feq hc10).1 ?_
        exact k
      have K48 : ∀ t, Steps p.tables e below (s₁.setTop (mkF m 18 #[.val (.ref a1), .val (.int p2), .val (.int p3)] [(.int (p2 - (1 : Int32))), (.ref a1)])) t → Steps p.tables e below (s₁.setTop (mkF m 14 #[.val (.ref a1), .val (.int p2), .val (.int p3)] [])) t := by
        intro t k
        refine XS.aloadN X0.here hx rfl (hb hby d1_14) rfl rfl ?_
        show Steps p.tables e below (s₁.setTop (mkF m 15 #[.val (.ref a1), .val (.int p2), .val (.int p3)] [(.ref a1)])) t
        refine XS.iloadN X0.here hx rfl (hb hby d1_15) rfl ?_
        show Steps p.tables e below (s₁.setTop (mkF m 16 #[.val (.ref a1), .val (.int p2), .val (.int p3)] [(.int p2), (.ref a1)])) t
        refine XS.iconst X0.here hx rfl (hb hby d1_16) ?_
        show Steps p.tables e below (s₁.setTop (mkF m 17 #[.val (.ref a1), .val (.int p2), .val (.int p3)] [(.int (1 : Int32)), (.int p2), (.ref a1)])) t
        refine XS.isub X0.here hx rfl (hb hby d1_17) rfl ?_
        show Steps p.tables e below (s₁.setTop (mkF m 18 #[.val (.ref a1), .val (.int p2), .val (.int p3)] [(.int (p2 - (1 : Int32))), (.ref a1)])) t
        exact k
      have hin44 : ¬ (p2 - (1 : Int32)) < 0 ∧ (p2 - (1 : Int32)) < n_a1 := by exact own_b1 _ _ (by assumption) hs
      obtain ⟨cl45, Aq46, hjhin44, aq47⟩ := Ia.at A_a1 hin44
      have K49 : ∀ t, Steps p.tables e below (s₁.setTop (mkF m 21 #[.val (.ref a1), .val (.int p2), .val (.int p3)] [(.int (40 : Int32)), (.int (f_a1 (p2 - (1 : Int32))))])) t → Steps p.tables e below (s₁.setTop (mkF m 18 #[.val (.ref a1), .val (.int p2), .val (.int p3)] [(.int (p2 - (1 : Int32))), (.ref a1)])) t := by
        intro t k
        refine X0.caload hx (j := (p2 - (1 : Int32))) (v := .int (f_a1 (p2 - (1 : Int32)))) (by rw [e0]; exact Aq46.1) (State.isArrayOf_alike hZ.alike Aq46.2.1) Aq46.2.2 hjhin44 aq47 (g := (mkF m 18 #[.val (.ref a1), .val (.int p2), .val (.int p3)] [(.int (p2 - (1 : Int32))), (.ref a1)])) rfl rfl (hb hby d1_18) _ ?_
        show Steps p.tables e below (s₁.setTop (mkF m 19 #[.val (.ref a1), .val (.int p2), .val (.int p3)] [(.int (f_a1 (p2 - (1 : Int32))))])) t
        refine XS.bipush X0.here hx rfl (hb hby d1_19) ?_
        show Steps p.tables e below (s₁.setTop (mkF m 21 #[.val (.ref a1), .val (.int p2), .val (.int p3)] [(.int (40 : Int32)), (.int (f_a1 (p2 - (1 : Int32))))])) t
        exact k
      by_cases hc50 : (f_a1 (p2 - (1 : Int32))) = (40 : Int32)
      · have K51 : ∀ t, Steps p.tables e below (s₁.setTop (mkF m 24 #[.val (.ref a1), .val (.int p2), .val (.int p3)] [])) t → Steps p.tables e below (s₁.setTop (mkF m 21 #[.val (.ref a1), .val (.int p2), .val (.int p3)] [(.int (40 : Int32)), (.int (f_a1 (p2 - (1 : Int32))))])) t := by
          intro t k
          refine XS.icmpNo X0.here hx rfl (hb hby d1_21) rfl (teq hc50).2 ?_
          exact k
        have K56 : ∀ t, Steps p.tables e below (s₁.setTop (mkF m 26 #[.val (.ref a1), .val (.int p2), .val (.int p3)] [(.ref a1), (.int p3)])) t → Steps p.tables e below (s₁.setTop (mkF m 24 #[.val (.ref a1), .val (.int p2), .val (.int p3)] [])) t := by
          intro t k
          refine XS.iloadN X0.here hx rfl (hb hby d1_24) rfl ?_
          show Steps p.tables e below (s₁.setTop (mkF m 25 #[.val (.ref a1), .val (.int p2), .val (.int p3)] [(.int p3)])) t
          refine XS.aloadN X0.here hx rfl (hb hby d1_25) rfl rfl ?_
          show Steps p.tables e below (s₁.setTop (mkF m 26 #[.val (.ref a1), .val (.int p2), .val (.int p3)] [(.ref a1), (.int p3)])) t
          exact k
        obtain ⟨cl52, Aq53, sq54, nq55⟩ := Ia.len A_a1
        have K57 : ∀ t, Steps p.tables e below (s₁.setTop (mkF m 27 #[.val (.ref a1), .val (.int p2), .val (.int p3)] [(.int n_a1), (.int p3)])) t → Steps p.tables e below (s₁.setTop (mkF m 26 #[.val (.ref a1), .val (.int p2), .val (.int p3)] [(.ref a1), (.int p3)])) t := by
          intro t k
          refine X0.arraylength hx (by rw [e0]; exact Aq53.1) (State.isArrayOf_alike hZ.alike Aq53.2.1) (g := (mkF m 26 #[.val (.ref a1), .val (.int p2), .val (.int p3)] [(.ref a1), (.int p3)])) rfl rfl (hb hby d1_26) _ ?_
          rw [len_of sq54 nq55]
          show Steps p.tables e below (s₁.setTop (mkF m 27 #[.val (.ref a1), .val (.int p2), .val (.int p3)] [(.int n_a1), (.int p3)])) t
          exact k
        by_cases hc58 : p3 < n_a1
        · have K59 : ∀ t, Steps p.tables e below (s₁.setTop (mkF m 30 #[.val (.ref a1), .val (.int p2), .val (.int p3)] [])) t → Steps p.tables e below (s₁.setTop (mkF m 27 #[.val (.ref a1), .val (.int p2), .val (.int p3)] [(.int n_a1), (.int p3)])) t := by
            intro t k
            refine XS.icmpNo X0.here hx rfl (hb hby d1_27) rfl (tlt hc58).2.1 ?_
            exact k
          have K64 : ∀ t, Steps p.tables e below (s₁.setTop (mkF m 32 #[.val (.ref a1), .val (.int p2), .val (.int p3)] [(.int p3), (.ref a1)])) t → Steps p.tables e below (s₁.setTop (mkF m 30 #[.val (.ref a1), .val (.int p2), .val (.int p3)] [])) t := by
            intro t k
            refine XS.aloadN X0.here hx rfl (hb hby d1_30) rfl rfl ?_
            show Steps p.tables e below (s₁.setTop (mkF m 31 #[.val (.ref a1), .val (.int p2), .val (.int p3)] [(.ref a1)])) t
            refine XS.iloadN X0.here hx rfl (hb hby d1_31) rfl ?_
            show Steps p.tables e below (s₁.setTop (mkF m 32 #[.val (.ref a1), .val (.int p2), .val (.int p3)] [(.int p3), (.ref a1)])) t
            exact k
          have hin60 : ¬ p3 < 0 ∧ p3 < n_a1 := by exact ⟨he, by assumption⟩
          obtain ⟨cl61, Aq62, hjhin60, aq63⟩ := Ia.at A_a1 hin60
          have K65 : ∀ t, Steps p.tables e below (s₁.setTop (mkF m 35 #[.val (.ref a1), .val (.int p2), .val (.int p3)] [(.int (93 : Int32)), (.int (f_a1 p3))])) t → Steps p.tables e below (s₁.setTop (mkF m 32 #[.val (.ref a1), .val (.int p2), .val (.int p3)] [(.int p3), (.ref a1)])) t := by
            intro t k
            refine X0.caload hx (j := p3) (v := .int (f_a1 p3)) (by rw [e0]; exact Aq62.1) (State.isArrayOf_alike hZ.alike Aq62.2.1) Aq62.2.2 hjhin60 aq63 (g := (mkF m 32 #[.val (.ref a1), .val (.int p2), .val (.int p3)] [(.int p3), (.ref a1)])) rfl rfl (hb hby d1_32) _ ?_
            show Steps p.tables e below (s₁.setTop (mkF m 33 #[.val (.ref a1), .val (.int p2), .val (.int p3)] [(.int (f_a1 p3))])) t
            refine XS.bipush X0.here hx rfl (hb hby d1_33) ?_
            show Steps p.tables e below (s₁.setTop (mkF m 35 #[.val (.ref a1), .val (.int p2), .val (.int p3)] [(.int (93 : Int32)), (.int (f_a1 p3))])) t
            exact k
          by_cases hc66 : (f_a1 p3) = (93 : Int32)
          · have K67 : ∀ t, Steps p.tables e below (s₁.setTop (mkF m 46 #[.val (.ref a1), .val (.int p2), .val (.int p3)] [])) t → Steps p.tables e below (s₁.setTop (mkF m 35 #[.val (.ref a1), .val (.int p2), .val (.int p3)] [(.int (93 : Int32)), (.int (f_a1 p3))])) t := by
              intro t k
              refine XS.icmpYes X0.here hx rfl (pc0 := 35) (pc' := 46) rfl (hb hby d1_35) rfl (teq hc66).1 (by decide) (by decide) ?_
              exact k
            have K68 : ∀ t, Steps p.tables e below (s₁.setTop (mkF m 51 #[.val (.ref a1), .val (.int p2), .val (.int p3)] [(.int (1 : Int32))])) t → Steps p.tables e below (s₁.setTop (mkF m 46 #[.val (.ref a1), .val (.int p2), .val (.int p3)] [])) t := by
              intro t k
              refine XS.iconst X0.here hx rfl (hb hby d1_46) ?_
              show Steps p.tables e below (s₁.setTop (mkF m 47 #[.val (.ref a1), .val (.int p2), .val (.int p3)] [(.int (1 : Int32))])) t
              refine XS.goto X0.here hx rfl (pc0 := 47) (pc' := 51) rfl (hb hby d1_47) (by decide) (by decide) ?_
              show Steps p.tables e below (s₁.setTop (mkF m 51 #[.val (.ref a1), .val (.int p2), .val (.int p3)] [(.int (1 : Int32))])) t
              exact k
            obtain ⟨fs, hr, hrun, hended, hW, hsame⟩ := X0.leave (v := some (.int (1 : Int32))) (fun h => by rw [Bd.returns] at h; cases h)
            refine ⟨_, _, pre0 _ (K1 _ (K3 _ (K8 _ (K9 _ (K43 _ (K48 _ (K49 _ (K51 _ (K56 _ (K57 _ (K59 _ (K64 _ (K65 _ (K67 _ (K68 _ (retN X0 hx (t := .boolean) Bd.returns (by simp) (hb hby d1_51) hr)))))))))))))))), hrun, hended, _, _, rfl, ?_, ⟨_, rfl⟩, hW, hsame.mono (by decide) (by decide)⟩
            show Q1 Z a1 p2 p3 n_a1 f_a1 h0 n0 _ s₁.heap _
            rw [e0]
            exact ⟨congrArg (fun z => some (Value.int z)) (show (1 : Int32) = f1 p2 p3 n_a1 f_a1 from Eq.symm ((if_pos hc2).trans ((if_neg hc10).trans ((if_pos hc50).trans ((if_pos hc58).trans (if_pos hc66)))))), N0, rfl⟩
          · have K69 : ∀ t, Steps p.tables e below (s₁.setTop (mkF m 38 #[.val (.ref a1), .val (.int p2), .val (.int p3)] [])) t → Steps p.tables e below (s₁.setTop (mkF m 35 #[.val (.ref a1), .val (.int p2), .val (.int p3)] [(.int (93 : Int32)), (.int (f_a1 p3))])) t := by
              intro t k
              refine XS.icmpNo X0.here hx rfl (hb hby d1_35) rfl (feq hc66).1 ?_
              exact k
            have K74 : ∀ t, Steps p.tables e below (s₁.setTop (mkF m 40 #[.val (.ref a1), .val (.int p2), .val (.int p3)] [(.int p3), (.ref a1)])) t → Steps p.tables e below (s₁.setTop (mkF m 38 #[.val (.ref a1), .val (.int p2), .val (.int p3)] [])) t := by
              intro t k
              refine XS.aloadN X0.here hx rfl (hb hby d1_38) rfl rfl ?_
              show Steps p.tables e below (s₁.setTop (mkF m 39 #[.val (.ref a1), .val (.int p2), .val (.int p3)] [(.ref a1)])) t
              refine XS.iloadN X0.here hx rfl (hb hby d1_39) rfl ?_
              show Steps p.tables e below (s₁.setTop (mkF m 40 #[.val (.ref a1), .val (.int p2), .val (.int p3)] [(.int p3), (.ref a1)])) t
              exact k
            have hin70 : ¬ p3 < 0 ∧ p3 < n_a1 := by exact ⟨he, by assumption⟩
            obtain ⟨cl71, Aq72, hjhin70, aq73⟩ := Ia.at A_a1 hin70
            have K75 : ∀ t, Steps p.tables e below (s₁.setTop (mkF m 43 #[.val (.ref a1), .val (.int p2), .val (.int p3)] [(.int (41 : Int32)), (.int (f_a1 p3))])) t → Steps p.tables e below (s₁.setTop (mkF m 40 #[.val (.ref a1), .val (.int p2), .val (.int p3)] [(.int p3), (.ref a1)])) t := by
              intro t k
              refine X0.caload hx (j := p3) (v := .int (f_a1 p3)) (by rw [e0]; exact Aq72.1) (State.isArrayOf_alike hZ.alike Aq72.2.1) Aq72.2.2 hjhin70 aq73 (g := (mkF m 40 #[.val (.ref a1), .val (.int p2), .val (.int p3)] [(.int p3), (.ref a1)])) rfl rfl (hb hby d1_40) _ ?_
              show Steps p.tables e below (s₁.setTop (mkF m 41 #[.val (.ref a1), .val (.int p2), .val (.int p3)] [(.int (f_a1 p3))])) t
              refine XS.bipush X0.here hx rfl (hb hby d1_41) ?_
              show Steps p.tables e below (s₁.setTop (mkF m 43 #[.val (.ref a1), .val (.int p2), .val (.int p3)] [(.int (41 : Int32)), (.int (f_a1 p3))])) t
              exact k
            by_cases hc76 : (f_a1 p3) = (41 : Int32)
            · have K77 : ∀ t, Steps p.tables e below (s₁.setTop (mkF m 46 #[.val (.ref a1), .val (.int p2), .val (.int p3)] [])) t → Steps p.tables e below (s₁.setTop (mkF m 43 #[.val (.ref a1), .val (.int p2), .val (.int p3)] [(.int (41 : Int32)), (.int (f_a1 p3))])) t := by
                intro t k
                refine XS.icmpNo X0.here hx rfl (hb hby d1_43) rfl (teq hc76).2 ?_
                exact k
              have K78 : ∀ t, Steps p.tables e below (s₁.setTop (mkF m 51 #[.val (.ref a1), .val (.int p2), .val (.int p3)] [(.int (1 : Int32))])) t → Steps p.tables e below (s₁.setTop (mkF m 46 #[.val (.ref a1), .val (.int p2), .val (.int p3)] [])) t := by
                intro t k
                refine XS.iconst X0.here hx rfl (hb hby d1_46) ?_
                show Steps p.tables e below (s₁.setTop (mkF m 47 #[.val (.ref a1), .val (.int p2), .val (.int p3)] [(.int (1 : Int32))])) t
                refine XS.goto X0.here hx rfl (pc0 := 47) (pc' := 51) rfl (hb hby d1_47) (by decide) (by decide) ?_
                show Steps p.tables e below (s₁.setTop (mkF m 51 #[.val (.ref a1), .val (.int p2), .val (.int p3)] [(.int (1 : Int32))])) t
                exact k
              obtain ⟨fs, hr, hrun, hended, hW, hsame⟩ := X0.leave (v := some (.int (1 : Int32))) (fun h => by rw [Bd.returns] at h; cases h)
              refine ⟨_, _, pre0 _ (K1 _ (K3 _ (K8 _ (K9 _ (K43 _ (K48 _ (K49 _ (K51 _ (K56 _ (K57 _ (K59 _ (K64 _ (K65 _ (K69 _ (K74 _ (K75 _ (K77 _ (K78 _ (retN X0 hx (t := .boolean) Bd.returns (by simp) (hb hby d1_51) hr))))))))))))))))))), hrun, hended, _, _, rfl, ?_, ⟨_, rfl⟩, hW, hsame.mono (by decide) (by decide)⟩
              show Q1 Z a1 p2 p3 n_a1 f_a1 h0 n0 _ s₁.heap _
              rw [e0]
              exact ⟨congrArg (fun z => some (Value.int z)) (show (1 : Int32) = f1 p2 p3 n_a1 f_a1 from Eq.symm ((if_pos hc2).trans ((if_neg hc10).trans ((if_pos hc50).trans ((if_pos hc58).trans ((if_neg hc66).trans (if_pos hc76))))))), N0, rfl⟩
            · have K79 : ∀ t, Steps p.tables e below (s₁.setTop (mkF m 50 #[.val (.ref a1), .val (.int p2), .val (.int p3)] [])) t → Steps p.tables e below (s₁.setTop (mkF m 43 #[.val (.ref a1), .val (.int p2), .val (.int p3)] [(.int (41 : Int32)), (.int (f_a1 p3))])) t := by
                intro t k
                refine XS.icmpYes X0.here hx rfl (pc0 := 43) (pc' := 50) rfl (hb hby d1_43) rfl (feq hc76).2 (by decide) (by decide) ?_
                exact k
              have K80 : ∀ t, Steps p.tables e below (s₁.setTop (mkF m 51 #[.val (.ref a1), .val (.int p2), .val (.int p3)] [(.int (0 : Int32))])) t → Steps p.tables e below (s₁.setTop (mkF m 50 #[.val (.ref a1), .val (.int p2), .val (.int p3)] [])) t := by
                intro t k
                refine XS.iconst X0.here hx rfl (hb hby d1_50) ?_
                show Steps p.tables e below (s₁.setTop (mkF m 51 #[.val (.ref a1), .val (.int p2), .val (.int p3)] [(.int (0 : Int32))])) t
                exact k
              obtain ⟨fs, hr, hrun, hended, hW, hsame⟩ := X0.leave (v := some (.int (0 : Int32))) (fun h => by rw [Bd.returns] at h; cases h)
              refine ⟨_, _, pre0 _ (K1 _ (K3 _ (K8 _ (K9 _ (K43 _ (K48 _ (K49 _ (K51 _ (K56 _ (K57 _ (K59 _ (K64 _ (K65 _ (K69 _ (K74 _ (K75 _ (K79 _ (K80 _ (retN X0 hx (t := .boolean) Bd.returns (by simp) (hb hby d1_51) hr))))))))))))))))))), hrun, hended, _, _, rfl, ?_, ⟨_, rfl⟩, hW, hsame.mono (by decide) (by decide)⟩
              show Q1 Z a1 p2 p3 n_a1 f_a1 h0 n0 _ s₁.heap _
              rw [e0]
              exact ⟨congrArg (fun z => some (Value.int z)) (show (0 : Int32) = f1 p2 p3 n_a1 f_a1 from Eq.symm ((if_pos hc2).trans ((if_neg hc10).trans ((if_pos hc50).trans ((if_pos hc58).trans ((if_neg hc66).trans (if_neg hc76))))))), N0, rfl⟩
        · have K81 : ∀ t, Steps p.tables e below (s₁.setTop (mkF m 50 #[.val (.ref a1), .val (.int p2), .val (.int p3)] [])) t → Steps p.tables e below (s₁.setTop (mkF m 27 #[.val (.ref a1), .val (.int p2), .val (.int p3)] [(.int n_a1), (.int p3)])) t := by
            intro t k
            refine XS.icmpYes X0.here hx rfl (pc0 := 27) (pc' := 50) rfl (hb hby d1_27) rfl (flt hc58).2.1 (by decide) (by decide) ?_
            exact k
          have K82 : ∀ t, Steps p.tables e below (s₁.setTop (mkF m 51 #[.val (.ref a1), .val (.int p2), .val (.int p3)] [(.int (0 : Int32))])) t → Steps p.tables e below (s₁.setTop (mkF m 50 #[.val (.ref a1), .val (.int p2), .val (.int p3)] [])) t := by
            intro t k
            refine XS.iconst X0.here hx rfl (hb hby d1_50) ?_
            show Steps p.tables e below (s₁.setTop (mkF m 51 #[.val (.ref a1), .val (.int p2), .val (.int p3)] [(.int (0 : Int32))])) t
            exact k
          obtain ⟨fs, hr, hrun, hended, hW, hsame⟩ := X0.leave (v := some (.int (0 : Int32))) (fun h => by rw [Bd.returns] at h; cases h)
          refine ⟨_, _, pre0 _ (K1 _ (K3 _ (K8 _ (K9 _ (K43 _ (K48 _ (K49 _ (K51 _ (K56 _ (K57 _ (K81 _ (K82 _ (retN X0 hx (t := .boolean) Bd.returns (by simp) (hb hby d1_51) hr))))))))))))), hrun, hended, _, _, rfl, ?_, ⟨_, rfl⟩, hW, hsame.mono (by decide) (by decide)⟩
          show Q1 Z a1 p2 p3 n_a1 f_a1 h0 n0 _ s₁.heap _
          rw [e0]
          exact ⟨congrArg (fun z => some (Value.int z)) (show (0 : Int32) = f1 p2 p3 n_a1 f_a1 from Eq.symm ((if_pos hc2).trans ((if_neg hc10).trans ((if_pos hc50).trans (if_neg hc58))))), N0, rfl⟩
      · have K83 : ∀ t, Steps p.tables e below (s₁.setTop (mkF m 50 #[.val (.ref a1), .val (.int p2), .val (.int p3)] [])) t → Steps p.tables e below (s₁.setTop (mkF m 21 #[.val (.ref a1), .val (.int p2), .val (.int p3)] [(.int (40 : Int32)), (.int (f_a1 (p2 - (1 : Int32))))])) t := by
          intro t k
          refine XS.icmpYes X0.here hx rfl (pc0 := 21) (pc' := 50) rfl (hb hby d1_21) rfl (feq hc50).2 (by decide) (by decide) ?_
          exact k
        have K84 : ∀ t, Steps p.tables e below (s₁.setTop (mkF m 51 #[.val (.ref a1), .val (.int p2), .val (.int p3)] [(.int (0 : Int32))])) t → Steps p.tables e below (s₁.setTop (mkF m 50 #[.val (.ref a1), .val (.int p2), .val (.int p3)] [])) t := by
          intro t k
          refine XS.iconst X0.here hx rfl (hb hby d1_50) ?_
          show Steps p.tables e below (s₁.setTop (mkF m 51 #[.val (.ref a1), .val (.int p2), .val (.int p3)] [(.int (0 : Int32))])) t
          exact k
        obtain ⟨fs, hr, hrun, hended, hW, hsame⟩ := X0.leave (v := some (.int (0 : Int32))) (fun h => by rw [Bd.returns] at h; cases h)
        refine ⟨_, _, pre0 _ (K1 _ (K3 _ (K8 _ (K9 _ (K43 _ (K48 _ (K49 _ (K83 _ (K84 _ (retN X0 hx (t := .boolean) Bd.returns (by simp) (hb hby d1_51) hr)))))))))), hrun, hended, _, _, rfl, ?_, ⟨_, rfl⟩, hW, hsame.mono (by decide) (by decide)⟩
        show Q1 Z a1 p2 p3 n_a1 f_a1 h0 n0 _ s₁.heap _
        rw [e0]
        exact ⟨congrArg (fun z => some (Value.int z)) (show (0 : Int32) = f1 p2 p3 n_a1 f_a1 from Eq.symm ((if_pos hc2).trans ((if_neg hc10).trans (if_neg hc50)))), N0, rfl⟩
  · have K85 : ∀ t, Steps p.tables e below (s₁.setTop (mkF m 50 #[.val (.ref a1), .val (.int p2), .val (.int p3)] [])) t → Steps p.tables e below (s₁.setTop (mkF m 1 #[.val (.ref a1), .val (.int p2), .val (.int p3)] [(.int p2)])) t := by
      intro t k
      refine XS.ifYes X0.here hx rfl (pc0 := 1) (pc' := 50) rfl (hb hby d1_1) rfl ((if0 _ _).trans (flt hc2).2.2.2) (by decide) (by decide) ?_
      exact k
    have K86 : ∀ t, Steps p.tables e below (s₁.setTop (mkF m 51 #[.val (.ref a1), .val (.int p2), .val (.int p3)] [(.int (0 : Int32))])) t → Steps p.tables e below (s₁.setTop (mkF m 50 #[.val (.ref a1), .val (.int p2), .val (.int p3)] [])) t := by
      intro t k
      refine XS.iconst X0.here hx rfl (hb hby d1_50) ?_
      show Steps p.tables e below (s₁.setTop (mkF m 51 #[.val (.ref a1), .val (.int p2), .val (.int p3)] [(.int (0 : Int32))])) t
      exact k
    obtain ⟨fs, hr, hrun, hended, hW, hsame⟩ := X0.leave (v := some (.int (0 : Int32))) (fun h => by rw [Bd.returns] at h; cases h)
    refine ⟨_, _, pre0 _ (K1 _ (K85 _ (K86 _ (retN X0 hx (t := .boolean) Bd.returns (by simp) (hb hby d1_51) hr)))), hrun, hended, _, _, rfl, ?_, ⟨_, rfl⟩, hW, hsame.mono (by decide) (by decide)⟩
    show Q1 Z a1 p2 p3 n_a1 f_a1 h0 n0 _ s₁.heap _
    rw [e0]
    exact ⟨congrArg (fun z => some (Value.int z)) (show (0 : Int32) = f1 p2 p3 n_a1 f_a1 from Eq.symm (if_neg hc2)), N0, rfl⟩
-- body 0: com/example/clapboard/clapboard/parse/TitleTextIsAloneInBracketsPinLaw.law(IIIII)Z
theorem pn_0 : plainName "com/example/clapboard/clapboard/parse/TitleTextIsAloneInBracketsPinLaw" = true := by first | (simp [plainName, overriddenIn]; done) | decide +kernel
theorem pd_1 : parseMethodDescriptor "(C)Z" = some ⟨[.char], some .boolean⟩ := by decide +kernel
theorem pd_0 : parseMethodDescriptor "([CII)Z" = some ⟨[(.array .char), .int, .int], some .boolean⟩ := by decide +kernel
theorem ef_0 (m : MethodId) (p1 : Int32) (p2 : Int32) (p3 : Int32) (p4 : Int32) (p5 : Int32) : entryFrame m #[(.int p1), (.int p2), (.int p3), (.int p4), (.int p5)] maxLocals = mkF m 0 #[.val (.int p1), .val (.int p2), .val (.int p3), .val (.int p4), .val (.int p5), .unset, .unset, .unset, .unset, .unset, .unset, .unset] [] := by first | (simp [entryFrame, mkF, argsToLocals, Value.category, maxLocals]; done) | rfl
def f0_u1  : Int32 → Int32 := (upd (fun _ => 0) (0 : Int32) (nar .char (91 : Int32)))
def f0_u2  : Int32 → Int32 := (upd (f0_u1) (1 : Int32) (nar .char (40 : Int32)))
def f0_u3  : Int32 → Int32 := (upd (f0_u2) (2 : Int32) (nar .char (93 : Int32)))
def f0_u4  : Int32 → Int32 := (upd (f0_u3) (3 : Int32) (nar .char (41 : Int32)))
def f0_u5  : Int32 → Int32 := (upd (f0_u4) (4 : Int32) (nar .char (123 : Int32)))
def f0_u6  : Int32 → Int32 := (upd (f0_u5) (5 : Int32) (nar .char (125 : Int32)))
def f0_u7  : Int32 → Int32 := (upd (f0_u6) (6 : Int32) (nar .char (120 : Int32)))
def f0_u8  : Int32 → Int32 := (upd (f0_u7) (7 : Int32) (nar .char (32 : Int32)))
def f0_u9 (p3 : Int32) : Int32 := (if (p3 &&& (65536 : Int32)) = (0 : Int32) then ((f0_u8) (p3 &&& (7 : Int32))) else (p3.toUInt32.toUInt16.toUInt32.toInt32))
def f0_u10 (p4 : Int32) : Int32 := (if (p4 &&& (65536 : Int32)) = (0 : Int32) then ((f0_u8) (p4 &&& (7 : Int32))) else (p4.toUInt32.toUInt16.toUInt32.toInt32))
def f0_u11 (p5 : Int32) : Int32 → Int32 := (upd (fun _ => 0) (0 : Int32) (nar .char ((f0_u8) (p5 &&& (7 : Int32)))))
def f0_u12 (p5 : Int32) : Int32 → Int32 := (upd (f0_u11 p5) (1 : Int32) (nar .char ((f0_u8) (((p5.toUInt32 >>> ((3 : Int32) &&& 31).toUInt32).toInt32) &&& (7 : Int32)))))
def f0_u13 (p5 : Int32) : Int32 → Int32 := (upd (f0_u12 p5) (2 : Int32) (nar .char ((f0_u8) (((p5.toUInt32 >>> ((6 : Int32) &&& 31).toUInt32).toInt32) &&& (7 : Int32)))))
def f0_u14 (p5 : Int32) : Int32 → Int32 := (upd (f0_u13 p5) (3 : Int32) (nar .char ((f0_u8) (((p5.toUInt32 >>> ((9 : Int32) &&& 31).toUInt32).toInt32) &&& (7 : Int32)))))
def f0_u15 (p5 : Int32) : Int32 → Int32 := (upd (f0_u14 p5) (4 : Int32) (nar .char ((f0_u8) (((p5.toUInt32 >>> ((12 : Int32) &&& 31).toUInt32).toInt32) &&& (7 : Int32)))))
def f0_u16 (p5 : Int32) : Int32 → Int32 := (upd (f0_u15 p5) (5 : Int32) (nar .char ((f0_u8) (((p5.toUInt32 >>> ((15 : Int32) &&& 31).toUInt32).toInt32) &&& (7 : Int32)))))
def f0_u17 (p1 : Int32) (p3 : Int32) (p5 : Int32) : Int32 → Int32 := (upd (f0_u16 p5) (((p1 &&& (2147483647 : Int32)) % (7 : Int32)) - (1 : Int32)) (nar .char (f0_u9 p3)))
def f0_u18 (p1 : Int32) (p3 : Int32) (p5 : Int32) : Int32 → Int32 := (if (0 : Int32) < ((p1 &&& (2147483647 : Int32)) % (7 : Int32)) then (f0_u17 p1 p3 p5) else (f0_u16 p5))
def f0_u19 (p1 : Int32) (p2 : Int32) (p3 : Int32) (p4 : Int32) (p5 : Int32) : Int32 → Int32 := (upd (f0_u18 p1 p3 p5) (((p1 &&& (2147483647 : Int32)) % (7 : Int32)) + ((p2 &&& (2147483647 : Int32)) % ((7 : Int32) - ((p1 &&& (2147483647 : Int32)) % (7 : Int32))))) (nar .char (f0_u10 p4)))
def f0_u20 (p1 : Int32) (p2 : Int32) (p3 : Int32) (p4 : Int32) (p5 : Int32) : Int32 → Int32 := (if (((p1 &&& (2147483647 : Int32)) % (7 : Int32)) + ((p2 &&& (2147483647 : Int32)) % ((7 : Int32) - ((p1 &&& (2147483647 : Int32)) % (7 : Int32))))) < (6 : Int32) then (f0_u19 p1 p2 p3 p4 p5) else (f0_u18 p1 p3 p5))
def f0_u21 (p1 : Int32) (p2 : Int32) (p3 : Int32) (p4 : Int32) : Int32 := (if (0 : Int32) < ((p1 &&& (2147483647 : Int32)) % (7 : Int32)) then (if (((p1 &&& (2147483647 : Int32)) % (7 : Int32)) + ((p2 &&& (2147483647 : Int32)) % ((7 : Int32) - ((p1 &&& (2147483647 : Int32)) % (7 : Int32))))) < (6 : Int32) then (if (f2 (f0_u9 p3)) = (0 : Int32) then (0 : Int32) else (if (f4 (f0_u10 p4)) = (0 : Int32) then (0 : Int32) else (1 : Int32))) else (0 : Int32)) else (0 : Int32))
def f0 (p1 : Int32) (p2 : Int32) (p3 : Int32) (p4 : Int32) (p5 : Int32) : Int32 := (if (f1 ((p1 &&& (2147483647 : Int32)) % (7 : Int32)) (((p1 &&& (2147483647 : Int32)) % (7 : Int32)) + ((p2 &&& (2147483647 : Int32)) % ((7 : Int32) - ((p1 &&& (2147483647 : Int32)) % (7 : Int32))))) (6 : Int32) (f0_u20 p1 p2 p3 p4 p5)) = (f0_u21 p1 p2 p3 p4) then (1 : Int32) else (0 : Int32))
def Q0 (Z : State) (p1 : Int32) (p2 : Int32) (p3 : Int32) (p4 : Int32) (p5 : Int32) (h0 : Heap) (n0 : Nat) (v : Option Value) (h : Heap) (L : List Loc) : Prop := v = some (.int (f0 p1 p2 p3 p4 p5)) ∧ Fr n0 L ∧ Keep h0 h []
set_option maxRecDepth 65536 in
set_option maxHeartbeats 40000000 in
theorem rm0 (l : Launch) (Z : State) (a0 : Array Value) (hw : ∀ d ∈ tables_1, d.before a0 Z = true) (ws : List Jvm.Cond) (p1 : Int32) (p2 : Int32) (p3 : Int32) (p4 : Int32) (p5 : Int32) (h0 : Heap) (n0 : Nat) (Z0 : n0 ≤ h0.size) :
    MetFree l x (head1 (Jvm.Cond.code x code maxLocals ret :: ws) room_1) (fun a U => a = #[(.int p1), (.int p2), (.int p3), (.int p4), (.int p5)] ∧ Z.Warmed39 U.vm ∧ U.heap = h0) (fun _ _ _ _ _ => True) (fun _ U o U' => ∃ v L, o = .returned v ∧ Q0 Z p1 p2 p3 p4 p5 h0 n0 v U'.heap L ∧ FrameEnd U o U' L room_1.cells room_1.slots) := by
  refine MetFree.of_bodySF (plainFor_of_name pn_0) hisR ?_
  intro p e s m args below meth c s₁ Bd hml0 hP hK
  obtain ⟨rfl, hZ, hh⟩ := hP
  have hx := Bd.exec
  have hby := Bd.bytes
  have hml : c.maxLocals = 12 := hml0
  have hown : s.vm.findClass "com/example/clapboard/clapboard/parse/TitleTextIsAloneInBracketsPinLaw" = some m.cls := findClass_of_methodNamed Bd.named
  have hnm := (name_of_methodNamed Bd.named Bd.method).1
  have X0 : Stand p l e room_1 s m #[(.int p1), (.int p2), (.int p3), (.int p4), (.int p5)] below meth c s₁ [] 0 0 := Stand.of_body Bd
  have e0 : s₁.heap = h0 := by rw [← hh, Bd.state]; rfl
  have N0 := Fr.nil n0
  have pre0 : ∀ t, Steps p.tables e below (s₁.setTop (mkF m 0 #[.val (.int p1), .val (.int p2), .val (.int p3), .val (.int p4), .val (.int p5), .unset, .unset, .unset, .unset, .unset, .unset, .unset] [])) t → Steps p.tables e below (s₁.setTop (entryFrame m #[(.int p1), (.int p2), (.int p3), (.int p4), (.int p5)] maxLocals)) t := fun t k => castTop (ef_0 m p1 p2 p3 p4 p5) k
  have K1 : ∀ t, Steps p.tables e below (s₁.setTop (mkF m 2 #[.val (.int p1), .val (.int p2), .val (.int p3), .val (.int p4), .val (.int p5), .unset, .unset, .unset, .unset, .unset, .unset, .unset] [(.int (8 : Int32))])) t → Steps p.tables e below (s₁.setTop (mkF m 0 #[.val (.int p1), .val (.int p2), .val (.int p3), .val (.int p4), .val (.int p5), .unset, .unset, .unset, .unset, .unset, .unset, .unset] [])) t := by
    intro t k
    refine XS.bipush X0.here hx rfl (hb hby at_0) ?_
    show Steps p.tables e below (s₁.setTop (mkF m 2 #[.val (.int p1), .val (.int p2), .val (.int p3), .val (.int p4), .val (.int p5), .unset, .unset, .unset, .unset, .unset, .unset, .unset] [(.int (8 : Int32))])) t
    exact k
  obtain ⟨T2, h2, k2, X2, e2, E2, A2, st2⟩ := newP X0 hx hZ (hw _ (List.mem_of_getElem? (i := 0) rfl)) e0 (g := (mkF m 2 #[.val (.int p1), .val (.int p2), .val (.int p3), .val (.int p4), .val (.int p5), .unset, .unset, .unset, .unset, .unset, .unset, .unset] [(.int (8 : Int32))])) rfl (hb hby at_2) rfl (by decide) (cap := 8) (by decide) (by decide) (by decide) (by decide)
  obtain ⟨b2, g2⟩ : ∃ z, z = h0.size := ⟨_, rfl⟩
  rw [← g2] at A2 st2
  have KP2 : Keep h0 h2 [] := (Keep.refl h0 []).ext E2
  have gb_b2 : n0 ≤ b2 := Nat.le_trans Z0 (Nat.le_of_eq g2.symm)
  have sz_b2 : h0.size ≤ b2 := Nat.le_trans (Keep.refl h0 []).1 (Nat.le_of_eq g2.symm)
  have V2 : Ia Z h2 b2 .char (8 : Int32) (fun _ => 0) := Ia.new A2 (by decide) rfl
  have K3 : ∀ t, Steps p.tables e below (T2.setTop (mkF m 4 #[.val (.int p1), .val (.int p2), .val (.int p3), .val (.int p4), .val (.int p5), .unset, .unset, .unset, .unset, .unset, .unset, .unset] [(.ref b2)])) t → Steps p.tables e below (s₁.setTop (mkF m 2 #[.val (.int p1), .val (.int p2), .val (.int p3), .val (.int p4), .val (.int p5), .unset, .unset, .unset, .unset, .unset, .unset, .unset] [(.int (8 : Int32))])) t := fun t k => st2 _ k
  have K4 : ∀ t, Steps p.tables e below (T2.setTop (mkF m 8 #[.val (.int p1), .val (.int p2), .val (.int p3), .val (.int p4), .val (.int p5), .unset, .unset, .unset, .unset, .unset, .unset, .unset] [(.int (91 : Int32)), (.int (0 : Int32)), (.ref b2), (.ref b2)])) t → Steps p.tables e below (T2.setTop (mkF m 4 #[.val (.int p1), .val (.int p2), .val (.int p3), .val (.int p4), .val (.int p5), .unset, .unset, .unset, .unset, .unset, .unset, .unset] [(.ref b2)])) t := by
    intro t k
    refine XS.dup X2.here hx rfl (hb hby at_4) rfl rfl ?_
    show Steps p.tables e below (T2.setTop (mkF m 5 #[.val (.int p1), .val (.int p2), .val (.int p3), .val (.int p4), .val (.int p5), .unset, .unset, .unset, .unset, .unset, .unset, .unset] [(.ref b2), (.ref b2)])) t
    refine XS.iconst X2.here hx rfl (hb hby at_5) ?_
    show Steps p.tables e below (T2.setTop (mkF m 6 #[.val (.int p1), .val (.int p2), .val (.int p3), .val (.int p4), .val (.int p5), .unset, .unset, .unset, .unset, .unset, .unset, .unset] [(.int (0 : Int32)), (.ref b2), (.ref b2)])) t
    refine XS.bipush X2.here hx rfl (hb hby at_6) ?_
    show Steps p.tables e below (T2.setTop (mkF m 8 #[.val (.int p1), .val (.int p2), .val (.int p3), .val (.int p4), .val (.int p5), .unset, .unset, .unset, .unset, .unset, .unset, .unset] [(.int (91 : Int32)), (.int (0 : Int32)), (.ref b2), (.ref b2)])) t
    exact k
  have hin5 : ¬ (0 : Int32) < 0 ∧ (0 : Int32) < (8 : Int32) := by exact ⟨by decide, by decide⟩
  obtain ⟨cl5, Aq5, hj5, aq5⟩ := Ia.at V2 hin5
  obtain ⟨T5, h5, X5, e5, W5, st5⟩ := stC X2 hx hZ e2 Aq5 (j := (0 : Int32)) hj5 (g := (mkF m 8 #[.val (.int p1), .val (.int p2), .val (.int p3), .val (.int p4), .val (.int p5), .unset, .unset, .unset, .unset, .unset, .unset, .unset] [(.int (91 : Int32)), (.int (0 : Int32)), (.ref b2), (.ref b2)])) rfl rfl (hb hby at_8)
  have KP5 : Keep h0 h5 [] := KP2.wr W5 (Or.inr sz_b2)
  have N5 := Fr.snoc X5 N0 gb_b2
  have Aw5 : Ia Z h5 b2 .char (8 : Int32) (f0_u1) := V2.set W5 hin5.1
  have K6 : ∀ t, Steps p.tables e below (T5.setTop (mkF m 9 #[.val (.int p1), .val (.int p2), .val (.int p3), .val (.int p4), .val (.int p5), .unset, .unset, .unset, .unset, .unset, .unset, .unset] [(.ref b2)])) t → Steps p.tables e below (T2.setTop (mkF m 8 #[.val (.int p1), .val (.int p2), .val (.int p3), .val (.int p4), .val (.int p5), .unset, .unset, .unset, .unset, .unset, .unset, .unset] [(.int (91 : Int32)), (.int (0 : Int32)), (.ref b2), (.ref b2)])) t := fun t k => st5 _ k
  have K7 : ∀ t, Steps p.tables e below (T5.setTop (mkF m 13 #[.val (.int p1), .val (.int p2), .val (.int p3), .val (.int p4), .val (.int p5), .unset, .unset, .unset, .unset, .unset, .unset, .unset] [(.int (40 : Int32)), (.int (1 : Int32)), (.ref b2), (.ref b2)])) t → Steps p.tables e below (T5.setTop (mkF m 9 #[.val (.int p1), .val (.int p2), .val (.int p3), .val (.int p4), .val (.int p5), .unset, .unset, .unset, .unset, .unset, .unset, .unset] [(.ref b2)])) t := by
    intro t k
    refine XS.dup X5.here hx rfl (hb hby at_9) rfl rfl ?_
    show Steps p.tables e below (T5.setTop (mkF m 10 #[.val (.int p1), .val (.int p2), .val (.int p3), .val (.int p4), .val (.int p5), .unset, .unset, .unset, .unset, .unset, .unset, .unset] [(.ref b2), (.ref b2)])) t
    refine XS.iconst X5.here hx rfl (hb hby at_10) ?_
    show Steps p.tables e below (T5.setTop (mkF m 11 #[.val (.int p1), .val (.int p2), .val (.int p3), .val (.int p4), .val (.int p5), .unset, .unset, .unset, .unset, .unset, .unset, .unset] [(.int (1 : Int32)), (.ref b2), (.ref b2)])) t
    refine XS.bipush X5.here hx rfl (hb hby at_11) ?_
    show Steps p.tables e below (T5.setTop (mkF m 13 #[.val (.int p1), .val (.int p2), .val (.int p3), .val (.int p4), .val (.int p5), .unset, .unset, .unset, .unset, .unset, .unset, .unset] [(.int (40 : Int32)), (.int (1 : Int32)), (.ref b2), (.ref b2)])) t
    exact k
  have hin8 : ¬ (1 : Int32) < 0 ∧ (1 : Int32) < (8 : Int32) := by exact ⟨by decide, by decide⟩
  obtain ⟨cl8, Aq8, hj8, aq8⟩ := Ia.at Aw5 hin8
  obtain ⟨T8, h8, X8, e8, W8, st8⟩ := stC X5 hx hZ e5 Aq8 (j := (1 : Int32)) hj8 (g := (mkF m 13 #[.val (.int p1), .val (.int p2), .val (.int p3), .val (.int p4), .val (.int p5), .unset, .unset, .unset, .unset, .unset, .unset, .unset] [(.int (40 : Int32)), (.int (1 : Int32)), (.ref b2), (.ref b2)])) rfl rfl (hb hby at_13)
  have KP8 : Keep h0 h8 [] := KP5.wr W8 (Or.inr sz_b2)
  have N8 := Fr.snoc X8 N5 gb_b2
  have Aw8 : Ia Z h8 b2 .char (8 : Int32) (f0_u2) := Aw5.set W8 hin8.1
  have K9 : ∀ t, Steps p.tables e below (T8.setTop (mkF m 14 #[.val (.int p1), .val (.int p2), .val (.int p3), .val (.int p4), .val (.int p5), .unset, .unset, .unset, .unset, .unset, .unset, .unset] [(.ref b2)])) t → Steps p.tables e below (T5.setTop (mkF m 13 #[.val (.int p1), .val (.int p2), .val (.int p3), .val (.int p4), .val (.int p5), .unset, .unset, .unset, .unset, .unset, .unset, .unset] [(.int (40 : Int32)), (.int (1 : Int32)), (.ref b2), (.ref b2)])) t := fun t k => st8 _ k
  have K10 : ∀ t, Steps p.tables e below (T8.setTop (mkF m 18 #[.val (.int p1), .val (.int p2), .val (.int p3), .val (.int p4), .val (.int p5), .unset, .unset, .unset, .unset, .unset, .unset, .unset] [(.int (93 : Int32)), (.int (2 : Int32)), (.ref b2), (.ref b2)])) t → Steps p.tables e below (T8.setTop (mkF m 14 #[.val (.int p1), .val (.int p2), .val (.int p3), .val (.int p4), .val (.int p5), .unset, .unset, .unset, .unset, .unset, .unset, .unset] [(.ref b2)])) t := by
    intro t k
    refine XS.dup X8.here hx rfl (hb hby at_14) rfl rfl ?_
    show Steps p.tables e below (T8.setTop (mkF m 15 #[.val (.int p1), .val (.int p2), .val (.int p3), .val (.int p4), .val (.int p5), .unset, .unset, .unset, .unset, .unset, .unset, .unset] [(.ref b2), (.ref b2)])) t
    refine XS.iconst X8.here hx rfl (hb hby at_15) ?_
    show Steps p.tables e below (T8.setTop (mkF m 16 #[.val (.int p1), .val (.int p2), .val (.int p3), .val (.int p4), .val (.int p5), .unset, .unset, .unset, .unset, .unset, .unset, .unset] [(.int (2 : Int32)), (.ref b2), (.ref b2)])) t
    refine XS.bipush X8.here hx rfl (hb hby at_16) ?_
    show Steps p.tables e below (T8.setTop (mkF m 18 #[.val (.int p1), .val (.int p2), .val (.int p3), .val (.int p4), .val (.int p5), .unset, .unset, .unset, .unset, .unset, .unset, .unset] [(.int (93 : Int32)), (.int (2 : Int32)), (.ref b2), (.ref b2)])) t
    exact k
  have hin11 : ¬ (2 : Int32) < 0 ∧ (2 : Int32) < (8 : Int32) := by exact ⟨by decide, by decide⟩
  obtain ⟨cl11, Aq11, hj11, aq11⟩ := Ia.at Aw8 hin11
  obtain ⟨T11, h11, X11, e11, W11, st11⟩ := stC X8 hx hZ e8 Aq11 (j := (2 : Int32)) hj11 (g := (mkF m 18 #[.val (.int p1), .val (.int p2), .val (.int p3), .val (.int p4), .val (.int p5), .unset, .unset, .unset, .unset, .unset, .unset, .unset] [(.int (93 : Int32)), (.int (2 : Int32)), (.ref b2), (.ref b2)])) rfl rfl (hb hby at_18)
  have KP11 : Keep h0 h11 [] := KP8.wr W11 (Or.inr sz_b2)
  have N11 := Fr.snoc X11 N8 gb_b2
  have Aw11 : Ia Z h11 b2 .char (8 : Int32) (f0_u3) := Aw8.set W11 hin11.1
  have K12 : ∀ t, Steps p.tables e below (T11.setTop (mkF m 19 #[.val (.int p1), .val (.int p2), .val (.int p3), .val (.int p4), .val (.int p5), .unset, .unset, .unset, .unset, .unset, .unset, .unset] [(.ref b2)])) t → Steps p.tables e below (T8.setTop (mkF m 18 #[.val (.int p1), .val (.int p2), .val (.int p3), .val (.int p4), .val (.int p5), .unset, .unset, .unset, .unset, .unset, .unset, .unset] [(.int (93 : Int32)), (.int (2 : Int32)), (.ref b2), (.ref b2)])) t := fun t k => st11 _ k
  have K13 : ∀ t, Steps p.tables e below (T11.setTop (mkF m 23 #[.val (.int p1), .val (.int p2), .val (.int p3), .val (.int p4), .val (.int p5), .unset, .unset, .unset, .unset, .unset, .unset, .unset] [(.int (41 : Int32)), (.int (3 : Int32)), (.ref b2), (.ref b2)])) t → Steps p.tables e below (T11.setTop (mkF m 19 #[.val (.int p1), .val (.int p2), .val (.int p3), .val (.int p4), .val (.int p5), .unset, .unset, .unset, .unset, .unset, .unset, .unset] [(.ref b2)])) t := by
    intro t k
    refine XS.dup X11.here hx rfl (hb hby at_19) rfl rfl ?_
    show Steps p.tables e below (T11.setTop (mkF m 20 #[.val (.int p1), .val (.int p2), .val (.int p3), .val (.int p4), .val (.int p5), .unset, .unset, .unset, .unset, .unset, .unset, .unset] [(.ref b2), (.ref b2)])) t
    refine XS.iconst X11.here hx rfl (hb hby at_20) ?_
    show Steps p.tables e below (T11.setTop (mkF m 21 #[.val (.int p1), .val (.int p2), .val (.int p3), .val (.int p4), .val (.int p5), .unset, .unset, .unset, .unset, .unset, .unset, .unset] [(.int (3 : Int32)), (.ref b2), (.ref b2)])) t
    refine XS.bipush X11.here hx rfl (hb hby at_21) ?_
    show Steps p.tables e below (T11.setTop (mkF m 23 #[.val (.int p1), .val (.int p2), .val (.int p3), .val (.int p4), .val (.int p5), .unset, .unset, .unset, .unset, .unset, .unset, .unset] [(.int (41 : Int32)), (.int (3 : Int32)), (.ref b2), (.ref b2)])) t
    exact k
  have hin14 : ¬ (3 : Int32) < 0 ∧ (3 : Int32) < (8 : Int32) := by exact ⟨by decide, by decide⟩
  obtain ⟨cl14, Aq14, hj14, aq14⟩ := Ia.at Aw11 hin14
  obtain ⟨T14, h14, X14, e14, W14, st14⟩ := stC X11 hx hZ e11 Aq14 (j := (3 : Int32)) hj14 (g := (mkF m 23 #[.val (.int p1), .val (.int p2), .val (.int p3), .val (.int p4), .val (.int p5), .unset, .unset, .unset, .unset, .unset, .unset, .unset] [(.int (41 : Int32)), (.int (3 : Int32)), (.ref b2), (.ref b2)])) rfl rfl (hb hby at_23)
  have KP14 : Keep h0 h14 [] := KP11.wr W14 (Or.inr sz_b2)
  have N14 := Fr.snoc X14 N11 gb_b2
  have Aw14 : Ia Z h14 b2 .char (8 : Int32) (f0_u4) := Aw11.set W14 hin14.1
  have K15 : ∀ t, Steps p.tables e below (T14.setTop (mkF m 24 #[.val (.int p1), .val (.int p2), .val (.int p3), .val (.int p4), .val (.int p5), .unset, .unset, .unset, .unset, .unset, .unset, .unset] [(.ref b2)])) t → Steps p.tables e below (T11.setTop (mkF m 23 #[.val (.int p1), .val (.int p2), .val (.int p3), .val (.int p4), .val (.int p5), .unset, .unset, .unset, .unset, .unset, .unset, .unset] [(.int (41 : Int32)), (.int (3 : Int32)), (.ref b2), (.ref b2)])) t := fun t k => st14 _ k
  have K16 : ∀ t, Steps p.tables e below (T14.setTop (mkF m 28 #[.val (.int p1), .val (.int p2), .val (.int p3), .val (.int p4), .val (.int p5), .unset, .unset, .unset, .unset, .unset, .unset, .unset] [(.int (123 : Int32)), (.int (4 : Int32)), (.ref b2), (.ref b2)])) t → Steps p.tables e below (T14.setTop (mkF m 24 #[.val (.int p1), .val (.int p2), .val (.int p3), .val (.int p4), .val (.int p5), .unset, .unset, .unset, .unset, .unset, .unset, .unset] [(.ref b2)])) t := by
    intro t k
    refine XS.dup X14.here hx rfl (hb hby at_24) rfl rfl ?_
    show Steps p.tables e below (T14.setTop (mkF m 25 #[.val (.int p1), .val (.int p2), .val (.int p3), .val (.int p4), .val (.int p5), .unset, .unset, .unset, .unset, .unset, .unset, .unset] [(.ref b2), (.ref b2)])) t
    refine XS.iconst X14.here hx rfl (hb hby at_25) ?_
    show Steps p.tables e below (T14.setTop (mkF m 26 #[.val (.int p1), .val (.int p2), .val (.int p3), .val (.int p4), .val (.int p5), .unset, .unset, .unset, .unset, .unset, .unset, .unset] [(.int (4 : Int32)), (.ref b2), (.ref b2)])) t
    refine XS.bipush X14.here hx rfl (hb hby at_26) ?_
    show Steps p.tables e below (T14.setTop (mkF m 28 #[.val (.int p1), .val (.int p2), .val (.int p3), .val (.int p4), .val (.int p5), .unset, .unset, .unset, .unset, .unset, .unset, .unset] [(.int (123 : Int32)), (.int (4 : Int32)), (.ref b2), (.ref b2)])) t
    exact k
  have hin17 : ¬ (4 : Int32) < 0 ∧ (4 : Int32) < (8 : Int32) := by exact ⟨by decide, by decide⟩
  obtain ⟨cl17, Aq17, hj17, aq17⟩ := Ia.at Aw14 hin17
  obtain ⟨T17, h17, X17, e17, W17, st17⟩ := stC X14 hx hZ e14 Aq17 (j := (4 : Int32)) hj17 (g := (mkF m 28 #[.val (.int p1), .val (.int p2), .val (.int p3), .val (.int p4), .val (.int p5), .unset, .unset, .unset, .unset, .unset, .unset, .unset] [(.int (123 : Int32)), (.int (4 : Int32)), (.ref b2), (.ref b2)])) rfl rfl (hb hby at_28)
  have KP17 : Keep h0 h17 [] := KP14.wr W17 (Or.inr sz_b2)
  have N17 := Fr.snoc X17 N14 gb_b2
  have Aw17 : Ia Z h17 b2 .char (8 : Int32) (f0_u5) := Aw14.set W17 hin17.1
  have K18 : ∀ t, Steps p.tables e below (T17.setTop (mkF m 29 #[.val (.int p1), .val (.int p2), .val (.int p3), .val (.int p4), .val (.int p5), .unset, .unset, .unset, .unset, .unset, .unset, .unset] [(.ref b2)])) t → Steps p.tables e below (T14.setTop (mkF m 28 #[.val (.int p1), .val (.int p2), .val (.int p3), .val (.int p4), .val (.int p5), .unset, .unset, .unset, .unset, .unset, .unset, .unset] [(.int (123 : Int32)), (.int (4 : Int32)), (.ref b2), (.ref b2)])) t := fun t k => st17 _ k
  have K19 : ∀ t, Steps p.tables e below (T17.setTop (mkF m 33 #[.val (.int p1), .val (.int p2), .val (.int p3), .val (.int p4), .val (.int p5), .unset, .unset, .unset, .unset, .unset, .unset, .unset] [(.int (125 : Int32)), (.int (5 : Int32)), (.ref b2), (.ref b2)])) t → Steps p.tables e below (T17.setTop (mkF m 29 #[.val (.int p1), .val (.int p2), .val (.int p3), .val (.int p4), .val (.int p5), .unset, .unset, .unset, .unset, .unset, .unset, .unset] [(.ref b2)])) t := by
    intro t k
    refine XS.dup X17.here hx rfl (hb hby at_29) rfl rfl ?_
    show Steps p.tables e below (T17.setTop (mkF m 30 #[.val (.int p1), .val (.int p2), .val (.int p3), .val (.int p4), .val (.int p5), .unset, .unset, .unset, .unset, .unset, .unset, .unset] [(.ref b2), (.ref b2)])) t
    refine XS.iconst X17.here hx rfl (hb hby at_30) ?_
    show Steps p.tables e below (T17.setTop (mkF m 31 #[.val (.int p1), .val (.int p2), .val (.int p3), .val (.int p4), .val (.int p5), .unset, .unset, .unset, .unset, .unset, .unset, .unset] [(.int (5 : Int32)), (.ref b2), (.ref b2)])) t
    refine XS.bipush X17.here hx rfl (hb hby at_31) ?_
    show Steps p.tables e below (T17.setTop (mkF m 33 #[.val (.int p1), .val (.int p2), .val (.int p3), .val (.int p4), .val (.int p5), .unset, .unset, .unset, .unset, .unset, .unset, .unset] [(.int (125 : Int32)), (.int (5 : Int32)), (.ref b2), (.ref b2)])) t
    exact k
  have hin20 : ¬ (5 : Int32) < 0 ∧ (5 : Int32) < (8 : Int32) := by exact ⟨by decide, by decide⟩
  obtain ⟨cl20, Aq20, hj20, aq20⟩ := Ia.at Aw17 hin20
  obtain ⟨T20, h20, X20, e20, W20, st20⟩ := stC X17 hx hZ e17 Aq20 (j := (5 : Int32)) hj20 (g := (mkF m 33 #[.val (.int p1), .val (.int p2), .val (.int p3), .val (.int p4), .val (.int p5), .unset, .unset, .unset, .unset, .unset, .unset, .unset] [(.int (125 : Int32)), (.int (5 : Int32)), (.ref b2), (.ref b2)])) rfl rfl (hb hby at_33)
  have KP20 : Keep h0 h20 [] := KP17.wr W20 (Or.inr sz_b2)
  have N20 := Fr.snoc X20 N17 gb_b2
  have Aw20 : Ia Z h20 b2 .char (8 : Int32) (f0_u6) := Aw17.set W20 hin20.1
  have K21 : ∀ t, Steps p.tables e below (T20.setTop (mkF m 34 #[.val (.int p1), .val (.int p2), .val (.int p3), .val (.int p4), .val (.int p5), .unset, .unset, .unset, .unset, .unset, .unset, .unset] [(.ref b2)])) t → Steps p.tables e below (T17.setTop (mkF m 33 #[.val (.int p1), .val (.int p2), .val (.int p3), .val (.int p4), .val (.int p5), .unset, .unset, .unset, .unset, .unset, .unset, .unset] [(.int (125 : Int32)), (.int (5 : Int32)), (.ref b2), (.ref b2)])) t := fun t k => st20 _ k
  have K22 : ∀ t, Steps p.tables e below (T20.setTop (mkF m 39 #[.val (.int p1), .val (.int p2), .val (.int p3), .val (.int p4), .val (.int p5), .unset, .unset, .unset, .unset, .unset, .unset, .unset] [(.int (120 : Int32)), (.int (6 : Int32)), (.ref b2), (.ref b2)])) t → Steps p.tables e below (T20.setTop (mkF m 34 #[.val (.int p1), .val (.int p2), .val (.int p3), .val (.int p4), .val (.int p5), .unset, .unset, .unset, .unset, .unset, .unset, .unset] [(.ref b2)])) t := by
    intro t k
    refine XS.dup X20.here hx rfl (hb hby at_34) rfl rfl ?_
    show Steps p.tables e below (T20.setTop (mkF m 35 #[.val (.int p1), .val (.int p2), .val (.int p3), .val (.int p4), .val (.int p5), .unset, .unset, .unset, .unset, .unset, .unset, .unset] [(.ref b2), (.ref b2)])) t
    refine XS.bipush X20.here hx rfl (hb hby at_35) ?_
    show Steps p.tables e below (T20.setTop (mkF m 37 #[.val (.int p1), .val (.int p2), .val (.int p3), .val (.int p4), .val (.int p5), .unset, .unset, .unset, .unset, .unset, .unset, .unset] [(.int (6 : Int32)), (.ref b2), (.ref b2)])) t
    refine XS.bipush X20.here hx rfl (hb hby at_37) ?_
    show Steps p.tables e below (T20.setTop (mkF m 39 #[.val (.int p1), .val (.int p2), .val (.int p3), .val (.int p4), .val (.int p5), .unset, .unset, .unset, .unset, .unset, .unset, .unset] [(.int (120 : Int32)), (.int (6 : Int32)), (.ref b2), (.ref b2)])) t
    exact k
  have hin23 : ¬ (6 : Int32) < 0 ∧ (6 : Int32) < (8 : Int32) := by exact ⟨by decide, by decide⟩
  obtain ⟨cl23, Aq23, hj23, aq23⟩ := Ia.at Aw20 hin23
  obtain ⟨T23, h23, X23, e23, W23, st23⟩ := stC X20 hx hZ e20 Aq23 (j := (6 : Int32)) hj23 (g := (mkF m 39 #[.val (.int p1), .val (.int p2), .val (.int p3), .val (.int p4), .val (.int p5), .unset, .unset, .unset, .unset, .unset, .unset, .unset] [(.int (120 : Int32)), (.int (6 : Int32)), (.ref b2), (.ref b2)])) rfl rfl (hb hby at_39)
  have KP23 : Keep h0 h23 [] := KP20.wr W23 (Or.inr sz_b2)
  have N23 := Fr.snoc X23 N20 gb_b2
  have Aw23 : Ia Z h23 b2 .char (8 : Int32) (f0_u7) := Aw20.set W23 hin23.1
  have K24 : ∀ t, Steps p.tables e below (T23.setTop (mkF m 40 #[.val (.int p1), .val (.int p2), .val (.int p3), .val (.int p4), .val (.int p5), .unset, .unset, .unset, .unset, .unset, .unset, .unset] [(.ref b2)])) t → Steps p.tables e below (T20.setTop (mkF m 39 #[.val (.int p1), .val (.int p2), .val (.int p3), .val (.int p4), .val (.int p5), .unset, .unset, .unset, .unset, .unset, .unset, .unset] [(.int (120 : Int32)), (.int (6 : Int32)), (.ref b2), (.ref b2)])) t := fun t k => st23 _ k
  have K25 : ∀ t, Steps p.tables e below (T23.setTop (mkF m 45 #[.val (.int p1), .val (.int p2), .val (.int p3), .val (.int p4), .val (.int p5), .unset, .unset, .unset, .unset, .unset, .unset, .unset] [(.int (32 : Int32)), (.int (7 : Int32)), (.ref b2), (.ref b2)])) t → Steps p.tables e below (T23.setTop (mkF m 40 #[.val (.int p1), .val (.int p2), .val (.int p3), .val (.int p4), .val (.int p5), .unset, .unset, .unset, .unset, .unset, .unset, .unset] [(.ref b2)])) t := by
    intro t k
    refine XS.dup X23.here hx rfl (hb hby at_40) rfl rfl ?_
    show Steps p.tables e below (T23.setTop (mkF m 41 #[.val (.int p1), .val (.int p2), .val (.int p3), .val (.int p4), .val (.int p5), .unset, .unset, .unset, .unset, .unset, .unset, .unset] [(.ref b2), (.ref b2)])) t
    refine XS.bipush X23.here hx rfl (hb hby at_41) ?_
    show Steps p.tables e below (T23.setTop (mkF m 43 #[.val (.int p1), .val (.int p2), .val (.int p3), .val (.int p4), .val (.int p5), .unset, .unset, .unset, .unset, .unset, .unset, .unset] [(.int (7 : Int32)), (.ref b2), (.ref b2)])) t
    refine XS.bipush X23.here hx rfl (hb hby at_43) ?_
    show Steps p.tables e below (T23.setTop (mkF m 45 #[.val (.int p1), .val (.int p2), .val (.int p3), .val (.int p4), .val (.int p5), .unset, .unset, .unset, .unset, .unset, .unset, .unset] [(.int (32 : Int32)), (.int (7 : Int32)), (.ref b2), (.ref b2)])) t
    exact k
  have hin26 : ¬ (7 : Int32) < 0 ∧ (7 : Int32) < (8 : Int32) := by exact ⟨by decide, by decide⟩
  obtain ⟨cl26, Aq26, hj26, aq26⟩ := Ia.at Aw23 hin26
  obtain ⟨T26, h26, X26, e26, W26, st26⟩ := stC X23 hx hZ e23 Aq26 (j := (7 : Int32)) hj26 (g := (mkF m 45 #[.val (.int p1), .val (.int p2), .val (.int p3), .val (.int p4), .val (.int p5), .unset, .unset, .unset, .unset, .unset, .unset, .unset] [(.int (32 : Int32)), (.int (7 : Int32)), (.ref b2), (.ref b2)])) rfl rfl (hb hby at_45)
  have KP26 : Keep h0 h26 [] := KP23.wr W26 (Or.inr sz_b2)
  have N26 := Fr.snoc X26 N23 gb_b2
  have Aw26 : Ia Z h26 b2 .char (8 : Int32) (f0_u8) := Aw23.set W26 hin26.1
  have K27 : ∀ t, Steps p.tables e below (T26.setTop (mkF m 46 #[.val (.int p1), .val (.int p2), .val (.int p3), .val (.int p4), .val (.int p5), .unset, .unset, .unset, .unset, .unset, .unset, .unset] [(.ref b2)])) t → Steps p.tables e below (T23.setTop (mkF m 45 #[.val (.int p1), .val (.int p2), .val (.int p3), .val (.int p4), .val (.int p5), .unset, .unset, .unset, .unset, .unset, .unset, .unset] [(.int (32 : Int32)), (.int (7 : Int32)), (.ref b2), (.ref b2)])) t := fun t k => st26 _ k
  have K28 : ∀ t, Steps p.tables e below (T26.setTop (mkF m 76 #[.val (.int p1), .val (.int p2), .val (.int p3), .val (.int p4), .val (.int p5), .val (.ref b2), .val (.int ((p1 &&& (2147483647 : Int32)) % (7 : Int32))), .val (.int (((p1 &&& (2147483647 : Int32)) % (7 : Int32)) + ((p2 &&& (2147483647 : Int32)) % ((7 : Int32) - ((p1 &&& (2147483647 : Int32)) % (7 : Int32)))))), .unset, .unset, .unset, .unset] [(.int (p3 &&& (65536 : Int32)))])) t → Steps p.tables e below (T26.setTop (mkF m 46 #[.val (.int p1), .val (.int p2), .val (.int p3), .val (.int p4), .val (.int p5), .unset, .unset, .unset, .unset, .unset, .unset, .unset] [(.ref b2)])) t := by
    intro t k
    refine XS.astore X26.here hx rfl (hb hby at_46) rfl rfl (l' := #[.val (.int p1), .val (.int p2), .val (.int p3), .val (.int p4), .val (.int p5), .val (.ref b2), .unset, .unset, .unset, .unset, .unset, .unset]) rfl ?_
    show Steps p.tables e below (T26.setTop (mkF m 48 #[.val (.int p1), .val (.int p2), .val (.int p3), .val (.int p4), .val (.int p5), .val (.ref b2), .unset, .unset, .unset, .unset, .unset, .unset] [])) t
    refine XS.iloadN X26.here hx rfl (hb hby at_48) rfl ?_
    show Steps p.tables e below (T26.setTop (mkF m 49 #[.val (.int p1), .val (.int p2), .val (.int p3), .val (.int p4), .val (.int p5), .val (.ref b2), .unset, .unset, .unset, .unset, .unset, .unset] [(.int p1)])) t
    refine X26.ldcInt hx hown (mvT hZ (hw _ (List.mem_of_getElem? (i := 1) rfl))) (g := (mkF m 49 #[.val (.int p1), .val (.int p2), .val (.int p3), .val (.int p4), .val (.int p5), .val (.ref b2), .unset, .unset, .unset, .unset, .unset, .unset] [(.int p1)])) rfl (hb hby at_49) _ ?_
    show Steps p.tables e below (T26.setTop (mkF m 51 #[.val (.int p1), .val (.int p2), .val (.int p3), .val (.int p4), .val (.int p5), .val (.ref b2), .unset, .unset, .unset, .unset, .unset, .unset] [(.int (2147483647 : Int32)), (.int p1)])) t
    refine XS.iand X26.here hx rfl (hb hby at_51) rfl ?_
    show Steps p.tables e below (T26.setTop (mkF m 52 #[.val (.int p1), .val (.int p2), .val (.int p3), .val (.int p4), .val (.int p5), .val (.ref b2), .unset, .unset, .unset, .unset, .unset, .unset] [(.int (p1 &&& (2147483647 : Int32)))])) t
    refine XS.bipush X26.here hx rfl (hb hby at_52) ?_
    show Steps p.tables e below (T26.setTop (mkF m 54 #[.val (.int p1), .val (.int p2), .val (.int p3), .val (.int p4), .val (.int p5), .val (.ref b2), .unset, .unset, .unset, .unset, .unset, .unset] [(.int (7 : Int32)), (.int (p1 &&& (2147483647 : Int32)))])) t
    refine iremM X26 hx rfl (hb hby at_54) rfl (show (7 : Int32) ≠ (0 : Int32) from (by decide)) ?_
    show Steps p.tables e below (T26.setTop (mkF m 55 #[.val (.int p1), .val (.int p2), .val (.int p3), .val (.int p4), .val (.int p5), .val (.ref b2), .unset, .unset, .unset, .unset, .unset, .unset] [(.int ((p1 &&& (2147483647 : Int32)) % (7 : Int32)))])) t
    refine XS.istore X26.here hx rfl (hb hby at_55) rfl (l' := #[.val (.int p1), .val (.int p2), .val (.int p3), .val (.int p4), .val (.int p5), .val (.ref b2), .val (.int ((p1 &&& (2147483647 : Int32)) % (7 : Int32))), .unset, .unset, .unset, .unset, .unset]) rfl ?_
    show Steps p.tables e below (T26.setTop (mkF m 57 #[.val (.int p1), .val (.int p2), .val (.int p3), .val (.int p4), .val (.int p5), .val (.ref b2), .val (.int ((p1 &&& (2147483647 : Int32)) % (7 : Int32))), .unset, .unset, .unset, .unset, .unset] [])) t
    refine XS.iload X26.here hx rfl (hb hby at_57) rfl ?_
    show Steps p.tables e below (T26.setTop (mkF m 59 #[.val (.int p1), .val (.int p2), .val (.int p3), .val (.int p4), .val (.int p5), .val (.ref b2), .val (.int ((p1 &&& (2147483647 : Int32)) % (7 : Int32))), .unset, .unset, .unset, .unset, .unset] [(.int ((p1 &&& (2147483647 : Int32)) % (7 : Int32)))])) t
    refine XS.iloadN X26.here hx rfl (hb hby at_59) rfl ?_
    show Steps p.tables e below (T26.setTop (mkF m 60 #[.val (.int p1), .val (.int p2), .val (.int p3), .val (.int p4), .val (.int p5), .val (.ref b2), .val (.int ((p1 &&& (2147483647 : Int32)) % (7 : Int32))), .unset, .unset, .unset, .unset, .unset] [(.int p2), (.int ((p1 &&& (2147483647 : Int32)) % (7 : Int32)))])) t
    refine X26.ldcInt hx hown (mvT hZ (hw _ (List.mem_of_getElem? (i := 1) rfl))) (g := (mkF m 60 #[.val (.int p1), .val (.int p2), .val (.int p3), .val (.int p4), .val (.int p5), .val (.ref b2), .val (.int ((p1 &&& (2147483647 : Int32)) % (7 : Int32))), .unset, .unset, .unset, .unset, .unset] [(.int p2), (.int ((p1 &&& (2147483647 : Int32)) % (7 : Int32)))])) rfl (hb hby at_60) _ ?_
    show Steps p.tables e below (T26.setTop (mkF m 62 #[.val (.int p1), .val (.int p2), .val (.int p3), .val (.int p4), .val (.int p5), .val (.ref b2), .val (.int ((p1 &&& (2147483647 : Int32)) % (7 : Int32))), .unset, .unset, .unset, .unset, .unset] [(.int (2147483647 : Int32)), (.int p2), (.int ((p1 &&& (2147483647 : Int32)) % (7 : Int32)))])) t
    refine XS.iand X26.here hx rfl (hb hby at_62) rfl ?_
    show Steps p.tables e below (T26.setTop (mkF m 63 #[.val (.int p1), .val (.int p2), .val (.int p3), .val (.int p4), .val (.int p5), .val (.ref b2), .val (.int ((p1 &&& (2147483647 : Int32)) % (7 : Int32))), .unset, .unset, .unset, .unset, .unset] [(.int (p2 &&& (2147483647 : Int32))), (.int ((p1 &&& (2147483647 : Int32)) % (7 : Int32)))])) t
    refine XS.bipush X26.here hx rfl (hb hby at_63) ?_
    show Steps p.tables e below (T26.setTop (mkF m 65 #[.val (.int p1), .val (.int p2), .val (.int p3), .val (.int p4), .val (.int p5), .val (.ref b2), .val (.int ((p1 &&& (2147483647 : Int32)) % (7 : Int32))), .unset, .unset, .unset, .unset, .unset] [(.int (7 : Int32)), (.int (p2 &&& (2147483647 : Int32))), (.int ((p1 &&& (2147483647 : Int32)) % (7 : Int32)))])) t
    refine XS.iload X26.here hx rfl (hb hby at_65) rfl ?_
    show Steps p.tables e below (T26.setTop (mkF m 67 #[.val (.int p1), .val (.int p2), .val (.int p3), .val (.int p4), .val (.int p5), .val (.ref b2), .val (.int ((p1 &&& (2147483647 : Int32)) % (7 : Int32))), .unset, .unset, .unset, .unset, .unset] [(.int ((p1 &&& (2147483647 : Int32)) % (7 : Int32))), (.int (7 : Int32)), (.int (p2 &&& (2147483647 : Int32))), (.int ((p1 &&& (2147483647 : Int32)) % (7 : Int32)))])) t
    refine XS.isub X26.here hx rfl (hb hby at_67) rfl ?_
    show Steps p.tables e below (T26.setTop (mkF m 68 #[.val (.int p1), .val (.int p2), .val (.int p3), .val (.int p4), .val (.int p5), .val (.ref b2), .val (.int ((p1 &&& (2147483647 : Int32)) % (7 : Int32))), .unset, .unset, .unset, .unset, .unset] [(.int ((7 : Int32) - ((p1 &&& (2147483647 : Int32)) % (7 : Int32)))), (.int (p2 &&& (2147483647 : Int32))), (.int ((p1 &&& (2147483647 : Int32)) % (7 : Int32)))])) t
    refine iremM X26 hx rfl (hb hby at_68) rfl (show ((7 : Int32) - ((p1 &&& (2147483647 : Int32)) % (7 : Int32))) ≠ (0 : Int32) from own_nz _) ?_
    show Steps p.tables e below (T26.setTop (mkF m 69 #[.val (.int p1), .val (.int p2), .val (.int p3), .val (.int p4), .val (.int p5), .val (.ref b2), .val (.int ((p1 &&& (2147483647 : Int32)) % (7 : Int32))), .unset, .unset, .unset, .unset, .unset] [(.int ((p2 &&& (2147483647 : Int32)) % ((7 : Int32) - ((p1 &&& (2147483647 : Int32)) % (7 : Int32))))), (.int ((p1 &&& (2147483647 : Int32)) % (7 : Int32)))])) t
    refine XS.iadd X26.here hx rfl (hb hby at_69) rfl ?_
    show Steps p.tables e below (T26.setTop (mkF m 70 #[.val (.int p1), .val (.int p2), .val (.int p3), .val (.int p4), .val (.int p5), .val (.ref b2), .val (.int ((p1 &&& (2147483647 : Int32)) % (7 : Int32))), .unset, .unset, .unset, .unset, .unset] [(.int (((p1 &&& (2147483647 : Int32)) % (7 : Int32)) + ((p2 &&& (2147483647 : Int32)) % ((7 : Int32) - ((p1 &&& (2147483647 : Int32)) % (7 : Int32))))))])) t
    refine XS.istore X26.here hx rfl (hb hby at_70) rfl (l' := #[.val (.int p1), .val (.int p2), .val (.int p3), .val (.int p4), .val (.int p5), .val (.ref b2), .val (.int ((p1 &&& (2147483647 : Int32)) % (7 : Int32))), .val (.int (((p1 &&& (2147483647 : Int32)) % (7 : Int32)) + ((p2 &&& (2147483647 : Int32)) % ((7 : Int32) - ((p1 &&& (2147483647 : Int32)) % (7 : Int32)))))), .unset, .unset, .unset, .unset]) rfl ?_
    show Steps p.tables e below (T26.setTop (mkF m 72 #[.val (.int p1), .val (.int p2), .val (.int p3), .val (.int p4), .val (.int p5), .val (.ref b2), .val (.int ((p1 &&& (2147483647 : Int32)) % (7 : Int32))), .val (.int (((p1 &&& (2147483647 : Int32)) % (7 : Int32)) + ((p2 &&& (2147483647 : Int32)) % ((7 : Int32) - ((p1 &&& (2147483647 : Int32)) % (7 : Int32)))))), .unset, .unset, .unset, .unset] [])) t
    refine XS.iloadN X26.here hx rfl (hb hby at_72) rfl ?_
    show Steps p.tables e below (T26.setTop (mkF m 73 #[.val (.int p1), .val (.int p2), .val (.int p3), .val (.int p4), .val (.int p5), .val (.ref b2), .val (.int ((p1 &&& (2147483647 : Int32)) % (7 : Int32))), .val (.int (((p1 &&& (2147483647 : Int32)) % (7 : Int32)) + ((p2 &&& (2147483647 : Int32)) % ((7 : Int32) - ((p1 &&& (2147483647 : Int32)) % (7 : Int32)))))), .unset, .unset, .unset, .unset] [(.int p3)])) t
    refine X26.ldcInt hx hown (mvT hZ (hw _ (List.mem_of_getElem? (i := 2) rfl))) (g := (mkF m 73 #[.val (.int p1), .val (.int p2), .val (.int p3), .val (.int p4), .val (.int p5), .val (.ref b2), .val (.int ((p1 &&& (2147483647 : Int32)) % (7 : Int32))), .val (.int (((p1 &&& (2147483647 : Int32)) % (7 : Int32)) + ((p2 &&& (2147483647 : Int32)) % ((7 : Int32) - ((p1 &&& (2147483647 : Int32)) % (7 : Int32)))))), .unset, .unset, .unset, .unset] [(.int p3)])) rfl (hb hby at_73) _ ?_
    show Steps p.tables e below (T26.setTop (mkF m 75 #[.val (.int p1), .val (.int p2), .val (.int p3), .val (.int p4), .val (.int p5), .val (.ref b2), .val (.int ((p1 &&& (2147483647 : Int32)) % (7 : Int32))), .val (.int (((p1 &&& (2147483647 : Int32)) % (7 : Int32)) + ((p2 &&& (2147483647 : Int32)) % ((7 : Int32) - ((p1 &&& (2147483647 : Int32)) % (7 : Int32)))))), .unset, .unset, .unset, .unset] [(.int (65536 : Int32)), (.int p3)])) t
    refine XS.iand X26.here hx rfl (hb hby at_75) rfl ?_
    show Steps p.tables e below (T26.setTop (mkF m 76 #[.val (.int p1), .val (.int p2), .val (.int p3), .val (.int p4), .val (.int p5), .val (.ref b2), .val (.int ((p1 &&& (2147483647 : Int32)) % (7 : Int32))), .val (.int (((p1 &&& (2147483647 : Int32)) % (7 : Int32)) + ((p2 &&& (2147483647 : Int32)) % ((7 : Int32) - ((p1 &&& (2147483647 : Int32)) % (7 : Int32)))))), .unset, .unset, .unset, .unset] [(.int (p3 &&& (65536 : Int32)))])) t
    exact k
  have K29 : ∀ t, Steps p.tables e below (T26.setTop (mkF m 91 #[.val (.int p1), .val (.int p2), .val (.int p3), .val (.int p4), .val (.int p5), .val (.ref b2), .val (.int ((p1 &&& (2147483647 : Int32)) % (7 : Int32))), .val (.int (((p1 &&& (2147483647 : Int32)) % (7 : Int32)) + ((p2 &&& (2147483647 : Int32)) % ((7 : Int32) - ((p1 &&& (2147483647 : Int32)) % (7 : Int32)))))), .unset, .unset, .unset, .unset] [(.int (f0_u9 p3))])) t → Steps p.tables e below (T26.setTop (mkF m 76 #[.val (.int p1), .val (.int p2), .val (.int p3), .val (.int p4), .val (.int p5), .val (.ref b2), .val (.int ((p1 &&& (2147483647 : Int32)) % (7 : Int32))), .val (.int (((p1 &&& (2147483647 : Int32)) % (7 : Int32)) + ((p2 &&& (2147483647 : Int32)) % ((7 : Int32) - ((p1 &&& (2147483647 : Int32)) % (7 : Int32)))))), .unset, .unset, .unset, .unset] [(.int (p3 &&& (65536 : Int32)))])) t := by
    intro t k
    by_cases hc29 : (p3 &&& (65536 : Int32)) = (0 : Int32)
    · have K30 : ∀ t, Steps p.tables e below (T26.setTop (mkF m 79 #[.val (.int p1), .val (.int p2), .val (.int p3), .val (.int p4), .val (.int p5), .val (.ref b2), .val (.int ((p1 &&& (2147483647 : Int32)) % (7 : Int32))), .val (.int (((p1 &&& (2147483647 : Int32)) % (7 : Int32)) + ((p2 &&& (2147483647 : Int32)) % ((7 : Int32) - ((p1 &&& (2147483647 : Int32)) % (7 : Int32)))))), .unset, .unset, .unset, .unset] [])) t → Steps p.tables e below (T26.setTop (mkF m 76 #[.val (.int p1), .val (.int p2), .val (.int p3), .val (.int p4), .val (.int p5), .val (.ref b2), .val (.int ((p1 &&& (2147483647 : Int32)) % (7 : Int32))), .val (.int (((p1 &&& (2147483647 : Int32)) % (7 : Int32)) + ((p2 &&& (2147483647 : Int32)) % ((7 : Int32) - ((p1 &&& (2147483647 : Int32)) % (7 : Int32)))))), .unset, .unset, .unset, .unset] [(.int (p3 &&& (65536 : Int32)))])) t := by
        intro t k
        refine XS.ifNo X26.here hx rfl (hb hby at_76) rfl ((if0 _ _).trans (teq hc29).2) ?_
        exact k
      have K35 : ∀ t, Steps p.tables e below (T26.setTop (mkF m 85 #[.val (.int p1), .val (.int p2), .val (.int p3), .val (.int p4), .val (.int p5), .val (.ref b2), .val (.int ((p1 &&& (2147483647 : Int32)) % (7 : Int32))), .val (.int (((p1 &&& (2147483647 : Int32)) % (7 : Int32)) + ((p2 &&& (2147483647 : Int32)) % ((7 : Int32) - ((p1 &&& (2147483647 : Int32)) % (7 : Int32)))))), .unset, .unset, .unset, .unset] [(.int (p3 &&& (7 : Int32))), (.ref b2)])) t → Steps p.tables e below (T26.setTop (mkF m 79 #[.val (.int p1), .val (.int p2), .val (.int p3), .val (.int p4), .val (.int p5), .val (.ref b2), .val (.int ((p1 &&& (2147483647 : Int32)) % (7 : Int32))), .val (.int (((p1 &&& (2147483647 : Int32)) % (7 : Int32)) + ((p2 &&& (2147483647 : Int32)) % ((7 : Int32) - ((p1 &&& (2147483647 : Int32)) % (7 : Int32)))))), .unset, .unset, .unset, .unset] [])) t := by
        intro t k
        refine XS.aload X26.here hx rfl (hb hby at_79) rfl rfl ?_
        show Steps p.tables e below (T26.setTop (mkF m 81 #[.val (.int p1), .val (.int p2), .val (.int p3), .val (.int p4), .val (.int p5), .val (.ref b2), .val (.int ((p1 &&& (2147483647 : Int32)) % (7 : Int32))), .val (.int (((p1 &&& (2147483647 : Int32)) % (7 : Int32)) + ((p2 &&& (2147483647 : Int32)) % ((7 : Int32) - ((p1 &&& (2147483647 : Int32)) % (7 : Int32)))))), .unset, .unset, .unset, .unset] [(.ref b2)])) t
        refine XS.iloadN X26.here hx rfl (hb hby at_81) rfl ?_
        show Steps p.tables e below (T26.setTop (mkF m 82 #[.val (.int p1), .val (.int p2), .val (.int p3), .val (.int p4), .val (.int p5), .val (.ref b2), .val (.int ((p1 &&& (2147483647 : Int32)) % (7 : Int32))), .val (.int (((p1 &&& (2147483647 : Int32)) % (7 : Int32)) + ((p2 &&& (2147483647 : Int32)) % ((7 : Int32) - ((p1 &&& (2147483647 : Int32)) % (7 : Int32)))))), .unset, .unset, .unset, .unset] [(.int p3), (.ref b2)])) t
        refine XS.bipush X26.here hx rfl (hb hby at_82) ?_
        show Steps p.tables e below (T26.setTop (mkF m 84 #[.val (.int p1), .val (.int p2), .val (.int p3), .val (.int p4), .val (.int p5), .val (.ref b2), .val (.int ((p1 &&& (2147483647 : Int32)) % (7 : Int32))), .val (.int (((p1 &&& (2147483647 : Int32)) % (7 : Int32)) + ((p2 &&& (2147483647 : Int32)) % ((7 : Int32) - ((p1 &&& (2147483647 : Int32)) % (7 : Int32)))))), .unset, .unset, .unset, .unset] [(.int (7 : Int32)), (.int p3), (.ref b2)])) t
        refine XS.iand X26.here hx rfl (hb hby at_84) rfl ?_
        show Steps p.tables e below (T26.setTop (mkF m 85 #[.val (.int p1), .val (.int p2), .val (.int p3), .val (.int p4), .val (.int p5), .val (.ref b2), .val (.int ((p1 &&& (2147483647 : Int32)) % (7 : Int32))), .val (.int (((p1 &&& (2147483647 : Int32)) % (7 : Int32)) + ((p2 &&& (2147483647 : Int32)) % ((7 : Int32) - ((p1 &&& (2147483647 : Int32)) % (7 : Int32)))))), .unset, .unset, .unset, .unset] [(.int (p3 &&& (7 : Int32))), (.ref b2)])) t
        exact k
      have hin31 : ¬ (p3 &&& (7 : Int32)) < 0 ∧ (p3 &&& (7 : Int32)) < (8 : Int32) := by exact own_b7 _
      obtain ⟨cl32, Aq33, hjhin31, aq34⟩ := Ia.at Aw26 hin31
      have K36 : ∀ t, Steps p.tables e below (T26.setTop (mkF m 91 #[.val (.int p1), .val (.int p2), .val (.int p3), .val (.int p4), .val (.int p5), .val (.ref b2), .val (.int ((p1 &&& (2147483647 : Int32)) % (7 : Int32))), .val (.int (((p1 &&& (2147483647 : Int32)) % (7 : Int32)) + ((p2 &&& (2147483647 : Int32)) % ((7 : Int32) - ((p1 &&& (2147483647 : Int32)) % (7 : Int32)))))), .unset, .unset, .unset, .unset] [(.int ((f0_u8) (p3 &&& (7 : Int32))))])) t → Steps p.tables e below (T26.setTop (mkF m 85 #[.val (.int p1), .val (.int p2), .val (.int p3), .val (.int p4), .val (.int p5), .val (.ref b2), .val (.int ((p1 &&& (2147483647 : Int32)) % (7 : Int32))), .val (.int (((p1 &&& (2147483647 : Int32)) % (7 : Int32)) + ((p2 &&& (2147483647 : Int32)) % ((7 : Int32) - ((p1 &&& (2147483647 : Int32)) % (7 : Int32)))))), .unset, .unset, .unset, .unset] [(.int (p3 &&& (7 : Int32))), (.ref b2)])) t := by
        intro t k
        refine X26.caload hx (j := (p3 &&& (7 : Int32))) (v := .int ((f0_u8) (p3 &&& (7 : Int32)))) (by rw [e26]; exact Aq33.1) (State.isArrayOf_alike hZ.alike Aq33.2.1) Aq33.2.2 hjhin31 aq34 (g := (mkF m 85 #[.val (.int p1), .val (.int p2), .val (.int p3), .val (.int p4), .val (.int p5), .val (.ref b2), .val (.int ((p1 &&& (2147483647 : Int32)) % (7 : Int32))), .val (.int (((p1 &&& (2147483647 : Int32)) % (7 : Int32)) + ((p2 &&& (2147483647 : Int32)) % ((7 : Int32) - ((p1 &&& (2147483647 : Int32)) % (7 : Int32)))))), .unset, .unset, .unset, .unset] [(.int (p3 &&& (7 : Int32))), (.ref b2)])) rfl rfl (hb hby at_85) _ ?_
        show Steps p.tables e below (T26.setTop (mkF m 86 #[.val (.int p1), .val (.int p2), .val (.int p3), .val (.int p4), .val (.int p5), .val (.ref b2), .val (.int ((p1 &&& (2147483647 : Int32)) % (7 : Int32))), .val (.int (((p1 &&& (2147483647 : Int32)) % (7 : Int32)) + ((p2 &&& (2147483647 : Int32)) % ((7 : Int32) - ((p1 &&& (2147483647 : Int32)) % (7 : Int32)))))), .unset, .unset, .unset, .unset] [(.int ((f0_u8) (p3 &&& (7 : Int32))))])) t
        refine XS.goto X26.here hx rfl (pc0 := 86) (pc' := 91) rfl (hb hby at_86) (by decide) (by decide) ?_
        show Steps p.tables e below (T26.setTop (mkF m 91 #[.val (.int p1), .val (.int p2), .val (.int p3), .val (.int p4), .val (.int p5), .val (.ref b2), .val (.int ((p1 &&& (2147483647 : Int32)) % (7 : Int32))), .val (.int (((p1 &&& (2147483647 : Int32)) % (7 : Int32)) + ((p2 &&& (2147483647 : Int32)) % ((7 : Int32) - ((p1 &&& (2147483647 : Int32)) % (7 : Int32)))))), .unset, .unset, .unset, .unset] [(.int ((f0_u8) (p3 &&& (7 : Int32))))])) t
        exact k
      rw [show (f0_u9 p3) = ((f0_u8) (p3 &&& (7 : Int32))) from if_pos hc29] at k
      exact K30 _ (K35 _ (K36 _ (k)))
    · have K37 : ∀ t, Steps p.tables e below (T26.setTop (mkF m 89 #[.val (.int p1), .val (.int p2), .val (.int p3), .val (.int p4), .val (.int p5), .val (.ref b2), .val (.int ((p1 &&& (2147483647 : Int32)) % (7 : Int32))), .val (.int (((p1 &&& (2147483647 : Int32)) % (7 : Int32)) + ((p2 &&& (2147483647 : Int32)) % ((7 : Int32) - ((p1 &&& (2147483647 : Int32)) % (7 : Int32)))))), .unset, .unset, .unset, .unset] [])) t → Steps p.tables e below (T26.setTop (mkF m 76 #[.val (.int p1), .val (.int p2), .val (.int p3), .val (.int p4), .val (.int p5), .val (.ref b2), .val (.int ((p1 &&& (2147483647 : Int32)) % (7 : Int32))), .val (.int (((p1 &&& (2147483647 : Int32)) % (7 : Int32)) + ((p2 &&& (2147483647 : Int32)) % ((7 : Int32) - ((p1 &&& (2147483647 : Int32)) % (7 : Int32)))))), .unset, .unset, .unset, .unset] [(.int (p3 &&& (65536 : Int32)))])) t := by
        intro t k
        refine XS.ifYes X26.here hx rfl (pc0 := 76) (pc' := 89) rfl (hb hby at_76) rfl ((if0 _ _).trans (feq hc29).2) (by decide) (by decide) ?_
        exact k
      have K38 : ∀ t, Steps p.tables e below (T26.setTop (mkF m 91 #[.val (.int p1), .val (.int p2), .val (.int p3), .val (.int p4), .val (.int p5), .val (.ref b2), .val (.int ((p1 &&& (2147483647 : Int32)) % (7 : Int32))), .val (.int (((p1 &&& (2147483647 : Int32)) % (7 : Int32)) + ((p2 &&& (2147483647 : Int32)) % ((7 : Int32) - ((p1 &&& (2147483647 : Int32)) % (7 : Int32)))))), .unset, .unset, .unset, .unset] [(.int (p3.toUInt32.toUInt16.toUInt32.toInt32))])) t → Steps p.tables e below (T26.setTop (mkF m 89 #[.val (.int p1), .val (.int p2), .val (.int p3), .val (.int p4), .val (.int p5), .val (.ref b2), .val (.int ((p1 &&& (2147483647 : Int32)) % (7 : Int32))), .val (.int (((p1 &&& (2147483647 : Int32)) % (7 : Int32)) + ((p2 &&& (2147483647 : Int32)) % ((7 : Int32) - ((p1 &&& (2147483647 : Int32)) % (7 : Int32)))))), .unset, .unset, .unset, .unset] [])) t := by
        intro t k
        refine XS.iloadN X26.here hx rfl (hb hby at_89) rfl ?_
        show Steps p.tables e below (T26.setTop (mkF m 90 #[.val (.int p1), .val (.int p2), .val (.int p3), .val (.int p4), .val (.int p5), .val (.ref b2), .val (.int ((p1 &&& (2147483647 : Int32)) % (7 : Int32))), .val (.int (((p1 &&& (2147483647 : Int32)) % (7 : Int32)) + ((p2 &&& (2147483647 : Int32)) % ((7 : Int32) - ((p1 &&& (2147483647 : Int32)) % (7 : Int32)))))), .unset, .unset, .unset, .unset] [(.int p3)])) t
        refine XS.i2c X26.here hx rfl (hb hby at_90) rfl ?_
        show Steps p.tables e below (T26.setTop (mkF m 91 #[.val (.int p1), .val (.int p2), .val (.int p3), .val (.int p4), .val (.int p5), .val (.ref b2), .val (.int ((p1 &&& (2147483647 : Int32)) % (7 : Int32))), .val (.int (((p1 &&& (2147483647 : Int32)) % (7 : Int32)) + ((p2 &&& (2147483647 : Int32)) % ((7 : Int32) - ((p1 &&& (2147483647 : Int32)) % (7 : Int32)))))), .unset, .unset, .unset, .unset] [(.int (p3.toUInt32.toUInt16.toUInt32.toInt32))])) t
        exact k
      rw [show (f0_u9 p3) = (p3.toUInt32.toUInt16.toUInt32.toInt32) from if_neg hc29] at k
      exact K37 _ (K38 _ (k))
  have K39 : ∀ t, Steps p.tables e below (T26.setTop (mkF m 97 #[.val (.int p1), .val (.int p2), .val (.int p3), .val (.int p4), .val (.int p5), .val (.ref b2), .val (.int ((p1 &&& (2147483647 : Int32)) % (7 : Int32))), .val (.int (((p1 &&& (2147483647 : Int32)) % (7 : Int32)) + ((p2 &&& (2147483647 : Int32)) % ((7 : Int32) - ((p1 &&& (2147483647 : Int32)) % (7 : Int32)))))), .val (.int (f0_u9 p3)), .unset, .unset, .unset] [(.int (p4 &&& (65536 : Int32)))])) t → Steps p.tables e below (T26.setTop (mkF m 91 #[.val (.int p1), .val (.int p2), .val (.int p3), .val (.int p4), .val (.int p5), .val (.ref b2), .val (.int ((p1 &&& (2147483647 : Int32)) % (7 : Int32))), .val (.int (((p1 &&& (2147483647 : Int32)) % (7 : Int32)) + ((p2 &&& (2147483647 : Int32)) % ((7 : Int32) - ((p1 &&& (2147483647 : Int32)) % (7 : Int32)))))), .unset, .unset, .unset, .unset] [(.int (f0_u9 p3))])) t := by
    intro t k
    refine XS.istore X26.here hx rfl (hb hby at_91) rfl (l' := #[.val (.int p1), .val (.int p2), .val (.int p3), .val (.int p4), .val (.int p5), .val (.ref b2), .val (.int ((p1 &&& (2147483647 : Int32)) % (7 : Int32))), .val (.int (((p1 &&& (2147483647 : Int32)) % (7 : Int32)) + ((p2 &&& (2147483647 : Int32)) % ((7 : Int32) - ((p1 &&& (2147483647 : Int32)) % (7 : Int32)))))), .val (.int (f0_u9 p3)), .unset, .unset, .unset]) rfl ?_
    show Steps p.tables e below (T26.setTop (mkF m 93 #[.val (.int p1), .val (.int p2), .val (.int p3), .val (.int p4), .val (.int p5), .val (.ref b2), .val (.int ((p1 &&& (2147483647 : Int32)) % (7 : Int32))), .val (.int (((p1 &&& (2147483647 : Int32)) % (7 : Int32)) + ((p2 &&& (2147483647 : Int32)) % ((7 : Int32) - ((p1 &&& (2147483647 : Int32)) % (7 : Int32)))))), .val (.int (f0_u9 p3)), .unset, .unset, .unset] [])) t
    refine XS.iloadN X26.here hx rfl (hb hby at_93) rfl ?_
    show Steps p.tables e below (T26.setTop (mkF m 94 #[.val (.int p1), .val (.int p2), .val (.int p3), .val (.int p4), .val (.int p5), .val (.ref b2), .val (.int ((p1 &&& (2147483647 : Int32)) % (7 : Int32))), .val (.int (((p1 &&& (2147483647 : Int32)) % (7 : Int32)) + ((p2 &&& (2147483647 : Int32)) % ((7 : Int32) - ((p1 &&& (2147483647 : Int32)) % (7 : Int32)))))), .val (.int (f0_u9 p3)), .unset, .unset, .unset] [(.int p4)])) t
    refine X26.ldcInt hx hown (mvT hZ (hw _ (List.mem_of_getElem? (i := 2) rfl))) (g := (mkF m 94 #[.val (.int p1), .val (.int p2), .val (.int p3), .val (.int p4), .val (.int p5), .val (.ref b2), .val (.int ((p1 &&& (2147483647 : Int32)) % (7 : Int32))), .val (.int (((p1 &&& (2147483647 : Int32)) % (7 : Int32)) + ((p2 &&& (2147483647 : Int32)) % ((7 : Int32) - ((p1 &&& (2147483647 : Int32)) % (7 : Int32)))))), .val (.int (f0_u9 p3)), .unset, .unset, .unset] [(.int p4)])) rfl (hb hby at_94) _ ?_
    show Steps p.tables e below (T26.setTop (mkF m 96 #[.val (.int p1), .val (.int p2), .val (.int p3), .val (.int p4), .val (.int p5), .val (.ref b2), .val (.int ((p1 &&& (2147483647 : Int32)) % (7 : Int32))), .val (.int (((p1 &&& (2147483647 : Int32)) % (7 : Int32)) + ((p2 &&& (2147483647 : Int32)) % ((7 : Int32) - ((p1 &&& (2147483647 : Int32)) % (7 : Int32)))))), .val (.int (f0_u9 p3)), .unset, .unset, .unset] [(.int (65536 : Int32)), (.int p4)])) t
    refine XS.iand X26.here hx rfl (hb hby at_96) rfl ?_
    show Steps p.tables e below (T26.setTop (mkF m 97 #[.val (.int p1), .val (.int p2), .val (.int p3), .val (.int p4), .val (.int p5), .val (.ref b2), .val (.int ((p1 &&& (2147483647 : Int32)) % (7 : Int32))), .val (.int (((p1 &&& (2147483647 : Int32)) % (7 : Int32)) + ((p2 &&& (2147483647 : Int32)) % ((7 : Int32) - ((p1 &&& (2147483647 : Int32)) % (7 : Int32)))))), .val (.int (f0_u9 p3)), .unset, .unset, .unset] [(.int (p4 &&& (65536 : Int32)))])) t
    exact k
  have K40 : ∀ t, Steps p.tables e below (T26.setTop (mkF m 112 #[.val (.int p1), .val (.int p2), .val (.int p3), .val (.int p4), .val (.int p5), .val (.ref b2), .val (.int ((p1 &&& (2147483647 : Int32)) % (7 : Int32))), .val (.int (((p1 &&& (2147483647 : Int32)) % (7 : Int32)) + ((p2 &&& (2147483647 : Int32)) % ((7 : Int32) - ((p1 &&& (2147483647 : Int32)) % (7 : Int32)))))), .val (.int (f0_u9 p3)), .unset, .unset, .unset] [(.int (f0_u10 p4))])) t → Steps p.tables e below (T26.setTop (mkF m 97 #[.val (.int p1), .val (.int p2), .val (.int p3), .val (.int p4), .val (.int p5), .val (.ref b2), .val (.int ((p1 &&& (2147483647 : Int32)) % (7 : Int32))), .val (.int (((p1 &&& (2147483647 : Int32)) % (7 : Int32)) + ((p2 &&& (2147483647 : Int32)) % ((7 : Int32) - ((p1 &&& (2147483647 : Int32)) % (7 : Int32)))))), .val (.int (f0_u9 p3)), .unset, .unset, .unset] [(.int (p4 &&& (65536 : Int32)))])) t := by
    intro t k
    by_cases hc40 : (p4 &&& (65536 : Int32)) = (0 : Int32)
    · have K41 : ∀ t, Steps p.tables e below (T26.setTop (mkF m 100 #[.val (.int p1), .val (.int p2), .val (.int p3), .val (.int p4), .val (.int p5), .val (.ref b2), .val (.int ((p1 &&& (2147483647 : Int32)) % (7 : Int32))), .val (.int (((p1 &&& (2147483647 : Int32)) % (7 : Int32)) + ((p2 &&& (2147483647 : Int32)) % ((7 : Int32) - ((p1 &&& (2147483647 : Int32)) % (7 : Int32)))))), .val (.int (f0_u9 p3)), .unset, .unset, .unset] [])) t → Steps p.tables e below (T26.setTop (mkF m 97 #[.val (.int p1), .val (.int p2), .val (.int p3), .val (.int p4), .val (.int p5), .val (.ref b2), .val (.int ((p1 &&& (2147483647 : Int32)) % (7 : Int32))), .val (.int (((p1 &&& (2147483647 : Int32)) % (7 : Int32)) + ((p2 &&& (2147483647 : Int32)) % ((7 : Int32) - ((p1 &&& (2147483647 : Int32)) % (7 : Int32)))))), .val (.int (f0_u9 p3)), .unset, .unset, .unset] [(.int (p4 &&& (65536 : Int32)))])) t := by
        intro t k
        refine XS.ifNo X26.here hx rfl (hb hby at_97) rfl ((if0 _ _).trans (teq hc40).2) ?_
        exact k
      have K46 : ∀ t, Steps p.tables e below (T26.setTop (mkF m 106 #[.val (.int p1), .val (.int p2), .val (.int p3), .val (.int p4), .val (.int p5), .val (.ref b2), .val (.int ((p1 &&& (2147483647 : Int32)) % (7 : Int32))), .val (.int (((p1 &&& (2147483647 : Int32)) % (7 : Int32)) + ((p2 &&& (2147483647 : Int32)) % ((7 : Int32) - ((p1 &&& (2147483647 : Int32)) % (7 : Int32)))))), .val (.int (f0_u9 p3)), .unset, .unset, .unset] [(.int (p4 &&& (7 : Int32))), (.ref b2)])) t → Steps p.tables e below (T26.setTop (mkF m 100 #[.val (.int p1), .val (.int p2), .val (.int p3), .val (.int p4), .val (.int p5), .val (.ref b2), .val (.int ((p1 &&& (2147483647 : Int32)) % (7 : Int32))), .val (.int (((p1 &&& (2147483647 : Int32)) % (7 : Int32)) + ((p2 &&& (2147483647 : Int32)) % ((7 : Int32) - ((p1 &&& (2147483647 : Int32)) % (7 : Int32)))))), .val (.int (f0_u9 p3)), .unset, .unset, .unset] [])) t := by
        intro t k
        refine XS.aload X26.here hx rfl (hb hby at_100) rfl rfl ?_
        show Steps p.tables e below (T26.setTop (mkF m 102 #[.val (.int p1), .val (.int p2), .val (.int p3), .val (.int p4), .val (.int p5), .val (.ref b2), .val (.int ((p1 &&& (2147483647 : Int32)) % (7 : Int32))), .val (.int (((p1 &&& (2147483647 : Int32)) % (7 : Int32)) + ((p2 &&& (2147483647 : Int32)) % ((7 : Int32) - ((p1 &&& (2147483647 : Int32)) % (7 : Int32)))))), .val (.int (f0_u9 p3)), .unset, .unset, .unset] [(.ref b2)])) t
        refine XS.iloadN X26.here hx rfl (hb hby at_102) rfl ?_
        show Steps p.tables e below (T26.setTop (mkF m 103 #[.val (.int p1), .val (.int p2), .val (.int p3), .val (.int p4), .val (.int p5), .val (.ref b2), .val (.int ((p1 &&& (2147483647 : Int32)) % (7 : Int32))), .val (.int (((p1 &&& (2147483647 : Int32)) % (7 : Int32)) + ((p2 &&& (2147483647 : Int32)) % ((7 : Int32) - ((p1 &&& (2147483647 : Int32)) % (7 : Int32)))))), .val (.int (f0_u9 p3)), .unset, .unset, .unset] [(.int p4), (.ref b2)])) t
        refine XS.bipush X26.here hx rfl (hb hby at_103) ?_
        show Steps p.tables e below (T26.setTop (mkF m 105 #[.val (.int p1), .val (.int p2), .val (.int p3), .val (.int p4), .val (.int p5), .val (.ref b2), .val (.int ((p1 &&& (2147483647 : Int32)) % (7 : Int32))), .val (.int (((p1 &&& (2147483647 : Int32)) % (7 : Int32)) + ((p2 &&& (2147483647 : Int32)) % ((7 : Int32) - ((p1 &&& (2147483647 : Int32)) % (7 : Int32)))))), .val (.int (f0_u9 p3)), .unset, .unset, .unset] [(.int (7 : Int32)), (.int p4), (.ref b2)])) t
        refine XS.iand X26.here hx rfl (hb hby at_105) rfl ?_
        show Steps p.tables e below (T26.setTop (mkF m 106 #[.val (.int p1), .val (.int p2), .val (.int p3), .val (.int p4), .val (.int p5), .val (.ref b2), .val (.int ((p1 &&& (2147483647 : Int32)) % (7 : Int32))), .val (.int (((p1 &&& (2147483647 : Int32)) % (7 : Int32)) + ((p2 &&& (2147483647 : Int32)) % ((7 : Int32) - ((p1 &&& (2147483647 : Int32)) % (7 : Int32)))))), .val (.int (f0_u9 p3)), .unset, .unset, .unset] [(.int (p4 &&& (7 : Int32))), (.ref b2)])) t
        exact k
      have hin42 : ¬ (p4 &&& (7 : Int32)) < 0 ∧ (p4 &&& (7 : Int32)) < (8 : Int32) := by exact own_b7 _
      obtain ⟨cl43, Aq44, hjhin42, aq45⟩ := Ia.at Aw26 hin42
      have K47 : ∀ t, Steps p.tables e below (T26.setTop (mkF m 112 #[.val (.int p1), .val (.int p2), .val (.int p3), .val (.int p4), .val (.int p5), .val (.ref b2), .val (.int ((p1 &&& (2147483647 : Int32)) % (7 : Int32))), .val (.int (((p1 &&& (2147483647 : Int32)) % (7 : Int32)) + ((p2 &&& (2147483647 : Int32)) % ((7 : Int32) - ((p1 &&& (2147483647 : Int32)) % (7 : Int32)))))), .val (.int (f0_u9 p3)), .unset, .unset, .unset] [(.int ((f0_u8) (p4 &&& (7 : Int32))))])) t → Steps p.tables e below (T26.setTop (mkF m 106 #[.val (.int p1), .val (.int p2), .val (.int p3), .val (.int p4), .val (.int p5), .val (.ref b2), .val (.int ((p1 &&& (2147483647 : Int32)) % (7 : Int32))), .val (.int (((p1 &&& (2147483647 : Int32)) % (7 : Int32)) + ((p2 &&& (2147483647 : Int32)) % ((7 : Int32) - ((p1 &&& (2147483647 : Int32)) % (7 : Int32)))))), .val (.int (f0_u9 p3)), .unset, .unset, .unset] [(.int (p4 &&& (7 : Int32))), (.ref b2)])) t := by
        intro t k
        refine X26.caload hx (j := (p4 &&& (7 : Int32))) (v := .int ((f0_u8) (p4 &&& (7 : Int32)))) (by rw [e26]; exact Aq44.1) (State.isArrayOf_alike hZ.alike Aq44.2.1) Aq44.2.2 hjhin42 aq45 (g := (mkF m 106 #[.val (.int p1), .val (.int p2), .val (.int p3), .val (.int p4), .val (.int p5), .val (.ref b2), .val (.int ((p1 &&& (2147483647 : Int32)) % (7 : Int32))), .val (.int (((p1 &&& (2147483647 : Int32)) % (7 : Int32)) + ((p2 &&& (2147483647 : Int32)) % ((7 : Int32) - ((p1 &&& (2147483647 : Int32)) % (7 : Int32)))))), .val (.int (f0_u9 p3)), .unset, .unset, .unset] [(.int (p4 &&& (7 : Int32))), (.ref b2)])) rfl rfl (hb hby at_106) _ ?_
        show Steps p.tables e below (T26.setTop (mkF m 107 #[.val (.int p1), .val (.int p2), .val (.int p3), .val (.int p4), .val (.int p5), .val (.ref b2), .val (.int ((p1 &&& (2147483647 : Int32)) % (7 : Int32))), .val (.int (((p1 &&& (2147483647 : Int32)) % (7 : Int32)) + ((p2 &&& (2147483647 : Int32)) % ((7 : Int32) - ((p1 &&& (2147483647 : Int32)) % (7 : Int32)))))), .val (.int (f0_u9 p3)), .unset, .unset, .unset] [(.int ((f0_u8) (p4 &&& (7 : Int32))))])) t
        refine XS.goto X26.here hx rfl (pc0 := 107) (pc' := 112) rfl (hb hby at_107) (by decide) (by decide) ?_
        show Steps p.tables e below (T26.setTop (mkF m 112 #[.val (.int p1), .val (.int p2), .val (.int p3), .val (.int p4), .val (.int p5), .val (.ref b2), .val (.int ((p1 &&& (2147483647 : Int32)) % (7 : Int32))), .val (.int (((p1 &&& (2147483647 : Int32)) % (7 : Int32)) + ((p2 &&& (2147483647 : Int32)) % ((7 : Int32) - ((p1 &&& (2147483647 : Int32)) % (7 : Int32)))))), .val (.int (f0_u9 p3)), .unset, .unset, .unset] [(.int ((f0_u8) (p4 &&& (7 : Int32))))])) t
        exact k
      rw [show (f0_u10 p4) = ((f0_u8) (p4 &&& (7 : Int32))) from if_pos hc40] at k
      exact K41 _ (K46 _ (K47 _ (k)))
    · have K48 : ∀ t, Steps p.tables e below (T26.setTop (mkF m 110 #[.val (.int p1), .val (.int p2), .val (.int p3), .val (.int p4), .val (.int p5), .val (.ref b2), .val (.int ((p1 &&& (2147483647 : Int32)) % (7 : Int32))), .val (.int (((p1 &&& (2147483647 : Int32)) % (7 : Int32)) + ((p2 &&& (2147483647 : Int32)) % ((7 : Int32) - ((p1 &&& (2147483647 : Int32)) % (7 : Int32)))))), .val (.int (f0_u9 p3)), .unset, .unset, .unset] [])) t → Steps p.tables e below (T26.setTop (mkF m 97 #[.val (.int p1), .val (.int p2), .val (.int p3), .val (.int p4), .val (.int p5), .val (.ref b2), .val (.int ((p1 &&& (2147483647 : Int32)) % (7 : Int32))), .val (.int (((p1 &&& (2147483647 : Int32)) % (7 : Int32)) + ((p2 &&& (2147483647 : Int32)) % ((7 : Int32) - ((p1 &&& (2147483647 : Int32)) % (7 : Int32)))))), .val (.int (f0_u9 p3)), .unset, .unset, .unset] [(.int (p4 &&& (65536 : Int32)))])) t := by
        intro t k
        refine XS.ifYes X26.here hx rfl (pc0 := 97) (pc' := 110) rfl (hb hby at_97) rfl ((if0 _ _).trans (feq hc40).2) (by decide) (by decide) ?_
        exact k
      have K49 : ∀ t, Steps p.tables e below (T26.setTop (mkF m 112 #[.val (.int p1), .val (.int p2), .val (.int p3), .val (.int p4), .val (.int p5), .val (.ref b2), .val (.int ((p1 &&& (2147483647 : Int32)) % (7 : Int32))), .val (.int (((p1 &&& (2147483647 : Int32)) % (7 : Int32)) + ((p2 &&& (2147483647 : Int32)) % ((7 : Int32) - ((p1 &&& (2147483647 : Int32)) % (7 : Int32)))))), .val (.int (f0_u9 p3)), .unset, .unset, .unset] [(.int (p4.toUInt32.toUInt16.toUInt32.toInt32))])) t → Steps p.tables e below (T26.setTop (mkF m 110 #[.val (.int p1), .val (.int p2), .val (.int p3), .val (.int p4), .val (.int p5), .val (.ref b2), .val (.int ((p1 &&& (2147483647 : Int32)) % (7 : Int32))), .val (.int (((p1 &&& (2147483647 : Int32)) % (7 : Int32)) + ((p2 &&& (2147483647 : Int32)) % ((7 : Int32) - ((p1 &&& (2147483647 : Int32)) % (7 : Int32)))))), .val (.int (f0_u9 p3)), .unset, .unset, .unset] [])) t := by
        intro t k
        refine XS.iloadN X26.here hx rfl (hb hby at_110) rfl ?_
        show Steps p.tables e below (T26.setTop (mkF m 111 #[.val (.int p1), .val (.int p2), .val (.int p3), .val (.int p4), .val (.int p5), .val (.ref b2), .val (.int ((p1 &&& (2147483647 : Int32)) % (7 : Int32))), .val (.int (((p1 &&& (2147483647 : Int32)) % (7 : Int32)) + ((p2 &&& (2147483647 : Int32)) % ((7 : Int32) - ((p1 &&& (2147483647 : Int32)) % (7 : Int32)))))), .val (.int (f0_u9 p3)), .unset, .unset, .unset] [(.int p4)])) t
        refine XS.i2c X26.here hx rfl (hb hby at_111) rfl ?_
        show Steps p.tables e below (T26.setTop (mkF m 112 #[.val (.int p1), .val (.int p2), .val (.int p3), .val (.int p4), .val (.int p5), .val (.ref b2), .val (.int ((p1 &&& (2147483647 : Int32)) % (7 : Int32))), .val (.int (((p1 &&& (2147483647 : Int32)) % (7 : Int32)) + ((p2 &&& (2147483647 : Int32)) % ((7 : Int32) - ((p1 &&& (2147483647 : Int32)) % (7 : Int32)))))), .val (.int (f0_u9 p3)), .unset, .unset, .unset] [(.int (p4.toUInt32.toUInt16.toUInt32.toInt32))])) t
        exact k
      rw [show (f0_u10 p4) = (p4.toUInt32.toUInt16.toUInt32.toInt32) from if_neg hc40] at k
      exact K48 _ (K49 _ (k))
  have K50 : ∀ t, Steps p.tables e below (T26.setTop (mkF m 116 #[.val (.int p1), .val (.int p2), .val (.int p3), .val (.int p4), .val (.int p5), .val (.ref b2), .val (.int ((p1 &&& (2147483647 : Int32)) % (7 : Int32))), .val (.int (((p1 &&& (2147483647 : Int32)) % (7 : Int32)) + ((p2 &&& (2147483647 : Int32)) % ((7 : Int32) - ((p1 &&& (2147483647 : Int32)) % (7 : Int32)))))), .val (.int (f0_u9 p3)), .val (.int (f0_u10 p4)), .unset, .unset] [(.int (6 : Int32))])) t → Steps p.tables e below (T26.setTop (mkF m 112 #[.val (.int p1), .val (.int p2), .val (.int p3), .val (.int p4), .val (.int p5), .val (.ref b2), .val (.int ((p1 &&& (2147483647 : Int32)) % (7 : Int32))), .val (.int (((p1 &&& (2147483647 : Int32)) % (7 : Int32)) + ((p2 &&& (2147483647 : Int32)) % ((7 : Int32) - ((p1 &&& (2147483647 : Int32)) % (7 : Int32)))))), .val (.int (f0_u9 p3)), .unset, .unset, .unset] [(.int (f0_u10 p4))])) t := by
    intro t k
    refine XS.istore X26.here hx rfl (hb hby at_112) rfl (l' := #[.val (.int p1), .val (.int p2), .val (.int p3), .val (.int p4), .val (.int p5), .val (.ref b2), .val (.int ((p1 &&& (2147483647 : Int32)) % (7 : Int32))), .val (.int (((p1 &&& (2147483647 : Int32)) % (7 : Int32)) + ((p2 &&& (2147483647 : Int32)) % ((7 : Int32) - ((p1 &&& (2147483647 : Int32)) % (7 : Int32)))))), .val (.int (f0_u9 p3)), .val (.int (f0_u10 p4)), .unset, .unset]) rfl ?_
    show Steps p.tables e below (T26.setTop (mkF m 114 #[.val (.int p1), .val (.int p2), .val (.int p3), .val (.int p4), .val (.int p5), .val (.ref b2), .val (.int ((p1 &&& (2147483647 : Int32)) % (7 : Int32))), .val (.int (((p1 &&& (2147483647 : Int32)) % (7 : Int32)) + ((p2 &&& (2147483647 : Int32)) % ((7 : Int32) - ((p1 &&& (2147483647 : Int32)) % (7 : Int32)))))), .val (.int (f0_u9 p3)), .val (.int (f0_u10 p4)), .unset, .unset] [])) t
    refine XS.bipush X26.here hx rfl (hb hby at_114) ?_
    show Steps p.tables e below (T26.setTop (mkF m 116 #[.val (.int p1), .val (.int p2), .val (.int p3), .val (.int p4), .val (.int p5), .val (.ref b2), .val (.int ((p1 &&& (2147483647 : Int32)) % (7 : Int32))), .val (.int (((p1 &&& (2147483647 : Int32)) % (7 : Int32)) + ((p2 &&& (2147483647 : Int32)) % ((7 : Int32) - ((p1 &&& (2147483647 : Int32)) % (7 : Int32)))))), .val (.int (f0_u9 p3)), .val (.int (f0_u10 p4)), .unset, .unset] [(.int (6 : Int32))])) t
    exact k
  obtain ⟨T51, h51, k51, X51, e51, E51, A51, st51⟩ := newP X26 hx hZ (hw _ (List.mem_of_getElem? (i := 0) rfl)) e26 (g := (mkF m 116 #[.val (.int p1), .val (.int p2), .val (.int p3), .val (.int p4), .val (.int p5), .val (.ref b2), .val (.int ((p1 &&& (2147483647 : Int32)) % (7 : Int32))), .val (.int (((p1 &&& (2147483647 : Int32)) % (7 : Int32)) + ((p2 &&& (2147483647 : Int32)) % ((7 : Int32) - ((p1 &&& (2147483647 : Int32)) % (7 : Int32)))))), .val (.int (f0_u9 p3)), .val (.int (f0_u10 p4)), .unset, .unset] [(.int (6 : Int32))])) rfl (hb hby at_116) rfl (by decide) (cap := 6) (by decide) (by decide) (by decide) (by decide)
  obtain ⟨b51, g51⟩ : ∃ z, z = h26.size := ⟨_, rfl⟩
  rw [← g51] at A51 st51
  have KP51 : Keep h0 h51 [] := KP26.ext E51
  have A51_0 : Ia Z h51 b2 .char (8 : Int32) (f0_u8) := Aw26.ext E51
  have ne51_0 : b2 ≠ b51 := Nat.ne_of_lt (Nat.lt_of_lt_of_le Aw26.lt (Nat.le_of_eq g51.symm))
  have gb_b51 : n0 ≤ b51 := Nat.le_trans (Nat.le_trans Z0 KP26.1) (Nat.le_of_eq g51.symm)
  have sz_b51 : h0.size ≤ b51 := Nat.le_trans KP26.1 (Nat.le_of_eq g51.symm)
  have V51 : Ia Z h51 b51 .char (6 : Int32) (fun _ => 0) := Ia.new A51 (by decide) rfl
  have K52 : ∀ t, Steps p.tables e below (T51.setTop (mkF m 118 #[.val (.int p1), .val (.int p2), .val (.int p3), .val (.int p4), .val (.int p5), .val (.ref b2), .val (.int ((p1 &&& (2147483647 : Int32)) % (7 : Int32))), .val (.int (((p1 &&& (2147483647 : Int32)) % (7 : Int32)) + ((p2 &&& (2147483647 : Int32)) % ((7 : Int32) - ((p1 &&& (2147483647 : Int32)) % (7 : Int32)))))), .val (.int (f0_u9 p3)), .val (.int (f0_u10 p4)), .unset, .unset] [(.ref b51)])) t → Steps p.tables e below (T26.setTop (mkF m 116 #[.val (.int p1), .val (.int p2), .val (.int p3), .val (.int p4), .val (.int p5), .val (.ref b2), .val (.int ((p1 &&& (2147483647 : Int32)) % (7 : Int32))), .val (.int (((p1 &&& (2147483647 : Int32)) % (7 : Int32)) + ((p2 &&& (2147483647 : Int32)) % ((7 : Int32) - ((p1 &&& (2147483647 : Int32)) % (7 : Int32)))))), .val (.int (f0_u9 p3)), .val (.int (f0_u10 p4)), .unset, .unset] [(.int (6 : Int32))])) t := fun t k => st51 _ k
  have K57 : ∀ t, Steps p.tables e below (T51.setTop (mkF m 130 #[.val (.int p1), .val (.int p2), .val (.int p3), .val (.int p4), .val (.int p5), .val (.ref b2), .val (.int ((p1 &&& (2147483647 : Int32)) % (7 : Int32))), .val (.int (((p1 &&& (2147483647 : Int32)) % (7 : Int32)) + ((p2 &&& (2147483647 : Int32)) % ((7 : Int32) - ((p1 &&& (2147483647 : Int32)) % (7 : Int32)))))), .val (.int (f0_u9 p3)), .val (.int (f0_u10 p4)), .val (.ref b51), .unset] [(.int (p5 &&& (7 : Int32))), (.ref b2), (.int (0 : Int32)), (.ref b51)])) t → Steps p.tables e below (T51.setTop (mkF m 118 #[.val (.int p1), .val (.int p2), .val (.int p3), .val (.int p4), .val (.int p5), .val (.ref b2), .val (.int ((p1 &&& (2147483647 : Int32)) % (7 : Int32))), .val (.int (((p1 &&& (2147483647 : Int32)) % (7 : Int32)) + ((p2 &&& (2147483647 : Int32)) % ((7 : Int32) - ((p1 &&& (2147483647 : Int32)) % (7 : Int32)))))), .val (.int (f0_u9 p3)), .val (.int (f0_u10 p4)), .unset, .unset] [(.ref b51)])) t := by
    intro t k
    refine XS.astore X51.here hx rfl (hb hby at_118) rfl rfl (l' := #[.val (.int p1), .val (.int p2), .val (.int p3), .val (.int p4), .val (.int p5), .val (.ref b2), .val (.int ((p1 &&& (2147483647 : Int32)) % (7 : Int32))), .val (.int (((p1 &&& (2147483647 : Int32)) % (7 : Int32)) + ((p2 &&& (2147483647 : Int32)) % ((7 : Int32) - ((p1 &&& (2147483647 : Int32)) % (7 : Int32)))))), .val (.int (f0_u9 p3)), .val (.int (f0_u10 p4)), .val (.ref b51), .unset]) rfl ?_
    show Steps p.tables e below (T51.setTop (mkF m 120 #[.val (.int p1), .val (.int p2), .val (.int p3), .val (.int p4), .val (.int p5), .val (.ref b2), .val (.int ((p1 &&& (2147483647 : Int32)) % (7 : Int32))), .val (.int (((p1 &&& (2147483647 : Int32)) % (7 : Int32)) + ((p2 &&& (2147483647 : Int32)) % ((7 : Int32) - ((p1 &&& (2147483647 : Int32)) % (7 : Int32)))))), .val (.int (f0_u9 p3)), .val (.int (f0_u10 p4)), .val (.ref b51), .unset] [])) t
    refine XS.aload X51.here hx rfl (hb hby at_120) rfl rfl ?_
    show Steps p.tables e below (T51.setTop (mkF m 122 #[.val (.int p1), .val (.int p2), .val (.int p3), .val (.int p4), .val (.int p5), .val (.ref b2), .val (.int ((p1 &&& (2147483647 : Int32)) % (7 : Int32))), .val (.int (((p1 &&& (2147483647 : Int32)) % (7 : Int32)) + ((p2 &&& (2147483647 : Int32)) % ((7 : Int32) - ((p1 &&& (2147483647 : Int32)) % (7 : Int32)))))), .val (.int (f0_u9 p3)), .val (.int (f0_u10 p4)), .val (.ref b51), .unset] [(.ref b51)])) t
    refine XS.iconst X51.here hx rfl (hb hby at_122) ?_
    show Steps p.tables e below (T51.setTop (mkF m 123 #[.val (.int p1), .val (.int p2), .val (.int p3), .val (.int p4), .val (.int p5), .val (.ref b2), .val (.int ((p1 &&& (2147483647 : Int32)) % (7 : Int32))), .val (.int (((p1 &&& (2147483647 : Int32)) % (7 : Int32)) + ((p2 &&& (2147483647 : Int32)) % ((7 : Int32) - ((p1 &&& (2147483647 : Int32)) % (7 : Int32)))))), .val (.int (f0_u9 p3)), .val (.int (f0_u10 p4)), .val (.ref b51), .unset] [(.int (0 : Int32)), (.ref b51)])) t
    refine XS.aload X51.here hx rfl (hb hby at_123) rfl rfl ?_
    show Steps p.tables e below (T51.setTop (mkF m 125 #[.val (.int p1), .val (.int p2), .val (.int p3), .val (.int p4), .val (.int p5), .val (.ref b2), .val (.int ((p1 &&& (2147483647 : Int32)) % (7 : Int32))), .val (.int (((p1 &&& (2147483647 : Int32)) % (7 : Int32)) + ((p2 &&& (2147483647 : Int32)) % ((7 : Int32) - ((p1 &&& (2147483647 : Int32)) % (7 : Int32)))))), .val (.int (f0_u9 p3)), .val (.int (f0_u10 p4)), .val (.ref b51), .unset] [(.ref b2), (.int (0 : Int32)), (.ref b51)])) t
    refine XS.iload X51.here hx rfl (hb hby at_125) rfl ?_
    show Steps p.tables e below (T51.setTop (mkF m 127 #[.val (.int p1), .val (.int p2), .val (.int p3), .val (.int p4), .val (.int p5), .val (.ref b2), .val (.int ((p1 &&& (2147483647 : Int32)) % (7 : Int32))), .val (.int (((p1 &&& (2147483647 : Int32)) % (7 : Int32)) + ((p2 &&& (2147483647 : Int32)) % ((7 : Int32) - ((p1 &&& (2147483647 : Int32)) % (7 : Int32)))))), .val (.int (f0_u9 p3)), .val (.int (f0_u10 p4)), .val (.ref b51), .unset] [(.int p5), (.ref b2), (.int (0 : Int32)), (.ref b51)])) t
    refine XS.bipush X51.here hx rfl (hb hby at_127) ?_
    show Steps p.tables e below (T51.setTop (mkF m 129 #[.val (.int p1), .val (.int p2), .val (.int p3), .val (.int p4), .val (.int p5), .val (.ref b2), .val (.int ((p1 &&& (2147483647 : Int32)) % (7 : Int32))), .val (.int (((p1 &&& (2147483647 : Int32)) % (7 : Int32)) + ((p2 &&& (2147483647 : Int32)) % ((7 : Int32) - ((p1 &&& (2147483647 : Int32)) % (7 : Int32)))))), .val (.int (f0_u9 p3)), .val (.int (f0_u10 p4)), .val (.ref b51), .unset] [(.int (7 : Int32)), (.int p5), (.ref b2), (.int (0 : Int32)), (.ref b51)])) t
    refine XS.iand X51.here hx rfl (hb hby at_129) rfl ?_
    show Steps p.tables e below (T51.setTop (mkF m 130 #[.val (.int p1), .val (.int p2), .val (.int p3), .val (.int p4), .val (.int p5), .val (.ref b2), .val (.int ((p1 &&& (2147483647 : Int32)) % (7 : Int32))), .val (.int (((p1 &&& (2147483647 : Int32)) % (7 : Int32)) + ((p2 &&& (2147483647 : Int32)) % ((7 : Int32) - ((p1 &&& (2147483647 : Int32)) % (7 : Int32)))))), .val (.int (f0_u9 p3)), .val (.int (f0_u10 p4)), .val (.ref b51), .unset] [(.int (p5 &&& (7 : Int32))), (.ref b2), (.int (0 : Int32)), (.ref b51)])) t
    exact k
  have hin53 : ¬ (p5 &&& (7 : Int32)) < 0 ∧ (p5 &&& (7 : Int32)) < (8 : Int32) := by exact own_b7 _
  obtain ⟨cl54, Aq55, hjhin53, aq56⟩ := Ia.at A51_0 hin53
  have K58 : ∀ t, Steps p.tables e below (T51.setTop (mkF m 131 #[.val (.int p1), .val (.int p2), .val (.int p3), .val (.int p4), .val (.int p5), .val (.ref b2), .val (.int ((p1 &&& (2147483647 : Int32)) % (7 : Int32))), .val (.int (((p1 &&& (2147483647 : Int32)) % (7 : Int32)) + ((p2 &&& (2147483647 : Int32)) % ((7 : Int32) - ((p1 &&& (2147483647 : Int32)) % (7 : Int32)))))), .val (.int (f0_u9 p3)), .val (.int (f0_u10 p4)), .val (.ref b51), .unset] [(.int ((f0_u8) (p5 &&& (7 : Int32)))), (.int (0 : Int32)), (.ref b51)])) t → Steps p.tables e below (T51.setTop (mkF m 130 #[.val (.int p1), .val (.int p2), .val (.int p3), .val (.int p4), .val (.int p5), .val (.ref b2), .val (.int ((p1 &&& (2147483647 : Int32)) % (7 : Int32))), .val (.int (((p1 &&& (2147483647 : Int32)) % (7 : Int32)) + ((p2 &&& (2147483647 : Int32)) % ((7 : Int32) - ((p1 &&& (2147483647 : Int32)) % (7 : Int32)))))), .val (.int (f0_u9 p3)), .val (.int (f0_u10 p4)), .val (.ref b51), .unset] [(.int (p5 &&& (7 : Int32))), (.ref b2), (.int (0 : Int32)), (.ref b51)])) t := by
    intro t k
    refine X51.caload hx (j := (p5 &&& (7 : Int32))) (v := .int ((f0_u8) (p5 &&& (7 : Int32)))) (by rw [e51]; exact Aq55.1) (State.isArrayOf_alike hZ.alike Aq55.2.1) Aq55.2.2 hjhin53 aq56 (g := (mkF m 130 #[.val (.int p1), .val (.int p2), .val (.int p3), .val (.int p4), .val (.int p5), .val (.ref b2), .val (.int ((p1 &&& (2147483647 : Int32)) % (7 : Int32))), .val (.int (((p1 &&& (2147483647 : Int32)) % (7 : Int32)) + ((p2 &&& (2147483647 : Int32)) % ((7 : Int32) - ((p1 &&& (2147483647 : Int32)) % (7 : Int32)))))), .val (.int (f0_u9 p3)), .val (.int (f0_u10 p4)), .val (.ref b51), .unset] [(.int (p5 &&& (7 : Int32))), (.ref b2), (.int (0 : Int32)), (.ref b51)])) rfl rfl (hb hby at_130) _ ?_
    show Steps p.tables e below (T51.setTop (mkF m 131 #[.val (.int p1), .val (.int p2), .val (.int p3), .val (.int p4), .val (.int p5), .val (.ref b2), .val (.int ((p1 &&& (2147483647 : Int32)) % (7 : Int32))), .val (.int (((p1 &&& (2147483647 : Int32)) % (7 : Int32)) + ((p2 &&& (2147483647 : Int32)) % ((7 : Int32) - ((p1 &&& (2147483647 : Int32)) % (7 : Int32)))))), .val (.int (f0_u9 p3)), .val (.int (f0_u10 p4)), .val (.ref b51), .unset] [(.int ((f0_u8) (p5 &&& (7 : Int32)))), (.int (0 : Int32)), (.ref b51)])) t
    exact k
  have hin59 : ¬ (0 : Int32) < 0 ∧ (0 : Int32) < (6 : Int32) := by exact ⟨by decide, by decide⟩
  obtain ⟨cl59, Aq59, hj59, aq59⟩ := Ia.at V51 hin59
  obtain ⟨T59, h59, X59, e59, W59, st59⟩ := stC X51 hx hZ e51 Aq59 (j := (0 : Int32)) hj59 (g := (mkF m 131 #[.val (.int p1), .val (.int p2), .val (.int p3), .val (.int p4), .val (.int p5), .val (.ref b2), .val (.int ((p1 &&& (2147483647 : Int32)) % (7 : Int32))), .val (.int (((p1 &&& (2147483647 : Int32)) % (7 : Int32)) + ((p2 &&& (2147483647 : Int32)) % ((7 : Int32) - ((p1 &&& (2147483647 : Int32)) % (7 : Int32)))))), .val (.int (f0_u9 p3)), .val (.int (f0_u10 p4)), .val (.ref b51), .unset] [(.int ((f0_u8) (p5 &&& (7 : Int32)))), (.int (0 : Int32)), (.ref b51)])) rfl rfl (hb hby at_131)
  have KP59 : Keep h0 h59 [] := KP51.wr W59 (Or.inr sz_b51)
  have N59 := Fr.snoc X59 N26 gb_b51
  have A59_0 : Ia Z h59 b2 .char (8 : Int32) (f0_u8) := A51_0.other W59 ne51_0
  have Aw59 : Ia Z h59 b51 .char (6 : Int32) (f0_u11 p5) := V51.set W59 hin59.1
  have K60 : ∀ t, Steps p.tables e below (T59.setTop (mkF m 132 #[.val (.int p1), .val (.int p2), .val (.int p3), .val (.int p4), .val (.int p5), .val (.ref b2), .val (.int ((p1 &&& (2147483647 : Int32)) % (7 : Int32))), .val (.int (((p1 &&& (2147483647 : Int32)) % (7 : Int32)) + ((p2 &&& (2147483647 : Int32)) % ((7 : Int32) - ((p1 &&& (2147483647 : Int32)) % (7 : Int32)))))), .val (.int (f0_u9 p3)), .val (.int (f0_u10 p4)), .val (.ref b51), .unset] [])) t → Steps p.tables e below (T51.setTop (mkF m 131 #[.val (.int p1), .val (.int p2), .val (.int p3), .val (.int p4), .val (.int p5), .val (.ref b2), .val (.int ((p1 &&& (2147483647 : Int32)) % (7 : Int32))), .val (.int (((p1 &&& (2147483647 : Int32)) % (7 : Int32)) + ((p2 &&& (2147483647 : Int32)) % ((7 : Int32) - ((p1 &&& (2147483647 : Int32)) % (7 : Int32)))))), .val (.int (f0_u9 p3)), .val (.int (f0_u10 p4)), .val (.ref b51), .unset] [(.int ((f0_u8) (p5 &&& (7 : Int32)))), (.int (0 : Int32)), (.ref b51)])) t := fun t k => st59 _ k
  have K65 : ∀ t, Steps p.tables e below (T59.setTop (mkF m 144 #[.val (.int p1), .val (.int p2), .val (.int p3), .val (.int p4), .val (.int p5), .val (.ref b2), .val (.int ((p1 &&& (2147483647 : Int32)) % (7 : Int32))), .val (.int (((p1 &&& (2147483647 : Int32)) % (7 : Int32)) + ((p2 &&& (2147483647 : Int32)) % ((7 : Int32) - ((p1 &&& (2147483647 : Int32)) % (7 : Int32)))))), .val (.int (f0_u9 p3)), .val (.int (f0_u10 p4)), .val (.ref b51), .unset] [(.int (((p5.toUInt32 >>> ((3 : Int32) &&& 31).toUInt32).toInt32) &&& (7 : Int32))), (.ref b2), (.int (1 : Int32)), (.ref b51)])) t → Steps p.tables e below (T59.setTop (mkF m 132 #[.val (.int p1), .val (.int p2), .val (.int p3), .val (.int p4), .val (.int p5), .val (.ref b2), .val (.int ((p1 &&& (2147483647 : Int32)) % (7 : Int32))), .val (.int (((p1 &&& (2147483647 : Int32)) % (7 : Int32)) + ((p2 &&& (2147483647 : Int32)) % ((7 : Int32) - ((p1 &&& (2147483647 : Int32)) % (7 : Int32)))))), .val (.int (f0_u9 p3)), .val (.int (f0_u10 p4)), .val (.ref b51), .unset] [])) t := by
    intro t k
    refine XS.aload X59.here hx rfl (hb hby at_132) rfl rfl ?_
    show Steps p.tables e below (T59.setTop (mkF m 134 #[.val (.int p1), .val (.int p2), .val (.int p3), .val (.int p4), .val (.int p5), .val (.ref b2), .val (.int ((p1 &&& (2147483647 : Int32)) % (7 : Int32))), .val (.int (((p1 &&& (2147483647 : Int32)) % (7 : Int32)) + ((p2 &&& (2147483647 : Int32)) % ((7 : Int32) - ((p1 &&& (2147483647 : Int32)) % (7 : Int32)))))), .val (.int (f0_u9 p3)), .val (.int (f0_u10 p4)), .val (.ref b51), .unset] [(.ref b51)])) t
    refine XS.iconst X59.here hx rfl (hb hby at_134) ?_
    show Steps p.tables e below (T59.setTop (mkF m 135 #[.val (.int p1), .val (.int p2), .val (.int p3), .val (.int p4), .val (.int p5), .val (.ref b2), .val (.int ((p1 &&& (2147483647 : Int32)) % (7 : Int32))), .val (.int (((p1 &&& (2147483647 : Int32)) % (7 : Int32)) + ((p2 &&& (2147483647 : Int32)) % ((7 : Int32) - ((p1 &&& (2147483647 : Int32)) % (7 : Int32)))))), .val (.int (f0_u9 p3)), .val (.int (f0_u10 p4)), .val (.ref b51), .unset] [(.int (1 : Int32)), (.ref b51)])) t
    refine XS.aload X59.here hx rfl (hb hby at_135) rfl rfl ?_
    show Steps p.tables e below (T59.setTop (mkF m 137 #[.val (.int p1), .val (.int p2), .val (.int p3), .val (.int p4), .val (.int p5), .val (.ref b2), .val (.int ((p1 &&& (2147483647 : Int32)) % (7 : Int32))), .val (.int (((p1 &&& (2147483647 : Int32)) % (7 : Int32)) + ((p2 &&& (2147483647 : Int32)) % ((7 : Int32) - ((p1 &&& (2147483647 : Int32)) % (7 : Int32)))))), .val (.int (f0_u9 p3)), .val (.int (f0_u10 p4)), .val (.ref b51), .unset] [(.ref b2), (.int (1 : Int32)), (.ref b51)])) t
    refine XS.iload X59.here hx rfl (hb hby at_137) rfl ?_
    show Steps p.tables e below (T59.setTop (mkF m 139 #[.val (.int p1), .val (.int p2), .val (.int p3), .val (.int p4), .val (.int p5), .val (.ref b2), .val (.int ((p1 &&& (2147483647 : Int32)) % (7 : Int32))), .val (.int (((p1 &&& (2147483647 : Int32)) % (7 : Int32)) + ((p2 &&& (2147483647 : Int32)) % ((7 : Int32) - ((p1 &&& (2147483647 : Int32)) % (7 : Int32)))))), .val (.int (f0_u9 p3)), .val (.int (f0_u10 p4)), .val (.ref b51), .unset] [(.int p5), (.ref b2), (.int (1 : Int32)), (.ref b51)])) t
    refine XS.iconst X59.here hx rfl (hb hby at_139) ?_
    show Steps p.tables e below (T59.setTop (mkF m 140 #[.val (.int p1), .val (.int p2), .val (.int p3), .val (.int p4), .val (.int p5), .val (.ref b2), .val (.int ((p1 &&& (2147483647 : Int32)) % (7 : Int32))), .val (.int (((p1 &&& (2147483647 : Int32)) % (7 : Int32)) + ((p2 &&& (2147483647 : Int32)) % ((7 : Int32) - ((p1 &&& (2147483647 : Int32)) % (7 : Int32)))))), .val (.int (f0_u9 p3)), .val (.int (f0_u10 p4)), .val (.ref b51), .unset] [(.int (3 : Int32)), (.int p5), (.ref b2), (.int (1 : Int32)), (.ref b51)])) t
    refine XS.iushr X59.here hx rfl (hb hby at_140) rfl ?_
    show Steps p.tables e below (T59.setTop (mkF m 141 #[.val (.int p1), .val (.int p2), .val (.int p3), .val (.int p4), .val (.int p5), .val (.ref b2), .val (.int ((p1 &&& (2147483647 : Int32)) % (7 : Int32))), .val (.int (((p1 &&& (2147483647 : Int32)) % (7 : Int32)) + ((p2 &&& (2147483647 : Int32)) % ((7 : Int32) - ((p1 &&& (2147483647 : Int32)) % (7 : Int32)))))), .val (.int (f0_u9 p3)), .val (.int (f0_u10 p4)), .val (.ref b51), .unset] [(.int ((p5.toUInt32 >>> ((3 : Int32) &&& 31).toUInt32).toInt32)), (.ref b2), (.int (1 : Int32)), (.ref b51)])) t
    refine XS.bipush X59.here hx rfl (hb hby at_141) ?_
    show Steps p.tables e below (T59.setTop (mkF m 143 #[.val (.int p1), .val (.int p2), .val (.int p3), .val (.int p4), .val (.int p5), .val (.ref b2), .val (.int ((p1 &&& (2147483647 : Int32)) % (7 : Int32))), .val (.int (((p1 &&& (2147483647 : Int32)) % (7 : Int32)) + ((p2 &&& (2147483647 : Int32)) % ((7 : Int32) - ((p1 &&& (2147483647 : Int32)) % (7 : Int32)))))), .val (.int (f0_u9 p3)), .val (.int (f0_u10 p4)), .val (.ref b51), .unset] [(.int (7 : Int32)), (.int ((p5.toUInt32 >>> ((3 : Int32) &&& 31).toUInt32).toInt32)), (.ref b2), (.int (1 : Int32)), (.ref b51)])) t
    refine XS.iand X59.here hx rfl (hb hby at_143) rfl ?_
    show Steps p.tables e below (T59.setTop (mkF m 144 #[.val (.int p1), .val (.int p2), .val (.int p3), .val (.int p4), .val (.int p5), .val (.ref b2), .val (.int ((p1 &&& (2147483647 : Int32)) % (7 : Int32))), .val (.int (((p1 &&& (2147483647 : Int32)) % (7 : Int32)) + ((p2 &&& (2147483647 : Int32)) % ((7 : Int32) - ((p1 &&& (2147483647 : Int32)) % (7 : Int32)))))), .val (.int (f0_u9 p3)), .val (.int (f0_u10 p4)), .val (.ref b51), .unset] [(.int (((p5.toUInt32 >>> ((3 : Int32) &&& 31).toUInt32).toInt32) &&& (7 : Int32))), (.ref b2), (.int (1 : Int32)), (.ref b51)])) t
    exact k
  have hin61 : ¬ (((p5.toUInt32 >>> ((3 : Int32) &&& 31).toUInt32).toInt32) &&& (7 : Int32)) < 0 ∧ (((p5.toUInt32 >>> ((3 : Int32) &&& 31).toUInt32).toInt32) &&& (7 : Int32)) < (8 : Int32) := by exact own_b7 _
  obtain ⟨cl62, Aq63, hjhin61, aq64⟩ := Ia.at A59_0 hin61
  have K66 : ∀ t, Steps p.tables e below (T59.setTop (mkF m 145 #[.val (.int p1), .val (.int p2), .val (.int p3), .val (.int p4), .val (.int p5), .val (.ref b2), .val (.int ((p1 &&& (2147483647 : Int32)) % (7 : Int32))), .val (.int (((p1 &&& (2147483647 : Int32)) % (7 : Int32)) + ((p2 &&& (2147483647 : Int32)) % ((7 : Int32) - ((p1 &&& (2147483647 : Int32)) % (7 : Int32)))))), .val (.int (f0_u9 p3)), .val (.int (f0_u10 p4)), .val (.ref b51), .unset] [(.int ((f0_u8) (((p5.toUInt32 >>> ((3 : Int32) &&& 31).toUInt32).toInt32) &&& (7 : Int32)))), (.int (1 : Int32)), (.ref b51)])) t → Steps p.tables e below (T59.setTop (mkF m 144 #[.val (.int p1), .val (.int p2), .val (.int p3), .val (.int p4), .val (.int p5), .val (.ref b2), .val (.int ((p1 &&& (2147483647 : Int32)) % (7 : Int32))), .val (.int (((p1 &&& (2147483647 : Int32)) % (7 : Int32)) + ((p2 &&& (2147483647 : Int32)) % ((7 : Int32) - ((p1 &&& (2147483647 : Int32)) % (7 : Int32)))))), .val (.int (f0_u9 p3)), .val (.int (f0_u10 p4)), .val (.ref b51), .unset] [(.int (((p5.toUInt32 >>> ((3 : Int32) &&& 31).toUInt32).toInt32) &&& (7 : Int32))), (.ref b2), (.int (1 : Int32)), (.ref b51)])) t := by
    intro t k
    refine X59.caload hx (j := (((p5.toUInt32 >>> ((3 : Int32) &&& 31).toUInt32).toInt32) &&& (7 : Int32))) (v := .int ((f0_u8) (((p5.toUInt32 >>> ((3 : Int32) &&& 31).toUInt32).toInt32) &&& (7 : Int32)))) (by rw [e59]; exact Aq63.1) (State.isArrayOf_alike hZ.alike Aq63.2.1) Aq63.2.2 hjhin61 aq64 (g := (mkF m 144 #[.val (.int p1), .val (.int p2), .val (.int p3), .val (.int p4), .val (.int p5), .val (.ref b2), .val (.int ((p1 &&& (2147483647 : Int32)) % (7 : Int32))), .val (.int (((p1 &&& (2147483647 : Int32)) % (7 : Int32)) + ((p2 &&& (2147483647 : Int32)) % ((7 : Int32) - ((p1 &&& (2147483647 : Int32)) % (7 : Int32)))))), .val (.int (f0_u9 p3)), .val (.int (f0_u10 p4)), .val (.ref b51), .unset] [(.int (((p5.toUInt32 >>> ((3 : Int32) &&& 31).toUInt32).toInt32) &&& (7 : Int32))), (.ref b2), (.int (1 : Int32)), (.ref b51)])) rfl rfl (hb hby at_144) _ ?_
    show Steps p.tables e below (T59.setTop (mkF m 145 #[.val (.int p1), .val (.int p2), .val (.int p3), .val (.int p4), .val (.int p5), .val (.ref b2), .val (.int ((p1 &&& (2147483647 : Int32)) % (7 : Int32))), .val (.int (((p1 &&& (2147483647 : Int32)) % (7 : Int32)) + ((p2 &&& (2147483647 : Int32)) % ((7 : Int32) - ((p1 &&& (2147483647 : Int32)) % (7 : Int32)))))), .val (.int (f0_u9 p3)), .val (.int (f0_u10 p4)), .val (.ref b51), .unset] [(.int ((f0_u8) (((p5.toUInt32 >>> ((3 : Int32) &&& 31).toUInt32).toInt32) &&& (7 : Int32)))), (.int (1 : Int32)), (.ref b51)])) t
    exact k
  have hin67 : ¬ (1 : Int32) < 0 ∧ (1 : Int32) < (6 : Int32) := by exact ⟨by decide, by decide⟩
  obtain ⟨cl67, Aq67, hj67, aq67⟩ := Ia.at Aw59 hin67
  obtain ⟨T67, h67, X67, e67, W67, st67⟩ := stC X59 hx hZ e59 Aq67 (j := (1 : Int32)) hj67 (g := (mkF m 145 #[.val (.int p1), .val (.int p2), .val (.int p3), .val (.int p4), .val (.int p5), .val (.ref b2), .val (.int ((p1 &&& (2147483647 : Int32)) % (7 : Int32))), .val (.int (((p1 &&& (2147483647 : Int32)) % (7 : Int32)) + ((p2 &&& (2147483647 : Int32)) % ((7 : Int32) - ((p1 &&& (2147483647 : Int32)) % (7 : Int32)))))), .val (.int (f0_u9 p3)), .val (.int (f0_u10 p4)), .val (.ref b51), .unset] [(.int ((f0_u8) (((p5.toUInt32 >>> ((3 : Int32) &&& 31).toUInt32).toInt32) &&& (7 : Int32)))), (.int (1 : Int32)), (.ref b51)])) rfl rfl (hb hby at_145)
  have KP67 : Keep h0 h67 [] := KP59.wr W67 (Or.inr sz_b51)
  have N67 := Fr.snoc X67 N59 gb_b51
  have A67_0 : Ia Z h67 b2 .char (8 : Int32) (f0_u8) := A59_0.other W67 ne51_0
  have Aw67 : Ia Z h67 b51 .char (6 : Int32) (f0_u12 p5) := Aw59.set W67 hin67.1
  have K68 : ∀ t, Steps p.tables e below (T67.setTop (mkF m 146 #[.val (.int p1), .val (.int p2), .val (.int p3), .val (.int p4), .val (.int p5), .val (.ref b2), .val (.int ((p1 &&& (2147483647 : Int32)) % (7 : Int32))), .val (.int (((p1 &&& (2147483647 : Int32)) % (7 : Int32)) + ((p2 &&& (2147483647 : Int32)) % ((7 : Int32) - ((p1 &&& (2147483647 : Int32)) % (7 : Int32)))))), .val (.int (f0_u9 p3)), .val (.int (f0_u10 p4)), .val (.ref b51), .unset] [])) t → Steps p.tables e below (T59.setTop (mkF m 145 #[.val (.int p1), .val (.int p2), .val (.int p3), .val (.int p4), .val (.int p5), .val (.ref b2), .val (.int ((p1 &&& (2147483647 : Int32)) % (7 : Int32))), .val (.int (((p1 &&& (2147483647 : Int32)) % (7 : Int32)) + ((p2 &&& (2147483647 : Int32)) % ((7 : Int32) - ((p1 &&& (2147483647 : Int32)) % (7 : Int32)))))), .val (.int (f0_u9 p3)), .val (.int (f0_u10 p4)), .val (.ref b51), .unset] [(.int ((f0_u8) (((p5.toUInt32 >>> ((3 : Int32) &&& 31).toUInt32).toInt32) &&& (7 : Int32)))), (.int (1 : Int32)), (.ref b51)])) t := fun t k => st67 _ k
  have K73 : ∀ t, Steps p.tables e below (T67.setTop (mkF m 159 #[.val (.int p1), .val (.int p2), .val (.int p3), .val (.int p4), .val (.int p5), .val (.ref b2), .val (.int ((p1 &&& (2147483647 : Int32)) % (7 : Int32))), .val (.int (((p1 &&& (2147483647 : Int32)) % (7 : Int32)) + ((p2 &&& (2147483647 : Int32)) % ((7 : Int32) - ((p1 &&& (2147483647 : Int32)) % (7 : Int32)))))), .val (.int (f0_u9 p3)), .val (.int (f0_u10 p4)), .val (.ref b51), .unset] [(.int (((p5.toUInt32 >>> ((6 : Int32) &&& 31).toUInt32).toInt32) &&& (7 : Int32))), (.ref b2), (.int (2 : Int32)), (.ref b51)])) t → Steps p.tables e below (T67.setTop (mkF m 146 #[.val (.int p1), .val (.int p2), .val (.int p3), .val (.int p4), .val (.int p5), .val (.ref b2), .val (.int ((p1 &&& (2147483647 : Int32)) % (7 : Int32))), .val (.int (((p1 &&& (2147483647 : Int32)) % (7 : Int32)) + ((p2 &&& (2147483647 : Int32)) % ((7 : Int32) - ((p1 &&& (2147483647 : Int32)) % (7 : Int32)))))), .val (.int (f0_u9 p3)), .val (.int (f0_u10 p4)), .val (.ref b51), .unset] [])) t := by
    intro t k
    refine XS.aload X67.here hx rfl (hb hby at_146) rfl rfl ?_
    show Steps p.tables e below (T67.setTop (mkF m 148 #[.val (.int p1), .val (.int p2), .val (.int p3), .val (.int p4), .val (.int p5), .val (.ref b2), .val (.int ((p1 &&& (2147483647 : Int32)) % (7 : Int32))), .val (.int (((p1 &&& (2147483647 : Int32)) % (7 : Int32)) + ((p2 &&& (2147483647 : Int32)) % ((7 : Int32) - ((p1 &&& (2147483647 : Int32)) % (7 : Int32)))))), .val (.int (f0_u9 p3)), .val (.int (f0_u10 p4)), .val (.ref b51), .unset] [(.ref b51)])) t
    refine XS.iconst X67.here hx rfl (hb hby at_148) ?_
    show Steps p.tables e below (T67.setTop (mkF m 149 #[.val (.int p1), .val (.int p2), .val (.int p3), .val (.int p4), .val (.int p5), .val (.ref b2), .val (.int ((p1 &&& (2147483647 : Int32)) % (7 : Int32))), .val (.int (((p1 &&& (2147483647 : Int32)) % (7 : Int32)) + ((p2 &&& (2147483647 : Int32)) % ((7 : Int32) - ((p1 &&& (2147483647 : Int32)) % (7 : Int32)))))), .val (.int (f0_u9 p3)), .val (.int (f0_u10 p4)), .val (.ref b51), .unset] [(.int (2 : Int32)), (.ref b51)])) t
    refine XS.aload X67.here hx rfl (hb hby at_149) rfl rfl ?_
    show Steps p.tables e below (T67.setTop (mkF m 151 #[.val (.int p1), .val (.int p2), .val (.int p3), .val (.int p4), .val (.int p5), .val (.ref b2), .val (.int ((p1 &&& (2147483647 : Int32)) % (7 : Int32))), .val (.int (((p1 &&& (2147483647 : Int32)) % (7 : Int32)) + ((p2 &&& (2147483647 : Int32)) % ((7 : Int32) - ((p1 &&& (2147483647 : Int32)) % (7 : Int32)))))), .val (.int (f0_u9 p3)), .val (.int (f0_u10 p4)), .val (.ref b51), .unset] [(.ref b2), (.int (2 : Int32)), (.ref b51)])) t
    refine XS.iload X67.here hx rfl (hb hby at_151) rfl ?_
    show Steps p.tables e below (T67.setTop (mkF m 153 #[.val (.int p1), .val (.int p2), .val (.int p3), .val (.int p4), .val (.int p5), .val (.ref b2), .val (.int ((p1 &&& (2147483647 : Int32)) % (7 : Int32))), .val (.int (((p1 &&& (2147483647 : Int32)) % (7 : Int32)) + ((p2 &&& (2147483647 : Int32)) % ((7 : Int32) - ((p1 &&& (2147483647 : Int32)) % (7 : Int32)))))), .val (.int (f0_u9 p3)), .val (.int (f0_u10 p4)), .val (.ref b51), .unset] [(.int p5), (.ref b2), (.int (2 : Int32)), (.ref b51)])) t
    refine XS.bipush X67.here hx rfl (hb hby at_153) ?_
    show Steps p.tables e below (T67.setTop (mkF m 155 #[.val (.int p1), .val (.int p2), .val (.int p3), .val (.int p4), .val (.int p5), .val (.ref b2), .val (.int ((p1 &&& (2147483647 : Int32)) % (7 : Int32))), .val (.int (((p1 &&& (2147483647 : Int32)) % (7 : Int32)) + ((p2 &&& (2147483647 : Int32)) % ((7 : Int32) - ((p1 &&& (2147483647 : Int32)) % (7 : Int32)))))), .val (.int (f0_u9 p3)), .val (.int (f0_u10 p4)), .val (.ref b51), .unset] [(.int (6 : Int32)), (.int p5), (.ref b2), (.int (2 : Int32)), (.ref b51)])) t
    refine XS.iushr X67.here hx rfl (hb hby at_155) rfl ?_
    show Steps p.tables e below (T67.setTop (mkF m 156 #[.val (.int p1), .val (.int p2), .val (.int p3), .val (.int p4), .val (.int p5), .val (.ref b2), .val (.int ((p1 &&& (2147483647 : Int32)) % (7 : Int32))), .val (.int (((p1 &&& (2147483647 : Int32)) % (7 : Int32)) + ((p2 &&& (2147483647 : Int32)) % ((7 : Int32) - ((p1 &&& (2147483647 : Int32)) % (7 : Int32)))))), .val (.int (f0_u9 p3)), .val (.int (f0_u10 p4)), .val (.ref b51), .unset] [(.int ((p5.toUInt32 >>> ((6 : Int32) &&& 31).toUInt32).toInt32)), (.ref b2), (.int (2 : Int32)), (.ref b51)])) t
    refine XS.bipush X67.here hx rfl (hb hby at_156) ?_
    show Steps p.tables e below (T67.setTop (mkF m 158 #[.val (.int p1), .val (.int p2), .val (.int p3), .val (.int p4), .val (.int p5), .val (.ref b2), .val (.int ((p1 &&& (2147483647 : Int32)) % (7 : Int32))), .val (.int (((p1 &&& (2147483647 : Int32)) % (7 : Int32)) + ((p2 &&& (2147483647 : Int32)) % ((7 : Int32) - ((p1 &&& (2147483647 : Int32)) % (7 : Int32)))))), .val (.int (f0_u9 p3)), .val (.int (f0_u10 p4)), .val (.ref b51), .unset] [(.int (7 : Int32)), (.int ((p5.toUInt32 >>> ((6 : Int32) &&& 31).toUInt32).toInt32)), (.ref b2), (.int (2 : Int32)), (.ref b51)])) t
    refine XS.iand X67.here hx rfl (hb hby at_158) rfl ?_
    show Steps p.tables e below (T67.setTop (mkF m 159 #[.val (.int p1), .val (.int p2), .val (.int p3), .val (.int p4), .val (.int p5), .val (.ref b2), .val (.int ((p1 &&& (2147483647 : Int32)) % (7 : Int32))), .val (.int (((p1 &&& (2147483647 : Int32)) % (7 : Int32)) + ((p2 &&& (2147483647 : Int32)) % ((7 : Int32) - ((p1 &&& (2147483647 : Int32)) % (7 : Int32)))))), .val (.int (f0_u9 p3)), .val (.int (f0_u10 p4)), .val (.ref b51), .unset] [(.int (((p5.toUInt32 >>> ((6 : Int32) &&& 31).toUInt32).toInt32) &&& (7 : Int32))), (.ref b2), (.int (2 : Int32)), (.ref b51)])) t
    exact k
  have hin69 : ¬ (((p5.toUInt32 >>> ((6 : Int32) &&& 31).toUInt32).toInt32) &&& (7 : Int32)) < 0 ∧ (((p5.toUInt32 >>> ((6 : Int32) &&& 31).toUInt32).toInt32) &&& (7 : Int32)) < (8 : Int32) := by exact own_b7 _
  obtain ⟨cl70, Aq71, hjhin69, aq72⟩ := Ia.at A67_0 hin69
  have K74 : ∀ t, Steps p.tables e below (T67.setTop (mkF m 160 #[.val (.int p1), .val (.int p2), .val (.int p3), .val (.int p4), .val (.int p5), .val (.ref b2), .val (.int ((p1 &&& (2147483647 : Int32)) % (7 : Int32))), .val (.int (((p1 &&& (2147483647 : Int32)) % (7 : Int32)) + ((p2 &&& (2147483647 : Int32)) % ((7 : Int32) - ((p1 &&& (2147483647 : Int32)) % (7 : Int32)))))), .val (.int (f0_u9 p3)), .val (.int (f0_u10 p4)), .val (.ref b51), .unset] [(.int ((f0_u8) (((p5.toUInt32 >>> ((6 : Int32) &&& 31).toUInt32).toInt32) &&& (7 : Int32)))), (.int (2 : Int32)), (.ref b51)])) t → Steps p.tables e below (T67.setTop (mkF m 159 #[.val (.int p1), .val (.int p2), .val (.int p3), .val (.int p4), .val (.int p5), .val (.ref b2), .val (.int ((p1 &&& (2147483647 : Int32)) % (7 : Int32))), .val (.int (((p1 &&& (2147483647 : Int32)) % (7 : Int32)) + ((p2 &&& (2147483647 : Int32)) % ((7 : Int32) - ((p1 &&& (2147483647 : Int32)) % (7 : Int32)))))), .val (.int (f0_u9 p3)), .val (.int (f0_u10 p4)), .val (.ref b51), .unset] [(.int (((p5.toUInt32 >>> ((6 : Int32) &&& 31).toUInt32).toInt32) &&& (7 : Int32))), (.ref b2), (.int (2 : Int32)), (.ref b51)])) t := by
    intro t k
    refine X67.caload hx (j := (((p5.toUInt32 >>> ((6 : Int32) &&& 31).toUInt32).toInt32) &&& (7 : Int32))) (v := .int ((f0_u8) (((p5.toUInt32 >>> ((6 : Int32) &&& 31).toUInt32).toInt32) &&& (7 : Int32)))) (by rw [e67]; exact Aq71.1) (State.isArrayOf_alike hZ.alike Aq71.2.1) Aq71.2.2 hjhin69 aq72 (g := (mkF m 159 #[.val (.int p1), .val (.int p2), .val (.int p3), .val (.int p4), .val (.int p5), .val (.ref b2), .val (.int ((p1 &&& (2147483647 : Int32)) % (7 : Int32))), .val (.int (((p1 &&& (2147483647 : Int32)) % (7 : Int32)) + ((p2 &&& (2147483647 : Int32)) % ((7 : Int32) - ((p1 &&& (2147483647 : Int32)) % (7 : Int32)))))), .val (.int (f0_u9 p3)), .val (.int (f0_u10 p4)), .val (.ref b51), .unset] [(.int (((p5.toUInt32 >>> ((6 : Int32) &&& 31).toUInt32).toInt32) &&& (7 : Int32))), (.ref b2), (.int (2 : Int32)), (.ref b51)])) rfl rfl (hb hby at_159) _ ?_
    show Steps p.tables e below (T67.setTop (mkF m 160 #[.val (.int p1), .val (.int p2), .val (.int p3), .val (.int p4), .val (.int p5), .val (.ref b2), .val (.int ((p1 &&& (2147483647 : Int32)) % (7 : Int32))), .val (.int (((p1 &&& (2147483647 : Int32)) % (7 : Int32)) + ((p2 &&& (2147483647 : Int32)) % ((7 : Int32) - ((p1 &&& (2147483647 : Int32)) % (7 : Int32)))))), .val (.int (f0_u9 p3)), .val (.int (f0_u10 p4)), .val (.ref b51), .unset] [(.int ((f0_u8) (((p5.toUInt32 >>> ((6 : Int32) &&& 31).toUInt32).toInt32) &&& (7 : Int32)))), (.int (2 : Int32)), (.ref b51)])) t
    exact k
  have hin75 : ¬ (2 : Int32) < 0 ∧ (2 : Int32) < (6 : Int32) := by exact ⟨by decide, by decide⟩
  obtain ⟨cl75, Aq75, hj75, aq75⟩ := Ia.at Aw67 hin75
  obtain ⟨T75, h75, X75, e75, W75, st75⟩ := stC X67 hx hZ e67 Aq75 (j := (2 : Int32)) hj75 (g := (mkF m 160 #[.val (.int p1), .val (.int p2), .val (.int p3), .val (.int p4), .val (.int p5), .val (.ref b2), .val (.int ((p1 &&& (2147483647 : Int32)) % (7 : Int32))), .val (.int (((p1 &&& (2147483647 : Int32)) % (7 : Int32)) + ((p2 &&& (2147483647 : Int32)) % ((7 : Int32) - ((p1 &&& (2147483647 : Int32)) % (7 : Int32)))))), .val (.int (f0_u9 p3)), .val (.int (f0_u10 p4)), .val (.ref b51), .unset] [(.int ((f0_u8) (((p5.toUInt32 >>> ((6 : Int32) &&& 31).toUInt32).toInt32) &&& (7 : Int32)))), (.int (2 : Int32)), (.ref b51)])) rfl rfl (hb hby at_160)
  have KP75 : Keep h0 h75 [] := KP67.wr W75 (Or.inr sz_b51)
  have N75 := Fr.snoc X75 N67 gb_b51
  have A75_0 : Ia Z h75 b2 .char (8 : Int32) (f0_u8) := A67_0.other W75 ne51_0
  have Aw75 : Ia Z h75 b51 .char (6 : Int32) (f0_u13 p5) := Aw67.set W75 hin75.1
  have K76 : ∀ t, Steps p.tables e below (T75.setTop (mkF m 161 #[.val (.int p1), .val (.int p2), .val (.int p3), .val (.int p4), .val (.int p5), .val (.ref b2), .val (.int ((p1 &&& (2147483647 : Int32)) % (7 : Int32))), .val (.int (((p1 &&& (2147483647 : Int32)) % (7 : Int32)) + ((p2 &&& (2147483647 : Int32)) % ((7 : Int32) - ((p1 &&& (2147483647 : Int32)) % (7 : Int32)))))), .val (.int (f0_u9 p3)), .val (.int (f0_u10 p4)), .val (.ref b51), .unset] [])) t → Steps p.tables e below (T67.setTop (mkF m 160 #[.val (.int p1), .val (.int p2), .val (.int p3), .val (.int p4), .val (.int p5), .val (.ref b2), .val (.int ((p1 &&& (2147483647 : Int32)) % (7 : Int32))), .val (.int (((p1 &&& (2147483647 : Int32)) % (7 : Int32)) + ((p2 &&& (2147483647 : Int32)) % ((7 : Int32) - ((p1 &&& (2147483647 : Int32)) % (7 : Int32)))))), .val (.int (f0_u9 p3)), .val (.int (f0_u10 p4)), .val (.ref b51), .unset] [(.int ((f0_u8) (((p5.toUInt32 >>> ((6 : Int32) &&& 31).toUInt32).toInt32) &&& (7 : Int32)))), (.int (2 : Int32)), (.ref b51)])) t := fun t k => st75 _ k
  have K81 : ∀ t, Steps p.tables e below (T75.setTop (mkF m 174 #[.val (.int p1), .val (.int p2), .val (.int p3), .val (.int p4), .val (.int p5), .val (.ref b2), .val (.int ((p1 &&& (2147483647 : Int32)) % (7 : Int32))), .val (.int (((p1 &&& (2147483647 : Int32)) % (7 : Int32)) + ((p2 &&& (2147483647 : Int32)) % ((7 : Int32) - ((p1 &&& (2147483647 : Int32)) % (7 : Int32)))))), .val (.int (f0_u9 p3)), .val (.int (f0_u10 p4)), .val (.ref b51), .unset] [(.int (((p5.toUInt32 >>> ((9 : Int32) &&& 31).toUInt32).toInt32) &&& (7 : Int32))), (.ref b2), (.int (3 : Int32)), (.ref b51)])) t → Steps p.tables e below (T75.setTop (mkF m 161 #[.val (.int p1), .val (.int p2), .val (.int p3), .val (.int p4), .val (.int p5), .val (.ref b2), .val (.int ((p1 &&& (2147483647 : Int32)) % (7 : Int32))), .val (.int (((p1 &&& (2147483647 : Int32)) % (7 : Int32)) + ((p2 &&& (2147483647 : Int32)) % ((7 : Int32) - ((p1 &&& (2147483647 : Int32)) % (7 : Int32)))))), .val (.int (f0_u9 p3)), .val (.int (f0_u10 p4)), .val (.ref b51), .unset] [])) t := by
    intro t k
    refine XS.aload X75.here hx rfl (hb hby at_161) rfl rfl ?_
    show Steps p.tables e below (T75.setTop (mkF m 163 #[.val (.int p1), .val (.int p2), .val (.int p3), .val (.int p4), .val (.int p5), .val (.ref b2), .val (.int ((p1 &&& (2147483647 : Int32)) % (7 : Int32))), .val (.int (((p1 &&& (2147483647 : Int32)) % (7 : Int32)) + ((p2 &&& (2147483647 : Int32)) % ((7 : Int32) - ((p1 &&& (2147483647 : Int32)) % (7 : Int32)))))), .val (.int (f0_u9 p3)), .val (.int (f0_u10 p4)), .val (.ref b51), .unset] [(.ref b51)])) t
    refine XS.iconst X75.here hx rfl (hb hby at_163) ?_
    show Steps p.tables e below (T75.setTop (mkF m 164 #[.val (.int p1), .val (.int p2), .val (.int p3), .val (.int p4), .val (.int p5), .val (.ref b2), .val (.int ((p1 &&& (2147483647 : Int32)) % (7 : Int32))), .val (.int (((p1 &&& (2147483647 : Int32)) % (7 : Int32)) + ((p2 &&& (2147483647 : Int32)) % ((7 : Int32) - ((p1 &&& (2147483647 : Int32)) % (7 : Int32)))))), .val (.int (f0_u9 p3)), .val (.int (f0_u10 p4)), .val (.ref b51), .unset] [(.int (3 : Int32)), (.ref b51)])) t
    refine XS.aload X75.here hx rfl (hb hby at_164) rfl rfl ?_
    show Steps p.tables e below (T75.setTop (mkF m 166 #[.val (.int p1), .val (.int p2), .val (.int p3), .val (.int p4), .val (.int p5), .val (.ref b2), .val (.int ((p1 &&& (2147483647 : Int32)) % (7 : Int32))), .val (.int (((p1 &&& (2147483647 : Int32)) % (7 : Int32)) + ((p2 &&& (2147483647 : Int32)) % ((7 : Int32) - ((p1 &&& (2147483647 : Int32)) % (7 : Int32)))))), .val (.int (f0_u9 p3)), .val (.int (f0_u10 p4)), .val (.ref b51), .unset] [(.ref b2), (.int (3 : Int32)), (.ref b51)])) t
    refine XS.iload X75.here hx rfl (hb hby at_166) rfl ?_
    show Steps p.tables e below (T75.setTop (mkF m 168 #[.val (.int p1), .val (.int p2), .val (.int p3), .val (.int p4), .val (.int p5), .val (.ref b2), .val (.int ((p1 &&& (2147483647 : Int32)) % (7 : Int32))), .val (.int (((p1 &&& (2147483647 : Int32)) % (7 : Int32)) + ((p2 &&& (2147483647 : Int32)) % ((7 : Int32) - ((p1 &&& (2147483647 : Int32)) % (7 : Int32)))))), .val (.int (f0_u9 p3)), .val (.int (f0_u10 p4)), .val (.ref b51), .unset] [(.int p5), (.ref b2), (.int (3 : Int32)), (.ref b51)])) t
    refine XS.bipush X75.here hx rfl (hb hby at_168) ?_
    show Steps p.tables e below (T75.setTop (mkF m 170 #[.val (.int p1), .val (.int p2), .val (.int p3), .val (.int p4), .val (.int p5), .val (.ref b2), .val (.int ((p1 &&& (2147483647 : Int32)) % (7 : Int32))), .val (.int (((p1 &&& (2147483647 : Int32)) % (7 : Int32)) + ((p2 &&& (2147483647 : Int32)) % ((7 : Int32) - ((p1 &&& (2147483647 : Int32)) % (7 : Int32)))))), .val (.int (f0_u9 p3)), .val (.int (f0_u10 p4)), .val (.ref b51), .unset] [(.int (9 : Int32)), (.int p5), (.ref b2), (.int (3 : Int32)), (.ref b51)])) t
    refine XS.iushr X75.here hx rfl (hb hby at_170) rfl ?_
    show Steps p.tables e below (T75.setTop (mkF m 171 #[.val (.int p1), .val (.int p2), .val (.int p3), .val (.int p4), .val (.int p5), .val (.ref b2), .val (.int ((p1 &&& (2147483647 : Int32)) % (7 : Int32))), .val (.int (((p1 &&& (2147483647 : Int32)) % (7 : Int32)) + ((p2 &&& (2147483647 : Int32)) % ((7 : Int32) - ((p1 &&& (2147483647 : Int32)) % (7 : Int32)))))), .val (.int (f0_u9 p3)), .val (.int (f0_u10 p4)), .val (.ref b51), .unset] [(.int ((p5.toUInt32 >>> ((9 : Int32) &&& 31).toUInt32).toInt32)), (.ref b2), (.int (3 : Int32)), (.ref b51)])) t
    refine XS.bipush X75.here hx rfl (hb hby at_171) ?_
    show Steps p.tables e below (T75.setTop (mkF m 173 #[.val (.int p1), .val (.int p2), .val (.int p3), .val (.int p4), .val (.int p5), .val (.ref b2), .val (.int ((p1 &&& (2147483647 : Int32)) % (7 : Int32))), .val (.int (((p1 &&& (2147483647 : Int32)) % (7 : Int32)) + ((p2 &&& (2147483647 : Int32)) % ((7 : Int32) - ((p1 &&& (2147483647 : Int32)) % (7 : Int32)))))), .val (.int (f0_u9 p3)), .val (.int (f0_u10 p4)), .val (.ref b51), .unset] [(.int (7 : Int32)), (.int ((p5.toUInt32 >>> ((9 : Int32) &&& 31).toUInt32).toInt32)), (.ref b2), (.int (3 : Int32)), (.ref b51)])) t
    refine XS.iand X75.here hx rfl (hb hby at_173) rfl ?_
    show Steps p.tables e below (T75.setTop (mkF m 174 #[.val (.int p1), .val (.int p2), .val (.int p3), .val (.int p4), .val (.int p5), .val (.ref b2), .val (.int ((p1 &&& (2147483647 : Int32)) % (7 : Int32))), .val (.int (((p1 &&& (2147483647 : Int32)) % (7 : Int32)) + ((p2 &&& (2147483647 : Int32)) % ((7 : Int32) - ((p1 &&& (2147483647 : Int32)) % (7 : Int32)))))), .val (.int (f0_u9 p3)), .val (.int (f0_u10 p4)), .val (.ref b51), .unset] [(.int (((p5.toUInt32 >>> ((9 : Int32) &&& 31).toUInt32).toInt32) &&& (7 : Int32))), (.ref b2), (.int (3 : Int32)), (.ref b51)])) t
    exact k
  have hin77 : ¬ (((p5.toUInt32 >>> ((9 : Int32) &&& 31).toUInt32).toInt32) &&& (7 : Int32)) < 0 ∧ (((p5.toUInt32 >>> ((9 : Int32) &&& 31).toUInt32).toInt32) &&& (7 : Int32)) < (8 : Int32) := by exact own_b7 _
  obtain ⟨cl78, Aq79, hjhin77, aq80⟩ := Ia.at A75_0 hin77
  have K82 : ∀ t, Steps p.tables e below (T75.setTop (mkF m 175 #[.val (.int p1), .val (.int p2), .val (.int p3), .val (.int p4), .val (.int p5), .val (.ref b2), .val (.int ((p1 &&& (2147483647 : Int32)) % (7 : Int32))), .val (.int (((p1 &&& (2147483647 : Int32)) % (7 : Int32)) + ((p2 &&& (2147483647 : Int32)) % ((7 : Int32) - ((p1 &&& (2147483647 : Int32)) % (7 : Int32)))))), .val (.int (f0_u9 p3)), .val (.int (f0_u10 p4)), .val (.ref b51), .unset] [(.int ((f0_u8) (((p5.toUInt32 >>> ((9 : Int32) &&& 31).toUInt32).toInt32) &&& (7 : Int32)))), (.int (3 : Int32)), (.ref b51)])) t → Steps p.tables e below (T75.setTop (mkF m 174 #[.val (.int p1), .val (.int p2), .val (.int p3), .val (.int p4), .val (.int p5), .val (.ref b2), .val (.int ((p1 &&& (2147483647 : Int32)) % (7 : Int32))), .val (.int (((p1 &&& (2147483647 : Int32)) % (7 : Int32)) + ((p2 &&& (2147483647 : Int32)) % ((7 : Int32) - ((p1 &&& (2147483647 : Int32)) % (7 : Int32)))))), .val (.int (f0_u9 p3)), .val (.int (f0_u10 p4)), .val (.ref b51), .unset] [(.int (((p5.toUInt32 >>> ((9 : Int32) &&& 31).toUInt32).toInt32) &&& (7 : Int32))), (.ref b2), (.int (3 : Int32)), (.ref b51)])) t := by
    intro t k
    refine X75.caload hx (j := (((p5.toUInt32 >>> ((9 : Int32) &&& 31).toUInt32).toInt32) &&& (7 : Int32))) (v := .int ((f0_u8) (((p5.toUInt32 >>> ((9 : Int32) &&& 31).toUInt32).toInt32) &&& (7 : Int32)))) (by rw [e75]; exact Aq79.1) (State.isArrayOf_alike hZ.alike Aq79.2.1) Aq79.2.2 hjhin77 aq80 (g := (mkF m 174 #[.val (.int p1), .val (.int p2), .val (.int p3), .val (.int p4), .val (.int p5), .val (.ref b2), .val (.int ((p1 &&& (2147483647 : Int32)) % (7 : Int32))), .val (.int (((p1 &&& (2147483647 : Int32)) % (7 : Int32)) + ((p2 &&& (2147483647 : Int32)) % ((7 : Int32) - ((p1 &&& (2147483647 : Int32)) % (7 : Int32)))))), .val (.int (f0_u9 p3)), .val (.int (f0_u10 p4)), .val (.ref b51), .unset] [(.int (((p5.toUInt32 >>> ((9 : Int32) &&& 31).toUInt32).toInt32) &&& (7 : Int32))), (.ref b2), (.int (3 : Int32)), (.ref b51)])) rfl rfl (hb hby at_174) _ ?_
    show Steps p.tables e below (T75.setTop (mkF m 175 #[.val (.int p1), .val (.int p2), .val (.int p3), .val (.int p4), .val (.int p5), .val (.ref b2), .val (.int ((p1 &&& (2147483647 : Int32)) % (7 : Int32))), .val (.int (((p1 &&& (2147483647 : Int32)) % (7 : Int32)) + ((p2 &&& (2147483647 : Int32)) % ((7 : Int32) - ((p1 &&& (2147483647 : Int32)) % (7 : Int32)))))), .val (.int (f0_u9 p3)), .val (.int (f0_u10 p4)), .val (.ref b51), .unset] [(.int ((f0_u8) (((p5.toUInt32 >>> ((9 : Int32) &&& 31).toUInt32).toInt32) &&& (7 : Int32)))), (.int (3 : Int32)), (.ref b51)])) t
    exact k
  have hin83 : ¬ (3 : Int32) < 0 ∧ (3 : Int32) < (6 : Int32) := by exact ⟨by decide, by decide⟩
  obtain ⟨cl83, Aq83, hj83, aq83⟩ := Ia.at Aw75 hin83
  obtain ⟨T83, h83, X83, e83, W83, st83⟩ := stC X75 hx hZ e75 Aq83 (j := (3 : Int32)) hj83 (g := (mkF m 175 #[.val (.int p1), .val (.int p2), .val (.int p3), .val (.int p4), .val (.int p5), .val (.ref b2), .val (.int ((p1 &&& (2147483647 : Int32)) % (7 : Int32))), .val (.int (((p1 &&& (2147483647 : Int32)) % (7 : Int32)) + ((p2 &&& (2147483647 : Int32)) % ((7 : Int32) - ((p1 &&& (2147483647 : Int32)) % (7 : Int32)))))), .val (.int (f0_u9 p3)), .val (.int (f0_u10 p4)), .val (.ref b51), .unset] [(.int ((f0_u8) (((p5.toUInt32 >>> ((9 : Int32) &&& 31).toUInt32).toInt32) &&& (7 : Int32)))), (.int (3 : Int32)), (.ref b51)])) rfl rfl (hb hby at_175)
  have KP83 : Keep h0 h83 [] := KP75.wr W83 (Or.inr sz_b51)
  have N83 := Fr.snoc X83 N75 gb_b51
  have A83_0 : Ia Z h83 b2 .char (8 : Int32) (f0_u8) := A75_0.other W83 ne51_0
  have Aw83 : Ia Z h83 b51 .char (6 : Int32) (f0_u14 p5) := Aw75.set W83 hin83.1
  have K84 : ∀ t, Steps p.tables e below (T83.setTop (mkF m 176 #[.val (.int p1), .val (.int p2), .val (.int p3), .val (.int p4), .val (.int p5), .val (.ref b2), .val (.int ((p1 &&& (2147483647 : Int32)) % (7 : Int32))), .val (.int (((p1 &&& (2147483647 : Int32)) % (7 : Int32)) + ((p2 &&& (2147483647 : Int32)) % ((7 : Int32) - ((p1 &&& (2147483647 : Int32)) % (7 : Int32)))))), .val (.int (f0_u9 p3)), .val (.int (f0_u10 p4)), .val (.ref b51), .unset] [])) t → Steps p.tables e below (T75.setTop (mkF m 175 #[.val (.int p1), .val (.int p2), .val (.int p3), .val (.int p4), .val (.int p5), .val (.ref b2), .val (.int ((p1 &&& (2147483647 : Int32)) % (7 : Int32))), .val (.int (((p1 &&& (2147483647 : Int32)) % (7 : Int32)) + ((p2 &&& (2147483647 : Int32)) % ((7 : Int32) - ((p1 &&& (2147483647 : Int32)) % (7 : Int32)))))), .val (.int (f0_u9 p3)), .val (.int (f0_u10 p4)), .val (.ref b51), .unset] [(.int ((f0_u8) (((p5.toUInt32 >>> ((9 : Int32) &&& 31).toUInt32).toInt32) &&& (7 : Int32)))), (.int (3 : Int32)), (.ref b51)])) t := fun t k => st83 _ k
  have K89 : ∀ t, Steps p.tables e below (T83.setTop (mkF m 189 #[.val (.int p1), .val (.int p2), .val (.int p3), .val (.int p4), .val (.int p5), .val (.ref b2), .val (.int ((p1 &&& (2147483647 : Int32)) % (7 : Int32))), .val (.int (((p1 &&& (2147483647 : Int32)) % (7 : Int32)) + ((p2 &&& (2147483647 : Int32)) % ((7 : Int32) - ((p1 &&& (2147483647 : Int32)) % (7 : Int32)))))), .val (.int (f0_u9 p3)), .val (.int (f0_u10 p4)), .val (.ref b51), .unset] [(.int (((p5.toUInt32 >>> ((12 : Int32) &&& 31).toUInt32).toInt32) &&& (7 : Int32))), (.ref b2), (.int (4 : Int32)), (.ref b51)])) t → Steps p.tables e below (T83.setTop (mkF m 176 #[.val (.int p1), .val (.int p2), .val (.int p3), .val (.int p4), .val (.int p5), .val (.ref b2), .val (.int ((p1 &&& (2147483647 : Int32)) % (7 : Int32))), .val (.int (((p1 &&& (2147483647 : Int32)) % (7 : Int32)) + ((p2 &&& (2147483647 : Int32)) % ((7 : Int32) - ((p1 &&& (2147483647 : Int32)) % (7 : Int32)))))), .val (.int (f0_u9 p3)), .val (.int (f0_u10 p4)), .val (.ref b51), .unset] [])) t := by
    intro t k
    refine XS.aload X83.here hx rfl (hb hby at_176) rfl rfl ?_
    show Steps p.tables e below (T83.setTop (mkF m 178 #[.val (.int p1), .val (.int p2), .val (.int p3), .val (.int p4), .val (.int p5), .val (.ref b2), .val (.int ((p1 &&& (2147483647 : Int32)) % (7 : Int32))), .val (.int (((p1 &&& (2147483647 : Int32)) % (7 : Int32)) + ((p2 &&& (2147483647 : Int32)) % ((7 : Int32) - ((p1 &&& (2147483647 : Int32)) % (7 : Int32)))))), .val (.int (f0_u9 p3)), .val (.int (f0_u10 p4)), .val (.ref b51), .unset] [(.ref b51)])) t
    refine XS.iconst X83.here hx rfl (hb hby at_178) ?_
    show Steps p.tables e below (T83.setTop (mkF m 179 #[.val (.int p1), .val (.int p2), .val (.int p3), .val (.int p4), .val (.int p5), .val (.ref b2), .val (.int ((p1 &&& (2147483647 : Int32)) % (7 : Int32))), .val (.int (((p1 &&& (2147483647 : Int32)) % (7 : Int32)) + ((p2 &&& (2147483647 : Int32)) % ((7 : Int32) - ((p1 &&& (2147483647 : Int32)) % (7 : Int32)))))), .val (.int (f0_u9 p3)), .val (.int (f0_u10 p4)), .val (.ref b51), .unset] [(.int (4 : Int32)), (.ref b51)])) t
    refine XS.aload X83.here hx rfl (hb hby at_179) rfl rfl ?_
    show Steps p.tables e below (T83.setTop (mkF m 181 #[.val (.int p1), .val (.int p2), .val (.int p3), .val (.int p4), .val (.int p5), .val (.ref b2), .val (.int ((p1 &&& (2147483647 : Int32)) % (7 : Int32))), .val (.int (((p1 &&& (2147483647 : Int32)) % (7 : Int32)) + ((p2 &&& (2147483647 : Int32)) % ((7 : Int32) - ((p1 &&& (2147483647 : Int32)) % (7 : Int32)))))), .val (.int (f0_u9 p3)), .val (.int (f0_u10 p4)), .val (.ref b51), .unset] [(.ref b2), (.int (4 : Int32)), (.ref b51)])) t
    refine XS.iload X83.here hx rfl (hb hby at_181) rfl ?_
    show Steps p.tables e below (T83.setTop (mkF m 183 #[.val (.int p1), .val (.int p2), .val (.int p3), .val (.int p4), .val (.int p5), .val (.ref b2), .val (.int ((p1 &&& (2147483647 : Int32)) % (7 : Int32))), .val (.int (((p1 &&& (2147483647 : Int32)) % (7 : Int32)) + ((p2 &&& (2147483647 : Int32)) % ((7 : Int32) - ((p1 &&& (2147483647 : Int32)) % (7 : Int32)))))), .val (.int (f0_u9 p3)), .val (.int (f0_u10 p4)), .val (.ref b51), .unset] [(.int p5), (.ref b2), (.int (4 : Int32)), (.ref b51)])) t
    refine XS.bipush X83.here hx rfl (hb hby at_183) ?_
    show Steps p.tables e below (T83.setTop (mkF m 185 #[.val (.int p1), .val (.int p2), .val (.int p3), .val (.int p4), .val (.int p5), .val (.ref b2), .val (.int ((p1 &&& (2147483647 : Int32)) % (7 : Int32))), .val (.int (((p1 &&& (2147483647 : Int32)) % (7 : Int32)) + ((p2 &&& (2147483647 : Int32)) % ((7 : Int32) - ((p1 &&& (2147483647 : Int32)) % (7 : Int32)))))), .val (.int (f0_u9 p3)), .val (.int (f0_u10 p4)), .val (.ref b51), .unset] [(.int (12 : Int32)), (.int p5), (.ref b2), (.int (4 : Int32)), (.ref b51)])) t
    refine XS.iushr X83.here hx rfl (hb hby at_185) rfl ?_
    show Steps p.tables e below (T83.setTop (mkF m 186 #[.val (.int p1), .val (.int p2), .val (.int p3), .val (.int p4), .val (.int p5), .val (.ref b2), .val (.int ((p1 &&& (2147483647 : Int32)) % (7 : Int32))), .val (.int (((p1 &&& (2147483647 : Int32)) % (7 : Int32)) + ((p2 &&& (2147483647 : Int32)) % ((7 : Int32) - ((p1 &&& (2147483647 : Int32)) % (7 : Int32)))))), .val (.int (f0_u9 p3)), .val (.int (f0_u10 p4)), .val (.ref b51), .unset] [(.int ((p5.toUInt32 >>> ((12 : Int32) &&& 31).toUInt32).toInt32)), (.ref b2), (.int (4 : Int32)), (.ref b51)])) t
    refine XS.bipush X83.here hx rfl (hb hby at_186) ?_
    show Steps p.tables e below (T83.setTop (mkF m 188 #[.val (.int p1), .val (.int p2), .val (.int p3), .val (.int p4), .val (.int p5), .val (.ref b2), .val (.int ((p1 &&& (2147483647 : Int32)) % (7 : Int32))), .val (.int (((p1 &&& (2147483647 : Int32)) % (7 : Int32)) + ((p2 &&& (2147483647 : Int32)) % ((7 : Int32) - ((p1 &&& (2147483647 : Int32)) % (7 : Int32)))))), .val (.int (f0_u9 p3)), .val (.int (f0_u10 p4)), .val (.ref b51), .unset] [(.int (7 : Int32)), (.int ((p5.toUInt32 >>> ((12 : Int32) &&& 31).toUInt32).toInt32)), (.ref b2), (.int (4 : Int32)), (.ref b51)])) t
    refine XS.iand X83.here hx rfl (hb hby at_188) rfl ?_
    show Steps p.tables e below (T83.setTop (mkF m 189 #[.val (.int p1), .val (.int p2), .val (.int p3), .val (.int p4), .val (.int p5), .val (.ref b2), .val (.int ((p1 &&& (2147483647 : Int32)) % (7 : Int32))), .val (.int (((p1 &&& (2147483647 : Int32)) % (7 : Int32)) + ((p2 &&& (2147483647 : Int32)) % ((7 : Int32) - ((p1 &&& (2147483647 : Int32)) % (7 : Int32)))))), .val (.int (f0_u9 p3)), .val (.int (f0_u10 p4)), .val (.ref b51), .unset] [(.int (((p5.toUInt32 >>> ((12 : Int32) &&& 31).toUInt32).toInt32) &&& (7 : Int32))), (.ref b2), (.int (4 : Int32)), (.ref b51)])) t
    exact k
  have hin85 : ¬ (((p5.toUInt32 >>> ((12 : Int32) &&& 31).toUInt32).toInt32) &&& (7 : Int32)) < 0 ∧ (((p5.toUInt32 >>> ((12 : Int32) &&& 31).toUInt32).toInt32) &&& (7 : Int32)) < (8 : Int32) := by exact own_b7 _
  obtain ⟨cl86, Aq87, hjhin85, aq88⟩ := Ia.at A83_0 hin85
  have K90 : ∀ t, Steps p.tables e below (T83.setTop (mkF m 190 #[.val (.int p1), .val (.int p2), .val (.int p3), .val (.int p4), .val (.int p5), .val (.ref b2), .val (.int ((p1 &&& (2147483647 : Int32)) % (7 : Int32))), .val (.int (((p1 &&& (2147483647 : Int32)) % (7 : Int32)) + ((p2 &&& (2147483647 : Int32)) % ((7 : Int32) - ((p1 &&& (2147483647 : Int32)) % (7 : Int32)))))), .val (.int (f0_u9 p3)), .val (.int (f0_u10 p4)), .val (.ref b51), .unset] [(.int ((f0_u8) (((p5.toUInt32 >>> ((12 : Int32) &&& 31).toUInt32).toInt32) &&& (7 : Int32)))), (.int (4 : Int32)), (.ref b51)])) t → Steps p.tables e below (T83.setTop (mkF m 189 #[.val (.int p1), .val (.int p2), .val (.int p3), .val (.int p4), .val (.int p5), .val (.ref b2), .val (.int ((p1 &&& (2147483647 : Int32)) % (7 : Int32))), .val (.int (((p1 &&& (2147483647 : Int32)) % (7 : Int32)) + ((p2 &&& (2147483647 : Int32)) % ((7 : Int32) - ((p1 &&& (2147483647 : Int32)) % (7 : Int32)))))), .val (.int (f0_u9 p3)), .val (.int (f0_u10 p4)), .val (.ref b51), .unset] [(.int (((p5.toUInt32 >>> ((12 : Int32) &&& 31).toUInt32).toInt32) &&& (7 : Int32))), (.ref b2), (.int (4 : Int32)), (.ref b51)])) t := by
    intro t k
    refine X83.caload hx (j := (((p5.toUInt32 >>> ((12 : Int32) &&& 31).toUInt32).toInt32) &&& (7 : Int32))) (v := .int ((f0_u8) (((p5.toUInt32 >>> ((12 : Int32) &&& 31).toUInt32).toInt32) &&& (7 : Int32)))) (by rw [e83]; exact Aq87.1) (State.isArrayOf_alike hZ.alike Aq87.2.1) Aq87.2.2 hjhin85 aq88 (g := (mkF m 189 #[.val (.int p1), .val (.int p2), .val (.int p3), .val (.int p4), .val (.int p5), .val (.ref b2), .val (.int ((p1 &&& (2147483647 : Int32)) % (7 : Int32))), .val (.int (((p1 &&& (2147483647 : Int32)) % (7 : Int32)) + ((p2 &&& (2147483647 : Int32)) % ((7 : Int32) - ((p1 &&& (2147483647 : Int32)) % (7 : Int32)))))), .val (.int (f0_u9 p3)), .val (.int (f0_u10 p4)), .val (.ref b51), .unset] [(.int (((p5.toUInt32 >>> ((12 : Int32) &&& 31).toUInt32).toInt32) &&& (7 : Int32))), (.ref b2), (.int (4 : Int32)), (.ref b51)])) rfl rfl (hb hby at_189) _ ?_
    show Steps p.tables e below (T83.setTop (mkF m 190 #[.val (.int p1), .val (.int p2), .val (.int p3), .val (.int p4), .val (.int p5), .val (.ref b2), .val (.int ((p1 &&& (2147483647 : Int32)) % (7 : Int32))), .val (.int (((p1 &&& (2147483647 : Int32)) % (7 : Int32)) + ((p2 &&& (2147483647 : Int32)) % ((7 : Int32) - ((p1 &&& (2147483647 : Int32)) % (7 : Int32)))))), .val (.int (f0_u9 p3)), .val (.int (f0_u10 p4)), .val (.ref b51), .unset] [(.int ((f0_u8) (((p5.toUInt32 >>> ((12 : Int32) &&& 31).toUInt32).toInt32) &&& (7 : Int32)))), (.int (4 : Int32)), (.ref b51)])) t
    exact k
  have hin91 : ¬ (4 : Int32) < 0 ∧ (4 : Int32) < (6 : Int32) := by exact ⟨by decide, by decide⟩
  obtain ⟨cl91, Aq91, hj91, aq91⟩ := Ia.at Aw83 hin91
  obtain ⟨T91, h91, X91, e91, W91, st91⟩ := stC X83 hx hZ e83 Aq91 (j := (4 : Int32)) hj91 (g := (mkF m 190 #[.val (.int p1), .val (.int p2), .val (.int p3), .val (.int p4), .val (.int p5), .val (.ref b2), .val (.int ((p1 &&& (2147483647 : Int32)) % (7 : Int32))), .val (.int (((p1 &&& (2147483647 : Int32)) % (7 : Int32)) + ((p2 &&& (2147483647 : Int32)) % ((7 : Int32) - ((p1 &&& (2147483647 : Int32)) % (7 : Int32)))))), .val (.int (f0_u9 p3)), .val (.int (f0_u10 p4)), .val (.ref b51), .unset] [(.int ((f0_u8) (((p5.toUInt32 >>> ((12 : Int32) &&& 31).toUInt32).toInt32) &&& (7 : Int32)))), (.int (4 : Int32)), (.ref b51)])) rfl rfl (hb hby at_190)
  have KP91 : Keep h0 h91 [] := KP83.wr W91 (Or.inr sz_b51)
  have N91 := Fr.snoc X91 N83 gb_b51
  have A91_0 : Ia Z h91 b2 .char (8 : Int32) (f0_u8) := A83_0.other W91 ne51_0
  have Aw91 : Ia Z h91 b51 .char (6 : Int32) (f0_u15 p5) := Aw83.set W91 hin91.1
  have K92 : ∀ t, Steps p.tables e below (T91.setTop (mkF m 191 #[.val (.int p1), .val (.int p2), .val (.int p3), .val (.int p4), .val (.int p5), .val (.ref b2), .val (.int ((p1 &&& (2147483647 : Int32)) % (7 : Int32))), .val (.int (((p1 &&& (2147483647 : Int32)) % (7 : Int32)) + ((p2 &&& (2147483647 : Int32)) % ((7 : Int32) - ((p1 &&& (2147483647 : Int32)) % (7 : Int32)))))), .val (.int (f0_u9 p3)), .val (.int (f0_u10 p4)), .val (.ref b51), .unset] [])) t → Steps p.tables e below (T83.setTop (mkF m 190 #[.val (.int p1), .val (.int p2), .val (.int p3), .val (.int p4), .val (.int p5), .val (.ref b2), .val (.int ((p1 &&& (2147483647 : Int32)) % (7 : Int32))), .val (.int (((p1 &&& (2147483647 : Int32)) % (7 : Int32)) + ((p2 &&& (2147483647 : Int32)) % ((7 : Int32) - ((p1 &&& (2147483647 : Int32)) % (7 : Int32)))))), .val (.int (f0_u9 p3)), .val (.int (f0_u10 p4)), .val (.ref b51), .unset] [(.int ((f0_u8) (((p5.toUInt32 >>> ((12 : Int32) &&& 31).toUInt32).toInt32) &&& (7 : Int32)))), (.int (4 : Int32)), (.ref b51)])) t := fun t k => st91 _ k
  have K97 : ∀ t, Steps p.tables e below (T91.setTop (mkF m 204 #[.val (.int p1), .val (.int p2), .val (.int p3), .val (.int p4), .val (.int p5), .val (.ref b2), .val (.int ((p1 &&& (2147483647 : Int32)) % (7 : Int32))), .val (.int (((p1 &&& (2147483647 : Int32)) % (7 : Int32)) + ((p2 &&& (2147483647 : Int32)) % ((7 : Int32) - ((p1 &&& (2147483647 : Int32)) % (7 : Int32)))))), .val (.int (f0_u9 p3)), .val (.int (f0_u10 p4)), .val (.ref b51), .unset] [(.int (((p5.toUInt32 >>> ((15 : Int32) &&& 31).toUInt32).toInt32) &&& (7 : Int32))), (.ref b2), (.int (5 : Int32)), (.ref b51)])) t → Steps p.tables e below (T91.setTop (mkF m 191 #[.val (.int p1), .val (.int p2), .val (.int p3), .val (.int p4), .val (.int p5), .val (.ref b2), .val (.int ((p1 &&& (2147483647 : Int32)) % (7 : Int32))), .val (.int (((p1 &&& (2147483647 : Int32)) % (7 : Int32)) + ((p2 &&& (2147483647 : Int32)) % ((7 : Int32) - ((p1 &&& (2147483647 : Int32)) % (7 : Int32)))))), .val (.int (f0_u9 p3)), .val (.int (f0_u10 p4)), .val (.ref b51), .unset] [])) t := by
    intro t k
    refine XS.aload X91.here hx rfl (hb hby at_191) rfl rfl ?_
    show Steps p.tables e below (T91.setTop (mkF m 193 #[.val (.int p1), .val (.int p2), .val (.int p3), .val (.int p4), .val (.int p5), .val (.ref b2), .val (.int ((p1 &&& (2147483647 : Int32)) % (7 : Int32))), .val (.int (((p1 &&& (2147483647 : Int32)) % (7 : Int32)) + ((p2 &&& (2147483647 : Int32)) % ((7 : Int32) - ((p1 &&& (2147483647 : Int32)) % (7 : Int32)))))), .val (.int (f0_u9 p3)), .val (.int (f0_u10 p4)), .val (.ref b51), .unset] [(.ref b51)])) t
    refine XS.iconst X91.here hx rfl (hb hby at_193) ?_
    show Steps p.tables e below (T91.setTop (mkF m 194 #[.val (.int p1), .val (.int p2), .val (.int p3), .val (.int p4), .val (.int p5), .val (.ref b2), .val (.int ((p1 &&& (2147483647 : Int32)) % (7 : Int32))), .val (.int (((p1 &&& (2147483647 : Int32)) % (7 : Int32)) + ((p2 &&& (2147483647 : Int32)) % ((7 : Int32) - ((p1 &&& (2147483647 : Int32)) % (7 : Int32)))))), .val (.int (f0_u9 p3)), .val (.int (f0_u10 p4)), .val (.ref b51), .unset] [(.int (5 : Int32)), (.ref b51)])) t
    refine XS.aload X91.here hx rfl (hb hby at_194) rfl rfl ?_
    show Steps p.tables e below (T91.setTop (mkF m 196 #[.val (.int p1), .val (.int p2), .val (.int p3), .val (.int p4), .val (.int p5), .val (.ref b2), .val (.int ((p1 &&& (2147483647 : Int32)) % (7 : Int32))), .val (.int (((p1 &&& (2147483647 : Int32)) % (7 : Int32)) + ((p2 &&& (2147483647 : Int32)) % ((7 : Int32) - ((p1 &&& (2147483647 : Int32)) % (7 : Int32)))))), .val (.int (f0_u9 p3)), .val (.int (f0_u10 p4)), .val (.ref b51), .unset] [(.ref b2), (.int (5 : Int32)), (.ref b51)])) t
    refine XS.iload X91.here hx rfl (hb hby at_196) rfl ?_
    show Steps p.tables e below (T91.setTop (mkF m 198 #[.val (.int p1), .val (.int p2), .val (.int p3), .val (.int p4), .val (.int p5), .val (.ref b2), .val (.int ((p1 &&& (2147483647 : Int32)) % (7 : Int32))), .val (.int (((p1 &&& (2147483647 : Int32)) % (7 : Int32)) + ((p2 &&& (2147483647 : Int32)) % ((7 : Int32) - ((p1 &&& (2147483647 : Int32)) % (7 : Int32)))))), .val (.int (f0_u9 p3)), .val (.int (f0_u10 p4)), .val (.ref b51), .unset] [(.int p5), (.ref b2), (.int (5 : Int32)), (.ref b51)])) t
    refine XS.bipush X91.here hx rfl (hb hby at_198) ?_
    show Steps p.tables e below (T91.setTop (mkF m 200 #[.val (.int p1), .val (.int p2), .val (.int p3), .val (.int p4), .val (.int p5), .val (.ref b2), .val (.int ((p1 &&& (2147483647 : Int32)) % (7 : Int32))), .val (.int (((p1 &&& (2147483647 : Int32)) % (7 : Int32)) + ((p2 &&& (2147483647 : Int32)) % ((7 : Int32) - ((p1 &&& (2147483647 : Int32)) % (7 : Int32)))))), .val (.int (f0_u9 p3)), .val (.int (f0_u10 p4)), .val (.ref b51), .unset] [(.int (15 : Int32)), (.int p5), (.ref b2), (.int (5 : Int32)), (.ref b51)])) t
    refine XS.iushr X91.here hx rfl (hb hby at_200) rfl ?_
    show Steps p.tables e below (T91.setTop (mkF m 201 #[.val (.int p1), .val (.int p2), .val (.int p3), .val (.int p4), .val (.int p5), .val (.ref b2), .val (.int ((p1 &&& (2147483647 : Int32)) % (7 : Int32))), .val (.int (((p1 &&& (2147483647 : Int32)) % (7 : Int32)) + ((p2 &&& (2147483647 : Int32)) % ((7 : Int32) - ((p1 &&& (2147483647 : Int32)) % (7 : Int32)))))), .val (.int (f0_u9 p3)), .val (.int (f0_u10 p4)), .val (.ref b51), .unset] [(.int ((p5.toUInt32 >>> ((15 : Int32) &&& 31).toUInt32).toInt32)), (.ref b2), (.int (5 : Int32)), (.ref b51)])) t
    refine XS.bipush X91.here hx rfl (hb hby at_201) ?_
    show Steps p.tables e below (T91.setTop (mkF m 203 #[.val (.int p1), .val (.int p2), .val (.int p3), .val (.int p4), .val (.int p5), .val (.ref b2), .val (.int ((p1 &&& (2147483647 : Int32)) % (7 : Int32))), .val (.int (((p1 &&& (2147483647 : Int32)) % (7 : Int32)) + ((p2 &&& (2147483647 : Int32)) % ((7 : Int32) - ((p1 &&& (2147483647 : Int32)) % (7 : Int32)))))), .val (.int (f0_u9 p3)), .val (.int (f0_u10 p4)), .val (.ref b51), .unset] [(.int (7 : Int32)), (.int ((p5.toUInt32 >>> ((15 : Int32) &&& 31).toUInt32).toInt32)), (.ref b2), (.int (5 : Int32)), (.ref b51)])) t
    refine XS.iand X91.here hx rfl (hb hby at_203) rfl ?_
    show Steps p.tables e below (T91.setTop (mkF m 204 #[.val (.int p1), .val (.int p2), .val (.int p3), .val (.int p4), .val (.int p5), .val (.ref b2), .val (.int ((p1 &&& (2147483647 : Int32)) % (7 : Int32))), .val (.int (((p1 &&& (2147483647 : Int32)) % (7 : Int32)) + ((p2 &&& (2147483647 : Int32)) % ((7 : Int32) - ((p1 &&& (2147483647 : Int32)) % (7 : Int32)))))), .val (.int (f0_u9 p3)), .val (.int (f0_u10 p4)), .val (.ref b51), .unset] [(.int (((p5.toUInt32 >>> ((15 : Int32) &&& 31).toUInt32).toInt32) &&& (7 : Int32))), (.ref b2), (.int (5 : Int32)), (.ref b51)])) t
    exact k
  have hin93 : ¬ (((p5.toUInt32 >>> ((15 : Int32) &&& 31).toUInt32).toInt32) &&& (7 : Int32)) < 0 ∧ (((p5.toUInt32 >>> ((15 : Int32) &&& 31).toUInt32).toInt32) &&& (7 : Int32)) < (8 : Int32) := by exact own_b7 _
  obtain ⟨cl94, Aq95, hjhin93, aq96⟩ := Ia.at A91_0 hin93
  have K98 : ∀ t, Steps p.tables e below (T91.setTop (mkF m 205 #[.val (.int p1), .val (.int p2), .val (.int p3), .val (.int p4), .val (.int p5), .val (.ref b2), .val (.int ((p1 &&& (2147483647 : Int32)) % (7 : Int32))), .val (.int (((p1 &&& (2147483647 : Int32)) % (7 : Int32)) + ((p2 &&& (2147483647 : Int32)) % ((7 : Int32) - ((p1 &&& (2147483647 : Int32)) % (7 : Int32)))))), .val (.int (f0_u9 p3)), .val (.int (f0_u10 p4)), .val (.ref b51), .unset] [(.int ((f0_u8) (((p5.toUInt32 >>> ((15 : Int32) &&& 31).toUInt32).toInt32) &&& (7 : Int32)))), (.int (5 : Int32)), (.ref b51)])) t → Steps p.tables e below (T91.setTop (mkF m 204 #[.val (.int p1), .val (.int p2), .val (.int p3), .val (.int p4), .val (.int p5), .val (.ref b2), .val (.int ((p1 &&& (2147483647 : Int32)) % (7 : Int32))), .val (.int (((p1 &&& (2147483647 : Int32)) % (7 : Int32)) + ((p2 &&& (2147483647 : Int32)) % ((7 : Int32) - ((p1 &&& (2147483647 : Int32)) % (7 : Int32)))))), .val (.int (f0_u9 p3)), .val (.int (f0_u10 p4)), .val (.ref b51), .unset] [(.int (((p5.toUInt32 >>> ((15 : Int32) &&& 31).toUInt32).toInt32) &&& (7 : Int32))), (.ref b2), (.int (5 : Int32)), (.ref b51)])) t := by
    intro t k
    refine X91.caload hx (j := (((p5.toUInt32 >>> ((15 : Int32) &&& 31).toUInt32).toInt32) &&& (7 : Int32))) (v := .int ((f0_u8) (((p5.toUInt32 >>> ((15 : Int32) &&& 31).toUInt32).toInt32) &&& (7 : Int32)))) (by rw [e91]; exact Aq95.1) (State.isArrayOf_alike hZ.alike Aq95.2.1) Aq95.2.2 hjhin93 aq96 (g := (mkF m 204 #[.val (.int p1), .val (.int p2), .val (.int p3), .val (.int p4), .val (.int p5), .val (.ref b2), .val (.int ((p1 &&& (2147483647 : Int32)) % (7 : Int32))), .val (.int (((p1 &&& (2147483647 : Int32)) % (7 : Int32)) + ((p2 &&& (2147483647 : Int32)) % ((7 : Int32) - ((p1 &&& (2147483647 : Int32)) % (7 : Int32)))))), .val (.int (f0_u9 p3)), .val (.int (f0_u10 p4)), .val (.ref b51), .unset] [(.int (((p5.toUInt32 >>> ((15 : Int32) &&& 31).toUInt32).toInt32) &&& (7 : Int32))), (.ref b2), (.int (5 : Int32)), (.ref b51)])) rfl rfl (hb hby at_204) _ ?_
    show Steps p.tables e below (T91.setTop (mkF m 205 #[.val (.int p1), .val (.int p2), .val (.int p3), .val (.int p4), .val (.int p5), .val (.ref b2), .val (.int ((p1 &&& (2147483647 : Int32)) % (7 : Int32))), .val (.int (((p1 &&& (2147483647 : Int32)) % (7 : Int32)) + ((p2 &&& (2147483647 : Int32)) % ((7 : Int32) - ((p1 &&& (2147483647 : Int32)) % (7 : Int32)))))), .val (.int (f0_u9 p3)), .val (.int (f0_u10 p4)), .val (.ref b51), .unset] [(.int ((f0_u8) (((p5.toUInt32 >>> ((15 : Int32) &&& 31).toUInt32).toInt32) &&& (7 : Int32)))), (.int (5 : Int32)), (.ref b51)])) t
    exact k
  have hin99 : ¬ (5 : Int32) < 0 ∧ (5 : Int32) < (6 : Int32) := by exact ⟨by decide, by decide⟩
  obtain ⟨cl99, Aq99, hj99, aq99⟩ := Ia.at Aw91 hin99
  obtain ⟨T99, h99, X99, e99, W99, st99⟩ := stC X91 hx hZ e91 Aq99 (j := (5 : Int32)) hj99 (g := (mkF m 205 #[.val (.int p1), .val (.int p2), .val (.int p3), .val (.int p4), .val (.int p5), .val (.ref b2), .val (.int ((p1 &&& (2147483647 : Int32)) % (7 : Int32))), .val (.int (((p1 &&& (2147483647 : Int32)) % (7 : Int32)) + ((p2 &&& (2147483647 : Int32)) % ((7 : Int32) - ((p1 &&& (2147483647 : Int32)) % (7 : Int32)))))), .val (.int (f0_u9 p3)), .val (.int (f0_u10 p4)), .val (.ref b51), .unset] [(.int ((f0_u8) (((p5.toUInt32 >>> ((15 : Int32) &&& 31).toUInt32).toInt32) &&& (7 : Int32)))), (.int (5 : Int32)), (.ref b51)])) rfl rfl (hb hby at_205)
  have KP99 : Keep h0 h99 [] := KP91.wr W99 (Or.inr sz_b51)
  have N99 := Fr.snoc X99 N91 gb_b51
  have A99_0 : Ia Z h99 b2 .char (8 : Int32) (f0_u8) := A91_0.other W99 ne51_0
  have Aw99 : Ia Z h99 b51 .char (6 : Int32) (f0_u16 p5) := Aw91.set W99 hin99.1
  have K100 : ∀ t, Steps p.tables e below (T99.setTop (mkF m 206 #[.val (.int p1), .val (.int p2), .val (.int p3), .val (.int p4), .val (.int p5), .val (.ref b2), .val (.int ((p1 &&& (2147483647 : Int32)) % (7 : Int32))), .val (.int (((p1 &&& (2147483647 : Int32)) % (7 : Int32)) + ((p2 &&& (2147483647 : Int32)) % ((7 : Int32) - ((p1 &&& (2147483647 : Int32)) % (7 : Int32)))))), .val (.int (f0_u9 p3)), .val (.int (f0_u10 p4)), .val (.ref b51), .unset] [])) t → Steps p.tables e below (T91.setTop (mkF m 205 #[.val (.int p1), .val (.int p2), .val (.int p3), .val (.int p4), .val (.int p5), .val (.ref b2), .val (.int ((p1 &&& (2147483647 : Int32)) % (7 : Int32))), .val (.int (((p1 &&& (2147483647 : Int32)) % (7 : Int32)) + ((p2 &&& (2147483647 : Int32)) % ((7 : Int32) - ((p1 &&& (2147483647 : Int32)) % (7 : Int32)))))), .val (.int (f0_u9 p3)), .val (.int (f0_u10 p4)), .val (.ref b51), .unset] [(.int ((f0_u8) (((p5.toUInt32 >>> ((15 : Int32) &&& 31).toUInt32).toInt32) &&& (7 : Int32)))), (.int (5 : Int32)), (.ref b51)])) t := fun t k => st99 _ k
  have K101 : ∀ t, Steps p.tables e below (T99.setTop (mkF m 208 #[.val (.int p1), .val (.int p2), .val (.int p3), .val (.int p4), .val (.int p5), .val (.ref b2), .val (.int ((p1 &&& (2147483647 : Int32)) % (7 : Int32))), .val (.int (((p1 &&& (2147483647 : Int32)) % (7 : Int32)) + ((p2 &&& (2147483647 : Int32)) % ((7 : Int32) - ((p1 &&& (2147483647 : Int32)) % (7 : Int32)))))), .val (.int (f0_u9 p3)), .val (.int (f0_u10 p4)), .val (.ref b51), .unset] [(.int ((p1 &&& (2147483647 : Int32)) % (7 : Int32)))])) t → Steps p.tables e below (T99.setTop (mkF m 206 #[.val (.int p1), .val (.int p2), .val (.int p3), .val (.int p4), .val (.int p5), .val (.ref b2), .val (.int ((p1 &&& (2147483647 : Int32)) % (7 : Int32))), .val (.int (((p1 &&& (2147483647 : Int32)) % (7 : Int32)) + ((p2 &&& (2147483647 : Int32)) % ((7 : Int32) - ((p1 &&& (2147483647 : Int32)) % (7 : Int32)))))), .val (.int (f0_u9 p3)), .val (.int (f0_u10 p4)), .val (.ref b51), .unset] [])) t := by
    intro t k
    refine XS.iload X99.here hx rfl (hb hby at_206) rfl ?_
    show Steps p.tables e below (T99.setTop (mkF m 208 #[.val (.int p1), .val (.int p2), .val (.int p3), .val (.int p4), .val (.int p5), .val (.ref b2), .val (.int ((p1 &&& (2147483647 : Int32)) % (7 : Int32))), .val (.int (((p1 &&& (2147483647 : Int32)) % (7 : Int32)) + ((p2 &&& (2147483647 : Int32)) % ((7 : Int32) - ((p1 &&& (2147483647 : Int32)) % (7 : Int32)))))), .val (.int (f0_u9 p3)), .val (.int (f0_u10 p4)), .val (.ref b51), .unset] [(.int ((p1 &&& (2147483647 : Int32)) % (7 : Int32)))])) t
    exact k
  obtain ⟨Tm102, hm102, Lm102, Xm102, em102, Nm102, KPm102, Mm102_1, Mm102_2, Km102⟩ : ∃ (T' : State) (h' : Heap) (L' : List Loc), Stand p l e room_1 s m #[(.int p1), (.int p2), (.int p3), (.int p4), (.int p5)] below meth c T' L' 2 14 ∧ T'.heap = h' ∧ Fr n0 L' ∧ Keep h0 h' [] ∧ Ia Z h' b2 .char (8 : Int32) (f0_u8) ∧ Ia Z h' b51 .char (6 : Int32) (f0_u18 p1 p3 p5) ∧ ∀ t, Steps p.tables e below (T'.setTop (mkF m 220 #[.val (.int p1), .val (.int p2), .val (.int p3), .val (.int p4), .val (.int p5), .val (.ref b2), .val (.int ((p1 &&& (2147483647 : Int32)) % (7 : Int32))), .val (.int (((p1 &&& (2147483647 : Int32)) % (7 : Int32)) + ((p2 &&& (2147483647 : Int32)) % ((7 : Int32) - ((p1 &&& (2147483647 : Int32)) % (7 : Int32)))))), .val (.int (f0_u9 p3)), .val (.int (f0_u10 p4)), .val (.ref b51), .unset] [])) t → Steps p.tables e below (T99.setTop (mkF m 208 #[.val (.int p1), .val (.int p2), .val (.int p3), .val (.int p4), .val (.int p5), .val (.ref b2), .val (.int ((p1 &&& (2147483647 : Int32)) % (7 : Int32))), .val (.int (((p1 &&& (2147483647 : Int32)) % (7 : Int32)) + ((p2 &&& (2147483647 : Int32)) % ((7 : Int32) - ((p1 &&& (2147483647 : Int32)) % (7 : Int32)))))), .val (.int (f0_u9 p3)), .val (.int (f0_u10 p4)), .val (.ref b51), .unset] [(.int ((p1 &&& (2147483647 : Int32)) % (7 : Int32)))])) t := by
    by_cases hc102 : (0 : Int32) < ((p1 &&& (2147483647 : Int32)) % (7 : Int32))
    · have K103 : ∀ t, Steps p.tables e below (T99.setTop (mkF m 211 #[.val (.int p1), .val (.int p2), .val (.int p3), .val (.int p4), .val (.int p5), .val (.ref b2), .val (.int ((p1 &&& (2147483647 : Int32)) % (7 : Int32))), .val (.int (((p1 &&& (2147483647 : Int32)) % (7 : Int32)) + ((p2 &&& (2147483647 : Int32)) % ((7 : Int32) - ((p1 &&& (2147483647 : Int32)) % (7 : Int32)))))), .val (.int (f0_u9 p3)), .val (.int (f0_u10 p4)), .val (.ref b51), .unset] [])) t → Steps p.tables e below (T99.setTop (mkF m 208 #[.val (.int p1), .val (.int p2), .val (.int p3), .val (.int p4), .val (.int p5), .val (.ref b2), .val (.int ((p1 &&& (2147483647 : Int32)) % (7 : Int32))), .val (.int (((p1 &&& (2147483647 : Int32)) % (7 : Int32)) + ((p2 &&& (2147483647 : Int32)) % ((7 : Int32) - ((p1 &&& (2147483647 : Int32)) % (7 : Int32)))))), .val (.int (f0_u9 p3)), .val (.int (f0_u10 p4)), .val (.ref b51), .unset] [(.int ((p1 &&& (2147483647 : Int32)) % (7 : Int32)))])) t := by
        intro t k
        refine XS.ifNo X99.here hx rfl (hb hby at_208) rfl ((if0 _ _).trans (tlt hc102).2.2.2) ?_
        exact k
      have K104 : ∀ t, Steps p.tables e below (T99.setTop (mkF m 219 #[.val (.int p1), .val (.int p2), .val (.int p3), .val (.int p4), .val (.int p5), .val (.ref b2), .val (.int ((p1 &&& (2147483647 : Int32)) % (7 : Int32))), .val (.int (((p1 &&& (2147483647 : Int32)) % (7 : Int32)) + ((p2 &&& (2147483647 : Int32)) % ((7 : Int32) - ((p1 &&& (2147483647 : Int32)) % (7 : Int32)))))), .val (.int (f0_u9 p3)), .val (.int (f0_u10 p4)), .val (.ref b51), .unset] [(.int (f0_u9 p3)), (.int (((p1 &&& (2147483647 : Int32)) % (7 : Int32)) - (1 : Int32))), (.ref b51)])) t → Steps p.tables e below (T99.setTop (mkF m 211 #[.val (.int p1), .val (.int p2), .val (.int p3), .val (.int p4), .val (.int p5), .val (.ref b2), .val (.int ((p1 &&& (2147483647 : Int32)) % (7 : Int32))), .val (.int (((p1 &&& (2147483647 : Int32)) % (7 : Int32)) + ((p2 &&& (2147483647 : Int32)) % ((7 : Int32) - ((p1 &&& (2147483647 : Int32)) % (7 : Int32)))))), .val (.int (f0_u9 p3)), .val (.int (f0_u10 p4)), .val (.ref b51), .unset] [])) t := by
        intro t k
        refine XS.aload X99.here hx rfl (hb hby at_211) rfl rfl ?_
        show Steps p.tables e below (T99.setTop (mkF m 213 #[.val (.int p1), .val (.int p2), .val (.int p3), .val (.int p4), .val (.int p5), .val (.ref b2), .val (.int ((p1 &&& (2147483647 : Int32)) % (7 : Int32))), .val (.int (((p1 &&& (2147483647 : Int32)) % (7 : Int32)) + ((p2 &&& (2147483647 : Int32)) % ((7 : Int32) - ((p1 &&& (2147483647 : Int32)) % (7 : Int32)))))), .val (.int (f0_u9 p3)), .val (.int (f0_u10 p4)), .val (.ref b51), .unset] [(.ref b51)])) t
        refine XS.iload X99.here hx rfl (hb hby at_213) rfl ?_
        show Steps p.tables e below (T99.setTop (mkF m 215 #[.val (.int p1), .val (.int p2), .val (.int p3), .val (.int p4), .val (.int p5), .val (.ref b2), .val (.int ((p1 &&& (2147483647 : Int32)) % (7 : Int32))), .val (.int (((p1 &&& (2147483647 : Int32)) % (7 : Int32)) + ((p2 &&& (2147483647 : Int32)) % ((7 : Int32) - ((p1 &&& (2147483647 : Int32)) % (7 : Int32)))))), .val (.int (f0_u9 p3)), .val (.int (f0_u10 p4)), .val (.ref b51), .unset] [(.int ((p1 &&& (2147483647 : Int32)) % (7 : Int32))), (.ref b51)])) t
        refine XS.iconst X99.here hx rfl (hb hby at_215) ?_
        show Steps p.tables e below (T99.setTop (mkF m 216 #[.val (.int p1), .val (.int p2), .val (.int p3), .val (.int p4), .val (.int p5), .val (.ref b2), .val (.int ((p1 &&& (2147483647 : Int32)) % (7 : Int32))), .val (.int (((p1 &&& (2147483647 : Int32)) % (7 : Int32)) + ((p2 &&& (2147483647 : Int32)) % ((7 : Int32) - ((p1 &&& (2147483647 : Int32)) % (7 : Int32)))))), .val (.int (f0_u9 p3)), .val (.int (f0_u10 p4)), .val (.ref b51), .unset] [(.int (1 : Int32)), (.int ((p1 &&& (2147483647 : Int32)) % (7 : Int32))), (.ref b51)])) t
        refine XS.isub X99.here hx rfl (hb hby at_216) rfl ?_
        show Steps p.tables e below (T99.setTop (mkF m 217 #[.val (.int p1), .val (.int p2), .val (.int p3), .val (.int p4), .val (.int p5), .val (.ref b2), .val (.int ((p1 &&& (2147483647 : Int32)) % (7 : Int32))), .val (.int (((p1 &&& (2147483647 : Int32)) % (7 : Int32)) + ((p2 &&& (2147483647 : Int32)) % ((7 : Int32) - ((p1 &&& (2147483647 : Int32)) % (7 : Int32)))))), .val (.int (f0_u9 p3)), .val (.int (f0_u10 p4)), .val (.ref b51), .unset] [(.int (((p1 &&& (2147483647 : Int32)) % (7 : Int32)) - (1 : Int32))), (.ref b51)])) t
        refine XS.iload X99.here hx rfl (hb hby at_217) rfl ?_
        show Steps p.tables e below (T99.setTop (mkF m 219 #[.val (.int p1), .val (.int p2), .val (.int p3), .val (.int p4), .val (.int p5), .val (.ref b2), .val (.int ((p1 &&& (2147483647 : Int32)) % (7 : Int32))), .val (.int (((p1 &&& (2147483647 : Int32)) % (7 : Int32)) + ((p2 &&& (2147483647 : Int32)) % ((7 : Int32) - ((p1 &&& (2147483647 : Int32)) % (7 : Int32)))))), .val (.int (f0_u9 p3)), .val (.int (f0_u10 p4)), .val (.ref b51), .unset] [(.int (f0_u9 p3)), (.int (((p1 &&& (2147483647 : Int32)) % (7 : Int32)) - (1 : Int32))), (.ref b51)])) t
        exact k
      have hin105 : ¬ (((p1 &&& (2147483647 : Int32)) % (7 : Int32)) - (1 : Int32)) < 0 ∧ (((p1 &&& (2147483647 : Int32)) % (7 : Int32)) - (1 : Int32)) < (6 : Int32) := by exact own_b1 _ _ (by assumption) (own_s6 _)
      obtain ⟨cl105, Aq105, hj105, aq105⟩ := Ia.at Aw99 hin105
      obtain ⟨T105, h105, X105, e105, W105, st105⟩ := stC X99 hx hZ e99 Aq105 (j := (((p1 &&& (2147483647 : Int32)) % (7 : Int32)) - (1 : Int32))) hj105 (g := (mkF m 219 #[.val (.int p1), .val (.int p2), .val (.int p3), .val (.int p4), .val (.int p5), .val (.ref b2), .val (.int ((p1 &&& (2147483647 : Int32)) % (7 : Int32))), .val (.int (((p1 &&& (2147483647 : Int32)) % (7 : Int32)) + ((p2 &&& (2147483647 : Int32)) % ((7 : Int32) - ((p1 &&& (2147483647 : Int32)) % (7 : Int32)))))), .val (.int (f0_u9 p3)), .val (.int (f0_u10 p4)), .val (.ref b51), .unset] [(.int (f0_u9 p3)), (.int (((p1 &&& (2147483647 : Int32)) % (7 : Int32)) - (1 : Int32))), (.ref b51)])) rfl rfl (hb hby at_219)
      have KP105 : Keep h0 h105 [] := KP99.wr W105 (Or.inr sz_b51)
      have N105 := Fr.snoc X105 N99 gb_b51
      have A105_0 : Ia Z h105 b2 .char (8 : Int32) (f0_u8) := A99_0.other W105 ne51_0
      have Aw105 : Ia Z h105 b51 .char (6 : Int32) (f0_u17 p1 p3 p5) := Aw99.set W105 hin105.1
      have K106 : ∀ t, Steps p.tables e below (T105.setTop (mkF m 220 #[.val (.int p1), .val (.int p2), .val (.int p3), .val (.int p4), .val (.int p5), .val (.ref b2), .val (.int ((p1 &&& (2147483647 : Int32)) % (7 : Int32))), .val (.int (((p1 &&& (2147483647 : Int32)) % (7 : Int32)) + ((p2 &&& (2147483647 : Int32)) % ((7 : Int32) - ((p1 &&& (2147483647 : Int32)) % (7 : Int32)))))), .val (.int (f0_u9 p3)), .val (.int (f0_u10 p4)), .val (.ref b51), .unset] [])) t → Steps p.tables e below (T99.setTop (mkF m 219 #[.val (.int p1), .val (.int p2), .val (.int p3), .val (.int p4), .val (.int p5), .val (.ref b2), .val (.int ((p1 &&& (2147483647 : Int32)) % (7 : Int32))), .val (.int (((p1 &&& (2147483647 : Int32)) % (7 : Int32)) + ((p2 &&& (2147483647 : Int32)) % ((7 : Int32) - ((p1 &&& (2147483647 : Int32)) % (7 : Int32)))))), .val (.int (f0_u9 p3)), .val (.int (f0_u10 p4)), .val (.ref b51), .unset] [(.int (f0_u9 p3)), (.int (((p1 &&& (2147483647 : Int32)) % (7 : Int32)) - (1 : Int32))), (.ref b51)])) t := fun t k => st105 _ k
      refine ⟨T105, _, _, X105, e105, N105, KP105, A105_0, (by rw [show (f0_u18 p1 p3 p5) = (f0_u17 p1 p3 p5) from if_pos hc102]; exact Aw105), fun t k => ?_⟩
      exact K103 _ (K104 _ (K106 _ (k)))
    · have K107 : ∀ t, Steps p.tables e below (T99.setTop (mkF m 220 #[.val (.int p1), .val (.int p2), .val (.int p3), .val (.int p4), .val (.int p5), .val (.ref b2), .val (.int ((p1 &&& (2147483647 : Int32)) % (7 : Int32))), .val (.int (((p1 &&& (2147483647 : Int32)) % (7 : Int32)) + ((p2 &&& (2147483647 : Int32)) % ((7 : Int32) - ((p1 &&& (2147483647 : Int32)) % (7 : Int32)))))), .val (.int (f0_u9 p3)), .val (.int (f0_u10 p4)), .val (.ref b51), .unset] [])) t → Steps p.tables e below (T99.setTop (mkF m 208 #[.val (.int p1), .val (.int p2), .val (.int p3), .val (.int p4), .val (.int p5), .val (.ref b2), .val (.int ((p1 &&& (2147483647 : Int32)) % (7 : Int32))), .val (.int (((p1 &&& (2147483647 : Int32)) % (7 : Int32)) + ((p2 &&& (2147483647 : Int32)) % ((7 : Int32) - ((p1 &&& (2147483647 : Int32)) % (7 : Int32)))))), .val (.int (f0_u9 p3)), .val (.int (f0_u10 p4)), .val (.ref b51), .unset] [(.int ((p1 &&& (2147483647 : Int32)) % (7 : Int32)))])) t := by
        intro t k
        refine XS.ifYes X99.here hx rfl (pc0 := 208) (pc' := 220) rfl (hb hby at_208) rfl ((if0 _ _).trans (flt hc102).2.2.2) (by decide) (by decide) ?_
        exact k
      refine ⟨T99, _, _, X99, e99, N99, KP99, A99_0, (by rw [show (f0_u18 p1 p3 p5) = (f0_u16 p5) from if_neg hc102]; exact Aw99), fun t k => ?_⟩
      exact K107 _ (k)
  have K108 : ∀ t, Steps p.tables e below (Tm102.setTop (mkF m 224 #[.val (.int p1), .val (.int p2), .val (.int p3), .val (.int p4), .val (.int p5), .val (.ref b2), .val (.int ((p1 &&& (2147483647 : Int32)) % (7 : Int32))), .val (.int (((p1 &&& (2147483647 : Int32)) % (7 : Int32)) + ((p2 &&& (2147483647 : Int32)) % ((7 : Int32) - ((p1 &&& (2147483647 : Int32)) % (7 : Int32)))))), .val (.int (f0_u9 p3)), .val (.int (f0_u10 p4)), .val (.ref b51), .unset] [(.int (6 : Int32)), (.int (((p1 &&& (2147483647 : Int32)) % (7 : Int32)) + ((p2 &&& (2147483647 : Int32)) % ((7 : Int32) - ((p1 &&& (2147483647 : Int32)) % (7 : Int32))))))])) t → Steps p.tables e below (Tm102.setTop (mkF m 220 #[.val (.int p1), .val (.int p2), .val (.int p3), .val (.int p4), .val (.int p5), .val (.ref b2), .val (.int ((p1 &&& (2147483647 : Int32)) % (7 : Int32))), .val (.int (((p1 &&& (2147483647 : Int32)) % (7 : Int32)) + ((p2 &&& (2147483647 : Int32)) % ((7 : Int32) - ((p1 &&& (2147483647 : Int32)) % (7 : Int32)))))), .val (.int (f0_u9 p3)), .val (.int (f0_u10 p4)), .val (.ref b51), .unset] [])) t := by
    intro t k
    refine XS.iload Xm102.here hx rfl (hb hby at_220) rfl ?_
    show Steps p.tables e below (Tm102.setTop (mkF m 222 #[.val (.int p1), .val (.int p2), .val (.int p3), .val (.int p4), .val (.int p5), .val (.ref b2), .val (.int ((p1 &&& (2147483647 : Int32)) % (7 : Int32))), .val (.int (((p1 &&& (2147483647 : Int32)) % (7 : Int32)) + ((p2 &&& (2147483647 : Int32)) % ((7 : Int32) - ((p1 &&& (2147483647 : Int32)) % (7 : Int32)))))), .val (.int (f0_u9 p3)), .val (.int (f0_u10 p4)), .val (.ref b51), .unset] [(.int (((p1 &&& (2147483647 : Int32)) % (7 : Int32)) + ((p2 &&& (2147483647 : Int32)) % ((7 : Int32) - ((p1 &&& (2147483647 : Int32)) % (7 : Int32))))))])) t
    refine XS.bipush Xm102.here hx rfl (hb hby at_222) ?_
    show Steps p.tables e below (Tm102.setTop (mkF m 224 #[.val (.int p1), .val (.int p2), .val (.int p3), .val (.int p4), .val (.int p5), .val (.ref b2), .val (.int ((p1 &&& (2147483647 : Int32)) % (7 : Int32))), .val (.int (((p1 &&& (2147483647 : Int32)) % (7 : Int32)) + ((p2 &&& (2147483647 : Int32)) % ((7 : Int32) - ((p1 &&& (2147483647 : Int32)) % (7 : Int32)))))), .val (.int (f0_u9 p3)), .val (.int (f0_u10 p4)), .val (.ref b51), .unset] [(.int (6 : Int32)), (.int (((p1 &&& (2147483647 : Int32)) % (7 : Int32)) + ((p2 &&& (2147483647 : Int32)) % ((7 : Int32) - ((p1 &&& (2147483647 : Int32)) % (7 : Int32))))))])) t
    exact k
  obtain ⟨Tm109, hm109, Lm109, Xm109, em109, Nm109, KPm109, Mm109_1, Mm109_2, Km109⟩ : ∃ (T' : State) (h' : Heap) (L' : List Loc), Stand p l e room_1 s m #[(.int p1), (.int p2), (.int p3), (.int p4), (.int p5)] below meth c T' L' 2 14 ∧ T'.heap = h' ∧ Fr n0 L' ∧ Keep h0 h' [] ∧ Ia Z h' b2 .char (8 : Int32) (f0_u8) ∧ Ia Z h' b51 .char (6 : Int32) (f0_u20 p1 p2 p3 p4 p5) ∧ ∀ t, Steps p.tables e below (T'.setTop (mkF m 234 #[.val (.int p1), .val (.int p2), .val (.int p3), .val (.int p4), .val (.int p5), .val (.ref b2), .val (.int ((p1 &&& (2147483647 : Int32)) % (7 : Int32))), .val (.int (((p1 &&& (2147483647 : Int32)) % (7 : Int32)) + ((p2 &&& (2147483647 : Int32)) % ((7 : Int32) - ((p1 &&& (2147483647 : Int32)) % (7 : Int32)))))), .val (.int (f0_u9 p3)), .val (.int (f0_u10 p4)), .val (.ref b51), .unset] [])) t → Steps p.tables e below (Tm102.setTop (mkF m 224 #[.val (.int p1), .val (.int p2), .val (.int p3), .val (.int p4), .val (.int p5), .val (.ref b2), .val (.int ((p1 &&& (2147483647 : Int32)) % (7 : Int32))), .val (.int (((p1 &&& (2147483647 : Int32)) % (7 : Int32)) + ((p2 &&& (2147483647 : Int32)) % ((7 : Int32) - ((p1 &&& (2147483647 : Int32)) % (7 : Int32)))))), .val (.int (f0_u9 p3)), .val (.int (f0_u10 p4)), .val (.ref b51), .unset] [(.int (6 : Int32)), (.int (((p1 &&& (2147483647 : Int32)) % (7 : Int32)) + ((p2 &&& (2147483647 : Int32)) % ((7 : Int32) - ((p1 &&& (2147483647 : Int32)) % (7 : Int32))))))])) t := by
    by_cases hc109 : (((p1 &&& (2147483647 : Int32)) % (7 : Int32)) + ((p2 &&& (2147483647 : Int32)) % ((7 : Int32) - ((p1 &&& (2147483647 : Int32)) % (7 : Int32))))) < (6 : Int32)
    · have K110 : ∀ t, Steps p.tables e below (Tm102.setTop (mkF m 227 #[.val (.int p1), .val (.int p2), .val (.int p3), .val (.int p4), .val (.int p5), .val (.ref b2), .val (.int ((p1 &&& (2147483647 : Int32)) % (7 : Int32))), .val (.int (((p1 &&& (2147483647 : Int32)) % (7 : Int32)) + ((p2 &&& (2147483647 : Int32)) % ((7 : Int32) - ((p1 &&& (2147483647 : Int32)) % (7 : Int32)))))), .val (.int (f0_u9 p3)), .val (.int (f0_u10 p4)), .val (.ref b51), .unset] [])) t → Steps p.tables e below (Tm102.setTop (mkF m 224 #[.val (.int p1), .val (.int p2), .val (.int p3), .val (.int p4), .val (.int p5), .val (.ref b2), .val (.int ((p1 &&& (2147483647 : Int32)) % (7 : Int32))), .val (.int (((p1 &&& (2147483647 : Int32)) % (7 : Int32)) + ((p2 &&& (2147483647 : Int32)) % ((7 : Int32) - ((p1 &&& (2147483647 : Int32)) % (7 : Int32)))))), .val (.int (f0_u9 p3)), .val (.int (f0_u10 p4)), .val (.ref b51), .unset] [(.int (6 : Int32)), (.int (((p1 &&& (2147483647 : Int32)) % (7 : Int32)) + ((p2 &&& (2147483647 : Int32)) % ((7 : Int32) - ((p1 &&& (2147483647 : Int32)) % (7 : Int32))))))])) t := by
        intro t k
        refine XS.icmpNo Xm102.here hx rfl (hb hby at_224) rfl (tlt hc109).2.1 ?_
        exact k
      have K111 : ∀ t, Steps p.tables e below (Tm102.setTop (mkF m 233 #[.val (.int p1), .val (.int p2), .val (.int p3), .val (.int p4), .val (.int p5), .val (.ref b2), .val (.int ((p1 &&& (2147483647 : Int32)) % (7 : Int32))), .val (.int (((p1 &&& (2147483647 : Int32)) % (7 : Int32)) + ((p2 &&& (2147483647 : Int32)) % ((7 : Int32) - ((p1 &&& (2147483647 : Int32)) % (7 : Int32)))))), .val (.int (f0_u9 p3)), .val (.int (f0_u10 p4)), .val (.ref b51), .unset] [(.int (f0_u10 p4)), (.int (((p1 &&& (2147483647 : Int32)) % (7 : Int32)) + ((p2 &&& (2147483647 : Int32)) % ((7 : Int32) - ((p1 &&& (2147483647 : Int32)) % (7 : Int32)))))), (.ref b51)])) t → Steps p.tables e below (Tm102.setTop (mkF m 227 #[.val (.int p1), .val (.int p2), .val (.int p3), .val (.int p4), .val (.int p5), .val (.ref b2), .val (.int ((p1 &&& (2147483647 : Int32)) % (7 : Int32))), .val (.int (((p1 &&& (2147483647 : Int32)) % (7 : Int32)) + ((p2 &&& (2147483647 : Int32)) % ((7 : Int32) - ((p1 &&& (2147483647 : Int32)) % (7 : Int32)))))), .val (.int (f0_u9 p3)), .val (.int (f0_u10 p4)), .val (.ref b51), .unset] [])) t := by
        intro t k
        refine XS.aload Xm102.here hx rfl (hb hby at_227) rfl rfl ?_
        show Steps p.tables e below (Tm102.setTop (mkF m 229 #[.val (.int p1), .val (.int p2), .val (.int p3), .val (.int p4), .val (.int p5), .val (.ref b2), .val (.int ((p1 &&& (2147483647 : Int32)) % (7 : Int32))), .val (.int (((p1 &&& (2147483647 : Int32)) % (7 : Int32)) + ((p2 &&& (2147483647 : Int32)) % ((7 : Int32) - ((p1 &&& (2147483647 : Int32)) % (7 : Int32)))))), .val (.int (f0_u9 p3)), .val (.int (f0_u10 p4)), .val (.ref b51), .unset] [(.ref b51)])) t
        refine XS.iload Xm102.here hx rfl (hb hby at_229) rfl ?_
        show Steps p.tables e below (Tm102.setTop (mkF m 231 #[.val (.int p1), .val (.int p2), .val (.int p3), .val (.int p4), .val (.int p5), .val (.ref b2), .val (.int ((p1 &&& (2147483647 : Int32)) % (7 : Int32))), .val (.int (((p1 &&& (2147483647 : Int32)) % (7 : Int32)) + ((p2 &&& (2147483647 : Int32)) % ((7 : Int32) - ((p1 &&& (2147483647 : Int32)) % (7 : Int32)))))), .val (.int (f0_u9 p3)), .val (.int (f0_u10 p4)), .val (.ref b51), .unset] [(.int (((p1 &&& (2147483647 : Int32)) % (7 : Int32)) + ((p2 &&& (2147483647 : Int32)) % ((7 : Int32) - ((p1 &&& (2147483647 : Int32)) % (7 : Int32)))))), (.ref b51)])) t
        refine XS.iload Xm102.here hx rfl (hb hby at_231) rfl ?_
        show Steps p.tables e below (Tm102.setTop (mkF m 233 #[.val (.int p1), .val (.int p2), .val (.int p3), .val (.int p4), .val (.int p5), .val (.ref b2), .val (.int ((p1 &&& (2147483647 : Int32)) % (7 : Int32))), .val (.int (((p1 &&& (2147483647 : Int32)) % (7 : Int32)) + ((p2 &&& (2147483647 : Int32)) % ((7 : Int32) - ((p1 &&& (2147483647 : Int32)) % (7 : Int32)))))), .val (.int (f0_u9 p3)), .val (.int (f0_u10 p4)), .val (.ref b51), .unset] [(.int (f0_u10 p4)), (.int (((p1 &&& (2147483647 : Int32)) % (7 : Int32)) + ((p2 &&& (2147483647 : Int32)) % ((7 : Int32) - ((p1 &&& (2147483647 : Int32)) % (7 : Int32)))))), (.ref b51)])) t
        exact k
      have hin112 : ¬ (((p1 &&& (2147483647 : Int32)) % (7 : Int32)) + ((p2 &&& (2147483647 : Int32)) % ((7 : Int32) - ((p1 &&& (2147483647 : Int32)) % (7 : Int32))))) < 0 ∧ (((p1 &&& (2147483647 : Int32)) % (7 : Int32)) + ((p2 &&& (2147483647 : Int32)) % ((7 : Int32) - ((p1 &&& (2147483647 : Int32)) % (7 : Int32))))) < (6 : Int32) := by exact ⟨own_e0 _ _, by assumption⟩
      obtain ⟨cl112, Aq112, hj112, aq112⟩ := Ia.at Mm102_2 hin112
      obtain ⟨T112, h112, X112, e112, W112, st112⟩ := stC Xm102 hx hZ em102 Aq112 (j := (((p1 &&& (2147483647 : Int32)) % (7 : Int32)) + ((p2 &&& (2147483647 : Int32)) % ((7 : Int32) - ((p1 &&& (2147483647 : Int32)) % (7 : Int32)))))) hj112 (g := (mkF m 233 #[.val (.int p1), .val (.int p2), .val (.int p3), .val (.int p4), .val (.int p5), .val (.ref b2), .val (.int ((p1 &&& (2147483647 : Int32)) % (7 : Int32))), .val (.int (((p1 &&& (2147483647 : Int32)) % (7 : Int32)) + ((p2 &&& (2147483647 : Int32)) % ((7 : Int32) - ((p1 &&& (2147483647 : Int32)) % (7 : Int32)))))), .val (.int (f0_u9 p3)), .val (.int (f0_u10 p4)), .val (.ref b51), .unset] [(.int (f0_u10 p4)), (.int (((p1 &&& (2147483647 : Int32)) % (7 : Int32)) + ((p2 &&& (2147483647 : Int32)) % ((7 : Int32) - ((p1 &&& (2147483647 : Int32)) % (7 : Int32)))))), (.ref b51)])) rfl rfl (hb hby at_233)
      have KP112 : Keep h0 h112 [] := KPm102.wr W112 (Or.inr sz_b51)
      have N112 := Fr.snoc X112 Nm102 gb_b51
      have A112_0 : Ia Z h112 b2 .char (8 : Int32) (f0_u8) := Mm102_1.other W112 ne51_0
      have Aw112 : Ia Z h112 b51 .char (6 : Int32) (f0_u19 p1 p2 p3 p4 p5) := Mm102_2.set W112 hin112.1
      have K113 : ∀ t, Steps p.tables e below (T112.setTop (mkF m 234 #[.val (.int p1), .val (.int p2), .val (.int p3), .val (.int p4), .val (.int p5), .val (.ref b2), .val (.int ((p1 &&& (2147483647 : Int32)) % (7 : Int32))), .val (.int (((p1 &&& (2147483647 : Int32)) % (7 : Int32)) + ((p2 &&& (2147483647 : Int32)) % ((7 : Int32) - ((p1 &&& (2147483647 : Int32)) % (7 : Int32)))))), .val (.int (f0_u9 p3)), .val (.int (f0_u10 p4)), .val (.ref b51), .unset] [])) t → Steps p.tables e below (Tm102.setTop (mkF m 233 #[.val (.int p1), .val (.int p2), .val (.int p3), .val (.int p4), .val (.int p5), .val (.ref b2), .val (.int ((p1 &&& (2147483647 : Int32)) % (7 : Int32))), .val (.int (((p1 &&& (2147483647 : Int32)) % (7 : Int32)) + ((p2 &&& (2147483647 : Int32)) % ((7 : Int32) - ((p1 &&& (2147483647 : Int32)) % (7 : Int32)))))), .val (.int (f0_u9 p3)), .val (.int (f0_u10 p4)), .val (.ref b51), .unset] [(.int (f0_u10 p4)), (.int (((p1 &&& (2147483647 : Int32)) % (7 : Int32)) + ((p2 &&& (2147483647 : Int32)) % ((7 : Int32) - ((p1 &&& (2147483647 : Int32)) % (7 : Int32)))))), (.ref b51)])) t := fun t k => st112 _ k
      refine ⟨T112, _, _, X112, e112, N112, KP112, A112_0, (by rw [show (f0_u20 p1 p2 p3 p4 p5) = (f0_u19 p1 p2 p3 p4 p5) from if_pos hc109]; exact Aw112), fun t k => ?_⟩
      exact K110 _ (K111 _ (K113 _ (k)))
    · have K114 : ∀ t, Steps p.tables e below (Tm102.setTop (mkF m 234 #[.val (.int p1), .val (.int p2), .val (.int p3), .val (.int p4), .val (.int p5), .val (.ref b2), .val (.int ((p1 &&& (2147483647 : Int32)) % (7 : Int32))), .val (.int (((p1 &&& (2147483647 : Int32)) % (7 : Int32)) + ((p2 &&& (2147483647 : Int32)) % ((7 : Int32) - ((p1 &&& (2147483647 : Int32)) % (7 : Int32)))))), .val (.int (f0_u9 p3)), .val (.int (f0_u10 p4)), .val (.ref b51), .unset] [])) t → Steps p.tables e below (Tm102.setTop (mkF m 224 #[.val (.int p1), .val (.int p2), .val (.int p3), .val (.int p4), .val (.int p5), .val (.ref b2), .val (.int ((p1 &&& (2147483647 : Int32)) % (7 : Int32))), .val (.int (((p1 &&& (2147483647 : Int32)) % (7 : Int32)) + ((p2 &&& (2147483647 : Int32)) % ((7 : Int32) - ((p1 &&& (2147483647 : Int32)) % (7 : Int32)))))), .val (.int (f0_u9 p3)), .val (.int (f0_u10 p4)), .val (.ref b51), .unset] [(.int (6 : Int32)), (.int (((p1 &&& (2147483647 : Int32)) % (7 : Int32)) + ((p2 &&& (2147483647 : Int32)) % ((7 : Int32) - ((p1 &&& (2147483647 : Int32)) % (7 : Int32))))))])) t := by
        intro t k
        refine XS.icmpYes Xm102.here hx rfl (pc0 := 224) (pc' := 234) rfl (hb hby at_224) rfl (flt hc109).2.1 (by decide) (by decide) ?_
        exact k
      refine ⟨Tm102, _, _, Xm102, em102, Nm102, KPm102, Mm102_1, (by rw [show (f0_u20 p1 p2 p3 p4 p5) = (f0_u18 p1 p3 p5) from if_neg hc109]; exact Mm102_2), fun t k => ?_⟩
      exact K114 _ (k)
  have K115 : ∀ t, Steps p.tables e below (Tm109.setTop (mkF m 236 #[.val (.int p1), .val (.int p2), .val (.int p3), .val (.int p4), .val (.int p5), .val (.ref b2), .val (.int ((p1 &&& (2147483647 : Int32)) % (7 : Int32))), .val (.int (((p1 &&& (2147483647 : Int32)) % (7 : Int32)) + ((p2 &&& (2147483647 : Int32)) % ((7 : Int32) - ((p1 &&& (2147483647 : Int32)) % (7 : Int32)))))), .val (.int (f0_u9 p3)), .val (.int (f0_u10 p4)), .val (.ref b51), .unset] [(.int ((p1 &&& (2147483647 : Int32)) % (7 : Int32)))])) t → Steps p.tables e below (Tm109.setTop (mkF m 234 #[.val (.int p1), .val (.int p2), .val (.int p3), .val (.int p4), .val (.int p5), .val (.ref b2), .val (.int ((p1 &&& (2147483647 : Int32)) % (7 : Int32))), .val (.int (((p1 &&& (2147483647 : Int32)) % (7 : Int32)) + ((p2 &&& (2147483647 : Int32)) % ((7 : Int32) - ((p1 &&& (2147483647 : Int32)) % (7 : Int32)))))), .val (.int (f0_u9 p3)), .val (.int (f0_u10 p4)), .val (.ref b51), .unset] [])) t := by
    intro t k
    refine XS.iload Xm109.here hx rfl (hb hby at_234) rfl ?_
    show Steps p.tables e below (Tm109.setTop (mkF m 236 #[.val (.int p1), .val (.int p2), .val (.int p3), .val (.int p4), .val (.int p5), .val (.ref b2), .val (.int ((p1 &&& (2147483647 : Int32)) % (7 : Int32))), .val (.int (((p1 &&& (2147483647 : Int32)) % (7 : Int32)) + ((p2 &&& (2147483647 : Int32)) % ((7 : Int32) - ((p1 &&& (2147483647 : Int32)) % (7 : Int32)))))), .val (.int (f0_u9 p3)), .val (.int (f0_u10 p4)), .val (.ref b51), .unset] [(.int ((p1 &&& (2147483647 : Int32)) % (7 : Int32)))])) t
    exact k
  obtain ⟨Tm116, Lm116, Xm116, em116, Nm116, Km116⟩ : ∃ (T' : State) (L' : List Loc), Stand p l e room_1 s m #[(.int p1), (.int p2), (.int p3), (.int p4), (.int p5)] below meth c T' L' 2 14 ∧ T'.heap = hm109 ∧ Fr n0 L' ∧ ∀ t, Steps p.tables e below (T'.setTop (mkF m 267 #[.val (.int p1), .val (.int p2), .val (.int p3), .val (.int p4), .val (.int p5), .val (.ref b2), .val (.int ((p1 &&& (2147483647 : Int32)) % (7 : Int32))), .val (.int (((p1 &&& (2147483647 : Int32)) % (7 : Int32)) + ((p2 &&& (2147483647 : Int32)) % ((7 : Int32) - ((p1 &&& (2147483647 : Int32)) % (7 : Int32)))))), .val (.int (f0_u9 p3)), .val (.int (f0_u10 p4)), .val (.ref b51), .unset] [(.int (f0_u21 p1 p2 p3 p4))])) t → Steps p.tables e below (Tm109.setTop (mkF m 236 #[.val (.int p1), .val (.int p2), .val (.int p3), .val (.int p4), .val (.int p5), .val (.ref b2), .val (.int ((p1 &&& (2147483647 : Int32)) % (7 : Int32))), .val (.int (((p1 &&& (2147483647 : Int32)) % (7 : Int32)) + ((p2 &&& (2147483647 : Int32)) % ((7 : Int32) - ((p1 &&& (2147483647 : Int32)) % (7 : Int32)))))), .val (.int (f0_u9 p3)), .val (.int (f0_u10 p4)), .val (.ref b51), .unset] [(.int ((p1 &&& (2147483647 : Int32)) % (7 : Int32)))])) t := by
    by_cases hc116 : (0 : Int32) < ((p1 &&& (2147483647 : Int32)) % (7 : Int32))
    · have K117 : ∀ t, Steps p.tables e below (Tm109.setTop (mkF m 239 #[.val (.int p1), .val (.int p2), .val (.int p3), .val (.int p4), .val (.int p5), .val (.ref b2), .val (.int ((p1 &&& (2147483647 : Int32)) % (7 : Int32))), .val (.int (((p1 &&& (2147483647 : Int32)) % (7 : Int32)) + ((p2 &&& (2147483647 : Int32)) % ((7 : Int32) - ((p1 &&& (2147483647 : Int32)) % (7 : Int32)))))), .val (.int (f0_u9 p3)), .val (.int (f0_u10 p4)), .val (.ref b51), .unset] [])) t → Steps p.tables e below (Tm109.setTop (mkF m 236 #[.val (.int p1), .val (.int p2), .val (.int p3), .val (.int p4), .val (.int p5), .val (.ref b2), .val (.int ((p1 &&& (2147483647 : Int32)) % (7 : Int32))), .val (.int (((p1 &&& (2147483647 : Int32)) % (7 : Int32)) + ((p2 &&& (2147483647 : Int32)) % ((7 : Int32) - ((p1 &&& (2147483647 : Int32)) % (7 : Int32)))))), .val (.int (f0_u9 p3)), .val (.int (f0_u10 p4)), .val (.ref b51), .unset] [(.int ((p1 &&& (2147483647 : Int32)) % (7 : Int32)))])) t := by
        intro t k
        refine XS.ifNo Xm109.here hx rfl (hb hby at_236) rfl ((if0 _ _).trans (tlt hc116).2.2.2) ?_
        exact k
      have K118 : ∀ t, Steps p.tables e below (Tm109.setTop (mkF m 243 #[.val (.int p1), .val (.int p2), .val (.int p3), .val (.int p4), .val (.int p5), .val (.ref b2), .val (.int ((p1 &&& (2147483647 : Int32)) % (7 : Int32))), .val (.int (((p1 &&& (2147483647 : Int32)) % (7 : Int32)) + ((p2 &&& (2147483647 : Int32)) % ((7 : Int32) - ((p1 &&& (2147483647 : Int32)) % (7 : Int32)))))), .val (.int (f0_u9 p3)), .val (.int (f0_u10 p4)), .val (.ref b51), .unset] [(.int (6 : Int32)), (.int (((p1 &&& (2147483647 : Int32)) % (7 : Int32)) + ((p2 &&& (2147483647 : Int32)) % ((7 : Int32) - ((p1 &&& (2147483647 : Int32)) % (7 : Int32))))))])) t → Steps p.tables e below (Tm109.setTop (mkF m 239 #[.val (.int p1), .val (.int p2), .val (.int p3), .val (.int p4), .val (.int p5), .val (.ref b2), .val (.int ((p1 &&& (2147483647 : Int32)) % (7 : Int32))), .val (.int (((p1 &&& (2147483647 : Int32)) % (7 : Int32)) + ((p2 &&& (2147483647 : Int32)) % ((7 : Int32) - ((p1 &&& (2147483647 : Int32)) % (7 : Int32)))))), .val (.int (f0_u9 p3)), .val (.int (f0_u10 p4)), .val (.ref b51), .unset] [])) t := by
        intro t k
        refine XS.iload Xm109.here hx rfl (hb hby at_239) rfl ?_
        show Steps p.tables e below (Tm109.setTop (mkF m 241 #[.val (.int p1), .val (.int p2), .val (.int p3), .val (.int p4), .val (.int p5), .val (.ref b2), .val (.int ((p1 &&& (2147483647 : Int32)) % (7 : Int32))), .val (.int (((p1 &&& (2147483647 : Int32)) % (7 : Int32)) + ((p2 &&& (2147483647 : Int32)) % ((7 : Int32) - ((p1 &&& (2147483647 : Int32)) % (7 : Int32)))))), .val (.int (f0_u9 p3)), .val (.int (f0_u10 p4)), .val (.ref b51), .unset] [(.int (((p1 &&& (2147483647 : Int32)) % (7 : Int32)) + ((p2 &&& (2147483647 : Int32)) % ((7 : Int32) - ((p1 &&& (2147483647 : Int32)) % (7 : Int32))))))])) t
        refine XS.bipush Xm109.here hx rfl (hb hby at_241) ?_
        show Steps p.tables e below (Tm109.setTop (mkF m 243 #[.val (.int p1), .val (.int p2), .val (.int p3), .val (.int p4), .val (.int p5), .val (.ref b2), .val (.int ((p1 &&& (2147483647 : Int32)) % (7 : Int32))), .val (.int (((p1 &&& (2147483647 : Int32)) % (7 : Int32)) + ((p2 &&& (2147483647 : Int32)) % ((7 : Int32) - ((p1 &&& (2147483647 : Int32)) % (7 : Int32)))))), .val (.int (f0_u9 p3)), .val (.int (f0_u10 p4)), .val (.ref b51), .unset] [(.int (6 : Int32)), (.int (((p1 &&& (2147483647 : Int32)) % (7 : Int32)) + ((p2 &&& (2147483647 : Int32)) % ((7 : Int32) - ((p1 &&& (2147483647 : Int32)) % (7 : Int32))))))])) t
        exact k
      by_cases hc119 : (((p1 &&& (2147483647 : Int32)) % (7 : Int32)) + ((p2 &&& (2147483647 : Int32)) % ((7 : Int32) - ((p1 &&& (2147483647 : Int32)) % (7 : Int32))))) < (6 : Int32)
      · have K120 : ∀ t, Steps p.tables e below (Tm109.setTop (mkF m 246 #[.val (.int p1), .val (.int p2), .val (.int p3), .val (.int p4), .val (.int p5), .val (.ref b2), .val (.int ((p1 &&& (2147483647 : Int32)) % (7 : Int32))), .val (.int (((p1 &&& (2147483647 : Int32)) % (7 : Int32)) + ((p2 &&& (2147483647 : Int32)) % ((7 : Int32) - ((p1 &&& (2147483647 : Int32)) % (7 : Int32)))))), .val (.int (f0_u9 p3)), .val (.int (f0_u10 p4)), .val (.ref b51), .unset] [])) t → Steps p.tables e below (Tm109.setTop (mkF m 243 #[.val (.int p1), .val (.int p2), .val (.int p3), .val (.int p4), .val (.int p5), .val (.ref b2), .val (.int ((p1 &&& (2147483647 : Int32)) % (7 : Int32))), .val (.int (((p1 &&& (2147483647 : Int32)) % (7 : Int32)) + ((p2 &&& (2147483647 : Int32)) % ((7 : Int32) - ((p1 &&& (2147483647 : Int32)) % (7 : Int32)))))), .val (.int (f0_u9 p3)), .val (.int (f0_u10 p4)), .val (.ref b51), .unset] [(.int (6 : Int32)), (.int (((p1 &&& (2147483647 : Int32)) % (7 : Int32)) + ((p2 &&& (2147483647 : Int32)) % ((7 : Int32) - ((p1 &&& (2147483647 : Int32)) % (7 : Int32))))))])) t := by
          intro t k
          refine XS.icmpNo Xm109.here hx rfl (hb hby at_243) rfl (tlt hc119).2.1 ?_
          exact k
        have K121 : ∀ t, Steps p.tables e below (Tm109.setTop (mkF m 248 #[.val (.int p1), .val (.int p2), .val (.int p3), .val (.int p4), .val (.int p5), .val (.ref b2), .val (.int ((p1 &&& (2147483647 : Int32)) % (7 : Int32))), .val (.int (((p1 &&& (2147483647 : Int32)) % (7 : Int32)) + ((p2 &&& (2147483647 : Int32)) % ((7 : Int32) - ((p1 &&& (2147483647 : Int32)) % (7 : Int32)))))), .val (.int (f0_u9 p3)), .val (.int (f0_u10 p4)), .val (.ref b51), .unset] [(.int (f0_u9 p3))])) t → Steps p.tables e below (Tm109.setTop (mkF m 246 #[.val (.int p1), .val (.int p2), .val (.int p3), .val (.int p4), .val (.int p5), .val (.ref b2), .val (.int ((p1 &&& (2147483647 : Int32)) % (7 : Int32))), .val (.int (((p1 &&& (2147483647 : Int32)) % (7 : Int32)) + ((p2 &&& (2147483647 : Int32)) % ((7 : Int32) - ((p1 &&& (2147483647 : Int32)) % (7 : Int32)))))), .val (.int (f0_u9 p3)), .val (.int (f0_u10 p4)), .val (.ref b51), .unset] [])) t := by
          intro t k
          refine XS.iload Xm109.here hx rfl (hb hby at_246) rfl ?_
          show Steps p.tables e below (Tm109.setTop (mkF m 248 #[.val (.int p1), .val (.int p2), .val (.int p3), .val (.int p4), .val (.int p5), .val (.ref b2), .val (.int ((p1 &&& (2147483647 : Int32)) % (7 : Int32))), .val (.int (((p1 &&& (2147483647 : Int32)) % (7 : Int32)) + ((p2 &&& (2147483647 : Int32)) % ((7 : Int32) - ((p1 &&& (2147483647 : Int32)) % (7 : Int32)))))), .val (.int (f0_u9 p3)), .val (.int (f0_u10 p4)), .val (.ref b51), .unset] [(.int (f0_u9 p3))])) t
          exact k
        obtain ⟨_, _, ⟨T122, L122, k122, n122⟩, -, X122, ⟨Lc122, hQ122, l122, y122, z122⟩, st122⟩ := Jvm.LawKit.callS Xm109 hx (y := (⟨"com/example/clapboard/clapboard/parse/TitleTextIsAloneInBracketsPinLaw", "isOpener", "(C)Z"⟩ : MethodName)) hown (mvT hZ (hw _ (List.mem_of_getElem? (i := 7) rfl))) (mvT hZ (hw _ (List.mem_of_getElem? (i := 8) rfl))) (mvT hZ (hw _ (List.mem_of_getElem? (i := 9) rfl))) (mvT hZ (hw _ (List.mem_of_getElem? (i := 10) rfl))) (by decide) (backOf (W := 0) (rm2 l Z a0 hw [] (f0_u9 p3) hm109 n0 (Nat.le_trans Z0 KPm109.1) ) hZ (hw _ (List.mem_of_getElem? (i := 10) rfl)) (hw _ (List.mem_of_getElem? (i := 9) rfl)) (by decide) (by decide)) (g := (mkF m 248 #[.val (.int p1), .val (.int p2), .val (.int p3), .val (.int p4), .val (.int p5), .val (.ref b2), .val (.int ((p1 &&& (2147483647 : Int32)) % (7 : Int32))), .val (.int (((p1 &&& (2147483647 : Int32)) % (7 : Int32)) + ((p2 &&& (2147483647 : Int32)) % ((7 : Int32) - ((p1 &&& (2147483647 : Int32)) % (7 : Int32)))))), .val (.int (f0_u9 p3)), .val (.int (f0_u10 p4)), .val (.ref b51), .unset] [(.int (f0_u9 p3))])) rfl (by rw [hml]; rfl) (argsL := [(.int (f0_u9 p3))]) (rest := []) (lenOf pd_1 rfl) rfl (by show 2 * 0 + _ ≤ _; exact Nat.le_of_eq rfl) (hb hby at_248) (fun _ _ => ⟨rfl, em109, (by decide : 2 + 0 ≤ _), (by decide : 14 + 0 ≤ _)⟩)
        dsimp only [Pt.U, Pt.locs, Pt.cells, Pt.slots] at X122 l122 y122 z122 st122 hQ122
        subst l122 y122 z122
        obtain ⟨rfl, N122q, e122⟩ := hQ122
        have N122 := Fr.app Nm109 N122q
        have K123 : ∀ t, Steps p.tables e below (T122.setTop (mkF m 251 #[.val (.int p1), .val (.int p2), .val (.int p3), .val (.int p4), .val (.int p5), .val (.ref b2), .val (.int ((p1 &&& (2147483647 : Int32)) % (7 : Int32))), .val (.int (((p1 &&& (2147483647 : Int32)) % (7 : Int32)) + ((p2 &&& (2147483647 : Int32)) % ((7 : Int32) - ((p1 &&& (2147483647 : Int32)) % (7 : Int32)))))), .val (.int (f0_u9 p3)), .val (.int (f0_u10 p4)), .val (.ref b51), .unset] [(.int (f2 (f0_u9 p3)))])) t → Steps p.tables e below (Tm109.setTop (mkF m 248 #[.val (.int p1), .val (.int p2), .val (.int p3), .val (.int p4), .val (.int p5), .val (.ref b2), .val (.int ((p1 &&& (2147483647 : Int32)) % (7 : Int32))), .val (.int (((p1 &&& (2147483647 : Int32)) % (7 : Int32)) + ((p2 &&& (2147483647 : Int32)) % ((7 : Int32) - ((p1 &&& (2147483647 : Int32)) % (7 : Int32)))))), .val (.int (f0_u9 p3)), .val (.int (f0_u10 p4)), .val (.ref b51), .unset] [(.int (f0_u9 p3))])) t := fun t k => st122 _ k
        by_cases hc124 : (f2 (f0_u9 p3)) = (0 : Int32)
        · have K125 : ∀ t, Steps p.tables e below (T122.setTop (mkF m 266 #[.val (.int p1), .val (.int p2), .val (.int p3), .val (.int p4), .val (.int p5), .val (.ref b2), .val (.int ((p1 &&& (2147483647 : Int32)) % (7 : Int32))), .val (.int (((p1 &&& (2147483647 : Int32)) % (7 : Int32)) + ((p2 &&& (2147483647 : Int32)) % ((7 : Int32) - ((p1 &&& (2147483647 : Int32)) % (7 : Int32)))))), .val (.int (f0_u9 p3)), .val (.int (f0_u10 p4)), .val (.ref b51), .unset] [])) t → Steps p.tables e below (T122.setTop (mkF m 251 #[.val (.int p1), .val (.int p2), .val (.int p3), .val (.int p4), .val (.int p5), .val (.ref b2), .val (.int ((p1 &&& (2147483647 : Int32)) % (7 : Int32))), .val (.int (((p1 &&& (2147483647 : Int32)) % (7 : Int32)) + ((p2 &&& (2147483647 : Int32)) % ((7 : Int32) - ((p1 &&& (2147483647 : Int32)) % (7 : Int32)))))), .val (.int (f0_u9 p3)), .val (.int (f0_u10 p4)), .val (.ref b51), .unset] [(.int (f2 (f0_u9 p3)))])) t := by
            intro t k
            refine XS.ifYes X122.here hx rfl (pc0 := 251) (pc' := 266) rfl (hb hby at_251) rfl ((if0 _ _).trans (teq hc124).1) (by decide) (by decide) ?_
            exact k
          have K126 : ∀ t, Steps p.tables e below (T122.setTop (mkF m 267 #[.val (.int p1), .val (.int p2), .val (.int p3), .val (.int p4), .val (.int p5), .val (.ref b2), .val (.int ((p1 &&& (2147483647 : Int32)) % (7 : Int32))), .val (.int (((p1 &&& (2147483647 : Int32)) % (7 : Int32)) + ((p2 &&& (2147483647 : Int32)) % ((7 : Int32) - ((p1 &&& (2147483647 : Int32)) % (7 : Int32)))))), .val (.int (f0_u9 p3)), .val (.int (f0_u10 p4)), .val (.ref b51), .unset] [(.int (0 : Int32))])) t → Steps p.tables e below (T122.setTop (mkF m 266 #[.val (.int p1), .val (.int p2), .val (.int p3), .val (.int p4), .val (.int p5), .val (.ref b2), .val (.int ((p1 &&& (2147483647 : Int32)) % (7 : Int32))), .val (.int (((p1 &&& (2147483647 : Int32)) % (7 : Int32)) + ((p2 &&& (2147483647 : Int32)) % ((7 : Int32) - ((p1 &&& (2147483647 : Int32)) % (7 : Int32)))))), .val (.int (f0_u9 p3)), .val (.int (f0_u10 p4)), .val (.ref b51), .unset] [])) t := by
            intro t k
            refine XS.iconst X122.here hx rfl (hb hby at_266) ?_
            show Steps p.tables e below (T122.setTop (mkF m 267 #[.val (.int p1), .val (.int p2), .val (.int p3), .val (.int p4), .val (.int p5), .val (.ref b2), .val (.int ((p1 &&& (2147483647 : Int32)) % (7 : Int32))), .val (.int (((p1 &&& (2147483647 : Int32)) % (7 : Int32)) + ((p2 &&& (2147483647 : Int32)) % ((7 : Int32) - ((p1 &&& (2147483647 : Int32)) % (7 : Int32)))))), .val (.int (f0_u9 p3)), .val (.int (f0_u10 p4)), .val (.ref b51), .unset] [(.int (0 : Int32))])) t
            exact k
          refine ⟨T122, _, X122, e122, N122, fun t k => ?_⟩
          rw [show (f0_u21 p1 p2 p3 p4) = (0 : Int32) from (if_pos hc116).trans ((if_pos hc119).trans (if_pos hc124))] at k
          exact K117 _ (K118 _ (K120 _ (K121 _ (K123 _ (K125 _ (K126 _ (k)))))))
        · have K127 : ∀ t, Steps p.tables e below (T122.setTop (mkF m 254 #[.val (.int p1), .val (.int p2), .val (.int p3), .val (.int p4), .val (.int p5), .val (.ref b2), .val (.int ((p1 &&& (2147483647 : Int32)) % (7 : Int32))), .val (.int (((p1 &&& (2147483647 : Int32)) % (7 : Int32)) + ((p2 &&& (2147483647 : Int32)) % ((7 : Int32) - ((p1 &&& (2147483647 : Int32)) % (7 : Int32)))))), .val (.int (f0_u9 p3)), .val (.int (f0_u10 p4)), .val (.ref b51), .unset] [])) t → Steps p.tables e below (T122.setTop (mkF m 251 #[.val (.int p1), .val (.int p2), .val (.int p3), .val (.int p4), .val (.int p5), .val (.ref b2), .val (.int ((p1 &&& (2147483647 : Int32)) % (7 : Int32))), .val (.int (((p1 &&& (2147483647 : Int32)) % (7 : Int32)) + ((p2 &&& (2147483647 : Int32)) % ((7 : Int32) - ((p1 &&& (2147483647 : Int32)) % (7 : Int32)))))), .val (.int (f0_u9 p3)), .val (.int (f0_u10 p4)), .val (.ref b51), .unset] [(.int (f2 (f0_u9 p3)))])) t := by
            intro t k
            refine XS.ifNo X122.here hx rfl (hb hby at_251) rfl ((if0 _ _).trans (feq hc124).1) ?_
            exact k
          have K128 : ∀ t, Steps p.tables e below (T122.setTop (mkF m 256 #[.val (.int p1), .val (.int p2), .val (.int p3), .val (.int p4), .val (.int p5), .val (.ref b2), .val (.int ((p1 &&& (2147483647 : Int32)) % (7 : Int32))), .val (.int (((p1 &&& (2147483647 : Int32)) % (7 : Int32)) + ((p2 &&& (2147483647 : Int32)) % ((7 : Int32) - ((p1 &&& (2147483647 : Int32)) % (7 : Int32)))))), .val (.int (f0_u9 p3)), .val (.int (f0_u10 p4)), .val (.ref b51), .unset] [(.int (f0_u10 p4))])) t → Steps p.tables e below (T122.setTop (mkF m 254 #[.val (.int p1), .val (.int p2), .val (.int p3), .val (.int p4), .val (.int p5), .val (.ref b2), .val (.int ((p1 &&& (2147483647 : Int32)) % (7 : Int32))), .val (.int (((p1 &&& (2147483647 : Int32)) % (7 : Int32)) + ((p2 &&& (2147483647 : Int32)) % ((7 : Int32) - ((p1 &&& (2147483647 : Int32)) % (7 : Int32)))))), .val (.int (f0_u9 p3)), .val (.int (f0_u10 p4)), .val (.ref b51), .unset] [])) t := by
            intro t k
            refine XS.iload X122.here hx rfl (hb hby at_254) rfl ?_
            show Steps p.tables e below (T122.setTop (mkF m 256 #[.val (.int p1), .val (.int p2), .val (.int p3), .val (.int p4), .val (.int p5), .val (.ref b2), .val (.int ((p1 &&& (2147483647 : Int32)) % (7 : Int32))), .val (.int (((p1 &&& (2147483647 : Int32)) % (7 : Int32)) + ((p2 &&& (2147483647 : Int32)) % ((7 : Int32) - ((p1 &&& (2147483647 : Int32)) % (7 : Int32)))))), .val (.int (f0_u9 p3)), .val (.int (f0_u10 p4)), .val (.ref b51), .unset] [(.int (f0_u10 p4))])) t
            exact k
          obtain ⟨_, _, ⟨T129, L129, k129, n129⟩, -, X129, ⟨Lc129, hQ129, l129, y129, z129⟩, st129⟩ := Jvm.LawKit.callS X122 hx (y := (⟨"com/example/clapboard/clapboard/parse/TitleTextIsAloneInBracketsPinLaw", "isCloser", "(C)Z"⟩ : MethodName)) hown (mvT hZ (hw _ (List.mem_of_getElem? (i := 14) rfl))) (mvT hZ (hw _ (List.mem_of_getElem? (i := 15) rfl))) (mvT hZ (hw _ (List.mem_of_getElem? (i := 9) rfl))) (mvT hZ (hw _ (List.mem_of_getElem? (i := 16) rfl))) (by decide) (backOf (W := 0) (rm4 l Z a0 hw [] (f0_u10 p4) hm109 n0 (Nat.le_trans Z0 KPm109.1) ) hZ (hw _ (List.mem_of_getElem? (i := 16) rfl)) (hw _ (List.mem_of_getElem? (i := 9) rfl)) (by decide) (by decide)) (g := (mkF m 256 #[.val (.int p1), .val (.int p2), .val (.int p3), .val (.int p4), .val (.int p5), .val (.ref b2), .val (.int ((p1 &&& (2147483647 : Int32)) % (7 : Int32))), .val (.int (((p1 &&& (2147483647 : Int32)) % (7 : Int32)) + ((p2 &&& (2147483647 : Int32)) % ((7 : Int32) - ((p1 &&& (2147483647 : Int32)) % (7 : Int32)))))), .val (.int (f0_u9 p3)), .val (.int (f0_u10 p4)), .val (.ref b51), .unset] [(.int (f0_u10 p4))])) rfl (by rw [hml]; rfl) (argsL := [(.int (f0_u10 p4))]) (rest := []) (lenOf pd_1 rfl) rfl (by show 2 * 0 + _ ≤ _; exact Nat.le_of_eq rfl) (hb hby at_256) (fun _ _ => ⟨rfl, e122, (by decide : 2 + 0 ≤ _), (by decide : 14 + 0 ≤ _)⟩)
          dsimp only [Pt.U, Pt.locs, Pt.cells, Pt.slots] at X129 l129 y129 z129 st129 hQ129
          subst l129 y129 z129
          obtain ⟨rfl, N129q, e129⟩ := hQ129
          have N129 := Fr.app N122 N129q
          have K130 : ∀ t, Steps p.tables e below (T129.setTop (mkF m 259 #[.val (.int p1), .val (.int p2), .val (.int p3), .val (.int p4), .val (.int p5), .val (.ref b2), .val (.int ((p1 &&& (2147483647 : Int32)) % (7 : Int32))), .val (.int (((p1 &&& (2147483647 : Int32)) % (7 : Int32)) + ((p2 &&& (2147483647 : Int32)) % ((7 : Int32) - ((p1 &&& (2147483647 : Int32)) % (7 : Int32)))))), .val (.int (f0_u9 p3)), .val (.int (f0_u10 p4)), .val (.ref b51), .unset] [(.int (f4 (f0_u10 p4)))])) t → Steps p.tables e below (T122.setTop (mkF m 256 #[.val (.int p1), .val (.int p2), .val (.int p3), .val (.int p4), .val (.int p5), .val (.ref b2), .val (.int ((p1 &&& (2147483647 : Int32)) % (7 : Int32))), .val (.int (((p1 &&& (2147483647 : Int32)) % (7 : Int32)) + ((p2 &&& (2147483647 : Int32)) % ((7 : Int32) - ((p1 &&& (2147483647 : Int32)) % (7 : Int32)))))), .val (.int (f0_u9 p3)), .val (.int (f0_u10 p4)), .val (.ref b51), .unset] [(.int (f0_u10 p4))])) t := fun t k => st129 _ k
          by_cases hc131 : (f4 (f0_u10 p4)) = (0 : Int32)
          · have K132 : ∀ t, Steps p.tables e below (T129.setTop (mkF m 266 #[.val (.int p1), .val (.int p2), .val (.int p3), .val (.int p4), .val (.int p5), .val (.ref b2), .val (.int ((p1 &&& (2147483647 : Int32)) % (7 : Int32))), .val (.int (((p1 &&& (2147483647 : Int32)) % (7 : Int32)) + ((p2 &&& (2147483647 : Int32)) % ((7 : Int32) - ((p1 &&& (2147483647 : Int32)) % (7 : Int32)))))), .val (.int (f0_u9 p3)), .val (.int (f0_u10 p4)), .val (.ref b51), .unset] [])) t → Steps p.tables e below (T129.setTop (mkF m 259 #[.val (.int p1), .val (.int p2), .val (.int p3), .val (.int p4), .val (.int p5), .val (.ref b2), .val (.int ((p1 &&& (2147483647 : Int32)) % (7 : Int32))), .val (.int (((p1 &&& (2147483647 : Int32)) % (7 : Int32)) + ((p2 &&& (2147483647 : Int32)) % ((7 : Int32) - ((p1 &&& (2147483647 : Int32)) % (7 : Int32)))))), .val (.int (f0_u9 p3)), .val (.int (f0_u10 p4)), .val (.ref b51), .unset] [(.int (f4 (f0_u10 p4)))])) t := by
              intro t k
              refine XS.ifYes X129.here hx rfl (pc0 := 259) (pc' := 266) rfl (hb hby at_259) rfl ((if0 _ _).trans (teq hc131).1) (by decide) (by decide) ?_
              exact k
            have K133 : ∀ t, Steps p.tables e below (T129.setTop (mkF m 267 #[.val (.int p1), .val (.int p2), .val (.int p3), .val (.int p4), .val (.int p5), .val (.ref b2), .val (.int ((p1 &&& (2147483647 : Int32)) % (7 : Int32))), .val (.int (((p1 &&& (2147483647 : Int32)) % (7 : Int32)) + ((p2 &&& (2147483647 : Int32)) % ((7 : Int32) - ((p1 &&& (2147483647 : Int32)) % (7 : Int32)))))), .val (.int (f0_u9 p3)), .val (.int (f0_u10 p4)), .val (.ref b51), .unset] [(.int (0 : Int32))])) t → Steps p.tables e below (T129.setTop (mkF m 266 #[.val (.int p1), .val (.int p2), .val (.int p3), .val (.int p4), .val (.int p5), .val (.ref b2), .val (.int ((p1 &&& (2147483647 : Int32)) % (7 : Int32))), .val (.int (((p1 &&& (2147483647 : Int32)) % (7 : Int32)) + ((p2 &&& (2147483647 : Int32)) % ((7 : Int32) - ((p1 &&& (2147483647 : Int32)) % (7 : Int32)))))), .val (.int (f0_u9 p3)), .val (.int (f0_u10 p4)), .val (.ref b51), .unset] [])) t := by
              intro t k
              refine XS.iconst X129.here hx rfl (hb hby at_266) ?_
              show Steps p.tables e below (T129.setTop (mkF m 267 #[.val (.int p1), .val (.int p2), .val (.int p3), .val (.int p4), .val (.int p5), .val (.ref b2), .val (.int ((p1 &&& (2147483647 : Int32)) % (7 : Int32))), .val (.int (((p1 &&& (2147483647 : Int32)) % (7 : Int32)) + ((p2 &&& (2147483647 : Int32)) % ((7 : Int32) - ((p1 &&& (2147483647 : Int32)) % (7 : Int32)))))), .val (.int (f0_u9 p3)), .val (.int (f0_u10 p4)), .val (.ref b51), .unset] [(.int (0 : Int32))])) t
              exact k
            refine ⟨T129, _, X129, e129, N129, fun t k => ?_⟩
            rw [show (f0_u21 p1 p2 p3 p4) = (0 : Int32) from (if_pos hc116).trans ((if_pos hc119).trans ((if_neg hc124).trans (if_pos hc131)))] at k
            exact K117 _ (K118 _ (K120 _ (K121 _ (K123 _ (K127 _ (K128 _ (K130 _ (K132 _ (K133 _ (k))))))))))
          · have K134 : ∀ t, Steps p.tables e below (T129.setTop (mkF m 262 #[.val (.int p1), .val (.int p2), .val (.int p3), .val (.int p4), .val (.int p5), .val (.ref b2), .val (.int ((p1 &&& (2147483647 : Int32)) % (7 : Int32))), .val (.int (((p1 &&& (2147483647 : Int32)) % (7 : Int32)) + ((p2 &&& (2147483647 : Int32)) % ((7 : Int32) - ((p1 &&& (2147483647 : Int32)) % (7 : Int32)))))), .val (.int (f0_u9 p3)), .val (.int (f0_u10 p4)), .val (.ref b51), .unset] [])) t → Steps p.tables e below (T129.setTop (mkF m 259 #[.val (.int p1), .val (.int p2), .val (.int p3), .val (.int p4), .val (.int p5), .val (.ref b2), .val (.int ((p1 &&& (2147483647 : Int32)) % (7 : Int32))), .val (.int (((p1 &&& (2147483647 : Int32)) % (7 : Int32)) + ((p2 &&& (2147483647 : Int32)) % ((7 : Int32) - ((p1 &&& (2147483647 : Int32)) % (7 : Int32)))))), .val (.int (f0_u9 p3)), .val (.int (f0_u10 p4)), .val (.ref b51), .unset] [(.int (f4 (f0_u10 p4)))])) t := by
              intro t k
              refine XS.ifNo X129.here hx rfl (hb hby at_259) rfl ((if0 _ _).trans (feq hc131).1) ?_
              exact k
            have K135 : ∀ t, Steps p.tables e below (T129.setTop (mkF m 267 #[.val (.int p1), .val (.int p2), .val (.int p3), .val (.int p4), .val (.int p5), .val (.ref b2), .val (.int ((p1 &&& (2147483647 : Int32)) % (7 : Int32))), .val (.int (((p1 &&& (2147483647 : Int32)) % (7 : Int32)) + ((p2 &&& (2147483647 : Int32)) % ((7 : Int32) - ((p1 &&& (2147483647 : Int32)) % (7 : Int32)))))), .val (.int (f0_u9 p3)), .val (.int (f0_u10 p4)), .val (.ref b51), .unset] [(.int (1 : Int32))])) t → Steps p.tables e below (T129.setTop (mkF m 262 #[.val (.int p1), .val (.int p2), .val (.int p3), .val (.int p4), .val (.int p5), .val (.ref b2), .val (.int ((p1 &&& (2147483647 : Int32)) % (7 : Int32))), .val (.int (((p1 &&& (2147483647 : Int32)) % (7 : Int32)) + ((p2 &&& (2147483647 : Int32)) % ((7 : Int32) - ((p1 &&& (2147483647 : Int32)) % (7 : Int32)))))), .val (.int (f0_u9 p3)), .val (.int (f0_u10 p4)), .val (.ref b51), .unset] [])) t := by
              intro t k
              refine XS.iconst X129.here hx rfl (hb hby at_262) ?_
              show Steps p.tables e below (T129.setTop (mkF m 263 #[.val (.int p1), .val (.int p2), .val (.int p3), .val (.int p4), .val (.int p5), .val (.ref b2), .val (.int ((p1 &&& (2147483647 : Int32)) % (7 : Int32))), .val (.int (((p1 &&& (2147483647 : Int32)) % (7 : Int32)) + ((p2 &&& (2147483647 : Int32)) % ((7 : Int32) - ((p1 &&& (2147483647 : Int32)) % (7 : Int32)))))), .val (.int (f0_u9 p3)), .val (.int (f0_u10 p4)), .val (.ref b51), .unset] [(.int (1 : Int32))])) t
              refine XS.goto X129.here hx rfl (pc0 := 263) (pc' := 267) rfl (hb hby at_263) (by decide) (by decide) ?_
              show Steps p.tables e below (T129.setTop (mkF m 267 #[.val (.int p1), .val (.int p2), .val (.int p3), .val (.int p4), .val (.int p5), .val (.ref b2), .val (.int ((p1 &&& (2147483647 : Int32)) % (7 : Int32))), .val (.int (((p1 &&& (2147483647 : Int32)) % (7 : Int32)) + ((p2 &&& (2147483647 : Int32)) % ((7 : Int32) - ((p1 &&& (2147483647 : Int32)) % (7 : Int32)))))), .val (.int (f0_u9 p3)), .val (.int (f0_u10 p4)), .val (.ref b51), .unset] [(.int (1 : Int32))])) t
              exact k
            refine ⟨T129, _, X129, e129, N129, fun t k => ?_⟩
            rw [show (f0_u21 p1 p2 p3 p4) = (1 : Int32) from (if_pos hc116).trans ((if_pos hc119).trans ((if_neg hc124).trans (if_neg hc131)))] at k
            exact K117 _ (K118 _ (K120 _ (K121 _ (K123 _ (K127 _ (K128 _ (K130 _ (K134 _ (K135 _ (k))))))))))
      · have K136 : ∀ t, Steps p.tables e below (Tm109.setTop (mkF m 266 #[.val (.int p1), .val (.int p2), .val (.int p3), .val (.int p4), .val (.int p5), .val (.ref b2), .val (.int ((p1 &&& (2147483647 : Int32)) % (7 : Int32))), .val (.int (((p1 &&& (2147483647 : Int32)) % (7 : Int32)) + ((p2 &&& (2147483647 : Int32)) % ((7 : Int32) - ((p1 &&& (2147483647 : Int32)) % (7 : Int32)))))), .val (.int (f0_u9 p3)), .val (.int (f0_u10 p4)), .val (.ref b51), .unset] [])) t → Steps p.tables e below (Tm109.setTop (mkF m 243 #[.val (.int p1), .val (.int p2), .val (.int p3), .val (.int p4), .val (.int p5), .val (.ref b2), .val (.int ((p1 &&& (2147483647 : Int32)) % (7 : Int32))), .val (.int (((p1 &&& (2147483647 : Int32)) % (7 : Int32)) + ((p2 &&& (2147483647 : Int32)) % ((7 : Int32) - ((p1 &&& (2147483647 : Int32)) % (7 : Int32)))))), .val (.int (f0_u9 p3)), .val (.int (f0_u10 p4)), .val (.ref b51), .unset] [(.int (6 : Int32)), (.int (((p1 &&& (2147483647 : Int32)) % (7 : Int32)) + ((p2 &&& (2147483647 : Int32)) % ((7 : Int32) - ((p1 &&& (2147483647 : Int32)) % (7 : Int32))))))])) t := by
          intro t k
          refine XS.icmpYes Xm109.here hx rfl (pc0 := 243) (pc' := 266) rfl (hb hby at_243) rfl (flt hc119).2.1 (by decide) (by decide) ?_
          exact k
        have K137 : ∀ t, Steps p.tables e below (Tm109.setTop (mkF m 267 #[.val (.int p1), .val (.int p2), .val (.int p3), .val (.int p4), .val (.int p5), .val (.ref b2), .val (.int ((p1 &&& (2147483647 : Int32)) % (7 : Int32))), .val (.int (((p1 &&& (2147483647 : Int32)) % (7 : Int32)) + ((p2 &&& (2147483647 : Int32)) % ((7 : Int32) - ((p1 &&& (2147483647 : Int32)) % (7 : Int32)))))), .val (.int (f0_u9 p3)), .val (.int (f0_u10 p4)), .val (.ref b51), .unset] [(.int (0 : Int32))])) t → Steps p.tables e below (Tm109.setTop (mkF m 266 #[.val (.int p1), .val (.int p2), .val (.int p3), .val (.int p4), .val (.int p5), .val (.ref b2), .val (.int ((p1 &&& (2147483647 : Int32)) % (7 : Int32))), .val (.int (((p1 &&& (2147483647 : Int32)) % (7 : Int32)) + ((p2 &&& (2147483647 : Int32)) % ((7 : Int32) - ((p1 &&& (2147483647 : Int32)) % (7 : Int32)))))), .val (.int (f0_u9 p3)), .val (.int (f0_u10 p4)), .val (.ref b51), .unset] [])) t := by
          intro t k
          refine XS.iconst Xm109.here hx rfl (hb hby at_266) ?_
          show Steps p.tables e below (Tm109.setTop (mkF m 267 #[.val (.int p1), .val (.int p2), .val (.int p3), .val (.int p4), .val (.int p5), .val (.ref b2), .val (.int ((p1 &&& (2147483647 : Int32)) % (7 : Int32))), .val (.int (((p1 &&& (2147483647 : Int32)) % (7 : Int32)) + ((p2 &&& (2147483647 : Int32)) % ((7 : Int32) - ((p1 &&& (2147483647 : Int32)) % (7 : Int32)))))), .val (.int (f0_u9 p3)), .val (.int (f0_u10 p4)), .val (.ref b51), .unset] [(.int (0 : Int32))])) t
          exact k
        refine ⟨Tm109, _, Xm109, em109, Nm109, fun t k => ?_⟩
        rw [show (f0_u21 p1 p2 p3 p4) = (0 : Int32) from (if_pos hc116).trans (if_neg hc119)] at k
        exact K117 _ (K118 _ (K136 _ (K137 _ (k))))
    · have K138 : ∀ t, Steps p.tables e below (Tm109.setTop (mkF m 266 #[.val (.int p1), .val (.int p2), .val (.int p3), .val (.int p4), .val (.int p5), .val (.ref b2), .val (.int ((p1 &&& (2147483647 : Int32)) % (7 : Int32))), .val (.int (((p1 &&& (2147483647 : Int32)) % (7 : Int32)) + ((p2 &&& (2147483647 : Int32)) % ((7 : Int32) - ((p1 &&& (2147483647 : Int32)) % (7 : Int32)))))), .val (.int (f0_u9 p3)), .val (.int (f0_u10 p4)), .val (.ref b51), .unset] [])) t → Steps p.tables e below (Tm109.setTop (mkF m 236 #[.val (.int p1), .val (.int p2), .val (.int p3), .val (.int p4), .val (.int p5), .val (.ref b2), .val (.int ((p1 &&& (2147483647 : Int32)) % (7 : Int32))), .val (.int (((p1 &&& (2147483647 : Int32)) % (7 : Int32)) + ((p2 &&& (2147483647 : Int32)) % ((7 : Int32) - ((p1 &&& (2147483647 : Int32)) % (7 : Int32)))))), .val (.int (f0_u9 p3)), .val (.int (f0_u10 p4)), .val (.ref b51), .unset] [(.int ((p1 &&& (2147483647 : Int32)) % (7 : Int32)))])) t := by
        intro t k
        refine XS.ifYes Xm109.here hx rfl (pc0 := 236) (pc' := 266) rfl (hb hby at_236) rfl ((if0 _ _).trans (flt hc116).2.2.2) (by decide) (by decide) ?_
        exact k
      have K139 : ∀ t, Steps p.tables e below (Tm109.setTop (mkF m 267 #[.val (.int p1), .val (.int p2), .val (.int p3), .val (.int p4), .val (.int p5), .val (.ref b2), .val (.int ((p1 &&& (2147483647 : Int32)) % (7 : Int32))), .val (.int (((p1 &&& (2147483647 : Int32)) % (7 : Int32)) + ((p2 &&& (2147483647 : Int32)) % ((7 : Int32) - ((p1 &&& (2147483647 : Int32)) % (7 : Int32)))))), .val (.int (f0_u9 p3)), .val (.int (f0_u10 p4)), .val (.ref b51), .unset] [(.int (0 : Int32))])) t → Steps p.tables e below (Tm109.setTop (mkF m 266 #[.val (.int p1), .val (.int p2), .val (.int p3), .val (.int p4), .val (.int p5), .val (.ref b2), .val (.int ((p1 &&& (2147483647 : Int32)) % (7 : Int32))), .val (.int (((p1 &&& (2147483647 : Int32)) % (7 : Int32)) + ((p2 &&& (2147483647 : Int32)) % ((7 : Int32) - ((p1 &&& (2147483647 : Int32)) % (7 : Int32)))))), .val (.int (f0_u9 p3)), .val (.int (f0_u10 p4)), .val (.ref b51), .unset] [])) t := by
        intro t k
        refine XS.iconst Xm109.here hx rfl (hb hby at_266) ?_
        show Steps p.tables e below (Tm109.setTop (mkF m 267 #[.val (.int p1), .val (.int p2), .val (.int p3), .val (.int p4), .val (.int p5), .val (.ref b2), .val (.int ((p1 &&& (2147483647 : Int32)) % (7 : Int32))), .val (.int (((p1 &&& (2147483647 : Int32)) % (7 : Int32)) + ((p2 &&& (2147483647 : Int32)) % ((7 : Int32) - ((p1 &&& (2147483647 : Int32)) % (7 : Int32)))))), .val (.int (f0_u9 p3)), .val (.int (f0_u10 p4)), .val (.ref b51), .unset] [(.int (0 : Int32))])) t
        exact k
      refine ⟨Tm109, _, Xm109, em109, Nm109, fun t k => ?_⟩
      rw [show (f0_u21 p1 p2 p3 p4) = (0 : Int32) from if_neg hc116] at k
      exact K138 _ (K139 _ (k))
  have K140 : ∀ t, Steps p.tables e below (Tm116.setTop (mkF m 275 #[.val (.int p1), .val (.int p2), .val (.int p3), .val (.int p4), .val (.int p5), .val (.ref b2), .val (.int ((p1 &&& (2147483647 : Int32)) % (7 : Int32))), .val (.int (((p1 &&& (2147483647 : Int32)) % (7 : Int32)) + ((p2 &&& (2147483647 : Int32)) % ((7 : Int32) - ((p1 &&& (2147483647 : Int32)) % (7 : Int32)))))), .val (.int (f0_u9 p3)), .val (.int (f0_u10 p4)), .val (.ref b51), .val (.int (f0_u21 p1 p2 p3 p4))] [(.int (((p1 &&& (2147483647 : Int32)) % (7 : Int32)) + ((p2 &&& (2147483647 : Int32)) % ((7 : Int32) - ((p1 &&& (2147483647 : Int32)) % (7 : Int32)))))), (.int ((p1 &&& (2147483647 : Int32)) % (7 : Int32))), (.ref b51)])) t → Steps p.tables e below (Tm116.setTop (mkF m 267 #[.val (.int p1), .val (.int p2), .val (.int p3), .val (.int p4), .val (.int p5), .val (.ref b2), .val (.int ((p1 &&& (2147483647 : Int32)) % (7 : Int32))), .val (.int (((p1 &&& (2147483647 : Int32)) % (7 : Int32)) + ((p2 &&& (2147483647 : Int32)) % ((7 : Int32) - ((p1 &&& (2147483647 : Int32)) % (7 : Int32)))))), .val (.int (f0_u9 p3)), .val (.int (f0_u10 p4)), .val (.ref b51), .unset] [(.int (f0_u21 p1 p2 p3 p4))])) t := by
    intro t k
    refine XS.istore Xm116.here hx rfl (hb hby at_267) rfl (l' := #[.val (.int p1), .val (.int p2), .val (.int p3), .val (.int p4), .val (.int p5), .val (.ref b2), .val (.int ((p1 &&& (2147483647 : Int32)) % (7 : Int32))), .val (.int (((p1 &&& (2147483647 : Int32)) % (7 : Int32)) + ((p2 &&& (2147483647 : Int32)) % ((7 : Int32) - ((p1 &&& (2147483647 : Int32)) % (7 : Int32)))))), .val (.int (f0_u9 p3)), .val (.int (f0_u10 p4)), .val (.ref b51), .val (.int (f0_u21 p1 p2 p3 p4))]) rfl ?_
    show Steps p.tables e below (Tm116.setTop (mkF m 269 #[.val (.int p1), .val (.int p2), .val (.int p3), .val (.int p4), .val (.int p5), .val (.ref b2), .val (.int ((p1 &&& (2147483647 : Int32)) % (7 : Int32))), .val (.int (((p1 &&& (2147483647 : Int32)) % (7 : Int32)) + ((p2 &&& (2147483647 : Int32)) % ((7 : Int32) - ((p1 &&& (2147483647 : Int32)) % (7 : Int32)))))), .val (.int (f0_u9 p3)), .val (.int (f0_u10 p4)), .val (.ref b51), .val (.int (f0_u21 p1 p2 p3 p4))] [])) t
    refine XS.aload Xm116.here hx rfl (hb hby at_269) rfl rfl ?_
    show Steps p.tables e below (Tm116.setTop (mkF m 271 #[.val (.int p1), .val (.int p2), .val (.int p3), .val (.int p4), .val (.int p5), .val (.ref b2), .val (.int ((p1 &&& (2147483647 : Int32)) % (7 : Int32))), .val (.int (((p1 &&& (2147483647 : Int32)) % (7 : Int32)) + ((p2 &&& (2147483647 : Int32)) % ((7 : Int32) - ((p1 &&& (2147483647 : Int32)) % (7 : Int32)))))), .val (.int (f0_u9 p3)), .val (.int (f0_u10 p4)), .val (.ref b51), .val (.int (f0_u21 p1 p2 p3 p4))] [(.ref b51)])) t
    refine XS.iload Xm116.here hx rfl (hb hby at_271) rfl ?_
    show Steps p.tables e below (Tm116.setTop (mkF m 273 #[.val (.int p1), .val (.int p2), .val (.int p3), .val (.int p4), .val (.int p5), .val (.ref b2), .val (.int ((p1 &&& (2147483647 : Int32)) % (7 : Int32))), .val (.int (((p1 &&& (2147483647 : Int32)) % (7 : Int32)) + ((p2 &&& (2147483647 : Int32)) % ((7 : Int32) - ((p1 &&& (2147483647 : Int32)) % (7 : Int32)))))), .val (.int (f0_u9 p3)), .val (.int (f0_u10 p4)), .val (.ref b51), .val (.int (f0_u21 p1 p2 p3 p4))] [(.int ((p1 &&& (2147483647 : Int32)) % (7 : Int32))), (.ref b51)])) t
    refine XS.iload Xm116.here hx rfl (hb hby at_273) rfl ?_
    show Steps p.tables e below (Tm116.setTop (mkF m 275 #[.val (.int p1), .val (.int p2), .val (.int p3), .val (.int p4), .val (.int p5), .val (.ref b2), .val (.int ((p1 &&& (2147483647 : Int32)) % (7 : Int32))), .val (.int (((p1 &&& (2147483647 : Int32)) % (7 : Int32)) + ((p2 &&& (2147483647 : Int32)) % ((7 : Int32) - ((p1 &&& (2147483647 : Int32)) % (7 : Int32)))))), .val (.int (f0_u9 p3)), .val (.int (f0_u10 p4)), .val (.ref b51), .val (.int (f0_u21 p1 p2 p3 p4))] [(.int (((p1 &&& (2147483647 : Int32)) % (7 : Int32)) + ((p2 &&& (2147483647 : Int32)) % ((7 : Int32) - ((p1 &&& (2147483647 : Int32)) % (7 : Int32)))))), (.int ((p1 &&& (2147483647 : Int32)) % (7 : Int32))), (.ref b51)])) t
    exact k
  obtain ⟨_, _, ⟨T141, L141, k141, n141⟩, -, X141, ⟨Lc141, hQ141, l141, y141, z141⟩, st141⟩ := Jvm.LawKit.callS Xm116 hx (y := (⟨"com/example/clapboard/clapboard/parse/TitleText", "isAloneInBrackets", "([CII)Z"⟩ : MethodName)) hown (mvT hZ (hw _ (List.mem_of_getElem? (i := 3) rfl))) (mvT hZ (hw _ (List.mem_of_getElem? (i := 4) rfl))) (mvT hZ (hw _ (List.mem_of_getElem? (i := 5) rfl))) (mvT hZ (hw _ (List.mem_of_getElem? (i := 6) rfl))) (by decide) (backOf (W := 0) (rm1 l Z a0 hw [] b51 ((p1 &&& (2147483647 : Int32)) % (7 : Int32)) (((p1 &&& (2147483647 : Int32)) % (7 : Int32)) + ((p2 &&& (2147483647 : Int32)) % ((7 : Int32) - ((p1 &&& (2147483647 : Int32)) % (7 : Int32))))) (6 : Int32) (f0_u20 p1 p2 p3 p4 p5) hm109 n0 (Nat.le_trans Z0 KPm109.1) (own_s6 _) (own_e0 _ _) Mm109_2) hZ (hw _ (List.mem_of_getElem? (i := 6) rfl)) (hw _ (List.mem_of_getElem? (i := 5) rfl)) (by decide) (by decide)) (g := (mkF m 275 #[.val (.int p1), .val (.int p2), .val (.int p3), .val (.int p4), .val (.int p5), .val (.ref b2), .val (.int ((p1 &&& (2147483647 : Int32)) % (7 : Int32))), .val (.int (((p1 &&& (2147483647 : Int32)) % (7 : Int32)) + ((p2 &&& (2147483647 : Int32)) % ((7 : Int32) - ((p1 &&& (2147483647 : Int32)) % (7 : Int32)))))), .val (.int (f0_u9 p3)), .val (.int (f0_u10 p4)), .val (.ref b51), .val (.int (f0_u21 p1 p2 p3 p4))] [(.int (((p1 &&& (2147483647 : Int32)) % (7 : Int32)) + ((p2 &&& (2147483647 : Int32)) % ((7 : Int32) - ((p1 &&& (2147483647 : Int32)) % (7 : Int32)))))), (.int ((p1 &&& (2147483647 : Int32)) % (7 : Int32))), (.ref b51)])) rfl (by rw [hml]; rfl) (argsL := [(.ref b51), (.int ((p1 &&& (2147483647 : Int32)) % (7 : Int32))), (.int (((p1 &&& (2147483647 : Int32)) % (7 : Int32)) + ((p2 &&& (2147483647 : Int32)) % ((7 : Int32) - ((p1 &&& (2147483647 : Int32)) % (7 : Int32))))))]) (rest := []) (lenOf pd_0 rfl) rfl (by show 2 * 0 + _ ≤ _; exact Nat.le_of_eq rfl) (hb hby at_275) (fun _ _ => ⟨rfl, em116, (by decide : 2 + 0 ≤ _), (by decide : 14 + 0 ≤ _)⟩)
  dsimp only [Pt.U, Pt.locs, Pt.cells, Pt.slots] at X141 l141 y141 z141 st141 hQ141
  subst l141 y141 z141
  obtain ⟨rfl, N141q, e141⟩ := hQ141
  have N141 := Fr.app Nm116 N141q
  have K142 : ∀ t, Steps p.tables e below (T141.setTop (mkF m 278 #[.val (.int p1), .val (.int p2), .val (.int p3), .val (.int p4), .val (.int p5), .val (.ref b2), .val (.int ((p1 &&& (2147483647 : Int32)) % (7 : Int32))), .val (.int (((p1 &&& (2147483647 : Int32)) % (7 : Int32)) + ((p2 &&& (2147483647 : Int32)) % ((7 : Int32) - ((p1 &&& (2147483647 : Int32)) % (7 : Int32)))))), .val (.int (f0_u9 p3)), .val (.int (f0_u10 p4)), .val (.ref b51), .val (.int (f0_u21 p1 p2 p3 p4))] [(.int (f1 ((p1 &&& (2147483647 : Int32)) % (7 : Int32)) (((p1 &&& (2147483647 : Int32)) % (7 : Int32)) + ((p2 &&& (2147483647 : Int32)) % ((7 : Int32) - ((p1 &&& (2147483647 : Int32)) % (7 : Int32))))) (6 : Int32) (f0_u20 p1 p2 p3 p4 p5)))])) t → Steps p.tables e below (Tm116.setTop (mkF m 275 #[.val (.int p1), .val (.int p2), .val (.int p3), .val (.int p4), .val (.int p5), .val (.ref b2), .val (.int ((p1 &&& (2147483647 : Int32)) % (7 : Int32))), .val (.int (((p1 &&& (2147483647 : Int32)) % (7 : Int32)) + ((p2 &&& (2147483647 : Int32)) % ((7 : Int32) - ((p1 &&& (2147483647 : Int32)) % (7 : Int32)))))), .val (.int (f0_u9 p3)), .val (.int (f0_u10 p4)), .val (.ref b51), .val (.int (f0_u21 p1 p2 p3 p4))] [(.int (((p1 &&& (2147483647 : Int32)) % (7 : Int32)) + ((p2 &&& (2147483647 : Int32)) % ((7 : Int32) - ((p1 &&& (2147483647 : Int32)) % (7 : Int32)))))), (.int ((p1 &&& (2147483647 : Int32)) % (7 : Int32))), (.ref b51)])) t := fun t k => st141 _ k
  have K143 : ∀ t, Steps p.tables e below (T141.setTop (mkF m 280 #[.val (.int p1), .val (.int p2), .val (.int p3), .val (.int p4), .val (.int p5), .val (.ref b2), .val (.int ((p1 &&& (2147483647 : Int32)) % (7 : Int32))), .val (.int (((p1 &&& (2147483647 : Int32)) % (7 : Int32)) + ((p2 &&& (2147483647 : Int32)) % ((7 : Int32) - ((p1 &&& (2147483647 : Int32)) % (7 : Int32)))))), .val (.int (f0_u9 p3)), .val (.int (f0_u10 p4)), .val (.ref b51), .val (.int (f0_u21 p1 p2 p3 p4))] [(.int (f0_u21 p1 p2 p3 p4)), (.int (f1 ((p1 &&& (2147483647 : Int32)) % (7 : Int32)) (((p1 &&& (2147483647 : Int32)) % (7 : Int32)) + ((p2 &&& (2147483647 : Int32)) % ((7 : Int32) - ((p1 &&& (2147483647 : Int32)) % (7 : Int32))))) (6 : Int32) (f0_u20 p1 p2 p3 p4 p5)))])) t → Steps p.tables e below (T141.setTop (mkF m 278 #[.val (.int p1), .val (.int p2), .val (.int p3), .val (.int p4), .val (.int p5), .val (.ref b2), .val (.int ((p1 &&& (2147483647 : Int32)) % (7 : Int32))), .val (.int (((p1 &&& (2147483647 : Int32)) % (7 : Int32)) + ((p2 &&& (2147483647 : Int32)) % ((7 : Int32) - ((p1 &&& (2147483647 : Int32)) % (7 : Int32)))))), .val (.int (f0_u9 p3)), .val (.int (f0_u10 p4)), .val (.ref b51), .val (.int (f0_u21 p1 p2 p3 p4))] [(.int (f1 ((p1 &&& (2147483647 : Int32)) % (7 : Int32)) (((p1 &&& (2147483647 : Int32)) % (7 : Int32)) + ((p2 &&& (2147483647 : Int32)) % ((7 : Int32) - ((p1 &&& (2147483647 : Int32)) % (7 : Int32))))) (6 : Int32) (f0_u20 p1 p2 p3 p4 p5)))])) t := by
    intro t k
    refine XS.iload X141.here hx rfl (hb hby at_278) rfl ?_
    show Steps p.tables e below (T141.setTop (mkF m 280 #[.val (.int p1), .val (.int p2), .val (.int p3), .val (.int p4), .val (.int p5), .val (.ref b2), .val (.int ((p1 &&& (2147483647 : Int32)) % (7 : Int32))), .val (.int (((p1 &&& (2147483647 : Int32)) % (7 : Int32)) + ((p2 &&& (2147483647 : Int32)) % ((7 : Int32) - ((p1 &&& (2147483647 : Int32)) % (7 : Int32)))))), .val (.int (f0_u9 p3)), .val (.int (f0_u10 p4)), .val (.ref b51), .val (.int (f0_u21 p1 p2 p3 p4))] [(.int (f0_u21 p1 p2 p3 p4)), (.int (f1 ((p1 &&& (2147483647 : Int32)) % (7 : Int32)) (((p1 &&& (2147483647 : Int32)) % (7 : Int32)) + ((p2 &&& (2147483647 : Int32)) % ((7 : Int32) - ((p1 &&& (2147483647 : Int32)) % (7 : Int32))))) (6 : Int32) (f0_u20 p1 p2 p3 p4 p5)))])) t
    exact k
  by_cases hc144 : (f1 ((p1 &&& (2147483647 : Int32)) % (7 : Int32)) (((p1 &&& (2147483647 : Int32)) % (7 : Int32)) + ((p2 &&& (2147483647 : Int32)) % ((7 : Int32) - ((p1 &&& (2147483647 : Int32)) % (7 : Int32))))) (6 : Int32) (f0_u20 p1 p2 p3 p4 p5)) = (f0_u21 p1 p2 p3 p4)
  · have K145 : ∀ t, Steps p.tables e below (T141.setTop (mkF m 283 #[.val (.int p1), .val (.int p2), .val (.int p3), .val (.int p4), .val (.int p5), .val (.ref b2), .val (.int ((p1 &&& (2147483647 : Int32)) % (7 : Int32))), .val (.int (((p1 &&& (2147483647 : Int32)) % (7 : Int32)) + ((p2 &&& (2147483647 : Int32)) % ((7 : Int32) - ((p1 &&& (2147483647 : Int32)) % (7 : Int32)))))), .val (.int (f0_u9 p3)), .val (.int (f0_u10 p4)), .val (.ref b51), .val (.int (f0_u21 p1 p2 p3 p4))] [])) t → Steps p.tables e below (T141.setTop (mkF m 280 #[.val (.int p1), .val (.int p2), .val (.int p3), .val (.int p4), .val (.int p5), .val (.ref b2), .val (.int ((p1 &&& (2147483647 : Int32)) % (7 : Int32))), .val (.int (((p1 &&& (2147483647 : Int32)) % (7 : Int32)) + ((p2 &&& (2147483647 : Int32)) % ((7 : Int32) - ((p1 &&& (2147483647 : Int32)) % (7 : Int32)))))), .val (.int (f0_u9 p3)), .val (.int (f0_u10 p4)), .val (.ref b51), .val (.int (f0_u21 p1 p2 p3 p4))] [(.int (f0_u21 p1 p2 p3 p4)), (.int (f1 ((p1 &&& (2147483647 : Int32)) % (7 : Int32)) (((p1 &&& (2147483647 : Int32)) % (7 : Int32)) + ((p2 &&& (2147483647 : Int32)) % ((7 : Int32) - ((p1 &&& (2147483647 : Int32)) % (7 : Int32))))) (6 : Int32) (f0_u20 p1 p2 p3 p4 p5)))])) t := by
      intro t k
      refine XS.icmpNo X141.here hx rfl (hb hby at_280) rfl (teq hc144).2 ?_
      exact k
    have K146 : ∀ t, Steps p.tables e below (T141.setTop (mkF m 288 #[.val (.int p1), .val (.int p2), .val (.int p3), .val (.int p4), .val (.int p5), .val (.ref b2), .val (.int ((p1 &&& (2147483647 : Int32)) % (7 : Int32))), .val (.int (((p1 &&& (2147483647 : Int32)) % (7 : Int32)) + ((p2 &&& (2147483647 : Int32)) % ((7 : Int32) - ((p1 &&& (2147483647 : Int32)) % (7 : Int32)))))), .val (.int (f0_u9 p3)), .val (.int (f0_u10 p4)), .val (.ref b51), .val (.int (f0_u21 p1 p2 p3 p4))] [(.int (1 : Int32))])) t → Steps p.tables e below (T141.setTop (mkF m 283 #[.val (.int p1), .val (.int p2), .val (.int p3), .val (.int p4), .val (.int p5), .val (.ref b2), .val (.int ((p1 &&& (2147483647 : Int32)) % (7 : Int32))), .val (.int (((p1 &&& (2147483647 : Int32)) % (7 : Int32)) + ((p2 &&& (2147483647 : Int32)) % ((7 : Int32) - ((p1 &&& (2147483647 : Int32)) % (7 : Int32)))))), .val (.int (f0_u9 p3)), .val (.int (f0_u10 p4)), .val (.ref b51), .val (.int (f0_u21 p1 p2 p3 p4))] [])) t := by
      intro t k
      refine XS.iconst X141.here hx rfl (hb hby at_283) ?_
      show Steps p.tables e below (T141.setTop (mkF m 284 #[.val (.int p1), .val (.int p2), .val (.int p3), .val (.int p4), .val (.int p5), .val (.ref b2), .val (.int ((p1 &&& (2147483647 : Int32)) % (7 : Int32))), .val (.int (((p1 &&& (2147483647 : Int32)) % (7 : Int32)) + ((p2 &&& (2147483647 : Int32)) % ((7 : Int32) - ((p1 &&& (2147483647 : Int32)) % (7 : Int32)))))), .val (.int (f0_u9 p3)), .val (.int (f0_u10 p4)), .val (.ref b51), .val (.int (f0_u21 p1 p2 p3 p4))] [(.int (1 : Int32))])) t
      refine XS.goto X141.here hx rfl (pc0 := 284) (pc' := 288) rfl (hb hby at_284) (by decide) (by decide) ?_
      show Steps p.tables e below (T141.setTop (mkF m 288 #[.val (.int p1), .val (.int p2), .val (.int p3), .val (.int p4), .val (.int p5), .val (.ref b2), .val (.int ((p1 &&& (2147483647 : Int32)) % (7 : Int32))), .val (.int (((p1 &&& (2147483647 : Int32)) % (7 : Int32)) + ((p2 &&& (2147483647 : Int32)) % ((7 : Int32) - ((p1 &&& (2147483647 : Int32)) % (7 : Int32)))))), .val (.int (f0_u9 p3)), .val (.int (f0_u10 p4)), .val (.ref b51), .val (.int (f0_u21 p1 p2 p3 p4))] [(.int (1 : Int32))])) t
      exact k
    obtain ⟨fs, hr, hrun, hended, hW, hsame⟩ := X141.leave (v := some (.int (1 : Int32))) (fun h => by rw [Bd.returns] at h; cases h)
    refine ⟨_, _, pre0 _ (K1 _ (K3 _ (K4 _ (K6 _ (K7 _ (K9 _ (K10 _ (K12 _ (K13 _ (K15 _ (K16 _ (K18 _ (K19 _ (K21 _ (K22 _ (K24 _ (K25 _ (K27 _ (K28 _ (K29 _ (K39 _ (K40 _ (K50 _ (K52 _ (K57 _ (K58 _ (K60 _ (K65 _ (K66 _ (K68 _ (K73 _ (K74 _ (K76 _ (K81 _ (K82 _ (K84 _ (K89 _ (K90 _ (K92 _ (K97 _ (K98 _ (K100 _ (K101 _ (Km102 _ (K108 _ (Km109 _ (K115 _ (Km116 _ (K140 _ (K142 _ (K143 _ (K145 _ (K146 _ (retN X141 hx (t := .boolean) Bd.returns (by simp) (hb hby at_288) hr)))))))))))))))))))))))))))))))))))))))))))))))))))))), hrun, hended, _, _, rfl, ?_, ⟨_, rfl⟩, hW, hsame.mono (by decide) (by decide)⟩
    show Q0 Z p1 p2 p3 p4 p5 h0 n0 _ T141.heap _
    rw [e141]
    exact ⟨congrArg (fun z => some (Value.int z)) (show (1 : Int32) = f0 p1 p2 p3 p4 p5 from Eq.symm (if_pos hc144)), N141, KPm109⟩
  · have K147 : ∀ t, Steps p.tables e below (T141.setTop (mkF m 287 #[.val (.int p1), .val (.int p2), .val (.int p3), .val (.int p4), .val (.int p5), .val (.ref b2), .val (.int ((p1 &&& (2147483647 : Int32)) % (7 : Int32))), .val (.int (((p1 &&& (2147483647 : Int32)) % (7 : Int32)) + ((p2 &&& (2147483647 : Int32)) % ((7 : Int32) - ((p1 &&& (2147483647 : Int32)) % (7 : Int32)))))), .val (.int (f0_u9 p3)), .val (.int (f0_u10 p4)), .val (.ref b51), .val (.int (f0_u21 p1 p2 p3 p4))] [])) t → Steps p.tables e below (T141.setTop (mkF m 280 #[.val (.int p1), .val (.int p2), .val (.int p3), .val (.int p4), .val (.int p5), .val (.ref b2), .val (.int ((p1 &&& (2147483647 : Int32)) % (7 : Int32))), .val (.int (((p1 &&& (2147483647 : Int32)) % (7 : Int32)) + ((p2 &&& (2147483647 : Int32)) % ((7 : Int32) - ((p1 &&& (2147483647 : Int32)) % (7 : Int32)))))), .val (.int (f0_u9 p3)), .val (.int (f0_u10 p4)), .val (.ref b51), .val (.int (f0_u21 p1 p2 p3 p4))] [(.int (f0_u21 p1 p2 p3 p4)), (.int (f1 ((p1 &&& (2147483647 : Int32)) % (7 : Int32)) (((p1 &&& (2147483647 : Int32)) % (7 : Int32)) + ((p2 &&& (2147483647 : Int32)) % ((7 : Int32) - ((p1 &&& (2147483647 : Int32)) % (7 : Int32))))) (6 : Int32) (f0_u20 p1 p2 p3 p4 p5)))])) t := by
      intro t k
      refine XS.icmpYes X141.here hx rfl (pc0 := 280) (pc' := 287) rfl (hb hby at_280) rfl (feq hc144).2 (by decide) (by decide) ?_
      exact k
    have K148 : ∀ t, Steps p.tables e below (T141.setTop (mkF m 288 #[.val (.int p1), .val (.int p2), .val (.int p3), .val (.int p4), .val (.int p5), .val (.ref b2), .val (.int ((p1 &&& (2147483647 : Int32)) % (7 : Int32))), .val (.int (((p1 &&& (2147483647 : Int32)) % (7 : Int32)) + ((p2 &&& (2147483647 : Int32)) % ((7 : Int32) - ((p1 &&& (2147483647 : Int32)) % (7 : Int32)))))), .val (.int (f0_u9 p3)), .val (.int (f0_u10 p4)), .val (.ref b51), .val (.int (f0_u21 p1 p2 p3 p4))] [(.int (0 : Int32))])) t → Steps p.tables e below (T141.setTop (mkF m 287 #[.val (.int p1), .val (.int p2), .val (.int p3), .val (.int p4), .val (.int p5), .val (.ref b2), .val (.int ((p1 &&& (2147483647 : Int32)) % (7 : Int32))), .val (.int (((p1 &&& (2147483647 : Int32)) % (7 : Int32)) + ((p2 &&& (2147483647 : Int32)) % ((7 : Int32) - ((p1 &&& (2147483647 : Int32)) % (7 : Int32)))))), .val (.int (f0_u9 p3)), .val (.int (f0_u10 p4)), .val (.ref b51), .val (.int (f0_u21 p1 p2 p3 p4))] [])) t := by
      intro t k
      refine XS.iconst X141.here hx rfl (hb hby at_287) ?_
      show Steps p.tables e below (T141.setTop (mkF m 288 #[.val (.int p1), .val (.int p2), .val (.int p3), .val (.int p4), .val (.int p5), .val (.ref b2), .val (.int ((p1 &&& (2147483647 : Int32)) % (7 : Int32))), .val (.int (((p1 &&& (2147483647 : Int32)) % (7 : Int32)) + ((p2 &&& (2147483647 : Int32)) % ((7 : Int32) - ((p1 &&& (2147483647 : Int32)) % (7 : Int32)))))), .val (.int (f0_u9 p3)), .val (.int (f0_u10 p4)), .val (.ref b51), .val (.int (f0_u21 p1 p2 p3 p4))] [(.int (0 : Int32))])) t
      exact k
    obtain ⟨fs, hr, hrun, hended, hW, hsame⟩ := X141.leave (v := some (.int (0 : Int32))) (fun h => by rw [Bd.returns] at h; cases h)
    refine ⟨_, _, pre0 _ (K1 _ (K3 _ (K4 _ (K6 _ (K7 _ (K9 _ (K10 _ (K12 _ (K13 _ (K15 _ (K16 _ (K18 _ (K19 _ (K21 _ (K22 _ (K24 _ (K25 _ (K27 _ (K28 _ (K29 _ (K39 _ (K40 _ (K50 _ (K52 _ (K57 _ (K58 _ (K60 _ (K65 _ (K66 _ (K68 _ (K73 _ (K74 _ (K76 _ (K81 _ (K82 _ (K84 _ (K89 _ (K90 _ (K92 _ (K97 _ (K98 _ (K100 _ (K101 _ (Km102 _ (K108 _ (Km109 _ (K115 _ (Km116 _ (K140 _ (K142 _ (K143 _ (K147 _ (K148 _ (retN X141 hx (t := .boolean) Bd.returns (by simp) (hb hby at_288) hr)))))))))))))))))))))))))))))))))))))))))))))))))))))), hrun, hended, _, _, rfl, ?_, ⟨_, rfl⟩, hW, hsame.mono (by decide) (by decide)⟩
    show Q0 Z p1 p2 p3 p4 p5 h0 n0 _ T141.heap _
    rw [e141]
    exact ⟨congrArg (fun z => some (Value.int z)) (show (0 : Int32) = f0 p1 p2 p3 p4 p5 from Eq.symm (if_neg hc144)), N141, KPm109⟩
theorem own_nar (x : Int32) : nar .char x = x.toUInt32.toUInt16.toUInt32.toInt32 := rfl
theorem own_i2c (x : Int32) (h0 : 0 ≤ x.toInt) (h1 : x.toInt < 65536) : x.toUInt32.toUInt16.toUInt32.toInt32 = x := by
  obtain ⟨a, b, c⟩ := c_i2c x
  apply Int32.toInt_inj.mp
  omega
theorem own_pick (p : Int32) : nar .char (f0_u9 p) = f0_u9 p := by
  rw [own_nar]
  unfold f0_u9
  split
  · obtain ⟨n, hn, e⟩ := own_mask p 7 7 (by decide)
    rw [e]
    exact (show ∀ k : Fin 8, (f0_u8 (Int32.ofNat k.val)).toUInt32.toUInt16.toUInt32.toInt32 = f0_u8 (Int32.ofNat k.val) from by decide +kernel) ⟨n, hn⟩
  · obtain ⟨a, b, c⟩ := c_i2c p
    exact own_i2c _ b c
theorem own_pick' (p : Int32) : nar .char (f0_u10 p) = f0_u10 p := own_pick p
theorem own_f2a : f2 91 = 1 := by decide
theorem own_f2b : f2 40 = 1 := by decide
theorem own_f2n (x : Int32) (h1 : ¬ x = 91) (h2 : ¬ x = 40) : f2 x = 0 := by
  have h : ¬ (f3 x = 1) ∧ ¬ (f3 x = 2) := by
    unfold f3
    rw [if_neg h2, if_neg h1]
    repeat' split
    all_goals decide
  exact (if_neg h.1).trans (if_neg h.2)
theorem own_f4n (x : Int32) (h1 : ¬ x = 93) (h2 : ¬ x = 41) : f4 x = 0 := by
  have h : ¬ (f3 x = -1) ∧ ¬ (f3 x = -2) := by
    unfold f3
    rw [if_neg h2, if_neg h1]
    repeat' split
    all_goals decide
  exact (if_neg h.1).trans (if_neg h.2)
theorem plain (a b c d e : Int32) : f0 a b c d e = 1 := by
  refine if_pos ?_
  have hl := own_pick c
  have hr := own_pick' d
  unfold f0_u21 f0_u20 f0_u19 f0_u18 f0_u17
  rw [hl, hr]
  generalize f0_u9 c = L
  generalize f0_u10 d = R
  generalize f0_u16 e = g
  obtain ⟨n, m, h1, h2, h3, e1, e2⟩ := own_end a b
  rw [e1] at e2 ⊢
  rw [e2]
  by_cases hn : n = 0
  · subst hn
    have p0 : ¬ ((0 : Int32) < Int32.ofNat 0) := by decide
    rw [if_neg p0, if_neg p0]
    exact if_neg p0
  · have p0 : (0 : Int32) < Int32.ofNat n := (show ∀ k : Fin 7, k.val ≠ 0 → (0 : Int32) < Int32.ofNat k.val from by decide) ⟨n, h1⟩ hn
    rw [if_pos p0, if_pos p0]
    by_cases hm : m = 6
    · subst hm
      have p6 : ¬ (Int32.ofNat 6 < (6 : Int32)) := by decide
      rw [if_neg p6, if_neg p6]
      unfold f1
      rw [if_pos p0]
      repeat' split
      all_goals first | rfl | (exfalso; exact p6 (by assumption))
    · have pm : Int32.ofNat m < (6 : Int32) := (show ∀ k : Fin 7, k.val ≠ 6 → Int32.ofNat k.val < (6 : Int32) from by decide) ⟨m, h3⟩ hm
      rw [if_pos pm, if_pos pm]
      have ne : ¬ (Int32.ofNat n - 1 = Int32.ofNat m) := (show ∀ k : Fin 7, ∀ l : Fin 7, k.val ≠ 0 → k.val ≤ l.val → ¬ (Int32.ofNat k.val - 1 = Int32.ofNat l.val) from by decide) ⟨n, h1⟩ ⟨m, h3⟩ hn h2
      have v1 : upd (upd g (Int32.ofNat n - 1) L) (Int32.ofNat m) R (Int32.ofNat n - 1) = L := (if_neg ne).trans (if_pos rfl)
      have v2 : upd (upd g (Int32.ofNat n - 1) L) (Int32.ofNat m) R (Int32.ofNat m) = R := if_pos rfl
      unfold f1
      rw [if_pos p0, v1, v2, if_pos pm]
      by_cases a1 : L = 91
      · subst a1
        rw [if_pos rfl, own_f2a]
        by_cases b1 : R = 93
        · subst b1; decide
        · by_cases b2 : R = 41
          · subst b2; decide
          · rw [if_neg b1, if_neg b2, own_f4n R b1 b2]; decide
      · by_cases a2 : L = 40
        · subst a2
          rw [if_neg a1, if_pos rfl, own_f2b]
          by_cases b1 : R = 93
          · subst b1; decide
          · by_cases b2 : R = 41
            · subst b2; decide
            · rw [if_neg b1, if_neg b2, own_f4n R b1 b2]; decide
        · rw [if_neg a1, if_neg a2, own_f2n L a1 a2]; exact (if_pos rfl).symm
set_option maxRecDepth 65536 in
set_option maxHeartbeats 40000000 in
theorem comes_1 {Post : Tables → Env → Array Value → State → Outcome → State → Prop} (hpost : ∀ tb e args s v u, (limb_1_1.after args s (.returned v) u = true ∧ limb_1_2.after args s (.returned v) u = true ∧ True) → FrameEnd s (.returned v) u (Jvm.fieldLocs frame_1_writes args s ++ Jvm.arrayLocs frame_1_arrays args s ++ Jvm.staticLocs frame_1_statics s) 16 128 → Post tb e args s (.returned v) u) :
    ArmFor flags0 classFile x code maxLocals ret World_1 tables_1 room_1 Calls_1 rest_1 Pre_1 Post := by
  intro l hfl _ _ p e ha hc hk s m args below hf hA hF happ hP
  obtain ⟨hcalls, hrest, hpre⟩ := hP
  obtain ⟨-, -, -, hnamed, -, -, -, hat⟩ := (Spec.applies_iff hf).mp happ
  obtain ⟨hg, hn⟩ := and_e (Cond.before_iff.mp (show (Jvm.Cond.and given_1 narrow_1).before args s = true from hpre))
  obtain ⟨gc, g0⟩ := and_e hg
  obtain ⟨gi0, g1⟩ := and_e g0
  obtain ⟨gi1, g2⟩ := and_e g1
  obtain ⟨gi2, g3⟩ := and_e g2
  obtain ⟨gi3, g4⟩ := and_e g3
  have gi4 := g4
  obtain ⟨w0, w1, w2, w3, w4, rfl⟩ : ∃ w0 w1 w2 w3 w4 : Value, args = #[w0, w1, w2, w3, w4] := by
    have hs : args.size = 5 := by simpa [Cond.value, given_1] using gc
    obtain ⟨L⟩ := args
    match L, hs with
    | [w0, w1, w2, w3, w4], _ => exact ⟨w0, w1, w2, w3, w4, rfl⟩
  have hw := fun d (hd : d ∈ tables_1) => atoms_spec (ws := Jvm.Cond.code x code maxLocals ret :: tables_1) hat d (List.mem_cons_of_mem _ hd)
  have hfit : Fit s := fun {y c} hc i hi => by
    obtain ⟨ha, rfl⟩ := Array.getElem?_eq_some_iff.mp hc
    have q := List.all_eq_true.mp ((Array.all_eq_true_iff_forall_mem.mp hF) _ (Array.getElem_mem ha)) i (List.mem_range.mpr hi)
    simpa [Array.getElem?_eq_getElem hi] using q
  obtain ⟨i0, ei0⟩ := is_v gi0
  obtain rfl : w0 = (.int i0) := Option.some.inj ei0
  obtain ⟨i1, ei1⟩ := is_v gi1
  obtain rfl : w1 = (.int i1) := Option.some.inj ei1
  obtain ⟨i2, ei2⟩ := is_v gi2
  obtain rfl : w2 = (.int i2) := Option.some.inj ei2
  obtain ⟨i3, ei3⟩ := is_v gi3
  obtain rfl : w3 = (.int i3) := Option.some.inj ei3
  obtain ⟨i4, ei4⟩ := is_v gi4
  obtain rfl : w4 = (.int i4) := Option.some.inj ei4
  obtain ⟨n, o, h1, h2, h3, v, L, rfl, ⟨hv, N, -⟩, hq⟩ := rm0 l s _ hw tables_1 i0 i1 i2 i3 i4 s.heap s.heap.size (Nat.le_refl _)  p e ha hc hk s m _ below hf ((Spec.applies_iff_loose hf).mp happ).1 ⟨rfl, State.Warmed39.refl s, rfl⟩ trivial
  rw [plain i0 i1 i2 i3 i4] at hv
  subst hv
  refine ⟨n, _, h1, h2, h3, hpost _ _ _ _ _ _ ⟨Cond.after_iff.mpr rfl, Cond.after_iff.mpr (eq_i res_at (Term.int_eval (1)) rfl), trivial⟩ ⟨hq.1, hq.2.1, (hq.2.2.sift fun y hy => Or.inr (N y hy)).mono (by decide) (by decide)⟩⟩
theorem main_1_1 : Claimed_1_1 := comes_1 fun _ _ _ _ _ _ h hF => ⟨h.1, hF⟩
theorem main_1_2 : Claimed_1_2 := comes_1 fun _ _ _ _ _ _ h hF => ⟨h.2.1, hF⟩
end Jvm.Pilot.@@N@@
namespace Jvm.Pilot.@@N@@
open Jvm Jvm.ClassFile Sem Op Lib Jvm.Free Jvm.Stand Jvm.Pilot.@@N@@.Jvm.D
/-! MADE BY PROGRAM (witnessworld.py) out of the Statement's table words and the real class files: 11 classes; the members and pool entries that the words name. The judged class is class 1, her method 1. -/
namespace start1
open Jvm.ClassFile
def u (s : String) : CpInfo := .utf8 (stringToUtf16 s)
/-- a pool by its gaps: so many unusable entries, then the entry; so many at the end -/
def gap : Nat → List CpInfo → List CpInfo
  | 0, r => r
  | n + 1, r => .unusable :: gap n r
def poolList (es : List (Nat × CpInfo)) (last : Nat) : List CpInfo := es.foldr (fun e r => gap e.1 (e.2 :: r)) (gap last [])
def pool (es : List (Nat × CpInfo)) (last : Nat) : Array CpInfo := ⟨poolList es last⟩
def fileOf (pool : Array CpInfo) (this : Nat) (attrs : Array Attribute := #[]) (ms : Array MethodInfo := #[]) (fl : Nat := 33) (sup : Nat := 0) (ifs : Array Nat := #[]) (fds : Array FieldInfo := #[]) : ClassFile where
  minorVersion := 0
  majorVersion := 65
  constantPool := pool
  accessFlags := fl
  thisClass := this
  superClass := sup
  interfaces := ifs
  fields := fds
  methods := ms
  attributes := attrs
def plain (name : String) (sup : Option ClassId) : Class where
  name := name
  kind := .ordinary
  loader := none
  accessFlags := 33
  super := sup
  interfaces := #[]
  cf := none
  fields := #[]
  methods := #[]
  instanceTypes := #[]
  staticTypes := #[]
  resolved := #[]
  callSites := []
  init := .initialized
  statics := none
  mirror := none

def pool0 : Array CpInfo := pool [(5, u "<init>"), (0, u "()V"), (1, .class_ 10), (1, u "java/lang/Object")] 113

def k0m0 : Method := { name := "<init>", desc := "()V", sig := { parameters := [], returnType := none }, accessFlags := 1, code := none }
/-- java/lang/Object -/
def k0 : Class := { plain "java/lang/Object" none with
  accessFlags := 33
  interfaces := #[]
  cf := some (fileOf pool0 8 #[] #[{ accessFlags := 1, nameIndex := 5, descriptorIndex := 6, attributes := #[] }] 33 0 #[] #[])
  fields := #[]
  methods := #[k0m0]
  instanceTypes := #[]
  staticTypes := #[]
  resolved := Array.replicate 124 none
  statics := none }

def pool1 : Array CpInfo := pool [(2, .class_ 4), (1, u "java/lang/Object"), (0, u "<init>"), (0, u "()V"), (0, .integer 2147483647), (0, .integer 65536), (0, .methodref 10 11), (0, .class_ 12), (0, .nameAndType 13 14), (0, u "com/example/clapboard/clapboard/parse/TitleTextIsAloneInBracketsPinLaw"), (0, u "isOpener"), (0, u "(C)Z"), (0, .methodref 10 16), (0, .nameAndType 17 14), (0, u "isCloser"), (0, .methodref 19 20), (0, .class_ 21), (0, .nameAndType 22 23), (0, u "com/example/clapboard/clapboard/parse/TitleText"), (0, u "isAloneInBrackets"), (0, u "([CII)Z"), (0, .methodref 10 25), (0, .nameAndType 26 27), (0, u "kind"), (0, u "(C)I"), (2, u "law"), (0, u "(IIIII)Z")] 5

def k1m0 : Method := { name := "<init>", desc := "()V", sig := { parameters := [], returnType := none }, accessFlags := 2, code := none }
def k1c1 : Code := { maxStack := 5, maxLocals := 12, code := code, exceptionTable := #[], attributes := #[] }
def k1m1 : Method := { name := "law", desc := "(IIIII)Z", sig := { parameters := [.int, .int, .int, .int, .int], returnType := some .boolean }, accessFlags := 9, code := some k1c1 }
def k1c2 : Code := { maxStack := 2, maxLocals := 1, code := method_3_code, exceptionTable := #[], attributes := #[] }
def k1m2 : Method := { name := "kind", desc := "(C)I", sig := { parameters := [.char], returnType := some .int }, accessFlags := 10, code := some k1c2 }
def k1c3 : Code := { maxStack := 2, maxLocals := 2, code := method_4_code, exceptionTable := #[], attributes := #[] }
def k1m3 : Method := { name := "isOpener", desc := "(C)Z", sig := { parameters := [.char], returnType := some .boolean }, accessFlags := 10, code := some k1c3 }
def k1c4 : Code := { maxStack := 2, maxLocals := 2, code := method_5_code, exceptionTable := #[], attributes := #[] }
def k1m4 : Method := { name := "isCloser", desc := "(C)Z", sig := { parameters := [.char], returnType := some .boolean }, accessFlags := 10, code := some k1c4 }
/-- com/example/clapboard/clapboard/parse/TitleTextIsAloneInBracketsPinLaw -/
def k1 : Class := { plain "com/example/clapboard/clapboard/parse/TitleTextIsAloneInBracketsPinLaw" (some 0) with
  accessFlags := 49
  interfaces := #[]
  cf := some (fileOf pool1 10 #[] #[{ accessFlags := 2, nameIndex := 5, descriptorIndex := 6, attributes := #[] }, { accessFlags := 9, nameIndex := 30, descriptorIndex := 31, attributes := #[] }, { accessFlags := 10, nameIndex := 26, descriptorIndex := 27, attributes := #[] }, { accessFlags := 10, nameIndex := 13, descriptorIndex := 14, attributes := #[] }, { accessFlags := 10, nameIndex := 17, descriptorIndex := 14, attributes := #[] }] 49 2 #[] #[])
  fields := #[]
  methods := #[k1m0, k1m1, k1m2, k1m3, k1m4]
  instanceTypes := #[]
  staticTypes := #[]
  resolved := Array.replicate 37 none
  statics := none }

def pool2 : Array CpInfo := pool [(2, .class_ 4), (1, u "java/lang/Object"), (0, u "<init>"), (0, u "()V"), (1, .class_ 10), (1, u "com/example/clapboard/clapboard/parse/TitleText"), (36, u "PAIR_KINDS"), (0, u "[B"), (49, u "([CII)Z"), (55, u "ARTICLES"), (0, u "Ljava/util/List;"), (37, u "isAloneInBrackets")] 23

def k2m0 : Method := { name := "<init>", desc := "()V", sig := { parameters := [], returnType := none }, accessFlags := 2, code := none }
def k2c1 : Code := { maxStack := 3, maxLocals := 3, code := prog_128_method_7_code, exceptionTable := #[], attributes := #[] }
def k2m1 : Method := { name := "isAloneInBrackets", desc := "([CII)Z", sig := { parameters := [(.array .char), .int, .int], returnType := some .boolean }, accessFlags := 8, code := some k2c1 }
/-- com/example/clapboard/clapboard/parse/TitleText -/
def k2 : Class := { plain "com/example/clapboard/clapboard/parse/TitleText" (some 0) with
  accessFlags := 48
  interfaces := #[]
  cf := some (fileOf pool2 8 #[] #[{ accessFlags := 2, nameIndex := 5, descriptorIndex := 6, attributes := #[] }, { accessFlags := 8, nameIndex := 193, descriptorIndex := 98, attributes := #[] }] 48 2 #[] #[{ accessFlags := 26, nameIndex := 154, descriptorIndex := 155, attributes := #[] }, { accessFlags := 26, nameIndex := 47, descriptorIndex := 48, attributes := #[] }])
  fields := #[{ name := "ARTICLES", type := (.object "java/util/List"), accessFlags := 26, slot := 0, constantValue := 0 }, { name := "PAIR_KINDS", type := (.array .byte), accessFlags := 26, slot := 1, constantValue := 0 }]
  methods := #[k2m0, k2m1]
  instanceTypes := #[]
  staticTypes := #[(.object "java/util/List"), (.array .byte)]
  resolved := Array.replicate 217 none
  statics := none }

def pool3 : Array CpInfo := pool [(1, u "java/lang/Cloneable"), (0, .class_ 1), (0, u "java/lang/Object"), (0, .class_ 3)] 3

/-- java/lang/Cloneable -/
def k3 : Class := { plain "java/lang/Cloneable" (some 0) with
  accessFlags := 1537
  interfaces := #[]
  cf := some (fileOf pool3 2 #[] #[] 1537 4 #[] #[])
  fields := #[]
  methods := #[]
  instanceTypes := #[]
  staticTypes := #[]
  resolved := Array.replicate 8 none
  statics := none }

def pool4 : Array CpInfo := pool [(1, u "java/io/Serializable"), (0, .class_ 1), (0, u "java/lang/Object"), (0, .class_ 3)] 3

/-- java/io/Serializable -/
def k4 : Class := { plain "java/io/Serializable" (some 0) with
  accessFlags := 1537
  interfaces := #[]
  cf := some (fileOf pool4 2 #[] #[] 1537 4 #[] #[])
  fields := #[]
  methods := #[]
  instanceTypes := #[]
  staticTypes := #[]
  resolved := Array.replicate 8 none
  statics := none }

/-- the primitive byte -/
def k5 : Class := { plain "byte" none with kind := .primitive 'B', accessFlags := 0x411 }
/-- [B -/
def k6 : Class := { plain "[B" (some 0) with kind := .array 5 .byte, interfaces := #[3, 4], accessFlags := 1041 }

/-- the primitive char -/
def k7 : Class := { plain "char" none with kind := .primitive 'C', accessFlags := 0x411 }
/-- [C -/
def k8 : Class := { plain "[C" (some 0) with kind := .array 7 .char, interfaces := #[3, 4], accessFlags := 1041 }

/-- the primitive int -/
def k9 : Class := { plain "int" none with kind := .primitive 'I', accessFlags := 0x411 }
/-- [I -/
def k10 : Class := { plain "[I" (some 0) with kind := .array 9 .int, interfaces := #[3, 4], accessFlags := 1041 }

def heap : Heap := #[]
def classes : Array Class := #[k0, k1, k2, k3, k4, k5, k6, k7, k8, k9, k10]
def interned : List (Array UInt16 × Addr) := []
def slotsUsed : Nat := 0
def theMethod : MethodId := ⟨1, 1⟩
def args0 : Array Value := #[.int 5, .int 6, .int 7, .int 8, .int 9]
def aboutOver (below : List Frame) : State where
  vm := { classes := classes, interned := interned.toArray }
  heap := heap
  slotsUsed := slotsUsed
  threads := #[{ frames := .invoking theMethod args0 :: below }]
def below0 : List Frame := [.native { method := ⟨0, 0⟩, args := #[] }]
def about1 : State := aboutOver below0
def p0 : Program := .bare "" "" ""
def e0 : Env := launch0.env 0 0 0
theorem w_frames : about1.frames = Frame.invoking theMethod args0 :: below0 := rfl
set_option maxRecDepth 65536 in
theorem w_args : argsFit about1.vm theMethod args0 = true := by decide +kernel
set_option maxRecDepth 65536 in
theorem w_heap : heapFits about1 = true := by decide +kernel
set_option maxRecDepth 65536 in
theorem w_runnable : about1.curStatus? = some .runnable := by decide +kernel
set_option maxRecDepth 65536 in
theorem w_alone : about1.alone = true := by decide +kernel
set_option maxRecDepth 65536 in
theorem w_named : about1.methodNamed? x = some theMethod := by decide +kernel
set_option maxRecDepth 65536 in
theorem w_hears : about1.hears theMethod below0 = true := by decide +kernel
set_option maxRecDepth 65536 in
theorem w_ripe : about1.ripe theMethod args0 below0 = true := by decide +kernel
theorem w_running : about1.status = .running := rfl
set_option maxRecDepth 65536 in
theorem w_room : about1.hasRoom e0.platform room_1 = true :=
  launch0.hasRoom_least _ room_1 (by decide +kernel) (by decide +kernel) (by decide +kernel) (by decide +kernel) (by decide +kernel) (by decide +kernel)
theorem allAtoms_all (ts : List Jvm.Cond) (a : Array Jvm.Value) (st : Jvm.State) : (allAtoms ts).before a st = ts.all (fun c => c.before a st) := by
  induction ts with
  | nil => rfl
  | cons c t ih =>
    show (Jvm.Cond.and c (allAtoms t)).before a st = _
    rw [Jvm.Cond.before_and, ih, List.all_cons]
def words1 : List Jvm.Cond := Jvm.Cond.code x code maxLocals ret :: tables_1
/-- a 'code' word, met by the world's own term for the bytes: nothing is compared byte by byte -/
theorem code_word {y : MethodName} {bytes : ByteArray} {mx : Nat} {rt : Option FieldType} {a : Array Value} {s : State} {m : MethodId} {meth : Method} {c : Code} (h1 : s.methodNamed? y = some m) (h2 : s.vm.method? m = some meth) (h3 : meth.code = some c) (h4 : c.code = bytes)
    (h5 : (c.maxLocals == mx && c.exceptionTable.isEmpty && decide (c.maxStack ≤ mostOperands) && decide (meth.sig.returnType = rt) && !meth.locks && decide (parseMethodDescriptor y.desc = some meth.sig)) = true) : (Jvm.Cond.code y bytes mx rt).before a s = true := by
  simp only [Bool.and_eq_true, beq_iff_eq, Bool.not_eq_true', decide_eq_true_eq] at h5
  obtain ⟨⟨⟨⟨⟨g1, g2⟩, g3⟩, g4⟩, g5⟩, g6⟩ := h5
  simp [Cond.before, Cond.holds, Cond.value, h1, h2, h3, h4, g1, g2, g3, g4, g5, g6]
def isCode : Jvm.Cond → Bool
  | .code _ _ _ _ => true
  | _ => false
theorem all_split {L : List Jvm.Cond} {P : Jvm.Cond → Bool} (h1 : L.all (fun c => isCode c || P c) = true) (h2 : ∀ c ∈ L.filter isCode, P c = true) : L.all P = true := by
  refine List.all_eq_true.mpr fun c hc => ?_
  have h := List.all_eq_true.mp h1 c hc
  rcases Bool.eq_false_or_eq_true (isCode c) with hi | hi
  · exact h2 c (List.mem_filter.mpr ⟨hc, hi⟩)
  · simpa [hi] using h
set_option maxRecDepth 65536 in
theorem w_c0 : (Jvm.Cond.code x code maxLocals ret).before args0 about1 = true := code_word (m := ⟨1, 1⟩) (meth := k1m1) (c := k1c1) (by decide +kernel) rfl rfl rfl (by decide +kernel)
set_option maxRecDepth 65536 in
theorem w_c1 : (Jvm.Cond.code ({ cls := "com/example/clapboard/clapboard/parse/TitleText", name := "isAloneInBrackets", desc := "([CII)Z" } : Jvm.MethodName) prog_128_method_7_code (3 : Nat) (Option.some Jvm.ClassFile.FieldType.boolean)).before args0 about1 = true := code_word (m := ⟨2, 1⟩) (meth := k2m1) (c := k2c1) (by decide +kernel) rfl rfl rfl (by decide +kernel)
set_option maxRecDepth 65536 in
theorem w_c2 : (Jvm.Cond.code ({ cls := "com/example/clapboard/clapboard/parse/TitleTextIsAloneInBracketsPinLaw", name := "isOpener", desc := "(C)Z" } : Jvm.MethodName) method_4_code (2 : Nat) (Option.some Jvm.ClassFile.FieldType.boolean)).before args0 about1 = true := code_word (m := ⟨1, 3⟩) (meth := k1m3) (c := k1c3) (by decide +kernel) rfl rfl rfl (by decide +kernel)
set_option maxRecDepth 65536 in
theorem w_c3 : (Jvm.Cond.code ({ cls := "com/example/clapboard/clapboard/parse/TitleTextIsAloneInBracketsPinLaw", name := "kind", desc := "(C)I" } : Jvm.MethodName) method_3_code (1 : Nat) (Option.some Jvm.ClassFile.FieldType.int)).before args0 about1 = true := code_word (m := ⟨1, 2⟩) (meth := k1m2) (c := k1c2) (by decide +kernel) rfl rfl rfl (by decide +kernel)
set_option maxRecDepth 65536 in
theorem w_c4 : (Jvm.Cond.code ({ cls := "com/example/clapboard/clapboard/parse/TitleTextIsAloneInBracketsPinLaw", name := "isCloser", desc := "(C)Z" } : Jvm.MethodName) method_5_code (2 : Nat) (Option.some Jvm.ClassFile.FieldType.boolean)).before args0 about1 = true := code_word (m := ⟨1, 4⟩) (meth := k1m4) (c := k1c4) (by decide +kernel) rfl rfl rfl (by decide +kernel)
def codes1 : List Jvm.Cond := [Jvm.Cond.code x code maxLocals ret, Jvm.Cond.code ({ cls := "com/example/clapboard/clapboard/parse/TitleText", name := "isAloneInBrackets", desc := "([CII)Z" } : Jvm.MethodName) prog_128_method_7_code (3 : Nat) (Option.some Jvm.ClassFile.FieldType.boolean), Jvm.Cond.code ({ cls := "com/example/clapboard/clapboard/parse/TitleTextIsAloneInBracketsPinLaw", name := "isOpener", desc := "(C)Z" } : Jvm.MethodName) method_4_code (2 : Nat) (Option.some Jvm.ClassFile.FieldType.boolean), Jvm.Cond.code ({ cls := "com/example/clapboard/clapboard/parse/TitleTextIsAloneInBracketsPinLaw", name := "kind", desc := "(C)I" } : Jvm.MethodName) method_3_code (1 : Nat) (Option.some Jvm.ClassFile.FieldType.int), Jvm.Cond.code ({ cls := "com/example/clapboard/clapboard/parse/TitleTextIsAloneInBracketsPinLaw", name := "isCloser", desc := "(C)Z" } : Jvm.MethodName) method_5_code (2 : Nat) (Option.some Jvm.ClassFile.FieldType.boolean)]
set_option maxRecDepth 65536 in
theorem codes_eq : words1.filter isCode = codes1 := rfl
theorem w_codes : ∀ c ∈ words1.filter isCode, c.before args0 about1 = true := by
  rw [codes_eq]
  intro c hc
  simp only [codes1, List.mem_cons, List.not_mem_nil, or_false] at hc
  rcases hc with rfl | rfl | rfl | rfl | rfl
  · exact w_c0
  · exact w_c1
  · exact w_c2
  · exact w_c3
  · exact w_c4
set_option maxRecDepth 65536 in
theorem w_t1 : words1.all (fun c => isCode c || c.before args0 about1) = true := by decide +kernel
theorem w_tables : (allAtoms (Jvm.Cond.code x code maxLocals ret :: tables_1)).before args0 about1 = true := by
  rw [allAtoms_all]
  show words1.all (fun c => c.before args0 about1) = true
  refine all_split ?_ w_codes
  rw [w_t1]
set_option maxRecDepth 65536 in
theorem w_case : (Jvm.Cond.and given_1 narrow_1).before args0 about1 = true := by decide +kernel
theorem w_applies : (headSpec (Jvm.Cond.code x code maxLocals ret :: tables_1) room_1).applies x e0.platform about1 = true :=
  (Spec.applies_iff w_frames).mpr ⟨w_running, w_runnable, w_alone, w_named, w_hears, w_ripe, w_room, w_tables⟩
theorem atStart : AtStart classFile x code maxLocals ret World_1 tables_1 room_1 Calls_1 rest_1 Pre_1 launch0 p0 e0 about1 theMethod args0 below0 :=
  ⟨lists_1, trivial, launch0.admits_env _ _ _, launch0.least_env, fairChoices_fair.cas, fairChoices_fair.clock, w_frames, w_args, w_heap, w_applies, trivial, trivial, w_case⟩
end start1
theorem witness_1 : WitnessClaimed_1 := ⟨start1.p0, start1.e0, start1.about1, start1.theMethod, start1.args0, start1.below0, start1.atStart⟩
end Jvm.Pilot.@@N@@
