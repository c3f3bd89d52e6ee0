import JvmDerived
import JvmDerived.Pilot.@@N@@Statement
import JvmDerived.Pilot.@@N@@Code
set_option linter.unusedVariables false
set_option linter.unusedSimpArgs false
namespace Jvm.RoadKit
open Sem ClassFile Op Lib Jvm.Stand Jvm.Free Jvm.LawKit
section New
variable {p : Program} {l : Launch} {e : Env} {R : Room} {s : State} {m : MethodId} {args : Array Value} {below : List Frame} {meth : Method} {c : Code} {T : State} {locs : List Loc} {cells slots : Nat}
theorem retI (X : Stand p l e R s m args below meth c T locs cells slots) (hx : p.tables.exec = Jvm.exec) {pc : Nat} {Ls : Array Slot} {z : Int32} {rest : List Value} (hret : meth.sig.returnType = some .int) (hd : decode c.code pc = .ok (.ireturn, 1)) {fs : List Frame}
    (hl : ∀ (f : JFrame) (acts : List Action), f.method = m → f.locked = none → f.entered = [] → (doReturn e (T.setTop f) acts (some (.int z))).1 = T.setFrames fs) : Steps p.tables e below (T.setTop (mkF m pc Ls (.int z :: rest))) (T.setFrames fs) := by
  have hm' : T.vm.method? m = some meth := X.method'
  have hn : narrow .int (.int z) = .int z := rfl
  show Steps p.tables e below (T.setTop { method := m, pc := pc, locals := Ls, stack := _ :: rest, locked := none }) _
  jvm_step X.here [X.here.top, hx, hd, hm', hret, hn]
  first | (intro acts; rw [hl _ acts rfl rfl rfl]) | rw [hl _ _ rfl rfl rfl]
  exact Steps.refl _
end New
end Jvm.RoadKit
namespace Jvm.Pilot.@@N@@
open Jvm Jvm.ClassFile Sem Op Lib Jvm.Free Jvm.Stand Jvm.LawKit Jvm.RoadKit Bundle Jvm.Pilot.@@N@@.Jvm.D
theorem own_fld {s : State} {args : Array Value} {t : Term} {x : Addr} {C n d : String} {k : Int32} (ev : t.eval args s none [] s = some (.ref x)) (h : (Jvm.Cond.eq (.field t C n d) (.int k)).value args s none s [] = some true) : Fld s s.heap x C n d (.int k) := by
  have hf := fld_at (C := C) (n := n) (dd := d) ev
  have hk : (Term.int k).eval args s none [] s = some (.int k) := Term.int_eval k
  cases hq : s.fieldOf? x C n d with
  | none => rw [hq] at hf; simp [Cond.value, hf] at h
  | some v =>
    rw [hq] at hf
    cases v <;> simp [Cond.value, hf, hk] at h
    subst h
    exact Fld.start hq
def upd (f : Int32 → Int32) (j v : Int32) : Int32 → Int32 := fun k => if k = j then v else f k
def Ia (Z : State) (h : Heap) (a : Addr) (ty : FieldType) (n : Int32) (f : Int32 → Int32) : Prop := ∃ c : Cell, Arr Z h a c ty ∧ c.slots.size = n.toNatClampNeg ∧ ¬ n < 0 ∧ ∀ j : Int32, ¬ j < 0 → j < n → c.slots[j.toNatClampNeg]? = some (.int (f j))
section OwnIa
variable {Z : State} {h h' : Heap} {a b : Addr} {ty : FieldType} {n j x : Int32} {f : Int32 → Int32} {sl : Nat} {v : Value} {ws : List Addr}
theorem own_ext (K : Keep h h' []) : Ext h h' := ⟨K.1, fun a c q => K.2.1 a c q nin0⟩
theorem Ia.lt (F : Ia Z h a ty n f) : a < h.size := by obtain ⟨c, A, -⟩ := F; exact A.lt
theorem Ia.ext (F : Ia Z h a ty n f) (E : Ext h h') : Ia Z h' a ty n f := by obtain ⟨c, A, r⟩ := F; exact ⟨c, A.ext E, r⟩
theorem Ia.other (F : Ia Z h b ty n f) (W : Wr h h' a sl v) (q : b ≠ a) : Ia Z h' b ty n f := by obtain ⟨c, A, r⟩ := F; exact ⟨c, A.other W q, r⟩
theorem Ia.keep (F : Ia Z h a ty n f) (K : Keep h h' ws) (q : a ∉ ws) : Ia Z h' a ty n f := by obtain ⟨c, A, r⟩ := F; exact ⟨c, ⟨K.2.1 a c A.1 q, A.2⟩, r⟩
theorem Ia.at (F : Ia Z h a ty n f) (q : ¬ j < 0 ∧ j < n) : ∃ c : Cell, Arr Z h a c ty ∧ ¬ (j < 0 ∨ c.slots.size ≤ j.toNatClampNeg) ∧ c.slots[j.toNatClampNeg]? = some (.int (f j)) := by
  obtain ⟨c, A, S, N, G⟩ := F
  exact ⟨c, A, inb_of S q, G j q.1 q.2⟩
theorem Ia.len (F : Ia Z h a ty n f) : ∃ c : Cell, Arr Z h a c ty ∧ c.slots.size = n.toNatClampNeg ∧ ¬ n < 0 := by
  obtain ⟨c, A, S, N, G⟩ := F
  exact ⟨c, A, S, N⟩
theorem Ia.new {k : ClassId} (A : Arr Z h a (newA k ty n) ty) (q : ¬ n < 0) (e : defaultValue ty = .int 0) : Ia Z h a ty n (fun _ => 0) :=
  ⟨_, A, sz_new _ _ _, q, fun j h1 h2 => by
    have hi := inb_of (sz_new k ty n) ⟨h1, h2⟩
    rw [sz_new] at hi
    rw [get_new hi, e]⟩
theorem Ia.set (F : Ia Z h a ty n f) (W : Wr h h' a j.toNatClampNeg (.int x)) (hj : ¬ j < 0) : Ia Z h' a ty n (upd f j x) := by
  obtain ⟨c, A, S, N, G⟩ := F
  refine ⟨_, A.same W, by rw [sz_set]; exact S, N, fun k h1 h2 => ?_⟩
  by_cases e : k = j
  · subst e
    rw [get_hit (inb_of S ⟨h1, h2⟩) rfl]
    exact congrArg (fun z => some (Value.int z)) (if_pos rfl).symm
  · rw [get_miss hj h1 e, G k h1 h2]
    exact congrArg (fun z => some (Value.int z)) (if_neg e).symm
theorem own_nea {C : String} {a0 : Array Value} {k : Nat} (F : Exa Z h a C) (wi : (Jvm.Cond.instantiable C k).before a0 Z = true) (G : Ia Z h b ty n f) : a ≠ b := by
  obtain ⟨c, A, -⟩ := G
  exact ne_arr F wi A
theorem Ia.congr {g : Int32 → Int32} (F : Ia Z h a ty n f) (q : ∀ j : Int32, ¬ j < 0 → j < n → f j = g j) : Ia Z h a ty n g := by
  obtain ⟨c, A, S, N, G⟩ := F
  exact ⟨c, A, S, N, fun k h1 h2 => by rw [← q k h1 h2]; exact G k h1 h2⟩
end OwnIa
theorem own_nat (b : Int32) : b = Int32.ofNat b.toBitVec.toNat := by
  apply Int32.toBitVec_inj.mp
  simp
theorem own_mask (a m : Int32) (k : Nat) (h : m.toBitVec.toNat = k) : ∃ n, n < k + 1 ∧ a &&& m = Int32.ofNat n := by
  refine ⟨(a &&& m).toBitVec.toNat, ?_, own_nat _⟩
  have : (a &&& m).toBitVec.toNat = a.toBitVec.toNat &&& m.toBitVec.toNat := by simp
  rw [this, h]
  exact Nat.lt_succ_of_le Nat.and_le_right
theorem own_ofNat (n : Nat) (h : n < 2147483648) : (Int32.ofNat n).toInt = (n : Int) := Int32.toInt_ofNat_of_lt h
theorem own_rem (n k : Nat) (h : n < 2147483648) (h1 : k < 2147483648) : Int32.ofNat n % Int32.ofNat k = Int32.ofNat (n % k) := by
  apply Int32.toInt_inj.mp
  rw [Int32.toInt_mod, own_ofNat n h, own_ofNat k h1, own_ofNat (n % k) (Nat.lt_of_le_of_lt (Nat.mod_le n k) h)]
  rw [Int.tmod_eq_emod_of_nonneg (by omega)]
  exact (Int.natCast_emod n k).symm
theorem Ia.nn {Z : State} {h : Heap} {a : Addr} {ty : FieldType} {n : Int32} {f : Int32 → Int32} (F : Ia Z h a ty n f) : ¬ n < 0 := by obtain ⟨c, A, S, N, G⟩ := F; exact N
theorem own_inc (i n : Int32) (h : i < n) : (i + 1).toInt = i.toInt + 1 := by
  have h1 := Int32.lt_iff_toInt_lt.mp h
  have r1 := i.le_toInt
  have r2 := n.toInt_lt
  have z1 : (1 : Int32).toInt = 1 := by decide
  rw [Int32.toInt_add, z1]
  exact Int.bmod_eq_of_le (by omega) (by omega)
theorem own_s1 (i n : Int32) (hi : ¬ i < 0) (h : i < n) : ¬ (i + 1) < 0 := fun q => by
  have z0 : (0 : Int32).toInt = 0 := by decide
  have h1 := Int32.lt_iff_toInt_lt.mp q
  have h2 : ¬ (i.toInt < (0 : Int32).toInt) := fun q => hi (Int32.lt_iff_toInt_lt.mpr q)
  rw [own_inc i n h] at h1
  omega
theorem own_s2 (i n : Int32) (h : i < n) : ¬ n < (i + 1) := fun q => by
  have h1 := Int32.lt_iff_toInt_lt.mp q
  have h2 := Int32.lt_iff_toInt_lt.mp h
  rw [own_inc i n h] at h1
  omega
theorem own_s3 (i n : Int32) (k : Nat) (hk : n.toInt - i.toInt < ((k + 1 : Nat) : Int)) (h : i < n) : n.toInt - (i + 1).toInt < (k : Int) := by
  rw [own_inc i n h]
  omega
theorem own_z (i n : Int32) (hj : ¬ n < i) (hk : n.toInt - i.toInt < ((0 : Nat) : Int)) : False := by
  have h2 : ¬ (n.toInt < i.toInt) := fun q => hj (Int32.lt_iff_toInt_lt.mpr q)
  omega
theorem own_clamp (n : Int32) (h : ¬ n < 0) : n.toInt = (n.toNatClampNeg : Int) := by
  have z0 : (0 : Int32).toInt = 0 := by decide
  have h2 : ¬ (n.toInt < (0 : Int32).toInt) := fun q => h (Int32.lt_iff_toInt_lt.mpr q)
  show n.toInt = (n.toInt.toNat : Int)
  omega
theorem own_k0 (n : Int32) (h : ¬ n < 0) : n.toInt - (0 : Int32).toInt < ((n.toNatClampNeg + 1 : Nat) : Int) := by
  have z0 : (0 : Int32).toInt = 0 := by decide
  have := own_clamp n h
  omega
theorem own_tr (i n m : Int32) (h : i < n) (hm : ¬ m < n) : i < m := by
  have h1 := Int32.lt_iff_toInt_lt.mp h
  have h2 : ¬ (m.toInt < n.toInt) := fun q => hm (Int32.lt_iff_toInt_lt.mpr q)
  exact Int32.lt_iff_toInt_lt.mpr (by omega)
theorem own_wrsz {h h' : Heap} {a : Addr} {sl : Nat} {v : Value} (W : Wr h h' a sl v) : h.size ≤ h'.size := by
  obtain ⟨c, -, -, -, rfl⟩ := W
  simp
theorem own_sz {T : State} {h : Heap} (e : T.heap = h) : T.heap.size ≤ h.size := by rw [e]; exact Nat.le_refl _
theorem own_since (s : State) (n : Nat) : s.Since s.vm n := (State.WarmedH.refl s).since n
theorem own_ia0 {Z : State} {h : Heap} {b : Addr} {k : ClassId} (A : Arv Z h b k .byte 0 [] (.int 0)) : Ia Z h b .byte (0 : Int32) (fun _ => 0) := by
  obtain ⟨c, A, -, S, N, -, -⟩ := A
  exact ⟨c, A, S, N, fun j h1 h2 => absurd h2 h1⟩
theorem own_safeA {Z : State} {EL : List (String × Nat)} {vm : Vm} {h : Heap} {a : Addr} {ty : FieldType} {n : Int32} {f : Int32 → Int32} (hal : Z.vm.Alike vm) (F : Ia Z h a ty n f) (q : ty ≠ .byte) : Safe Z EL vm h a := by
  obtain ⟨c, A, -⟩ := F
  exact Safe.arr hal A q
theorem own_safe {Z : State} {EL : List (String × Nat)} {vm : Vm} {h : Heap} {a : Addr} (hal : Z.vm.Alike vm) (E : Exa Z h a "java/lang/String") (F : Fld Z h a "java/lang/String" "value" "[B" .null) : Safe Z EL vm h a := fun B => by
  obtain ⟨p, -, u, x, -, q, -, G, rfl | rfl⟩ := B
  · obtain ⟨cell, cf, k, i, f, e1, e2, -, -, -, -, e7⟩ := F
    cases (show h[q.sa]? = some q.sC from G.ha).symm.trans e1
    obtain ⟨cS, ⟨⟨-, -, -, ⟨c1, k1, i1, f1, -⟩, -, -, -, v1, -⟩, -⟩, -⟩ := G
    obtain ⟨k3, e3⟩ := ff_back (U := Wst Z vm h) hal f1
    have e4 := e2.symm.trans e3
    simp only [Option.some.injEq, Prod.mk.injEq] at e4
    rw [e4.2.2.2, v1] at e7
    cases e7
  · obtain ⟨cell, k, e1, e2, -, -, -⟩ := E
    cases (show h[q.sd]? = some q.SA from G.hd).symm.trans e1
    obtain ⟨cS, -, -, f, -⟩ := G
    have f : vm.findClass "[B" = some q.SA.cls := f
    rw [hal.findClass] at f
    obtain ⟨k1, q1, q2⟩ := Vm.findClass_spec f
    obtain ⟨k2, q3, q4⟩ := Vm.findClass_spec e2
    cases q1.symm.trans q3
    exact absurd (q2.symm.trans q4) (by decide)
theorem own_neA {Z : State} {h : Heap} {a b : Addr} {ty ty' : FieldType} {n n' : Int32} {f f' : Int32 → Int32} (F : Ia Z h a ty n f) (G : Ia Z h b ty' n' f') (hne : ty ≠ ty') : a ≠ b := fun e => by
  subst e
  obtain ⟨c, ⟨A1, ⟨-, kA, hkA, compA, hkindA⟩, -⟩, -⟩ := F
  obtain ⟨c', ⟨B1, ⟨-, kB, hkB, compB, hkindB⟩, -⟩, -⟩ := G
  cases A1.symm.trans B1
  cases hkA.symm.trans hkB
  have := hkindA.symm.trans hkindB
  injection this with _ e
  exact hne e
theorem own_nst {Z : State} {h : Heap} {a : Addr} {C : String} (E : Exa Z h a C) : ∃ c : Cell, h[a]? = some c ∧ c.vm.isStatics = false := by
  obtain ⟨c, k, h1, -, -, h2, -⟩ := E
  exact ⟨c, h1, h2⟩
theorem own_stak {Z : State} {h0 h : Heap} {C n d : String} {v : Value} {ws : List Addr} (F : Sta Z h0 C n d v) (K : Keep h0 h ws) (q : ∀ x ∈ ws, ∃ c : Cell, h0[x]? = some c ∧ c.vm.isStatics = false) : Sta Z h C n d v := by
  obtain ⟨cf, i, k, f, st, cell, h1, h2, h3, h4, h5, h6, h7⟩ := F
  refine ⟨cf, i, k, f, st, cell, h1, h2, h3, h4, K.2.1 _ _ h5 (fun hm => ?_), h6, h7⟩
  obtain ⟨c, e1, e2⟩ := q _ hm
  cases e1.symm.trans h5
  rw [h6] at e2
  cases e2
theorem own_cat {v : Value} (h : v.isRef = true) : v.category = 1 := by
  rcases Jvm.RoadKit.ref_cases h with rfl | ⟨z, rfl⟩ <;> rfl
theorem own_stv {P : Value → Prop} (x : Value) (h : x.isRef = true) (h0 : P .null) (h1 : ∀ z, P (.ref z)) : P x := by
  rcases Jvm.RoadKit.ref_cases h with rfl | ⟨z, rfl⟩
  · exact h0
  · exact h1 z
theorem own_sts {P : Slot → Prop} (x : Slot) (h : x = .unset ∨ ∃ z : Int32, x = .val (.int z)) (h0 : P .unset) (h1 : ∀ z : Int32, P (.val (.int z))) : P x := by
  rcases h with rfl | ⟨z, rfl⟩
  · exact h0
  · exact h1 z
theorem own_nzs {s : State} {args : Array Value} {t : Term} {w : Int32} (ev : t.eval args s none [] s = some (.int w)) (h : (Jvm.Cond.not (.eq t (.int 0))).value args s none s [] = some true) : ¬ (w = 0) := fun e => by
  subst e
  have hk : (Term.int 0).eval args s none [] s = some (.int 0) := Term.int_eval 0
  simp [Cond.value, ev, hk] at h
theorem own_isref {s : State} {args : Array Value} {t : Term} (h : (Jvm.Cond.isRef t).value args s none s [] = some true) : ∃ w : Value, t.eval args s none [] s = some w ∧ w.isRef = true := by
  cases ev : t.eval args s none [] s with
  | none => simp [Cond.value, ev] at h
  | some w => exact ⟨w, rfl, by cases w <;> first | rfl | (simp [Cond.value, ev] at h)⟩
theorem own_chs (f : Int32 → Int32) (i a : Int32) (h : ∀ j, ¬ (255 : Int32) < f j) (ha : ¬ (255 : Int32) < a) : ∀ j, ¬ (255 : Int32) < upd f i a j := fun j => by
  unfold upd
  split
  · exact ha
  · exact h j
theorem own_b3 (x n : Int32) (h : n = 4) : ¬ (x &&& 3) < 0 ∧ (x &&& 3) < n := by
  obtain ⟨k, hk, e⟩ := own_mask x 3 3 (by decide)
  rw [h, e]
  exact (show ∀ k : Fin 4, ¬ Int32.ofNat k.val < 0 ∧ Int32.ofNat k.val < (4 : Int32) from by decide) ⟨k, hk⟩
theorem own_rb (a e i n t : Int32) (hs : ¬ a < 0) (hle : ¬ e < a) (he : ¬ t < e) (hi : ¬ i < 0) (h : i < n) (hq : ¬ (e - a) < n) : ¬ (a + i) < 0 ∧ (a + i) < t := by
  have z0 : (0 : Int32).toInt = 0 := by decide
  have h1 : ¬ (a.toInt < (0 : Int32).toInt) := fun q => hs (Int32.lt_iff_toInt_lt.mpr q)
  have h2 : ¬ (e.toInt < a.toInt) := fun q => hle (Int32.lt_iff_toInt_lt.mpr q)
  have h3 : ¬ (t.toInt < e.toInt) := fun q => he (Int32.lt_iff_toInt_lt.mpr q)
  have h4 : ¬ (i.toInt < (0 : Int32).toInt) := fun q => hi (Int32.lt_iff_toInt_lt.mpr q)
  have h5 := Int32.lt_iff_toInt_lt.mp h
  have r1 := e.toInt_lt
  have r2 := t.toInt_lt
  have d : (e - a).toInt = e.toInt - a.toInt := by
    rw [Int32.toInt_sub]; exact Int.bmod_eq_of_le (by omega) (by omega)
  have h6 : ¬ ((e - a).toInt < n.toInt) := fun q => hq (Int32.lt_iff_toInt_lt.mpr q)
  rw [d] at h6
  have s : (a + i).toInt = a.toInt + i.toInt := by
    rw [Int32.toInt_add]; exact Int.bmod_eq_of_le (by omega) (by omega)
  exact ⟨fun q => by have := Int32.lt_iff_toInt_lt.mp q; omega, Int32.lt_iff_toInt_lt.mpr (by omega)⟩
def EL0 : List (String × Nat) := [("java/lang/String", 7)]
theorem ew0 {Z : State} {a0 : Array Value} (hw : ∀ d ∈ tables_1, d.before a0 Z = true) : EW Z a0 EL0 := EW.cons (text := "") (hw _ (List.mem_of_getElem? (i := 99) rfl)) (fun c hc => by simp at hc) EW.nil
theorem wS0 {Z : State} {a0 : Array Value} (hw : ∀ d ∈ tables_1, d.before a0 Z = true) : ∀ d ∈ Bundle.stringAtoms, d.before a0 Z = true := by
  intro d hd
  simp only [Bundle.stringAtoms, List.mem_cons, List.not_mem_nil, or_false] at hd
  rcases hd with rfl | rfl | rfl | rfl | rfl | rfl | rfl
  · exact (hw _ (List.mem_of_getElem? (i := 17) rfl))
  · exact (hw _ (List.mem_of_getElem? (i := 16) rfl))
  · exact (hw _ (List.mem_of_getElem? (i := 33) rfl))
  · exact (hw _ (List.mem_of_getElem? (i := 43) rfl))
  · exact (hw _ (List.mem_of_getElem? (i := 41) rfl))
  · exact (hw _ (List.mem_of_getElem? (i := 100) rfl))
  · exact (hw _ (List.mem_of_getElem? (i := 101) rfl))
-- body 1: java/lang/Math.min(II)I
theorem d1_0 : decode jdk_29_method_69_code 0 = .ok (.iload_n 0, 1) := by decide +kernel
theorem d1_1 : decode jdk_29_method_69_code 1 = .ok (.iload_n 1, 1) := by decide +kernel
theorem d1_2 : decode jdk_29_method_69_code 2 = .ok (.if_icmp .gt 7, 3) := by decide +kernel
theorem d1_5 : decode jdk_29_method_69_code 5 = .ok (.iload_n 0, 1) := by decide +kernel
theorem d1_6 : decode jdk_29_method_69_code 6 = .ok (.goto 4, 3) := by decide +kernel
theorem d1_9 : decode jdk_29_method_69_code 9 = .ok (.iload_n 1, 1) := by decide +kernel
theorem d1_10 : decode jdk_29_method_69_code 10 = .ok (.ireturn, 1) := by decide +kernel
theorem ef_1 (m : MethodId) (p1 : Int32) (p2 : Int32) : entryFrame m #[(.int p1), (.int p2)] 2 = mkF m 0 #[.val (.int p1), .val (.int p2)] [] := by first | (simp [entryFrame, mkF, argsToLocals, Value.category]; done) | rfl
def f1 (p1 : Int32) (p2 : Int32) : Int32 := (if p2 < p1 then p2 else p1)
def Q1 (Z : State) (p1 : Int32) (p2 : Int32) (h0 : Heap) (n0 : Nat) (v : Option Value) (h : Heap) (L : List Loc) : Prop := v = some (.int (f1 p1 p2)) ∧ Fr n0 L ∧ h = h0
set_option maxRecDepth 65536 in
set_option maxHeartbeats 40000000 in
theorem rm1 (l : Launch) (Z : State) (a0 : Array Value) (hw : ∀ d ∈ tables_1, d.before a0 Z = true) (ws : List Jvm.Cond) (p1 : Int32) (p2 : Int32) (h0 : Heap) (n0 : Nat) (Z0 : n0 ≤ h0.size) :
    MetFree l (⟨"java/lang/Math", "min", "(II)I"⟩ : MethodName) (head1 (Jvm.Cond.code (⟨"java/lang/Math", "min", "(II)I"⟩ : MethodName) jdk_29_method_69_code 2 (some .int) :: ws) ({ frames := 0, cells := 0, slots := 0, locals := 0 } : Room)) (fun a U => a = #[(.int p1), (.int p2)] ∧ Z.Warmed39 U.vm ∧ U.heap = h0) (fun _ _ _ _ _ => True) (fun _ U o U' => ∃ v L, o = .returned v ∧ Q1 Z p1 p2 h0 n0 v U'.heap L ∧ FrameEnd U o U' L ({ frames := 0, cells := 0, slots := 0, locals := 0 } : Room).cells ({ frames := 0, cells := 0, slots := 0, locals := 0 } : Room).slots) := by
  refine MetFree.of_bodySF (Jvm.Free.JP.mathPlain rfl (by decide +kernel)) hisR ?_
  intro p e s m args below meth c s₁ Bd hml0 hP hK
  obtain ⟨rfl, hZ, hh⟩ := hP
  have hx := Bd.exec
  have hby := Bd.bytes
  have hml : c.maxLocals = 2 := hml0
  have hown : s.vm.findClass "java/lang/Math" = some m.cls := findClass_of_methodNamed Bd.named
  have hnm := (name_of_methodNamed Bd.named Bd.method).1
  have X0 : Stand p l e ({ frames := 0, cells := 0, slots := 0, locals := 0 } : Room) s m #[(.int p1), (.int p2)] below meth c s₁ [] 0 0 := Stand.of_body Bd
  have e0 : s₁.heap = h0 := by rw [← hh, Bd.state]; rfl
  have N0 := Fr.nil n0
  have pre0 : ∀ t, Steps p.tables e below (s₁.setTop (mkF m 0 #[.val (.int p1), .val (.int p2)] [])) t → Steps p.tables e below (s₁.setTop (entryFrame m #[(.int p1), (.int p2)] 2)) t := fun t k => castTop (ef_1 m p1 p2) k
  have K1 : ∀ t, Steps p.tables e below (s₁.setTop (mkF m 2 #[.val (.int p1), .val (.int p2)] [(.int p2), (.int p1)])) t → Steps p.tables e below (s₁.setTop (mkF m 0 #[.val (.int p1), .val (.int p2)] [])) t := by
    intro t k
    refine XS.iloadN X0.here hx rfl (Jvm.hb hby d1_0) rfl ?_
    show Steps p.tables e below (s₁.setTop (mkF m 1 #[.val (.int p1), .val (.int p2)] [(.int p1)])) t
    refine XS.iloadN X0.here hx rfl (Jvm.hb hby d1_1) rfl ?_
    show Steps p.tables e below (s₁.setTop (mkF m 2 #[.val (.int p1), .val (.int p2)] [(.int p2), (.int p1)])) t
    exact k
  by_cases hc2 : p2 < p1
  · have K3 : ∀ t, Steps p.tables e below (s₁.setTop (mkF m 9 #[.val (.int p1), .val (.int p2)] [])) t → Steps p.tables e below (s₁.setTop (mkF m 2 #[.val (.int p1), .val (.int p2)] [(.int p2), (.int p1)])) t := by
      intro t k
      refine XS.icmpYes X0.here hx rfl (pc0 := 2) (pc' := 9) rfl (Jvm.hb hby d1_2) rfl (tlt hc2).2.2.1 (by decide) (by decide) ?_
      exact k
    have K4 : ∀ t, Steps p.tables e below (s₁.setTop (mkF m 10 #[.val (.int p1), .val (.int p2)] [(.int p2)])) t → Steps p.tables e below (s₁.setTop (mkF m 9 #[.val (.int p1), .val (.int p2)] [])) t := by
      intro t k
      refine XS.iloadN X0.here hx rfl (Jvm.hb hby d1_9) rfl ?_
      show Steps p.tables e below (s₁.setTop (mkF m 10 #[.val (.int p1), .val (.int p2)] [(.int p2)])) t
      exact k
    obtain ⟨fs, hr, hrun, hended, hW, hsame⟩ := X0.leave (v := some (.int p2)) (fun h => by rw [Bd.returns] at h; cases h) Bd.notSynchronized
    refine ⟨_, _, pre0 _ (K1 _ (K3 _ (K4 _ (retI X0 hx Bd.returns (Jvm.hb hby d1_10) hr)))), hrun, hended, _, _, rfl, ?_, ⟨_, rfl⟩, hW, hsame.mono (by decide) (by decide)⟩
    show Q1 Z p1 p2 h0 n0 _ s₁.heap _
    rw [e0]
    exact ⟨congrArg (fun z => some (Value.int z)) (show p2 = f1 p1 p2 from Eq.symm (if_pos hc2)), N0, rfl⟩
  · have K5 : ∀ t, Steps p.tables e below (s₁.setTop (mkF m 5 #[.val (.int p1), .val (.int p2)] [])) t → Steps p.tables e below (s₁.setTop (mkF m 2 #[.val (.int p1), .val (.int p2)] [(.int p2), (.int p1)])) t := by
      intro t k
      refine XS.icmpNo X0.here hx rfl (Jvm.hb hby d1_2) rfl (flt hc2).2.2.1 ?_
      exact k
    have K6 : ∀ t, Steps p.tables e below (s₁.setTop (mkF m 10 #[.val (.int p1), .val (.int p2)] [(.int p1)])) t → Steps p.tables e below (s₁.setTop (mkF m 5 #[.val (.int p1), .val (.int p2)] [])) t := by
      intro t k
      refine XS.iloadN X0.here hx rfl (Jvm.hb hby d1_5) rfl ?_
      show Steps p.tables e below (s₁.setTop (mkF m 6 #[.val (.int p1), .val (.int p2)] [(.int p1)])) t
      refine XS.goto X0.here hx rfl (pc0 := 6) (pc' := 10) rfl (Jvm.hb hby d1_6) (by decide) (by decide) ?_
      show Steps p.tables e below (s₁.setTop (mkF m 10 #[.val (.int p1), .val (.int p2)] [(.int p1)])) t
      exact k
    obtain ⟨fs, hr, hrun, hended, hW, hsame⟩ := X0.leave (v := some (.int p1)) (fun h => by rw [Bd.returns] at h; cases h) Bd.notSynchronized
    refine ⟨_, _, pre0 _ (K1 _ (K5 _ (K6 _ (retI X0 hx Bd.returns (Jvm.hb hby d1_10) hr)))), hrun, hended, _, _, rfl, ?_, ⟨_, rfl⟩, hW, hsame.mono (by decide) (by decide)⟩
    show Q1 Z p1 p2 h0 n0 _ s₁.heap _
    rw [e0]
    exact ⟨congrArg (fun z => some (Value.int z)) (show p1 = f1 p1 p2 from Eq.symm (if_neg hc2)), N0, rfl⟩
-- body 2: java/lang/Math.max(II)I
theorem d2_0 : decode jdk_29_method_65_code 0 = .ok (.iload_n 0, 1) := by decide +kernel
theorem d2_1 : decode jdk_29_method_65_code 1 = .ok (.iload_n 1, 1) := by decide +kernel
theorem d2_2 : decode jdk_29_method_65_code 2 = .ok (.if_icmp .lt 7, 3) := by decide +kernel
theorem d2_5 : decode jdk_29_method_65_code 5 = .ok (.iload_n 0, 1) := by decide +kernel
theorem d2_6 : decode jdk_29_method_65_code 6 = .ok (.goto 4, 3) := by decide +kernel
theorem d2_9 : decode jdk_29_method_65_code 9 = .ok (.iload_n 1, 1) := by decide +kernel
theorem d2_10 : decode jdk_29_method_65_code 10 = .ok (.ireturn, 1) := by decide +kernel
theorem ef_2 (m : MethodId) (p1 : Int32) (p2 : Int32) : entryFrame m #[(.int p1), (.int p2)] 2 = mkF m 0 #[.val (.int p1), .val (.int p2)] [] := by first | (simp [entryFrame, mkF, argsToLocals, Value.category]; done) | rfl
def f2 (p1 : Int32) (p2 : Int32) : Int32 := (if p1 < p2 then p2 else p1)
def Q2 (Z : State) (p1 : Int32) (p2 : Int32) (h0 : Heap) (n0 : Nat) (v : Option Value) (h : Heap) (L : List Loc) : Prop := v = some (.int (f2 p1 p2)) ∧ Fr n0 L ∧ h = h0
set_option maxRecDepth 65536 in
set_option maxHeartbeats 40000000 in
theorem rm2 (l : Launch) (Z : State) (a0 : Array Value) (hw : ∀ d ∈ tables_1, d.before a0 Z = true) (ws : List Jvm.Cond) (p1 : Int32) (p2 : Int32) (h0 : Heap) (n0 : Nat) (Z0 : n0 ≤ h0.size) :
    MetFree l (⟨"java/lang/Math", "max", "(II)I"⟩ : MethodName) (head1 (Jvm.Cond.code (⟨"java/lang/Math", "max", "(II)I"⟩ : MethodName) jdk_29_method_65_code 2 (some .int) :: ws) ({ frames := 0, cells := 0, slots := 0, locals := 0 } : Room)) (fun a U => a = #[(.int p1), (.int p2)] ∧ Z.Warmed39 U.vm ∧ U.heap = h0) (fun _ _ _ _ _ => True) (fun _ U o U' => ∃ v L, o = .returned v ∧ Q2 Z p1 p2 h0 n0 v U'.heap L ∧ FrameEnd U o U' L ({ frames := 0, cells := 0, slots := 0, locals := 0 } : Room).cells ({ frames := 0, cells := 0, slots := 0, locals := 0 } : Room).slots) := by
  refine MetFree.of_bodySF (Jvm.Free.JP.mathPlain rfl (by decide +kernel)) hisR ?_
  intro p e s m args below meth c s₁ Bd hml0 hP hK
  obtain ⟨rfl, hZ, hh⟩ := hP
  have hx := Bd.exec
  have hby := Bd.bytes
  have hml : c.maxLocals = 2 := hml0
  have hown : s.vm.findClass "java/lang/Math" = some m.cls := findClass_of_methodNamed Bd.named
  have hnm := (name_of_methodNamed Bd.named Bd.method).1
  have X0 : Stand p l e ({ frames := 0, cells := 0, slots := 0, locals := 0 } : Room) s m #[(.int p1), (.int p2)] below meth c s₁ [] 0 0 := Stand.of_body Bd
  have e0 : s₁.heap = h0 := by rw [← hh, Bd.state]; rfl
  have N0 := Fr.nil n0
  have pre0 : ∀ t, Steps p.tables e below (s₁.setTop (mkF m 0 #[.val (.int p1), .val (.int p2)] [])) t → Steps p.tables e below (s₁.setTop (entryFrame m #[(.int p1), (.int p2)] 2)) t := fun t k => castTop (ef_2 m p1 p2) k
  have K1 : ∀ t, Steps p.tables e below (s₁.setTop (mkF m 2 #[.val (.int p1), .val (.int p2)] [(.int p2), (.int p1)])) t → Steps p.tables e below (s₁.setTop (mkF m 0 #[.val (.int p1), .val (.int p2)] [])) t := by
    intro t k
    refine XS.iloadN X0.here hx rfl (Jvm.hb hby d2_0) rfl ?_
    show Steps p.tables e below (s₁.setTop (mkF m 1 #[.val (.int p1), .val (.int p2)] [(.int p1)])) t
    refine XS.iloadN X0.here hx rfl (Jvm.hb hby d2_1) rfl ?_
    show Steps p.tables e below (s₁.setTop (mkF m 2 #[.val (.int p1), .val (.int p2)] [(.int p2), (.int p1)])) t
    exact k
  by_cases hc2 : p1 < p2
  · have K3 : ∀ t, Steps p.tables e below (s₁.setTop (mkF m 9 #[.val (.int p1), .val (.int p2)] [])) t → Steps p.tables e below (s₁.setTop (mkF m 2 #[.val (.int p1), .val (.int p2)] [(.int p2), (.int p1)])) t := by
      intro t k
      refine XS.icmpYes X0.here hx rfl (pc0 := 2) (pc' := 9) rfl (Jvm.hb hby d2_2) rfl (tlt hc2).1 (by decide) (by decide) ?_
      exact k
    have K4 : ∀ t, Steps p.tables e below (s₁.setTop (mkF m 10 #[.val (.int p1), .val (.int p2)] [(.int p2)])) t → Steps p.tables e below (s₁.setTop (mkF m 9 #[.val (.int p1), .val (.int p2)] [])) t := by
      intro t k
      refine XS.iloadN X0.here hx rfl (Jvm.hb hby d2_9) rfl ?_
      show Steps p.tables e below (s₁.setTop (mkF m 10 #[.val (.int p1), .val (.int p2)] [(.int p2)])) t
      exact k
    obtain ⟨fs, hr, hrun, hended, hW, hsame⟩ := X0.leave (v := some (.int p2)) (fun h => by rw [Bd.returns] at h; cases h) Bd.notSynchronized
    refine ⟨_, _, pre0 _ (K1 _ (K3 _ (K4 _ (retI X0 hx Bd.returns (Jvm.hb hby d2_10) hr)))), hrun, hended, _, _, rfl, ?_, ⟨_, rfl⟩, hW, hsame.mono (by decide) (by decide)⟩
    show Q2 Z p1 p2 h0 n0 _ s₁.heap _
    rw [e0]
    exact ⟨congrArg (fun z => some (Value.int z)) (show p2 = f2 p1 p2 from Eq.symm (if_pos hc2)), N0, rfl⟩
  · have K5 : ∀ t, Steps p.tables e below (s₁.setTop (mkF m 5 #[.val (.int p1), .val (.int p2)] [])) t → Steps p.tables e below (s₁.setTop (mkF m 2 #[.val (.int p1), .val (.int p2)] [(.int p2), (.int p1)])) t := by
      intro t k
      refine XS.icmpNo X0.here hx rfl (Jvm.hb hby d2_2) rfl (flt hc2).1 ?_
      exact k
    have K6 : ∀ t, Steps p.tables e below (s₁.setTop (mkF m 10 #[.val (.int p1), .val (.int p2)] [(.int p1)])) t → Steps p.tables e below (s₁.setTop (mkF m 5 #[.val (.int p1), .val (.int p2)] [])) t := by
      intro t k
      refine XS.iloadN X0.here hx rfl (Jvm.hb hby d2_5) rfl ?_
      show Steps p.tables e below (s₁.setTop (mkF m 6 #[.val (.int p1), .val (.int p2)] [(.int p1)])) t
      refine XS.goto X0.here hx rfl (pc0 := 6) (pc' := 10) rfl (Jvm.hb hby d2_6) (by decide) (by decide) ?_
      show Steps p.tables e below (s₁.setTop (mkF m 10 #[.val (.int p1), .val (.int p2)] [(.int p1)])) t
      exact k
    obtain ⟨fs, hr, hrun, hended, hW, hsame⟩ := X0.leave (v := some (.int p1)) (fun h => by rw [Bd.returns] at h; cases h) Bd.notSynchronized
    refine ⟨_, _, pre0 _ (K1 _ (K5 _ (K6 _ (retI X0 hx Bd.returns (Jvm.hb hby d2_10) hr)))), hrun, hended, _, _, rfl, ?_, ⟨_, rfl⟩, hW, hsame.mono (by decide) (by decide)⟩
    show Q2 Z p1 p2 h0 n0 _ s₁.heap _
    rw [e0]
    exact ⟨congrArg (fun z => some (Value.int z)) (show p1 = f2 p1 p2 from Eq.symm (if_neg hc2)), N0, rfl⟩
-- body 3: com/example/clapboard/clapboard/parse/TextCursorReadPinLaw.pick([CIIII)C
theorem d3_0 : decode method_3_code 0 = .ok (.iload_n 3, 1) := by decide +kernel
theorem d3_1 : decode method_3_code 1 = .ok (.iconst 2, 1) := by decide +kernel
theorem d3_2 : decode method_3_code 2 = .ok (.iload_n 2, 1) := by decide +kernel
theorem d3_3 : decode method_3_code 3 = .ok (.iadd, 1) := by decide +kernel
theorem d3_4 : decode method_3_code 4 = .ok (.iushr, 1) := by decide +kernel
theorem d3_5 : decode method_3_code 5 = .ok (.iconst 1, 1) := by decide +kernel
theorem d3_6 : decode method_3_code 6 = .ok (.iand, 1) := by decide +kernel
theorem d3_7 : decode method_3_code 7 = .ok (.ifCond .eq 16, 3) := by decide +kernel
theorem d3_10 : decode method_3_code 10 = .ok (.iload 4, 2) := by decide +kernel
theorem d3_12 : decode method_3_code 12 = .ok (.bipush 8, 2) := by decide +kernel
theorem d3_14 : decode method_3_code 14 = .ok (.iload_n 2, 1) := by decide +kernel
theorem d3_15 : decode method_3_code 15 = .ok (.imul, 1) := by decide +kernel
theorem d3_16 : decode method_3_code 16 = .ok (.iushr, 1) := by decide +kernel
theorem d3_17 : decode method_3_code 17 = .ok (.sipush 255, 3) := by decide +kernel
theorem d3_20 : decode method_3_code 20 = .ok (.iand, 1) := by decide +kernel
theorem d3_21 : decode method_3_code 21 = .ok (.i2c, 1) := by decide +kernel
theorem d3_22 : decode method_3_code 22 = .ok (.ireturn, 1) := by decide +kernel
theorem d3_23 : decode method_3_code 23 = .ok (.aload_n 0, 1) := by decide +kernel
theorem d3_24 : decode method_3_code 24 = .ok (.iload_n 1, 1) := by decide +kernel
theorem d3_25 : decode method_3_code 25 = .ok (.iload_n 2, 1) := by decide +kernel
theorem d3_26 : decode method_3_code 26 = .ok (.iadd, 1) := by decide +kernel
theorem d3_27 : decode method_3_code 27 = .ok (.iconst 3, 1) := by decide +kernel
theorem d3_28 : decode method_3_code 28 = .ok (.iand, 1) := by decide +kernel
theorem d3_29 : decode method_3_code 29 = .ok (.caload, 1) := by decide +kernel
theorem d3_30 : decode method_3_code 30 = .ok (.ireturn, 1) := by decide +kernel
theorem pn_3 : plainName "com/example/clapboard/clapboard/parse/TextCursorReadPinLaw" = true := by first | (simp [plainName, overriddenIn]; done) | decide +kernel
theorem ef_3 (m : MethodId) (a1 : Addr) (p2 : Int32) (p3 : Int32) (p4 : Int32) (p5 : Int32) : entryFrame m #[(.ref a1), (.int p2), (.int p3), (.int p4), (.int p5)] 5 = mkF m 0 #[.val (.ref a1), .val (.int p2), .val (.int p3), .val (.int p4), .val (.int p5)] [] := by first | (simp [entryFrame, mkF, argsToLocals, Value.category]; done) | rfl
def f3 (p2 : Int32) (p3 : Int32) (p4 : Int32) (p5 : Int32) (f_a1 : Int32 → Int32) : Int32 := (if (((p4.toUInt32 >>> (((2 : Int32) + p3) &&& 31).toUInt32).toInt32) &&& (1 : Int32)) = (0 : Int32) then (nar .char (f_a1 ((p2 + p3) &&& (3 : Int32)))) else (nar .char ((((p5.toUInt32 >>> (((8 : Int32) * p3) &&& 31).toUInt32).toInt32) &&& (255 : Int32)).toUInt32.toUInt16.toUInt32.toInt32)))
def Q3 (Z : State) (a1 : Addr) (p2 : Int32) (p3 : Int32) (p4 : Int32) (p5 : Int32) (n_a1 : Int32) (f_a1 : Int32 → Int32) (h0 : Heap) (n0 : Nat) (v : Option Value) (h : Heap) (L : List Loc) : Prop := v = some (.int (f3 p2 p3 p4 p5 f_a1)) ∧ Fr n0 L ∧ h = h0
set_option maxRecDepth 65536 in
set_option maxHeartbeats 40000000 in
theorem rm3 (l : Launch) (Z : State) (a0 : Array Value) (hw : ∀ d ∈ tables_1, d.before a0 Z = true) (ws : List Jvm.Cond) (a1 : Addr) (p2 : Int32) (p3 : Int32) (p4 : Int32) (p5 : Int32) (n_a1 : Int32) (f_a1 : Int32 → Int32) (h0 : Heap) (n0 : Nat) (Z0 : n0 ≤ h0.size) (h4 : n_a1 = 4) (A_a1 : Ia Z h0 a1 .char n_a1 f_a1) :
    MetFree l (⟨"com/example/clapboard/clapboard/parse/TextCursorReadPinLaw", "pick", "([CIIII)C"⟩ : MethodName) (head1 (Jvm.Cond.code (⟨"com/example/clapboard/clapboard/parse/TextCursorReadPinLaw", "pick", "([CIIII)C"⟩ : MethodName) method_3_code 5 (some .char) :: ws) ({ frames := 0, cells := 0, slots := 0, locals := 0 } : Room)) (fun a U => a = #[(.ref a1), (.int p2), (.int p3), (.int p4), (.int p5)] ∧ Z.Warmed39 U.vm ∧ U.heap = h0) (fun _ _ _ _ _ => True) (fun _ U o U' => ∃ v L, o = .returned v ∧ Q3 Z a1 p2 p3 p4 p5 n_a1 f_a1 h0 n0 v U'.heap L ∧ FrameEnd U o U' L ({ frames := 0, cells := 0, slots := 0, locals := 0 } : Room).cells ({ frames := 0, cells := 0, slots := 0, locals := 0 } : Room).slots) := by
  refine MetFree.of_bodySF (plainFor_of_name pn_3) hisR ?_
  intro p e s m args below meth c s₁ Bd hml0 hP hK
  obtain ⟨rfl, hZ, hh⟩ := hP
  have hx := Bd.exec
  have hby := Bd.bytes
  have hml : c.maxLocals = 5 := hml0
  have hown : s.vm.findClass "com/example/clapboard/clapboard/parse/TextCursorReadPinLaw" = some m.cls := findClass_of_methodNamed Bd.named
  have hnm := (name_of_methodNamed Bd.named Bd.method).1
  have X0 : Stand p l e ({ frames := 0, cells := 0, slots := 0, locals := 0 } : Room) s m #[(.ref a1), (.int p2), (.int p3), (.int p4), (.int p5)] below meth c s₁ [] 0 0 := Stand.of_body Bd
  have e0 : s₁.heap = h0 := by rw [← hh, Bd.state]; rfl
  have N0 := Fr.nil n0
  have pre0 : ∀ t, Steps p.tables e below (s₁.setTop (mkF m 0 #[.val (.ref a1), .val (.int p2), .val (.int p3), .val (.int p4), .val (.int p5)] [])) t → Steps p.tables e below (s₁.setTop (entryFrame m #[(.ref a1), (.int p2), (.int p3), (.int p4), (.int p5)] 5)) t := fun t k => castTop (ef_3 m a1 p2 p3 p4 p5) k
  have K1 : ∀ t, Steps p.tables e below (s₁.setTop (mkF m 7 #[.val (.ref a1), .val (.int p2), .val (.int p3), .val (.int p4), .val (.int p5)] [(.int (((p4.toUInt32 >>> (((2 : Int32) + p3) &&& 31).toUInt32).toInt32) &&& (1 : Int32)))])) t → Steps p.tables e below (s₁.setTop (mkF m 0 #[.val (.ref a1), .val (.int p2), .val (.int p3), .val (.int p4), .val (.int p5)] [])) t := by
    intro t k
    refine XS.iloadN X0.here hx rfl (Jvm.hb hby d3_0) rfl ?_
    show Steps p.tables e below (s₁.setTop (mkF m 1 #[.val (.ref a1), .val (.int p2), .val (.int p3), .val (.int p4), .val (.int p5)] [(.int p4)])) t
    refine XS.iconst X0.here hx rfl (Jvm.hb hby d3_1) ?_
    show Steps p.tables e below (s₁.setTop (mkF m 2 #[.val (.ref a1), .val (.int p2), .val (.int p3), .val (.int p4), .val (.int p5)] [(.int (2 : Int32)), (.int p4)])) t
    refine XS.iloadN X0.here hx rfl (Jvm.hb hby d3_2) rfl ?_
    show Steps p.tables e below (s₁.setTop (mkF m 3 #[.val (.ref a1), .val (.int p2), .val (.int p3), .val (.int p4), .val (.int p5)] [(.int p3), (.int (2 : Int32)), (.int p4)])) t
    refine XS.iadd X0.here hx rfl (Jvm.hb hby d3_3) rfl ?_
    show Steps p.tables e below (s₁.setTop (mkF m 4 #[.val (.ref a1), .val (.int p2), .val (.int p3), .val (.int p4), .val (.int p5)] [(.int ((2 : Int32) + p3)), (.int p4)])) t
    refine XS.iushr X0.here hx rfl (Jvm.hb hby d3_4) rfl ?_
    show Steps p.tables e below (s₁.setTop (mkF m 5 #[.val (.ref a1), .val (.int p2), .val (.int p3), .val (.int p4), .val (.int p5)] [(.int ((p4.toUInt32 >>> (((2 : Int32) + p3) &&& 31).toUInt32).toInt32))])) t
    refine XS.iconst X0.here hx rfl (Jvm.hb hby d3_5) ?_
    show Steps p.tables e below (s₁.setTop (mkF m 6 #[.val (.ref a1), .val (.int p2), .val (.int p3), .val (.int p4), .val (.int p5)] [(.int (1 : Int32)), (.int ((p4.toUInt32 >>> (((2 : Int32) + p3) &&& 31).toUInt32).toInt32))])) t
    refine XS.iand X0.here hx rfl (Jvm.hb hby d3_6) rfl ?_
    show Steps p.tables e below (s₁.setTop (mkF m 7 #[.val (.ref a1), .val (.int p2), .val (.int p3), .val (.int p4), .val (.int p5)] [(.int (((p4.toUInt32 >>> (((2 : Int32) + p3) &&& 31).toUInt32).toInt32) &&& (1 : Int32)))])) t
    exact k
  by_cases hc2 : (((p4.toUInt32 >>> (((2 : Int32) + p3) &&& 31).toUInt32).toInt32) &&& (1 : Int32)) = (0 : Int32)
  · have K3 : ∀ t, Steps p.tables e below (s₁.setTop (mkF m 23 #[.val (.ref a1), .val (.int p2), .val (.int p3), .val (.int p4), .val (.int p5)] [])) t → Steps p.tables e below (s₁.setTop (mkF m 7 #[.val (.ref a1), .val (.int p2), .val (.int p3), .val (.int p4), .val (.int p5)] [(.int (((p4.toUInt32 >>> (((2 : Int32) + p3) &&& 31).toUInt32).toInt32) &&& (1 : Int32)))])) t := by
      intro t k
      refine XS.ifYes X0.here hx rfl (pc0 := 7) (pc' := 23) rfl (Jvm.hb hby d3_7) rfl ((if0 _ _).trans (teq hc2).1) (by decide) (by decide) ?_
      exact k
    have K8 : ∀ t, Steps p.tables e below (s₁.setTop (mkF m 29 #[.val (.ref a1), .val (.int p2), .val (.int p3), .val (.int p4), .val (.int p5)] [(.int ((p2 + p3) &&& (3 : Int32))), (.ref a1)])) t → Steps p.tables e below (s₁.setTop (mkF m 23 #[.val (.ref a1), .val (.int p2), .val (.int p3), .val (.int p4), .val (.int p5)] [])) t := by
      intro t k
      refine XS.aloadN X0.here hx rfl (Jvm.hb hby d3_23) rfl rfl ?_
      show Steps p.tables e below (s₁.setTop (mkF m 24 #[.val (.ref a1), .val (.int p2), .val (.int p3), .val (.int p4), .val (.int p5)] [(.ref a1)])) t
      refine XS.iloadN X0.here hx rfl (Jvm.hb hby d3_24) rfl ?_
      show Steps p.tables e below (s₁.setTop (mkF m 25 #[.val (.ref a1), .val (.int p2), .val (.int p3), .val (.int p4), .val (.int p5)] [(.int p2), (.ref a1)])) t
      refine XS.iloadN X0.here hx rfl (Jvm.hb hby d3_25) rfl ?_
      show Steps p.tables e below (s₁.setTop (mkF m 26 #[.val (.ref a1), .val (.int p2), .val (.int p3), .val (.int p4), .val (.int p5)] [(.int p3), (.int p2), (.ref a1)])) t
      refine XS.iadd X0.here hx rfl (Jvm.hb hby d3_26) rfl ?_
      show Steps p.tables e below (s₁.setTop (mkF m 27 #[.val (.ref a1), .val (.int p2), .val (.int p3), .val (.int p4), .val (.int p5)] [(.int (p2 + p3)), (.ref a1)])) t
      refine XS.iconst X0.here hx rfl (Jvm.hb hby d3_27) ?_
      show Steps p.tables e below (s₁.setTop (mkF m 28 #[.val (.ref a1), .val (.int p2), .val (.int p3), .val (.int p4), .val (.int p5)] [(.int (3 : Int32)), (.int (p2 + p3)), (.ref a1)])) t
      refine XS.iand X0.here hx rfl (Jvm.hb hby d3_28) rfl ?_
      show Steps p.tables e below (s₁.setTop (mkF m 29 #[.val (.ref a1), .val (.int p2), .val (.int p3), .val (.int p4), .val (.int p5)] [(.int ((p2 + p3) &&& (3 : Int32))), (.ref a1)])) t
      exact k
    have hin4 : ¬ ((p2 + p3) &&& (3 : Int32)) < 0 ∧ ((p2 + p3) &&& (3 : Int32)) < n_a1 := by exact own_b3 _ _ h4
    obtain ⟨cl5, Aq6, hjhin4, aq7⟩ := Ia.at A_a1 hin4
    have K9 : ∀ t, Steps p.tables e below (s₁.setTop (mkF m 30 #[.val (.ref a1), .val (.int p2), .val (.int p3), .val (.int p4), .val (.int p5)] [(.int (f_a1 ((p2 + p3) &&& (3 : Int32))))])) t → Steps p.tables e below (s₁.setTop (mkF m 29 #[.val (.ref a1), .val (.int p2), .val (.int p3), .val (.int p4), .val (.int p5)] [(.int ((p2 + p3) &&& (3 : Int32))), (.ref a1)])) t := by
      intro t k
      refine X0.caload hx (j := ((p2 + p3) &&& (3 : Int32))) (v := .int (f_a1 ((p2 + p3) &&& (3 : Int32)))) (by rw [e0]; exact Aq6.1) (State.isArrayOf_alike hZ.alike Aq6.2.1) Aq6.2.2 hjhin4 aq7 (g := (mkF m 29 #[.val (.ref a1), .val (.int p2), .val (.int p3), .val (.int p4), .val (.int p5)] [(.int ((p2 + p3) &&& (3 : Int32))), (.ref a1)])) rfl rfl (Jvm.hb hby d3_29) _ ?_
      show Steps p.tables e below (s₁.setTop (mkF m 30 #[.val (.ref a1), .val (.int p2), .val (.int p3), .val (.int p4), .val (.int p5)] [(.int (f_a1 ((p2 + p3) &&& (3 : Int32))))])) t
      exact k
    obtain ⟨fs, hr, hrun, hended, hW, hsame⟩ := X0.leave (v := some (.int (nar .char (f_a1 ((p2 + p3) &&& (3 : Int32)))))) (fun h => by rw [Bd.returns] at h; cases h) Bd.notSynchronized
    refine ⟨_, _, pre0 _ (K1 _ (K3 _ (K8 _ (K9 _ (retN X0 hx (t := .char) Bd.returns (by simp) (Jvm.hb hby d3_30) hr))))), hrun, hended, _, _, rfl, ?_, ⟨_, rfl⟩, hW, hsame.mono (by decide) (by decide)⟩
    show Q3 Z a1 p2 p3 p4 p5 n_a1 f_a1 h0 n0 _ s₁.heap _
    rw [e0]
    exact ⟨congrArg (fun z => some (Value.int z)) (show (nar .char (f_a1 ((p2 + p3) &&& (3 : Int32)))) = f3 p2 p3 p4 p5 f_a1 from Eq.symm (if_pos hc2)), N0, rfl⟩
  · have K10 : ∀ t, Steps p.tables e below (s₁.setTop (mkF m 10 #[.val (.ref a1), .val (.int p2), .val (.int p3), .val (.int p4), .val (.int p5)] [])) t → Steps p.tables e below (s₁.setTop (mkF m 7 #[.val (.ref a1), .val (.int p2), .val (.int p3), .val (.int p4), .val (.int p5)] [(.int (((p4.toUInt32 >>> (((2 : Int32) + p3) &&& 31).toUInt32).toInt32) &&& (1 : Int32)))])) t := by
      intro t k
      refine XS.ifNo X0.here hx rfl (Jvm.hb hby d3_7) rfl ((if0 _ _).trans (feq hc2).1) ?_
      exact k
    have K11 : ∀ t, Steps p.tables e below (s₁.setTop (mkF m 22 #[.val (.ref a1), .val (.int p2), .val (.int p3), .val (.int p4), .val (.int p5)] [(.int ((((p5.toUInt32 >>> (((8 : Int32) * p3) &&& 31).toUInt32).toInt32) &&& (255 : Int32)).toUInt32.toUInt16.toUInt32.toInt32))])) t → Steps p.tables e below (s₁.setTop (mkF m 10 #[.val (.ref a1), .val (.int p2), .val (.int p3), .val (.int p4), .val (.int p5)] [])) t := by
      intro t k
      refine XS.iload X0.here hx rfl (Jvm.hb hby d3_10) rfl ?_
      show Steps p.tables e below (s₁.setTop (mkF m 12 #[.val (.ref a1), .val (.int p2), .val (.int p3), .val (.int p4), .val (.int p5)] [(.int p5)])) t
      refine XS.bipush X0.here hx rfl (Jvm.hb hby d3_12) ?_
      show Steps p.tables e below (s₁.setTop (mkF m 14 #[.val (.ref a1), .val (.int p2), .val (.int p3), .val (.int p4), .val (.int p5)] [(.int (8 : Int32)), (.int p5)])) t
      refine XS.iloadN X0.here hx rfl (Jvm.hb hby d3_14) rfl ?_
      show Steps p.tables e below (s₁.setTop (mkF m 15 #[.val (.ref a1), .val (.int p2), .val (.int p3), .val (.int p4), .val (.int p5)] [(.int p3), (.int (8 : Int32)), (.int p5)])) t
      refine XS.imul X0.here hx rfl (Jvm.hb hby d3_15) rfl ?_
      show Steps p.tables e below (s₁.setTop (mkF m 16 #[.val (.ref a1), .val (.int p2), .val (.int p3), .val (.int p4), .val (.int p5)] [(.int ((8 : Int32) * p3)), (.int p5)])) t
      refine XS.iushr X0.here hx rfl (Jvm.hb hby d3_16) rfl ?_
      show Steps p.tables e below (s₁.setTop (mkF m 17 #[.val (.ref a1), .val (.int p2), .val (.int p3), .val (.int p4), .val (.int p5)] [(.int ((p5.toUInt32 >>> (((8 : Int32) * p3) &&& 31).toUInt32).toInt32))])) t
      refine XS.sipush X0.here hx rfl (Jvm.hb hby d3_17) ?_
      show Steps p.tables e below (s₁.setTop (mkF m 20 #[.val (.ref a1), .val (.int p2), .val (.int p3), .val (.int p4), .val (.int p5)] [(.int (255 : Int32)), (.int ((p5.toUInt32 >>> (((8 : Int32) * p3) &&& 31).toUInt32).toInt32))])) t
      refine XS.iand X0.here hx rfl (Jvm.hb hby d3_20) rfl ?_
      show Steps p.tables e below (s₁.setTop (mkF m 21 #[.val (.ref a1), .val (.int p2), .val (.int p3), .val (.int p4), .val (.int p5)] [(.int (((p5.toUInt32 >>> (((8 : Int32) * p3) &&& 31).toUInt32).toInt32) &&& (255 : Int32)))])) t
      refine XS.i2c X0.here hx rfl (Jvm.hb hby d3_21) rfl ?_
      show Steps p.tables e below (s₁.setTop (mkF m 22 #[.val (.ref a1), .val (.int p2), .val (.int p3), .val (.int p4), .val (.int p5)] [(.int ((((p5.toUInt32 >>> (((8 : Int32) * p3) &&& 31).toUInt32).toInt32) &&& (255 : Int32)).toUInt32.toUInt16.toUInt32.toInt32))])) t
      exact k
    obtain ⟨fs, hr, hrun, hended, hW, hsame⟩ := X0.leave (v := some (.int (nar .char ((((p5.toUInt32 >>> (((8 : Int32) * p3) &&& 31).toUInt32).toInt32) &&& (255 : Int32)).toUInt32.toUInt16.toUInt32.toInt32)))) (fun h => by rw [Bd.returns] at h; cases h) Bd.notSynchronized
    refine ⟨_, _, pre0 _ (K1 _ (K10 _ (K11 _ (retN X0 hx (t := .char) Bd.returns (by simp) (Jvm.hb hby d3_22) hr)))), hrun, hended, _, _, rfl, ?_, ⟨_, rfl⟩, hW, hsame.mono (by decide) (by decide)⟩
    show Q3 Z a1 p2 p3 p4 p5 n_a1 f_a1 h0 n0 _ s₁.heap _
    rw [e0]
    exact ⟨congrArg (fun z => some (Value.int z)) (show (nar .char ((((p5.toUInt32 >>> (((8 : Int32) * p3) &&& 31).toUInt32).toInt32) &&& (255 : Int32)).toUInt32.toUInt16.toUInt32.toInt32)) = f3 p2 p3 p4 p5 f_a1 from Eq.symm (if_neg hc2)), N0, rfl⟩
-- body 106: java/lang/String.<init>([CIILjava/lang/Void;)V
theorem d106_0 : decode jdk_42_method_149_code 0 = .ok (.aload_n 0, 1) := by decide +kernel
theorem d106_1 : decode jdk_42_method_149_code 1 = .ok (.invokespecial 1, 3) := by decide +kernel
theorem d106_4 : decode jdk_42_method_149_code 4 = .ok (.iload_n 3, 1) := by decide +kernel
theorem d106_5 : decode jdk_42_method_149_code 5 = .ok (.ifCond .ne 22, 3) := by decide +kernel
theorem d106_8 : decode jdk_42_method_149_code 8 = .ok (.aload_n 0, 1) := by decide +kernel
theorem d106_9 : decode jdk_42_method_149_code 9 = .ok (.ldc 7, 2) := by decide +kernel
theorem d106_11 : decode jdk_42_method_149_code 11 = .ok (.getfield 9, 3) := by decide +kernel
theorem d106_14 : decode jdk_42_method_149_code 14 = .ok (.putfield 9, 3) := by decide +kernel
theorem d106_17 : decode jdk_42_method_149_code 17 = .ok (.aload_n 0, 1) := by decide +kernel
theorem d106_18 : decode jdk_42_method_149_code 18 = .ok (.ldc 7, 2) := by decide +kernel
theorem d106_20 : decode jdk_42_method_149_code 20 = .ok (.getfield 15, 3) := by decide +kernel
theorem d106_23 : decode jdk_42_method_149_code 23 = .ok (.putfield 15, 3) := by decide +kernel
theorem d106_26 : decode jdk_42_method_149_code 26 = .ok (.return_, 1) := by decide +kernel
theorem pn_106 : plainName "java/lang/String" = true := by first | (simp [plainName, overriddenIn]; done) | decide +kernel
theorem ef_106 (m : MethodId) (a1 : Addr) (a2 : Addr) : entryFrame m #[(.ref a1), (.ref a2), (.int (0 : Int32)), (.int (0 : Int32)), .null] 6 = mkF m 0 #[.val (.ref a1), .val (.ref a2), .val (.int (0 : Int32)), .val (.int (0 : Int32)), .val .null, .unset] [] := by first | (simp [entryFrame, mkF, argsToLocals, Value.category]; done) | rfl
def Q106 (Z : State) (a1 : Addr) (a2 : Addr) (u_coder_a1 : Value) (h0 : Heap) (n0 : Nat) (v : Option Value) (h : Heap) (L : List Loc) : Prop := ∃ x1 : Addr, v = none ∧ Fr n0 L ∧ Keep h0 h [a1] ∧ Exa Z h a1 "java/lang/String" ∧ Ia Z h x1 .byte (0 : Int32) (fun _ => 0) ∧ Fld Z h a1 "java/lang/String" "value" "[B" (.ref x1) ∧ Fld Z h a1 "java/lang/String" "coder" "B" (.int (0 : Int32))
set_option maxRecDepth 65536 in
set_option maxHeartbeats 40000000 in
theorem rm106 (l : Launch) (Z : State) (a0 : Array Value) (hw : ∀ d ∈ tables_1, d.before a0 Z = true) (ws : List Jvm.Cond) (a1 : Addr) (a2 : Addr) (u_coder_a1 : Value) (h0 : Heap) (n0 : Nat) (Z0 : n0 ≤ h0.size) (E_a1 : Exa Z h0 a1 "java/lang/String") (F_value_a1 : Fld Z h0 a1 "java/lang/String" "value" "[B" .null) (g_a1 : n0 ≤ a1) (F_coder_a1 : Fld Z h0 a1 "java/lang/String" "coder" "B" u_coder_a1) :
    MetFree l (⟨"java/lang/String", "<init>", "([CIILjava/lang/Void;)V"⟩ : MethodName) (head1 (Jvm.Cond.code (⟨"java/lang/String", "<init>", "([CIILjava/lang/Void;)V"⟩ : MethodName) jdk_42_method_149_code 6 none :: ws) ({ frames := 1, cells := 4, slots := 8, locals := 12 } : Room)) (fun a U => a = #[(.ref a1), (.ref a2), (.int (0 : Int32)), (.int (0 : Int32)), .null] ∧ Z.Warmed39 U.vm ∧ U.heap = h0 ∧ CHv Z EL0 U.vm h0) (fun _ _ _ _ _ => True) (fun _ U o U' => ∃ v L, o = .returned v ∧ Q106 Z a1 a2 u_coder_a1 h0 n0 v U'.heap L ∧ CHr Z EL0 U.vm U.heap U'.vm U'.heap ∧ ReturnedEndW U o U' L ({ frames := 1, cells := 4, slots := 8, locals := 12 } : Room).cells ({ frames := 1, cells := 4, slots := 8, locals := 12 } : Room).slots) := by
  refine MetFree.of_bodySF (plainFor_of_name pn_106) hisR ?_
  intro p e s m args below meth c s₁ Bd hml0 hP hK
  obtain ⟨rfl, hZ, hh, H0⟩ := hP
  have hx := Bd.exec
  have hby := Bd.bytes
  have hml : c.maxLocals = 6 := hml0
  have hown : s.vm.findClass "java/lang/String" = some m.cls := findClass_of_methodNamed Bd.named
  have hnm := (name_of_methodNamed Bd.named Bd.method).1
  obtain ⟨vm0, hvm0⟩ : ∃ z, z = s.vm := ⟨_, rfl⟩
  have X0 : Stand p l e ({ frames := 1, cells := 4, slots := 8, locals := 12 } : Room) (s.setVm vm0) m #[(.ref a1), (.ref a2), (.int (0 : Int32)), (.int (0 : Int32)), .null] below meth c s₁ [] 0 0 := by rw [hvm0]; exact Stand.of_body Bd
  have hS : s.Since vm0 h0.size := by rw [hvm0]; exact own_since s _
  rw [← hvm0] at hZ hown
  have CR0 : CHr Z EL0 s.vm h0 vm0 h0 := by rw [hvm0]; exact CHr.refl H0
  have e0 : s₁.heap = h0 := by rw [← hh, Bd.state]; rfl
  have N0 := Fr.nil n0
  have pre0 : ∀ t, Steps p.tables e below (s₁.setTop (mkF m 0 #[.val (.ref a1), .val (.ref a2), .val (.int (0 : Int32)), .val (.int (0 : Int32)), .val .null, .unset] [])) t → Steps p.tables e below (s₁.setTop (entryFrame m #[(.ref a1), (.ref a2), (.int (0 : Int32)), (.int (0 : Int32)), .null] 6)) t := fun t k => castTop (ef_106 m a1 a2) k
  have K1 : ∀ t, Steps p.tables e below (s₁.setTop (mkF m 1 #[.val (.ref a1), .val (.ref a2), .val (.int (0 : Int32)), .val (.int (0 : Int32)), .val .null, .unset] [(.ref a1)])) t → Steps p.tables e below (s₁.setTop (mkF m 0 #[.val (.ref a1), .val (.ref a2), .val (.int (0 : Int32)), .val (.int (0 : Int32)), .val .null, .unset] [])) t := by
    intro t k
    refine XS.aloadN X0.here hx rfl (Jvm.hb hby d106_0) rfl rfl ?_
    show Steps p.tables e below (s₁.setTop (mkF m 1 #[.val (.ref a1), .val (.ref a2), .val (.int (0 : Int32)), .val (.int (0 : Int32)), .val .null, .unset] [(.ref a1)])) t
    exact k
  obtain ⟨T2, X2, e2, st2⟩ := initO X0 hx hZ hown (hw _ (List.mem_of_getElem? (i := 25) rfl)) (hw _ (List.mem_of_getElem? (i := 26) rfl)) (hw _ (List.mem_of_getElem? (i := 27) rfl)) e0 (g := (mkF m 1 #[.val (.ref a1), .val (.ref a2), .val (.int (0 : Int32)), .val (.int (0 : Int32)), .val .null, .unset] [(.ref a1)])) rfl (by rw [hml]; rfl) rfl (Jvm.hb hby d106_1) (by decide) (W := 0) (by show 2 * 0 + _ ≤ _; exact Nat.le_of_eq rfl) (by decide)
  have K3 : ∀ t, Steps p.tables e below (T2.setTop (mkF m 4 #[.val (.ref a1), .val (.ref a2), .val (.int (0 : Int32)), .val (.int (0 : Int32)), .val .null, .unset] [])) t → Steps p.tables e below (s₁.setTop (mkF m 1 #[.val (.ref a1), .val (.ref a2), .val (.int (0 : Int32)), .val (.int (0 : Int32)), .val .null, .unset] [(.ref a1)])) t := fun t k => st2 _ k
  have K4 : ∀ t, Steps p.tables e below (T2.setTop (mkF m 5 #[.val (.ref a1), .val (.ref a2), .val (.int (0 : Int32)), .val (.int (0 : Int32)), .val .null, .unset] [(.int (0 : Int32))])) t → Steps p.tables e below (T2.setTop (mkF m 4 #[.val (.ref a1), .val (.ref a2), .val (.int (0 : Int32)), .val (.int (0 : Int32)), .val .null, .unset] [])) t := by
    intro t k
    refine XS.iloadN X2.here hx rfl (Jvm.hb hby d106_4) rfl ?_
    show Steps p.tables e below (T2.setTop (mkF m 5 #[.val (.ref a1), .val (.ref a2), .val (.int (0 : Int32)), .val (.int (0 : Int32)), .val .null, .unset] [(.int (0 : Int32))])) t
    exact k
  have hc5 : (0 : Int32) = (0 : Int32) := rfl
  have K6 : ∀ t, Steps p.tables e below (T2.setTop (mkF m 8 #[.val (.ref a1), .val (.ref a2), .val (.int (0 : Int32)), .val (.int (0 : Int32)), .val .null, .unset] [])) t → Steps p.tables e below (T2.setTop (mkF m 5 #[.val (.ref a1), .val (.ref a2), .val (.int (0 : Int32)), .val (.int (0 : Int32)), .val .null, .unset] [(.int (0 : Int32))])) t := by
    intro t k
    refine XS.ifNo X2.here hx rfl (Jvm.hb hby d106_5) rfl ((if0 _ _).trans (teq hc5).2) ?_
    exact k
  have K7 : ∀ t, Steps p.tables e below (T2.setTop (mkF m 9 #[.val (.ref a1), .val (.ref a2), .val (.int (0 : Int32)), .val (.int (0 : Int32)), .val .null, .unset] [(.ref a1)])) t → Steps p.tables e below (T2.setTop (mkF m 8 #[.val (.ref a1), .val (.ref a2), .val (.int (0 : Int32)), .val (.int (0 : Int32)), .val .null, .unset] [])) t := by
    intro t k
    refine XS.aloadN X2.here hx rfl (Jvm.hb hby d106_8) rfl rfl ?_
    show Steps p.tables e below (T2.setTop (mkF m 9 #[.val (.ref a1), .val (.ref a2), .val (.int (0 : Int32)), .val (.int (0 : Int32)), .val .null, .unset] [(.ref a1)])) t
    exact k
  obtain ⟨c8, T8, h8, kk8, d8, kb8, X8, e8, E8, hS, hkS8, hZ, hown, Le8, Lc8, Lv8, La8, -, -, CHq8, -, hne8, st8⟩ := ldcCH (EL := EL0) X2 hx hZ hown (hw _ (List.mem_of_getElem? (i := 99) rfl)) (wS0 hw) e2 hS (Nat.le_refl h0.size) (ew0 hw) (List.mem_cons_self ..) CR0.1 (vs := []) (z := 0) ⟨(fun c hc => by simp at hc), rfl⟩ (by decide) (by decide) (g := (mkF m 9 #[.val (.ref a1), .val (.ref a2), .val (.int (0 : Int32)), .val (.int (0 : Int32)), .val .null, .unset] [(.ref a1)])) rfl (Jvm.hb hby d106_9) (n := 0) (by decide) (by decide) (by decide) (by decide)
  have KP8 : Keep h0 h8 [a1] := (Keep.refl h0 [a1]).ext E8
  have E8_0 : Exa Z h8 a1 "java/lang/String" := E_a1.ext E8
  have F8_1 : Fld Z h8 a1 "java/lang/String" "value" "[B" .null := F_value_a1.ext E8
  have F8_2 : Fld Z h8 a1 "java/lang/String" "coder" "B" u_coder_a1 := F_coder_a1.ext E8
  have CR8 : CHr Z EL0 s.vm h0 T8.vm h8 := CR0.trans (CHq8)
  have nl8_a1 := hne8 a1 (own_safe hZ.alike E8_0 F8_1)
  have Lb8 : Ia Z h8 d8 .byte (0 : Int32) (fun _ => 0) := own_ia0 La8
  have K9 : ∀ t, Steps p.tables e below (T8.setTop (mkF m 11 #[.val (.ref a1), .val (.ref a2), .val (.int (0 : Int32)), .val (.int (0 : Int32)), .val .null, .unset] [(.ref c8), (.ref a1)])) t → Steps p.tables e below (T2.setTop (mkF m 9 #[.val (.ref a1), .val (.ref a2), .val (.int (0 : Int32)), .val (.int (0 : Int32)), .val .null, .unset] [(.ref a1)])) t := fun t k => st8 _ k
  obtain ⟨T10, X10, e10, st10⟩ := getF X8 hx hZ hown (host := "") (Or.inl (hw _ (List.mem_of_getElem? (i := 42) rfl))) Via.refl e8 Lv8 (g := (mkF m 11 #[.val (.ref a1), .val (.ref a2), .val (.int (0 : Int32)), .val (.int (0 : Int32)), .val .null, .unset] [(.ref c8), (.ref a1)])) rfl rfl (Jvm.hb hby d106_11)
  have K11 : ∀ t, Steps p.tables e below (T10.setTop (mkF m 14 #[.val (.ref a1), .val (.ref a2), .val (.int (0 : Int32)), .val (.int (0 : Int32)), .val .null, .unset] [(.ref d8), (.ref a1)])) t → Steps p.tables e below (T8.setTop (mkF m 11 #[.val (.ref a1), .val (.ref a2), .val (.int (0 : Int32)), .val (.int (0 : Int32)), .val .null, .unset] [(.ref c8), (.ref a1)])) t := fun t k => st10 _ k
  obtain ⟨T12, h12, X12, e12, W12, st12⟩ := putF X10 hx hZ hown (host := "") (Or.inl (hw _ (List.mem_of_getElem? (i := 42) rfl))) Via.refl e10 F8_1 E8_0 (Or.inr ⟨(hw _ (List.mem_of_getElem? (i := 43) rfl)), rfl, hnm⟩) (hw _ (List.mem_of_getElem? (i := 16) rfl)) (ty := (.array .byte)) (by decide) rfl rfl (g := (mkF m 14 #[.val (.ref a1), .val (.ref a2), .val (.int (0 : Int32)), .val (.int (0 : Int32)), .val .null, .unset] [(.ref d8), (.ref a1)])) rfl rfl (Jvm.hb hby d106_14)
  have KP12 : Keep h0 h12 [a1] := KP8.wr W12 (Or.inl (List.mem_of_getElem? (i := 0) rfl))
  have N12 := Fr.snoc X12 N0 g_a1
  have E12_0 : Exa Z h12 a1 "java/lang/String" := E8_0.wr W12
  have F12_1 : Fld Z h12 a1 "java/lang/String" "coder" "B" u_coder_a1 := F8_2.other W12 (Or.inr (slot_ne (Or.inr (hw _ (List.mem_of_getElem? (i := 41) rfl))) (Or.inr (hw _ (List.mem_of_getElem? (i := 43) rfl))) (by decide) (t := .byte) (t' := (.array .byte)) (by decide) (by decide)))
  have E12_2 : Exa Z h12 c8 "java/lang/String" := Le8.wr W12
  have F12_3 : Fld Z h12 c8 "java/lang/String" "coder" "B" (.int (0 : Int32)) := Lc8.other W12 (Or.inl (Ne.symm nl8_a1.1))
  have F12_4 : Fld Z h12 c8 "java/lang/String" "value" "[B" (.ref d8) := Lv8.other W12 (Or.inl (Ne.symm nl8_a1.1))
  have A12_5 : Ia Z h12 d8 .byte (0 : Int32) (fun _ => 0) := Lb8.other W12 (Ne.symm nl8_a1.2)
  have CR12 : CHr Z EL0 s.vm h0 T8.vm h12 := CR8.trans (CHr.wr W12 (own_safe hZ.alike E8_0 F8_1) CR8.1)
  have SK12 := Nat.le_trans hkS8 (own_wrsz W12)
  have Sz12_0 : Safe Z EL0 T8.vm h12 a1 := Safe.wr W12 (own_safe hZ.alike E8_0 F8_1) CR8.1 (own_safe hZ.alike E8_0 F8_1)
  have Fw12 : Fld Z h12 a1 "java/lang/String" "value" "[B" (.ref d8) := F8_1.same W12
  have K13 : ∀ t, Steps p.tables e below (T12.setTop (mkF m 17 #[.val (.ref a1), .val (.ref a2), .val (.int (0 : Int32)), .val (.int (0 : Int32)), .val .null, .unset] [])) t → Steps p.tables e below (T10.setTop (mkF m 14 #[.val (.ref a1), .val (.ref a2), .val (.int (0 : Int32)), .val (.int (0 : Int32)), .val .null, .unset] [(.ref d8), (.ref a1)])) t := fun t k => st12 _ k
  have K14 : ∀ t, Steps p.tables e below (T12.setTop (mkF m 18 #[.val (.ref a1), .val (.ref a2), .val (.int (0 : Int32)), .val (.int (0 : Int32)), .val .null, .unset] [(.ref a1)])) t → Steps p.tables e below (T12.setTop (mkF m 17 #[.val (.ref a1), .val (.ref a2), .val (.int (0 : Int32)), .val (.int (0 : Int32)), .val .null, .unset] [])) t := by
    intro t k
    refine XS.aloadN X12.here hx rfl (Jvm.hb hby d106_17) rfl rfl ?_
    show Steps p.tables e below (T12.setTop (mkF m 18 #[.val (.ref a1), .val (.ref a2), .val (.int (0 : Int32)), .val (.int (0 : Int32)), .val .null, .unset] [(.ref a1)])) t
    exact k
  obtain ⟨c15, T15, h15, kk15, d15, kb15, X15, e15, E15, hS, hkS15, hZ, hown, Le15, Lc15, Lv15, La15, -, -, CHq15, -, hne15, st15⟩ := ldcCH (EL := EL0) X12 hx hZ hown (hw _ (List.mem_of_getElem? (i := 99) rfl)) (wS0 hw) e12 hS SK12 (ew0 hw) (List.mem_cons_self ..) CR12.1 (vs := []) (z := 0) ⟨(fun c hc => by simp at hc), rfl⟩ (by decide) (by decide) (g := (mkF m 18 #[.val (.ref a1), .val (.ref a2), .val (.int (0 : Int32)), .val (.int (0 : Int32)), .val .null, .unset] [(.ref a1)])) rfl (Jvm.hb hby d106_18) (n := 0) (by decide) (by decide) (by decide) (by decide)
  have KP15 : Keep h0 h15 [a1] := KP12.ext E15
  have E15_0 : Exa Z h15 a1 "java/lang/String" := E12_0.ext E15
  have F15_1 : Fld Z h15 a1 "java/lang/String" "coder" "B" u_coder_a1 := F12_1.ext E15
  have E15_2 : Exa Z h15 c8 "java/lang/String" := E12_2.ext E15
  have F15_3 : Fld Z h15 c8 "java/lang/String" "coder" "B" (.int (0 : Int32)) := F12_3.ext E15
  have F15_4 : Fld Z h15 c8 "java/lang/String" "value" "[B" (.ref d8) := F12_4.ext E15
  have A15_5 : Ia Z h15 d8 .byte (0 : Int32) (fun _ => 0) := A12_5.ext E15
  have F15_6 : Fld Z h15 a1 "java/lang/String" "value" "[B" (.ref d8) := Fw12.ext E15
  have CR15 : CHr Z EL0 s.vm h0 T15.vm h15 := CR12.trans (CHq15)
  have Sz15_0 : Safe Z EL0 T15.vm h15 a1 := CHr.safe CHq15 E12_0.lt Sz12_0
  have nl15_a1 := hne15 a1 Sz15_0
  have Lb15 : Ia Z h15 d15 .byte (0 : Int32) (fun _ => 0) := own_ia0 La15
  have K16 : ∀ t, Steps p.tables e below (T15.setTop (mkF m 20 #[.val (.ref a1), .val (.ref a2), .val (.int (0 : Int32)), .val (.int (0 : Int32)), .val .null, .unset] [(.ref c15), (.ref a1)])) t → Steps p.tables e below (T12.setTop (mkF m 18 #[.val (.ref a1), .val (.ref a2), .val (.int (0 : Int32)), .val (.int (0 : Int32)), .val .null, .unset] [(.ref a1)])) t := fun t k => st15 _ k
  obtain ⟨T17, X17, e17, st17⟩ := getF X15 hx hZ hown (host := "") (Or.inl (hw _ (List.mem_of_getElem? (i := 40) rfl))) Via.refl e15 Lc15 (g := (mkF m 20 #[.val (.ref a1), .val (.ref a2), .val (.int (0 : Int32)), .val (.int (0 : Int32)), .val .null, .unset] [(.ref c15), (.ref a1)])) rfl rfl (Jvm.hb hby d106_20)
  have K18 : ∀ t, Steps p.tables e below (T17.setTop (mkF m 23 #[.val (.ref a1), .val (.ref a2), .val (.int (0 : Int32)), .val (.int (0 : Int32)), .val .null, .unset] [(.int (0 : Int32)), (.ref a1)])) t → Steps p.tables e below (T15.setTop (mkF m 20 #[.val (.ref a1), .val (.ref a2), .val (.int (0 : Int32)), .val (.int (0 : Int32)), .val .null, .unset] [(.ref c15), (.ref a1)])) t := fun t k => st17 _ k
  obtain ⟨T19, h19, X19, e19, W19, st19⟩ := putF X17 hx hZ hown (host := "") (Or.inl (hw _ (List.mem_of_getElem? (i := 40) rfl))) Via.refl e17 F15_1 E15_0 (Or.inr ⟨(hw _ (List.mem_of_getElem? (i := 41) rfl)), rfl, hnm⟩) (hw _ (List.mem_of_getElem? (i := 16) rfl)) (ty := .byte) (by decide) rfl rfl (g := (mkF m 23 #[.val (.ref a1), .val (.ref a2), .val (.int (0 : Int32)), .val (.int (0 : Int32)), .val .null, .unset] [(.int (0 : Int32)), (.ref a1)])) rfl rfl (Jvm.hb hby d106_23)
  have KP19 : Keep h0 h19 [a1] := KP15.wr W19 (Or.inl (List.mem_of_getElem? (i := 0) rfl))
  have N19 := Fr.snoc X19 N12 g_a1
  have E19_0 : Exa Z h19 a1 "java/lang/String" := E15_0.wr W19
  have E19_1 : Exa Z h19 c8 "java/lang/String" := E15_2.wr W19
  have F19_2 : Fld Z h19 c8 "java/lang/String" "coder" "B" (.int (0 : Int32)) := F15_3.other W19 (Or.inl (Ne.symm nl8_a1.1))
  have F19_3 : Fld Z h19 c8 "java/lang/String" "value" "[B" (.ref d8) := F15_4.other W19 (Or.inl (Ne.symm nl8_a1.1))
  have A19_4 : Ia Z h19 d8 .byte (0 : Int32) (fun _ => 0) := A15_5.other W19 (Ne.symm nl8_a1.2)
  have F19_5 : Fld Z h19 a1 "java/lang/String" "value" "[B" (.ref d8) := F15_6.other W19 (Or.inr (slot_ne (Or.inr (hw _ (List.mem_of_getElem? (i := 43) rfl))) (Or.inr (hw _ (List.mem_of_getElem? (i := 41) rfl))) (by decide) (t := (.array .byte)) (t' := .byte) (by decide) (by decide)))
  have E19_6 : Exa Z h19 c15 "java/lang/String" := Le15.wr W19
  have F19_7 : Fld Z h19 c15 "java/lang/String" "coder" "B" (.int (0 : Int32)) := Lc15.other W19 (Or.inl (Ne.symm nl15_a1.1))
  have F19_8 : Fld Z h19 c15 "java/lang/String" "value" "[B" (.ref d15) := Lv15.other W19 (Or.inl (Ne.symm nl15_a1.1))
  have A19_9 : Ia Z h19 d15 .byte (0 : Int32) (fun _ => 0) := Lb15.other W19 (Ne.symm nl15_a1.2)
  have CR19 : CHr Z EL0 s.vm h0 T15.vm h19 := CR15.trans (CHr.wr W19 Sz15_0 CR15.1)
  have SK19 := Nat.le_trans hkS15 (own_wrsz W19)
  have Sz19_0 : Safe Z EL0 T15.vm h19 a1 := Safe.wr W19 Sz15_0 CR15.1 Sz15_0
  have Fw19 : Fld Z h19 a1 "java/lang/String" "coder" "B" (.int (0 : Int32)) := F15_1.same W19
  have K20 : ∀ t, Steps p.tables e below (T19.setTop (mkF m 26 #[.val (.ref a1), .val (.ref a2), .val (.int (0 : Int32)), .val (.int (0 : Int32)), .val .null, .unset] [])) t → Steps p.tables e below (T17.setTop (mkF m 23 #[.val (.ref a1), .val (.ref a2), .val (.int (0 : Int32)), .val (.int (0 : Int32)), .val .null, .unset] [(.int (0 : Int32)), (.ref a1)])) t := fun t k => st19 _ k
  obtain ⟨fs, hr, hrun, hended, hRW⟩ := X19.leaveW hS (show _ ≤ T19.heap.size from (by rw [e19]; exact SK19)) (v := none) (fun _ => rfl) Bd.notSynchronized
  refine ⟨_, _, pre0 _ (K1 _ (K3 _ (K4 _ (K6 _ (K7 _ (K9 _ (K11 _ (K13 _ (K14 _ (K16 _ (K18 _ (K20 _ (X19.returnOut hx Bd.returns (Jvm.hb hby d106_26) hr))))))))))))), hrun, hended, _, _, rfl, ?_, (show CHr Z EL0 s.vm s.heap T19.vm T19.heap from by rw [hh, e19]; exact CR19.trans (CHv.at X19 hZ (ew0 hw) CR19.1)), hRW.1, hRW.2.1, hRW.2.2.1, hRW.2.2.2.mono (by decide) (by decide)⟩
  show Q106 Z a1 a2 u_coder_a1 h0 n0 _ T19.heap _
  rw [e19]
  exact ⟨d8, rfl, N19, KP19, E19_0, A19_4, F19_5, Fw19⟩
-- body 105: java/lang/String.<init>([C)V
theorem d105_0 : decode jdk_42_method_3_code 0 = .ok (.aload_n 0, 1) := by decide +kernel
theorem d105_1 : decode jdk_42_method_3_code 1 = .ok (.aload_n 1, 1) := by decide +kernel
theorem d105_2 : decode jdk_42_method_3_code 2 = .ok (.iconst 0, 1) := by decide +kernel
theorem d105_3 : decode jdk_42_method_3_code 3 = .ok (.aload_n 1, 1) := by decide +kernel
theorem d105_4 : decode jdk_42_method_3_code 4 = .ok (.arraylength, 1) := by decide +kernel
theorem d105_5 : decode jdk_42_method_3_code 5 = .ok (.aconst_null, 1) := by decide +kernel
theorem d105_6 : decode jdk_42_method_3_code 6 = .ok (.invokespecial 27, 3) := by decide +kernel
theorem d105_9 : decode jdk_42_method_3_code 9 = .ok (.return_, 1) := by decide +kernel
theorem pn_105 : plainName "java/lang/String" = true := by first | (simp [plainName, overriddenIn]; done) | decide +kernel
theorem pd_4 : parseMethodDescriptor "([CIILjava/lang/Void;)V" = some ⟨[(.array .char), .int, .int, (.object "java/lang/Void")], none⟩ := by decide +kernel
theorem ef_105 (m : MethodId) (a1 : Addr) (a2 : Addr) : entryFrame m #[(.ref a1), (.ref a2)] 2 = mkF m 0 #[.val (.ref a1), .val (.ref a2)] [] := by first | (simp [entryFrame, mkF, argsToLocals, Value.category]; done) | rfl
def Q105 (Z : State) (a1 : Addr) (a2 : Addr) (f_a2 : Int32 → Int32) (u_coder_a1 : Value) (h0 : Heap) (n0 : Nat) (v : Option Value) (h : Heap) (L : List Loc) : Prop := ∃ x1 : Addr, v = none ∧ Fr n0 L ∧ Keep h0 h [a1] ∧ Exa Z h a1 "java/lang/String" ∧ Ia Z h x1 .byte (0 : Int32) (fun _ => 0) ∧ Fld Z h a1 "java/lang/String" "value" "[B" (.ref x1) ∧ Fld Z h a1 "java/lang/String" "coder" "B" (.int (0 : Int32))
set_option maxRecDepth 65536 in
set_option maxHeartbeats 40000000 in
theorem rm105 (l : Launch) (Z : State) (a0 : Array Value) (hw : ∀ d ∈ tables_1, d.before a0 Z = true) (ws : List Jvm.Cond) (a1 : Addr) (a2 : Addr) (f_a2 : Int32 → Int32) (u_coder_a1 : Value) (h0 : Heap) (n0 : Nat) (Z0 : n0 ≤ h0.size) (A_a2 : Ia Z h0 a2 .char (0 : Int32) f_a2) (E_a1 : Exa Z h0 a1 "java/lang/String") (F_value_a1 : Fld Z h0 a1 "java/lang/String" "value" "[B" .null) (F_coder_a1 : Fld Z h0 a1 "java/lang/String" "coder" "B" u_coder_a1) (g_a1 : n0 ≤ a1) :
    MetFree l (⟨"java/lang/String", "<init>", "([C)V"⟩ : MethodName) (head1 (Jvm.Cond.code (⟨"java/lang/String", "<init>", "([C)V"⟩ : MethodName) jdk_42_method_3_code 2 none :: ws) ({ frames := 2, cells := 4, slots := 8, locals := 29 } : Room)) (fun a U => a = #[(.ref a1), (.ref a2)] ∧ Z.Warmed39 U.vm ∧ U.heap = h0 ∧ CHv Z EL0 U.vm h0) (fun _ _ _ _ _ => True) (fun _ U o U' => ∃ v L, o = .returned v ∧ Q105 Z a1 a2 f_a2 u_coder_a1 h0 n0 v U'.heap L ∧ CHr Z EL0 U.vm U.heap U'.vm U'.heap ∧ ReturnedEndW U o U' L ({ frames := 2, cells := 4, slots := 8, locals := 29 } : Room).cells ({ frames := 2, cells := 4, slots := 8, locals := 29 } : Room).slots) := by
  refine MetFree.of_bodySF (plainFor_of_name pn_105) hisR ?_
  intro p e s m args below meth c s₁ Bd hml0 hP hK
  obtain ⟨rfl, hZ, hh, H0⟩ := hP
  have hx := Bd.exec
  have hby := Bd.bytes
  have hml : c.maxLocals = 2 := hml0
  have hown : s.vm.findClass "java/lang/String" = some m.cls := findClass_of_methodNamed Bd.named
  have hnm := (name_of_methodNamed Bd.named Bd.method).1
  obtain ⟨vm0, hvm0⟩ : ∃ z, z = s.vm := ⟨_, rfl⟩
  have X0 : Stand p l e ({ frames := 2, cells := 4, slots := 8, locals := 29 } : Room) (s.setVm vm0) m #[(.ref a1), (.ref a2)] below meth c s₁ [] 0 0 := by rw [hvm0]; exact Stand.of_body Bd
  have hS : s.Since vm0 h0.size := by rw [hvm0]; exact own_since s _
  rw [← hvm0] at hZ hown
  have CR0 : CHr Z EL0 s.vm h0 vm0 h0 := by rw [hvm0]; exact CHr.refl H0
  have e0 : s₁.heap = h0 := by rw [← hh, Bd.state]; rfl
  have N0 := Fr.nil n0
  have pre0 : ∀ t, Steps p.tables e below (s₁.setTop (mkF m 0 #[.val (.ref a1), .val (.ref a2)] [])) t → Steps p.tables e below (s₁.setTop (entryFrame m #[(.ref a1), (.ref a2)] 2)) t := fun t k => castTop (ef_105 m a1 a2) k
  have K5 : ∀ t, Steps p.tables e below (s₁.setTop (mkF m 4 #[.val (.ref a1), .val (.ref a2)] [(.ref a2), (.int (0 : Int32)), (.ref a2), (.ref a1)])) t → Steps p.tables e below (s₁.setTop (mkF m 0 #[.val (.ref a1), .val (.ref a2)] [])) t := by
    intro t k
    refine XS.aloadN X0.here hx rfl (Jvm.hb hby d105_0) rfl rfl ?_
    show Steps p.tables e below (s₁.setTop (mkF m 1 #[.val (.ref a1), .val (.ref a2)] [(.ref a1)])) t
    refine XS.aloadN X0.here hx rfl (Jvm.hb hby d105_1) rfl rfl ?_
    show Steps p.tables e below (s₁.setTop (mkF m 2 #[.val (.ref a1), .val (.ref a2)] [(.ref a2), (.ref a1)])) t
    refine XS.iconst X0.here hx rfl (Jvm.hb hby d105_2) ?_
    show Steps p.tables e below (s₁.setTop (mkF m 3 #[.val (.ref a1), .val (.ref a2)] [(.int (0 : Int32)), (.ref a2), (.ref a1)])) t
    refine XS.aloadN X0.here hx rfl (Jvm.hb hby d105_3) rfl rfl ?_
    show Steps p.tables e below (s₁.setTop (mkF m 4 #[.val (.ref a1), .val (.ref a2)] [(.ref a2), (.int (0 : Int32)), (.ref a2), (.ref a1)])) t
    exact k
  obtain ⟨cl1, Aq2, sq3, nq4⟩ := Ia.len A_a2
  have K6 : ∀ t, Steps p.tables e below (s₁.setTop (mkF m 6 #[.val (.ref a1), .val (.ref a2)] [.null, (.int (0 : Int32)), (.int (0 : Int32)), (.ref a2), (.ref a1)])) t → Steps p.tables e below (s₁.setTop (mkF m 4 #[.val (.ref a1), .val (.ref a2)] [(.ref a2), (.int (0 : Int32)), (.ref a2), (.ref a1)])) t := by
    intro t k
    refine X0.arraylength hx (by rw [e0]; exact Aq2.1) (State.isArrayOf_alike hZ.alike Aq2.2.1) (g := (mkF m 4 #[.val (.ref a1), .val (.ref a2)] [(.ref a2), (.int (0 : Int32)), (.ref a2), (.ref a1)])) rfl rfl (Jvm.hb hby d105_4) _ ?_
    rw [len_of sq3 nq4]
    show Steps p.tables e below (s₁.setTop (mkF m 5 #[.val (.ref a1), .val (.ref a2)] [(.int (0 : Int32)), (.int (0 : Int32)), (.ref a2), (.ref a1)])) t
    refine XS.aconstNull X0.here hx rfl (Jvm.hb hby d105_5) ?_
    show Steps p.tables e below (s₁.setTop (mkF m 6 #[.val (.ref a1), .val (.ref a2)] [.null, (.int (0 : Int32)), (.int (0 : Int32)), (.ref a2), (.ref a1)])) t
    exact k
  obtain ⟨_, _, ⟨T7, L7, k7, n7⟩, -, Xq7, hSq7, hgq7, ⟨Lc7, hQ7, l7, y7, z7, CHq7⟩, st7⟩ := X0.specialBackS hx (y := (⟨"java/lang/String", "<init>", "([CIILjava/lang/Void;)V"⟩ : MethodName)) rfl hown (mvT hZ (hw _ (List.mem_of_getElem? (i := 21) rfl))) (mvT hZ (hw _ (List.mem_of_getElem? (i := 22) rfl))) (mvT hZ (hw _ (List.mem_of_getElem? (i := 24) rfl))) (by decide) (backOfSH (W := 0) (EL := EL0) (rm106 l Z a0 hw [] a1 a2 u_coder_a1 h0 n0 Z0 E_a1 F_value_a1 g_a1 F_coder_a1) hZ (hw _ (List.mem_of_getElem? (i := 24) rfl)) (hw _ (List.mem_of_getElem? (i := 17) rfl)) (by decide) (by decide) (ew0 hw) CR0.1) (g := (mkF m 6 #[.val (.ref a1), .val (.ref a2)] [.null, (.int (0 : Int32)), (.int (0 : Int32)), (.ref a2), (.ref a1)])) rfl (by rw [hml]; rfl) (Steps.refl _) (a := a1) (argsL := [(.ref a2), (.int (0 : Int32)), (.int (0 : Int32)), .null]) (rest := []) (lenOf pd_4 rfl) rfl (by show 2 * 0 + _ ≤ _; exact Nat.le_of_eq rfl) (Jvm.hb hby d105_6) (fun _ _ => ⟨rfl, e0, (by decide : 0 + 4 ≤ _), (by decide : 0 + 8 ≤ _)⟩)
  dsimp only [Pt.U, Pt.locs, Pt.cells, Pt.slots] at Xq7 hSq7 hgq7 CHq7 l7 y7 z7 st7 hQ7
  subst l7 y7 z7
  obtain ⟨X7, hS, hZ, hown⟩ := rebS hS (show _ ≤ s₁.heap.size from (by rw [e0]; exact (Nat.le_refl h0.size))) Xq7 hSq7 hgq7 hZ hown
  obtain ⟨h7, e7⟩ : ∃ z, T7.heap = z := ⟨_, rfl⟩
  rw [e7] at hQ7
  rw [e7] at CHq7
  obtain ⟨b7_x1, rfl, N7q, Kq7, R7_0, R7_1, R7_2, R7_3⟩ := hQ7
  have N7 := Fr.app N0 N7q
  have KP7 : Keep h0 h7 [a1] := (Keep.refl h0 [a1]).trans Kq7 (allS (Or.inl (List.mem_of_getElem? (i := 0) rfl)) all0)
  have A7_0 : Ia Z h7 a2 .char (0 : Int32) f_a2 := A_a2.keep Kq7 (ninS (Ne.symm (own_nea E_a1 (hw _ (List.mem_of_getElem? (i := 16) rfl)) A_a2)) nin0)
  have CR7 : CHr Z EL0 s.vm h0 T7.vm h7 := CR0.trans (CHq7)
  rw [e7] at hS
  have K8 : ∀ t, Steps p.tables e below (T7.setTop (mkF m 9 #[.val (.ref a1), .val (.ref a2)] [])) t → Steps p.tables e below (s₁.setTop (mkF m 6 #[.val (.ref a1), .val (.ref a2)] [.null, (.int (0 : Int32)), (.int (0 : Int32)), (.ref a2), (.ref a1)])) t := fun t k => st7.trans k
  obtain ⟨fs, hr, hrun, hended, hRW⟩ := X7.leaveW hS (show _ ≤ T7.heap.size from (by rw [e7]; exact (Nat.le_refl _))) (v := none) (fun _ => rfl) Bd.notSynchronized
  refine ⟨_, _, pre0 _ (K5 _ (K6 _ (K8 _ (X7.returnOut hx Bd.returns (Jvm.hb hby d105_9) hr)))), hrun, hended, _, _, rfl, ?_, (show CHr Z EL0 s.vm s.heap T7.vm T7.heap from by rw [hh, e7]; exact CR7.trans (CHv.at X7 hZ (ew0 hw) CR7.1)), hRW.1, hRW.2.1, hRW.2.2.1, hRW.2.2.2.mono (by decide) (by decide)⟩
  show Q105 Z a1 a2 f_a2 u_coder_a1 h0 n0 _ T7.heap _
  rw [e7]
  exact ⟨b7_x1, rfl, N7, KP7, R7_0, R7_1, R7_2, R7_3⟩
-- body 9: java/lang/StringUTF16.compress([CI[BII)I
theorem d9_0 : decode jdk_52_method_21_code 0 = .ok (.iconst 0, 1) := by decide +kernel
theorem d9_1 : decode jdk_52_method_21_code 1 = .ok (.istore 5, 2) := by decide +kernel
theorem d9_3 : decode jdk_52_method_21_code 3 = .ok (.iload 5, 2) := by decide +kernel
theorem d9_5 : decode jdk_52_method_21_code 5 = .ok (.iload 4, 2) := by decide +kernel
theorem d9_7 : decode jdk_52_method_21_code 7 = .ok (.if_icmp .ge 37, 3) := by decide +kernel
theorem d9_10 : decode jdk_52_method_21_code 10 = .ok (.aload_n 0, 1) := by decide +kernel
theorem d9_11 : decode jdk_52_method_21_code 11 = .ok (.iload_n 1, 1) := by decide +kernel
theorem d9_12 : decode jdk_52_method_21_code 12 = .ok (.caload, 1) := by decide +kernel
theorem d9_13 : decode jdk_52_method_21_code 13 = .ok (.istore 6, 2) := by decide +kernel
theorem d9_15 : decode jdk_52_method_21_code 15 = .ok (.iload 6, 2) := by decide +kernel
theorem d9_17 : decode jdk_52_method_21_code 17 = .ok (.sipush 255, 3) := by decide +kernel
theorem d9_20 : decode jdk_52_method_21_code 20 = .ok (.if_icmp .le 6, 3) := by decide +kernel
theorem d9_26 : decode jdk_52_method_21_code 26 = .ok (.aload_n 2, 1) := by decide +kernel
theorem d9_27 : decode jdk_52_method_21_code 27 = .ok (.iload_n 3, 1) := by decide +kernel
theorem d9_28 : decode jdk_52_method_21_code 28 = .ok (.iload 6, 2) := by decide +kernel
theorem d9_30 : decode jdk_52_method_21_code 30 = .ok (.i2b, 1) := by decide +kernel
theorem d9_31 : decode jdk_52_method_21_code 31 = .ok (.bastore, 1) := by decide +kernel
theorem d9_32 : decode jdk_52_method_21_code 32 = .ok (.iinc 1 1, 3) := by decide +kernel
theorem d9_35 : decode jdk_52_method_21_code 35 = .ok (.iinc 3 1, 3) := by decide +kernel
theorem d9_38 : decode jdk_52_method_21_code 38 = .ok (.iinc 5 1, 3) := by decide +kernel
theorem d9_41 : decode jdk_52_method_21_code 41 = .ok (.goto (-38), 3) := by decide +kernel
theorem d9_44 : decode jdk_52_method_21_code 44 = .ok (.iload 4, 2) := by decide +kernel
theorem d9_46 : decode jdk_52_method_21_code 46 = .ok (.ireturn, 1) := by decide +kernel
theorem pn_9 : plainName "java/lang/StringUTF16" = true := by first | (simp [plainName, overriddenIn]; done) | decide +kernel
theorem ef_9 (m : MethodId) (a1 : Addr) (a3 : Addr) (p5 : Int32) : entryFrame m #[(.ref a1), (.int (0 : Int32)), (.ref a3), (.int (0 : Int32)), (.int p5)] 7 = mkF m 0 #[.val (.ref a1), .val (.int (0 : Int32)), .val (.ref a3), .val (.int (0 : Int32)), .val (.int p5), .unset, .unset] [] := by first | (simp [entryFrame, mkF, argsToLocals, Value.category]; done) | rfl
def f9_u1 (f_a1 : Int32 → Int32) (i1 : Int32) (i3 : Int32) (g : Int32 → Int32) : Int32 → Int32 := (upd g i3 (nar .byte ((f_a1 i1).toInt8.toInt32)))
def f9_L (p5 : Int32) (f_a1 : Int32 → Int32) (f_a3 : Int32 → Int32) : Nat → (Int32) → (Int32) → (Int32) → (Int32 → Int32) → Int32
  | 0, _, _, _, _ => 0
  | k + 1, i1, i3, i5, g => (if i5 < p5 then (f9_L p5 f_a1 f_a3 k (i1 + (1 : Int32)) (i3 + (1 : Int32)) (i5 + (1 : Int32)) (f9_u1 f_a1 i1 i3 g)) else p5)
theorem f9_L_succ (p5 : Int32) (f_a1 : Int32 → Int32) (f_a3 : Int32 → Int32) (k : Nat) (i1 : Int32) (i3 : Int32) (i5 : Int32) (g : Int32 → Int32) : f9_L p5 f_a1 f_a3 (k + 1) i1 i3 i5 g = (if i5 < p5 then (f9_L p5 f_a1 f_a3 k (i1 + (1 : Int32)) (i3 + (1 : Int32)) (i5 + (1 : Int32)) (f9_u1 f_a1 i1 i3 g)) else p5) := rfl
def f9_G_a3 (p5 : Int32) (f_a1 : Int32 → Int32) (f_a3 : Int32 → Int32) : Nat → (Int32) → (Int32) → (Int32) → (Int32 → Int32) → Int32 → Int32
  | 0, _, _, _, g => g
  | k + 1, i1, i3, i5, g => (if i5 < p5 then (f9_G_a3 p5 f_a1 f_a3 k (i1 + (1 : Int32)) (i3 + (1 : Int32)) (i5 + (1 : Int32)) (f9_u1 f_a1 i1 i3 g)) else g)
theorem f9_G_a3_succ (p5 : Int32) (f_a1 : Int32 → Int32) (f_a3 : Int32 → Int32) (k : Nat) (i1 : Int32) (i3 : Int32) (i5 : Int32) (g : Int32 → Int32) : f9_G_a3 p5 f_a1 f_a3 (k + 1) i1 i3 i5 g = (if i5 < p5 then (f9_G_a3 p5 f_a1 f_a3 k (i1 + (1 : Int32)) (i3 + (1 : Int32)) (i5 + (1 : Int32)) (f9_u1 f_a1 i1 i3 g)) else g) := rfl
def f9 (p5 : Int32) (f_a1 : Int32 → Int32) (f_a3 : Int32 → Int32) : Int32 := (f9_L p5 f_a1 f_a3 (p5.toNatClampNeg + 1) (0 : Int32) (0 : Int32) (0 : Int32) f_a3)
def f9_G_a30 (p5 : Int32) (f_a1 : Int32 → Int32) (f_a3 : Int32 → Int32) : Int32 → Int32 := (f9_G_a3 p5 f_a1 f_a3 (p5.toNatClampNeg + 1) (0 : Int32) (0 : Int32) (0 : Int32) f_a3)
def Q9 (Z : State) (a1 : Addr) (a3 : Addr) (p5 : Int32) (n_a1 : Int32) (f_a1 : Int32 → Int32) (n_a3 : Int32) (f_a3 : Int32 → Int32) (h0 : Heap) (n0 : Nat) (v : Option Value) (h : Heap) (L : List Loc) : Prop := v = some (.int (f9 p5 f_a1 f_a3)) ∧ Fr n0 L ∧ Keep h0 h [a3] ∧ Ia Z h a3 .byte n_a3 (f9_G_a30 p5 f_a1 f_a3)
set_option maxRecDepth 65536 in
set_option maxHeartbeats 40000000 in
theorem rm9 (l : Launch) (Z : State) (a0 : Array Value) (hw : ∀ d ∈ tables_1, d.before a0 Z = true) (ws : List Jvm.Cond) (a1 : Addr) (a3 : Addr) (p5 : Int32) (n_a1 : Int32) (f_a1 : Int32 → Int32) (n_a3 : Int32) (f_a3 : Int32 → Int32) (h0 : Heap) (n0 : Nat) (Z0 : n0 ≤ h0.size) (hp : ¬ p5 < 0) (ha : ¬ n_a1 < p5) (hb : ¬ n_a3 < p5) (hch : ∀ j : Int32, ¬ j < 0 → j < p5 → ¬ (255 : Int32) < f_a1 j) (A_a1 : Ia Z h0 a1 .char n_a1 f_a1) (A_a3 : Ia Z h0 a3 .byte n_a3 f_a3) (g_a3 : n0 ≤ a3) :
    MetFree l (⟨"java/lang/StringUTF16", "compress", "([CI[BII)I"⟩ : MethodName) (head1 (Jvm.Cond.code (⟨"java/lang/StringUTF16", "compress", "([CI[BII)I"⟩ : MethodName) jdk_52_method_21_code 7 (some .int) :: ws) ({ frames := 0, cells := 0, slots := 0, locals := 0 } : Room)) (fun a U => a = #[(.ref a1), (.int (0 : Int32)), (.ref a3), (.int (0 : Int32)), (.int p5)] ∧ Z.Warmed39 U.vm ∧ U.heap = h0) (fun _ _ _ _ _ => True) (fun _ U o U' => ∃ v L, o = .returned v ∧ Q9 Z a1 a3 p5 n_a1 f_a1 n_a3 f_a3 h0 n0 v U'.heap L ∧ FrameEnd U o U' L ({ frames := 0, cells := 0, slots := 0, locals := 0 } : Room).cells ({ frames := 0, cells := 0, slots := 0, locals := 0 } : Room).slots) := by
  refine MetFree.of_bodySF (plainFor_of_name pn_9) hisR ?_
  intro p e s m args below meth c s₁ Bd hml0 hP hK
  obtain ⟨rfl, hZ, hh⟩ := hP
  have hx := Bd.exec
  have hby := Bd.bytes
  have hml : c.maxLocals = 7 := hml0
  have hown : s.vm.findClass "java/lang/StringUTF16" = some m.cls := findClass_of_methodNamed Bd.named
  have hnm := (name_of_methodNamed Bd.named Bd.method).1
  have X0 : Stand p l e ({ frames := 0, cells := 0, slots := 0, locals := 0 } : Room) s m #[(.ref a1), (.int (0 : Int32)), (.ref a3), (.int (0 : Int32)), (.int p5)] below meth c s₁ [] 0 0 := Stand.of_body Bd
  have e0 : s₁.heap = h0 := by rw [← hh, Bd.state]; rfl
  have N0 := Fr.nil n0
  have pre0 : ∀ t, Steps p.tables e below (s₁.setTop (mkF m 0 #[.val (.ref a1), .val (.int (0 : Int32)), .val (.ref a3), .val (.int (0 : Int32)), .val (.int p5), .unset, .unset] [])) t → Steps p.tables e below (s₁.setTop (entryFrame m #[(.ref a1), (.int (0 : Int32)), (.ref a3), (.int (0 : Int32)), (.int p5)] 7)) t := fun t k => castTop (ef_9 m a1 a3 p5) k
  have K1 : ∀ t, Steps p.tables e below (s₁.setTop (mkF m 3 #[.val (.ref a1), .val (.int (0 : Int32)), .val (.ref a3), .val (.int (0 : Int32)), .val (.int p5), .val (.int (0 : Int32)), .unset] [])) t → Steps p.tables e below (s₁.setTop (mkF m 0 #[.val (.ref a1), .val (.int (0 : Int32)), .val (.ref a3), .val (.int (0 : Int32)), .val (.int p5), .unset, .unset] [])) t := by
    intro t k
    refine XS.iconst X0.here hx rfl (Jvm.hb hby d9_0) ?_
    show Steps p.tables e below (s₁.setTop (mkF m 1 #[.val (.ref a1), .val (.int (0 : Int32)), .val (.ref a3), .val (.int (0 : Int32)), .val (.int p5), .unset, .unset] [(.int (0 : Int32))])) t
    refine XS.istore X0.here hx rfl (Jvm.hb hby d9_1) rfl (l' := #[.val (.ref a1), .val (.int (0 : Int32)), .val (.ref a3), .val (.int (0 : Int32)), .val (.int p5), .val (.int (0 : Int32)), .unset]) rfl ?_
    show Steps p.tables e below (s₁.setTop (mkF m 3 #[.val (.ref a1), .val (.int (0 : Int32)), .val (.ref a3), .val (.int (0 : Int32)), .val (.int p5), .val (.int (0 : Int32)), .unset] [])) t
    exact k
  have LP : ∀ (k : Nat) (i1 : Int32) (i3 : Int32) (i5 : Int32) (g : Int32 → Int32) (t6 : Slot) (ht_t6 : t6 = .unset ∨ ∃ z : Int32, t6 = .val (.int z)) (TL : State) (hL : Heap) (LL : List Loc), Stand p l e ({ frames := 0, cells := 0, slots := 0, locals := 0 } : Room) s m #[(.ref a1), (.int (0 : Int32)), (.ref a3), (.int (0 : Int32)), (.int p5)] below meth c TL LL 0 0 → TL.heap = hL → Fr n0 LL → Keep h0 hL [a3] → Ia Z hL a1 .char n_a1 f_a1 → Ia Z hL a3 .byte n_a3 g → (¬ i5 < 0) → (¬ p5 < i5) → (i1 = i5) → (i3 = i5) → (p5.toInt - i5.toInt < (k : Int)) → ∃ s₂ o, Steps p.tables e below (TL.setTop (mkF m 3 #[.val (.ref a1), .val (.int i1), .val (.ref a3), .val (.int i3), .val (.int p5), .val (.int i5), t6] [])) s₂ ∧ s₂.status = .running ∧ Ended s₂ below o ∧ ∃ v L, o = .returned v ∧ (v = some (.int (f9_L p5 f_a1 f_a3 k i1 i3 i5 g)) ∧ Fr n0 L ∧ Keep h0 s₂.heap [a3] ∧ Ia Z s₂.heap a3 .byte n_a3 (f9_G_a3 p5 f_a1 f_a3 k i1 i3 i5 g)) ∧ FrameEnd s o s₂ L ({ frames := 0, cells := 0, slots := 0, locals := 0 } : Room).cells ({ frames := 0, cells := 0, slots := 0, locals := 0 } : Room).slots := by
    intro k
    induction k with
    | zero =>
      intro i1 i3 i5 g t6 ht_t6 TL hL LL XL eL NL KL hL_0 hL_1 hi hj e1 e3 hk
      exfalso
      exact own_z _ _ hj hk
    | succ k ih =>
      intro i1 i3 i5 g t6 ht_t6 TL hL LL XL eL NL KL hL_0 hL_1 hi hj e1 e3 hk
      have K501 : ∀ t, Steps p.tables e below (TL.setTop (mkF m 7 #[.val (.ref a1), .val (.int i1), .val (.ref a3), .val (.int i3), .val (.int p5), .val (.int i5), t6] [(.int p5), (.int i5)])) t → Steps p.tables e below (TL.setTop (mkF m 3 #[.val (.ref a1), .val (.int i1), .val (.ref a3), .val (.int i3), .val (.int p5), .val (.int i5), t6] [])) t := by
        intro t k
        refine XS.iload XL.here hx rfl (Jvm.hb hby d9_3) rfl ?_
        show Steps p.tables e below (TL.setTop (mkF m 5 #[.val (.ref a1), .val (.int i1), .val (.ref a3), .val (.int i3), .val (.int p5), .val (.int i5), t6] [(.int i5)])) t
        refine XS.iload XL.here hx rfl (Jvm.hb hby d9_5) rfl ?_
        show Steps p.tables e below (TL.setTop (mkF m 7 #[.val (.ref a1), .val (.int i1), .val (.ref a3), .val (.int i3), .val (.int p5), .val (.int i5), t6] [(.int p5), (.int i5)])) t
        exact k
      by_cases hc502 : i5 < p5
      · have K503 : ∀ t, Steps p.tables e below (TL.setTop (mkF m 10 #[.val (.ref a1), .val (.int i1), .val (.ref a3), .val (.int i3), .val (.int p5), .val (.int i5), t6] [])) t → Steps p.tables e below (TL.setTop (mkF m 7 #[.val (.ref a1), .val (.int i1), .val (.ref a3), .val (.int i3), .val (.int p5), .val (.int i5), t6] [(.int p5), (.int i5)])) t := by
          intro t k
          refine XS.icmpNo XL.here hx rfl (Jvm.hb hby d9_7) rfl (tlt hc502).2.1 ?_
          exact k
        have K508 : ∀ t, Steps p.tables e below (TL.setTop (mkF m 12 #[.val (.ref a1), .val (.int i1), .val (.ref a3), .val (.int i3), .val (.int p5), .val (.int i5), t6] [(.int i1), (.ref a1)])) t → Steps p.tables e below (TL.setTop (mkF m 10 #[.val (.ref a1), .val (.int i1), .val (.ref a3), .val (.int i3), .val (.int p5), .val (.int i5), t6] [])) t := by
          intro t k
          refine XS.aloadN XL.here hx rfl (Jvm.hb hby d9_10) rfl rfl ?_
          show Steps p.tables e below (TL.setTop (mkF m 11 #[.val (.ref a1), .val (.int i1), .val (.ref a3), .val (.int i3), .val (.int p5), .val (.int i5), t6] [(.ref a1)])) t
          refine XS.iloadN XL.here hx rfl (Jvm.hb hby d9_11) rfl ?_
          show Steps p.tables e below (TL.setTop (mkF m 12 #[.val (.ref a1), .val (.int i1), .val (.ref a3), .val (.int i3), .val (.int p5), .val (.int i5), t6] [(.int i1), (.ref a1)])) t
          exact k
        have hin504 : ¬ i1 < 0 ∧ i1 < n_a1 := by exact ⟨by rw [e1]; exact hi, by rw [e1]; exact own_tr _ _ _ (by assumption) ha⟩
        obtain ⟨cl505, Aq506, hjhin504, aq507⟩ := Ia.at hL_0 hin504
        have K509 : ∀ t, Steps p.tables e below (TL.setTop (mkF m 20 #[.val (.ref a1), .val (.int i1), .val (.ref a3), .val (.int i3), .val (.int p5), .val (.int i5), .val (.int (f_a1 i1))] [(.int (255 : Int32)), (.int (f_a1 i1))])) t → Steps p.tables e below (TL.setTop (mkF m 12 #[.val (.ref a1), .val (.int i1), .val (.ref a3), .val (.int i3), .val (.int p5), .val (.int i5), t6] [(.int i1), (.ref a1)])) t := by
          intro t k
          refine XL.caload hx (j := i1) (v := .int (f_a1 i1)) (by rw [eL]; exact Aq506.1) (State.isArrayOf_alike hZ.alike Aq506.2.1) Aq506.2.2 hjhin504 aq507 (g := (mkF m 12 #[.val (.ref a1), .val (.int i1), .val (.ref a3), .val (.int i3), .val (.int p5), .val (.int i5), t6] [(.int i1), (.ref a1)])) rfl rfl (Jvm.hb hby d9_12) _ ?_
          show Steps p.tables e below (TL.setTop (mkF m 13 #[.val (.ref a1), .val (.int i1), .val (.ref a3), .val (.int i3), .val (.int p5), .val (.int i5), t6] [(.int (f_a1 i1))])) t
          refine XS.istore XL.here hx rfl (Jvm.hb hby d9_13) rfl (l' := #[.val (.ref a1), .val (.int i1), .val (.ref a3), .val (.int i3), .val (.int p5), .val (.int i5), .val (.int (f_a1 i1))]) (own_sts (P := fun y => storeLocals #[.val (.ref a1), .val (.int i1), .val (.ref a3), .val (.int i3), .val (.int p5), .val (.int i5), y] 6 (.int (f_a1 i1)) = some #[.val (.ref a1), .val (.int i1), .val (.ref a3), .val (.int i3), .val (.int p5), .val (.int i5), .val (.int (f_a1 i1))]) _ ht_t6 rfl (fun _ => rfl)) ?_
          show Steps p.tables e below (TL.setTop (mkF m 15 #[.val (.ref a1), .val (.int i1), .val (.ref a3), .val (.int i3), .val (.int p5), .val (.int i5), .val (.int (f_a1 i1))] [])) t
          refine XS.iload XL.here hx rfl (Jvm.hb hby d9_15) rfl ?_
          show Steps p.tables e below (TL.setTop (mkF m 17 #[.val (.ref a1), .val (.int i1), .val (.ref a3), .val (.int i3), .val (.int p5), .val (.int i5), .val (.int (f_a1 i1))] [(.int (f_a1 i1))])) t
          refine XS.sipush XL.here hx rfl (Jvm.hb hby d9_17) ?_
          show Steps p.tables e below (TL.setTop (mkF m 20 #[.val (.ref a1), .val (.int i1), .val (.ref a3), .val (.int i3), .val (.int p5), .val (.int i5), .val (.int (f_a1 i1))] [(.int (255 : Int32)), (.int (f_a1 i1))])) t
          exact k
        have hc510 : ¬ ((255 : Int32) < (f_a1 i1)) := (by rw [e1]; exact hch _ hi (by assumption))
        have K511 : ∀ t, Steps p.tables e below (TL.setTop (mkF m 26 #[.val (.ref a1), .val (.int i1), .val (.ref a3), .val (.int i3), .val (.int p5), .val (.int i5), .val (.int (f_a1 i1))] [])) t → Steps p.tables e below (TL.setTop (mkF m 20 #[.val (.ref a1), .val (.int i1), .val (.ref a3), .val (.int i3), .val (.int p5), .val (.int i5), .val (.int (f_a1 i1))] [(.int (255 : Int32)), (.int (f_a1 i1))])) t := by
          intro t k
          refine XS.icmpYes XL.here hx rfl (pc0 := 20) (pc' := 26) rfl (Jvm.hb hby d9_20) rfl (flt hc510).2.2.2 (by decide) (by decide) ?_
          exact k
        have K512 : ∀ t, Steps p.tables e below (TL.setTop (mkF m 31 #[.val (.ref a1), .val (.int i1), .val (.ref a3), .val (.int i3), .val (.int p5), .val (.int i5), .val (.int (f_a1 i1))] [(.int ((f_a1 i1).toInt8.toInt32)), (.int i3), (.ref a3)])) t → Steps p.tables e below (TL.setTop (mkF m 26 #[.val (.ref a1), .val (.int i1), .val (.ref a3), .val (.int i3), .val (.int p5), .val (.int i5), .val (.int (f_a1 i1))] [])) t := by
          intro t k
          refine XS.aloadN XL.here hx rfl (Jvm.hb hby d9_26) rfl rfl ?_
          show Steps p.tables e below (TL.setTop (mkF m 27 #[.val (.ref a1), .val (.int i1), .val (.ref a3), .val (.int i3), .val (.int p5), .val (.int i5), .val (.int (f_a1 i1))] [(.ref a3)])) t
          refine XS.iloadN XL.here hx rfl (Jvm.hb hby d9_27) rfl ?_
          show Steps p.tables e below (TL.setTop (mkF m 28 #[.val (.ref a1), .val (.int i1), .val (.ref a3), .val (.int i3), .val (.int p5), .val (.int i5), .val (.int (f_a1 i1))] [(.int i3), (.ref a3)])) t
          refine XS.iload XL.here hx rfl (Jvm.hb hby d9_28) rfl ?_
          show Steps p.tables e below (TL.setTop (mkF m 30 #[.val (.ref a1), .val (.int i1), .val (.ref a3), .val (.int i3), .val (.int p5), .val (.int i5), .val (.int (f_a1 i1))] [(.int (f_a1 i1)), (.int i3), (.ref a3)])) t
          refine XS.i2b XL.here hx rfl (Jvm.hb hby d9_30) rfl ?_
          show Steps p.tables e below (TL.setTop (mkF m 31 #[.val (.ref a1), .val (.int i1), .val (.ref a3), .val (.int i3), .val (.int p5), .val (.int i5), .val (.int (f_a1 i1))] [(.int ((f_a1 i1).toInt8.toInt32)), (.int i3), (.ref a3)])) t
          exact k
        have hin513 : ¬ i3 < 0 ∧ i3 < n_a3 := by exact ⟨by rw [e3]; exact hi, by rw [e3]; exact own_tr _ _ _ (by assumption) hb⟩
        obtain ⟨cl513, Aq513, hj513, aq513⟩ := Ia.at hL_1 hin513
        obtain ⟨T513, h513, X513, e513, W513, st513⟩ := stB XL hx hZ eL Aq513 (j := i3) hj513 (g := (mkF m 31 #[.val (.ref a1), .val (.int i1), .val (.ref a3), .val (.int i3), .val (.int p5), .val (.int i5), .val (.int (f_a1 i1))] [(.int ((f_a1 i1).toInt8.toInt32)), (.int i3), (.ref a3)])) rfl rfl (Jvm.hb hby d9_31)
        have KP513 : Keep h0 h513 [a3] := KL.wr W513 (Or.inl (List.mem_of_getElem? (i := 0) rfl))
        have N513 := Fr.snoc X513 NL g_a3
        have A513_0 : Ia Z h513 a1 .char n_a1 f_a1 := hL_0.other W513 (own_neA hL_0 hL_1 (by decide))
        have Aw513 : Ia Z h513 a3 .byte n_a3 (f9_u1 f_a1 i1 i3 g) := hL_1.set W513 hin513.1
        have K514 : ∀ t, Steps p.tables e below (T513.setTop (mkF m 32 #[.val (.ref a1), .val (.int i1), .val (.ref a3), .val (.int i3), .val (.int p5), .val (.int i5), .val (.int (f_a1 i1))] [])) t → Steps p.tables e below (TL.setTop (mkF m 31 #[.val (.ref a1), .val (.int i1), .val (.ref a3), .val (.int i3), .val (.int p5), .val (.int i5), .val (.int (f_a1 i1))] [(.int ((f_a1 i1).toInt8.toInt32)), (.int i3), (.ref a3)])) t := fun t k => st513 _ k
        have K515 : ∀ t, Steps p.tables e below (T513.setTop (mkF m 3 #[.val (.ref a1), .val (.int (i1 + (1 : Int32))), .val (.ref a3), .val (.int (i3 + (1 : Int32))), .val (.int p5), .val (.int (i5 + (1 : Int32))), .val (.int (f_a1 i1))] [])) t → Steps p.tables e below (T513.setTop (mkF m 32 #[.val (.ref a1), .val (.int i1), .val (.ref a3), .val (.int i3), .val (.int p5), .val (.int i5), .val (.int (f_a1 i1))] [])) t := by
          intro t k
          refine XS.iinc X513.here hx rfl (Jvm.hb hby d9_32) rfl (l' := #[.val (.ref a1), .val (.int (i1 + (1 : Int32))), .val (.ref a3), .val (.int i3), .val (.int p5), .val (.int i5), .val (.int (f_a1 i1))]) rfl ?_
          show Steps p.tables e below (T513.setTop (mkF m 35 #[.val (.ref a1), .val (.int (i1 + (1 : Int32))), .val (.ref a3), .val (.int i3), .val (.int p5), .val (.int i5), .val (.int (f_a1 i1))] [])) t
          refine XS.iinc X513.here hx rfl (Jvm.hb hby d9_35) rfl (l' := #[.val (.ref a1), .val (.int (i1 + (1 : Int32))), .val (.ref a3), .val (.int (i3 + (1 : Int32))), .val (.int p5), .val (.int i5), .val (.int (f_a1 i1))]) rfl ?_
          show Steps p.tables e below (T513.setTop (mkF m 38 #[.val (.ref a1), .val (.int (i1 + (1 : Int32))), .val (.ref a3), .val (.int (i3 + (1 : Int32))), .val (.int p5), .val (.int i5), .val (.int (f_a1 i1))] [])) t
          refine XS.iinc X513.here hx rfl (Jvm.hb hby d9_38) rfl (l' := #[.val (.ref a1), .val (.int (i1 + (1 : Int32))), .val (.ref a3), .val (.int (i3 + (1 : Int32))), .val (.int p5), .val (.int (i5 + (1 : Int32))), .val (.int (f_a1 i1))]) rfl ?_
          show Steps p.tables e below (T513.setTop (mkF m 41 #[.val (.ref a1), .val (.int (i1 + (1 : Int32))), .val (.ref a3), .val (.int (i3 + (1 : Int32))), .val (.int p5), .val (.int (i5 + (1 : Int32))), .val (.int (f_a1 i1))] [])) t
          refine XS.goto X513.here hx rfl (pc0 := 41) (pc' := 3) rfl (Jvm.hb hby d9_41) (by decide) (by decide) ?_
          show Steps p.tables e below (T513.setTop (mkF m 3 #[.val (.ref a1), .val (.int (i1 + (1 : Int32))), .val (.ref a3), .val (.int (i3 + (1 : Int32))), .val (.int p5), .val (.int (i5 + (1 : Int32))), .val (.int (f_a1 i1))] [])) t
          exact k
        obtain ⟨s₂, o, hs, zq1, zq2, v, L, zq3, zq4, zq7⟩ := ih (i1 + (1 : Int32)) (i3 + (1 : Int32)) (i5 + (1 : Int32)) (f9_u1 f_a1 i1 i3 g) (.val (.int (f_a1 i1))) (Or.inr ⟨_, rfl⟩) T513 _ _ X513 e513 N513 KP513 A513_0 Aw513 (own_s1 _ _ hi (by assumption)) (own_s2 _ _ (by assumption)) (by rw [e1]) (by rw [e3]) (own_s3 _ _ _ hk (by assumption))
        exact ⟨s₂, o, K501 _ (K503 _ (K508 _ (K509 _ (K511 _ (K512 _ (K514 _ (K515 _ (hs)))))))), zq1, zq2, v, L, zq3, ⟨zq4.1.trans (congrArg (fun z => some (Value.int z)) (show (f9_L p5 f_a1 f_a3 k (i1 + (1 : Int32)) (i3 + (1 : Int32)) (i5 + (1 : Int32)) (f9_u1 f_a1 i1 i3 g)) = f9_L p5 f_a1 f_a3 (k + 1) i1 i3 i5 g from Eq.symm ((f9_L_succ p5 f_a1 f_a3 k i1 i3 i5 g).trans (if_pos hc502)))), zq4.2.1, zq4.2.2.1, (by rw [show f9_G_a3 p5 f_a1 f_a3 (k + 1) i1 i3 i5 g = (f9_G_a3 p5 f_a1 f_a3 k (i1 + (1 : Int32)) (i3 + (1 : Int32)) (i5 + (1 : Int32)) (f9_u1 f_a1 i1 i3 g)) from (f9_G_a3_succ p5 f_a1 f_a3 k i1 i3 i5 g).trans (if_pos hc502)]; exact zq4.2.2.2)⟩, zq7⟩
      · have K516 : ∀ t, Steps p.tables e below (TL.setTop (mkF m 44 #[.val (.ref a1), .val (.int i1), .val (.ref a3), .val (.int i3), .val (.int p5), .val (.int i5), t6] [])) t → Steps p.tables e below (TL.setTop (mkF m 7 #[.val (.ref a1), .val (.int i1), .val (.ref a3), .val (.int i3), .val (.int p5), .val (.int i5), t6] [(.int p5), (.int i5)])) t := by
          intro t k
          refine XS.icmpYes XL.here hx rfl (pc0 := 7) (pc' := 44) rfl (Jvm.hb hby d9_7) rfl (flt hc502).2.1 (by decide) (by decide) ?_
          exact k
        have K517 : ∀ t, Steps p.tables e below (TL.setTop (mkF m 46 #[.val (.ref a1), .val (.int i1), .val (.ref a3), .val (.int i3), .val (.int p5), .val (.int i5), t6] [(.int p5)])) t → Steps p.tables e below (TL.setTop (mkF m 44 #[.val (.ref a1), .val (.int i1), .val (.ref a3), .val (.int i3), .val (.int p5), .val (.int i5), t6] [])) t := by
          intro t k
          refine XS.iload XL.here hx rfl (Jvm.hb hby d9_44) rfl ?_
          show Steps p.tables e below (TL.setTop (mkF m 46 #[.val (.ref a1), .val (.int i1), .val (.ref a3), .val (.int i3), .val (.int p5), .val (.int i5), t6] [(.int p5)])) t
          exact k
        obtain ⟨fs, hr, hrun, hended, hW, hsame⟩ := XL.leave (v := some (.int p5)) (fun h => by rw [Bd.returns] at h; cases h) Bd.notSynchronized
        refine ⟨_, _, (K501 _ (K516 _ (K517 _ (retI XL hx Bd.returns (Jvm.hb hby d9_46) hr)))), hrun, hended, _, _, rfl, ?_, ⟨_, rfl⟩, hW, hsame.mono (by decide) (by decide)⟩
        show ((_ : Option Value) = some (.int (f9_L p5 f_a1 f_a3 (k + 1) i1 i3 i5 g)) ∧ Fr n0 _ ∧ Keep h0 TL.heap [a3] ∧ Ia Z TL.heap a3 .byte n_a3 (f9_G_a3 p5 f_a1 f_a3 (k + 1) i1 i3 i5 g))
        rw [eL]
        exact ⟨congrArg (fun z => some (Value.int z)) (show p5 = f9_L p5 f_a1 f_a3 (k + 1) i1 i3 i5 g from Eq.symm ((f9_L_succ p5 f_a1 f_a3 k i1 i3 i5 g).trans (if_neg hc502))), NL, KL, (by rw [show f9_G_a3 p5 f_a1 f_a3 (k + 1) i1 i3 i5 g = g from (f9_G_a3_succ p5 f_a1 f_a3 k i1 i3 i5 g).trans (if_neg hc502)]; exact hL_1)⟩
  obtain ⟨s₂, o, hs, zq1, zq2, v, L, zq3, zq4, zq7⟩ := LP (p5.toNatClampNeg + 1) (0 : Int32) (0 : Int32) (0 : Int32) f_a3 (.unset) (Or.inl rfl) s₁ _ _ X0 e0 N0 (Keep.refl h0 [a3]) A_a1 A_a3 (by decide) hp rfl rfl (own_k0 _ hp)
  exact ⟨s₂, o, pre0 _ (K1 _ (hs)), zq1, zq2, v, L, zq3, ⟨zq4.1.trans (congrArg (fun z => some (Value.int z)) (show (f9_L p5 f_a1 f_a3 (p5.toNatClampNeg + 1) (0 : Int32) (0 : Int32) (0 : Int32) f_a3) = f9 p5 f_a1 f_a3 from Eq.symm (rfl))), zq4.2.1, zq4.2.2.1, (by rw [show f9_G_a30 p5 f_a1 f_a3 = (f9_G_a3 p5 f_a1 f_a3 (p5.toNatClampNeg + 1) (0 : Int32) (0 : Int32) (0 : Int32) f_a3) from rfl]; exact zq4.2.2.2)⟩, zq7⟩
theorem own_c9L (p5 : Int32) (f g0 : Int32 → Int32) : ∀ (k : Nat) (i1 i3 i5 : Int32) (g : Int32 → Int32), ¬ p5 < i5 → p5.toInt - i5.toInt < (k : Int) → f9_L p5 f g0 k i1 i3 i5 g = p5 := by
  intro k
  induction k with
  | zero => intro i1 i3 i5 g hj hk; exact (own_z _ _ hj hk).elim
  | succ k ih =>
    intro i1 i3 i5 g hj hk
    rw [f9_L_succ]
    by_cases h : i5 < p5
    · rw [if_pos h]; exact ih _ _ _ _ (own_s2 _ _ h) (own_s3 _ _ _ hk h)
    · rw [if_neg h]
theorem own_c9 (p5 : Int32) (f g0 : Int32 → Int32) (h : ¬ p5 < 0) : f9 p5 f g0 = p5 := own_c9L p5 f g0 _ _ _ _ _ h (own_k0 _ h)
-- body 8: java/lang/StringUTF16.compress([CII)[B
theorem d8_0 : decode jdk_52_method_16_code 0 = .ok (.iload_n 2, 1) := by decide +kernel
theorem d8_1 : decode jdk_52_method_16_code 1 = .ok (.newarray .byte, 2) := by decide +kernel
theorem d8_3 : decode jdk_52_method_16_code 3 = .ok (.astore_n 3, 1) := by decide +kernel
theorem d8_4 : decode jdk_52_method_16_code 4 = .ok (.aload_n 0, 1) := by decide +kernel
theorem d8_5 : decode jdk_52_method_16_code 5 = .ok (.iload_n 1, 1) := by decide +kernel
theorem d8_6 : decode jdk_52_method_16_code 6 = .ok (.aload_n 3, 1) := by decide +kernel
theorem d8_7 : decode jdk_52_method_16_code 7 = .ok (.iconst 0, 1) := by decide +kernel
theorem d8_8 : decode jdk_52_method_16_code 8 = .ok (.iload_n 2, 1) := by decide +kernel
theorem d8_9 : decode jdk_52_method_16_code 9 = .ok (.invokestatic 115, 3) := by decide +kernel
theorem d8_12 : decode jdk_52_method_16_code 12 = .ok (.istore 4, 2) := by decide +kernel
theorem d8_14 : decode jdk_52_method_16_code 14 = .ok (.iload 4, 2) := by decide +kernel
theorem d8_16 : decode jdk_52_method_16_code 16 = .ok (.iload_n 2, 1) := by decide +kernel
theorem d8_17 : decode jdk_52_method_16_code 17 = .ok (.if_icmp .eq 40, 3) := by decide +kernel
theorem d8_57 : decode jdk_52_method_16_code 57 = .ok (.aload_n 3, 1) := by decide +kernel
theorem d8_58 : decode jdk_52_method_16_code 58 = .ok (.areturn, 1) := by decide +kernel
theorem pn_8 : plainName "java/lang/StringUTF16" = true := by first | (simp [plainName, overriddenIn]; done) | decide +kernel
theorem pd_7 : parseMethodDescriptor "([CI[BII)I" = some ⟨[(.array .char), .int, (.array .byte), .int, .int], some .int⟩ := by decide +kernel
theorem ef_8 (m : MethodId) (a1 : Addr) (p3 : Int32) : entryFrame m #[(.ref a1), (.int (0 : Int32)), (.int p3)] 6 = mkF m 0 #[.val (.ref a1), .val (.int (0 : Int32)), .val (.int p3), .unset, .unset, .unset] [] := by first | (simp [entryFrame, mkF, argsToLocals, Value.category]; done) | rfl
def Q8 (Z : State) (a1 : Addr) (p3 : Int32) (n_a1 : Int32) (f_a1 : Int32 → Int32) (h0 : Heap) (n0 : Nat) (v : Option Value) (h : Heap) (L : List Loc) : Prop := ∃ x1 : Addr, v = some (.ref x1) ∧ Fr n0 L ∧ Keep h0 h [] ∧ h0.size ≤ x1 ∧ n0 ≤ x1 ∧ Ia Z h x1 .byte p3 (f9_G_a30 p3 f_a1 (fun _ => 0))
set_option maxRecDepth 65536 in
set_option maxHeartbeats 40000000 in
theorem rm8 (l : Launch) (Z : State) (a0 : Array Value) (hw : ∀ d ∈ tables_1, d.before a0 Z = true) (ws : List Jvm.Cond) (a1 : Addr) (p3 : Int32) (n_a1 : Int32) (f_a1 : Int32 → Int32) (h0 : Heap) (n0 : Nat) (Z0 : n0 ≤ h0.size) (hn : ¬ p3 < 0) (hc : p3.toNatClampNeg ≤ 3) (ha : ¬ n_a1 < p3) (hch : ∀ j : Int32, ¬ j < 0 → j < p3 → ¬ (255 : Int32) < f_a1 j) (A_a1 : Ia Z h0 a1 .char n_a1 f_a1) :
    MetFree l (⟨"java/lang/StringUTF16", "compress", "([CII)[B"⟩ : MethodName) (head1 (Jvm.Cond.code (⟨"java/lang/StringUTF16", "compress", "([CII)[B"⟩ : MethodName) jdk_52_method_16_code 6 (some (.array .byte)) :: ws) ({ frames := 1, cells := 1, slots := 3, locals := 18 } : Room)) (fun a U => a = #[(.ref a1), (.int (0 : Int32)), (.int p3)] ∧ Z.Warmed39 U.vm ∧ U.heap = h0) (fun _ _ _ _ _ => True) (fun _ U o U' => ∃ v L, o = .returned v ∧ Q8 Z a1 p3 n_a1 f_a1 h0 n0 v U'.heap L ∧ FrameEnd U o U' L ({ frames := 1, cells := 1, slots := 3, locals := 18 } : Room).cells ({ frames := 1, cells := 1, slots := 3, locals := 18 } : Room).slots) := by
  refine MetFree.of_bodySF (plainFor_of_name pn_8) hisR ?_
  intro p e s m args below meth c s₁ Bd hml0 hP hK
  obtain ⟨rfl, hZ, hh⟩ := hP
  have hx := Bd.exec
  have hby := Bd.bytes
  have hml : c.maxLocals = 6 := hml0
  have hown : s.vm.findClass "java/lang/StringUTF16" = some m.cls := findClass_of_methodNamed Bd.named
  have hnm := (name_of_methodNamed Bd.named Bd.method).1
  have X0 : Stand p l e ({ frames := 1, cells := 1, slots := 3, locals := 18 } : Room) s m #[(.ref a1), (.int (0 : Int32)), (.int p3)] below meth c s₁ [] 0 0 := Stand.of_body Bd
  have e0 : s₁.heap = h0 := by rw [← hh, Bd.state]; rfl
  have N0 := Fr.nil n0
  have pre0 : ∀ t, Steps p.tables e below (s₁.setTop (mkF m 0 #[.val (.ref a1), .val (.int (0 : Int32)), .val (.int p3), .unset, .unset, .unset] [])) t → Steps p.tables e below (s₁.setTop (entryFrame m #[(.ref a1), (.int (0 : Int32)), (.int p3)] 6)) t := fun t k => castTop (ef_8 m a1 p3) k
  have K1 : ∀ t, Steps p.tables e below (s₁.setTop (mkF m 1 #[.val (.ref a1), .val (.int (0 : Int32)), .val (.int p3), .unset, .unset, .unset] [(.int p3)])) t → Steps p.tables e below (s₁.setTop (mkF m 0 #[.val (.ref a1), .val (.int (0 : Int32)), .val (.int p3), .unset, .unset, .unset] [])) t := by
    intro t k
    refine XS.iloadN X0.here hx rfl (Jvm.hb hby d8_0) rfl ?_
    show Steps p.tables e below (s₁.setTop (mkF m 1 #[.val (.ref a1), .val (.int (0 : Int32)), .val (.int p3), .unset, .unset, .unset] [(.int p3)])) t
    exact k
  obtain ⟨T2, h2, k2, X2, e2, E2, A2, st2⟩ := newP X0 hx hZ (hw _ (List.mem_of_getElem? (i := 33) rfl)) e0 (g := (mkF m 1 #[.val (.ref a1), .val (.int (0 : Int32)), .val (.int p3), .unset, .unset, .unset] [(.int p3)])) rfl (Jvm.hb hby d8_1) rfl hn (cap := 3) hc (by decide) (by decide) (by decide)
  obtain ⟨b2, g2⟩ : ∃ z, z = h0.size := ⟨_, rfl⟩
  rw [← g2] at A2 st2
  have KP2 : Keep h0 h2 [] := (Keep.refl h0 []).ext E2
  have A2_0 : Ia Z h2 a1 .char n_a1 f_a1 := A_a1.ext E2
  have ne2_0 : a1 ≠ b2 := Nat.ne_of_lt (Nat.lt_of_lt_of_le A_a1.lt (Nat.le_of_eq g2.symm))
  have gb_b2 : n0 ≤ b2 := Nat.le_trans Z0 (Nat.le_of_eq g2.symm)
  have sz_b2 : h0.size ≤ b2 := Nat.le_trans (Keep.refl h0 []).1 (Nat.le_of_eq g2.symm)
  have V2 : Ia Z h2 b2 .byte p3 (fun _ => 0) := Ia.new A2 hn rfl
  have K3 : ∀ t, Steps p.tables e below (T2.setTop (mkF m 3 #[.val (.ref a1), .val (.int (0 : Int32)), .val (.int p3), .unset, .unset, .unset] [(.ref b2)])) t → Steps p.tables e below (s₁.setTop (mkF m 1 #[.val (.ref a1), .val (.int (0 : Int32)), .val (.int p3), .unset, .unset, .unset] [(.int p3)])) t := fun t k => st2 _ k
  have K4 : ∀ t, Steps p.tables e below (T2.setTop (mkF m 9 #[.val (.ref a1), .val (.int (0 : Int32)), .val (.int p3), .val (.ref b2), .unset, .unset] [(.int p3), (.int (0 : Int32)), (.ref b2), (.int (0 : Int32)), (.ref a1)])) t → Steps p.tables e below (T2.setTop (mkF m 3 #[.val (.ref a1), .val (.int (0 : Int32)), .val (.int p3), .unset, .unset, .unset] [(.ref b2)])) t := by
    intro t k
    refine XS.astoreN X2.here hx rfl (Jvm.hb hby d8_3) rfl rfl (l' := #[.val (.ref a1), .val (.int (0 : Int32)), .val (.int p3), .val (.ref b2), .unset, .unset]) rfl ?_
    show Steps p.tables e below (T2.setTop (mkF m 4 #[.val (.ref a1), .val (.int (0 : Int32)), .val (.int p3), .val (.ref b2), .unset, .unset] [])) t
    refine XS.aloadN X2.here hx rfl (Jvm.hb hby d8_4) rfl rfl ?_
    show Steps p.tables e below (T2.setTop (mkF m 5 #[.val (.ref a1), .val (.int (0 : Int32)), .val (.int p3), .val (.ref b2), .unset, .unset] [(.ref a1)])) t
    refine XS.iloadN X2.here hx rfl (Jvm.hb hby d8_5) rfl ?_
    show Steps p.tables e below (T2.setTop (mkF m 6 #[.val (.ref a1), .val (.int (0 : Int32)), .val (.int p3), .val (.ref b2), .unset, .unset] [(.int (0 : Int32)), (.ref a1)])) t
    refine XS.aloadN X2.here hx rfl (Jvm.hb hby d8_6) rfl rfl ?_
    show Steps p.tables e below (T2.setTop (mkF m 7 #[.val (.ref a1), .val (.int (0 : Int32)), .val (.int p3), .val (.ref b2), .unset, .unset] [(.ref b2), (.int (0 : Int32)), (.ref a1)])) t
    refine XS.iconst X2.here hx rfl (Jvm.hb hby d8_7) ?_
    show Steps p.tables e below (T2.setTop (mkF m 8 #[.val (.ref a1), .val (.int (0 : Int32)), .val (.int p3), .val (.ref b2), .unset, .unset] [(.int (0 : Int32)), (.ref b2), (.int (0 : Int32)), (.ref a1)])) t
    refine XS.iloadN X2.here hx rfl (Jvm.hb hby d8_8) rfl ?_
    show Steps p.tables e below (T2.setTop (mkF m 9 #[.val (.ref a1), .val (.int (0 : Int32)), .val (.int p3), .val (.ref b2), .unset, .unset] [(.int p3), (.int (0 : Int32)), (.ref b2), (.int (0 : Int32)), (.ref a1)])) t
    exact k
  obtain ⟨_, _, ⟨T5, L5, k5, n5⟩, -, X5, ⟨Lc5, hQ5, l5, y5, z5⟩, st5⟩ := Jvm.LawKit.callS X2 hx (y := (⟨"java/lang/StringUTF16", "compress", "([CI[BII)I"⟩ : MethodName)) hown (mvT hZ (hw _ (List.mem_of_getElem? (i := 34) rfl))) (mvT hZ (hw _ (List.mem_of_getElem? (i := 35) rfl))) (mvT hZ (hw _ (List.mem_of_getElem? (i := 31) rfl))) (mvT hZ (hw _ (List.mem_of_getElem? (i := 36) rfl))) (by decide) (backOf (W := 0) (rm9 l Z a0 hw [] a1 b2 p3 n_a1 f_a1 p3 (fun _ => 0) h2 n0 (Nat.le_trans Z0 KP2.1) hn ha Int32.lt_irrefl hch A2_0 V2 gb_b2) hZ (hw _ (List.mem_of_getElem? (i := 36) rfl)) (hw _ (List.mem_of_getElem? (i := 31) rfl)) (by decide) (by decide)) (g := (mkF m 9 #[.val (.ref a1), .val (.int (0 : Int32)), .val (.int p3), .val (.ref b2), .unset, .unset] [(.int p3), (.int (0 : Int32)), (.ref b2), (.int (0 : Int32)), (.ref a1)])) rfl (by rw [hml]; rfl) (argsL := [(.ref a1), (.int (0 : Int32)), (.ref b2), (.int (0 : Int32)), (.int p3)]) (rest := []) (lenOf pd_7 rfl) rfl (by show 2 * 0 + _ ≤ _; exact Nat.le_of_eq rfl) (Jvm.hb hby d8_9) (fun _ _ => ⟨rfl, e2, (by decide : 1 + 0 ≤ _), (by decide : 3 + 0 ≤ _)⟩)
  dsimp only [Pt.U, Pt.locs, Pt.cells, Pt.slots] at X5 l5 y5 z5 st5 hQ5
  subst l5 y5 z5
  obtain ⟨h5, e5⟩ : ∃ z, T5.heap = z := ⟨_, rfl⟩
  rw [e5] at hQ5
  obtain ⟨rfl, N5q, Kq5, R5_0⟩ := hQ5
  have N5 := Fr.app N0 N5q
  have KP5 : Keep h0 h5 [] := KP2.trans Kq5 (allS (Or.inr sz_b2) all0)
  have A5_0 : Ia Z h5 a1 .char n_a1 f_a1 := A2_0.keep Kq5 (ninS ne2_0 nin0)
  have K6 : ∀ t, Steps p.tables e below (T5.setTop (mkF m 12 #[.val (.ref a1), .val (.int (0 : Int32)), .val (.int p3), .val (.ref b2), .unset, .unset] [(.int (f9 p3 f_a1 (fun _ => 0)))])) t → Steps p.tables e below (T2.setTop (mkF m 9 #[.val (.ref a1), .val (.int (0 : Int32)), .val (.int p3), .val (.ref b2), .unset, .unset] [(.int p3), (.int (0 : Int32)), (.ref b2), (.int (0 : Int32)), (.ref a1)])) t := fun t k => st5 _ k
  have K7 : ∀ t, Steps p.tables e below (T5.setTop (mkF m 17 #[.val (.ref a1), .val (.int (0 : Int32)), .val (.int p3), .val (.ref b2), .val (.int (f9 p3 f_a1 (fun _ => 0))), .unset] [(.int p3), (.int (f9 p3 f_a1 (fun _ => 0)))])) t → Steps p.tables e below (T5.setTop (mkF m 12 #[.val (.ref a1), .val (.int (0 : Int32)), .val (.int p3), .val (.ref b2), .unset, .unset] [(.int (f9 p3 f_a1 (fun _ => 0)))])) t := by
    intro t k
    refine XS.istore X5.here hx rfl (Jvm.hb hby d8_12) rfl (l' := #[.val (.ref a1), .val (.int (0 : Int32)), .val (.int p3), .val (.ref b2), .val (.int (f9 p3 f_a1 (fun _ => 0))), .unset]) rfl ?_
    show Steps p.tables e below (T5.setTop (mkF m 14 #[.val (.ref a1), .val (.int (0 : Int32)), .val (.int p3), .val (.ref b2), .val (.int (f9 p3 f_a1 (fun _ => 0))), .unset] [])) t
    refine XS.iload X5.here hx rfl (Jvm.hb hby d8_14) rfl ?_
    show Steps p.tables e below (T5.setTop (mkF m 16 #[.val (.ref a1), .val (.int (0 : Int32)), .val (.int p3), .val (.ref b2), .val (.int (f9 p3 f_a1 (fun _ => 0))), .unset] [(.int (f9 p3 f_a1 (fun _ => 0)))])) t
    refine XS.iloadN X5.here hx rfl (Jvm.hb hby d8_16) rfl ?_
    show Steps p.tables e below (T5.setTop (mkF m 17 #[.val (.ref a1), .val (.int (0 : Int32)), .val (.int p3), .val (.ref b2), .val (.int (f9 p3 f_a1 (fun _ => 0))), .unset] [(.int p3), (.int (f9 p3 f_a1 (fun _ => 0)))])) t
    exact k
  have hc8 : (f9 p3 f_a1 (fun _ => 0)) = p3 := (own_c9 _ _ _ hn)
  have K9 : ∀ t, Steps p.tables e below (T5.setTop (mkF m 57 #[.val (.ref a1), .val (.int (0 : Int32)), .val (.int p3), .val (.ref b2), .val (.int (f9 p3 f_a1 (fun _ => 0))), .unset] [])) t → Steps p.tables e below (T5.setTop (mkF m 17 #[.val (.ref a1), .val (.int (0 : Int32)), .val (.int p3), .val (.ref b2), .val (.int (f9 p3 f_a1 (fun _ => 0))), .unset] [(.int p3), (.int (f9 p3 f_a1 (fun _ => 0)))])) t := by
    intro t k
    refine XS.icmpYes X5.here hx rfl (pc0 := 17) (pc' := 57) rfl (Jvm.hb hby d8_17) rfl (teq hc8).1 (by decide) (by decide) ?_
    exact k
  have K10 : ∀ t, Steps p.tables e below (T5.setTop (mkF m 58 #[.val (.ref a1), .val (.int (0 : Int32)), .val (.int p3), .val (.ref b2), .val (.int (f9 p3 f_a1 (fun _ => 0))), .unset] [(.ref b2)])) t → Steps p.tables e below (T5.setTop (mkF m 57 #[.val (.ref a1), .val (.int (0 : Int32)), .val (.int p3), .val (.ref b2), .val (.int (f9 p3 f_a1 (fun _ => 0))), .unset] [])) t := by
    intro t k
    refine XS.aloadN X5.here hx rfl (Jvm.hb hby d8_57) rfl rfl ?_
    show Steps p.tables e below (T5.setTop (mkF m 58 #[.val (.ref a1), .val (.int (0 : Int32)), .val (.int p3), .val (.ref b2), .val (.int (f9 p3 f_a1 (fun _ => 0))), .unset] [(.ref b2)])) t
    exact k
  obtain ⟨fs, hr, hrun, hended, hW, hsame⟩ := X5.leave (v := some (.ref b2)) (fun h => by rw [Bd.returns] at h; cases h) Bd.notSynchronized
  refine ⟨_, _, pre0 _ (K1 _ (K3 _ (K4 _ (K6 _ (K7 _ (K9 _ (K10 _ (retOut X5 hx Bd.returns rfl (Or.inr (Or.inr (Or.inr (Or.inr ⟨rfl, rfl, rfl⟩)))) (Jvm.hb hby d8_58) hr)))))))), hrun, hended, _, _, rfl, ?_, ⟨_, rfl⟩, hW, hsame.mono (by decide) (by decide)⟩
  show Q8 Z a1 p3 n_a1 f_a1 h0 n0 _ T5.heap _
  rw [e5]
  exact ⟨b2, rfl, N5, KP5, sz_b2, gb_b2, R5_0⟩
-- body 10: java/lang/StringUTF16.coderFromArrayLen([BI)B
theorem d10_0 : decode jdk_52_method_15_code 0 = .ok (.iload_n 1, 1) := by decide +kernel
theorem d10_1 : decode jdk_52_method_15_code 1 = .ok (.aload_n 0, 1) := by decide +kernel
theorem d10_2 : decode jdk_52_method_15_code 2 = .ok (.arraylength, 1) := by decide +kernel
theorem d10_3 : decode jdk_52_method_15_code 3 = .ok (.isub, 1) := by decide +kernel
theorem d10_4 : decode jdk_52_method_15_code 4 = .ok (.bipush 31, 2) := by decide +kernel
theorem d10_6 : decode jdk_52_method_15_code 6 = .ok (.iushr, 1) := by decide +kernel
theorem d10_7 : decode jdk_52_method_15_code 7 = .ok (.i2b, 1) := by decide +kernel
theorem d10_8 : decode jdk_52_method_15_code 8 = .ok (.ireturn, 1) := by decide +kernel
theorem pn_10 : plainName "java/lang/StringUTF16" = true := by first | (simp [plainName, overriddenIn]; done) | decide +kernel
theorem ef_10 (m : MethodId) (a1 : Addr) (p2 : Int32) : entryFrame m #[(.ref a1), (.int p2)] 2 = mkF m 0 #[.val (.ref a1), .val (.int p2)] [] := by first | (simp [entryFrame, mkF, argsToLocals, Value.category]; done) | rfl
def f10 (p2 : Int32) (n_a1 : Int32) : Int32 := (nar .byte ((((p2 - n_a1).toUInt32 >>> ((31 : Int32) &&& 31).toUInt32).toInt32).toInt8.toInt32))
def Q10 (Z : State) (a1 : Addr) (p2 : Int32) (n_a1 : Int32) (f_a1 : Int32 → Int32) (h0 : Heap) (n0 : Nat) (v : Option Value) (h : Heap) (L : List Loc) : Prop := v = some (.int (f10 p2 n_a1)) ∧ Fr n0 L ∧ h = h0
set_option maxRecDepth 65536 in
set_option maxHeartbeats 40000000 in
theorem rm10 (l : Launch) (Z : State) (a0 : Array Value) (hw : ∀ d ∈ tables_1, d.before a0 Z = true) (ws : List Jvm.Cond) (a1 : Addr) (p2 : Int32) (n_a1 : Int32) (f_a1 : Int32 → Int32) (h0 : Heap) (n0 : Nat) (Z0 : n0 ≤ h0.size) (A_a1 : Ia Z h0 a1 .byte n_a1 f_a1) :
    MetFree l (⟨"java/lang/StringUTF16", "coderFromArrayLen", "([BI)B"⟩ : MethodName) (head1 (Jvm.Cond.code (⟨"java/lang/StringUTF16", "coderFromArrayLen", "([BI)B"⟩ : MethodName) jdk_52_method_15_code 2 (some .byte) :: ws) ({ frames := 0, cells := 0, slots := 0, locals := 0 } : Room)) (fun a U => a = #[(.ref a1), (.int p2)] ∧ Z.Warmed39 U.vm ∧ U.heap = h0) (fun _ _ _ _ _ => True) (fun _ U o U' => ∃ v L, o = .returned v ∧ Q10 Z a1 p2 n_a1 f_a1 h0 n0 v U'.heap L ∧ FrameEnd U o U' L ({ frames := 0, cells := 0, slots := 0, locals := 0 } : Room).cells ({ frames := 0, cells := 0, slots := 0, locals := 0 } : Room).slots) := by
  refine MetFree.of_bodySF (plainFor_of_name pn_10) hisR ?_
  intro p e s m args below meth c s₁ Bd hml0 hP hK
  obtain ⟨rfl, hZ, hh⟩ := hP
  have hx := Bd.exec
  have hby := Bd.bytes
  have hml : c.maxLocals = 2 := hml0
  have hown : s.vm.findClass "java/lang/StringUTF16" = some m.cls := findClass_of_methodNamed Bd.named
  have hnm := (name_of_methodNamed Bd.named Bd.method).1
  have X0 : Stand p l e ({ frames := 0, cells := 0, slots := 0, locals := 0 } : Room) s m #[(.ref a1), (.int p2)] below meth c s₁ [] 0 0 := Stand.of_body Bd
  have e0 : s₁.heap = h0 := by rw [← hh, Bd.state]; rfl
  have N0 := Fr.nil n0
  have pre0 : ∀ t, Steps p.tables e below (s₁.setTop (mkF m 0 #[.val (.ref a1), .val (.int p2)] [])) t → Steps p.tables e below (s₁.setTop (entryFrame m #[(.ref a1), (.int p2)] 2)) t := fun t k => castTop (ef_10 m a1 p2) k
  have K5 : ∀ t, Steps p.tables e below (s₁.setTop (mkF m 2 #[.val (.ref a1), .val (.int p2)] [(.ref a1), (.int p2)])) t → Steps p.tables e below (s₁.setTop (mkF m 0 #[.val (.ref a1), .val (.int p2)] [])) t := by
    intro t k
    refine XS.iloadN X0.here hx rfl (Jvm.hb hby d10_0) rfl ?_
    show Steps p.tables e below (s₁.setTop (mkF m 1 #[.val (.ref a1), .val (.int p2)] [(.int p2)])) t
    refine XS.aloadN X0.here hx rfl (Jvm.hb hby d10_1) rfl rfl ?_
    show Steps p.tables e below (s₁.setTop (mkF m 2 #[.val (.ref a1), .val (.int p2)] [(.ref a1), (.int p2)])) t
    exact k
  obtain ⟨cl1, Aq2, sq3, nq4⟩ := Ia.len A_a1
  have K6 : ∀ t, Steps p.tables e below (s₁.setTop (mkF m 8 #[.val (.ref a1), .val (.int p2)] [(.int ((((p2 - n_a1).toUInt32 >>> ((31 : Int32) &&& 31).toUInt32).toInt32).toInt8.toInt32))])) t → Steps p.tables e below (s₁.setTop (mkF m 2 #[.val (.ref a1), .val (.int p2)] [(.ref a1), (.int p2)])) t := by
    intro t k
    refine X0.arraylength hx (by rw [e0]; exact Aq2.1) (State.isArrayOf_alike hZ.alike Aq2.2.1) (g := (mkF m 2 #[.val (.ref a1), .val (.int p2)] [(.ref a1), (.int p2)])) rfl rfl (Jvm.hb hby d10_2) _ ?_
    rw [len_of sq3 nq4]
    show Steps p.tables e below (s₁.setTop (mkF m 3 #[.val (.ref a1), .val (.int p2)] [(.int n_a1), (.int p2)])) t
    refine XS.isub X0.here hx rfl (Jvm.hb hby d10_3) rfl ?_
    show Steps p.tables e below (s₁.setTop (mkF m 4 #[.val (.ref a1), .val (.int p2)] [(.int (p2 - n_a1))])) t
    refine XS.bipush X0.here hx rfl (Jvm.hb hby d10_4) ?_
    show Steps p.tables e below (s₁.setTop (mkF m 6 #[.val (.ref a1), .val (.int p2)] [(.int (31 : Int32)), (.int (p2 - n_a1))])) t
    refine XS.iushr X0.here hx rfl (Jvm.hb hby d10_6) rfl ?_
    show Steps p.tables e below (s₁.setTop (mkF m 7 #[.val (.ref a1), .val (.int p2)] [(.int (((p2 - n_a1).toUInt32 >>> ((31 : Int32) &&& 31).toUInt32).toInt32))])) t
    refine XS.i2b X0.here hx rfl (Jvm.hb hby d10_7) rfl ?_
    show Steps p.tables e below (s₁.setTop (mkF m 8 #[.val (.ref a1), .val (.int p2)] [(.int ((((p2 - n_a1).toUInt32 >>> ((31 : Int32) &&& 31).toUInt32).toInt32).toInt8.toInt32))])) t
    exact k
  obtain ⟨fs, hr, hrun, hended, hW, hsame⟩ := X0.leave (v := some (.int (nar .byte ((((p2 - n_a1).toUInt32 >>> ((31 : Int32) &&& 31).toUInt32).toInt32).toInt8.toInt32)))) (fun h => by rw [Bd.returns] at h; cases h) Bd.notSynchronized
  refine ⟨_, _, pre0 _ (K5 _ (K6 _ (retN X0 hx (t := .byte) Bd.returns (by simp) (Jvm.hb hby d10_8) hr))), hrun, hended, _, _, rfl, ?_, ⟨_, rfl⟩, hW, hsame.mono (by decide) (by decide)⟩
  show Q10 Z a1 p2 n_a1 f_a1 h0 n0 _ s₁.heap _
  rw [e0]
  exact ⟨congrArg (fun z => some (Value.int z)) (show (nar .byte ((((p2 - n_a1).toUInt32 >>> ((31 : Int32) &&& 31).toUInt32).toInt32).toInt8.toInt32)) = f10 p2 n_a1 from Eq.symm (rfl)), N0, rfl⟩
theorem own_cod (p : Int32) : f10 p p = 0 := by unfold f10; rw [Int32.sub_self]; decide
-- body 6: java/lang/String.<init>([CIILjava/lang/Void;)V
theorem d6_0 : decode jdk_42_method_149_code 0 = .ok (.aload_n 0, 1) := by decide +kernel
theorem d6_1 : decode jdk_42_method_149_code 1 = .ok (.invokespecial 1, 3) := by decide +kernel
theorem d6_4 : decode jdk_42_method_149_code 4 = .ok (.iload_n 3, 1) := by decide +kernel
theorem d6_5 : decode jdk_42_method_149_code 5 = .ok (.ifCond .ne 22, 3) := by decide +kernel
theorem d6_27 : decode jdk_42_method_149_code 27 = .ok (.getstatic 38, 3) := by decide +kernel
theorem d6_30 : decode jdk_42_method_149_code 30 = .ok (.ifCond .eq 28, 3) := by decide +kernel
theorem d6_33 : decode jdk_42_method_149_code 33 = .ok (.aload_n 1, 1) := by decide +kernel
theorem d6_34 : decode jdk_42_method_149_code 34 = .ok (.iload_n 2, 1) := by decide +kernel
theorem d6_35 : decode jdk_42_method_149_code 35 = .ok (.iload_n 3, 1) := by decide +kernel
theorem d6_36 : decode jdk_42_method_149_code 36 = .ok (.invokestatic 177, 3) := by decide +kernel
theorem d6_39 : decode jdk_42_method_149_code 39 = .ok (.astore 5, 2) := by decide +kernel
theorem d6_41 : decode jdk_42_method_149_code 41 = .ok (.aload_n 0, 1) := by decide +kernel
theorem d6_42 : decode jdk_42_method_149_code 42 = .ok (.aload 5, 2) := by decide +kernel
theorem d6_44 : decode jdk_42_method_149_code 44 = .ok (.iload_n 3, 1) := by decide +kernel
theorem d6_45 : decode jdk_42_method_149_code 45 = .ok (.invokestatic 47, 3) := by decide +kernel
theorem d6_48 : decode jdk_42_method_149_code 48 = .ok (.putfield 15, 3) := by decide +kernel
theorem d6_51 : decode jdk_42_method_149_code 51 = .ok (.aload_n 0, 1) := by decide +kernel
theorem d6_52 : decode jdk_42_method_149_code 52 = .ok (.aload 5, 2) := by decide +kernel
theorem d6_54 : decode jdk_42_method_149_code 54 = .ok (.putfield 9, 3) := by decide +kernel
theorem d6_57 : decode jdk_42_method_149_code 57 = .ok (.return_, 1) := by decide +kernel
theorem pn_6 : plainName "java/lang/String" = true := by first | (simp [plainName, overriddenIn]; done) | decide +kernel
theorem pd_8 : parseMethodDescriptor "([BI)B" = some ⟨[(.array .byte), .int], some .byte⟩ := by decide +kernel
theorem pd_6 : parseMethodDescriptor "([CII)[B" = some ⟨[(.array .char), .int, .int], some (.array .byte)⟩ := by decide +kernel
theorem ef_6 (m : MethodId) (a1 : Addr) (a2 : Addr) (p4 : Int32) : entryFrame m #[(.ref a1), (.ref a2), (.int (0 : Int32)), (.int p4), .null] 6 = mkF m 0 #[.val (.ref a1), .val (.ref a2), .val (.int (0 : Int32)), .val (.int p4), .val .null, .unset] [] := by first | (simp [entryFrame, mkF, argsToLocals, Value.category]; done) | rfl
def Q6 (Z : State) (a1 : Addr) (a2 : Addr) (p4 : Int32) (w_COMPACT_STRINGS : Int32) (n_a2 : Int32) (f_a2 : Int32 → Int32) (u_coder_a1 : Value) (u_value_a1 : Value) (h0 : Heap) (n0 : Nat) (v : Option Value) (h : Heap) (L : List Loc) : Prop := ∃ x1 : Addr, v = none ∧ Fr n0 L ∧ Keep h0 h [a1] ∧ h0.size ≤ x1 ∧ n0 ≤ x1 ∧ Exa Z h a1 "java/lang/String" ∧ Ia Z h x1 .byte p4 (f9_G_a30 p4 f_a2 (fun _ => 0)) ∧ Fld Z h a1 "java/lang/String" "coder" "B" (.int (0 : Int32)) ∧ Fld Z h a1 "java/lang/String" "value" "[B" (.ref x1)
set_option maxRecDepth 65536 in
set_option maxHeartbeats 40000000 in
theorem rm6 (l : Launch) (Z : State) (a0 : Array Value) (hw : ∀ d ∈ tables_1, d.before a0 Z = true) (ws : List Jvm.Cond) (a1 : Addr) (a2 : Addr) (p4 : Int32) (w_COMPACT_STRINGS : Int32) (n_a2 : Int32) (f_a2 : Int32 → Int32) (u_coder_a1 : Value) (u_value_a1 : Value) (h0 : Heap) (n0 : Nat) (Z0 : n0 ≤ h0.size) (hz : ¬ (p4 = 0)) (hn : ¬ p4 < 0) (hc : p4.toNatClampNeg ≤ 3) (ha : ¬ n_a2 < p4) (hch : ∀ j : Int32, ¬ j < 0 → j < p4 → ¬ (255 : Int32) < f_a2 j) (hcs : ¬ (w_COMPACT_STRINGS = 0)) (S_COMPACT_STRINGS : Sta Z h0 "java/lang/String" "COMPACT_STRINGS" "Z" (.int w_COMPACT_STRINGS)) (A_a2 : Ia Z h0 a2 .char n_a2 f_a2) (E_a1 : Exa Z h0 a1 "java/lang/String") (F_coder_a1 : Fld Z h0 a1 "java/lang/String" "coder" "B" u_coder_a1) (g_a1 : n0 ≤ a1) (F_value_a1 : Fld Z h0 a1 "java/lang/String" "value" "[B" u_value_a1) :
    MetFree l (⟨"java/lang/String", "<init>", "([CIILjava/lang/Void;)V"⟩ : MethodName) (head1 (Jvm.Cond.code (⟨"java/lang/String", "<init>", "([CIILjava/lang/Void;)V"⟩ : MethodName) jdk_42_method_149_code 6 none :: ws) ({ frames := 2, cells := 1, slots := 3, locals := 35 } : Room)) (fun a U => a = #[(.ref a1), (.ref a2), (.int (0 : Int32)), (.int p4), .null] ∧ Z.Warmed39 U.vm ∧ U.heap = h0) (fun _ _ _ _ _ => True) (fun _ U o U' => ∃ v L, o = .returned v ∧ Q6 Z a1 a2 p4 w_COMPACT_STRINGS n_a2 f_a2 u_coder_a1 u_value_a1 h0 n0 v U'.heap L ∧ FrameEnd U o U' L ({ frames := 2, cells := 1, slots := 3, locals := 35 } : Room).cells ({ frames := 2, cells := 1, slots := 3, locals := 35 } : Room).slots) := by
  refine MetFree.of_bodySF (plainFor_of_name pn_6) hisR ?_
  intro p e s m args below meth c s₁ Bd hml0 hP hK
  obtain ⟨rfl, hZ, hh⟩ := hP
  have hx := Bd.exec
  have hby := Bd.bytes
  have hml : c.maxLocals = 6 := hml0
  have hown : s.vm.findClass "java/lang/String" = some m.cls := findClass_of_methodNamed Bd.named
  have hnm := (name_of_methodNamed Bd.named Bd.method).1
  have X0 : Stand p l e ({ frames := 2, cells := 1, slots := 3, locals := 35 } : Room) s m #[(.ref a1), (.ref a2), (.int (0 : Int32)), (.int p4), .null] below meth c s₁ [] 0 0 := Stand.of_body Bd
  have e0 : s₁.heap = h0 := by rw [← hh, Bd.state]; rfl
  have N0 := Fr.nil n0
  have pre0 : ∀ t, Steps p.tables e below (s₁.setTop (mkF m 0 #[.val (.ref a1), .val (.ref a2), .val (.int (0 : Int32)), .val (.int p4), .val .null, .unset] [])) t → Steps p.tables e below (s₁.setTop (entryFrame m #[(.ref a1), (.ref a2), (.int (0 : Int32)), (.int p4), .null] 6)) t := fun t k => castTop (ef_6 m a1 a2 p4) k
  have K1 : ∀ t, Steps p.tables e below (s₁.setTop (mkF m 1 #[.val (.ref a1), .val (.ref a2), .val (.int (0 : Int32)), .val (.int p4), .val .null, .unset] [(.ref a1)])) t → Steps p.tables e below (s₁.setTop (mkF m 0 #[.val (.ref a1), .val (.ref a2), .val (.int (0 : Int32)), .val (.int p4), .val .null, .unset] [])) t := by
    intro t k
    refine XS.aloadN X0.here hx rfl (Jvm.hb hby d6_0) rfl rfl ?_
    show Steps p.tables e below (s₁.setTop (mkF m 1 #[.val (.ref a1), .val (.ref a2), .val (.int (0 : Int32)), .val (.int p4), .val .null, .unset] [(.ref a1)])) t
    exact k
  obtain ⟨T2, X2, e2, st2⟩ := initO X0 hx hZ hown (hw _ (List.mem_of_getElem? (i := 25) rfl)) (hw _ (List.mem_of_getElem? (i := 26) rfl)) (hw _ (List.mem_of_getElem? (i := 27) rfl)) e0 (g := (mkF m 1 #[.val (.ref a1), .val (.ref a2), .val (.int (0 : Int32)), .val (.int p4), .val .null, .unset] [(.ref a1)])) rfl (by rw [hml]; rfl) rfl (Jvm.hb hby d6_1) (by decide) (W := 0) (by show 2 * 0 + _ ≤ _; exact Nat.le_of_eq rfl) (by decide)
  have K3 : ∀ t, Steps p.tables e below (T2.setTop (mkF m 4 #[.val (.ref a1), .val (.ref a2), .val (.int (0 : Int32)), .val (.int p4), .val .null, .unset] [])) t → Steps p.tables e below (s₁.setTop (mkF m 1 #[.val (.ref a1), .val (.ref a2), .val (.int (0 : Int32)), .val (.int p4), .val .null, .unset] [(.ref a1)])) t := fun t k => st2 _ k
  have K4 : ∀ t, Steps p.tables e below (T2.setTop (mkF m 5 #[.val (.ref a1), .val (.ref a2), .val (.int (0 : Int32)), .val (.int p4), .val .null, .unset] [(.int p4)])) t → Steps p.tables e below (T2.setTop (mkF m 4 #[.val (.ref a1), .val (.ref a2), .val (.int (0 : Int32)), .val (.int p4), .val .null, .unset] [])) t := by
    intro t k
    refine XS.iloadN X2.here hx rfl (Jvm.hb hby d6_4) rfl ?_
    show Steps p.tables e below (T2.setTop (mkF m 5 #[.val (.ref a1), .val (.ref a2), .val (.int (0 : Int32)), .val (.int p4), .val .null, .unset] [(.int p4)])) t
    exact k
  have hc5 : ¬ (p4 = (0 : Int32)) := hz
  have K6 : ∀ t, Steps p.tables e below (T2.setTop (mkF m 27 #[.val (.ref a1), .val (.ref a2), .val (.int (0 : Int32)), .val (.int p4), .val .null, .unset] [])) t → Steps p.tables e below (T2.setTop (mkF m 5 #[.val (.ref a1), .val (.ref a2), .val (.int (0 : Int32)), .val (.int p4), .val .null, .unset] [(.int p4)])) t := by
    intro t k
    refine XS.ifYes X2.here hx rfl (pc0 := 5) (pc' := 27) rfl (Jvm.hb hby d6_5) rfl ((if0 _ _).trans (feq hc5).2) (by decide) (by decide) ?_
    exact k
  obtain ⟨T7, X7, e7, st7⟩ := getS2 X2 hx hZ hown (host := "") (Or.inl (hw _ (List.mem_of_getElem? (i := 28) rfl))) Via.refl e2 S_COMPACT_STRINGS (g := (mkF m 27 #[.val (.ref a1), .val (.ref a2), .val (.int (0 : Int32)), .val (.int p4), .val .null, .unset] [])) rfl (Jvm.hb hby d6_27)
  have K8 : ∀ t, Steps p.tables e below (T7.setTop (mkF m 30 #[.val (.ref a1), .val (.ref a2), .val (.int (0 : Int32)), .val (.int p4), .val .null, .unset] [(.int w_COMPACT_STRINGS)])) t → Steps p.tables e below (T2.setTop (mkF m 27 #[.val (.ref a1), .val (.ref a2), .val (.int (0 : Int32)), .val (.int p4), .val .null, .unset] [])) t := fun t k => st7 _ k
  have hc9 : ¬ (w_COMPACT_STRINGS = (0 : Int32)) := hcs
  have K10 : ∀ t, Steps p.tables e below (T7.setTop (mkF m 33 #[.val (.ref a1), .val (.ref a2), .val (.int (0 : Int32)), .val (.int p4), .val .null, .unset] [])) t → Steps p.tables e below (T7.setTop (mkF m 30 #[.val (.ref a1), .val (.ref a2), .val (.int (0 : Int32)), .val (.int p4), .val .null, .unset] [(.int w_COMPACT_STRINGS)])) t := by
    intro t k
    refine XS.ifNo X7.here hx rfl (Jvm.hb hby d6_30) rfl ((if0 _ _).trans (feq hc9).1) ?_
    exact k
  have K11 : ∀ t, Steps p.tables e below (T7.setTop (mkF m 36 #[.val (.ref a1), .val (.ref a2), .val (.int (0 : Int32)), .val (.int p4), .val .null, .unset] [(.int p4), (.int (0 : Int32)), (.ref a2)])) t → Steps p.tables e below (T7.setTop (mkF m 33 #[.val (.ref a1), .val (.ref a2), .val (.int (0 : Int32)), .val (.int p4), .val .null, .unset] [])) t := by
    intro t k
    refine XS.aloadN X7.here hx rfl (Jvm.hb hby d6_33) rfl rfl ?_
    show Steps p.tables e below (T7.setTop (mkF m 34 #[.val (.ref a1), .val (.ref a2), .val (.int (0 : Int32)), .val (.int p4), .val .null, .unset] [(.ref a2)])) t
    refine XS.iloadN X7.here hx rfl (Jvm.hb hby d6_34) rfl ?_
    show Steps p.tables e below (T7.setTop (mkF m 35 #[.val (.ref a1), .val (.ref a2), .val (.int (0 : Int32)), .val (.int p4), .val .null, .unset] [(.int (0 : Int32)), (.ref a2)])) t
    refine XS.iloadN X7.here hx rfl (Jvm.hb hby d6_35) rfl ?_
    show Steps p.tables e below (T7.setTop (mkF m 36 #[.val (.ref a1), .val (.ref a2), .val (.int (0 : Int32)), .val (.int p4), .val .null, .unset] [(.int p4), (.int (0 : Int32)), (.ref a2)])) t
    exact k
  obtain ⟨_, _, ⟨T12, L12, k12, n12⟩, -, X12, ⟨Lc12, hQ12, l12, y12, z12⟩, st12⟩ := Jvm.LawKit.callS X7 hx (y := (⟨"java/lang/StringUTF16", "compress", "([CII)[B"⟩ : MethodName)) hown (mvT hZ (hw _ (List.mem_of_getElem? (i := 29) rfl))) (mvT hZ (hw _ (List.mem_of_getElem? (i := 30) rfl))) (mvT hZ (hw _ (List.mem_of_getElem? (i := 31) rfl))) (mvT hZ (hw _ (List.mem_of_getElem? (i := 32) rfl))) (by decide) (backOf (W := 0) (rm8 l Z a0 hw [] a2 p4 n_a2 f_a2 h0 n0 Z0 hn hc ha hch A_a2) hZ (hw _ (List.mem_of_getElem? (i := 32) rfl)) (hw _ (List.mem_of_getElem? (i := 31) rfl)) (by decide) (by decide)) (g := (mkF m 36 #[.val (.ref a1), .val (.ref a2), .val (.int (0 : Int32)), .val (.int p4), .val .null, .unset] [(.int p4), (.int (0 : Int32)), (.ref a2)])) rfl (by rw [hml]; rfl) (argsL := [(.ref a2), (.int (0 : Int32)), (.int p4)]) (rest := []) (lenOf pd_6 rfl) rfl (by show 2 * 0 + _ ≤ _; exact Nat.le_of_eq rfl) (Jvm.hb hby d6_36) (fun _ _ => ⟨rfl, e7, (by decide : 0 + 1 ≤ _), (by decide : 0 + 3 ≤ _)⟩)
  dsimp only [Pt.U, Pt.locs, Pt.cells, Pt.slots] at X12 l12 y12 z12 st12 hQ12
  subst l12 y12 z12
  obtain ⟨h12, e12⟩ : ∃ z, T12.heap = z := ⟨_, rfl⟩
  rw [e12] at hQ12
  obtain ⟨b12_x1, rfl, N12q, Kq12, szq_b12_x1, gb_b12_x1, R12_0⟩ := hQ12
  have N12 := Fr.app N0 N12q
  have KP12 : Keep h0 h12 [a1] := (Keep.refl h0 [a1]).trans Kq12 all0
  have A12_1 : Ia Z h12 a2 .char n_a2 f_a2 := A_a2.keep Kq12 nin0
  have E12_2 : Exa Z h12 a1 "java/lang/String" := E_a1.keep Kq12
  have F12_3 : Fld Z h12 a1 "java/lang/String" "coder" "B" u_coder_a1 := F_coder_a1.keep Kq12 nin0
  have F12_4 : Fld Z h12 a1 "java/lang/String" "value" "[B" u_value_a1 := F_value_a1.keep Kq12 nin0
  have ne12_x1_0 : a2 ≠ b12_x1 := Nat.ne_of_lt (Nat.lt_of_lt_of_le A_a2.lt szq_b12_x1)
  have ne12_x1_2 : a1 ≠ b12_x1 := Nat.ne_of_lt (Nat.lt_of_lt_of_le E_a1.lt szq_b12_x1)
  have sz_b12_x1 : h0.size ≤ b12_x1 := Nat.le_trans (Keep.refl h0 [a1]).1 szq_b12_x1
  have K13 : ∀ t, Steps p.tables e below (T12.setTop (mkF m 39 #[.val (.ref a1), .val (.ref a2), .val (.int (0 : Int32)), .val (.int p4), .val .null, .unset] [(.ref b12_x1)])) t → Steps p.tables e below (T7.setTop (mkF m 36 #[.val (.ref a1), .val (.ref a2), .val (.int (0 : Int32)), .val (.int p4), .val .null, .unset] [(.int p4), (.int (0 : Int32)), (.ref a2)])) t := fun t k => st12 _ k
  have K14 : ∀ t, Steps p.tables e below (T12.setTop (mkF m 45 #[.val (.ref a1), .val (.ref a2), .val (.int (0 : Int32)), .val (.int p4), .val .null, .val (.ref b12_x1)] [(.int p4), (.ref b12_x1), (.ref a1)])) t → Steps p.tables e below (T12.setTop (mkF m 39 #[.val (.ref a1), .val (.ref a2), .val (.int (0 : Int32)), .val (.int p4), .val .null, .unset] [(.ref b12_x1)])) t := by
    intro t k
    refine XS.astore X12.here hx rfl (Jvm.hb hby d6_39) rfl rfl (l' := #[.val (.ref a1), .val (.ref a2), .val (.int (0 : Int32)), .val (.int p4), .val .null, .val (.ref b12_x1)]) rfl ?_
    show Steps p.tables e below (T12.setTop (mkF m 41 #[.val (.ref a1), .val (.ref a2), .val (.int (0 : Int32)), .val (.int p4), .val .null, .val (.ref b12_x1)] [])) t
    refine XS.aloadN X12.here hx rfl (Jvm.hb hby d6_41) rfl rfl ?_
    show Steps p.tables e below (T12.setTop (mkF m 42 #[.val (.ref a1), .val (.ref a2), .val (.int (0 : Int32)), .val (.int p4), .val .null, .val (.ref b12_x1)] [(.ref a1)])) t
    refine XS.aload X12.here hx rfl (Jvm.hb hby d6_42) rfl rfl ?_
    show Steps p.tables e below (T12.setTop (mkF m 44 #[.val (.ref a1), .val (.ref a2), .val (.int (0 : Int32)), .val (.int p4), .val .null, .val (.ref b12_x1)] [(.ref b12_x1), (.ref a1)])) t
    refine XS.iloadN X12.here hx rfl (Jvm.hb hby d6_44) rfl ?_
    show Steps p.tables e below (T12.setTop (mkF m 45 #[.val (.ref a1), .val (.ref a2), .val (.int (0 : Int32)), .val (.int p4), .val .null, .val (.ref b12_x1)] [(.int p4), (.ref b12_x1), (.ref a1)])) t
    exact k
  obtain ⟨_, _, ⟨T15, L15, k15, n15⟩, -, X15, ⟨Lc15, hQ15, l15, y15, z15⟩, st15⟩ := Jvm.LawKit.callS X12 hx (y := (⟨"java/lang/StringUTF16", "coderFromArrayLen", "([BI)B"⟩ : MethodName)) hown (mvT hZ (hw _ (List.mem_of_getElem? (i := 37) rfl))) (mvT hZ (hw _ (List.mem_of_getElem? (i := 38) rfl))) (mvT hZ (hw _ (List.mem_of_getElem? (i := 31) rfl))) (mvT hZ (hw _ (List.mem_of_getElem? (i := 39) rfl))) (by decide) (backOf (W := 1) (rm10 l Z a0 hw [] b12_x1 p4 p4 (f9_G_a30 p4 f_a2 (fun _ => 0)) h12 n0 (Nat.le_trans Z0 KP12.1) R12_0) hZ (hw _ (List.mem_of_getElem? (i := 39) rfl)) (hw _ (List.mem_of_getElem? (i := 31) rfl)) (by decide) (by decide)) (g := (mkF m 45 #[.val (.ref a1), .val (.ref a2), .val (.int (0 : Int32)), .val (.int p4), .val .null, .val (.ref b12_x1)] [(.int p4), (.ref b12_x1), (.ref a1)])) rfl (by rw [hml]; rfl) (argsL := [(.ref b12_x1), (.int p4)]) (rest := [(.ref a1)]) (lenOf pd_8 rfl) rfl (by show 2 * 0 + _ ≤ _; exact Nat.le_of_eq rfl) (Jvm.hb hby d6_45) (fun _ _ => ⟨rfl, e12, (by decide : 1 + 0 ≤ _), (by decide : 3 + 0 ≤ _)⟩)
  dsimp only [Pt.U, Pt.locs, Pt.cells, Pt.slots] at X15 l15 y15 z15 st15 hQ15
  subst l15 y15 z15
  obtain ⟨rfl, N15q, e15⟩ := hQ15
  have N15 := Fr.app N12 N15q
  have K16 : ∀ t, Steps p.tables e below (T15.setTop (mkF m 48 #[.val (.ref a1), .val (.ref a2), .val (.int (0 : Int32)), .val (.int p4), .val .null, .val (.ref b12_x1)] [(.int (0 : Int32)), (.ref a1)])) t → Steps p.tables e below (T12.setTop (mkF m 45 #[.val (.ref a1), .val (.ref a2), .val (.int (0 : Int32)), .val (.int p4), .val .null, .val (.ref b12_x1)] [(.int p4), (.ref b12_x1), (.ref a1)])) t := fun t k => st15 _ (by rw [show (f10 p4 p4) = (0 : Int32) from own_cod _]; exact k)
  obtain ⟨T17, h17, X17, e17, W17, st17⟩ := putF X15 hx hZ hown (host := "") (Or.inl (hw _ (List.mem_of_getElem? (i := 40) rfl))) Via.refl e15 F12_3 E12_2 (Or.inr ⟨(hw _ (List.mem_of_getElem? (i := 41) rfl)), rfl, hnm⟩) (hw _ (List.mem_of_getElem? (i := 16) rfl)) (ty := .byte) (by decide) rfl rfl (g := (mkF m 48 #[.val (.ref a1), .val (.ref a2), .val (.int (0 : Int32)), .val (.int p4), .val .null, .val (.ref b12_x1)] [(.int (0 : Int32)), (.ref a1)])) rfl rfl (Jvm.hb hby d6_48)
  have KP17 : Keep h0 h17 [a1] := KP12.wr W17 (Or.inl (List.mem_of_getElem? (i := 0) rfl))
  have N17 := Fr.snoc X17 N15 g_a1
  have A17_1 : Ia Z h17 a2 .char n_a2 f_a2 := A12_1.other W17 (Ne.symm (own_nea E12_2 (hw _ (List.mem_of_getElem? (i := 16) rfl)) A12_1))
  have E17_2 : Exa Z h17 a1 "java/lang/String" := E12_2.wr W17
  have F17_3 : Fld Z h17 a1 "java/lang/String" "value" "[B" u_value_a1 := F12_4.other W17 (Or.inr (slot_ne (Or.inr (hw _ (List.mem_of_getElem? (i := 43) rfl))) (Or.inr (hw _ (List.mem_of_getElem? (i := 41) rfl))) (by decide) (t := (.array .byte)) (t' := .byte) (by decide) (by decide)))
  have A17_4 : Ia Z h17 b12_x1 .byte p4 (f9_G_a30 p4 f_a2 (fun _ => 0)) := R12_0.other W17 (Ne.symm ne12_x1_2)
  have Fw17 : Fld Z h17 a1 "java/lang/String" "coder" "B" (.int (0 : Int32)) := F12_3.same W17
  have K18 : ∀ t, Steps p.tables e below (T17.setTop (mkF m 51 #[.val (.ref a1), .val (.ref a2), .val (.int (0 : Int32)), .val (.int p4), .val .null, .val (.ref b12_x1)] [])) t → Steps p.tables e below (T15.setTop (mkF m 48 #[.val (.ref a1), .val (.ref a2), .val (.int (0 : Int32)), .val (.int p4), .val .null, .val (.ref b12_x1)] [(.int (0 : Int32)), (.ref a1)])) t := fun t k => st17 _ k
  have K19 : ∀ t, Steps p.tables e below (T17.setTop (mkF m 54 #[.val (.ref a1), .val (.ref a2), .val (.int (0 : Int32)), .val (.int p4), .val .null, .val (.ref b12_x1)] [(.ref b12_x1), (.ref a1)])) t → Steps p.tables e below (T17.setTop (mkF m 51 #[.val (.ref a1), .val (.ref a2), .val (.int (0 : Int32)), .val (.int p4), .val .null, .val (.ref b12_x1)] [])) t := by
    intro t k
    refine XS.aloadN X17.here hx rfl (Jvm.hb hby d6_51) rfl rfl ?_
    show Steps p.tables e below (T17.setTop (mkF m 52 #[.val (.ref a1), .val (.ref a2), .val (.int (0 : Int32)), .val (.int p4), .val .null, .val (.ref b12_x1)] [(.ref a1)])) t
    refine XS.aload X17.here hx rfl (Jvm.hb hby d6_52) rfl rfl ?_
    show Steps p.tables e below (T17.setTop (mkF m 54 #[.val (.ref a1), .val (.ref a2), .val (.int (0 : Int32)), .val (.int p4), .val .null, .val (.ref b12_x1)] [(.ref b12_x1), (.ref a1)])) t
    exact k
  obtain ⟨T20, h20, X20, e20, W20, st20⟩ := putF X17 hx hZ hown (host := "") (Or.inl (hw _ (List.mem_of_getElem? (i := 42) rfl))) Via.refl e17 F17_3 E17_2 (Or.inr ⟨(hw _ (List.mem_of_getElem? (i := 43) rfl)), rfl, hnm⟩) (hw _ (List.mem_of_getElem? (i := 16) rfl)) (ty := (.array .byte)) (by decide) rfl rfl (g := (mkF m 54 #[.val (.ref a1), .val (.ref a2), .val (.int (0 : Int32)), .val (.int p4), .val .null, .val (.ref b12_x1)] [(.ref b12_x1), (.ref a1)])) rfl rfl (Jvm.hb hby d6_54)
  have KP20 : Keep h0 h20 [a1] := KP17.wr W20 (Or.inl (List.mem_of_getElem? (i := 0) rfl))
  have N20 := Fr.snoc X20 N17 g_a1
  have A20_1 : Ia Z h20 a2 .char n_a2 f_a2 := A17_1.other W20 (Ne.symm (own_nea E17_2 (hw _ (List.mem_of_getElem? (i := 16) rfl)) A17_1))
  have E20_2 : Exa Z h20 a1 "java/lang/String" := E17_2.wr W20
  have A20_3 : Ia Z h20 b12_x1 .byte p4 (f9_G_a30 p4 f_a2 (fun _ => 0)) := A17_4.other W20 (Ne.symm ne12_x1_2)
  have F20_4 : Fld Z h20 a1 "java/lang/String" "coder" "B" (.int (0 : Int32)) := Fw17.other W20 (Or.inr (slot_ne (Or.inr (hw _ (List.mem_of_getElem? (i := 41) rfl))) (Or.inr (hw _ (List.mem_of_getElem? (i := 43) rfl))) (by decide) (t := .byte) (t' := (.array .byte)) (by decide) (by decide)))
  have Fw20 : Fld Z h20 a1 "java/lang/String" "value" "[B" (.ref b12_x1) := F17_3.same W20
  have K21 : ∀ t, Steps p.tables e below (T20.setTop (mkF m 57 #[.val (.ref a1), .val (.ref a2), .val (.int (0 : Int32)), .val (.int p4), .val .null, .val (.ref b12_x1)] [])) t → Steps p.tables e below (T17.setTop (mkF m 54 #[.val (.ref a1), .val (.ref a2), .val (.int (0 : Int32)), .val (.int p4), .val .null, .val (.ref b12_x1)] [(.ref b12_x1), (.ref a1)])) t := fun t k => st20 _ k
  obtain ⟨fs, hr, hrun, hended, hW, hsame⟩ := X20.leave (v := none) (fun _ => rfl) Bd.notSynchronized
  refine ⟨_, _, pre0 _ (K1 _ (K3 _ (K4 _ (K6 _ (K8 _ (K10 _ (K11 _ (K13 _ (K14 _ (K16 _ (K18 _ (K19 _ (K21 _ (X20.returnOut hx Bd.returns (Jvm.hb hby d6_57) hr)))))))))))))), hrun, hended, _, _, rfl, ?_, ⟨_, rfl⟩, hW, hsame.mono (by decide) (by decide)⟩
  show Q6 Z a1 a2 p4 w_COMPACT_STRINGS n_a2 f_a2 u_coder_a1 u_value_a1 h0 n0 _ T20.heap _
  rw [e20]
  exact ⟨b12_x1, rfl, N20, KP20, sz_b12_x1, gb_b12_x1, E20_2, A20_3, F20_4, Fw20⟩
-- body 5: java/lang/String.<init>([C)V
theorem d5_0 : decode jdk_42_method_3_code 0 = .ok (.aload_n 0, 1) := by decide +kernel
theorem d5_1 : decode jdk_42_method_3_code 1 = .ok (.aload_n 1, 1) := by decide +kernel
theorem d5_2 : decode jdk_42_method_3_code 2 = .ok (.iconst 0, 1) := by decide +kernel
theorem d5_3 : decode jdk_42_method_3_code 3 = .ok (.aload_n 1, 1) := by decide +kernel
theorem d5_4 : decode jdk_42_method_3_code 4 = .ok (.arraylength, 1) := by decide +kernel
theorem d5_5 : decode jdk_42_method_3_code 5 = .ok (.aconst_null, 1) := by decide +kernel
theorem d5_6 : decode jdk_42_method_3_code 6 = .ok (.invokespecial 27, 3) := by decide +kernel
theorem d5_9 : decode jdk_42_method_3_code 9 = .ok (.return_, 1) := by decide +kernel
theorem pn_5 : plainName "java/lang/String" = true := by first | (simp [plainName, overriddenIn]; done) | decide +kernel
theorem ef_5 (m : MethodId) (a1 : Addr) (a2 : Addr) : entryFrame m #[(.ref a1), (.ref a2)] 2 = mkF m 0 #[.val (.ref a1), .val (.ref a2)] [] := by first | (simp [entryFrame, mkF, argsToLocals, Value.category]; done) | rfl
def Q5 (Z : State) (a1 : Addr) (a2 : Addr) (n_a2 : Int32) (f_a2 : Int32 → Int32) (w_COMPACT_STRINGS : Int32) (u_coder_a1 : Value) (u_value_a1 : Value) (h0 : Heap) (n0 : Nat) (v : Option Value) (h : Heap) (L : List Loc) : Prop := ∃ x1 : Addr, v = none ∧ Fr n0 L ∧ Keep h0 h [a1] ∧ h0.size ≤ x1 ∧ n0 ≤ x1 ∧ Exa Z h a1 "java/lang/String" ∧ Ia Z h x1 .byte n_a2 (f9_G_a30 n_a2 f_a2 (fun _ => 0)) ∧ Fld Z h a1 "java/lang/String" "coder" "B" (.int (0 : Int32)) ∧ Fld Z h a1 "java/lang/String" "value" "[B" (.ref x1)
set_option maxRecDepth 65536 in
set_option maxHeartbeats 40000000 in
theorem rm5 (l : Launch) (Z : State) (a0 : Array Value) (hw : ∀ d ∈ tables_1, d.before a0 Z = true) (ws : List Jvm.Cond) (a1 : Addr) (a2 : Addr) (n_a2 : Int32) (f_a2 : Int32 → Int32) (w_COMPACT_STRINGS : Int32) (u_coder_a1 : Value) (u_value_a1 : Value) (h0 : Heap) (n0 : Nat) (Z0 : n0 ≤ h0.size) (hz : ¬ (n_a2 = 0)) (hc : n_a2.toNatClampNeg ≤ 3) (hch : ∀ j : Int32, ¬ j < 0 → j < n_a2 → ¬ (255 : Int32) < f_a2 j) (hcs : ¬ (w_COMPACT_STRINGS = 0)) (A_a2 : Ia Z h0 a2 .char n_a2 f_a2) (S_COMPACT_STRINGS : Sta Z h0 "java/lang/String" "COMPACT_STRINGS" "Z" (.int w_COMPACT_STRINGS)) (E_a1 : Exa Z h0 a1 "java/lang/String") (F_coder_a1 : Fld Z h0 a1 "java/lang/String" "coder" "B" u_coder_a1) (F_value_a1 : Fld Z h0 a1 "java/lang/String" "value" "[B" u_value_a1) (g_a1 : n0 ≤ a1) :
    MetFree l (⟨"java/lang/String", "<init>", "([C)V"⟩ : MethodName) (head1 (Jvm.Cond.code (⟨"java/lang/String", "<init>", "([C)V"⟩ : MethodName) jdk_42_method_3_code 2 none :: ws) ({ frames := 3, cells := 1, slots := 3, locals := 52 } : Room)) (fun a U => a = #[(.ref a1), (.ref a2)] ∧ Z.Warmed39 U.vm ∧ U.heap = h0) (fun _ _ _ _ _ => True) (fun _ U o U' => ∃ v L, o = .returned v ∧ Q5 Z a1 a2 n_a2 f_a2 w_COMPACT_STRINGS u_coder_a1 u_value_a1 h0 n0 v U'.heap L ∧ FrameEnd U o U' L ({ frames := 3, cells := 1, slots := 3, locals := 52 } : Room).cells ({ frames := 3, cells := 1, slots := 3, locals := 52 } : Room).slots) := by
  refine MetFree.of_bodySF (plainFor_of_name pn_5) hisR ?_
  intro p e s m args below meth c s₁ Bd hml0 hP hK
  obtain ⟨rfl, hZ, hh⟩ := hP
  have hx := Bd.exec
  have hby := Bd.bytes
  have hml : c.maxLocals = 2 := hml0
  have hown : s.vm.findClass "java/lang/String" = some m.cls := findClass_of_methodNamed Bd.named
  have hnm := (name_of_methodNamed Bd.named Bd.method).1
  have X0 : Stand p l e ({ frames := 3, cells := 1, slots := 3, locals := 52 } : Room) s m #[(.ref a1), (.ref a2)] below meth c s₁ [] 0 0 := Stand.of_body Bd
  have e0 : s₁.heap = h0 := by rw [← hh, Bd.state]; rfl
  have N0 := Fr.nil n0
  have pre0 : ∀ t, Steps p.tables e below (s₁.setTop (mkF m 0 #[.val (.ref a1), .val (.ref a2)] [])) t → Steps p.tables e below (s₁.setTop (entryFrame m #[(.ref a1), (.ref a2)] 2)) t := fun t k => castTop (ef_5 m a1 a2) k
  have K5 : ∀ t, Steps p.tables e below (s₁.setTop (mkF m 4 #[.val (.ref a1), .val (.ref a2)] [(.ref a2), (.int (0 : Int32)), (.ref a2), (.ref a1)])) t → Steps p.tables e below (s₁.setTop (mkF m 0 #[.val (.ref a1), .val (.ref a2)] [])) t := by
    intro t k
    refine XS.aloadN X0.here hx rfl (Jvm.hb hby d5_0) rfl rfl ?_
    show Steps p.tables e below (s₁.setTop (mkF m 1 #[.val (.ref a1), .val (.ref a2)] [(.ref a1)])) t
    refine XS.aloadN X0.here hx rfl (Jvm.hb hby d5_1) rfl rfl ?_
    show Steps p.tables e below (s₁.setTop (mkF m 2 #[.val (.ref a1), .val (.ref a2)] [(.ref a2), (.ref a1)])) t
    refine XS.iconst X0.here hx rfl (Jvm.hb hby d5_2) ?_
    show Steps p.tables e below (s₁.setTop (mkF m 3 #[.val (.ref a1), .val (.ref a2)] [(.int (0 : Int32)), (.ref a2), (.ref a1)])) t
    refine XS.aloadN X0.here hx rfl (Jvm.hb hby d5_3) rfl rfl ?_
    show Steps p.tables e below (s₁.setTop (mkF m 4 #[.val (.ref a1), .val (.ref a2)] [(.ref a2), (.int (0 : Int32)), (.ref a2), (.ref a1)])) t
    exact k
  obtain ⟨cl1, Aq2, sq3, nq4⟩ := Ia.len A_a2
  have K6 : ∀ t, Steps p.tables e below (s₁.setTop (mkF m 6 #[.val (.ref a1), .val (.ref a2)] [.null, (.int n_a2), (.int (0 : Int32)), (.ref a2), (.ref a1)])) t → Steps p.tables e below (s₁.setTop (mkF m 4 #[.val (.ref a1), .val (.ref a2)] [(.ref a2), (.int (0 : Int32)), (.ref a2), (.ref a1)])) t := by
    intro t k
    refine X0.arraylength hx (by rw [e0]; exact Aq2.1) (State.isArrayOf_alike hZ.alike Aq2.2.1) (g := (mkF m 4 #[.val (.ref a1), .val (.ref a2)] [(.ref a2), (.int (0 : Int32)), (.ref a2), (.ref a1)])) rfl rfl (Jvm.hb hby d5_4) _ ?_
    rw [len_of sq3 nq4]
    show Steps p.tables e below (s₁.setTop (mkF m 5 #[.val (.ref a1), .val (.ref a2)] [(.int n_a2), (.int (0 : Int32)), (.ref a2), (.ref a1)])) t
    refine XS.aconstNull X0.here hx rfl (Jvm.hb hby d5_5) ?_
    show Steps p.tables e below (s₁.setTop (mkF m 6 #[.val (.ref a1), .val (.ref a2)] [.null, (.int n_a2), (.int (0 : Int32)), (.ref a2), (.ref a1)])) t
    exact k
  obtain ⟨_, _, ⟨T7, L7, k7, n7⟩, -, X7, ⟨Lc7, hQ7, l7, y7, z7⟩, st7⟩ := X0.specialBack hx (y := (⟨"java/lang/String", "<init>", "([CIILjava/lang/Void;)V"⟩ : MethodName)) rfl hown (mvT hZ (hw _ (List.mem_of_getElem? (i := 21) rfl))) (mvT hZ (hw _ (List.mem_of_getElem? (i := 22) rfl))) (mvT hZ (hw _ (List.mem_of_getElem? (i := 24) rfl))) (by decide) (backOf (W := 0) (rm6 l Z a0 hw [] a1 a2 n_a2 w_COMPACT_STRINGS n_a2 f_a2 u_coder_a1 u_value_a1 h0 n0 Z0 hz A_a2.nn hc Int32.lt_irrefl hch hcs S_COMPACT_STRINGS A_a2 E_a1 F_coder_a1 g_a1 F_value_a1) hZ (hw _ (List.mem_of_getElem? (i := 24) rfl)) (hw _ (List.mem_of_getElem? (i := 17) rfl)) (by decide) (by decide)) (g := (mkF m 6 #[.val (.ref a1), .val (.ref a2)] [.null, (.int n_a2), (.int (0 : Int32)), (.ref a2), (.ref a1)])) rfl (by rw [hml]; rfl) (Steps.refl _) (a := a1) (argsL := [(.ref a2), (.int (0 : Int32)), (.int n_a2), .null]) (rest := []) (lenOf pd_4 rfl) rfl (by show 2 * 0 + _ ≤ _; exact Nat.le_of_eq rfl) (Jvm.hb hby d5_6) (fun _ _ => ⟨rfl, e0, (by decide : 0 + 1 ≤ _), (by decide : 0 + 3 ≤ _)⟩)
  dsimp only [Pt.U, Pt.locs, Pt.cells, Pt.slots] at X7 l7 y7 z7 st7 hQ7
  subst l7 y7 z7
  obtain ⟨h7, e7⟩ : ∃ z, T7.heap = z := ⟨_, rfl⟩
  rw [e7] at hQ7
  obtain ⟨b7_x1, rfl, N7q, Kq7, szq_b7_x1, gb_b7_x1, R7_0, R7_1, R7_2, R7_3⟩ := hQ7
  have N7 := Fr.app N0 N7q
  have KP7 : Keep h0 h7 [a1] := (Keep.refl h0 [a1]).trans Kq7 (allS (Or.inl (List.mem_of_getElem? (i := 0) rfl)) all0)
  have A7_0 : Ia Z h7 a2 .char n_a2 f_a2 := A_a2.keep Kq7 (ninS (Ne.symm (own_nea E_a1 (hw _ (List.mem_of_getElem? (i := 16) rfl)) A_a2)) nin0)
  have ne7_x1_0 : a2 ≠ b7_x1 := Nat.ne_of_lt (Nat.lt_of_lt_of_le A_a2.lt szq_b7_x1)
  have ne7_x1_2 : a1 ≠ b7_x1 := Nat.ne_of_lt (Nat.lt_of_lt_of_le E_a1.lt szq_b7_x1)
  have sz_b7_x1 : h0.size ≤ b7_x1 := Nat.le_trans (Keep.refl h0 [a1]).1 szq_b7_x1
  have K8 : ∀ t, Steps p.tables e below (T7.setTop (mkF m 9 #[.val (.ref a1), .val (.ref a2)] [])) t → Steps p.tables e below (s₁.setTop (mkF m 6 #[.val (.ref a1), .val (.ref a2)] [.null, (.int n_a2), (.int (0 : Int32)), (.ref a2), (.ref a1)])) t := fun t k => st7.trans k
  obtain ⟨fs, hr, hrun, hended, hW, hsame⟩ := X7.leave (v := none) (fun _ => rfl) Bd.notSynchronized
  refine ⟨_, _, pre0 _ (K5 _ (K6 _ (K8 _ (X7.returnOut hx Bd.returns (Jvm.hb hby d5_9) hr)))), hrun, hended, _, _, rfl, ?_, ⟨_, rfl⟩, hW, hsame.mono (by decide) (by decide)⟩
  show Q5 Z a1 a2 n_a2 f_a2 w_COMPACT_STRINGS u_coder_a1 u_value_a1 h0 n0 _ T7.heap _
  rw [e7]
  exact ⟨b7_x1, rfl, N7, KP7, sz_b7_x1, gb_b7_x1, R7_0, R7_1, R7_2, R7_3⟩
-- body 4: com/example/clapboard/clapboard/parse/TextCursorReadPinLaw.make(ICCC)Ljava/lang/String;
theorem d4_0 : decode method_4_code 0 = .ok (.iload_n 0, 1) := by decide +kernel
theorem d4_1 : decode method_4_code 1 = .ok (.ifCond .ne 14, 3) := by decide +kernel
theorem d4_4 : decode method_4_code 4 = .ok (.new 39, 3) := by decide +kernel
theorem d4_7 : decode method_4_code 7 = .ok (.dup, 1) := by decide +kernel
theorem d4_8 : decode method_4_code 8 = .ok (.iconst 0, 1) := by decide +kernel
theorem d4_9 : decode method_4_code 9 = .ok (.newarray .char, 2) := by decide +kernel
theorem d4_11 : decode method_4_code 11 = .ok (.invokespecial 41, 3) := by decide +kernel
theorem d4_14 : decode method_4_code 14 = .ok (.areturn, 1) := by decide +kernel
theorem d4_15 : decode method_4_code 15 = .ok (.iload_n 0, 1) := by decide +kernel
theorem d4_16 : decode method_4_code 16 = .ok (.iconst 1, 1) := by decide +kernel
theorem d4_17 : decode method_4_code 17 = .ok (.if_icmp .ne 23, 3) := by decide +kernel
theorem d4_20 : decode method_4_code 20 = .ok (.iconst 1, 1) := by decide +kernel
theorem d4_21 : decode method_4_code 21 = .ok (.newarray .char, 2) := by decide +kernel
theorem d4_23 : decode method_4_code 23 = .ok (.astore 4, 2) := by decide +kernel
theorem d4_25 : decode method_4_code 25 = .ok (.aload 4, 2) := by decide +kernel
theorem d4_27 : decode method_4_code 27 = .ok (.iconst 0, 1) := by decide +kernel
theorem d4_28 : decode method_4_code 28 = .ok (.iload_n 1, 1) := by decide +kernel
theorem d4_29 : decode method_4_code 29 = .ok (.castore, 1) := by decide +kernel
theorem d4_30 : decode method_4_code 30 = .ok (.new 39, 3) := by decide +kernel
theorem d4_33 : decode method_4_code 33 = .ok (.dup, 1) := by decide +kernel
theorem d4_34 : decode method_4_code 34 = .ok (.aload 4, 2) := by decide +kernel
theorem d4_36 : decode method_4_code 36 = .ok (.invokespecial 41, 3) := by decide +kernel
theorem d4_39 : decode method_4_code 39 = .ok (.areturn, 1) := by decide +kernel
theorem d4_40 : decode method_4_code 40 = .ok (.iload_n 0, 1) := by decide +kernel
theorem d4_41 : decode method_4_code 41 = .ok (.iconst 2, 1) := by decide +kernel
theorem d4_42 : decode method_4_code 42 = .ok (.if_icmp .ne 28, 3) := by decide +kernel
theorem d4_45 : decode method_4_code 45 = .ok (.iconst 2, 1) := by decide +kernel
theorem d4_46 : decode method_4_code 46 = .ok (.newarray .char, 2) := by decide +kernel
theorem d4_48 : decode method_4_code 48 = .ok (.astore 4, 2) := by decide +kernel
theorem d4_50 : decode method_4_code 50 = .ok (.aload 4, 2) := by decide +kernel
theorem d4_52 : decode method_4_code 52 = .ok (.iconst 0, 1) := by decide +kernel
theorem d4_53 : decode method_4_code 53 = .ok (.iload_n 1, 1) := by decide +kernel
theorem d4_54 : decode method_4_code 54 = .ok (.castore, 1) := by decide +kernel
theorem d4_55 : decode method_4_code 55 = .ok (.aload 4, 2) := by decide +kernel
theorem d4_57 : decode method_4_code 57 = .ok (.iconst 1, 1) := by decide +kernel
theorem d4_58 : decode method_4_code 58 = .ok (.iload_n 2, 1) := by decide +kernel
theorem d4_59 : decode method_4_code 59 = .ok (.castore, 1) := by decide +kernel
theorem d4_60 : decode method_4_code 60 = .ok (.new 39, 3) := by decide +kernel
theorem d4_63 : decode method_4_code 63 = .ok (.dup, 1) := by decide +kernel
theorem d4_64 : decode method_4_code 64 = .ok (.aload 4, 2) := by decide +kernel
theorem d4_66 : decode method_4_code 66 = .ok (.invokespecial 41, 3) := by decide +kernel
theorem d4_69 : decode method_4_code 69 = .ok (.areturn, 1) := by decide +kernel
theorem d4_70 : decode method_4_code 70 = .ok (.iconst 3, 1) := by decide +kernel
theorem d4_71 : decode method_4_code 71 = .ok (.newarray .char, 2) := by decide +kernel
theorem d4_73 : decode method_4_code 73 = .ok (.astore 4, 2) := by decide +kernel
theorem d4_75 : decode method_4_code 75 = .ok (.aload 4, 2) := by decide +kernel
theorem d4_77 : decode method_4_code 77 = .ok (.iconst 0, 1) := by decide +kernel
theorem d4_78 : decode method_4_code 78 = .ok (.iload_n 1, 1) := by decide +kernel
theorem d4_79 : decode method_4_code 79 = .ok (.castore, 1) := by decide +kernel
theorem d4_80 : decode method_4_code 80 = .ok (.aload 4, 2) := by decide +kernel
theorem d4_82 : decode method_4_code 82 = .ok (.iconst 1, 1) := by decide +kernel
theorem d4_83 : decode method_4_code 83 = .ok (.iload_n 2, 1) := by decide +kernel
theorem d4_84 : decode method_4_code 84 = .ok (.castore, 1) := by decide +kernel
theorem d4_85 : decode method_4_code 85 = .ok (.aload 4, 2) := by decide +kernel
theorem d4_87 : decode method_4_code 87 = .ok (.iconst 2, 1) := by decide +kernel
theorem d4_88 : decode method_4_code 88 = .ok (.iload_n 3, 1) := by decide +kernel
theorem d4_89 : decode method_4_code 89 = .ok (.castore, 1) := by decide +kernel
theorem d4_90 : decode method_4_code 90 = .ok (.new 39, 3) := by decide +kernel
theorem d4_93 : decode method_4_code 93 = .ok (.dup, 1) := by decide +kernel
theorem d4_94 : decode method_4_code 94 = .ok (.aload 4, 2) := by decide +kernel
theorem d4_96 : decode method_4_code 96 = .ok (.invokespecial 41, 3) := by decide +kernel
theorem d4_99 : decode method_4_code 99 = .ok (.areturn, 1) := by decide +kernel
theorem pn_4 : plainName "com/example/clapboard/clapboard/parse/TextCursorReadPinLaw" = true := by first | (simp [plainName, overriddenIn]; done) | decide +kernel
theorem pd_3 : parseMethodDescriptor "([C)V" = some ⟨[(.array .char)], none⟩ := by decide +kernel
theorem ef_4 (m : MethodId) (p1 : Int32) (p2 : Int32) (p3 : Int32) (p4 : Int32) : entryFrame m #[(.int p1), (.int p2), (.int p3), (.int p4)] 5 = mkF m 0 #[.val (.int p1), .val (.int p2), .val (.int p3), .val (.int p4), .unset] [] := by first | (simp [entryFrame, mkF, argsToLocals, Value.category]; done) | rfl
def f4_u1 (p2 : Int32) : Int32 → Int32 := (upd (fun _ => 0) (0 : Int32) (nar .char p2))
def f4_u2 (p2 : Int32) (p3 : Int32) : Int32 → Int32 := (upd (f4_u1 p2) (1 : Int32) (nar .char p3))
def f4_u3 (p2 : Int32) (p3 : Int32) (p4 : Int32) : Int32 → Int32 := (upd (f4_u2 p2 p3) (2 : Int32) (nar .char p4))
def f4_u4 (p1 : Int32) : Int32 := (if p1 = (0 : Int32) then (0 : Int32) else (if p1 = (1 : Int32) then (1 : Int32) else (if p1 = (2 : Int32) then (2 : Int32) else (3 : Int32))))
def f4_u5 (p1 : Int32) (p2 : Int32) (p3 : Int32) (p4 : Int32) : Int32 → Int32 := (if p1 = (0 : Int32) then (fun _ => 0) else (if p1 = (1 : Int32) then (f9_G_a30 (1 : Int32) (f4_u1 p2) (fun _ => 0)) else (if p1 = (2 : Int32) then (f9_G_a30 (2 : Int32) (f4_u2 p2 p3) (fun _ => 0)) else (f9_G_a30 (3 : Int32) (f4_u3 p2 p3 p4) (fun _ => 0)))))
def Q4 (Z : State) (p1 : Int32) (p2 : Int32) (p3 : Int32) (p4 : Int32) (w_COMPACT_STRINGS : Int32) (h0 : Heap) (n0 : Nat) (v : Option Value) (h : Heap) (L : List Loc) : Prop := ∃ x1 : Addr, ∃ x2 : Addr, v = some (.ref x1) ∧ Fr n0 L ∧ Keep h0 h [] ∧ h0.size ≤ x1 ∧ n0 ≤ x1 ∧ x1 ≠ x2 ∧ Exa Z h x1 "java/lang/String" ∧ Ia Z h x2 .byte (f4_u4 p1) (f4_u5 p1 p2 p3 p4) ∧ Fld Z h x1 "java/lang/String" "value" "[B" (.ref x2) ∧ Fld Z h x1 "java/lang/String" "coder" "B" (.int (0 : Int32))
set_option maxRecDepth 65536 in
set_option maxHeartbeats 40000000 in
theorem rm4 (l : Launch) (Z : State) (a0 : Array Value) (hw : ∀ d ∈ tables_1, d.before a0 Z = true) (ws : List Jvm.Cond) (p1 : Int32) (p2 : Int32) (p3 : Int32) (p4 : Int32) (w_COMPACT_STRINGS : Int32) (h0 : Heap) (n0 : Nat) (Z0 : n0 ≤ h0.size) (h2 : ¬ (255 : Int32) < nar .char p2) (h3 : ¬ (255 : Int32) < nar .char p3) (h4 : ¬ (255 : Int32) < nar .char p4) (S_COMPACT_STRINGS : Sta Z h0 "java/lang/String" "COMPACT_STRINGS" "Z" (.int w_COMPACT_STRINGS)) (hcs : ¬ (w_COMPACT_STRINGS = 0)) :
    MetFree l (⟨"com/example/clapboard/clapboard/parse/TextCursorReadPinLaw", "make", "(ICCC)Ljava/lang/String;"⟩ : MethodName) (head1 (Jvm.Cond.code (⟨"com/example/clapboard/clapboard/parse/TextCursorReadPinLaw", "make", "(ICCC)Ljava/lang/String;"⟩ : MethodName) method_4_code 5 (some (.object "java/lang/String")) :: ws) ({ frames := 4, cells := 6, slots := 12, locals := 66 } : Room)) (fun a U => a = #[(.int p1), (.int p2), (.int p3), (.int p4)] ∧ Z.Warmed39 U.vm ∧ U.heap = h0 ∧ CHv Z EL0 U.vm h0) (fun _ _ _ _ _ => True) (fun _ U o U' => ∃ v L, o = .returned v ∧ Q4 Z p1 p2 p3 p4 w_COMPACT_STRINGS h0 n0 v U'.heap L ∧ CHr Z EL0 U.vm U.heap U'.vm U'.heap ∧ ReturnedEndW U o U' L ({ frames := 4, cells := 6, slots := 12, locals := 66 } : Room).cells ({ frames := 4, cells := 6, slots := 12, locals := 66 } : Room).slots) := by
  refine MetFree.of_bodySF (plainFor_of_name pn_4) hisR ?_
  intro p e s m args below meth c s₁ Bd hml0 hP hK
  obtain ⟨rfl, hZ, hh, H0⟩ := hP
  have hx := Bd.exec
  have hby := Bd.bytes
  have hml : c.maxLocals = 5 := hml0
  have hown : s.vm.findClass "com/example/clapboard/clapboard/parse/TextCursorReadPinLaw" = some m.cls := findClass_of_methodNamed Bd.named
  have hnm := (name_of_methodNamed Bd.named Bd.method).1
  obtain ⟨vm0, hvm0⟩ : ∃ z, z = s.vm := ⟨_, rfl⟩
  have X0 : Stand p l e ({ frames := 4, cells := 6, slots := 12, locals := 66 } : Room) (s.setVm vm0) m #[(.int p1), (.int p2), (.int p3), (.int p4)] below meth c s₁ [] 0 0 := by rw [hvm0]; exact Stand.of_body Bd
  have hS : s.Since vm0 h0.size := by rw [hvm0]; exact own_since s _
  rw [← hvm0] at hZ hown
  have CR0 : CHr Z EL0 s.vm h0 vm0 h0 := by rw [hvm0]; exact CHr.refl H0
  have e0 : s₁.heap = h0 := by rw [← hh, Bd.state]; rfl
  have N0 := Fr.nil n0
  have pre0 : ∀ t, Steps p.tables e below (s₁.setTop (mkF m 0 #[.val (.int p1), .val (.int p2), .val (.int p3), .val (.int p4), .unset] [])) t → Steps p.tables e below (s₁.setTop (entryFrame m #[(.int p1), (.int p2), (.int p3), (.int p4)] 5)) t := fun t k => castTop (ef_4 m p1 p2 p3 p4) k
  have K1 : ∀ t, Steps p.tables e below (s₁.setTop (mkF m 1 #[.val (.int p1), .val (.int p2), .val (.int p3), .val (.int p4), .unset] [(.int p1)])) t → Steps p.tables e below (s₁.setTop (mkF m 0 #[.val (.int p1), .val (.int p2), .val (.int p3), .val (.int p4), .unset] [])) t := by
    intro t k
    refine XS.iloadN X0.here hx rfl (Jvm.hb hby d4_0) rfl ?_
    show Steps p.tables e below (s₁.setTop (mkF m 1 #[.val (.int p1), .val (.int p2), .val (.int p3), .val (.int p4), .unset] [(.int p1)])) t
    exact k
  by_cases hc2 : p1 = (0 : Int32)
  · have K3 : ∀ t, Steps p.tables e below (s₁.setTop (mkF m 4 #[.val (.int p1), .val (.int p2), .val (.int p3), .val (.int p4), .unset] [])) t → Steps p.tables e below (s₁.setTop (mkF m 1 #[.val (.int p1), .val (.int p2), .val (.int p3), .val (.int p4), .unset] [(.int p1)])) t := by
      intro t k
      refine XS.ifNo X0.here hx rfl (Jvm.hb hby d4_1) rfl ((if0 _ _).trans (teq hc2).2) ?_
      exact k
    obtain ⟨T4, h4, X4, e4, E4, A4, D4, -, st4⟩ := newO X0 hx hZ hown (hw _ (List.mem_of_getElem? (i := 15) rfl)) (hw _ (List.mem_of_getElem? (i := 16) rfl)) (hw _ (List.mem_of_getElem? (i := 17) rfl)) e0 (g := (mkF m 4 #[.val (.int p1), .val (.int p2), .val (.int p3), .val (.int p4), .unset] [])) rfl (Jvm.hb hby d4_4) (by decide) (by decide)
    obtain ⟨b4, g4⟩ : ∃ z, z = h0.size := ⟨_, rfl⟩
    rw [← g4] at A4 D4 st4
    have KP4 : Keep h0 h4 [] := (Keep.refl h0 []).ext E4
    have CR4 : CHr Z EL0 s.vm h0 vm0 h4 := CR0.trans (CHr.ext E4 CR0.1)
    have SK4 := Nat.le_trans (Nat.le_refl h0.size) E4.1
    have gb_b4 : n0 ≤ b4 := Nat.le_trans Z0 (Nat.le_of_eq g4.symm)
    have sz_b4 : h0.size ≤ b4 := Nat.le_trans (Keep.refl h0 []).1 (Nat.le_of_eq g4.symm)
    have F4_coder : Fld Z h4 b4 "java/lang/String" "coder" "B" (.int (0 : Int32)) := D4 (Or.inr (hw _ (List.mem_of_getElem? (i := 41) rfl))) (ty := .byte) (by decide)
    have F4_value : Fld Z h4 b4 "java/lang/String" "value" "[B" .null := D4 (Or.inr (hw _ (List.mem_of_getElem? (i := 43) rfl))) (ty := (.array .byte)) (by decide)
    have K5 : ∀ t, Steps p.tables e below (T4.setTop (mkF m 7 #[.val (.int p1), .val (.int p2), .val (.int p3), .val (.int p4), .unset] [(.ref b4)])) t → Steps p.tables e below (s₁.setTop (mkF m 4 #[.val (.int p1), .val (.int p2), .val (.int p3), .val (.int p4), .unset] [])) t := fun t k => st4 _ k
    have K6 : ∀ t, Steps p.tables e below (T4.setTop (mkF m 9 #[.val (.int p1), .val (.int p2), .val (.int p3), .val (.int p4), .unset] [(.int (0 : Int32)), (.ref b4), (.ref b4)])) t → Steps p.tables e below (T4.setTop (mkF m 7 #[.val (.int p1), .val (.int p2), .val (.int p3), .val (.int p4), .unset] [(.ref b4)])) t := by
      intro t k
      refine XS.dup X4.here hx rfl (Jvm.hb hby d4_7) rfl rfl ?_
      show Steps p.tables e below (T4.setTop (mkF m 8 #[.val (.int p1), .val (.int p2), .val (.int p3), .val (.int p4), .unset] [(.ref b4), (.ref b4)])) t
      refine XS.iconst X4.here hx rfl (Jvm.hb hby d4_8) ?_
      show Steps p.tables e below (T4.setTop (mkF m 9 #[.val (.int p1), .val (.int p2), .val (.int p3), .val (.int p4), .unset] [(.int (0 : Int32)), (.ref b4), (.ref b4)])) t
      exact k
    obtain ⟨T7, h7, k7, X7, e7, E7, A7, st7⟩ := newP X4 hx hZ (hw _ (List.mem_of_getElem? (i := 0) rfl)) e4 (g := (mkF m 9 #[.val (.int p1), .val (.int p2), .val (.int p3), .val (.int p4), .unset] [(.int (0 : Int32)), (.ref b4), (.ref b4)])) rfl (Jvm.hb hby d4_9) rfl (by decide) (cap := 0) (by decide) (by decide) (by decide) (by decide)
    obtain ⟨b7, g7⟩ : ∃ z, z = h4.size := ⟨_, rfl⟩
    rw [← g7] at A7 st7
    have KP7 : Keep h0 h7 [] := KP4.ext E7
    have E7_1 : Exa Z h7 b4 "java/lang/String" := A4.ext E7
    have F7_2 : Fld Z h7 b4 "java/lang/String" "coder" "B" (.int (0 : Int32)) := F4_coder.ext E7
    have F7_3 : Fld Z h7 b4 "java/lang/String" "value" "[B" .null := F4_value.ext E7
    have CR7 : CHr Z EL0 s.vm h0 vm0 h7 := CR4.trans (CHr.ext E7 CR4.1)
    have SK7 := Nat.le_trans SK4 E7.1
    have ne7_0 : b4 ≠ b7 := Nat.ne_of_lt (Nat.lt_of_lt_of_le A4.lt (Nat.le_of_eq g7.symm))
    have gb_b7 : n0 ≤ b7 := Nat.le_trans (Nat.le_trans Z0 KP4.1) (Nat.le_of_eq g7.symm)
    have sz_b7 : h0.size ≤ b7 := Nat.le_trans KP4.1 (Nat.le_of_eq g7.symm)
    have V7 : Ia Z h7 b7 .char (0 : Int32) (fun _ => 0) := Ia.new A7 (by decide) rfl
    have K8 : ∀ t, Steps p.tables e below (T7.setTop (mkF m 11 #[.val (.int p1), .val (.int p2), .val (.int p3), .val (.int p4), .unset] [(.ref b7), (.ref b4), (.ref b4)])) t → Steps p.tables e below (T4.setTop (mkF m 9 #[.val (.int p1), .val (.int p2), .val (.int p3), .val (.int p4), .unset] [(.int (0 : Int32)), (.ref b4), (.ref b4)])) t := fun t k => st7 _ k
    obtain ⟨_, _, ⟨T9, L9, k9, n9⟩, -, Xq9, hSq9, hgq9, ⟨Lc9, hQ9, l9, y9, z9, CHq9⟩, st9⟩ := X7.specialBackS hx (y := (⟨"java/lang/String", "<init>", "([C)V"⟩ : MethodName)) rfl hown (mvT hZ (hw _ (List.mem_of_getElem? (i := 18) rfl))) (mvT hZ (hw _ (List.mem_of_getElem? (i := 19) rfl))) (mvT hZ (hw _ (List.mem_of_getElem? (i := 20) rfl))) (by decide) (backOfSH (W := 1) (EL := EL0) (rm105 l Z a0 hw [] b4 b7 (fun _ => 0) (.int (0 : Int32)) h7 n0 (Nat.le_trans Z0 KP7.1) V7 E7_1 F7_3 F7_2 gb_b4) hZ (hw _ (List.mem_of_getElem? (i := 20) rfl)) (hw _ (List.mem_of_getElem? (i := 17) rfl)) (by decide) (by decide) (ew0 hw) CR7.1) (g := (mkF m 11 #[.val (.int p1), .val (.int p2), .val (.int p3), .val (.int p4), .unset] [(.ref b7), (.ref b4), (.ref b4)])) rfl (by rw [hml]; rfl) (Steps.refl _) (a := b4) (argsL := [(.ref b7)]) (rest := [(.ref b4)]) (lenOf pd_3 rfl) rfl (by show 2 * 0 + _ ≤ _; exact Nat.le_of_eq rfl) (Jvm.hb hby d4_11) (fun _ _ => ⟨rfl, e7, (by decide : 2 + 4 ≤ _), (by decide : 4 + 8 ≤ _)⟩)
    dsimp only [Pt.U, Pt.locs, Pt.cells, Pt.slots] at Xq9 hSq9 hgq9 CHq9 l9 y9 z9 st9 hQ9
    subst l9 y9 z9
    obtain ⟨X9, hS, hZ, hown⟩ := rebS hS (show _ ≤ T7.heap.size from (by rw [e7]; exact SK7)) Xq9 hSq9 hgq9 hZ hown
    obtain ⟨h9, e9⟩ : ∃ z, T9.heap = z := ⟨_, rfl⟩
    rw [e9] at hQ9
    rw [e9] at CHq9
    obtain ⟨b9_x1, rfl, N9q, Kq9, R9_0, R9_1, R9_2, R9_3⟩ := hQ9
    have N9 := Fr.app N0 N9q
    have KP9 : Keep h0 h9 [] := KP7.trans Kq9 (allS (Or.inr sz_b4) all0)
    have A9_1 : Ia Z h9 b7 .char (0 : Int32) (fun _ => 0) := V7.keep Kq9 (ninS (Ne.symm ne7_0) nin0)
    have CR9 : CHr Z EL0 s.vm h0 T9.vm h9 := CR7.trans (CHq9)
    rw [e9] at hS
    have K10 : ∀ t, Steps p.tables e below (T9.setTop (mkF m 14 #[.val (.int p1), .val (.int p2), .val (.int p3), .val (.int p4), .unset] [(.ref b4)])) t → Steps p.tables e below (T7.setTop (mkF m 11 #[.val (.int p1), .val (.int p2), .val (.int p3), .val (.int p4), .unset] [(.ref b7), (.ref b4), (.ref b4)])) t := fun t k => st9.trans k
    obtain ⟨fs, hr, hrun, hended, hRW⟩ := X9.leaveW hS (show _ ≤ T9.heap.size from (by rw [e9]; exact (Nat.le_refl _))) (v := some (.ref b4)) (fun h => by rw [Bd.returns] at h; cases h) Bd.notSynchronized
    refine ⟨_, _, pre0 _ (K1 _ (K3 _ (K5 _ (K6 _ (K8 _ (K10 _ (retOut X9 hx Bd.returns rfl (Or.inr (Or.inr (Or.inr (Or.inr ⟨rfl, rfl, rfl⟩)))) (Jvm.hb hby d4_14) hr))))))), hrun, hended, _, _, rfl, ?_, (show CHr Z EL0 s.vm s.heap T9.vm T9.heap from by rw [hh, e9]; exact CR9.trans (CHv.at X9 hZ (ew0 hw) CR9.1)), hRW.1, hRW.2.1, hRW.2.2.1, hRW.2.2.2.mono (by decide) (by decide)⟩
    show Q4 Z p1 p2 p3 p4 w_COMPACT_STRINGS h0 n0 _ T9.heap _
    rw [e9]
    exact ⟨b4, b9_x1, rfl, N9, KP9, sz_b4, gb_b4, (own_nea R9_0 (hw _ (List.mem_of_getElem? (i := 16) rfl)) R9_1), R9_0, (by rw [show (f4_u4 p1) = (0 : Int32) from if_pos hc2, show (f4_u5 p1 p2 p3 p4) = (fun _ => 0) from if_pos hc2]; exact R9_1), R9_2, R9_3⟩
  · have K11 : ∀ t, Steps p.tables e below (s₁.setTop (mkF m 15 #[.val (.int p1), .val (.int p2), .val (.int p3), .val (.int p4), .unset] [])) t → Steps p.tables e below (s₁.setTop (mkF m 1 #[.val (.int p1), .val (.int p2), .val (.int p3), .val (.int p4), .unset] [(.int p1)])) t := by
      intro t k
      refine XS.ifYes X0.here hx rfl (pc0 := 1) (pc' := 15) rfl (Jvm.hb hby d4_1) rfl ((if0 _ _).trans (feq hc2).2) (by decide) (by decide) ?_
      exact k
    have K12 : ∀ t, Steps p.tables e below (s₁.setTop (mkF m 17 #[.val (.int p1), .val (.int p2), .val (.int p3), .val (.int p4), .unset] [(.int (1 : Int32)), (.int p1)])) t → Steps p.tables e below (s₁.setTop (mkF m 15 #[.val (.int p1), .val (.int p2), .val (.int p3), .val (.int p4), .unset] [])) t := by
      intro t k
      refine XS.iloadN X0.here hx rfl (Jvm.hb hby d4_15) rfl ?_
      show Steps p.tables e below (s₁.setTop (mkF m 16 #[.val (.int p1), .val (.int p2), .val (.int p3), .val (.int p4), .unset] [(.int p1)])) t
      refine XS.iconst X0.here hx rfl (Jvm.hb hby d4_16) ?_
      show Steps p.tables e below (s₁.setTop (mkF m 17 #[.val (.int p1), .val (.int p2), .val (.int p3), .val (.int p4), .unset] [(.int (1 : Int32)), (.int p1)])) t
      exact k
    by_cases hc13 : p1 = (1 : Int32)
    · have K14 : ∀ t, Steps p.tables e below (s₁.setTop (mkF m 20 #[.val (.int p1), .val (.int p2), .val (.int p3), .val (.int p4), .unset] [])) t → Steps p.tables e below (s₁.setTop (mkF m 17 #[.val (.int p1), .val (.int p2), .val (.int p3), .val (.int p4), .unset] [(.int (1 : Int32)), (.int p1)])) t := by
        intro t k
        refine XS.icmpNo X0.here hx rfl (Jvm.hb hby d4_17) rfl (teq hc13).2 ?_
        exact k
      have K15 : ∀ t, Steps p.tables e below (s₁.setTop (mkF m 21 #[.val (.int p1), .val (.int p2), .val (.int p3), .val (.int p4), .unset] [(.int (1 : Int32))])) t → Steps p.tables e below (s₁.setTop (mkF m 20 #[.val (.int p1), .val (.int p2), .val (.int p3), .val (.int p4), .unset] [])) t := by
        intro t k
        refine XS.iconst X0.here hx rfl (Jvm.hb hby d4_20) ?_
        show Steps p.tables e below (s₁.setTop (mkF m 21 #[.val (.int p1), .val (.int p2), .val (.int p3), .val (.int p4), .unset] [(.int (1 : Int32))])) t
        exact k
      obtain ⟨T16, h16, k16, X16, e16, E16, A16, st16⟩ := newP X0 hx hZ (hw _ (List.mem_of_getElem? (i := 0) rfl)) e0 (g := (mkF m 21 #[.val (.int p1), .val (.int p2), .val (.int p3), .val (.int p4), .unset] [(.int (1 : Int32))])) rfl (Jvm.hb hby d4_21) rfl (by decide) (cap := 1) (by decide) (by decide) (by decide) (by decide)
      obtain ⟨b16, g16⟩ : ∃ z, z = h0.size := ⟨_, rfl⟩
      rw [← g16] at A16 st16
      have KP16 : Keep h0 h16 [] := (Keep.refl h0 []).ext E16
      have CR16 : CHr Z EL0 s.vm h0 vm0 h16 := CR0.trans (CHr.ext E16 CR0.1)
      have SK16 := Nat.le_trans (Nat.le_refl h0.size) E16.1
      have gb_b16 : n0 ≤ b16 := Nat.le_trans Z0 (Nat.le_of_eq g16.symm)
      have sz_b16 : h0.size ≤ b16 := Nat.le_trans (Keep.refl h0 []).1 (Nat.le_of_eq g16.symm)
      have V16 : Ia Z h16 b16 .char (1 : Int32) (fun _ => 0) := Ia.new A16 (by decide) rfl
      have K17 : ∀ t, Steps p.tables e below (T16.setTop (mkF m 23 #[.val (.int p1), .val (.int p2), .val (.int p3), .val (.int p4), .unset] [(.ref b16)])) t → Steps p.tables e below (s₁.setTop (mkF m 21 #[.val (.int p1), .val (.int p2), .val (.int p3), .val (.int p4), .unset] [(.int (1 : Int32))])) t := fun t k => st16 _ k
      have K18 : ∀ t, Steps p.tables e below (T16.setTop (mkF m 29 #[.val (.int p1), .val (.int p2), .val (.int p3), .val (.int p4), .val (.ref b16)] [(.int p2), (.int (0 : Int32)), (.ref b16)])) t → Steps p.tables e below (T16.setTop (mkF m 23 #[.val (.int p1), .val (.int p2), .val (.int p3), .val (.int p4), .unset] [(.ref b16)])) t := by
        intro t k
        refine XS.astore X16.here hx rfl (Jvm.hb hby d4_23) rfl rfl (l' := #[.val (.int p1), .val (.int p2), .val (.int p3), .val (.int p4), .val (.ref b16)]) rfl ?_
        show Steps p.tables e below (T16.setTop (mkF m 25 #[.val (.int p1), .val (.int p2), .val (.int p3), .val (.int p4), .val (.ref b16)] [])) t
        refine XS.aload X16.here hx rfl (Jvm.hb hby d4_25) rfl rfl ?_
        show Steps p.tables e below (T16.setTop (mkF m 27 #[.val (.int p1), .val (.int p2), .val (.int p3), .val (.int p4), .val (.ref b16)] [(.ref b16)])) t
        refine XS.iconst X16.here hx rfl (Jvm.hb hby d4_27) ?_
        show Steps p.tables e below (T16.setTop (mkF m 28 #[.val (.int p1), .val (.int p2), .val (.int p3), .val (.int p4), .val (.ref b16)] [(.int (0 : Int32)), (.ref b16)])) t
        refine XS.iloadN X16.here hx rfl (Jvm.hb hby d4_28) rfl ?_
        show Steps p.tables e below (T16.setTop (mkF m 29 #[.val (.int p1), .val (.int p2), .val (.int p3), .val (.int p4), .val (.ref b16)] [(.int p2), (.int (0 : Int32)), (.ref b16)])) t
        exact k
      have hin19 : ¬ (0 : Int32) < 0 ∧ (0 : Int32) < (1 : Int32) := by exact ⟨by decide, by decide⟩
      obtain ⟨cl19, Aq19, hj19, aq19⟩ := Ia.at V16 hin19
      obtain ⟨T19, h19, X19, e19, W19, st19⟩ := stC X16 hx hZ e16 Aq19 (j := (0 : Int32)) hj19 (g := (mkF m 29 #[.val (.int p1), .val (.int p2), .val (.int p3), .val (.int p4), .val (.ref b16)] [(.int p2), (.int (0 : Int32)), (.ref b16)])) rfl rfl (Jvm.hb hby d4_29)
      have KP19 : Keep h0 h19 [] := KP16.wr W19 (Or.inr sz_b16)
      have N19 := Fr.snoc X19 N0 gb_b16
      have CR19 : CHr Z EL0 s.vm h0 vm0 h19 := CR16.trans (CHr.wr W19 (own_safeA hZ.alike V16 (by decide)) CR16.1)
      have SK19 := Nat.le_trans SK16 (own_wrsz W19)
      have Aw19 : Ia Z h19 b16 .char (1 : Int32) (f4_u1 p2) := V16.set W19 hin19.1
      have K20 : ∀ t, Steps p.tables e below (T19.setTop (mkF m 30 #[.val (.int p1), .val (.int p2), .val (.int p3), .val (.int p4), .val (.ref b16)] [])) t → Steps p.tables e below (T16.setTop (mkF m 29 #[.val (.int p1), .val (.int p2), .val (.int p3), .val (.int p4), .val (.ref b16)] [(.int p2), (.int (0 : Int32)), (.ref b16)])) t := fun t k => st19 _ k
      obtain ⟨T21, h21, X21, e21, E21, A21, D21, -, st21⟩ := newO X19 hx hZ hown (hw _ (List.mem_of_getElem? (i := 15) rfl)) (hw _ (List.mem_of_getElem? (i := 16) rfl)) (hw _ (List.mem_of_getElem? (i := 17) rfl)) e19 (g := (mkF m 30 #[.val (.int p1), .val (.int p2), .val (.int p3), .val (.int p4), .val (.ref b16)] [])) rfl (Jvm.hb hby d4_30) (by decide) (by decide)
      obtain ⟨b21, g21⟩ : ∃ z, z = h19.size := ⟨_, rfl⟩
      rw [← g21] at A21 D21 st21
      have KP21 : Keep h0 h21 [] := KP19.ext E21
      have A21_1 : Ia Z h21 b16 .char (1 : Int32) (f4_u1 p2) := Aw19.ext E21
      have CR21 : CHr Z EL0 s.vm h0 vm0 h21 := CR19.trans (CHr.ext E21 CR19.1)
      have SK21 := Nat.le_trans SK19 E21.1
      have ne21_0 : b16 ≠ b21 := Nat.ne_of_lt (Nat.lt_of_lt_of_le Aw19.lt (Nat.le_of_eq g21.symm))
      have gb_b21 : n0 ≤ b21 := Nat.le_trans (Nat.le_trans Z0 KP19.1) (Nat.le_of_eq g21.symm)
      have sz_b21 : h0.size ≤ b21 := Nat.le_trans KP19.1 (Nat.le_of_eq g21.symm)
      have F21_coder : Fld Z h21 b21 "java/lang/String" "coder" "B" (.int (0 : Int32)) := D21 (Or.inr (hw _ (List.mem_of_getElem? (i := 41) rfl))) (ty := .byte) (by decide)
      have F21_value : Fld Z h21 b21 "java/lang/String" "value" "[B" .null := D21 (Or.inr (hw _ (List.mem_of_getElem? (i := 43) rfl))) (ty := (.array .byte)) (by decide)
      have K22 : ∀ t, Steps p.tables e below (T21.setTop (mkF m 33 #[.val (.int p1), .val (.int p2), .val (.int p3), .val (.int p4), .val (.ref b16)] [(.ref b21)])) t → Steps p.tables e below (T19.setTop (mkF m 30 #[.val (.int p1), .val (.int p2), .val (.int p3), .val (.int p4), .val (.ref b16)] [])) t := fun t k => st21 _ k
      have K23 : ∀ t, Steps p.tables e below (T21.setTop (mkF m 36 #[.val (.int p1), .val (.int p2), .val (.int p3), .val (.int p4), .val (.ref b16)] [(.ref b16), (.ref b21), (.ref b21)])) t → Steps p.tables e below (T21.setTop (mkF m 33 #[.val (.int p1), .val (.int p2), .val (.int p3), .val (.int p4), .val (.ref b16)] [(.ref b21)])) t := by
        intro t k
        refine XS.dup X21.here hx rfl (Jvm.hb hby d4_33) rfl rfl ?_
        show Steps p.tables e below (T21.setTop (mkF m 34 #[.val (.int p1), .val (.int p2), .val (.int p3), .val (.int p4), .val (.ref b16)] [(.ref b21), (.ref b21)])) t
        refine XS.aload X21.here hx rfl (Jvm.hb hby d4_34) rfl rfl ?_
        show Steps p.tables e below (T21.setTop (mkF m 36 #[.val (.int p1), .val (.int p2), .val (.int p3), .val (.int p4), .val (.ref b16)] [(.ref b16), (.ref b21), (.ref b21)])) t
        exact k
      obtain ⟨_, _, ⟨T24, L24, k24, n24⟩, -, X24, ⟨Lc24, hQ24, l24, y24, z24⟩, st24⟩ := X21.specialBack hx (y := (⟨"java/lang/String", "<init>", "([C)V"⟩ : MethodName)) rfl hown (mvT hZ (hw _ (List.mem_of_getElem? (i := 18) rfl))) (mvT hZ (hw _ (List.mem_of_getElem? (i := 19) rfl))) (mvT hZ (hw _ (List.mem_of_getElem? (i := 20) rfl))) (by decide) (backOf (W := 1) (rm5 l Z a0 hw [] b21 b16 (1 : Int32) (f4_u1 p2) w_COMPACT_STRINGS (.int (0 : Int32)) .null h21 n0 (Nat.le_trans Z0 KP21.1) (by decide) (by decide) (fun j _ _ => (own_chs _ _ _ (fun _ => by decide) h2) j) hcs A21_1 (S_COMPACT_STRINGS.ext (own_ext KP21)) A21 F21_coder F21_value gb_b21) hZ (hw _ (List.mem_of_getElem? (i := 20) rfl)) (hw _ (List.mem_of_getElem? (i := 17) rfl)) (by decide) (by decide)) (g := (mkF m 36 #[.val (.int p1), .val (.int p2), .val (.int p3), .val (.int p4), .val (.ref b16)] [(.ref b16), (.ref b21), (.ref b21)])) rfl (by rw [hml]; rfl) (Steps.refl _) (a := b21) (argsL := [(.ref b16)]) (rest := [(.ref b21)]) (lenOf pd_3 rfl) rfl (by show 2 * 0 + _ ≤ _; exact Nat.le_of_eq rfl) (Jvm.hb hby d4_36) (fun _ _ => ⟨rfl, e21, (by decide : 2 + 1 ≤ _), (by decide : 5 + 3 ≤ _)⟩)
      dsimp only [Pt.U, Pt.locs, Pt.cells, Pt.slots] at X24 l24 y24 z24 st24 hQ24
      subst l24 y24 z24
      obtain ⟨h24, e24⟩ : ∃ z, T24.heap = z := ⟨_, rfl⟩
      rw [e24] at hQ24
      obtain ⟨b24_x1, rfl, N24q, Kq24, szq_b24_x1, gb_b24_x1, R24_0, R24_1, R24_2, R24_3⟩ := hQ24
      have N24 := Fr.app N19 N24q
      have KP24 : Keep h0 h24 [] := KP21.trans Kq24 (allS (Or.inr sz_b21) all0)
      have A24_1 : Ia Z h24 b16 .char (1 : Int32) (f4_u1 p2) := A21_1.keep Kq24 (ninS ne21_0 nin0)
      have CR24 : CHr Z EL0 s.vm h0 vm0 h24 := CR21.trans (CHr.keep Kq24 (allS (own_safe hZ.alike A21 F21_value) all0) CR21.1)
      have SK24 := Nat.le_trans SK21 Kq24.1
      have ne24_x1_2 : b16 ≠ b24_x1 := Nat.ne_of_lt (Nat.lt_of_lt_of_le A21_1.lt szq_b24_x1)
      have ne24_x1_4 : b21 ≠ b24_x1 := Nat.ne_of_lt (Nat.lt_of_lt_of_le A21.lt szq_b24_x1)
      have sz_b24_x1 : h0.size ≤ b24_x1 := Nat.le_trans KP21.1 szq_b24_x1
      have K25 : ∀ t, Steps p.tables e below (T24.setTop (mkF m 39 #[.val (.int p1), .val (.int p2), .val (.int p3), .val (.int p4), .val (.ref b16)] [(.ref b21)])) t → Steps p.tables e below (T21.setTop (mkF m 36 #[.val (.int p1), .val (.int p2), .val (.int p3), .val (.int p4), .val (.ref b16)] [(.ref b16), (.ref b21), (.ref b21)])) t := fun t k => st24.trans k
      obtain ⟨fs, hr, hrun, hended, hRW⟩ := X24.leaveW hS (show _ ≤ T24.heap.size from (by rw [e24]; exact SK24)) (v := some (.ref b21)) (fun h => by rw [Bd.returns] at h; cases h) Bd.notSynchronized
      refine ⟨_, _, pre0 _ (K1 _ (K11 _ (K12 _ (K14 _ (K15 _ (K17 _ (K18 _ (K20 _ (K22 _ (K23 _ (K25 _ (retOut X24 hx Bd.returns rfl (Or.inr (Or.inr (Or.inr (Or.inr ⟨rfl, rfl, rfl⟩)))) (Jvm.hb hby d4_39) hr)))))))))))), hrun, hended, _, _, rfl, ?_, (show CHr Z EL0 s.vm s.heap T24.vm T24.heap from by rw [hh, e24]; exact CR24.trans (CHv.at X24 hZ (ew0 hw) CR24.1)), hRW.1, hRW.2.1, hRW.2.2.1, hRW.2.2.2.mono (by decide) (by decide)⟩
      show Q4 Z p1 p2 p3 p4 w_COMPACT_STRINGS h0 n0 _ T24.heap _
      rw [e24]
      exact ⟨b21, b24_x1, rfl, N24, KP24, sz_b21, gb_b21, ne24_x1_4, R24_0, (by rw [show (f4_u4 p1) = (1 : Int32) from (if_neg hc2).trans (if_pos hc13), show (f4_u5 p1 p2 p3 p4) = (f9_G_a30 (1 : Int32) (f4_u1 p2) (fun _ => 0)) from (if_neg hc2).trans (if_pos hc13)]; exact R24_1), R24_3, R24_2⟩
    · have K26 : ∀ t, Steps p.tables e below (s₁.setTop (mkF m 40 #[.val (.int p1), .val (.int p2), .val (.int p3), .val (.int p4), .unset] [])) t → Steps p.tables e below (s₁.setTop (mkF m 17 #[.val (.int p1), .val (.int p2), .val (.int p3), .val (.int p4), .unset] [(.int (1 : Int32)), (.int p1)])) t := by
        intro t k
        refine XS.icmpYes X0.here hx rfl (pc0 := 17) (pc' := 40) rfl (Jvm.hb hby d4_17) rfl (feq hc13).2 (by decide) (by decide) ?_
        exact k
      have K27 : ∀ t, Steps p.tables e below (s₁.setTop (mkF m 42 #[.val (.int p1), .val (.int p2), .val (.int p3), .val (.int p4), .unset] [(.int (2 : Int32)), (.int p1)])) t → Steps p.tables e below (s₁.setTop (mkF m 40 #[.val (.int p1), .val (.int p2), .val (.int p3), .val (.int p4), .unset] [])) t := by
        intro t k
        refine XS.iloadN X0.here hx rfl (Jvm.hb hby d4_40) rfl ?_
        show Steps p.tables e below (s₁.setTop (mkF m 41 #[.val (.int p1), .val (.int p2), .val (.int p3), .val (.int p4), .unset] [(.int p1)])) t
        refine XS.iconst X0.here hx rfl (Jvm.hb hby d4_41) ?_
        show Steps p.tables e below (s₁.setTop (mkF m 42 #[.val (.int p1), .val (.int p2), .val (.int p3), .val (.int p4), .unset] [(.int (2 : Int32)), (.int p1)])) t
        exact k
      by_cases hc28 : p1 = (2 : Int32)
      · have K29 : ∀ t, Steps p.tables e below (s₁.setTop (mkF m 45 #[.val (.int p1), .val (.int p2), .val (.int p3), .val (.int p4), .unset] [])) t → Steps p.tables e below (s₁.setTop (mkF m 42 #[.val (.int p1), .val (.int p2), .val (.int p3), .val (.int p4), .unset] [(.int (2 : Int32)), (.int p1)])) t := by
          intro t k
          refine XS.icmpNo X0.here hx rfl (Jvm.hb hby d4_42) rfl (teq hc28).2 ?_
          exact k
        have K30 : ∀ t, Steps p.tables e below (s₁.setTop (mkF m 46 #[.val (.int p1), .val (.int p2), .val (.int p3), .val (.int p4), .unset] [(.int (2 : Int32))])) t → Steps p.tables e below (s₁.setTop (mkF m 45 #[.val (.int p1), .val (.int p2), .val (.int p3), .val (.int p4), .unset] [])) t := by
          intro t k
          refine XS.iconst X0.here hx rfl (Jvm.hb hby d4_45) ?_
          show Steps p.tables e below (s₁.setTop (mkF m 46 #[.val (.int p1), .val (.int p2), .val (.int p3), .val (.int p4), .unset] [(.int (2 : Int32))])) t
          exact k
        obtain ⟨T31, h31, k31, X31, e31, E31, A31, st31⟩ := newP X0 hx hZ (hw _ (List.mem_of_getElem? (i := 0) rfl)) e0 (g := (mkF m 46 #[.val (.int p1), .val (.int p2), .val (.int p3), .val (.int p4), .unset] [(.int (2 : Int32))])) rfl (Jvm.hb hby d4_46) rfl (by decide) (cap := 2) (by decide) (by decide) (by decide) (by decide)
        obtain ⟨b31, g31⟩ : ∃ z, z = h0.size := ⟨_, rfl⟩
        rw [← g31] at A31 st31
        have KP31 : Keep h0 h31 [] := (Keep.refl h0 []).ext E31
        have CR31 : CHr Z EL0 s.vm h0 vm0 h31 := CR0.trans (CHr.ext E31 CR0.1)
        have SK31 := Nat.le_trans (Nat.le_refl h0.size) E31.1
        have gb_b31 : n0 ≤ b31 := Nat.le_trans Z0 (Nat.le_of_eq g31.symm)
        have sz_b31 : h0.size ≤ b31 := Nat.le_trans (Keep.refl h0 []).1 (Nat.le_of_eq g31.symm)
        have V31 : Ia Z h31 b31 .char (2 : Int32) (fun _ => 0) := Ia.new A31 (by decide) rfl
        have K32 : ∀ t, Steps p.tables e below (T31.setTop (mkF m 48 #[.val (.int p1), .val (.int p2), .val (.int p3), .val (.int p4), .unset] [(.ref b31)])) t → Steps p.tables e below (s₁.setTop (mkF m 46 #[.val (.int p1), .val (.int p2), .val (.int p3), .val (.int p4), .unset] [(.int (2 : Int32))])) t := fun t k => st31 _ k
        have K33 : ∀ t, Steps p.tables e below (T31.setTop (mkF m 54 #[.val (.int p1), .val (.int p2), .val (.int p3), .val (.int p4), .val (.ref b31)] [(.int p2), (.int (0 : Int32)), (.ref b31)])) t → Steps p.tables e below (T31.setTop (mkF m 48 #[.val (.int p1), .val (.int p2), .val (.int p3), .val (.int p4), .unset] [(.ref b31)])) t := by
          intro t k
          refine XS.astore X31.here hx rfl (Jvm.hb hby d4_48) rfl rfl (l' := #[.val (.int p1), .val (.int p2), .val (.int p3), .val (.int p4), .val (.ref b31)]) rfl ?_
          show Steps p.tables e below (T31.setTop (mkF m 50 #[.val (.int p1), .val (.int p2), .val (.int p3), .val (.int p4), .val (.ref b31)] [])) t
          refine XS.aload X31.here hx rfl (Jvm.hb hby d4_50) rfl rfl ?_
          show Steps p.tables e below (T31.setTop (mkF m 52 #[.val (.int p1), .val (.int p2), .val (.int p3), .val (.int p4), .val (.ref b31)] [(.ref b31)])) t
          refine XS.iconst X31.here hx rfl (Jvm.hb hby d4_52) ?_
          show Steps p.tables e below (T31.setTop (mkF m 53 #[.val (.int p1), .val (.int p2), .val (.int p3), .val (.int p4), .val (.ref b31)] [(.int (0 : Int32)), (.ref b31)])) t
          refine XS.iloadN X31.here hx rfl (Jvm.hb hby d4_53) rfl ?_
          show Steps p.tables e below (T31.setTop (mkF m 54 #[.val (.int p1), .val (.int p2), .val (.int p3), .val (.int p4), .val (.ref b31)] [(.int p2), (.int (0 : Int32)), (.ref b31)])) t
          exact k
        have hin34 : ¬ (0 : Int32) < 0 ∧ (0 : Int32) < (2 : Int32) := by exact ⟨by decide, by decide⟩
        obtain ⟨cl34, Aq34, hj34, aq34⟩ := Ia.at V31 hin34
        obtain ⟨T34, h34, X34, e34, W34, st34⟩ := stC X31 hx hZ e31 Aq34 (j := (0 : Int32)) hj34 (g := (mkF m 54 #[.val (.int p1), .val (.int p2), .val (.int p3), .val (.int p4), .val (.ref b31)] [(.int p2), (.int (0 : Int32)), (.ref b31)])) rfl rfl (Jvm.hb hby d4_54)
        have KP34 : Keep h0 h34 [] := KP31.wr W34 (Or.inr sz_b31)
        have N34 := Fr.snoc X34 N0 gb_b31
        have CR34 : CHr Z EL0 s.vm h0 vm0 h34 := CR31.trans (CHr.wr W34 (own_safeA hZ.alike V31 (by decide)) CR31.1)
        have SK34 := Nat.le_trans SK31 (own_wrsz W34)
        have Aw34 : Ia Z h34 b31 .char (2 : Int32) (f4_u1 p2) := V31.set W34 hin34.1
        have K35 : ∀ t, Steps p.tables e below (T34.setTop (mkF m 55 #[.val (.int p1), .val (.int p2), .val (.int p3), .val (.int p4), .val (.ref b31)] [])) t → Steps p.tables e below (T31.setTop (mkF m 54 #[.val (.int p1), .val (.int p2), .val (.int p3), .val (.int p4), .val (.ref b31)] [(.int p2), (.int (0 : Int32)), (.ref b31)])) t := fun t k => st34 _ k
        have K36 : ∀ t, Steps p.tables e below (T34.setTop (mkF m 59 #[.val (.int p1), .val (.int p2), .val (.int p3), .val (.int p4), .val (.ref b31)] [(.int p3), (.int (1 : Int32)), (.ref b31)])) t → Steps p.tables e below (T34.setTop (mkF m 55 #[.val (.int p1), .val (.int p2), .val (.int p3), .val (.int p4), .val (.ref b31)] [])) t := by
          intro t k
          refine XS.aload X34.here hx rfl (Jvm.hb hby d4_55) rfl rfl ?_
          show Steps p.tables e below (T34.setTop (mkF m 57 #[.val (.int p1), .val (.int p2), .val (.int p3), .val (.int p4), .val (.ref b31)] [(.ref b31)])) t
          refine XS.iconst X34.here hx rfl (Jvm.hb hby d4_57) ?_
          show Steps p.tables e below (T34.setTop (mkF m 58 #[.val (.int p1), .val (.int p2), .val (.int p3), .val (.int p4), .val (.ref b31)] [(.int (1 : Int32)), (.ref b31)])) t
          refine XS.iloadN X34.here hx rfl (Jvm.hb hby d4_58) rfl ?_
          show Steps p.tables e below (T34.setTop (mkF m 59 #[.val (.int p1), .val (.int p2), .val (.int p3), .val (.int p4), .val (.ref b31)] [(.int p3), (.int (1 : Int32)), (.ref b31)])) t
          exact k
        have hin37 : ¬ (1 : Int32) < 0 ∧ (1 : Int32) < (2 : Int32) := by exact ⟨by decide, by decide⟩
        obtain ⟨cl37, Aq37, hj37, aq37⟩ := Ia.at Aw34 hin37
        obtain ⟨T37, h37, X37, e37, W37, st37⟩ := stC X34 hx hZ e34 Aq37 (j := (1 : Int32)) hj37 (g := (mkF m 59 #[.val (.int p1), .val (.int p2), .val (.int p3), .val (.int p4), .val (.ref b31)] [(.int p3), (.int (1 : Int32)), (.ref b31)])) rfl rfl (Jvm.hb hby d4_59)
        have KP37 : Keep h0 h37 [] := KP34.wr W37 (Or.inr sz_b31)
        have N37 := Fr.snoc X37 N34 gb_b31
        have CR37 : CHr Z EL0 s.vm h0 vm0 h37 := CR34.trans (CHr.wr W37 (own_safeA hZ.alike Aw34 (by decide)) CR34.1)
        have SK37 := Nat.le_trans SK34 (own_wrsz W37)
        have Aw37 : Ia Z h37 b31 .char (2 : Int32) (f4_u2 p2 p3) := Aw34.set W37 hin37.1
        have K38 : ∀ t, Steps p.tables e below (T37.setTop (mkF m 60 #[.val (.int p1), .val (.int p2), .val (.int p3), .val (.int p4), .val (.ref b31)] [])) t → Steps p.tables e below (T34.setTop (mkF m 59 #[.val (.int p1), .val (.int p2), .val (.int p3), .val (.int p4), .val (.ref b31)] [(.int p3), (.int (1 : Int32)), (.ref b31)])) t := fun t k => st37 _ k
        obtain ⟨T39, h39, X39, e39, E39, A39, D39, -, st39⟩ := newO X37 hx hZ hown (hw _ (List.mem_of_getElem? (i := 15) rfl)) (hw _ (List.mem_of_getElem? (i := 16) rfl)) (hw _ (List.mem_of_getElem? (i := 17) rfl)) e37 (g := (mkF m 60 #[.val (.int p1), .val (.int p2), .val (.int p3), .val (.int p4), .val (.ref b31)] [])) rfl (Jvm.hb hby d4_60) (by decide) (by decide)
        obtain ⟨b39, g39⟩ : ∃ z, z = h37.size := ⟨_, rfl⟩
        rw [← g39] at A39 D39 st39
        have KP39 : Keep h0 h39 [] := KP37.ext E39
        have A39_1 : Ia Z h39 b31 .char (2 : Int32) (f4_u2 p2 p3) := Aw37.ext E39
        have CR39 : CHr Z EL0 s.vm h0 vm0 h39 := CR37.trans (CHr.ext E39 CR37.1)
        have SK39 := Nat.le_trans SK37 E39.1
        have ne39_0 : b31 ≠ b39 := Nat.ne_of_lt (Nat.lt_of_lt_of_le Aw37.lt (Nat.le_of_eq g39.symm))
        have gb_b39 : n0 ≤ b39 := Nat.le_trans (Nat.le_trans Z0 KP37.1) (Nat.le_of_eq g39.symm)
        have sz_b39 : h0.size ≤ b39 := Nat.le_trans KP37.1 (Nat.le_of_eq g39.symm)
        have F39_coder : Fld Z h39 b39 "java/lang/String" "coder" "B" (.int (0 : Int32)) := D39 (Or.inr (hw _ (List.mem_of_getElem? (i := 41) rfl))) (ty := .byte) (by decide)
        have F39_value : Fld Z h39 b39 "java/lang/String" "value" "[B" .null := D39 (Or.inr (hw _ (List.mem_of_getElem? (i := 43) rfl))) (ty := (.array .byte)) (by decide)
        have K40 : ∀ t, Steps p.tables e below (T39.setTop (mkF m 63 #[.val (.int p1), .val (.int p2), .val (.int p3), .val (.int p4), .val (.ref b31)] [(.ref b39)])) t → Steps p.tables e below (T37.setTop (mkF m 60 #[.val (.int p1), .val (.int p2), .val (.int p3), .val (.int p4), .val (.ref b31)] [])) t := fun t k => st39 _ k
        have K41 : ∀ t, Steps p.tables e below (T39.setTop (mkF m 66 #[.val (.int p1), .val (.int p2), .val (.int p3), .val (.int p4), .val (.ref b31)] [(.ref b31), (.ref b39), (.ref b39)])) t → Steps p.tables e below (T39.setTop (mkF m 63 #[.val (.int p1), .val (.int p2), .val (.int p3), .val (.int p4), .val (.ref b31)] [(.ref b39)])) t := by
          intro t k
          refine XS.dup X39.here hx rfl (Jvm.hb hby d4_63) rfl rfl ?_
          show Steps p.tables e below (T39.setTop (mkF m 64 #[.val (.int p1), .val (.int p2), .val (.int p3), .val (.int p4), .val (.ref b31)] [(.ref b39), (.ref b39)])) t
          refine XS.aload X39.here hx rfl (Jvm.hb hby d4_64) rfl rfl ?_
          show Steps p.tables e below (T39.setTop (mkF m 66 #[.val (.int p1), .val (.int p2), .val (.int p3), .val (.int p4), .val (.ref b31)] [(.ref b31), (.ref b39), (.ref b39)])) t
          exact k
        obtain ⟨_, _, ⟨T42, L42, k42, n42⟩, -, X42, ⟨Lc42, hQ42, l42, y42, z42⟩, st42⟩ := X39.specialBack hx (y := (⟨"java/lang/String", "<init>", "([C)V"⟩ : MethodName)) rfl hown (mvT hZ (hw _ (List.mem_of_getElem? (i := 18) rfl))) (mvT hZ (hw _ (List.mem_of_getElem? (i := 19) rfl))) (mvT hZ (hw _ (List.mem_of_getElem? (i := 20) rfl))) (by decide) (backOf (W := 1) (rm5 l Z a0 hw [] b39 b31 (2 : Int32) (f4_u2 p2 p3) w_COMPACT_STRINGS (.int (0 : Int32)) .null h39 n0 (Nat.le_trans Z0 KP39.1) (by decide) (by decide) (fun j _ _ => (own_chs _ _ _ (own_chs _ _ _ (fun _ => by decide) h2) h3) j) hcs A39_1 (S_COMPACT_STRINGS.ext (own_ext KP39)) A39 F39_coder F39_value gb_b39) hZ (hw _ (List.mem_of_getElem? (i := 20) rfl)) (hw _ (List.mem_of_getElem? (i := 17) rfl)) (by decide) (by decide)) (g := (mkF m 66 #[.val (.int p1), .val (.int p2), .val (.int p3), .val (.int p4), .val (.ref b31)] [(.ref b31), (.ref b39), (.ref b39)])) rfl (by rw [hml]; rfl) (Steps.refl _) (a := b39) (argsL := [(.ref b31)]) (rest := [(.ref b39)]) (lenOf pd_3 rfl) rfl (by show 2 * 0 + _ ≤ _; exact Nat.le_of_eq rfl) (Jvm.hb hby d4_66) (fun _ _ => ⟨rfl, e39, (by decide : 2 + 1 ≤ _), (by decide : 6 + 3 ≤ _)⟩)
        dsimp only [Pt.U, Pt.locs, Pt.cells, Pt.slots] at X42 l42 y42 z42 st42 hQ42
        subst l42 y42 z42
        obtain ⟨h42, e42⟩ : ∃ z, T42.heap = z := ⟨_, rfl⟩
        rw [e42] at hQ42
        obtain ⟨b42_x1, rfl, N42q, Kq42, szq_b42_x1, gb_b42_x1, R42_0, R42_1, R42_2, R42_3⟩ := hQ42
        have N42 := Fr.app N37 N42q
        have KP42 : Keep h0 h42 [] := KP39.trans Kq42 (allS (Or.inr sz_b39) all0)
        have A42_1 : Ia Z h42 b31 .char (2 : Int32) (f4_u2 p2 p3) := A39_1.keep Kq42 (ninS ne39_0 nin0)
        have CR42 : CHr Z EL0 s.vm h0 vm0 h42 := CR39.trans (CHr.keep Kq42 (allS (own_safe hZ.alike A39 F39_value) all0) CR39.1)
        have SK42 := Nat.le_trans SK39 Kq42.1
        have ne42_x1_2 : b31 ≠ b42_x1 := Nat.ne_of_lt (Nat.lt_of_lt_of_le A39_1.lt szq_b42_x1)
        have ne42_x1_4 : b39 ≠ b42_x1 := Nat.ne_of_lt (Nat.lt_of_lt_of_le A39.lt szq_b42_x1)
        have sz_b42_x1 : h0.size ≤ b42_x1 := Nat.le_trans KP39.1 szq_b42_x1
        have K43 : ∀ t, Steps p.tables e below (T42.setTop (mkF m 69 #[.val (.int p1), .val (.int p2), .val (.int p3), .val (.int p4), .val (.ref b31)] [(.ref b39)])) t → Steps p.tables e below (T39.setTop (mkF m 66 #[.val (.int p1), .val (.int p2), .val (.int p3), .val (.int p4), .val (.ref b31)] [(.ref b31), (.ref b39), (.ref b39)])) t := fun t k => st42.trans k
        obtain ⟨fs, hr, hrun, hended, hRW⟩ := X42.leaveW hS (show _ ≤ T42.heap.size from (by rw [e42]; exact SK42)) (v := some (.ref b39)) (fun h => by rw [Bd.returns] at h; cases h) Bd.notSynchronized
        refine ⟨_, _, pre0 _ (K1 _ (K11 _ (K12 _ (K26 _ (K27 _ (K29 _ (K30 _ (K32 _ (K33 _ (K35 _ (K36 _ (K38 _ (K40 _ (K41 _ (K43 _ (retOut X42 hx Bd.returns rfl (Or.inr (Or.inr (Or.inr (Or.inr ⟨rfl, rfl, rfl⟩)))) (Jvm.hb hby d4_69) hr)))))))))))))))), hrun, hended, _, _, rfl, ?_, (show CHr Z EL0 s.vm s.heap T42.vm T42.heap from by rw [hh, e42]; exact CR42.trans (CHv.at X42 hZ (ew0 hw) CR42.1)), hRW.1, hRW.2.1, hRW.2.2.1, hRW.2.2.2.mono (by decide) (by decide)⟩
        show Q4 Z p1 p2 p3 p4 w_COMPACT_STRINGS h0 n0 _ T42.heap _
        rw [e42]
        exact ⟨b39, b42_x1, rfl, N42, KP42, sz_b39, gb_b39, ne42_x1_4, R42_0, (by rw [show (f4_u4 p1) = (2 : Int32) from (if_neg hc2).trans ((if_neg hc13).trans (if_pos hc28)), show (f4_u5 p1 p2 p3 p4) = (f9_G_a30 (2 : Int32) (f4_u2 p2 p3) (fun _ => 0)) from (if_neg hc2).trans ((if_neg hc13).trans (if_pos hc28))]; exact R42_1), R42_3, R42_2⟩
      · have K44 : ∀ t, Steps p.tables e below (s₁.setTop (mkF m 70 #[.val (.int p1), .val (.int p2), .val (.int p3), .val (.int p4), .unset] [])) t → Steps p.tables e below (s₁.setTop (mkF m 42 #[.val (.int p1), .val (.int p2), .val (.int p3), .val (.int p4), .unset] [(.int (2 : Int32)), (.int p1)])) t := by
          intro t k
          refine XS.icmpYes X0.here hx rfl (pc0 := 42) (pc' := 70) rfl (Jvm.hb hby d4_42) rfl (feq hc28).2 (by decide) (by decide) ?_
          exact k
        have K45 : ∀ t, Steps p.tables e below (s₁.setTop (mkF m 71 #[.val (.int p1), .val (.int p2), .val (.int p3), .val (.int p4), .unset] [(.int (3 : Int32))])) t → Steps p.tables e below (s₁.setTop (mkF m 70 #[.val (.int p1), .val (.int p2), .val (.int p3), .val (.int p4), .unset] [])) t := by
          intro t k
          refine XS.iconst X0.here hx rfl (Jvm.hb hby d4_70) ?_
          show Steps p.tables e below (s₁.setTop (mkF m 71 #[.val (.int p1), .val (.int p2), .val (.int p3), .val (.int p4), .unset] [(.int (3 : Int32))])) t
          exact k
        obtain ⟨T46, h46, k46, X46, e46, E46, A46, st46⟩ := newP X0 hx hZ (hw _ (List.mem_of_getElem? (i := 0) rfl)) e0 (g := (mkF m 71 #[.val (.int p1), .val (.int p2), .val (.int p3), .val (.int p4), .unset] [(.int (3 : Int32))])) rfl (Jvm.hb hby d4_71) rfl (by decide) (cap := 3) (by decide) (by decide) (by decide) (by decide)
        obtain ⟨b46, g46⟩ : ∃ z, z = h0.size := ⟨_, rfl⟩
        rw [← g46] at A46 st46
        have KP46 : Keep h0 h46 [] := (Keep.refl h0 []).ext E46
        have CR46 : CHr Z EL0 s.vm h0 vm0 h46 := CR0.trans (CHr.ext E46 CR0.1)
        have SK46 := Nat.le_trans (Nat.le_refl h0.size) E46.1
        have gb_b46 : n0 ≤ b46 := Nat.le_trans Z0 (Nat.le_of_eq g46.symm)
        have sz_b46 : h0.size ≤ b46 := Nat.le_trans (Keep.refl h0 []).1 (Nat.le_of_eq g46.symm)
        have V46 : Ia Z h46 b46 .char (3 : Int32) (fun _ => 0) := Ia.new A46 (by decide) rfl
        have K47 : ∀ t, Steps p.tables e below (T46.setTop (mkF m 73 #[.val (.int p1), .val (.int p2), .val (.int p3), .val (.int p4), .unset] [(.ref b46)])) t → Steps p.tables e below (s₁.setTop (mkF m 71 #[.val (.int p1), .val (.int p2), .val (.int p3), .val (.int p4), .unset] [(.int (3 : Int32))])) t := fun t k => st46 _ k
        have K48 : ∀ t, Steps p.tables e below (T46.setTop (mkF m 79 #[.val (.int p1), .val (.int p2), .val (.int p3), .val (.int p4), .val (.ref b46)] [(.int p2), (.int (0 : Int32)), (.ref b46)])) t → Steps p.tables e below (T46.setTop (mkF m 73 #[.val (.int p1), .val (.int p2), .val (.int p3), .val (.int p4), .unset] [(.ref b46)])) t := by
          intro t k
          refine XS.astore X46.here hx rfl (Jvm.hb hby d4_73) rfl rfl (l' := #[.val (.int p1), .val (.int p2), .val (.int p3), .val (.int p4), .val (.ref b46)]) rfl ?_
          show Steps p.tables e below (T46.setTop (mkF m 75 #[.val (.int p1), .val (.int p2), .val (.int p3), .val (.int p4), .val (.ref b46)] [])) t
          refine XS.aload X46.here hx rfl (Jvm.hb hby d4_75) rfl rfl ?_
          show Steps p.tables e below (T46.setTop (mkF m 77 #[.val (.int p1), .val (.int p2), .val (.int p3), .val (.int p4), .val (.ref b46)] [(.ref b46)])) t
          refine XS.iconst X46.here hx rfl (Jvm.hb hby d4_77) ?_
          show Steps p.tables e below (T46.setTop (mkF m 78 #[.val (.int p1), .val (.int p2), .val (.int p3), .val (.int p4), .val (.ref b46)] [(.int (0 : Int32)), (.ref b46)])) t
          refine XS.iloadN X46.here hx rfl (Jvm.hb hby d4_78) rfl ?_
          show Steps p.tables e below (T46.setTop (mkF m 79 #[.val (.int p1), .val (.int p2), .val (.int p3), .val (.int p4), .val (.ref b46)] [(.int p2), (.int (0 : Int32)), (.ref b46)])) t
          exact k
        have hin49 : ¬ (0 : Int32) < 0 ∧ (0 : Int32) < (3 : Int32) := by exact ⟨by decide, by decide⟩
        obtain ⟨cl49, Aq49, hj49, aq49⟩ := Ia.at V46 hin49
        obtain ⟨T49, h49, X49, e49, W49, st49⟩ := stC X46 hx hZ e46 Aq49 (j := (0 : Int32)) hj49 (g := (mkF m 79 #[.val (.int p1), .val (.int p2), .val (.int p3), .val (.int p4), .val (.ref b46)] [(.int p2), (.int (0 : Int32)), (.ref b46)])) rfl rfl (Jvm.hb hby d4_79)
        have KP49 : Keep h0 h49 [] := KP46.wr W49 (Or.inr sz_b46)
        have N49 := Fr.snoc X49 N0 gb_b46
        have CR49 : CHr Z EL0 s.vm h0 vm0 h49 := CR46.trans (CHr.wr W49 (own_safeA hZ.alike V46 (by decide)) CR46.1)
        have SK49 := Nat.le_trans SK46 (own_wrsz W49)
        have Aw49 : Ia Z h49 b46 .char (3 : Int32) (f4_u1 p2) := V46.set W49 hin49.1
        have K50 : ∀ t, Steps p.tables e below (T49.setTop (mkF m 80 #[.val (.int p1), .val (.int p2), .val (.int p3), .val (.int p4), .val (.ref b46)] [])) t → Steps p.tables e below (T46.setTop (mkF m 79 #[.val (.int p1), .val (.int p2), .val (.int p3), .val (.int p4), .val (.ref b46)] [(.int p2), (.int (0 : Int32)), (.ref b46)])) t := fun t k => st49 _ k
        have K51 : ∀ t, Steps p.tables e below (T49.setTop (mkF m 84 #[.val (.int p1), .val (.int p2), .val (.int p3), .val (.int p4), .val (.ref b46)] [(.int p3), (.int (1 : Int32)), (.ref b46)])) t → Steps p.tables e below (T49.setTop (mkF m 80 #[.val (.int p1), .val (.int p2), .val (.int p3), .val (.int p4), .val (.ref b46)] [])) t := by
          intro t k
          refine XS.aload X49.here hx rfl (Jvm.hb hby d4_80) rfl rfl ?_
          show Steps p.tables e below (T49.setTop (mkF m 82 #[.val (.int p1), .val (.int p2), .val (.int p3), .val (.int p4), .val (.ref b46)] [(.ref b46)])) t
          refine XS.iconst X49.here hx rfl (Jvm.hb hby d4_82) ?_
          show Steps p.tables e below (T49.setTop (mkF m 83 #[.val (.int p1), .val (.int p2), .val (.int p3), .val (.int p4), .val (.ref b46)] [(.int (1 : Int32)), (.ref b46)])) t
          refine XS.iloadN X49.here hx rfl (Jvm.hb hby d4_83) rfl ?_
          show Steps p.tables e below (T49.setTop (mkF m 84 #[.val (.int p1), .val (.int p2), .val (.int p3), .val (.int p4), .val (.ref b46)] [(.int p3), (.int (1 : Int32)), (.ref b46)])) t
          exact k
        have hin52 : ¬ (1 : Int32) < 0 ∧ (1 : Int32) < (3 : Int32) := by exact ⟨by decide, by decide⟩
        obtain ⟨cl52, Aq52, hj52, aq52⟩ := Ia.at Aw49 hin52
        obtain ⟨T52, h52, X52, e52, W52, st52⟩ := stC X49 hx hZ e49 Aq52 (j := (1 : Int32)) hj52 (g := (mkF m 84 #[.val (.int p1), .val (.int p2), .val (.int p3), .val (.int p4), .val (.ref b46)] [(.int p3), (.int (1 : Int32)), (.ref b46)])) rfl rfl (Jvm.hb hby d4_84)
        have KP52 : Keep h0 h52 [] := KP49.wr W52 (Or.inr sz_b46)
        have N52 := Fr.snoc X52 N49 gb_b46
        have CR52 : CHr Z EL0 s.vm h0 vm0 h52 := CR49.trans (CHr.wr W52 (own_safeA hZ.alike Aw49 (by decide)) CR49.1)
        have SK52 := Nat.le_trans SK49 (own_wrsz W52)
        have Aw52 : Ia Z h52 b46 .char (3 : Int32) (f4_u2 p2 p3) := Aw49.set W52 hin52.1
        have K53 : ∀ t, Steps p.tables e below (T52.setTop (mkF m 85 #[.val (.int p1), .val (.int p2), .val (.int p3), .val (.int p4), .val (.ref b46)] [])) t → Steps p.tables e below (T49.setTop (mkF m 84 #[.val (.int p1), .val (.int p2), .val (.int p3), .val (.int p4), .val (.ref b46)] [(.int p3), (.int (1 : Int32)), (.ref b46)])) t := fun t k => st52 _ k
        have K54 : ∀ t, Steps p.tables e below (T52.setTop (mkF m 89 #[.val (.int p1), .val (.int p2), .val (.int p3), .val (.int p4), .val (.ref b46)] [(.int p4), (.int (2 : Int32)), (.ref b46)])) t → Steps p.tables e below (T52.setTop (mkF m 85 #[.val (.int p1), .val (.int p2), .val (.int p3), .val (.int p4), .val (.ref b46)] [])) t := by
          intro t k
          refine XS.aload X52.here hx rfl (Jvm.hb hby d4_85) rfl rfl ?_
          show Steps p.tables e below (T52.setTop (mkF m 87 #[.val (.int p1), .val (.int p2), .val (.int p3), .val (.int p4), .val (.ref b46)] [(.ref b46)])) t
          refine XS.iconst X52.here hx rfl (Jvm.hb hby d4_87) ?_
          show Steps p.tables e below (T52.setTop (mkF m 88 #[.val (.int p1), .val (.int p2), .val (.int p3), .val (.int p4), .val (.ref b46)] [(.int (2 : Int32)), (.ref b46)])) t
          refine XS.iloadN X52.here hx rfl (Jvm.hb hby d4_88) rfl ?_
          show Steps p.tables e below (T52.setTop (mkF m 89 #[.val (.int p1), .val (.int p2), .val (.int p3), .val (.int p4), .val (.ref b46)] [(.int p4), (.int (2 : Int32)), (.ref b46)])) t
          exact k
        have hin55 : ¬ (2 : Int32) < 0 ∧ (2 : Int32) < (3 : Int32) := by exact ⟨by decide, by decide⟩
        obtain ⟨cl55, Aq55, hj55, aq55⟩ := Ia.at Aw52 hin55
        obtain ⟨T55, h55, X55, e55, W55, st55⟩ := stC X52 hx hZ e52 Aq55 (j := (2 : Int32)) hj55 (g := (mkF m 89 #[.val (.int p1), .val (.int p2), .val (.int p3), .val (.int p4), .val (.ref b46)] [(.int p4), (.int (2 : Int32)), (.ref b46)])) rfl rfl (Jvm.hb hby d4_89)
        have KP55 : Keep h0 h55 [] := KP52.wr W55 (Or.inr sz_b46)
        have N55 := Fr.snoc X55 N52 gb_b46
        have CR55 : CHr Z EL0 s.vm h0 vm0 h55 := CR52.trans (CHr.wr W55 (own_safeA hZ.alike Aw52 (by decide)) CR52.1)
        have SK55 := Nat.le_trans SK52 (own_wrsz W55)
        have Aw55 : Ia Z h55 b46 .char (3 : Int32) (f4_u3 p2 p3 p4) := Aw52.set W55 hin55.1
        have K56 : ∀ t, Steps p.tables e below (T55.setTop (mkF m 90 #[.val (.int p1), .val (.int p2), .val (.int p3), .val (.int p4), .val (.ref b46)] [])) t → Steps p.tables e below (T52.setTop (mkF m 89 #[.val (.int p1), .val (.int p2), .val (.int p3), .val (.int p4), .val (.ref b46)] [(.int p4), (.int (2 : Int32)), (.ref b46)])) t := fun t k => st55 _ k
        obtain ⟨T57, h57, X57, e57, E57, A57, D57, -, st57⟩ := newO X55 hx hZ hown (hw _ (List.mem_of_getElem? (i := 15) rfl)) (hw _ (List.mem_of_getElem? (i := 16) rfl)) (hw _ (List.mem_of_getElem? (i := 17) rfl)) e55 (g := (mkF m 90 #[.val (.int p1), .val (.int p2), .val (.int p3), .val (.int p4), .val (.ref b46)] [])) rfl (Jvm.hb hby d4_90) (by decide) (by decide)
        obtain ⟨b57, g57⟩ : ∃ z, z = h55.size := ⟨_, rfl⟩
        rw [← g57] at A57 D57 st57
        have KP57 : Keep h0 h57 [] := KP55.ext E57
        have A57_1 : Ia Z h57 b46 .char (3 : Int32) (f4_u3 p2 p3 p4) := Aw55.ext E57
        have CR57 : CHr Z EL0 s.vm h0 vm0 h57 := CR55.trans (CHr.ext E57 CR55.1)
        have SK57 := Nat.le_trans SK55 E57.1
        have ne57_0 : b46 ≠ b57 := Nat.ne_of_lt (Nat.lt_of_lt_of_le Aw55.lt (Nat.le_of_eq g57.symm))
        have gb_b57 : n0 ≤ b57 := Nat.le_trans (Nat.le_trans Z0 KP55.1) (Nat.le_of_eq g57.symm)
        have sz_b57 : h0.size ≤ b57 := Nat.le_trans KP55.1 (Nat.le_of_eq g57.symm)
        have F57_coder : Fld Z h57 b57 "java/lang/String" "coder" "B" (.int (0 : Int32)) := D57 (Or.inr (hw _ (List.mem_of_getElem? (i := 41) rfl))) (ty := .byte) (by decide)
        have F57_value : Fld Z h57 b57 "java/lang/String" "value" "[B" .null := D57 (Or.inr (hw _ (List.mem_of_getElem? (i := 43) rfl))) (ty := (.array .byte)) (by decide)
        have K58 : ∀ t, Steps p.tables e below (T57.setTop (mkF m 93 #[.val (.int p1), .val (.int p2), .val (.int p3), .val (.int p4), .val (.ref b46)] [(.ref b57)])) t → Steps p.tables e below (T55.setTop (mkF m 90 #[.val (.int p1), .val (.int p2), .val (.int p3), .val (.int p4), .val (.ref b46)] [])) t := fun t k => st57 _ k
        have K59 : ∀ t, Steps p.tables e below (T57.setTop (mkF m 96 #[.val (.int p1), .val (.int p2), .val (.int p3), .val (.int p4), .val (.ref b46)] [(.ref b46), (.ref b57), (.ref b57)])) t → Steps p.tables e below (T57.setTop (mkF m 93 #[.val (.int p1), .val (.int p2), .val (.int p3), .val (.int p4), .val (.ref b46)] [(.ref b57)])) t := by
          intro t k
          refine XS.dup X57.here hx rfl (Jvm.hb hby d4_93) rfl rfl ?_
          show Steps p.tables e below (T57.setTop (mkF m 94 #[.val (.int p1), .val (.int p2), .val (.int p3), .val (.int p4), .val (.ref b46)] [(.ref b57), (.ref b57)])) t
          refine XS.aload X57.here hx rfl (Jvm.hb hby d4_94) rfl rfl ?_
          show Steps p.tables e below (T57.setTop (mkF m 96 #[.val (.int p1), .val (.int p2), .val (.int p3), .val (.int p4), .val (.ref b46)] [(.ref b46), (.ref b57), (.ref b57)])) t
          exact k
        obtain ⟨_, _, ⟨T60, L60, k60, n60⟩, -, X60, ⟨Lc60, hQ60, l60, y60, z60⟩, st60⟩ := X57.specialBack hx (y := (⟨"java/lang/String", "<init>", "([C)V"⟩ : MethodName)) rfl hown (mvT hZ (hw _ (List.mem_of_getElem? (i := 18) rfl))) (mvT hZ (hw _ (List.mem_of_getElem? (i := 19) rfl))) (mvT hZ (hw _ (List.mem_of_getElem? (i := 20) rfl))) (by decide) (backOf (W := 1) (rm5 l Z a0 hw [] b57 b46 (3 : Int32) (f4_u3 p2 p3 p4) w_COMPACT_STRINGS (.int (0 : Int32)) .null h57 n0 (Nat.le_trans Z0 KP57.1) (by decide) (by decide) (fun j _ _ => (own_chs _ _ _ (own_chs _ _ _ (own_chs _ _ _ (fun _ => by decide) h2) h3) h4) j) hcs A57_1 (S_COMPACT_STRINGS.ext (own_ext KP57)) A57 F57_coder F57_value gb_b57) hZ (hw _ (List.mem_of_getElem? (i := 20) rfl)) (hw _ (List.mem_of_getElem? (i := 17) rfl)) (by decide) (by decide)) (g := (mkF m 96 #[.val (.int p1), .val (.int p2), .val (.int p3), .val (.int p4), .val (.ref b46)] [(.ref b46), (.ref b57), (.ref b57)])) rfl (by rw [hml]; rfl) (Steps.refl _) (a := b57) (argsL := [(.ref b46)]) (rest := [(.ref b57)]) (lenOf pd_3 rfl) rfl (by show 2 * 0 + _ ≤ _; exact Nat.le_of_eq rfl) (Jvm.hb hby d4_96) (fun _ _ => ⟨rfl, e57, (by decide : 2 + 1 ≤ _), (by decide : 7 + 3 ≤ _)⟩)
        dsimp only [Pt.U, Pt.locs, Pt.cells, Pt.slots] at X60 l60 y60 z60 st60 hQ60
        subst l60 y60 z60
        obtain ⟨h60, e60⟩ : ∃ z, T60.heap = z := ⟨_, rfl⟩
        rw [e60] at hQ60
        obtain ⟨b60_x1, rfl, N60q, Kq60, szq_b60_x1, gb_b60_x1, R60_0, R60_1, R60_2, R60_3⟩ := hQ60
        have N60 := Fr.app N55 N60q
        have KP60 : Keep h0 h60 [] := KP57.trans Kq60 (allS (Or.inr sz_b57) all0)
        have A60_1 : Ia Z h60 b46 .char (3 : Int32) (f4_u3 p2 p3 p4) := A57_1.keep Kq60 (ninS ne57_0 nin0)
        have CR60 : CHr Z EL0 s.vm h0 vm0 h60 := CR57.trans (CHr.keep Kq60 (allS (own_safe hZ.alike A57 F57_value) all0) CR57.1)
        have SK60 := Nat.le_trans SK57 Kq60.1
        have ne60_x1_2 : b46 ≠ b60_x1 := Nat.ne_of_lt (Nat.lt_of_lt_of_le A57_1.lt szq_b60_x1)
        have ne60_x1_4 : b57 ≠ b60_x1 := Nat.ne_of_lt (Nat.lt_of_lt_of_le A57.lt szq_b60_x1)
        have sz_b60_x1 : h0.size ≤ b60_x1 := Nat.le_trans KP57.1 szq_b60_x1
        have K61 : ∀ t, Steps p.tables e below (T60.setTop (mkF m 99 #[.val (.int p1), .val (.int p2), .val (.int p3), .val (.int p4), .val (.ref b46)] [(.ref b57)])) t → Steps p.tables e below (T57.setTop (mkF m 96 #[.val (.int p1), .val (.int p2), .val (.int p3), .val (.int p4), .val (.ref b46)] [(.ref b46), (.ref b57), (.ref b57)])) t := fun t k => st60.trans k
        obtain ⟨fs, hr, hrun, hended, hRW⟩ := X60.leaveW hS (show _ ≤ T60.heap.size from (by rw [e60]; exact SK60)) (v := some (.ref b57)) (fun h => by rw [Bd.returns] at h; cases h) Bd.notSynchronized
        refine ⟨_, _, pre0 _ (K1 _ (K11 _ (K12 _ (K26 _ (K27 _ (K44 _ (K45 _ (K47 _ (K48 _ (K50 _ (K51 _ (K53 _ (K54 _ (K56 _ (K58 _ (K59 _ (K61 _ (retOut X60 hx Bd.returns rfl (Or.inr (Or.inr (Or.inr (Or.inr ⟨rfl, rfl, rfl⟩)))) (Jvm.hb hby d4_99) hr)))))))))))))))))), hrun, hended, _, _, rfl, ?_, (show CHr Z EL0 s.vm s.heap T60.vm T60.heap from by rw [hh, e60]; exact CR60.trans (CHv.at X60 hZ (ew0 hw) CR60.1)), hRW.1, hRW.2.1, hRW.2.2.1, hRW.2.2.2.mono (by decide) (by decide)⟩
        show Q4 Z p1 p2 p3 p4 w_COMPACT_STRINGS h0 n0 _ T60.heap _
        rw [e60]
        exact ⟨b57, b60_x1, rfl, N60, KP60, sz_b57, gb_b57, ne60_x1_4, R60_0, (by rw [show (f4_u4 p1) = (3 : Int32) from (if_neg hc2).trans ((if_neg hc13).trans (if_neg hc28)), show (f4_u5 p1 p2 p3 p4) = (f9_G_a30 (3 : Int32) (f4_u3 p2 p3 p4) (fun _ => 0)) from (if_neg hc2).trans ((if_neg hc13).trans (if_neg hc28))]; exact R60_1), R60_3, R60_2⟩
-- body 11: com/example/clapboard/clapboard/parse/TextCursor.<init>([CII)V
theorem d11_0 : decode prog_127_method_1_code 0 = .ok (.aload_n 0, 1) := by decide +kernel
theorem d11_1 : decode prog_127_method_1_code 1 = .ok (.invokespecial 1, 3) := by decide +kernel
theorem d11_4 : decode prog_127_method_1_code 4 = .ok (.aload_n 0, 1) := by decide +kernel
theorem d11_5 : decode prog_127_method_1_code 5 = .ok (.aload_n 1, 1) := by decide +kernel
theorem d11_6 : decode prog_127_method_1_code 6 = .ok (.putfield 7, 3) := by decide +kernel
theorem d11_9 : decode prog_127_method_1_code 9 = .ok (.aload_n 0, 1) := by decide +kernel
theorem d11_10 : decode prog_127_method_1_code 10 = .ok (.iload_n 2, 1) := by decide +kernel
theorem d11_11 : decode prog_127_method_1_code 11 = .ok (.putfield 13, 3) := by decide +kernel
theorem d11_14 : decode prog_127_method_1_code 14 = .ok (.aload_n 0, 1) := by decide +kernel
theorem d11_15 : decode prog_127_method_1_code 15 = .ok (.iload_n 3, 1) := by decide +kernel
theorem d11_16 : decode prog_127_method_1_code 16 = .ok (.putfield 17, 3) := by decide +kernel
theorem d11_19 : decode prog_127_method_1_code 19 = .ok (.return_, 1) := by decide +kernel
theorem pn_11 : plainName "com/example/clapboard/clapboard/parse/TextCursor" = true := by first | (simp [plainName, overriddenIn]; done) | decide +kernel
theorem ef_11 (m : MethodId) (a1 : Addr) (a2 : Addr) (p3 : Int32) (p4 : Int32) : entryFrame m #[(.ref a1), (.ref a2), (.int p3), (.int p4)] 4 = mkF m 0 #[.val (.ref a1), .val (.ref a2), .val (.int p3), .val (.int p4)] [] := by first | (simp [entryFrame, mkF, argsToLocals, Value.category]; done) | rfl
def Q11 (Z : State) (a1 : Addr) (a2 : Addr) (p3 : Int32) (p4 : Int32) (u_text_a1 : Value) (u_at_a1 : Value) (u_end_a1 : Value) (h0 : Heap) (n0 : Nat) (v : Option Value) (h : Heap) (L : List Loc) : Prop := v = none ∧ Fr n0 L ∧ Keep h0 h [a1] ∧ Exa Z h a1 "com/example/clapboard/clapboard/parse/TextCursor" ∧ Fld Z h a1 "com/example/clapboard/clapboard/parse/TextCursor" "text" "[C" (.ref a2) ∧ Fld Z h a1 "com/example/clapboard/clapboard/parse/TextCursor" "at" "I" (.int p3) ∧ Fld Z h a1 "com/example/clapboard/clapboard/parse/TextCursor" "end" "I" (.int p4)
set_option maxRecDepth 65536 in
set_option maxHeartbeats 40000000 in
theorem rm11 (l : Launch) (Z : State) (a0 : Array Value) (hw : ∀ d ∈ tables_1, d.before a0 Z = true) (ws : List Jvm.Cond) (a1 : Addr) (a2 : Addr) (p3 : Int32) (p4 : Int32) (u_text_a1 : Value) (u_at_a1 : Value) (u_end_a1 : Value) (h0 : Heap) (n0 : Nat) (Z0 : n0 ≤ h0.size) (E_a1 : Exa Z h0 a1 "com/example/clapboard/clapboard/parse/TextCursor") (F_text_a1 : Fld Z h0 a1 "com/example/clapboard/clapboard/parse/TextCursor" "text" "[C" u_text_a1) (g_a1 : n0 ≤ a1) (F_at_a1 : Fld Z h0 a1 "com/example/clapboard/clapboard/parse/TextCursor" "at" "I" u_at_a1) (F_end_a1 : Fld Z h0 a1 "com/example/clapboard/clapboard/parse/TextCursor" "end" "I" u_end_a1) :
    MetFree l (⟨"com/example/clapboard/clapboard/parse/TextCursor", "<init>", "([CII)V"⟩ : MethodName) (head1 (Jvm.Cond.code (⟨"com/example/clapboard/clapboard/parse/TextCursor", "<init>", "([CII)V"⟩ : MethodName) prog_127_method_1_code 4 none :: ws) ({ frames := 1, cells := 0, slots := 0, locals := 12 } : Room)) (fun a U => a = #[(.ref a1), (.ref a2), (.int p3), (.int p4)] ∧ Z.Warmed39 U.vm ∧ U.heap = h0) (fun _ _ _ _ _ => True) (fun _ U o U' => ∃ v L, o = .returned v ∧ Q11 Z a1 a2 p3 p4 u_text_a1 u_at_a1 u_end_a1 h0 n0 v U'.heap L ∧ FrameEnd U o U' L ({ frames := 1, cells := 0, slots := 0, locals := 12 } : Room).cells ({ frames := 1, cells := 0, slots := 0, locals := 12 } : Room).slots) := by
  refine MetFree.of_bodySF (plainFor_of_name pn_11) hisR ?_
  intro p e s m args below meth c s₁ Bd hml0 hP hK
  obtain ⟨rfl, hZ, hh⟩ := hP
  have hx := Bd.exec
  have hby := Bd.bytes
  have hml : c.maxLocals = 4 := hml0
  have hown : s.vm.findClass "com/example/clapboard/clapboard/parse/TextCursor" = some m.cls := findClass_of_methodNamed Bd.named
  have hnm := (name_of_methodNamed Bd.named Bd.method).1
  have X0 : Stand p l e ({ frames := 1, cells := 0, slots := 0, locals := 12 } : Room) s m #[(.ref a1), (.ref a2), (.int p3), (.int p4)] below meth c s₁ [] 0 0 := Stand.of_body Bd
  have e0 : s₁.heap = h0 := by rw [← hh, Bd.state]; rfl
  have N0 := Fr.nil n0
  have pre0 : ∀ t, Steps p.tables e below (s₁.setTop (mkF m 0 #[.val (.ref a1), .val (.ref a2), .val (.int p3), .val (.int p4)] [])) t → Steps p.tables e below (s₁.setTop (entryFrame m #[(.ref a1), (.ref a2), (.int p3), (.int p4)] 4)) t := fun t k => castTop (ef_11 m a1 a2 p3 p4) k
  have K1 : ∀ t, Steps p.tables e below (s₁.setTop (mkF m 1 #[.val (.ref a1), .val (.ref a2), .val (.int p3), .val (.int p4)] [(.ref a1)])) t → Steps p.tables e below (s₁.setTop (mkF m 0 #[.val (.ref a1), .val (.ref a2), .val (.int p3), .val (.int p4)] [])) t := by
    intro t k
    refine XS.aloadN X0.here hx rfl (Jvm.hb hby d11_0) rfl rfl ?_
    show Steps p.tables e below (s₁.setTop (mkF m 1 #[.val (.ref a1), .val (.ref a2), .val (.int p3), .val (.int p4)] [(.ref a1)])) t
    exact k
  obtain ⟨T2, X2, e2, st2⟩ := initO X0 hx hZ hown (hw _ (List.mem_of_getElem? (i := 50) rfl)) (hw _ (List.mem_of_getElem? (i := 26) rfl)) (hw _ (List.mem_of_getElem? (i := 27) rfl)) e0 (g := (mkF m 1 #[.val (.ref a1), .val (.ref a2), .val (.int p3), .val (.int p4)] [(.ref a1)])) rfl (by rw [hml]; rfl) rfl (Jvm.hb hby d11_1) (by decide) (W := 0) (by show 2 * 0 + _ ≤ _; exact Nat.le_of_eq rfl) (by decide)
  have K3 : ∀ t, Steps p.tables e below (T2.setTop (mkF m 4 #[.val (.ref a1), .val (.ref a2), .val (.int p3), .val (.int p4)] [])) t → Steps p.tables e below (s₁.setTop (mkF m 1 #[.val (.ref a1), .val (.ref a2), .val (.int p3), .val (.int p4)] [(.ref a1)])) t := fun t k => st2 _ k
  have K4 : ∀ t, Steps p.tables e below (T2.setTop (mkF m 6 #[.val (.ref a1), .val (.ref a2), .val (.int p3), .val (.int p4)] [(.ref a2), (.ref a1)])) t → Steps p.tables e below (T2.setTop (mkF m 4 #[.val (.ref a1), .val (.ref a2), .val (.int p3), .val (.int p4)] [])) t := by
    intro t k
    refine XS.aloadN X2.here hx rfl (Jvm.hb hby d11_4) rfl rfl ?_
    show Steps p.tables e below (T2.setTop (mkF m 5 #[.val (.ref a1), .val (.ref a2), .val (.int p3), .val (.int p4)] [(.ref a1)])) t
    refine XS.aloadN X2.here hx rfl (Jvm.hb hby d11_5) rfl rfl ?_
    show Steps p.tables e below (T2.setTop (mkF m 6 #[.val (.ref a1), .val (.ref a2), .val (.int p3), .val (.int p4)] [(.ref a2), (.ref a1)])) t
    exact k
  obtain ⟨T5, h5, X5, e5, W5, st5⟩ := putF X2 hx hZ hown (host := "") (Or.inl (hw _ (List.mem_of_getElem? (i := 51) rfl))) Via.refl e2 F_text_a1 E_a1 (Or.inr ⟨(hw _ (List.mem_of_getElem? (i := 52) rfl)), rfl, hnm⟩) (hw _ (List.mem_of_getElem? (i := 45) rfl)) (ty := (.array .char)) (by decide) rfl rfl (g := (mkF m 6 #[.val (.ref a1), .val (.ref a2), .val (.int p3), .val (.int p4)] [(.ref a2), (.ref a1)])) rfl rfl (Jvm.hb hby d11_6)
  have KP5 : Keep h0 h5 [a1] := (Keep.refl h0 [a1]).wr W5 (Or.inl (List.mem_of_getElem? (i := 0) rfl))
  have N5 := Fr.snoc X5 N0 g_a1
  have E5_0 : Exa Z h5 a1 "com/example/clapboard/clapboard/parse/TextCursor" := E_a1.wr W5
  have F5_1 : Fld Z h5 a1 "com/example/clapboard/clapboard/parse/TextCursor" "at" "I" u_at_a1 := F_at_a1.other W5 (Or.inr (slot_ne (Or.inl (hw _ (List.mem_of_getElem? (i := 54) rfl))) (Or.inr (hw _ (List.mem_of_getElem? (i := 52) rfl))) (by decide) (t := .int) (t' := (.array .char)) (by decide) (by decide)))
  have F5_2 : Fld Z h5 a1 "com/example/clapboard/clapboard/parse/TextCursor" "end" "I" u_end_a1 := F_end_a1.other W5 (Or.inr (slot_ne (Or.inl (hw _ (List.mem_of_getElem? (i := 56) rfl))) (Or.inr (hw _ (List.mem_of_getElem? (i := 52) rfl))) (by decide) (t := .int) (t' := (.array .char)) (by decide) (by decide)))
  have Fw5 : Fld Z h5 a1 "com/example/clapboard/clapboard/parse/TextCursor" "text" "[C" (.ref a2) := F_text_a1.same W5
  have K6 : ∀ t, Steps p.tables e below (T5.setTop (mkF m 9 #[.val (.ref a1), .val (.ref a2), .val (.int p3), .val (.int p4)] [])) t → Steps p.tables e below (T2.setTop (mkF m 6 #[.val (.ref a1), .val (.ref a2), .val (.int p3), .val (.int p4)] [(.ref a2), (.ref a1)])) t := fun t k => st5 _ k
  have K7 : ∀ t, Steps p.tables e below (T5.setTop (mkF m 11 #[.val (.ref a1), .val (.ref a2), .val (.int p3), .val (.int p4)] [(.int p3), (.ref a1)])) t → Steps p.tables e below (T5.setTop (mkF m 9 #[.val (.ref a1), .val (.ref a2), .val (.int p3), .val (.int p4)] [])) t := by
    intro t k
    refine XS.aloadN X5.here hx rfl (Jvm.hb hby d11_9) rfl rfl ?_
    show Steps p.tables e below (T5.setTop (mkF m 10 #[.val (.ref a1), .val (.ref a2), .val (.int p3), .val (.int p4)] [(.ref a1)])) t
    refine XS.iloadN X5.here hx rfl (Jvm.hb hby d11_10) rfl ?_
    show Steps p.tables e below (T5.setTop (mkF m 11 #[.val (.ref a1), .val (.ref a2), .val (.int p3), .val (.int p4)] [(.int p3), (.ref a1)])) t
    exact k
  obtain ⟨T8, h8, X8, e8, W8, st8⟩ := putF X5 hx hZ hown (host := "") (Or.inl (hw _ (List.mem_of_getElem? (i := 53) rfl))) Via.refl e5 F5_1 E5_0 (Or.inl (hw _ (List.mem_of_getElem? (i := 54) rfl))) (hw _ (List.mem_of_getElem? (i := 45) rfl)) (ty := .int) (by decide) rfl rfl (g := (mkF m 11 #[.val (.ref a1), .val (.ref a2), .val (.int p3), .val (.int p4)] [(.int p3), (.ref a1)])) rfl rfl (Jvm.hb hby d11_11)
  have KP8 : Keep h0 h8 [a1] := KP5.wr W8 (Or.inl (List.mem_of_getElem? (i := 0) rfl))
  have N8 := Fr.snoc X8 N5 g_a1
  have E8_0 : Exa Z h8 a1 "com/example/clapboard/clapboard/parse/TextCursor" := E5_0.wr W8
  have F8_1 : Fld Z h8 a1 "com/example/clapboard/clapboard/parse/TextCursor" "end" "I" u_end_a1 := F5_2.other W8 (Or.inr (slot_ne (Or.inl (hw _ (List.mem_of_getElem? (i := 56) rfl))) (Or.inl (hw _ (List.mem_of_getElem? (i := 54) rfl))) (by decide) (t := .int) (t' := .int) (by decide) (by decide)))
  have F8_2 : Fld Z h8 a1 "com/example/clapboard/clapboard/parse/TextCursor" "text" "[C" (.ref a2) := Fw5.other W8 (Or.inr (slot_ne (Or.inr (hw _ (List.mem_of_getElem? (i := 52) rfl))) (Or.inl (hw _ (List.mem_of_getElem? (i := 54) rfl))) (by decide) (t := (.array .char)) (t' := .int) (by decide) (by decide)))
  have Fw8 : Fld Z h8 a1 "com/example/clapboard/clapboard/parse/TextCursor" "at" "I" (.int p3) := F5_1.same W8
  have K9 : ∀ t, Steps p.tables e below (T8.setTop (mkF m 14 #[.val (.ref a1), .val (.ref a2), .val (.int p3), .val (.int p4)] [])) t → Steps p.tables e below (T5.setTop (mkF m 11 #[.val (.ref a1), .val (.ref a2), .val (.int p3), .val (.int p4)] [(.int p3), (.ref a1)])) t := fun t k => st8 _ k
  have K10 : ∀ t, Steps p.tables e below (T8.setTop (mkF m 16 #[.val (.ref a1), .val (.ref a2), .val (.int p3), .val (.int p4)] [(.int p4), (.ref a1)])) t → Steps p.tables e below (T8.setTop (mkF m 14 #[.val (.ref a1), .val (.ref a2), .val (.int p3), .val (.int p4)] [])) t := by
    intro t k
    refine XS.aloadN X8.here hx rfl (Jvm.hb hby d11_14) rfl rfl ?_
    show Steps p.tables e below (T8.setTop (mkF m 15 #[.val (.ref a1), .val (.ref a2), .val (.int p3), .val (.int p4)] [(.ref a1)])) t
    refine XS.iloadN X8.here hx rfl (Jvm.hb hby d11_15) rfl ?_
    show Steps p.tables e below (T8.setTop (mkF m 16 #[.val (.ref a1), .val (.ref a2), .val (.int p3), .val (.int p4)] [(.int p4), (.ref a1)])) t
    exact k
  obtain ⟨T11, h11, X11, e11, W11, st11⟩ := putF X8 hx hZ hown (host := "") (Or.inl (hw _ (List.mem_of_getElem? (i := 55) rfl))) Via.refl e8 F8_1 E8_0 (Or.inl (hw _ (List.mem_of_getElem? (i := 56) rfl))) (hw _ (List.mem_of_getElem? (i := 45) rfl)) (ty := .int) (by decide) rfl rfl (g := (mkF m 16 #[.val (.ref a1), .val (.ref a2), .val (.int p3), .val (.int p4)] [(.int p4), (.ref a1)])) rfl rfl (Jvm.hb hby d11_16)
  have KP11 : Keep h0 h11 [a1] := KP8.wr W11 (Or.inl (List.mem_of_getElem? (i := 0) rfl))
  have N11 := Fr.snoc X11 N8 g_a1
  have E11_0 : Exa Z h11 a1 "com/example/clapboard/clapboard/parse/TextCursor" := E8_0.wr W11
  have F11_1 : Fld Z h11 a1 "com/example/clapboard/clapboard/parse/TextCursor" "text" "[C" (.ref a2) := F8_2.other W11 (Or.inr (slot_ne (Or.inr (hw _ (List.mem_of_getElem? (i := 52) rfl))) (Or.inl (hw _ (List.mem_of_getElem? (i := 56) rfl))) (by decide) (t := (.array .char)) (t' := .int) (by decide) (by decide)))
  have F11_2 : Fld Z h11 a1 "com/example/clapboard/clapboard/parse/TextCursor" "at" "I" (.int p3) := Fw8.other W11 (Or.inr (slot_ne (Or.inl (hw _ (List.mem_of_getElem? (i := 54) rfl))) (Or.inl (hw _ (List.mem_of_getElem? (i := 56) rfl))) (by decide) (t := .int) (t' := .int) (by decide) (by decide)))
  have Fw11 : Fld Z h11 a1 "com/example/clapboard/clapboard/parse/TextCursor" "end" "I" (.int p4) := F8_1.same W11
  have K12 : ∀ t, Steps p.tables e below (T11.setTop (mkF m 19 #[.val (.ref a1), .val (.ref a2), .val (.int p3), .val (.int p4)] [])) t → Steps p.tables e below (T8.setTop (mkF m 16 #[.val (.ref a1), .val (.ref a2), .val (.int p3), .val (.int p4)] [(.int p4), (.ref a1)])) t := fun t k => st11 _ k
  obtain ⟨fs, hr, hrun, hended, hW, hsame⟩ := X11.leave (v := none) (fun _ => rfl) Bd.notSynchronized
  refine ⟨_, _, pre0 _ (K1 _ (K3 _ (K4 _ (K6 _ (K7 _ (K9 _ (K10 _ (K12 _ (X11.returnOut hx Bd.returns (Jvm.hb hby d11_19) hr))))))))), hrun, hended, _, _, rfl, ?_, ⟨_, rfl⟩, hW, hsame.mono (by decide) (by decide)⟩
  show Q11 Z a1 a2 p3 p4 u_text_a1 u_at_a1 u_end_a1 h0 n0 _ T11.heap _
  rw [e11]
  exact ⟨rfl, N11, KP11, E11_0, F11_1, F11_2, Fw11⟩
-- body 14: java/lang/String.coder()B
theorem d14_0 : decode jdk_42_method_152_code 0 = .ok (.getstatic 38, 3) := by decide +kernel
theorem d14_3 : decode jdk_42_method_152_code 3 = .ok (.ifCond .eq 10, 3) := by decide +kernel
theorem d14_6 : decode jdk_42_method_152_code 6 = .ok (.aload_n 0, 1) := by decide +kernel
theorem d14_7 : decode jdk_42_method_152_code 7 = .ok (.getfield 15, 3) := by decide +kernel
theorem d14_10 : decode jdk_42_method_152_code 10 = .ok (.goto 4, 3) := by decide +kernel
theorem d14_14 : decode jdk_42_method_152_code 14 = .ok (.ireturn, 1) := by decide +kernel
theorem pn_14 : plainName "java/lang/String" = true := by first | (simp [plainName, overriddenIn]; done) | decide +kernel
theorem ef_14 (m : MethodId) (a1 : Addr) : entryFrame m #[(.ref a1)] 1 = mkF m 0 #[.val (.ref a1)] [] := by first | (simp [entryFrame, mkF, argsToLocals, Value.category]; done) | rfl
def f14  : Int32 := (0 : Int32)
def Q14 (Z : State) (a1 : Addr) (w_COMPACT_STRINGS : Int32) (h0 : Heap) (n0 : Nat) (v : Option Value) (h : Heap) (L : List Loc) : Prop := v = some (.int (f14)) ∧ Fr n0 L ∧ h = h0
set_option maxRecDepth 65536 in
set_option maxHeartbeats 40000000 in
theorem rm14 (l : Launch) (Z : State) (a0 : Array Value) (hw : ∀ d ∈ tables_1, d.before a0 Z = true) (ws : List Jvm.Cond) (a1 : Addr) (w_COMPACT_STRINGS : Int32) (h0 : Heap) (n0 : Nat) (Z0 : n0 ≤ h0.size) (hcs : ¬ (w_COMPACT_STRINGS = 0)) (S_COMPACT_STRINGS : Sta Z h0 "java/lang/String" "COMPACT_STRINGS" "Z" (.int w_COMPACT_STRINGS)) (F_coder_a1 : Fld Z h0 a1 "java/lang/String" "coder" "B" (.int (0 : Int32))) :
    MetFree l (⟨"java/lang/String", "coder", "()B"⟩ : MethodName) (head1 (Jvm.Cond.code (⟨"java/lang/String", "coder", "()B"⟩ : MethodName) jdk_42_method_152_code 1 (some .byte) :: ws) ({ frames := 0, cells := 0, slots := 0, locals := 0 } : Room)) (fun a U => a = #[(.ref a1)] ∧ Z.Warmed39 U.vm ∧ U.heap = h0) (fun _ _ _ _ _ => True) (fun _ U o U' => ∃ v L, o = .returned v ∧ Q14 Z a1 w_COMPACT_STRINGS h0 n0 v U'.heap L ∧ FrameEnd U o U' L ({ frames := 0, cells := 0, slots := 0, locals := 0 } : Room).cells ({ frames := 0, cells := 0, slots := 0, locals := 0 } : Room).slots) := by
  refine MetFree.of_bodySF (plainFor_of_name pn_14) hisR ?_
  intro p e s m args below meth c s₁ Bd hml0 hP hK
  obtain ⟨rfl, hZ, hh⟩ := hP
  have hx := Bd.exec
  have hby := Bd.bytes
  have hml : c.maxLocals = 1 := hml0
  have hown : s.vm.findClass "java/lang/String" = some m.cls := findClass_of_methodNamed Bd.named
  have hnm := (name_of_methodNamed Bd.named Bd.method).1
  have X0 : Stand p l e ({ frames := 0, cells := 0, slots := 0, locals := 0 } : Room) s m #[(.ref a1)] below meth c s₁ [] 0 0 := Stand.of_body Bd
  have e0 : s₁.heap = h0 := by rw [← hh, Bd.state]; rfl
  have N0 := Fr.nil n0
  have pre0 : ∀ t, Steps p.tables e below (s₁.setTop (mkF m 0 #[.val (.ref a1)] [])) t → Steps p.tables e below (s₁.setTop (entryFrame m #[(.ref a1)] 1)) t := fun t k => castTop (ef_14 m a1) k
  obtain ⟨T1, X1, e1, st1⟩ := getS2 X0 hx hZ hown (host := "") (Or.inl (hw _ (List.mem_of_getElem? (i := 28) rfl))) Via.refl e0 S_COMPACT_STRINGS (g := (mkF m 0 #[.val (.ref a1)] [])) rfl (Jvm.hb hby d14_0)
  have K2 : ∀ t, Steps p.tables e below (T1.setTop (mkF m 3 #[.val (.ref a1)] [(.int w_COMPACT_STRINGS)])) t → Steps p.tables e below (s₁.setTop (mkF m 0 #[.val (.ref a1)] [])) t := fun t k => st1 _ k
  have hc3 : ¬ (w_COMPACT_STRINGS = (0 : Int32)) := hcs
  have K4 : ∀ t, Steps p.tables e below (T1.setTop (mkF m 6 #[.val (.ref a1)] [])) t → Steps p.tables e below (T1.setTop (mkF m 3 #[.val (.ref a1)] [(.int w_COMPACT_STRINGS)])) t := by
    intro t k
    refine XS.ifNo X1.here hx rfl (Jvm.hb hby d14_3) rfl ((if0 _ _).trans (feq hc3).1) ?_
    exact k
  have K5 : ∀ t, Steps p.tables e below (T1.setTop (mkF m 7 #[.val (.ref a1)] [(.ref a1)])) t → Steps p.tables e below (T1.setTop (mkF m 6 #[.val (.ref a1)] [])) t := by
    intro t k
    refine XS.aloadN X1.here hx rfl (Jvm.hb hby d14_6) rfl rfl ?_
    show Steps p.tables e below (T1.setTop (mkF m 7 #[.val (.ref a1)] [(.ref a1)])) t
    exact k
  obtain ⟨T6, X6, e6, st6⟩ := getF X1 hx hZ hown (host := "") (Or.inl (hw _ (List.mem_of_getElem? (i := 40) rfl))) Via.refl e1 F_coder_a1 (g := (mkF m 7 #[.val (.ref a1)] [(.ref a1)])) rfl rfl (Jvm.hb hby d14_7)
  have K7 : ∀ t, Steps p.tables e below (T6.setTop (mkF m 10 #[.val (.ref a1)] [(.int (0 : Int32))])) t → Steps p.tables e below (T1.setTop (mkF m 7 #[.val (.ref a1)] [(.ref a1)])) t := fun t k => st6 _ k
  have K8 : ∀ t, Steps p.tables e below (T6.setTop (mkF m 14 #[.val (.ref a1)] [(.int (0 : Int32))])) t → Steps p.tables e below (T6.setTop (mkF m 10 #[.val (.ref a1)] [(.int (0 : Int32))])) t := by
    intro t k
    refine XS.goto X6.here hx rfl (pc0 := 10) (pc' := 14) rfl (Jvm.hb hby d14_10) (by decide) (by decide) ?_
    show Steps p.tables e below (T6.setTop (mkF m 14 #[.val (.ref a1)] [(.int (0 : Int32))])) t
    exact k
  obtain ⟨fs, hr, hrun, hended, hW, hsame⟩ := X6.leave (v := some (.int (0 : Int32))) (fun h => by rw [Bd.returns] at h; cases h) Bd.notSynchronized
  refine ⟨_, _, pre0 _ (K2 _ (K4 _ (K5 _ (K7 _ (K8 _ (retN X6 hx (t := .byte) Bd.returns (by simp) (Jvm.hb hby d14_14) hr)))))), hrun, hended, _, _, rfl, ?_, ⟨_, rfl⟩, hW, hsame.mono (by decide) (by decide)⟩
  show Q14 Z a1 w_COMPACT_STRINGS h0 n0 _ T6.heap _
  rw [e6]
  exact ⟨congrArg (fun z => some (Value.int z)) (show (0 : Int32) = f14 from Eq.symm (rfl)), N0, rfl⟩
-- body 13: java/lang/String.length()I
theorem d13_0 : decode jdk_42_method_54_code 0 = .ok (.aload_n 0, 1) := by decide +kernel
theorem d13_1 : decode jdk_42_method_54_code 1 = .ok (.getfield 9, 3) := by decide +kernel
theorem d13_4 : decode jdk_42_method_54_code 4 = .ok (.arraylength, 1) := by decide +kernel
theorem d13_5 : decode jdk_42_method_54_code 5 = .ok (.aload_n 0, 1) := by decide +kernel
theorem d13_6 : decode jdk_42_method_54_code 6 = .ok (.invokevirtual 335, 3) := by decide +kernel
theorem d13_9 : decode jdk_42_method_54_code 9 = .ok (.ishr, 1) := by decide +kernel
theorem d13_10 : decode jdk_42_method_54_code 10 = .ok (.ireturn, 1) := by decide +kernel
theorem pn_13 : plainName "java/lang/String" = true := by first | (simp [plainName, overriddenIn]; done) | decide +kernel
theorem pd_12 : parseMethodDescriptor "()B" = some ⟨[], some .byte⟩ := by decide +kernel
theorem ef_13 (m : MethodId) (a1 : Addr) : entryFrame m #[(.ref a1)] 1 = mkF m 0 #[.val (.ref a1)] [] := by first | (simp [entryFrame, mkF, argsToLocals, Value.category]; done) | rfl
def f13 (n_v_value_a1 : Int32) : Int32 := (n_v_value_a1 >>> (f14 &&& 31))
def Q13 (Z : State) (a1 : Addr) (v_value_a1 : Addr) (n_v_value_a1 : Int32) (f_v_value_a1 : Int32 → Int32) (w_COMPACT_STRINGS : Int32) (h0 : Heap) (n0 : Nat) (v : Option Value) (h : Heap) (L : List Loc) : Prop := v = some (.int (f13 n_v_value_a1)) ∧ Fr n0 L ∧ h = h0
set_option maxRecDepth 65536 in
set_option maxHeartbeats 40000000 in
theorem rm13 (l : Launch) (Z : State) (a0 : Array Value) (hw : ∀ d ∈ tables_1, d.before a0 Z = true) (ws : List Jvm.Cond) (a1 : Addr) (v_value_a1 : Addr) (n_v_value_a1 : Int32) (f_v_value_a1 : Int32 → Int32) (w_COMPACT_STRINGS : Int32) (h0 : Heap) (n0 : Nat) (Z0 : n0 ≤ h0.size) (F_value_a1 : Fld Z h0 a1 "java/lang/String" "value" "[B" (.ref v_value_a1)) (A_v_value_a1 : Ia Z h0 v_value_a1 .byte n_v_value_a1 f_v_value_a1) (E_a1 : Exa Z h0 a1 "java/lang/String") (S_COMPACT_STRINGS : Sta Z h0 "java/lang/String" "COMPACT_STRINGS" "Z" (.int w_COMPACT_STRINGS)) (F_coder_a1 : Fld Z h0 a1 "java/lang/String" "coder" "B" (.int (0 : Int32))) (hcs : ¬ (w_COMPACT_STRINGS = 0)) :
    MetFree l (⟨"java/lang/String", "length", "()I"⟩ : MethodName) (head1 (Jvm.Cond.code (⟨"java/lang/String", "length", "()I"⟩ : MethodName) jdk_42_method_54_code 1 (some .int) :: ws) ({ frames := 1, cells := 0, slots := 0, locals := 13 } : Room)) (fun a U => a = #[(.ref a1)] ∧ Z.Warmed39 U.vm ∧ U.heap = h0) (fun _ _ _ _ _ => True) (fun _ U o U' => ∃ v L, o = .returned v ∧ Q13 Z a1 v_value_a1 n_v_value_a1 f_v_value_a1 w_COMPACT_STRINGS h0 n0 v U'.heap L ∧ FrameEnd U o U' L ({ frames := 1, cells := 0, slots := 0, locals := 13 } : Room).cells ({ frames := 1, cells := 0, slots := 0, locals := 13 } : Room).slots) := by
  refine MetFree.of_bodySF (plainFor_of_name pn_13) hisR ?_
  intro p e s m args below meth c s₁ Bd hml0 hP hK
  obtain ⟨rfl, hZ, hh⟩ := hP
  have hx := Bd.exec
  have hby := Bd.bytes
  have hml : c.maxLocals = 1 := hml0
  have hown : s.vm.findClass "java/lang/String" = some m.cls := findClass_of_methodNamed Bd.named
  have hnm := (name_of_methodNamed Bd.named Bd.method).1
  have X0 : Stand p l e ({ frames := 1, cells := 0, slots := 0, locals := 13 } : Room) s m #[(.ref a1)] below meth c s₁ [] 0 0 := Stand.of_body Bd
  have e0 : s₁.heap = h0 := by rw [← hh, Bd.state]; rfl
  have N0 := Fr.nil n0
  have pre0 : ∀ t, Steps p.tables e below (s₁.setTop (mkF m 0 #[.val (.ref a1)] [])) t → Steps p.tables e below (s₁.setTop (entryFrame m #[(.ref a1)] 1)) t := fun t k => castTop (ef_13 m a1) k
  have K1 : ∀ t, Steps p.tables e below (s₁.setTop (mkF m 1 #[.val (.ref a1)] [(.ref a1)])) t → Steps p.tables e below (s₁.setTop (mkF m 0 #[.val (.ref a1)] [])) t := by
    intro t k
    refine XS.aloadN X0.here hx rfl (Jvm.hb hby d13_0) rfl rfl ?_
    show Steps p.tables e below (s₁.setTop (mkF m 1 #[.val (.ref a1)] [(.ref a1)])) t
    exact k
  obtain ⟨T2, X2, e2, st2⟩ := getF X0 hx hZ hown (host := "") (Or.inl (hw _ (List.mem_of_getElem? (i := 42) rfl))) Via.refl e0 F_value_a1 (g := (mkF m 1 #[.val (.ref a1)] [(.ref a1)])) rfl rfl (Jvm.hb hby d13_1)
  have K3 : ∀ t, Steps p.tables e below (T2.setTop (mkF m 4 #[.val (.ref a1)] [(.ref v_value_a1)])) t → Steps p.tables e below (s₁.setTop (mkF m 1 #[.val (.ref a1)] [(.ref a1)])) t := fun t k => st2 _ k
  obtain ⟨cl4, Aq5, sq6, nq7⟩ := Ia.len A_v_value_a1
  have K8 : ∀ t, Steps p.tables e below (T2.setTop (mkF m 6 #[.val (.ref a1)] [(.ref a1), (.int n_v_value_a1)])) t → Steps p.tables e below (T2.setTop (mkF m 4 #[.val (.ref a1)] [(.ref v_value_a1)])) t := by
    intro t k
    refine X2.arraylength hx (by rw [e2]; exact Aq5.1) (State.isArrayOf_alike hZ.alike Aq5.2.1) (g := (mkF m 4 #[.val (.ref a1)] [(.ref v_value_a1)])) rfl rfl (Jvm.hb hby d13_4) _ ?_
    rw [len_of sq6 nq7]
    show Steps p.tables e below (T2.setTop (mkF m 5 #[.val (.ref a1)] [(.int n_v_value_a1)])) t
    refine XS.aloadN X2.here hx rfl (Jvm.hb hby d13_5) rfl rfl ?_
    show Steps p.tables e below (T2.setTop (mkF m 6 #[.val (.ref a1)] [(.ref a1), (.int n_v_value_a1)])) t
    exact k
  obtain ⟨cq9, kq9, q9a, q9b, q9c⟩ := isOf hZ e2 E_a1
  obtain ⟨_, _, ⟨T9, L9, k9, n9⟩, -, X9, ⟨Lc9, hQ9, l9, y9, z9⟩, st9⟩ := X2.virtualBack hx (y := (⟨"java/lang/String", "coder", "()B"⟩ : MethodName)) (z := (⟨"java/lang/String", "coder", "()B"⟩ : MethodName)) hown (mvT hZ (hw _ (List.mem_of_getElem? (i := 67) rfl))) (mvT hZ (hw _ (List.mem_of_getElem? (i := 68) rfl))) (notFace_of_selects (args := #[]) (mvT hZ (hw _ (List.mem_of_getElem? (i := 70) rfl)))) (mvT hZ (hw _ (List.mem_of_getElem? (i := 70) rfl))) (mvT hZ (hw _ (List.mem_of_getElem? (i := 69) rfl))) (by decide) (backOf (W := 1) (rm14 l Z a0 hw [] a1 w_COMPACT_STRINGS h0 n0 Z0 hcs S_COMPACT_STRINGS F_coder_a1) hZ (hw _ (List.mem_of_getElem? (i := 71) rfl)) (hw _ (List.mem_of_getElem? (i := 17) rfl)) (by decide) (by decide)) q9a q9c (g := (mkF m 6 #[.val (.ref a1)] [(.ref a1), (.int n_v_value_a1)])) rfl (by rw [hml]; rfl) (Steps.refl _) (argsL := []) (rest := [(.int n_v_value_a1)]) (lenOf pd_12 rfl) rfl (by show 2 * 0 + _ ≤ _; exact Nat.le_of_eq rfl) (Jvm.hb hby d13_6) (fun _ _ => ⟨rfl, e2, (by decide : 0 + 0 ≤ _), (by decide : 0 + 0 ≤ _)⟩)
  dsimp only [Pt.U, Pt.locs, Pt.cells, Pt.slots] at X9 l9 y9 z9 st9 hQ9
  subst l9 y9 z9
  obtain ⟨rfl, N9q, e9⟩ := hQ9
  have N9 := Fr.app N0 N9q
  have K10 : ∀ t, Steps p.tables e below (T9.setTop (mkF m 9 #[.val (.ref a1)] [(.int f14), (.int n_v_value_a1)])) t → Steps p.tables e below (T2.setTop (mkF m 6 #[.val (.ref a1)] [(.ref a1), (.int n_v_value_a1)])) t := fun t k => st9.trans k
  have K11 : ∀ t, Steps p.tables e below (T9.setTop (mkF m 10 #[.val (.ref a1)] [(.int (n_v_value_a1 >>> (f14 &&& 31)))])) t → Steps p.tables e below (T9.setTop (mkF m 9 #[.val (.ref a1)] [(.int f14), (.int n_v_value_a1)])) t := by
    intro t k
    refine XS.ishr X9.here hx rfl (Jvm.hb hby d13_9) rfl ?_
    show Steps p.tables e below (T9.setTop (mkF m 10 #[.val (.ref a1)] [(.int (n_v_value_a1 >>> (f14 &&& 31)))])) t
    exact k
  obtain ⟨fs, hr, hrun, hended, hW, hsame⟩ := X9.leave (v := some (.int (n_v_value_a1 >>> (f14 &&& 31)))) (fun h => by rw [Bd.returns] at h; cases h) Bd.notSynchronized
  refine ⟨_, _, pre0 _ (K1 _ (K3 _ (K8 _ (K10 _ (K11 _ (retI X9 hx Bd.returns (Jvm.hb hby d13_10) hr)))))), hrun, hended, _, _, rfl, ?_, ⟨_, rfl⟩, hW, hsame.mono (by decide) (by decide)⟩
  show Q13 Z a1 v_value_a1 n_v_value_a1 f_v_value_a1 w_COMPACT_STRINGS h0 n0 _ T9.heap _
  rw [e9]
  exact ⟨congrArg (fun z => some (Value.int z)) (show (n_v_value_a1 >>> (f14 &&& 31)) = f13 n_v_value_a1 from Eq.symm (rfl)), N9, rfl⟩
theorem own_len (n : Int32) : f13 n = n := by
  unfold f13 f14
  apply Int32.toBitVec_inj.mp
  simp
-- body 16: java/lang/String.isLatin1()Z
theorem d16_0 : decode jdk_42_method_154_code 0 = .ok (.getstatic 38, 3) := by decide +kernel
theorem d16_3 : decode jdk_42_method_154_code 3 = .ok (.ifCond .eq 14, 3) := by decide +kernel
theorem d16_6 : decode jdk_42_method_154_code 6 = .ok (.aload_n 0, 1) := by decide +kernel
theorem d16_7 : decode jdk_42_method_154_code 7 = .ok (.getfield 15, 3) := by decide +kernel
theorem d16_10 : decode jdk_42_method_154_code 10 = .ok (.ifCond .ne 7, 3) := by decide +kernel
theorem d16_13 : decode jdk_42_method_154_code 13 = .ok (.iconst 1, 1) := by decide +kernel
theorem d16_14 : decode jdk_42_method_154_code 14 = .ok (.goto 4, 3) := by decide +kernel
theorem d16_18 : decode jdk_42_method_154_code 18 = .ok (.ireturn, 1) := by decide +kernel
theorem pn_16 : plainName "java/lang/String" = true := by first | (simp [plainName, overriddenIn]; done) | decide +kernel
theorem ef_16 (m : MethodId) (a1 : Addr) : entryFrame m #[(.ref a1)] 1 = mkF m 0 #[.val (.ref a1)] [] := by first | (simp [entryFrame, mkF, argsToLocals, Value.category]; done) | rfl
def f16  : Int32 := (1 : Int32)
def Q16 (Z : State) (a1 : Addr) (w_COMPACT_STRINGS : Int32) (h0 : Heap) (n0 : Nat) (v : Option Value) (h : Heap) (L : List Loc) : Prop := v = some (.int (f16)) ∧ Fr n0 L ∧ h = h0
set_option maxRecDepth 65536 in
set_option maxHeartbeats 40000000 in
theorem rm16 (l : Launch) (Z : State) (a0 : Array Value) (hw : ∀ d ∈ tables_1, d.before a0 Z = true) (ws : List Jvm.Cond) (a1 : Addr) (w_COMPACT_STRINGS : Int32) (h0 : Heap) (n0 : Nat) (Z0 : n0 ≤ h0.size) (hcs : ¬ (w_COMPACT_STRINGS = 0)) (S_COMPACT_STRINGS : Sta Z h0 "java/lang/String" "COMPACT_STRINGS" "Z" (.int w_COMPACT_STRINGS)) (F_coder_a1 : Fld Z h0 a1 "java/lang/String" "coder" "B" (.int (0 : Int32))) :
    MetFree l (⟨"java/lang/String", "isLatin1", "()Z"⟩ : MethodName) (head1 (Jvm.Cond.code (⟨"java/lang/String", "isLatin1", "()Z"⟩ : MethodName) jdk_42_method_154_code 1 (some .boolean) :: ws) ({ frames := 0, cells := 0, slots := 0, locals := 0 } : Room)) (fun a U => a = #[(.ref a1)] ∧ Z.Warmed39 U.vm ∧ U.heap = h0) (fun _ _ _ _ _ => True) (fun _ U o U' => ∃ v L, o = .returned v ∧ Q16 Z a1 w_COMPACT_STRINGS h0 n0 v U'.heap L ∧ FrameEnd U o U' L ({ frames := 0, cells := 0, slots := 0, locals := 0 } : Room).cells ({ frames := 0, cells := 0, slots := 0, locals := 0 } : Room).slots) := by
  refine MetFree.of_bodySF (plainFor_of_name pn_16) hisR ?_
  intro p e s m args below meth c s₁ Bd hml0 hP hK
  obtain ⟨rfl, hZ, hh⟩ := hP
  have hx := Bd.exec
  have hby := Bd.bytes
  have hml : c.maxLocals = 1 := hml0
  have hown : s.vm.findClass "java/lang/String" = some m.cls := findClass_of_methodNamed Bd.named
  have hnm := (name_of_methodNamed Bd.named Bd.method).1
  have X0 : Stand p l e ({ frames := 0, cells := 0, slots := 0, locals := 0 } : Room) s m #[(.ref a1)] below meth c s₁ [] 0 0 := Stand.of_body Bd
  have e0 : s₁.heap = h0 := by rw [← hh, Bd.state]; rfl
  have N0 := Fr.nil n0
  have pre0 : ∀ t, Steps p.tables e below (s₁.setTop (mkF m 0 #[.val (.ref a1)] [])) t → Steps p.tables e below (s₁.setTop (entryFrame m #[(.ref a1)] 1)) t := fun t k => castTop (ef_16 m a1) k
  obtain ⟨T1, X1, e1, st1⟩ := getS2 X0 hx hZ hown (host := "") (Or.inl (hw _ (List.mem_of_getElem? (i := 28) rfl))) Via.refl e0 S_COMPACT_STRINGS (g := (mkF m 0 #[.val (.ref a1)] [])) rfl (Jvm.hb hby d16_0)
  have K2 : ∀ t, Steps p.tables e below (T1.setTop (mkF m 3 #[.val (.ref a1)] [(.int w_COMPACT_STRINGS)])) t → Steps p.tables e below (s₁.setTop (mkF m 0 #[.val (.ref a1)] [])) t := fun t k => st1 _ k
  have hc3 : ¬ (w_COMPACT_STRINGS = (0 : Int32)) := hcs
  have K4 : ∀ t, Steps p.tables e below (T1.setTop (mkF m 6 #[.val (.ref a1)] [])) t → Steps p.tables e below (T1.setTop (mkF m 3 #[.val (.ref a1)] [(.int w_COMPACT_STRINGS)])) t := by
    intro t k
    refine XS.ifNo X1.here hx rfl (Jvm.hb hby d16_3) rfl ((if0 _ _).trans (feq hc3).1) ?_
    exact k
  have K5 : ∀ t, Steps p.tables e below (T1.setTop (mkF m 7 #[.val (.ref a1)] [(.ref a1)])) t → Steps p.tables e below (T1.setTop (mkF m 6 #[.val (.ref a1)] [])) t := by
    intro t k
    refine XS.aloadN X1.here hx rfl (Jvm.hb hby d16_6) rfl rfl ?_
    show Steps p.tables e below (T1.setTop (mkF m 7 #[.val (.ref a1)] [(.ref a1)])) t
    exact k
  obtain ⟨T6, X6, e6, st6⟩ := getF X1 hx hZ hown (host := "") (Or.inl (hw _ (List.mem_of_getElem? (i := 40) rfl))) Via.refl e1 F_coder_a1 (g := (mkF m 7 #[.val (.ref a1)] [(.ref a1)])) rfl rfl (Jvm.hb hby d16_7)
  have K7 : ∀ t, Steps p.tables e below (T6.setTop (mkF m 10 #[.val (.ref a1)] [(.int (0 : Int32))])) t → Steps p.tables e below (T1.setTop (mkF m 7 #[.val (.ref a1)] [(.ref a1)])) t := fun t k => st6 _ k
  have hc8 : (0 : Int32) = (0 : Int32) := rfl
  have K9 : ∀ t, Steps p.tables e below (T6.setTop (mkF m 13 #[.val (.ref a1)] [])) t → Steps p.tables e below (T6.setTop (mkF m 10 #[.val (.ref a1)] [(.int (0 : Int32))])) t := by
    intro t k
    refine XS.ifNo X6.here hx rfl (Jvm.hb hby d16_10) rfl ((if0 _ _).trans (teq hc8).2) ?_
    exact k
  have K10 : ∀ t, Steps p.tables e below (T6.setTop (mkF m 18 #[.val (.ref a1)] [(.int (1 : Int32))])) t → Steps p.tables e below (T6.setTop (mkF m 13 #[.val (.ref a1)] [])) t := by
    intro t k
    refine XS.iconst X6.here hx rfl (Jvm.hb hby d16_13) ?_
    show Steps p.tables e below (T6.setTop (mkF m 14 #[.val (.ref a1)] [(.int (1 : Int32))])) t
    refine XS.goto X6.here hx rfl (pc0 := 14) (pc' := 18) rfl (Jvm.hb hby d16_14) (by decide) (by decide) ?_
    show Steps p.tables e below (T6.setTop (mkF m 18 #[.val (.ref a1)] [(.int (1 : Int32))])) t
    exact k
  obtain ⟨fs, hr, hrun, hended, hW, hsame⟩ := X6.leave (v := some (.int (1 : Int32))) (fun h => by rw [Bd.returns] at h; cases h) Bd.notSynchronized
  refine ⟨_, _, pre0 _ (K2 _ (K4 _ (K5 _ (K7 _ (K9 _ (K10 _ (retN X6 hx (t := .boolean) Bd.returns (by simp) (Jvm.hb hby d16_18) hr))))))), hrun, hended, _, _, rfl, ?_, ⟨_, rfl⟩, hW, hsame.mono (by decide) (by decide)⟩
  show Q16 Z a1 w_COMPACT_STRINGS h0 n0 _ T6.heap _
  rw [e6]
  exact ⟨congrArg (fun z => some (Value.int z)) (show (1 : Int32) = f16 from Eq.symm (rfl)), N0, rfl⟩
-- body 19: jdk/internal/util/Preconditions.checkIndex(IILjava/util/function/BiFunction;)I
theorem d19_0 : decode jdk_41_method_11_code 0 = .ok (.iload_n 0, 1) := by decide +kernel
theorem d19_1 : decode jdk_41_method_11_code 1 = .ok (.ifCond .lt 8, 3) := by decide +kernel
theorem d19_4 : decode jdk_41_method_11_code 4 = .ok (.iload_n 0, 1) := by decide +kernel
theorem d19_5 : decode jdk_41_method_11_code 5 = .ok (.iload_n 1, 1) := by decide +kernel
theorem d19_6 : decode jdk_41_method_11_code 6 = .ok (.if_icmp .lt 10, 3) := by decide +kernel
theorem d19_16 : decode jdk_41_method_11_code 16 = .ok (.iload_n 0, 1) := by decide +kernel
theorem d19_17 : decode jdk_41_method_11_code 17 = .ok (.ireturn, 1) := by decide +kernel
theorem pn_19 : plainName "jdk/internal/util/Preconditions" = true := by first | (simp [plainName, overriddenIn]; done) | decide +kernel
theorem ef_19 (m : MethodId) (p1 : Int32) (p2 : Int32) (v3 : Value) (hr_v3 : v3.isRef = true) : entryFrame m #[(.int p1), (.int p2), v3] 3 = mkF m 0 #[.val (.int p1), .val (.int p2), .val v3] [] := by rcases Jvm.RoadKit.ref_cases hr_v3 with rfl | ⟨z, rfl⟩ <;> first | (simp [entryFrame, mkF, argsToLocals, Value.category]; done) | rfl
def f19 (p1 : Int32) : Int32 := p1
def Q19 (Z : State) (p1 : Int32) (p2 : Int32) (v3 : Value) (h0 : Heap) (n0 : Nat) (v : Option Value) (h : Heap) (L : List Loc) : Prop := v = some (.int (f19 p1)) ∧ Fr n0 L ∧ h = h0
set_option maxRecDepth 65536 in
set_option maxHeartbeats 40000000 in
theorem rm19 (l : Launch) (Z : State) (a0 : Array Value) (hw : ∀ d ∈ tables_1, d.before a0 Z = true) (ws : List Jvm.Cond) (p1 : Int32) (p2 : Int32) (v3 : Value) (h0 : Heap) (n0 : Nat) (Z0 : n0 ≤ h0.size) (hl : ¬ p1 < 0) (hu : p1 < p2) (hr_v3 : v3.isRef = true) :
    MetFree l (⟨"jdk/internal/util/Preconditions", "checkIndex", "(IILjava/util/function/BiFunction;)I"⟩ : MethodName) (head1 (Jvm.Cond.code (⟨"jdk/internal/util/Preconditions", "checkIndex", "(IILjava/util/function/BiFunction;)I"⟩ : MethodName) jdk_41_method_11_code 3 (some .int) :: ws) ({ frames := 0, cells := 0, slots := 0, locals := 0 } : Room)) (fun a U => a = #[(.int p1), (.int p2), v3] ∧ Z.Warmed39 U.vm ∧ U.heap = h0) (fun _ _ _ _ _ => True) (fun _ U o U' => ∃ v L, o = .returned v ∧ Q19 Z p1 p2 v3 h0 n0 v U'.heap L ∧ FrameEnd U o U' L ({ frames := 0, cells := 0, slots := 0, locals := 0 } : Room).cells ({ frames := 0, cells := 0, slots := 0, locals := 0 } : Room).slots) := by
  refine MetFree.of_bodySF (plainFor_of_name pn_19) hisR ?_
  intro p e s m args below meth c s₁ Bd hml0 hP hK
  obtain ⟨rfl, hZ, hh⟩ := hP
  have hx := Bd.exec
  have hby := Bd.bytes
  have hml : c.maxLocals = 3 := hml0
  have hown : s.vm.findClass "jdk/internal/util/Preconditions" = some m.cls := findClass_of_methodNamed Bd.named
  have hnm := (name_of_methodNamed Bd.named Bd.method).1
  have X0 : Stand p l e ({ frames := 0, cells := 0, slots := 0, locals := 0 } : Room) s m #[(.int p1), (.int p2), v3] below meth c s₁ [] 0 0 := Stand.of_body Bd
  have e0 : s₁.heap = h0 := by rw [← hh, Bd.state]; rfl
  have N0 := Fr.nil n0
  have pre0 : ∀ t, Steps p.tables e below (s₁.setTop (mkF m 0 #[.val (.int p1), .val (.int p2), .val v3] [])) t → Steps p.tables e below (s₁.setTop (entryFrame m #[(.int p1), (.int p2), v3] 3)) t := fun t k => castTop (ef_19 m p1 p2 v3 hr_v3) k
  have K1 : ∀ t, Steps p.tables e below (s₁.setTop (mkF m 1 #[.val (.int p1), .val (.int p2), .val v3] [(.int p1)])) t → Steps p.tables e below (s₁.setTop (mkF m 0 #[.val (.int p1), .val (.int p2), .val v3] [])) t := by
    intro t k
    refine XS.iloadN X0.here hx rfl (Jvm.hb hby d19_0) rfl ?_
    show Steps p.tables e below (s₁.setTop (mkF m 1 #[.val (.int p1), .val (.int p2), .val v3] [(.int p1)])) t
    exact k
  have hc2 : ¬ (p1 < (0 : Int32)) := hl
  have K3 : ∀ t, Steps p.tables e below (s₁.setTop (mkF m 4 #[.val (.int p1), .val (.int p2), .val v3] [])) t → Steps p.tables e below (s₁.setTop (mkF m 1 #[.val (.int p1), .val (.int p2), .val v3] [(.int p1)])) t := by
    intro t k
    refine XS.ifNo X0.here hx rfl (Jvm.hb hby d19_1) rfl ((if0 _ _).trans (flt hc2).1) ?_
    exact k
  have K4 : ∀ t, Steps p.tables e below (s₁.setTop (mkF m 6 #[.val (.int p1), .val (.int p2), .val v3] [(.int p2), (.int p1)])) t → Steps p.tables e below (s₁.setTop (mkF m 4 #[.val (.int p1), .val (.int p2), .val v3] [])) t := by
    intro t k
    refine XS.iloadN X0.here hx rfl (Jvm.hb hby d19_4) rfl ?_
    show Steps p.tables e below (s₁.setTop (mkF m 5 #[.val (.int p1), .val (.int p2), .val v3] [(.int p1)])) t
    refine XS.iloadN X0.here hx rfl (Jvm.hb hby d19_5) rfl ?_
    show Steps p.tables e below (s₁.setTop (mkF m 6 #[.val (.int p1), .val (.int p2), .val v3] [(.int p2), (.int p1)])) t
    exact k
  have hc5 : p1 < p2 := hu
  have K6 : ∀ t, Steps p.tables e below (s₁.setTop (mkF m 16 #[.val (.int p1), .val (.int p2), .val v3] [])) t → Steps p.tables e below (s₁.setTop (mkF m 6 #[.val (.int p1), .val (.int p2), .val v3] [(.int p2), (.int p1)])) t := by
    intro t k
    refine XS.icmpYes X0.here hx rfl (pc0 := 6) (pc' := 16) rfl (Jvm.hb hby d19_6) rfl (tlt hc5).1 (by decide) (by decide) ?_
    exact k
  have K7 : ∀ t, Steps p.tables e below (s₁.setTop (mkF m 17 #[.val (.int p1), .val (.int p2), .val v3] [(.int p1)])) t → Steps p.tables e below (s₁.setTop (mkF m 16 #[.val (.int p1), .val (.int p2), .val v3] [])) t := by
    intro t k
    refine XS.iloadN X0.here hx rfl (Jvm.hb hby d19_16) rfl ?_
    show Steps p.tables e below (s₁.setTop (mkF m 17 #[.val (.int p1), .val (.int p2), .val v3] [(.int p1)])) t
    exact k
  obtain ⟨fs, hr, hrun, hended, hW, hsame⟩ := X0.leave (v := some (.int p1)) (fun h => by rw [Bd.returns] at h; cases h) Bd.notSynchronized
  refine ⟨_, _, pre0 _ (K1 _ (K3 _ (K4 _ (K6 _ (K7 _ (retI X0 hx Bd.returns (Jvm.hb hby d19_17) hr)))))), hrun, hended, _, _, rfl, ?_, ⟨_, rfl⟩, hW, hsame.mono (by decide) (by decide)⟩
  show Q19 Z p1 p2 v3 h0 n0 _ s₁.heap _
  rw [e0]
  exact ⟨congrArg (fun z => some (Value.int z)) (show p1 = f19 p1 from Eq.symm (rfl)), N0, rfl⟩
-- body 18: java/lang/String.checkIndex(II)V
theorem d18_0 : decode jdk_42_method_155_code 0 = .ok (.iload_n 0, 1) := by decide +kernel
theorem d18_1 : decode jdk_42_method_155_code 1 = .ok (.iload_n 1, 1) := by decide +kernel
theorem d18_2 : decode jdk_42_method_155_code 2 = .ok (.getstatic 1053, 3) := by decide +kernel
theorem d18_5 : decode jdk_42_method_155_code 5 = .ok (.invokestatic 1059, 3) := by decide +kernel
theorem d18_8 : decode jdk_42_method_155_code 8 = .ok (.pop, 1) := by decide +kernel
theorem d18_9 : decode jdk_42_method_155_code 9 = .ok (.return_, 1) := by decide +kernel
theorem pn_18 : plainName "java/lang/String" = true := by first | (simp [plainName, overriddenIn]; done) | decide +kernel
theorem pd_17 : parseMethodDescriptor "(IILjava/util/function/BiFunction;)I" = some ⟨[.int, .int, (.object "java/util/function/BiFunction")], some .int⟩ := by decide +kernel
theorem ef_18 (m : MethodId) (p1 : Int32) (p2 : Int32) : entryFrame m #[(.int p1), (.int p2)] 2 = mkF m 0 #[.val (.int p1), .val (.int p2)] [] := by first | (simp [entryFrame, mkF, argsToLocals, Value.category]; done) | rfl
def Q18 (Z : State) (p1 : Int32) (p2 : Int32) (w_SIOOBE_FORMATTER : Value) (h0 : Heap) (n0 : Nat) (v : Option Value) (h : Heap) (L : List Loc) : Prop := v = none ∧ Fr n0 L ∧ h = h0
set_option maxRecDepth 65536 in
set_option maxHeartbeats 40000000 in
theorem rm18 (l : Launch) (Z : State) (a0 : Array Value) (hw : ∀ d ∈ tables_1, d.before a0 Z = true) (ws : List Jvm.Cond) (p1 : Int32) (p2 : Int32) (w_SIOOBE_FORMATTER : Value) (h0 : Heap) (n0 : Nat) (Z0 : n0 ≤ h0.size) (hl : ¬ p1 < 0) (hu : p1 < p2) (hr_w_SIOOBE_FORMATTER : w_SIOOBE_FORMATTER.isRef = true) (S_SIOOBE_FORMATTER : Sta Z h0 "jdk/internal/util/Preconditions" "SIOOBE_FORMATTER" "Ljava/util/function/BiFunction;" w_SIOOBE_FORMATTER) :
    MetFree l (⟨"java/lang/String", "checkIndex", "(II)V"⟩ : MethodName) (head1 (Jvm.Cond.code (⟨"java/lang/String", "checkIndex", "(II)V"⟩ : MethodName) jdk_42_method_155_code 2 none :: ws) ({ frames := 1, cells := 0, slots := 0, locals := 14 } : Room)) (fun a U => a = #[(.int p1), (.int p2)] ∧ Z.Warmed39 U.vm ∧ U.heap = h0) (fun _ _ _ _ _ => True) (fun _ U o U' => ∃ v L, o = .returned v ∧ Q18 Z p1 p2 w_SIOOBE_FORMATTER h0 n0 v U'.heap L ∧ FrameEnd U o U' L ({ frames := 1, cells := 0, slots := 0, locals := 14 } : Room).cells ({ frames := 1, cells := 0, slots := 0, locals := 14 } : Room).slots) := by
  refine MetFree.of_bodySF (plainFor_of_name pn_18) hisR ?_
  intro p e s m args below meth c s₁ Bd hml0 hP hK
  obtain ⟨rfl, hZ, hh⟩ := hP
  have hx := Bd.exec
  have hby := Bd.bytes
  have hml : c.maxLocals = 2 := hml0
  have hown : s.vm.findClass "java/lang/String" = some m.cls := findClass_of_methodNamed Bd.named
  have hnm := (name_of_methodNamed Bd.named Bd.method).1
  have X0 : Stand p l e ({ frames := 1, cells := 0, slots := 0, locals := 14 } : Room) s m #[(.int p1), (.int p2)] below meth c s₁ [] 0 0 := Stand.of_body Bd
  have e0 : s₁.heap = h0 := by rw [← hh, Bd.state]; rfl
  have N0 := Fr.nil n0
  have pre0 : ∀ t, Steps p.tables e below (s₁.setTop (mkF m 0 #[.val (.int p1), .val (.int p2)] [])) t → Steps p.tables e below (s₁.setTop (entryFrame m #[(.int p1), (.int p2)] 2)) t := fun t k => castTop (ef_18 m p1 p2) k
  have K1 : ∀ t, Steps p.tables e below (s₁.setTop (mkF m 2 #[.val (.int p1), .val (.int p2)] [(.int p2), (.int p1)])) t → Steps p.tables e below (s₁.setTop (mkF m 0 #[.val (.int p1), .val (.int p2)] [])) t := by
    intro t k
    refine XS.iloadN X0.here hx rfl (Jvm.hb hby d18_0) rfl ?_
    show Steps p.tables e below (s₁.setTop (mkF m 1 #[.val (.int p1), .val (.int p2)] [(.int p1)])) t
    refine XS.iloadN X0.here hx rfl (Jvm.hb hby d18_1) rfl ?_
    show Steps p.tables e below (s₁.setTop (mkF m 2 #[.val (.int p1), .val (.int p2)] [(.int p2), (.int p1)])) t
    exact k
  obtain ⟨T2, X2, e2, st2⟩ := getS2 X0 hx hZ hown (host := "") (Or.inl (hw _ (List.mem_of_getElem? (i := 89) rfl))) Via.refl e0 S_SIOOBE_FORMATTER (g := (mkF m 2 #[.val (.int p1), .val (.int p2)] [(.int p2), (.int p1)])) rfl (Jvm.hb hby d18_2)
  have K3 : ∀ t, Steps p.tables e below (T2.setTop (mkF m 5 #[.val (.int p1), .val (.int p2)] [w_SIOOBE_FORMATTER, (.int p2), (.int p1)])) t → Steps p.tables e below (s₁.setTop (mkF m 2 #[.val (.int p1), .val (.int p2)] [(.int p2), (.int p1)])) t := fun t k => st2 _ k
  obtain ⟨_, _, ⟨T4, L4, k4, n4⟩, -, X4, ⟨Lc4, hQ4, l4, y4, z4⟩, st4⟩ := Jvm.LawKit.callS X2 hx (y := (⟨"jdk/internal/util/Preconditions", "checkIndex", "(IILjava/util/function/BiFunction;)I"⟩ : MethodName)) hown (mvT hZ (hw _ (List.mem_of_getElem? (i := 91) rfl))) (mvT hZ (hw _ (List.mem_of_getElem? (i := 92) rfl))) (mvT hZ (hw _ (List.mem_of_getElem? (i := 90) rfl))) (mvT hZ (hw _ (List.mem_of_getElem? (i := 93) rfl))) (by decide) (backOf (W := 0) (rm19 l Z a0 hw [] p1 p2 w_SIOOBE_FORMATTER h0 n0 Z0 hl hu hr_w_SIOOBE_FORMATTER) hZ (hw _ (List.mem_of_getElem? (i := 93) rfl)) (hw _ (List.mem_of_getElem? (i := 90) rfl)) (by decide) (by decide)) (g := (mkF m 5 #[.val (.int p1), .val (.int p2)] [w_SIOOBE_FORMATTER, (.int p2), (.int p1)])) rfl (by rw [hml]; rfl) (argsL := [(.int p1), (.int p2), w_SIOOBE_FORMATTER]) (rest := []) (lenOf pd_17 rfl) rfl (by show 2 * 0 + _ ≤ _; exact Nat.le_of_eq rfl) (Jvm.hb hby d18_5) (fun _ _ => ⟨rfl, e2, (by decide : 0 + 0 ≤ _), (by decide : 0 + 0 ≤ _)⟩)
  dsimp only [Pt.U, Pt.locs, Pt.cells, Pt.slots] at X4 l4 y4 z4 st4 hQ4
  subst l4 y4 z4
  obtain ⟨rfl, N4q, e4⟩ := hQ4
  have N4 := Fr.app N0 N4q
  have K5 : ∀ t, Steps p.tables e below (T4.setTop (mkF m 8 #[.val (.int p1), .val (.int p2)] [(.int (f19 p1))])) t → Steps p.tables e below (T2.setTop (mkF m 5 #[.val (.int p1), .val (.int p2)] [w_SIOOBE_FORMATTER, (.int p2), (.int p1)])) t := fun t k => st4 _ k
  have K6 : ∀ t, Steps p.tables e below (T4.setTop (mkF m 9 #[.val (.int p1), .val (.int p2)] [])) t → Steps p.tables e below (T4.setTop (mkF m 8 #[.val (.int p1), .val (.int p2)] [(.int (f19 p1))])) t := by
    intro t k
    refine XS.pop X4.here hx rfl (Jvm.hb hby d18_8) rfl rfl ?_
    show Steps p.tables e below (T4.setTop (mkF m 9 #[.val (.int p1), .val (.int p2)] [])) t
    exact k
  obtain ⟨fs, hr, hrun, hended, hW, hsame⟩ := X4.leave (v := none) (fun _ => rfl) Bd.notSynchronized
  refine ⟨_, _, pre0 _ (K1 _ (K3 _ (K5 _ (K6 _ (X4.returnOut hx Bd.returns (Jvm.hb hby d18_9) hr))))), hrun, hended, _, _, rfl, ?_, ⟨_, rfl⟩, hW, hsame.mono (by decide) (by decide)⟩
  show Q18 Z p1 p2 w_SIOOBE_FORMATTER h0 n0 _ T4.heap _
  rw [e4]
  exact ⟨rfl, N4, rfl⟩
-- body 17: java/lang/StringLatin1.charAt([BI)C
theorem d17_0 : decode jdk_43_method_2_code 0 = .ok (.iload_n 1, 1) := by decide +kernel
theorem d17_1 : decode jdk_43_method_2_code 1 = .ok (.aload_n 0, 1) := by decide +kernel
theorem d17_2 : decode jdk_43_method_2_code 2 = .ok (.arraylength, 1) := by decide +kernel
theorem d17_3 : decode jdk_43_method_2_code 3 = .ok (.invokestatic 9, 3) := by decide +kernel
theorem d17_6 : decode jdk_43_method_2_code 6 = .ok (.aload_n 0, 1) := by decide +kernel
theorem d17_7 : decode jdk_43_method_2_code 7 = .ok (.iload_n 1, 1) := by decide +kernel
theorem d17_8 : decode jdk_43_method_2_code 8 = .ok (.baload, 1) := by decide +kernel
theorem d17_9 : decode jdk_43_method_2_code 9 = .ok (.sipush 255, 3) := by decide +kernel
theorem d17_12 : decode jdk_43_method_2_code 12 = .ok (.iand, 1) := by decide +kernel
theorem d17_13 : decode jdk_43_method_2_code 13 = .ok (.i2c, 1) := by decide +kernel
theorem d17_14 : decode jdk_43_method_2_code 14 = .ok (.ireturn, 1) := by decide +kernel
theorem pn_17 : plainName "java/lang/StringLatin1" = true := by first | (simp [plainName, overriddenIn]; done) | decide +kernel
theorem pd_16 : parseMethodDescriptor "(II)V" = some ⟨[.int, .int], none⟩ := by decide +kernel
theorem ef_17 (m : MethodId) (a1 : Addr) (p2 : Int32) : entryFrame m #[(.ref a1), (.int p2)] 2 = mkF m 0 #[.val (.ref a1), .val (.int p2)] [] := by first | (simp [entryFrame, mkF, argsToLocals, Value.category]; done) | rfl
def f17 (p2 : Int32) (f_a1 : Int32 → Int32) : Int32 := (nar .char (((f_a1 p2) &&& (255 : Int32)).toUInt32.toUInt16.toUInt32.toInt32))
def Q17 (Z : State) (a1 : Addr) (p2 : Int32) (n_a1 : Int32) (f_a1 : Int32 → Int32) (w_SIOOBE_FORMATTER : Value) (h0 : Heap) (n0 : Nat) (v : Option Value) (h : Heap) (L : List Loc) : Prop := v = some (.int (f17 p2 f_a1)) ∧ Fr n0 L ∧ h = h0
set_option maxRecDepth 65536 in
set_option maxHeartbeats 40000000 in
theorem rm17 (l : Launch) (Z : State) (a0 : Array Value) (hw : ∀ d ∈ tables_1, d.before a0 Z = true) (ws : List Jvm.Cond) (a1 : Addr) (p2 : Int32) (n_a1 : Int32) (f_a1 : Int32 → Int32) (w_SIOOBE_FORMATTER : Value) (h0 : Heap) (n0 : Nat) (Z0 : n0 ≤ h0.size) (hl : ¬ p2 < 0) (hu : p2 < n_a1) (A_a1 : Ia Z h0 a1 .byte n_a1 f_a1) (hr_w_SIOOBE_FORMATTER : w_SIOOBE_FORMATTER.isRef = true) (S_SIOOBE_FORMATTER : Sta Z h0 "jdk/internal/util/Preconditions" "SIOOBE_FORMATTER" "Ljava/util/function/BiFunction;" w_SIOOBE_FORMATTER) :
    MetFree l (⟨"java/lang/StringLatin1", "charAt", "([BI)C"⟩ : MethodName) (head1 (Jvm.Cond.code (⟨"java/lang/StringLatin1", "charAt", "([BI)C"⟩ : MethodName) jdk_43_method_2_code 2 (some .char) :: ws) ({ frames := 2, cells := 0, slots := 0, locals := 27 } : Room)) (fun a U => a = #[(.ref a1), (.int p2)] ∧ Z.Warmed39 U.vm ∧ U.heap = h0) (fun _ _ _ _ _ => True) (fun _ U o U' => ∃ v L, o = .returned v ∧ Q17 Z a1 p2 n_a1 f_a1 w_SIOOBE_FORMATTER h0 n0 v U'.heap L ∧ FrameEnd U o U' L ({ frames := 2, cells := 0, slots := 0, locals := 27 } : Room).cells ({ frames := 2, cells := 0, slots := 0, locals := 27 } : Room).slots) := by
  refine MetFree.of_bodySF (plainFor_of_name pn_17) hisR ?_
  intro p e s m args below meth c s₁ Bd hml0 hP hK
  obtain ⟨rfl, hZ, hh⟩ := hP
  have hx := Bd.exec
  have hby := Bd.bytes
  have hml : c.maxLocals = 2 := hml0
  have hown : s.vm.findClass "java/lang/StringLatin1" = some m.cls := findClass_of_methodNamed Bd.named
  have hnm := (name_of_methodNamed Bd.named Bd.method).1
  have X0 : Stand p l e ({ frames := 2, cells := 0, slots := 0, locals := 27 } : Room) s m #[(.ref a1), (.int p2)] below meth c s₁ [] 0 0 := Stand.of_body Bd
  have e0 : s₁.heap = h0 := by rw [← hh, Bd.state]; rfl
  have N0 := Fr.nil n0
  have pre0 : ∀ t, Steps p.tables e below (s₁.setTop (mkF m 0 #[.val (.ref a1), .val (.int p2)] [])) t → Steps p.tables e below (s₁.setTop (entryFrame m #[(.ref a1), (.int p2)] 2)) t := fun t k => castTop (ef_17 m a1 p2) k
  have K5 : ∀ t, Steps p.tables e below (s₁.setTop (mkF m 2 #[.val (.ref a1), .val (.int p2)] [(.ref a1), (.int p2)])) t → Steps p.tables e below (s₁.setTop (mkF m 0 #[.val (.ref a1), .val (.int p2)] [])) t := by
    intro t k
    refine XS.iloadN X0.here hx rfl (Jvm.hb hby d17_0) rfl ?_
    show Steps p.tables e below (s₁.setTop (mkF m 1 #[.val (.ref a1), .val (.int p2)] [(.int p2)])) t
    refine XS.aloadN X0.here hx rfl (Jvm.hb hby d17_1) rfl rfl ?_
    show Steps p.tables e below (s₁.setTop (mkF m 2 #[.val (.ref a1), .val (.int p2)] [(.ref a1), (.int p2)])) t
    exact k
  obtain ⟨cl1, Aq2, sq3, nq4⟩ := Ia.len A_a1
  have K6 : ∀ t, Steps p.tables e below (s₁.setTop (mkF m 3 #[.val (.ref a1), .val (.int p2)] [(.int n_a1), (.int p2)])) t → Steps p.tables e below (s₁.setTop (mkF m 2 #[.val (.ref a1), .val (.int p2)] [(.ref a1), (.int p2)])) t := by
    intro t k
    refine X0.arraylength hx (by rw [e0]; exact Aq2.1) (State.isArrayOf_alike hZ.alike Aq2.2.1) (g := (mkF m 2 #[.val (.ref a1), .val (.int p2)] [(.ref a1), (.int p2)])) rfl rfl (Jvm.hb hby d17_2) _ ?_
    rw [len_of sq3 nq4]
    show Steps p.tables e below (s₁.setTop (mkF m 3 #[.val (.ref a1), .val (.int p2)] [(.int n_a1), (.int p2)])) t
    exact k
  obtain ⟨_, _, ⟨T7, L7, k7, n7⟩, -, X7, ⟨Lc7, hQ7, l7, y7, z7⟩, st7⟩ := Jvm.LawKit.callS X0 hx (y := (⟨"java/lang/String", "checkIndex", "(II)V"⟩ : MethodName)) hown (mvT hZ (hw _ (List.mem_of_getElem? (i := 86) rfl))) (mvT hZ (hw _ (List.mem_of_getElem? (i := 87) rfl))) (mvT hZ (hw _ (List.mem_of_getElem? (i := 17) rfl))) (mvT hZ (hw _ (List.mem_of_getElem? (i := 88) rfl))) (by decide) (backOf (W := 0) (rm18 l Z a0 hw [] p2 n_a1 w_SIOOBE_FORMATTER h0 n0 Z0 hl hu hr_w_SIOOBE_FORMATTER S_SIOOBE_FORMATTER) hZ (hw _ (List.mem_of_getElem? (i := 88) rfl)) (hw _ (List.mem_of_getElem? (i := 17) rfl)) (by decide) (by decide)) (g := (mkF m 3 #[.val (.ref a1), .val (.int p2)] [(.int n_a1), (.int p2)])) rfl (by rw [hml]; rfl) (argsL := [(.int p2), (.int n_a1)]) (rest := []) (lenOf pd_16 rfl) rfl (by show 2 * 0 + _ ≤ _; exact Nat.le_of_eq rfl) (Jvm.hb hby d17_3) (fun _ _ => ⟨rfl, e0, (by decide : 0 + 0 ≤ _), (by decide : 0 + 0 ≤ _)⟩)
  dsimp only [Pt.U, Pt.locs, Pt.cells, Pt.slots] at X7 l7 y7 z7 st7 hQ7
  subst l7 y7 z7
  obtain ⟨rfl, N7q, e7⟩ := hQ7
  have N7 := Fr.app N0 N7q
  have K8 : ∀ t, Steps p.tables e below (T7.setTop (mkF m 6 #[.val (.ref a1), .val (.int p2)] [])) t → Steps p.tables e below (s₁.setTop (mkF m 3 #[.val (.ref a1), .val (.int p2)] [(.int n_a1), (.int p2)])) t := fun t k => st7 _ k
  have K13 : ∀ t, Steps p.tables e below (T7.setTop (mkF m 8 #[.val (.ref a1), .val (.int p2)] [(.int p2), (.ref a1)])) t → Steps p.tables e below (T7.setTop (mkF m 6 #[.val (.ref a1), .val (.int p2)] [])) t := by
    intro t k
    refine XS.aloadN X7.here hx rfl (Jvm.hb hby d17_6) rfl rfl ?_
    show Steps p.tables e below (T7.setTop (mkF m 7 #[.val (.ref a1), .val (.int p2)] [(.ref a1)])) t
    refine XS.iloadN X7.here hx rfl (Jvm.hb hby d17_7) rfl ?_
    show Steps p.tables e below (T7.setTop (mkF m 8 #[.val (.ref a1), .val (.int p2)] [(.int p2), (.ref a1)])) t
    exact k
  have hin9 : ¬ p2 < 0 ∧ p2 < n_a1 := by exact ⟨hl, hu⟩
  obtain ⟨cl10, Aq11, hjhin9, aq12⟩ := Ia.at A_a1 hin9
  have K14 : ∀ t, Steps p.tables e below (T7.setTop (mkF m 14 #[.val (.ref a1), .val (.int p2)] [(.int (((f_a1 p2) &&& (255 : Int32)).toUInt32.toUInt16.toUInt32.toInt32))])) t → Steps p.tables e below (T7.setTop (mkF m 8 #[.val (.ref a1), .val (.int p2)] [(.int p2), (.ref a1)])) t := by
    intro t k
    refine X7.baloadBytes hx (j := p2) (v := .int (f_a1 p2)) (by rw [e7]; exact Aq11.1) (State.isArrayOf_alike hZ.alike Aq11.2.1) Aq11.2.2 hjhin9 aq12 (g := (mkF m 8 #[.val (.ref a1), .val (.int p2)] [(.int p2), (.ref a1)])) rfl rfl (Jvm.hb hby d17_8) _ ?_
    show Steps p.tables e below (T7.setTop (mkF m 9 #[.val (.ref a1), .val (.int p2)] [(.int (f_a1 p2))])) t
    refine XS.sipush X7.here hx rfl (Jvm.hb hby d17_9) ?_
    show Steps p.tables e below (T7.setTop (mkF m 12 #[.val (.ref a1), .val (.int p2)] [(.int (255 : Int32)), (.int (f_a1 p2))])) t
    refine XS.iand X7.here hx rfl (Jvm.hb hby d17_12) rfl ?_
    show Steps p.tables e below (T7.setTop (mkF m 13 #[.val (.ref a1), .val (.int p2)] [(.int ((f_a1 p2) &&& (255 : Int32)))])) t
    refine XS.i2c X7.here hx rfl (Jvm.hb hby d17_13) rfl ?_
    show Steps p.tables e below (T7.setTop (mkF m 14 #[.val (.ref a1), .val (.int p2)] [(.int (((f_a1 p2) &&& (255 : Int32)).toUInt32.toUInt16.toUInt32.toInt32))])) t
    exact k
  obtain ⟨fs, hr, hrun, hended, hW, hsame⟩ := X7.leave (v := some (.int (nar .char (((f_a1 p2) &&& (255 : Int32)).toUInt32.toUInt16.toUInt32.toInt32)))) (fun h => by rw [Bd.returns] at h; cases h) Bd.notSynchronized
  refine ⟨_, _, pre0 _ (K5 _ (K6 _ (K8 _ (K13 _ (K14 _ (retN X7 hx (t := .char) Bd.returns (by simp) (Jvm.hb hby d17_14) hr)))))), hrun, hended, _, _, rfl, ?_, ⟨_, rfl⟩, hW, hsame.mono (by decide) (by decide)⟩
  show Q17 Z a1 p2 n_a1 f_a1 w_SIOOBE_FORMATTER h0 n0 _ T7.heap _
  rw [e7]
  exact ⟨congrArg (fun z => some (Value.int z)) (show (nar .char (((f_a1 p2) &&& (255 : Int32)).toUInt32.toUInt16.toUInt32.toInt32)) = f17 p2 f_a1 from Eq.symm (rfl)), N7, rfl⟩
-- body 15: java/lang/String.charAt(I)C
theorem d15_0 : decode jdk_42_method_56_code 0 = .ok (.aload_n 0, 1) := by decide +kernel
theorem d15_1 : decode jdk_42_method_56_code 1 = .ok (.invokevirtual 492, 3) := by decide +kernel
theorem d15_4 : decode jdk_42_method_56_code 4 = .ok (.ifCond .eq 12, 3) := by decide +kernel
theorem d15_7 : decode jdk_42_method_56_code 7 = .ok (.aload_n 0, 1) := by decide +kernel
theorem d15_8 : decode jdk_42_method_56_code 8 = .ok (.getfield 9, 3) := by decide +kernel
theorem d15_11 : decode jdk_42_method_56_code 11 = .ok (.iload_n 1, 1) := by decide +kernel
theorem d15_12 : decode jdk_42_method_56_code 12 = .ok (.invokestatic 495, 3) := by decide +kernel
theorem d15_15 : decode jdk_42_method_56_code 15 = .ok (.ireturn, 1) := by decide +kernel
theorem pn_15 : plainName "java/lang/String" = true := by first | (simp [plainName, overriddenIn]; done) | decide +kernel
theorem pd_14 : parseMethodDescriptor "()Z" = some ⟨[], some .boolean⟩ := by decide +kernel
theorem pd_15 : parseMethodDescriptor "([BI)C" = some ⟨[(.array .byte), .int], some .char⟩ := by decide +kernel
theorem ef_15 (m : MethodId) (a1 : Addr) (p2 : Int32) : entryFrame m #[(.ref a1), (.int p2)] 2 = mkF m 0 #[.val (.ref a1), .val (.int p2)] [] := by first | (simp [entryFrame, mkF, argsToLocals, Value.category]; done) | rfl
def f15 (p2 : Int32) (f_v_value_a1 : Int32 → Int32) : Int32 := (nar .char (f17 p2 f_v_value_a1))
def Q15 (Z : State) (a1 : Addr) (p2 : Int32) (w_COMPACT_STRINGS : Int32) (v_value_a1 : Addr) (n_v_value_a1 : Int32) (f_v_value_a1 : Int32 → Int32) (w_SIOOBE_FORMATTER : Value) (h0 : Heap) (n0 : Nat) (v : Option Value) (h : Heap) (L : List Loc) : Prop := v = some (.int (f15 p2 f_v_value_a1)) ∧ Fr n0 L ∧ h = h0
set_option maxRecDepth 65536 in
set_option maxHeartbeats 40000000 in
theorem rm15 (l : Launch) (Z : State) (a0 : Array Value) (hw : ∀ d ∈ tables_1, d.before a0 Z = true) (ws : List Jvm.Cond) (a1 : Addr) (p2 : Int32) (w_COMPACT_STRINGS : Int32) (v_value_a1 : Addr) (n_v_value_a1 : Int32) (f_v_value_a1 : Int32 → Int32) (w_SIOOBE_FORMATTER : Value) (h0 : Heap) (n0 : Nat) (Z0 : n0 ≤ h0.size) (hl : ¬ p2 < 0) (hu : p2 < n_v_value_a1) (E_a1 : Exa Z h0 a1 "java/lang/String") (S_COMPACT_STRINGS : Sta Z h0 "java/lang/String" "COMPACT_STRINGS" "Z" (.int w_COMPACT_STRINGS)) (F_coder_a1 : Fld Z h0 a1 "java/lang/String" "coder" "B" (.int (0 : Int32))) (hcs : ¬ (w_COMPACT_STRINGS = 0)) (F_value_a1 : Fld Z h0 a1 "java/lang/String" "value" "[B" (.ref v_value_a1)) (A_v_value_a1 : Ia Z h0 v_value_a1 .byte n_v_value_a1 f_v_value_a1) (hr_w_SIOOBE_FORMATTER : w_SIOOBE_FORMATTER.isRef = true) (S_SIOOBE_FORMATTER : Sta Z h0 "jdk/internal/util/Preconditions" "SIOOBE_FORMATTER" "Ljava/util/function/BiFunction;" w_SIOOBE_FORMATTER) :
    MetFree l (⟨"java/lang/String", "charAt", "(I)C"⟩ : MethodName) (head1 (Jvm.Cond.code (⟨"java/lang/String", "charAt", "(I)C"⟩ : MethodName) jdk_42_method_56_code 2 (some .char) :: ws) ({ frames := 3, cells := 0, slots := 0, locals := 40 } : Room)) (fun a U => a = #[(.ref a1), (.int p2)] ∧ Z.Warmed39 U.vm ∧ U.heap = h0) (fun _ _ _ _ _ => True) (fun _ U o U' => ∃ v L, o = .returned v ∧ Q15 Z a1 p2 w_COMPACT_STRINGS v_value_a1 n_v_value_a1 f_v_value_a1 w_SIOOBE_FORMATTER h0 n0 v U'.heap L ∧ FrameEnd U o U' L ({ frames := 3, cells := 0, slots := 0, locals := 40 } : Room).cells ({ frames := 3, cells := 0, slots := 0, locals := 40 } : Room).slots) := by
  refine MetFree.of_bodySF (plainFor_of_name pn_15) hisR ?_
  intro p e s m args below meth c s₁ Bd hml0 hP hK
  obtain ⟨rfl, hZ, hh⟩ := hP
  have hx := Bd.exec
  have hby := Bd.bytes
  have hml : c.maxLocals = 2 := hml0
  have hown : s.vm.findClass "java/lang/String" = some m.cls := findClass_of_methodNamed Bd.named
  have hnm := (name_of_methodNamed Bd.named Bd.method).1
  have X0 : Stand p l e ({ frames := 3, cells := 0, slots := 0, locals := 40 } : Room) s m #[(.ref a1), (.int p2)] below meth c s₁ [] 0 0 := Stand.of_body Bd
  have e0 : s₁.heap = h0 := by rw [← hh, Bd.state]; rfl
  have N0 := Fr.nil n0
  have pre0 : ∀ t, Steps p.tables e below (s₁.setTop (mkF m 0 #[.val (.ref a1), .val (.int p2)] [])) t → Steps p.tables e below (s₁.setTop (entryFrame m #[(.ref a1), (.int p2)] 2)) t := fun t k => castTop (ef_15 m a1 p2) k
  have K1 : ∀ t, Steps p.tables e below (s₁.setTop (mkF m 1 #[.val (.ref a1), .val (.int p2)] [(.ref a1)])) t → Steps p.tables e below (s₁.setTop (mkF m 0 #[.val (.ref a1), .val (.int p2)] [])) t := by
    intro t k
    refine XS.aloadN X0.here hx rfl (Jvm.hb hby d15_0) rfl rfl ?_
    show Steps p.tables e below (s₁.setTop (mkF m 1 #[.val (.ref a1), .val (.int p2)] [(.ref a1)])) t
    exact k
  obtain ⟨cq2, kq2, q2a, q2b, q2c⟩ := isOf hZ e0 E_a1
  obtain ⟨_, _, ⟨T2, L2, k2, n2⟩, -, X2, ⟨Lc2, hQ2, l2, y2, z2⟩, st2⟩ := X0.virtualBack hx (y := (⟨"java/lang/String", "isLatin1", "()Z"⟩ : MethodName)) (z := (⟨"java/lang/String", "isLatin1", "()Z"⟩ : MethodName)) hown (mvT hZ (hw _ (List.mem_of_getElem? (i := 77) rfl))) (mvT hZ (hw _ (List.mem_of_getElem? (i := 78) rfl))) (notFace_of_selects (args := #[]) (mvT hZ (hw _ (List.mem_of_getElem? (i := 80) rfl)))) (mvT hZ (hw _ (List.mem_of_getElem? (i := 80) rfl))) (mvT hZ (hw _ (List.mem_of_getElem? (i := 79) rfl))) (by decide) (backOf (W := 0) (rm16 l Z a0 hw [] a1 w_COMPACT_STRINGS h0 n0 Z0 hcs S_COMPACT_STRINGS F_coder_a1) hZ (hw _ (List.mem_of_getElem? (i := 81) rfl)) (hw _ (List.mem_of_getElem? (i := 17) rfl)) (by decide) (by decide)) q2a q2c (g := (mkF m 1 #[.val (.ref a1), .val (.int p2)] [(.ref a1)])) rfl (by rw [hml]; rfl) (Steps.refl _) (argsL := []) (rest := []) (lenOf pd_14 rfl) rfl (by show 2 * 0 + _ ≤ _; exact Nat.le_of_eq rfl) (Jvm.hb hby d15_1) (fun _ _ => ⟨rfl, e0, (by decide : 0 + 0 ≤ _), (by decide : 0 + 0 ≤ _)⟩)
  dsimp only [Pt.U, Pt.locs, Pt.cells, Pt.slots] at X2 l2 y2 z2 st2 hQ2
  subst l2 y2 z2
  obtain ⟨rfl, N2q, e2⟩ := hQ2
  have N2 := Fr.app N0 N2q
  have K3 : ∀ t, Steps p.tables e below (T2.setTop (mkF m 4 #[.val (.ref a1), .val (.int p2)] [(.int f16)])) t → Steps p.tables e below (s₁.setTop (mkF m 1 #[.val (.ref a1), .val (.int p2)] [(.ref a1)])) t := fun t k => st2.trans k
  have hc4 : ¬ (f16 = (0 : Int32)) := (by decide)
  have K5 : ∀ t, Steps p.tables e below (T2.setTop (mkF m 7 #[.val (.ref a1), .val (.int p2)] [])) t → Steps p.tables e below (T2.setTop (mkF m 4 #[.val (.ref a1), .val (.int p2)] [(.int f16)])) t := by
    intro t k
    refine XS.ifNo X2.here hx rfl (Jvm.hb hby d15_4) rfl ((if0 _ _).trans (feq hc4).1) ?_
    exact k
  have K6 : ∀ t, Steps p.tables e below (T2.setTop (mkF m 8 #[.val (.ref a1), .val (.int p2)] [(.ref a1)])) t → Steps p.tables e below (T2.setTop (mkF m 7 #[.val (.ref a1), .val (.int p2)] [])) t := by
    intro t k
    refine XS.aloadN X2.here hx rfl (Jvm.hb hby d15_7) rfl rfl ?_
    show Steps p.tables e below (T2.setTop (mkF m 8 #[.val (.ref a1), .val (.int p2)] [(.ref a1)])) t
    exact k
  obtain ⟨T7, X7, e7, st7⟩ := getF X2 hx hZ hown (host := "") (Or.inl (hw _ (List.mem_of_getElem? (i := 42) rfl))) Via.refl e2 F_value_a1 (g := (mkF m 8 #[.val (.ref a1), .val (.int p2)] [(.ref a1)])) rfl rfl (Jvm.hb hby d15_8)
  have K8 : ∀ t, Steps p.tables e below (T7.setTop (mkF m 11 #[.val (.ref a1), .val (.int p2)] [(.ref v_value_a1)])) t → Steps p.tables e below (T2.setTop (mkF m 8 #[.val (.ref a1), .val (.int p2)] [(.ref a1)])) t := fun t k => st7 _ k
  have K9 : ∀ t, Steps p.tables e below (T7.setTop (mkF m 12 #[.val (.ref a1), .val (.int p2)] [(.int p2), (.ref v_value_a1)])) t → Steps p.tables e below (T7.setTop (mkF m 11 #[.val (.ref a1), .val (.int p2)] [(.ref v_value_a1)])) t := by
    intro t k
    refine XS.iloadN X7.here hx rfl (Jvm.hb hby d15_11) rfl ?_
    show Steps p.tables e below (T7.setTop (mkF m 12 #[.val (.ref a1), .val (.int p2)] [(.int p2), (.ref v_value_a1)])) t
    exact k
  obtain ⟨_, _, ⟨T10, L10, k10, n10⟩, -, X10, ⟨Lc10, hQ10, l10, y10, z10⟩, st10⟩ := Jvm.LawKit.callS X7 hx (y := (⟨"java/lang/StringLatin1", "charAt", "([BI)C"⟩ : MethodName)) hown (mvT hZ (hw _ (List.mem_of_getElem? (i := 82) rfl))) (mvT hZ (hw _ (List.mem_of_getElem? (i := 83) rfl))) (mvT hZ (hw _ (List.mem_of_getElem? (i := 84) rfl))) (mvT hZ (hw _ (List.mem_of_getElem? (i := 85) rfl))) (by decide) (backOf (W := 0) (rm17 l Z a0 hw [] v_value_a1 p2 n_v_value_a1 f_v_value_a1 w_SIOOBE_FORMATTER h0 n0 Z0 hl hu A_v_value_a1 hr_w_SIOOBE_FORMATTER S_SIOOBE_FORMATTER) hZ (hw _ (List.mem_of_getElem? (i := 85) rfl)) (hw _ (List.mem_of_getElem? (i := 84) rfl)) (by decide) (by decide)) (g := (mkF m 12 #[.val (.ref a1), .val (.int p2)] [(.int p2), (.ref v_value_a1)])) rfl (by rw [hml]; rfl) (argsL := [(.ref v_value_a1), (.int p2)]) (rest := []) (lenOf pd_15 rfl) rfl (by show 2 * 0 + _ ≤ _; exact Nat.le_of_eq rfl) (Jvm.hb hby d15_12) (fun _ _ => ⟨rfl, e7, (by decide : 0 + 0 ≤ _), (by decide : 0 + 0 ≤ _)⟩)
  dsimp only [Pt.U, Pt.locs, Pt.cells, Pt.slots] at X10 l10 y10 z10 st10 hQ10
  subst l10 y10 z10
  obtain ⟨rfl, N10q, e10⟩ := hQ10
  have N10 := Fr.app N2 N10q
  have K11 : ∀ t, Steps p.tables e below (T10.setTop (mkF m 15 #[.val (.ref a1), .val (.int p2)] [(.int (f17 p2 f_v_value_a1))])) t → Steps p.tables e below (T7.setTop (mkF m 12 #[.val (.ref a1), .val (.int p2)] [(.int p2), (.ref v_value_a1)])) t := fun t k => st10 _ k
  obtain ⟨fs, hr, hrun, hended, hW, hsame⟩ := X10.leave (v := some (.int (nar .char (f17 p2 f_v_value_a1)))) (fun h => by rw [Bd.returns] at h; cases h) Bd.notSynchronized
  refine ⟨_, _, pre0 _ (K1 _ (K3 _ (K5 _ (K6 _ (K8 _ (K9 _ (K11 _ (retN X10 hx (t := .char) Bd.returns (by simp) (Jvm.hb hby d15_15) hr)))))))), hrun, hended, _, _, rfl, ?_, ⟨_, rfl⟩, hW, hsame.mono (by decide) (by decide)⟩
  show Q15 Z a1 p2 w_COMPACT_STRINGS v_value_a1 n_v_value_a1 f_v_value_a1 w_SIOOBE_FORMATTER h0 n0 _ T10.heap _
  rw [e10]
  exact ⟨congrArg (fun z => some (Value.int z)) (show (nar .char (f17 p2 f_v_value_a1)) = f15 p2 f_v_value_a1 from Eq.symm (rfl)), N10, rfl⟩
-- body 12: com/example/clapboard/clapboard/parse/TextCursor.read(Ljava/lang/String;)Z
theorem d12_0 : decode prog_127_method_6_code 0 = .ok (.aload_n 0, 1) := by decide +kernel
theorem d12_1 : decode prog_127_method_6_code 1 = .ok (.getfield 17, 3) := by decide +kernel
theorem d12_4 : decode prog_127_method_6_code 4 = .ok (.aload_n 0, 1) := by decide +kernel
theorem d12_5 : decode prog_127_method_6_code 5 = .ok (.getfield 13, 3) := by decide +kernel
theorem d12_8 : decode prog_127_method_6_code 8 = .ok (.isub, 1) := by decide +kernel
theorem d12_9 : decode prog_127_method_6_code 9 = .ok (.aload_n 1, 1) := by decide +kernel
theorem d12_10 : decode prog_127_method_6_code 10 = .ok (.invokevirtual 25, 3) := by decide +kernel
theorem d12_13 : decode prog_127_method_6_code 13 = .ok (.if_icmp .ge 5, 3) := by decide +kernel
theorem d12_16 : decode prog_127_method_6_code 16 = .ok (.iconst 0, 1) := by decide +kernel
theorem d12_17 : decode prog_127_method_6_code 17 = .ok (.ireturn, 1) := by decide +kernel
theorem d12_18 : decode prog_127_method_6_code 18 = .ok (.iconst 0, 1) := by decide +kernel
theorem d12_19 : decode prog_127_method_6_code 19 = .ok (.istore_n 2, 1) := by decide +kernel
theorem d12_20 : decode prog_127_method_6_code 20 = .ok (.iload_n 2, 1) := by decide +kernel
theorem d12_21 : decode prog_127_method_6_code 21 = .ok (.aload_n 1, 1) := by decide +kernel
theorem d12_22 : decode prog_127_method_6_code 22 = .ok (.invokevirtual 25, 3) := by decide +kernel
theorem d12_25 : decode prog_127_method_6_code 25 = .ok (.if_icmp .ge 30, 3) := by decide +kernel
theorem d12_28 : decode prog_127_method_6_code 28 = .ok (.aload_n 0, 1) := by decide +kernel
theorem d12_29 : decode prog_127_method_6_code 29 = .ok (.getfield 7, 3) := by decide +kernel
theorem d12_32 : decode prog_127_method_6_code 32 = .ok (.aload_n 0, 1) := by decide +kernel
theorem d12_33 : decode prog_127_method_6_code 33 = .ok (.getfield 13, 3) := by decide +kernel
theorem d12_36 : decode prog_127_method_6_code 36 = .ok (.iload_n 2, 1) := by decide +kernel
theorem d12_37 : decode prog_127_method_6_code 37 = .ok (.iadd, 1) := by decide +kernel
theorem d12_38 : decode prog_127_method_6_code 38 = .ok (.caload, 1) := by decide +kernel
theorem d12_39 : decode prog_127_method_6_code 39 = .ok (.aload_n 1, 1) := by decide +kernel
theorem d12_40 : decode prog_127_method_6_code 40 = .ok (.iload_n 2, 1) := by decide +kernel
theorem d12_41 : decode prog_127_method_6_code 41 = .ok (.invokevirtual 29, 3) := by decide +kernel
theorem d12_44 : decode prog_127_method_6_code 44 = .ok (.if_icmp .eq 5, 3) := by decide +kernel
theorem d12_47 : decode prog_127_method_6_code 47 = .ok (.iconst 0, 1) := by decide +kernel
theorem d12_48 : decode prog_127_method_6_code 48 = .ok (.ireturn, 1) := by decide +kernel
theorem d12_49 : decode prog_127_method_6_code 49 = .ok (.iinc 2 1, 3) := by decide +kernel
theorem d12_52 : decode prog_127_method_6_code 52 = .ok (.goto (-32), 3) := by decide +kernel
theorem d12_55 : decode prog_127_method_6_code 55 = .ok (.aload_n 0, 1) := by decide +kernel
theorem d12_56 : decode prog_127_method_6_code 56 = .ok (.dup, 1) := by decide +kernel
theorem d12_57 : decode prog_127_method_6_code 57 = .ok (.getfield 13, 3) := by decide +kernel
theorem d12_60 : decode prog_127_method_6_code 60 = .ok (.aload_n 1, 1) := by decide +kernel
theorem d12_61 : decode prog_127_method_6_code 61 = .ok (.invokevirtual 25, 3) := by decide +kernel
theorem d12_64 : decode prog_127_method_6_code 64 = .ok (.iadd, 1) := by decide +kernel
theorem d12_65 : decode prog_127_method_6_code 65 = .ok (.putfield 13, 3) := by decide +kernel
theorem d12_68 : decode prog_127_method_6_code 68 = .ok (.iconst 1, 1) := by decide +kernel
theorem d12_69 : decode prog_127_method_6_code 69 = .ok (.ireturn, 1) := by decide +kernel
theorem pn_12 : plainName "com/example/clapboard/clapboard/parse/TextCursor" = true := by first | (simp [plainName, overriddenIn]; done) | decide +kernel
theorem pd_11 : parseMethodDescriptor "()I" = some ⟨[], some .int⟩ := by decide +kernel
theorem pd_13 : parseMethodDescriptor "(I)C" = some ⟨[.int], some .char⟩ := by decide +kernel
theorem ef_12 (m : MethodId) (a1 : Addr) (a2 : Addr) : entryFrame m #[(.ref a1), (.ref a2)] 3 = mkF m 0 #[.val (.ref a1), .val (.ref a2), .unset] [] := by first | (simp [entryFrame, mkF, argsToLocals, Value.category]; done) | rfl
def f12_L (v_end_a1 : Int32) (v_at_a1 : Int32) (n_v_value_a2 : Int32) (f_v_value_a2 : Int32 → Int32) (f_v_text_a1 : Int32 → Int32) : Nat → (Int32) → (Int32) → Int32
  | 0, _, _ => 0
  | k + 1, i2, x_at => (if i2 < n_v_value_a2 then (if (f_v_text_a1 (x_at + i2)) = (f15 i2 f_v_value_a2) then (f12_L v_end_a1 v_at_a1 n_v_value_a2 f_v_value_a2 f_v_text_a1 k (i2 + (1 : Int32)) x_at) else (0 : Int32)) else (1 : Int32))
theorem f12_L_succ (v_end_a1 : Int32) (v_at_a1 : Int32) (n_v_value_a2 : Int32) (f_v_value_a2 : Int32 → Int32) (f_v_text_a1 : Int32 → Int32) (k : Nat) (i2 : Int32) (x_at : Int32) : f12_L v_end_a1 v_at_a1 n_v_value_a2 f_v_value_a2 f_v_text_a1 (k + 1) i2 x_at = (if i2 < n_v_value_a2 then (if (f_v_text_a1 (x_at + i2)) = (f15 i2 f_v_value_a2) then (f12_L v_end_a1 v_at_a1 n_v_value_a2 f_v_value_a2 f_v_text_a1 k (i2 + (1 : Int32)) x_at) else (0 : Int32)) else (1 : Int32)) := rfl
def f12_F_at_a1 (v_end_a1 : Int32) (v_at_a1 : Int32) (n_v_value_a2 : Int32) (f_v_value_a2 : Int32 → Int32) (f_v_text_a1 : Int32 → Int32) : Nat → (Int32) → (Int32) → Int32
  | 0, _, x_at => x_at
  | k + 1, i2, x_at => (if i2 < n_v_value_a2 then (if (f_v_text_a1 (x_at + i2)) = (f15 i2 f_v_value_a2) then (f12_F_at_a1 v_end_a1 v_at_a1 n_v_value_a2 f_v_value_a2 f_v_text_a1 k (i2 + (1 : Int32)) x_at) else x_at) else (x_at + n_v_value_a2))
theorem f12_F_at_a1_succ (v_end_a1 : Int32) (v_at_a1 : Int32) (n_v_value_a2 : Int32) (f_v_value_a2 : Int32 → Int32) (f_v_text_a1 : Int32 → Int32) (k : Nat) (i2 : Int32) (x_at : Int32) : f12_F_at_a1 v_end_a1 v_at_a1 n_v_value_a2 f_v_value_a2 f_v_text_a1 (k + 1) i2 x_at = (if i2 < n_v_value_a2 then (if (f_v_text_a1 (x_at + i2)) = (f15 i2 f_v_value_a2) then (f12_F_at_a1 v_end_a1 v_at_a1 n_v_value_a2 f_v_value_a2 f_v_text_a1 k (i2 + (1 : Int32)) x_at) else x_at) else (x_at + n_v_value_a2)) := rfl
def f12 (v_end_a1 : Int32) (v_at_a1 : Int32) (n_v_value_a2 : Int32) (f_v_value_a2 : Int32 → Int32) (f_v_text_a1 : Int32 → Int32) : Int32 := (if (v_end_a1 - v_at_a1) < n_v_value_a2 then (0 : Int32) else (f12_L v_end_a1 v_at_a1 n_v_value_a2 f_v_value_a2 f_v_text_a1 (n_v_value_a2.toNatClampNeg + 1) (0 : Int32) v_at_a1))
def f12_F_at_a10 (v_end_a1 : Int32) (v_at_a1 : Int32) (n_v_value_a2 : Int32) (f_v_value_a2 : Int32 → Int32) (f_v_text_a1 : Int32 → Int32) : Int32 := (if (v_end_a1 - v_at_a1) < n_v_value_a2 then v_at_a1 else (f12_F_at_a1 v_end_a1 v_at_a1 n_v_value_a2 f_v_value_a2 f_v_text_a1 (n_v_value_a2.toNatClampNeg + 1) (0 : Int32) v_at_a1))
def Q12 (Z : State) (a1 : Addr) (a2 : Addr) (v_end_a1 : Int32) (v_at_a1 : Int32) (v_value_a2 : Addr) (n_v_value_a2 : Int32) (f_v_value_a2 : Int32 → Int32) (w_COMPACT_STRINGS : Int32) (v_text_a1 : Addr) (n_v_text_a1 : Int32) (f_v_text_a1 : Int32 → Int32) (w_SIOOBE_FORMATTER : Value) (h0 : Heap) (n0 : Nat) (v : Option Value) (h : Heap) (L : List Loc) : Prop := v = some (.int (f12 v_end_a1 v_at_a1 n_v_value_a2 f_v_value_a2 f_v_text_a1)) ∧ Fr n0 L ∧ Keep h0 h [a1] ∧ Fld Z h a1 "com/example/clapboard/clapboard/parse/TextCursor" "end" "I" (.int v_end_a1) ∧ Fld Z h a1 "com/example/clapboard/clapboard/parse/TextCursor" "at" "I" (.int (f12_F_at_a10 v_end_a1 v_at_a1 n_v_value_a2 f_v_value_a2 f_v_text_a1)) ∧ Fld Z h a1 "com/example/clapboard/clapboard/parse/TextCursor" "text" "[C" (.ref v_text_a1) ∧ Exa Z h a1 "com/example/clapboard/clapboard/parse/TextCursor"
set_option maxRecDepth 65536 in
set_option maxHeartbeats 40000000 in
theorem rm12 (l : Launch) (Z : State) (a0 : Array Value) (hw : ∀ d ∈ tables_1, d.before a0 Z = true) (ws : List Jvm.Cond) (a1 : Addr) (a2 : Addr) (v_end_a1 : Int32) (v_at_a1 : Int32) (v_value_a2 : Addr) (n_v_value_a2 : Int32) (f_v_value_a2 : Int32 → Int32) (w_COMPACT_STRINGS : Int32) (v_text_a1 : Addr) (n_v_text_a1 : Int32) (f_v_text_a1 : Int32 → Int32) (w_SIOOBE_FORMATTER : Value) (h0 : Heap) (n0 : Nat) (Z0 : n0 ≤ h0.size) (hs : ¬ v_at_a1 < 0) (hle : ¬ v_end_a1 < v_at_a1) (he : ¬ n_v_text_a1 < v_end_a1) (F_end_a1 : Fld Z h0 a1 "com/example/clapboard/clapboard/parse/TextCursor" "end" "I" (.int v_end_a1)) (F_at_a1 : Fld Z h0 a1 "com/example/clapboard/clapboard/parse/TextCursor" "at" "I" (.int v_at_a1)) (E_a2 : Exa Z h0 a2 "java/lang/String") (F_value_a2 : Fld Z h0 a2 "java/lang/String" "value" "[B" (.ref v_value_a2)) (A_v_value_a2 : Ia Z h0 v_value_a2 .byte n_v_value_a2 f_v_value_a2) (S_COMPACT_STRINGS : Sta Z h0 "java/lang/String" "COMPACT_STRINGS" "Z" (.int w_COMPACT_STRINGS)) (F_coder_a2 : Fld Z h0 a2 "java/lang/String" "coder" "B" (.int (0 : Int32))) (hcs : ¬ (w_COMPACT_STRINGS = 0)) (F_text_a1 : Fld Z h0 a1 "com/example/clapboard/clapboard/parse/TextCursor" "text" "[C" (.ref v_text_a1)) (A_v_text_a1 : Ia Z h0 v_text_a1 .char n_v_text_a1 f_v_text_a1) (hr_w_SIOOBE_FORMATTER : w_SIOOBE_FORMATTER.isRef = true) (S_SIOOBE_FORMATTER : Sta Z h0 "jdk/internal/util/Preconditions" "SIOOBE_FORMATTER" "Ljava/util/function/BiFunction;" w_SIOOBE_FORMATTER) (E_a1 : Exa Z h0 a1 "com/example/clapboard/clapboard/parse/TextCursor") (g_a1 : n0 ≤ a1) :
    MetFree l (⟨"com/example/clapboard/clapboard/parse/TextCursor", "read", "(Ljava/lang/String;)Z"⟩ : MethodName) (head1 (Jvm.Cond.code (⟨"com/example/clapboard/clapboard/parse/TextCursor", "read", "(Ljava/lang/String;)Z"⟩ : MethodName) prog_127_method_6_code 3 (some .boolean) :: ws) ({ frames := 4, cells := 0, slots := 0, locals := 54 } : Room)) (fun a U => a = #[(.ref a1), (.ref a2)] ∧ Z.Warmed39 U.vm ∧ U.heap = h0) (fun _ _ _ _ _ => True) (fun _ U o U' => ∃ v L, o = .returned v ∧ Q12 Z a1 a2 v_end_a1 v_at_a1 v_value_a2 n_v_value_a2 f_v_value_a2 w_COMPACT_STRINGS v_text_a1 n_v_text_a1 f_v_text_a1 w_SIOOBE_FORMATTER h0 n0 v U'.heap L ∧ FrameEnd U o U' L ({ frames := 4, cells := 0, slots := 0, locals := 54 } : Room).cells ({ frames := 4, cells := 0, slots := 0, locals := 54 } : Room).slots) := by
  refine MetFree.of_bodySF (plainFor_of_name pn_12) hisR ?_
  intro p e s m args below meth c s₁ Bd hml0 hP hK
  obtain ⟨rfl, hZ, hh⟩ := hP
  have hx := Bd.exec
  have hby := Bd.bytes
  have hml : c.maxLocals = 3 := hml0
  have hown : s.vm.findClass "com/example/clapboard/clapboard/parse/TextCursor" = some m.cls := findClass_of_methodNamed Bd.named
  have hnm := (name_of_methodNamed Bd.named Bd.method).1
  have X0 : Stand p l e ({ frames := 4, cells := 0, slots := 0, locals := 54 } : Room) s m #[(.ref a1), (.ref a2)] below meth c s₁ [] 0 0 := Stand.of_body Bd
  have e0 : s₁.heap = h0 := by rw [← hh, Bd.state]; rfl
  have N0 := Fr.nil n0
  have pre0 : ∀ t, Steps p.tables e below (s₁.setTop (mkF m 0 #[.val (.ref a1), .val (.ref a2), .unset] [])) t → Steps p.tables e below (s₁.setTop (entryFrame m #[(.ref a1), (.ref a2)] 3)) t := fun t k => castTop (ef_12 m a1 a2) k
  have K1 : ∀ t, Steps p.tables e below (s₁.setTop (mkF m 1 #[.val (.ref a1), .val (.ref a2), .unset] [(.ref a1)])) t → Steps p.tables e below (s₁.setTop (mkF m 0 #[.val (.ref a1), .val (.ref a2), .unset] [])) t := by
    intro t k
    refine XS.aloadN X0.here hx rfl (Jvm.hb hby d12_0) rfl rfl ?_
    show Steps p.tables e below (s₁.setTop (mkF m 1 #[.val (.ref a1), .val (.ref a2), .unset] [(.ref a1)])) t
    exact k
  obtain ⟨T2, X2, e2, st2⟩ := getF X0 hx hZ hown (host := "") (Or.inl (hw _ (List.mem_of_getElem? (i := 55) rfl))) Via.refl e0 F_end_a1 (g := (mkF m 1 #[.val (.ref a1), .val (.ref a2), .unset] [(.ref a1)])) rfl rfl (Jvm.hb hby d12_1)
  have K3 : ∀ t, Steps p.tables e below (T2.setTop (mkF m 4 #[.val (.ref a1), .val (.ref a2), .unset] [(.int v_end_a1)])) t → Steps p.tables e below (s₁.setTop (mkF m 1 #[.val (.ref a1), .val (.ref a2), .unset] [(.ref a1)])) t := fun t k => st2 _ k
  have K4 : ∀ t, Steps p.tables e below (T2.setTop (mkF m 5 #[.val (.ref a1), .val (.ref a2), .unset] [(.ref a1), (.int v_end_a1)])) t → Steps p.tables e below (T2.setTop (mkF m 4 #[.val (.ref a1), .val (.ref a2), .unset] [(.int v_end_a1)])) t := by
    intro t k
    refine XS.aloadN X2.here hx rfl (Jvm.hb hby d12_4) rfl rfl ?_
    show Steps p.tables e below (T2.setTop (mkF m 5 #[.val (.ref a1), .val (.ref a2), .unset] [(.ref a1), (.int v_end_a1)])) t
    exact k
  obtain ⟨T5, X5, e5, st5⟩ := getF X2 hx hZ hown (host := "") (Or.inl (hw _ (List.mem_of_getElem? (i := 53) rfl))) Via.refl e2 F_at_a1 (g := (mkF m 5 #[.val (.ref a1), .val (.ref a2), .unset] [(.ref a1), (.int v_end_a1)])) rfl rfl (Jvm.hb hby d12_5)
  have K6 : ∀ t, Steps p.tables e below (T5.setTop (mkF m 8 #[.val (.ref a1), .val (.ref a2), .unset] [(.int v_at_a1), (.int v_end_a1)])) t → Steps p.tables e below (T2.setTop (mkF m 5 #[.val (.ref a1), .val (.ref a2), .unset] [(.ref a1), (.int v_end_a1)])) t := fun t k => st5 _ k
  have K7 : ∀ t, Steps p.tables e below (T5.setTop (mkF m 10 #[.val (.ref a1), .val (.ref a2), .unset] [(.ref a2), (.int (v_end_a1 - v_at_a1))])) t → Steps p.tables e below (T5.setTop (mkF m 8 #[.val (.ref a1), .val (.ref a2), .unset] [(.int v_at_a1), (.int v_end_a1)])) t := by
    intro t k
    refine XS.isub X5.here hx rfl (Jvm.hb hby d12_8) rfl ?_
    show Steps p.tables e below (T5.setTop (mkF m 9 #[.val (.ref a1), .val (.ref a2), .unset] [(.int (v_end_a1 - v_at_a1))])) t
    refine XS.aloadN X5.here hx rfl (Jvm.hb hby d12_9) rfl rfl ?_
    show Steps p.tables e below (T5.setTop (mkF m 10 #[.val (.ref a1), .val (.ref a2), .unset] [(.ref a2), (.int (v_end_a1 - v_at_a1))])) t
    exact k
  obtain ⟨cq8, kq8, q8a, q8b, q8c⟩ := isOf hZ e5 E_a2
  obtain ⟨_, _, ⟨T8, L8, k8, n8⟩, -, X8, ⟨Lc8, hQ8, l8, y8, z8⟩, st8⟩ := X5.virtualBack hx (y := (⟨"java/lang/String", "length", "()I"⟩ : MethodName)) (z := (⟨"java/lang/String", "length", "()I"⟩ : MethodName)) hown (mvT hZ (hw _ (List.mem_of_getElem? (i := 62) rfl))) (mvT hZ (hw _ (List.mem_of_getElem? (i := 63) rfl))) (notFace_of_selects (args := #[]) (mvT hZ (hw _ (List.mem_of_getElem? (i := 65) rfl)))) (mvT hZ (hw _ (List.mem_of_getElem? (i := 65) rfl))) (mvT hZ (hw _ (List.mem_of_getElem? (i := 64) rfl))) (by decide) (backOf (W := 1) (rm13 l Z a0 hw [] a2 v_value_a2 n_v_value_a2 f_v_value_a2 w_COMPACT_STRINGS h0 n0 Z0 F_value_a2 A_v_value_a2 E_a2 S_COMPACT_STRINGS F_coder_a2 hcs) hZ (hw _ (List.mem_of_getElem? (i := 66) rfl)) (hw _ (List.mem_of_getElem? (i := 17) rfl)) (by decide) (by decide)) q8a q8c (g := (mkF m 10 #[.val (.ref a1), .val (.ref a2), .unset] [(.ref a2), (.int (v_end_a1 - v_at_a1))])) rfl (by rw [hml]; rfl) (Steps.refl _) (argsL := []) (rest := [(.int (v_end_a1 - v_at_a1))]) (lenOf pd_11 rfl) rfl (by show 2 * 0 + _ ≤ _; exact Nat.le_of_eq rfl) (Jvm.hb hby d12_10) (fun _ _ => ⟨rfl, e5, (by decide : 0 + 0 ≤ _), (by decide : 0 + 0 ≤ _)⟩)
  dsimp only [Pt.U, Pt.locs, Pt.cells, Pt.slots] at X8 l8 y8 z8 st8 hQ8
  subst l8 y8 z8
  obtain ⟨rfl, N8q, e8⟩ := hQ8
  have N8 := Fr.app N0 N8q
  have K9 : ∀ t, Steps p.tables e below (T8.setTop (mkF m 13 #[.val (.ref a1), .val (.ref a2), .unset] [(.int n_v_value_a2), (.int (v_end_a1 - v_at_a1))])) t → Steps p.tables e below (T5.setTop (mkF m 10 #[.val (.ref a1), .val (.ref a2), .unset] [(.ref a2), (.int (v_end_a1 - v_at_a1))])) t := fun t k => st8.trans (by rw [show (f13 n_v_value_a2) = n_v_value_a2 from own_len _]; exact k)
  by_cases hc10 : (v_end_a1 - v_at_a1) < n_v_value_a2
  · have K11 : ∀ t, Steps p.tables e below (T8.setTop (mkF m 16 #[.val (.ref a1), .val (.ref a2), .unset] [])) t → Steps p.tables e below (T8.setTop (mkF m 13 #[.val (.ref a1), .val (.ref a2), .unset] [(.int n_v_value_a2), (.int (v_end_a1 - v_at_a1))])) t := by
      intro t k
      refine XS.icmpNo X8.here hx rfl (Jvm.hb hby d12_13) rfl (tlt hc10).2.1 ?_
      exact k
    have K12 : ∀ t, Steps p.tables e below (T8.setTop (mkF m 17 #[.val (.ref a1), .val (.ref a2), .unset] [(.int (0 : Int32))])) t → Steps p.tables e below (T8.setTop (mkF m 16 #[.val (.ref a1), .val (.ref a2), .unset] [])) t := by
      intro t k
      refine XS.iconst X8.here hx rfl (Jvm.hb hby d12_16) ?_
      show Steps p.tables e below (T8.setTop (mkF m 17 #[.val (.ref a1), .val (.ref a2), .unset] [(.int (0 : Int32))])) t
      exact k
    obtain ⟨fs, hr, hrun, hended, hW, hsame⟩ := X8.leave (v := some (.int (0 : Int32))) (fun h => by rw [Bd.returns] at h; cases h) Bd.notSynchronized
    refine ⟨_, _, pre0 _ (K1 _ (K3 _ (K4 _ (K6 _ (K7 _ (K9 _ (K11 _ (K12 _ (retN X8 hx (t := .boolean) Bd.returns (by simp) (Jvm.hb hby d12_17) hr))))))))), hrun, hended, _, _, rfl, ?_, ⟨_, rfl⟩, hW, hsame.mono (by decide) (by decide)⟩
    show Q12 Z a1 a2 v_end_a1 v_at_a1 v_value_a2 n_v_value_a2 f_v_value_a2 w_COMPACT_STRINGS v_text_a1 n_v_text_a1 f_v_text_a1 w_SIOOBE_FORMATTER h0 n0 _ T8.heap _
    rw [e8]
    exact ⟨congrArg (fun z => some (Value.int z)) (show (0 : Int32) = f12 v_end_a1 v_at_a1 n_v_value_a2 f_v_value_a2 f_v_text_a1 from Eq.symm (if_pos hc10)), N8, (Keep.refl h0 [a1]), F_end_a1, (by rw [show f12_F_at_a10 v_end_a1 v_at_a1 n_v_value_a2 f_v_value_a2 f_v_text_a1 = v_at_a1 from if_pos hc10]; exact F_at_a1), F_text_a1, E_a1⟩
  · have K13 : ∀ t, Steps p.tables e below (T8.setTop (mkF m 18 #[.val (.ref a1), .val (.ref a2), .unset] [])) t → Steps p.tables e below (T8.setTop (mkF m 13 #[.val (.ref a1), .val (.ref a2), .unset] [(.int n_v_value_a2), (.int (v_end_a1 - v_at_a1))])) t := by
      intro t k
      refine XS.icmpYes X8.here hx rfl (pc0 := 13) (pc' := 18) rfl (Jvm.hb hby d12_13) rfl (flt hc10).2.1 (by decide) (by decide) ?_
      exact k
    have K14 : ∀ t, Steps p.tables e below (T8.setTop (mkF m 20 #[.val (.ref a1), .val (.ref a2), .val (.int (0 : Int32))] [])) t → Steps p.tables e below (T8.setTop (mkF m 18 #[.val (.ref a1), .val (.ref a2), .unset] [])) t := by
      intro t k
      refine XS.iconst X8.here hx rfl (Jvm.hb hby d12_18) ?_
      show Steps p.tables e below (T8.setTop (mkF m 19 #[.val (.ref a1), .val (.ref a2), .unset] [(.int (0 : Int32))])) t
      refine XS.istoreN X8.here hx rfl (Jvm.hb hby d12_19) rfl (l' := #[.val (.ref a1), .val (.ref a2), .val (.int (0 : Int32))]) rfl ?_
      show Steps p.tables e below (T8.setTop (mkF m 20 #[.val (.ref a1), .val (.ref a2), .val (.int (0 : Int32))] [])) t
      exact k
    have LP : ∀ (k : Nat) (i2 : Int32) (x_at : Int32) (TL : State) (hL : Heap) (LL : List Loc), Stand p l e ({ frames := 4, cells := 0, slots := 0, locals := 54 } : Room) s m #[(.ref a1), (.ref a2)] below meth c TL LL 0 0 → TL.heap = hL → Fr n0 LL → Keep h0 hL [a1] → Fld Z hL a1 "com/example/clapboard/clapboard/parse/TextCursor" "end" "I" (.int v_end_a1) → Fld Z hL a1 "com/example/clapboard/clapboard/parse/TextCursor" "at" "I" (.int x_at) → Exa Z hL a2 "java/lang/String" → Fld Z hL a2 "java/lang/String" "value" "[B" (.ref v_value_a2) → Ia Z hL v_value_a2 .byte n_v_value_a2 f_v_value_a2 → Fld Z hL a2 "java/lang/String" "coder" "B" (.int (0 : Int32)) → Fld Z hL a1 "com/example/clapboard/clapboard/parse/TextCursor" "text" "[C" (.ref v_text_a1) → Ia Z hL v_text_a1 .char n_v_text_a1 f_v_text_a1 → Exa Z hL a1 "com/example/clapboard/clapboard/parse/TextCursor" → (¬ i2 < 0) → (¬ n_v_value_a2 < i2) → (¬ (v_end_a1 - v_at_a1) < n_v_value_a2) → (x_at = v_at_a1) → (n_v_value_a2.toInt - i2.toInt < (k : Int)) → ∃ s₂ o, Steps p.tables e below (TL.setTop (mkF m 20 #[.val (.ref a1), .val (.ref a2), .val (.int i2)] [])) s₂ ∧ s₂.status = .running ∧ Ended s₂ below o ∧ ∃ v L, o = .returned v ∧ (v = some (.int (f12_L v_end_a1 v_at_a1 n_v_value_a2 f_v_value_a2 f_v_text_a1 k i2 x_at)) ∧ Fr n0 L ∧ Keep h0 s₂.heap [a1] ∧ Fld Z s₂.heap a1 "com/example/clapboard/clapboard/parse/TextCursor" "end" "I" (.int v_end_a1) ∧ Fld Z s₂.heap a1 "com/example/clapboard/clapboard/parse/TextCursor" "at" "I" (.int (f12_F_at_a1 v_end_a1 v_at_a1 n_v_value_a2 f_v_value_a2 f_v_text_a1 k i2 x_at)) ∧ Fld Z s₂.heap a1 "com/example/clapboard/clapboard/parse/TextCursor" "text" "[C" (.ref v_text_a1) ∧ Exa Z s₂.heap a1 "com/example/clapboard/clapboard/parse/TextCursor") ∧ FrameEnd s o s₂ L ({ frames := 4, cells := 0, slots := 0, locals := 54 } : Room).cells ({ frames := 4, cells := 0, slots := 0, locals := 54 } : Room).slots := by
      intro k
      induction k with
      | zero =>
        intro i2 x_at TL hL LL XL eL NL KL hL_0 hL_1 hL_2 hL_3 hL_4 hL_5 hL_6 hL_7 hL_8 hi hj hq hxa hk
        exfalso
        exact own_z _ _ hj hk
      | succ k ih =>
        intro i2 x_at TL hL LL XL eL NL KL hL_0 hL_1 hL_2 hL_3 hL_4 hL_5 hL_6 hL_7 hL_8 hi hj hq hxa hk
        have K501 : ∀ t, Steps p.tables e below (TL.setTop (mkF m 22 #[.val (.ref a1), .val (.ref a2), .val (.int i2)] [(.ref a2), (.int i2)])) t → Steps p.tables e below (TL.setTop (mkF m 20 #[.val (.ref a1), .val (.ref a2), .val (.int i2)] [])) t := by
          intro t k
          refine XS.iloadN XL.here hx rfl (Jvm.hb hby d12_20) rfl ?_
          show Steps p.tables e below (TL.setTop (mkF m 21 #[.val (.ref a1), .val (.ref a2), .val (.int i2)] [(.int i2)])) t
          refine XS.aloadN XL.here hx rfl (Jvm.hb hby d12_21) rfl rfl ?_
          show Steps p.tables e below (TL.setTop (mkF m 22 #[.val (.ref a1), .val (.ref a2), .val (.int i2)] [(.ref a2), (.int i2)])) t
          exact k
        obtain ⟨cq502, kq502, q502a, q502b, q502c⟩ := isOf hZ eL hL_2
        obtain ⟨_, _, ⟨T502, L502, k502, n502⟩, -, X502, ⟨Lc502, hQ502, l502, y502, z502⟩, st502⟩ := XL.virtualBack hx (y := (⟨"java/lang/String", "length", "()I"⟩ : MethodName)) (z := (⟨"java/lang/String", "length", "()I"⟩ : MethodName)) hown (mvT hZ (hw _ (List.mem_of_getElem? (i := 62) rfl))) (mvT hZ (hw _ (List.mem_of_getElem? (i := 63) rfl))) (notFace_of_selects (args := #[]) (mvT hZ (hw _ (List.mem_of_getElem? (i := 65) rfl)))) (mvT hZ (hw _ (List.mem_of_getElem? (i := 65) rfl))) (mvT hZ (hw _ (List.mem_of_getElem? (i := 64) rfl))) (by decide) (backOf (W := 1) (rm13 l Z a0 hw [] a2 v_value_a2 n_v_value_a2 f_v_value_a2 w_COMPACT_STRINGS hL n0 (Nat.le_trans Z0 KL.1) hL_3 hL_4 hL_2 (own_stak S_COMPACT_STRINGS KL (allS (own_nst E_a1) all0)) hL_5 hcs) hZ (hw _ (List.mem_of_getElem? (i := 66) rfl)) (hw _ (List.mem_of_getElem? (i := 17) rfl)) (by decide) (by decide)) q502a q502c (g := (mkF m 22 #[.val (.ref a1), .val (.ref a2), .val (.int i2)] [(.ref a2), (.int i2)])) rfl (by rw [hml]; rfl) (Steps.refl _) (argsL := []) (rest := [(.int i2)]) (lenOf pd_11 rfl) rfl (by show 2 * 0 + _ ≤ _; exact Nat.le_of_eq rfl) (Jvm.hb hby d12_22) (fun _ _ => ⟨rfl, eL, (by decide : 0 + 0 ≤ _), (by decide : 0 + 0 ≤ _)⟩)
        dsimp only [Pt.U, Pt.locs, Pt.cells, Pt.slots] at X502 l502 y502 z502 st502 hQ502
        subst l502 y502 z502
        obtain ⟨rfl, N502q, e502⟩ := hQ502
        have N502 := Fr.app NL N502q
        have K503 : ∀ t, Steps p.tables e below (T502.setTop (mkF m 25 #[.val (.ref a1), .val (.ref a2), .val (.int i2)] [(.int n_v_value_a2), (.int i2)])) t → Steps p.tables e below (TL.setTop (mkF m 22 #[.val (.ref a1), .val (.ref a2), .val (.int i2)] [(.ref a2), (.int i2)])) t := fun t k => st502.trans (by rw [show (f13 n_v_value_a2) = n_v_value_a2 from own_len _]; exact k)
        by_cases hc504 : i2 < n_v_value_a2
        · have K505 : ∀ t, Steps p.tables e below (T502.setTop (mkF m 28 #[.val (.ref a1), .val (.ref a2), .val (.int i2)] [])) t → Steps p.tables e below (T502.setTop (mkF m 25 #[.val (.ref a1), .val (.ref a2), .val (.int i2)] [(.int n_v_value_a2), (.int i2)])) t := by
            intro t k
            refine XS.icmpNo X502.here hx rfl (Jvm.hb hby d12_25) rfl (tlt hc504).2.1 ?_
            exact k
          have K506 : ∀ t, Steps p.tables e below (T502.setTop (mkF m 29 #[.val (.ref a1), .val (.ref a2), .val (.int i2)] [(.ref a1)])) t → Steps p.tables e below (T502.setTop (mkF m 28 #[.val (.ref a1), .val (.ref a2), .val (.int i2)] [])) t := by
            intro t k
            refine XS.aloadN X502.here hx rfl (Jvm.hb hby d12_28) rfl rfl ?_
            show Steps p.tables e below (T502.setTop (mkF m 29 #[.val (.ref a1), .val (.ref a2), .val (.int i2)] [(.ref a1)])) t
            exact k
          obtain ⟨T507, X507, e507, st507⟩ := getF X502 hx hZ hown (host := "") (Or.inl (hw _ (List.mem_of_getElem? (i := 51) rfl))) Via.refl e502 hL_6 (g := (mkF m 29 #[.val (.ref a1), .val (.ref a2), .val (.int i2)] [(.ref a1)])) rfl rfl (Jvm.hb hby d12_29)
          have K508 : ∀ t, Steps p.tables e below (T507.setTop (mkF m 32 #[.val (.ref a1), .val (.ref a2), .val (.int i2)] [(.ref v_text_a1)])) t → Steps p.tables e below (T502.setTop (mkF m 29 #[.val (.ref a1), .val (.ref a2), .val (.int i2)] [(.ref a1)])) t := fun t k => st507 _ k
          have K509 : ∀ t, Steps p.tables e below (T507.setTop (mkF m 33 #[.val (.ref a1), .val (.ref a2), .val (.int i2)] [(.ref a1), (.ref v_text_a1)])) t → Steps p.tables e below (T507.setTop (mkF m 32 #[.val (.ref a1), .val (.ref a2), .val (.int i2)] [(.ref v_text_a1)])) t := by
            intro t k
            refine XS.aloadN X507.here hx rfl (Jvm.hb hby d12_32) rfl rfl ?_
            show Steps p.tables e below (T507.setTop (mkF m 33 #[.val (.ref a1), .val (.ref a2), .val (.int i2)] [(.ref a1), (.ref v_text_a1)])) t
            exact k
          obtain ⟨T510, X510, e510, st510⟩ := getF X507 hx hZ hown (host := "") (Or.inl (hw _ (List.mem_of_getElem? (i := 53) rfl))) Via.refl e507 hL_1 (g := (mkF m 33 #[.val (.ref a1), .val (.ref a2), .val (.int i2)] [(.ref a1), (.ref v_text_a1)])) rfl rfl (Jvm.hb hby d12_33)
          have K511 : ∀ t, Steps p.tables e below (T510.setTop (mkF m 36 #[.val (.ref a1), .val (.ref a2), .val (.int i2)] [(.int x_at), (.ref v_text_a1)])) t → Steps p.tables e below (T507.setTop (mkF m 33 #[.val (.ref a1), .val (.ref a2), .val (.int i2)] [(.ref a1), (.ref v_text_a1)])) t := fun t k => st510 _ k
          have K516 : ∀ t, Steps p.tables e below (T510.setTop (mkF m 38 #[.val (.ref a1), .val (.ref a2), .val (.int i2)] [(.int (x_at + i2)), (.ref v_text_a1)])) t → Steps p.tables e below (T510.setTop (mkF m 36 #[.val (.ref a1), .val (.ref a2), .val (.int i2)] [(.int x_at), (.ref v_text_a1)])) t := by
            intro t k
            refine XS.iloadN X510.here hx rfl (Jvm.hb hby d12_36) rfl ?_
            show Steps p.tables e below (T510.setTop (mkF m 37 #[.val (.ref a1), .val (.ref a2), .val (.int i2)] [(.int i2), (.int x_at), (.ref v_text_a1)])) t
            refine XS.iadd X510.here hx rfl (Jvm.hb hby d12_37) rfl ?_
            show Steps p.tables e below (T510.setTop (mkF m 38 #[.val (.ref a1), .val (.ref a2), .val (.int i2)] [(.int (x_at + i2)), (.ref v_text_a1)])) t
            exact k
          have hin512 : ¬ (x_at + i2) < 0 ∧ (x_at + i2) < n_v_text_a1 := by rw [hxa]; exact own_rb _ _ _ _ _ hs hle he hi (by assumption) hq
          obtain ⟨cl513, Aq514, hjhin512, aq515⟩ := Ia.at hL_7 hin512
          have K517 : ∀ t, Steps p.tables e below (T510.setTop (mkF m 41 #[.val (.ref a1), .val (.ref a2), .val (.int i2)] [(.int i2), (.ref a2), (.int (f_v_text_a1 (x_at + i2)))])) t → Steps p.tables e below (T510.setTop (mkF m 38 #[.val (.ref a1), .val (.ref a2), .val (.int i2)] [(.int (x_at + i2)), (.ref v_text_a1)])) t := by
            intro t k
            refine X510.caload hx (j := (x_at + i2)) (v := .int (f_v_text_a1 (x_at + i2))) (by rw [e510]; exact Aq514.1) (State.isArrayOf_alike hZ.alike Aq514.2.1) Aq514.2.2 hjhin512 aq515 (g := (mkF m 38 #[.val (.ref a1), .val (.ref a2), .val (.int i2)] [(.int (x_at + i2)), (.ref v_text_a1)])) rfl rfl (Jvm.hb hby d12_38) _ ?_
            show Steps p.tables e below (T510.setTop (mkF m 39 #[.val (.ref a1), .val (.ref a2), .val (.int i2)] [(.int (f_v_text_a1 (x_at + i2)))])) t
            refine XS.aloadN X510.here hx rfl (Jvm.hb hby d12_39) rfl rfl ?_
            show Steps p.tables e below (T510.setTop (mkF m 40 #[.val (.ref a1), .val (.ref a2), .val (.int i2)] [(.ref a2), (.int (f_v_text_a1 (x_at + i2)))])) t
            refine XS.iloadN X510.here hx rfl (Jvm.hb hby d12_40) rfl ?_
            show Steps p.tables e below (T510.setTop (mkF m 41 #[.val (.ref a1), .val (.ref a2), .val (.int i2)] [(.int i2), (.ref a2), (.int (f_v_text_a1 (x_at + i2)))])) t
            exact k
          obtain ⟨cq518, kq518, q518a, q518b, q518c⟩ := isOf hZ e510 hL_2
          obtain ⟨_, _, ⟨T518, L518, k518, n518⟩, -, X518, ⟨Lc518, hQ518, l518, y518, z518⟩, st518⟩ := X510.virtualBack hx (y := (⟨"java/lang/String", "charAt", "(I)C"⟩ : MethodName)) (z := (⟨"java/lang/String", "charAt", "(I)C"⟩ : MethodName)) hown (mvT hZ (hw _ (List.mem_of_getElem? (i := 72) rfl))) (mvT hZ (hw _ (List.mem_of_getElem? (i := 73) rfl))) (notFace_of_selects (args := #[]) (mvT hZ (hw _ (List.mem_of_getElem? (i := 75) rfl)))) (mvT hZ (hw _ (List.mem_of_getElem? (i := 75) rfl))) (mvT hZ (hw _ (List.mem_of_getElem? (i := 74) rfl))) (by decide) (backOf (W := 1) (rm15 l Z a0 hw [] a2 i2 w_COMPACT_STRINGS v_value_a2 n_v_value_a2 f_v_value_a2 w_SIOOBE_FORMATTER hL n0 (Nat.le_trans Z0 KL.1) hi (by assumption) hL_2 (own_stak S_COMPACT_STRINGS KL (allS (own_nst E_a1) all0)) hL_5 hcs hL_3 hL_4 hr_w_SIOOBE_FORMATTER (own_stak S_SIOOBE_FORMATTER KL (allS (own_nst E_a1) all0))) hZ (hw _ (List.mem_of_getElem? (i := 76) rfl)) (hw _ (List.mem_of_getElem? (i := 17) rfl)) (by decide) (by decide)) q518a q518c (g := (mkF m 41 #[.val (.ref a1), .val (.ref a2), .val (.int i2)] [(.int i2), (.ref a2), (.int (f_v_text_a1 (x_at + i2)))])) rfl (by rw [hml]; rfl) (Steps.refl _) (argsL := [(.int i2)]) (rest := [(.int (f_v_text_a1 (x_at + i2)))]) (lenOf pd_13 rfl) rfl (by show 2 * 0 + _ ≤ _; exact Nat.le_of_eq rfl) (Jvm.hb hby d12_41) (fun _ _ => ⟨rfl, e510, (by decide : 0 + 0 ≤ _), (by decide : 0 + 0 ≤ _)⟩)
          dsimp only [Pt.U, Pt.locs, Pt.cells, Pt.slots] at X518 l518 y518 z518 st518 hQ518
          subst l518 y518 z518
          obtain ⟨rfl, N518q, e518⟩ := hQ518
          have N518 := Fr.app N502 N518q
          have K519 : ∀ t, Steps p.tables e below (T518.setTop (mkF m 44 #[.val (.ref a1), .val (.ref a2), .val (.int i2)] [(.int (f15 i2 f_v_value_a2)), (.int (f_v_text_a1 (x_at + i2)))])) t → Steps p.tables e below (T510.setTop (mkF m 41 #[.val (.ref a1), .val (.ref a2), .val (.int i2)] [(.int i2), (.ref a2), (.int (f_v_text_a1 (x_at + i2)))])) t := fun t k => st518.trans k
          by_cases hc520 : (f_v_text_a1 (x_at + i2)) = (f15 i2 f_v_value_a2)
          · have K521 : ∀ t, Steps p.tables e below (T518.setTop (mkF m 49 #[.val (.ref a1), .val (.ref a2), .val (.int i2)] [])) t → Steps p.tables e below (T518.setTop (mkF m 44 #[.val (.ref a1), .val (.ref a2), .val (.int i2)] [(.int (f15 i2 f_v_value_a2)), (.int (f_v_text_a1 (x_at + i2)))])) t := by
              intro t k
              refine XS.icmpYes X518.here hx rfl (pc0 := 44) (pc' := 49) rfl (Jvm.hb hby d12_44) rfl (teq hc520).1 (by decide) (by decide) ?_
              exact k
            have K522 : ∀ t, Steps p.tables e below (T518.setTop (mkF m 20 #[.val (.ref a1), .val (.ref a2), .val (.int (i2 + (1 : Int32)))] [])) t → Steps p.tables e below (T518.setTop (mkF m 49 #[.val (.ref a1), .val (.ref a2), .val (.int i2)] [])) t := by
              intro t k
              refine XS.iinc X518.here hx rfl (Jvm.hb hby d12_49) rfl (l' := #[.val (.ref a1), .val (.ref a2), .val (.int (i2 + (1 : Int32)))]) rfl ?_
              show Steps p.tables e below (T518.setTop (mkF m 52 #[.val (.ref a1), .val (.ref a2), .val (.int (i2 + (1 : Int32)))] [])) t
              refine XS.goto X518.here hx rfl (pc0 := 52) (pc' := 20) rfl (Jvm.hb hby d12_52) (by decide) (by decide) ?_
              show Steps p.tables e below (T518.setTop (mkF m 20 #[.val (.ref a1), .val (.ref a2), .val (.int (i2 + (1 : Int32)))] [])) t
              exact k
            obtain ⟨s₂, o, hs, zq1, zq2, v, L, zq3, zq4, zq7⟩ := ih (i2 + (1 : Int32)) x_at T518 _ _ X518 e518 N518 KL hL_0 hL_1 hL_2 hL_3 hL_4 hL_5 hL_6 hL_7 hL_8 (own_s1 _ _ hi (by assumption)) (own_s2 _ _ (by assumption)) hq hxa (own_s3 _ _ _ hk (by assumption))
            exact ⟨s₂, o, K501 _ (K503 _ (K505 _ (K506 _ (K508 _ (K509 _ (K511 _ (K516 _ (K517 _ (K519 _ (K521 _ (K522 _ (hs)))))))))))), zq1, zq2, v, L, zq3, ⟨zq4.1.trans (congrArg (fun z => some (Value.int z)) (show (f12_L v_end_a1 v_at_a1 n_v_value_a2 f_v_value_a2 f_v_text_a1 k (i2 + (1 : Int32)) x_at) = f12_L v_end_a1 v_at_a1 n_v_value_a2 f_v_value_a2 f_v_text_a1 (k + 1) i2 x_at from Eq.symm ((f12_L_succ v_end_a1 v_at_a1 n_v_value_a2 f_v_value_a2 f_v_text_a1 k i2 x_at).trans ((if_pos hc504).trans (if_pos hc520))))), zq4.2.1, zq4.2.2.1, zq4.2.2.2.1, (by rw [show f12_F_at_a1 v_end_a1 v_at_a1 n_v_value_a2 f_v_value_a2 f_v_text_a1 (k + 1) i2 x_at = (f12_F_at_a1 v_end_a1 v_at_a1 n_v_value_a2 f_v_value_a2 f_v_text_a1 k (i2 + (1 : Int32)) x_at) from (f12_F_at_a1_succ v_end_a1 v_at_a1 n_v_value_a2 f_v_value_a2 f_v_text_a1 k i2 x_at).trans ((if_pos hc504).trans (if_pos hc520))]; exact zq4.2.2.2.2.1), zq4.2.2.2.2.2.1, zq4.2.2.2.2.2.2⟩, zq7⟩
          · have K523 : ∀ t, Steps p.tables e below (T518.setTop (mkF m 47 #[.val (.ref a1), .val (.ref a2), .val (.int i2)] [])) t → Steps p.tables e below (T518.setTop (mkF m 44 #[.val (.ref a1), .val (.ref a2), .val (.int i2)] [(.int (f15 i2 f_v_value_a2)), (.int (f_v_text_a1 (x_at + i2)))])) t := by
              intro t k
              refine XS.icmpNo X518.here hx rfl (Jvm.hb hby d12_44) rfl (feq hc520).1 ?_
              exact k
            have K524 : ∀ t, Steps p.tables e below (T518.setTop (mkF m 48 #[.val (.ref a1), .val (.ref a2), .val (.int i2)] [(.int (0 : Int32))])) t → Steps p.tables e below (T518.setTop (mkF m 47 #[.val (.ref a1), .val (.ref a2), .val (.int i2)] [])) t := by
              intro t k
              refine XS.iconst X518.here hx rfl (Jvm.hb hby d12_47) ?_
              show Steps p.tables e below (T518.setTop (mkF m 48 #[.val (.ref a1), .val (.ref a2), .val (.int i2)] [(.int (0 : Int32))])) t
              exact k
            obtain ⟨fs, hr, hrun, hended, hW, hsame⟩ := X518.leave (v := some (.int (0 : Int32))) (fun h => by rw [Bd.returns] at h; cases h) Bd.notSynchronized
            refine ⟨_, _, (K501 _ (K503 _ (K505 _ (K506 _ (K508 _ (K509 _ (K511 _ (K516 _ (K517 _ (K519 _ (K523 _ (K524 _ (retN X518 hx (t := .boolean) Bd.returns (by simp) (Jvm.hb hby d12_48) hr))))))))))))), hrun, hended, _, _, rfl, ?_, ⟨_, rfl⟩, hW, hsame.mono (by decide) (by decide)⟩
            show ((_ : Option Value) = some (.int (f12_L v_end_a1 v_at_a1 n_v_value_a2 f_v_value_a2 f_v_text_a1 (k + 1) i2 x_at)) ∧ Fr n0 _ ∧ Keep h0 T518.heap [a1] ∧ Fld Z T518.heap a1 "com/example/clapboard/clapboard/parse/TextCursor" "end" "I" (.int v_end_a1) ∧ Fld Z T518.heap a1 "com/example/clapboard/clapboard/parse/TextCursor" "at" "I" (.int (f12_F_at_a1 v_end_a1 v_at_a1 n_v_value_a2 f_v_value_a2 f_v_text_a1 (k + 1) i2 x_at)) ∧ Fld Z T518.heap a1 "com/example/clapboard/clapboard/parse/TextCursor" "text" "[C" (.ref v_text_a1) ∧ Exa Z T518.heap a1 "com/example/clapboard/clapboard/parse/TextCursor")
            rw [e518]
            exact ⟨congrArg (fun z => some (Value.int z)) (show (0 : Int32) = f12_L v_end_a1 v_at_a1 n_v_value_a2 f_v_value_a2 f_v_text_a1 (k + 1) i2 x_at from Eq.symm ((f12_L_succ v_end_a1 v_at_a1 n_v_value_a2 f_v_value_a2 f_v_text_a1 k i2 x_at).trans ((if_pos hc504).trans (if_neg hc520)))), N518, KL, hL_0, (by rw [show f12_F_at_a1 v_end_a1 v_at_a1 n_v_value_a2 f_v_value_a2 f_v_text_a1 (k + 1) i2 x_at = x_at from (f12_F_at_a1_succ v_end_a1 v_at_a1 n_v_value_a2 f_v_value_a2 f_v_text_a1 k i2 x_at).trans ((if_pos hc504).trans (if_neg hc520))]; exact hL_1), hL_6, hL_8⟩
        · have K525 : ∀ t, Steps p.tables e below (T502.setTop (mkF m 55 #[.val (.ref a1), .val (.ref a2), .val (.int i2)] [])) t → Steps p.tables e below (T502.setTop (mkF m 25 #[.val (.ref a1), .val (.ref a2), .val (.int i2)] [(.int n_v_value_a2), (.int i2)])) t := by
            intro t k
            refine XS.icmpYes X502.here hx rfl (pc0 := 25) (pc' := 55) rfl (Jvm.hb hby d12_25) rfl (flt hc504).2.1 (by decide) (by decide) ?_
            exact k
          have K526 : ∀ t, Steps p.tables e below (T502.setTop (mkF m 57 #[.val (.ref a1), .val (.ref a2), .val (.int i2)] [(.ref a1), (.ref a1)])) t → Steps p.tables e below (T502.setTop (mkF m 55 #[.val (.ref a1), .val (.ref a2), .val (.int i2)] [])) t := by
            intro t k
            refine XS.aloadN X502.here hx rfl (Jvm.hb hby d12_55) rfl rfl ?_
            show Steps p.tables e below (T502.setTop (mkF m 56 #[.val (.ref a1), .val (.ref a2), .val (.int i2)] [(.ref a1)])) t
            refine XS.dup X502.here hx rfl (Jvm.hb hby d12_56) rfl rfl ?_
            show Steps p.tables e below (T502.setTop (mkF m 57 #[.val (.ref a1), .val (.ref a2), .val (.int i2)] [(.ref a1), (.ref a1)])) t
            exact k
          obtain ⟨T527, X527, e527, st527⟩ := getF X502 hx hZ hown (host := "") (Or.inl (hw _ (List.mem_of_getElem? (i := 53) rfl))) Via.refl e502 hL_1 (g := (mkF m 57 #[.val (.ref a1), .val (.ref a2), .val (.int i2)] [(.ref a1), (.ref a1)])) rfl rfl (Jvm.hb hby d12_57)
          have K528 : ∀ t, Steps p.tables e below (T527.setTop (mkF m 60 #[.val (.ref a1), .val (.ref a2), .val (.int i2)] [(.int x_at), (.ref a1)])) t → Steps p.tables e below (T502.setTop (mkF m 57 #[.val (.ref a1), .val (.ref a2), .val (.int i2)] [(.ref a1), (.ref a1)])) t := fun t k => st527 _ k
          have K529 : ∀ t, Steps p.tables e below (T527.setTop (mkF m 61 #[.val (.ref a1), .val (.ref a2), .val (.int i2)] [(.ref a2), (.int x_at), (.ref a1)])) t → Steps p.tables e below (T527.setTop (mkF m 60 #[.val (.ref a1), .val (.ref a2), .val (.int i2)] [(.int x_at), (.ref a1)])) t := by
            intro t k
            refine XS.aloadN X527.here hx rfl (Jvm.hb hby d12_60) rfl rfl ?_
            show Steps p.tables e below (T527.setTop (mkF m 61 #[.val (.ref a1), .val (.ref a2), .val (.int i2)] [(.ref a2), (.int x_at), (.ref a1)])) t
            exact k
          obtain ⟨cq530, kq530, q530a, q530b, q530c⟩ := isOf hZ e527 hL_2
          obtain ⟨_, _, ⟨T530, L530, k530, n530⟩, -, X530, ⟨Lc530, hQ530, l530, y530, z530⟩, st530⟩ := X527.virtualBack hx (y := (⟨"java/lang/String", "length", "()I"⟩ : MethodName)) (z := (⟨"java/lang/String", "length", "()I"⟩ : MethodName)) hown (mvT hZ (hw _ (List.mem_of_getElem? (i := 62) rfl))) (mvT hZ (hw _ (List.mem_of_getElem? (i := 63) rfl))) (notFace_of_selects (args := #[]) (mvT hZ (hw _ (List.mem_of_getElem? (i := 65) rfl)))) (mvT hZ (hw _ (List.mem_of_getElem? (i := 65) rfl))) (mvT hZ (hw _ (List.mem_of_getElem? (i := 64) rfl))) (by decide) (backOf (W := 2) (rm13 l Z a0 hw [] a2 v_value_a2 n_v_value_a2 f_v_value_a2 w_COMPACT_STRINGS hL n0 (Nat.le_trans Z0 KL.1) hL_3 hL_4 hL_2 (own_stak S_COMPACT_STRINGS KL (allS (own_nst E_a1) all0)) hL_5 hcs) hZ (hw _ (List.mem_of_getElem? (i := 66) rfl)) (hw _ (List.mem_of_getElem? (i := 17) rfl)) (by decide) (by decide)) q530a q530c (g := (mkF m 61 #[.val (.ref a1), .val (.ref a2), .val (.int i2)] [(.ref a2), (.int x_at), (.ref a1)])) rfl (by rw [hml]; rfl) (Steps.refl _) (argsL := []) (rest := [(.int x_at), (.ref a1)]) (lenOf pd_11 rfl) rfl (by show 2 * 0 + _ ≤ _; exact Nat.le_of_eq rfl) (Jvm.hb hby d12_61) (fun _ _ => ⟨rfl, e527, (by decide : 0 + 0 ≤ _), (by decide : 0 + 0 ≤ _)⟩)
          dsimp only [Pt.U, Pt.locs, Pt.cells, Pt.slots] at X530 l530 y530 z530 st530 hQ530
          subst l530 y530 z530
          obtain ⟨rfl, N530q, e530⟩ := hQ530
          have N530 := Fr.app N502 N530q
          have K531 : ∀ t, Steps p.tables e below (T530.setTop (mkF m 64 #[.val (.ref a1), .val (.ref a2), .val (.int i2)] [(.int n_v_value_a2), (.int x_at), (.ref a1)])) t → Steps p.tables e below (T527.setTop (mkF m 61 #[.val (.ref a1), .val (.ref a2), .val (.int i2)] [(.ref a2), (.int x_at), (.ref a1)])) t := fun t k => st530.trans (by rw [show (f13 n_v_value_a2) = n_v_value_a2 from own_len _]; exact k)
          have K532 : ∀ t, Steps p.tables e below (T530.setTop (mkF m 65 #[.val (.ref a1), .val (.ref a2), .val (.int i2)] [(.int (x_at + n_v_value_a2)), (.ref a1)])) t → Steps p.tables e below (T530.setTop (mkF m 64 #[.val (.ref a1), .val (.ref a2), .val (.int i2)] [(.int n_v_value_a2), (.int x_at), (.ref a1)])) t := by
            intro t k
            refine XS.iadd X530.here hx rfl (Jvm.hb hby d12_64) rfl ?_
            show Steps p.tables e below (T530.setTop (mkF m 65 #[.val (.ref a1), .val (.ref a2), .val (.int i2)] [(.int (x_at + n_v_value_a2)), (.ref a1)])) t
            exact k
          obtain ⟨T533, h533, X533, e533, W533, st533⟩ := putF X530 hx hZ hown (host := "") (Or.inl (hw _ (List.mem_of_getElem? (i := 53) rfl))) Via.refl e530 hL_1 hL_8 (Or.inl (hw _ (List.mem_of_getElem? (i := 54) rfl))) (hw _ (List.mem_of_getElem? (i := 45) rfl)) (ty := .int) (by decide) rfl rfl (g := (mkF m 65 #[.val (.ref a1), .val (.ref a2), .val (.int i2)] [(.int (x_at + n_v_value_a2)), (.ref a1)])) rfl rfl (Jvm.hb hby d12_65)
          have KP533 : Keep h0 h533 [a1] := KL.wr W533 (Or.inl (List.mem_of_getElem? (i := 0) rfl))
          have N533 := Fr.snoc X533 N530 g_a1
          have F533_0 : Fld Z h533 a1 "com/example/clapboard/clapboard/parse/TextCursor" "end" "I" (.int v_end_a1) := hL_0.other W533 (Or.inr (slot_ne (Or.inl (hw _ (List.mem_of_getElem? (i := 56) rfl))) (Or.inl (hw _ (List.mem_of_getElem? (i := 54) rfl))) (by decide) (t := .int) (t' := .int) (by decide) (by decide)))
          have E533_1 : Exa Z h533 a2 "java/lang/String" := hL_2.wr W533
          have F533_2 : Fld Z h533 a2 "java/lang/String" "value" "[B" (.ref v_value_a2) := hL_3.other W533 (Or.inl (ne_exa hL_2 hL_8 (by decide)))
          have A533_3 : Ia Z h533 v_value_a2 .byte n_v_value_a2 f_v_value_a2 := hL_4.other W533 (Ne.symm (own_nea hL_8 (hw _ (List.mem_of_getElem? (i := 45) rfl)) hL_4))
          have F533_5 : Fld Z h533 a2 "java/lang/String" "coder" "B" (.int (0 : Int32)) := hL_5.other W533 (Or.inl (ne_exa hL_2 hL_8 (by decide)))
          have F533_6 : Fld Z h533 a1 "com/example/clapboard/clapboard/parse/TextCursor" "text" "[C" (.ref v_text_a1) := hL_6.other W533 (Or.inr (slot_ne (Or.inr (hw _ (List.mem_of_getElem? (i := 52) rfl))) (Or.inl (hw _ (List.mem_of_getElem? (i := 54) rfl))) (by decide) (t := (.array .char)) (t' := .int) (by decide) (by decide)))
          have A533_7 : Ia Z h533 v_text_a1 .char n_v_text_a1 f_v_text_a1 := hL_7.other W533 (Ne.symm (own_nea hL_8 (hw _ (List.mem_of_getElem? (i := 45) rfl)) hL_7))
          have E533_9 : Exa Z h533 a1 "com/example/clapboard/clapboard/parse/TextCursor" := hL_8.wr W533
          have Fw533 : Fld Z h533 a1 "com/example/clapboard/clapboard/parse/TextCursor" "at" "I" (.int (x_at + n_v_value_a2)) := hL_1.same W533
          have K534 : ∀ t, Steps p.tables e below (T533.setTop (mkF m 68 #[.val (.ref a1), .val (.ref a2), .val (.int i2)] [])) t → Steps p.tables e below (T530.setTop (mkF m 65 #[.val (.ref a1), .val (.ref a2), .val (.int i2)] [(.int (x_at + n_v_value_a2)), (.ref a1)])) t := fun t k => st533 _ k
          have K535 : ∀ t, Steps p.tables e below (T533.setTop (mkF m 69 #[.val (.ref a1), .val (.ref a2), .val (.int i2)] [(.int (1 : Int32))])) t → Steps p.tables e below (T533.setTop (mkF m 68 #[.val (.ref a1), .val (.ref a2), .val (.int i2)] [])) t := by
            intro t k
            refine XS.iconst X533.here hx rfl (Jvm.hb hby d12_68) ?_
            show Steps p.tables e below (T533.setTop (mkF m 69 #[.val (.ref a1), .val (.ref a2), .val (.int i2)] [(.int (1 : Int32))])) t
            exact k
          obtain ⟨fs, hr, hrun, hended, hW, hsame⟩ := X533.leave (v := some (.int (1 : Int32))) (fun h => by rw [Bd.returns] at h; cases h) Bd.notSynchronized
          refine ⟨_, _, (K501 _ (K503 _ (K525 _ (K526 _ (K528 _ (K529 _ (K531 _ (K532 _ (K534 _ (K535 _ (retN X533 hx (t := .boolean) Bd.returns (by simp) (Jvm.hb hby d12_69) hr))))))))))), hrun, hended, _, _, rfl, ?_, ⟨_, rfl⟩, hW, hsame.mono (by decide) (by decide)⟩
          show ((_ : Option Value) = some (.int (f12_L v_end_a1 v_at_a1 n_v_value_a2 f_v_value_a2 f_v_text_a1 (k + 1) i2 x_at)) ∧ Fr n0 _ ∧ Keep h0 T533.heap [a1] ∧ Fld Z T533.heap a1 "com/example/clapboard/clapboard/parse/TextCursor" "end" "I" (.int v_end_a1) ∧ Fld Z T533.heap a1 "com/example/clapboard/clapboard/parse/TextCursor" "at" "I" (.int (f12_F_at_a1 v_end_a1 v_at_a1 n_v_value_a2 f_v_value_a2 f_v_text_a1 (k + 1) i2 x_at)) ∧ Fld Z T533.heap a1 "com/example/clapboard/clapboard/parse/TextCursor" "text" "[C" (.ref v_text_a1) ∧ Exa Z T533.heap a1 "com/example/clapboard/clapboard/parse/TextCursor")
          rw [e533]
          exact ⟨congrArg (fun z => some (Value.int z)) (show (1 : Int32) = f12_L v_end_a1 v_at_a1 n_v_value_a2 f_v_value_a2 f_v_text_a1 (k + 1) i2 x_at from Eq.symm ((f12_L_succ v_end_a1 v_at_a1 n_v_value_a2 f_v_value_a2 f_v_text_a1 k i2 x_at).trans (if_neg hc504))), N533, KP533, F533_0, (by rw [show f12_F_at_a1 v_end_a1 v_at_a1 n_v_value_a2 f_v_value_a2 f_v_text_a1 (k + 1) i2 x_at = (x_at + n_v_value_a2) from (f12_F_at_a1_succ v_end_a1 v_at_a1 n_v_value_a2 f_v_value_a2 f_v_text_a1 k i2 x_at).trans (if_neg hc504)]; exact Fw533), F533_6, E533_9⟩
    obtain ⟨s₂, o, hs, zq1, zq2, v, L, zq3, zq4, zq7⟩ := LP (n_v_value_a2.toNatClampNeg + 1) (0 : Int32) v_at_a1 T8 _ _ X8 e8 N8 (Keep.refl h0 [a1]) F_end_a1 F_at_a1 E_a2 F_value_a2 A_v_value_a2 F_coder_a2 F_text_a1 A_v_text_a1 E_a1 (by decide) (A_v_value_a2.nn) (by assumption) rfl (own_k0 _ A_v_value_a2.nn)
    exact ⟨s₂, o, pre0 _ (K1 _ (K3 _ (K4 _ (K6 _ (K7 _ (K9 _ (K13 _ (K14 _ (hs))))))))), zq1, zq2, v, L, zq3, ⟨zq4.1.trans (congrArg (fun z => some (Value.int z)) (show (f12_L v_end_a1 v_at_a1 n_v_value_a2 f_v_value_a2 f_v_text_a1 (n_v_value_a2.toNatClampNeg + 1) (0 : Int32) v_at_a1) = f12 v_end_a1 v_at_a1 n_v_value_a2 f_v_value_a2 f_v_text_a1 from Eq.symm (if_neg hc10))), zq4.2.1, zq4.2.2.1, zq4.2.2.2.1, (by rw [show f12_F_at_a10 v_end_a1 v_at_a1 n_v_value_a2 f_v_value_a2 f_v_text_a1 = (f12_F_at_a1 v_end_a1 v_at_a1 n_v_value_a2 f_v_value_a2 f_v_text_a1 (n_v_value_a2.toNatClampNeg + 1) (0 : Int32) v_at_a1) from if_neg hc10]; exact zq4.2.2.2.2.1), zq4.2.2.2.2.2.1, zq4.2.2.2.2.2.2⟩, zq7⟩
-- body 20: com/example/clapboard/clapboard/parse/TextCursor.position()I
theorem d20_0 : decode prog_127_method_3_code 0 = .ok (.aload_n 0, 1) := by decide +kernel
theorem d20_1 : decode prog_127_method_3_code 1 = .ok (.getfield 13, 3) := by decide +kernel
theorem d20_4 : decode prog_127_method_3_code 4 = .ok (.ireturn, 1) := by decide +kernel
theorem pn_20 : plainName "com/example/clapboard/clapboard/parse/TextCursor" = true := by first | (simp [plainName, overriddenIn]; done) | decide +kernel
theorem ef_20 (m : MethodId) (a1 : Addr) : entryFrame m #[(.ref a1)] 1 = mkF m 0 #[.val (.ref a1)] [] := by first | (simp [entryFrame, mkF, argsToLocals, Value.category]; done) | rfl
def f20 (v_at_a1 : Int32) : Int32 := v_at_a1
def Q20 (Z : State) (a1 : Addr) (v_at_a1 : Int32) (h0 : Heap) (n0 : Nat) (v : Option Value) (h : Heap) (L : List Loc) : Prop := v = some (.int (f20 v_at_a1)) ∧ Fr n0 L ∧ h = h0
set_option maxRecDepth 65536 in
set_option maxHeartbeats 40000000 in
theorem rm20 (l : Launch) (Z : State) (a0 : Array Value) (hw : ∀ d ∈ tables_1, d.before a0 Z = true) (ws : List Jvm.Cond) (a1 : Addr) (v_at_a1 : Int32) (h0 : Heap) (n0 : Nat) (Z0 : n0 ≤ h0.size) (F_at_a1 : Fld Z h0 a1 "com/example/clapboard/clapboard/parse/TextCursor" "at" "I" (.int v_at_a1)) :
    MetFree l (⟨"com/example/clapboard/clapboard/parse/TextCursor", "position", "()I"⟩ : MethodName) (head1 (Jvm.Cond.code (⟨"com/example/clapboard/clapboard/parse/TextCursor", "position", "()I"⟩ : MethodName) prog_127_method_3_code 1 (some .int) :: ws) ({ frames := 0, cells := 0, slots := 0, locals := 0 } : Room)) (fun a U => a = #[(.ref a1)] ∧ Z.Warmed39 U.vm ∧ U.heap = h0) (fun _ _ _ _ _ => True) (fun _ U o U' => ∃ v L, o = .returned v ∧ Q20 Z a1 v_at_a1 h0 n0 v U'.heap L ∧ FrameEnd U o U' L ({ frames := 0, cells := 0, slots := 0, locals := 0 } : Room).cells ({ frames := 0, cells := 0, slots := 0, locals := 0 } : Room).slots) := by
  refine MetFree.of_bodySF (plainFor_of_name pn_20) hisR ?_
  intro p e s m args below meth c s₁ Bd hml0 hP hK
  obtain ⟨rfl, hZ, hh⟩ := hP
  have hx := Bd.exec
  have hby := Bd.bytes
  have hml : c.maxLocals = 1 := hml0
  have hown : s.vm.findClass "com/example/clapboard/clapboard/parse/TextCursor" = some m.cls := findClass_of_methodNamed Bd.named
  have hnm := (name_of_methodNamed Bd.named Bd.method).1
  have X0 : Stand p l e ({ frames := 0, cells := 0, slots := 0, locals := 0 } : Room) s m #[(.ref a1)] below meth c s₁ [] 0 0 := Stand.of_body Bd
  have e0 : s₁.heap = h0 := by rw [← hh, Bd.state]; rfl
  have N0 := Fr.nil n0
  have pre0 : ∀ t, Steps p.tables e below (s₁.setTop (mkF m 0 #[.val (.ref a1)] [])) t → Steps p.tables e below (s₁.setTop (entryFrame m #[(.ref a1)] 1)) t := fun t k => castTop (ef_20 m a1) k
  have K1 : ∀ t, Steps p.tables e below (s₁.setTop (mkF m 1 #[.val (.ref a1)] [(.ref a1)])) t → Steps p.tables e below (s₁.setTop (mkF m 0 #[.val (.ref a1)] [])) t := by
    intro t k
    refine XS.aloadN X0.here hx rfl (Jvm.hb hby d20_0) rfl rfl ?_
    show Steps p.tables e below (s₁.setTop (mkF m 1 #[.val (.ref a1)] [(.ref a1)])) t
    exact k
  obtain ⟨T2, X2, e2, st2⟩ := getF X0 hx hZ hown (host := "") (Or.inl (hw _ (List.mem_of_getElem? (i := 53) rfl))) Via.refl e0 F_at_a1 (g := (mkF m 1 #[.val (.ref a1)] [(.ref a1)])) rfl rfl (Jvm.hb hby d20_1)
  have K3 : ∀ t, Steps p.tables e below (T2.setTop (mkF m 4 #[.val (.ref a1)] [(.int v_at_a1)])) t → Steps p.tables e below (s₁.setTop (mkF m 1 #[.val (.ref a1)] [(.ref a1)])) t := fun t k => st2 _ k
  obtain ⟨fs, hr, hrun, hended, hW, hsame⟩ := X2.leave (v := some (.int v_at_a1)) (fun h => by rw [Bd.returns] at h; cases h) Bd.notSynchronized
  refine ⟨_, _, pre0 _ (K1 _ (K3 _ (retI X2 hx Bd.returns (Jvm.hb hby d20_4) hr))), hrun, hended, _, _, rfl, ?_, ⟨_, rfl⟩, hW, hsame.mono (by decide) (by decide)⟩
  show Q20 Z a1 v_at_a1 h0 n0 _ T2.heap _
  rw [e2]
  exact ⟨congrArg (fun z => some (Value.int z)) (show v_at_a1 = f20 v_at_a1 from Eq.symm (rfl)), N0, rfl⟩
-- body 0: com/example/clapboard/clapboard/parse/TextCursorReadPinLaw.law(IIII)Z
theorem pn_0 : plainName "com/example/clapboard/clapboard/parse/TextCursorReadPinLaw" = true := by first | (simp [plainName, overriddenIn]; done) | decide +kernel
theorem pd_2 : parseMethodDescriptor "(ICCC)Ljava/lang/String;" = some ⟨[.int, .char, .char, .char], some (.object "java/lang/String")⟩ := by decide +kernel
theorem pd_0 : parseMethodDescriptor "(II)I" = some ⟨[.int, .int], some .int⟩ := by decide +kernel
theorem pd_10 : parseMethodDescriptor "(Ljava/lang/String;)Z" = some ⟨[(.object "java/lang/String")], some .boolean⟩ := by decide +kernel
theorem pd_9 : parseMethodDescriptor "([CII)V" = some ⟨[(.array .char), .int, .int], none⟩ := by decide +kernel
theorem pd_1 : parseMethodDescriptor "([CIIII)C" = some ⟨[(.array .char), .int, .int, .int, .int], some .char⟩ := by decide +kernel
theorem ef_0 (m : MethodId) (p1 : Int32) (p2 : Int32) (p3 : Int32) (p4 : Int32) : entryFrame m #[(.int p1), (.int p2), (.int p3), (.int p4)] maxLocals = mkF m 0 #[.val (.int p1), .val (.int p2), .val (.int p3), .val (.int p4), .unset, .unset, .unset, .unset, .unset, .unset, .unset, .unset, .unset, .unset, .unset, .unset, .unset, .unset] [] := by first | (simp [entryFrame, mkF, argsToLocals, Value.category, maxLocals]; done) | rfl
def f0_u1 (p1 : Int32) : Int32 → Int32 := (upd (fun _ => 0) (0 : Int32) (nar .char ((p1 &&& (255 : Int32)).toUInt32.toUInt16.toUInt32.toInt32)))
def f0_u2 (p1 : Int32) : Int32 → Int32 := (upd (f0_u1 p1) (1 : Int32) (nar .char ((((p1.toUInt32 >>> ((8 : Int32) &&& 31).toUInt32).toInt32) &&& (255 : Int32)).toUInt32.toUInt16.toUInt32.toInt32)))
def f0_u3 (p1 : Int32) : Int32 → Int32 := (upd (f0_u2 p1) (2 : Int32) (nar .char ((((p1.toUInt32 >>> ((16 : Int32) &&& 31).toUInt32).toInt32) &&& (255 : Int32)).toUInt32.toUInt16.toUInt32.toInt32)))
def f0_u4 (p1 : Int32) : Int32 → Int32 := (upd (f0_u3 p1) (3 : Int32) (nar .char ((((p1.toUInt32 >>> ((24 : Int32) &&& 31).toUInt32).toInt32) &&& (255 : Int32)).toUInt32.toUInt16.toUInt32.toInt32)))
def f0_u5 (p3 : Int32) : Int32 := ((((p3.toUInt32 >>> ((3 : Int32) &&& 31).toUInt32).toInt32) &&& (7 : Int32)) % (5 : Int32))
def f0_u6 (p3 : Int32) : Int32 := (f1 ((p3 &&& (7 : Int32)) % (5 : Int32)) (f0_u5 p3))
def f0_u7 (p3 : Int32) : Int32 := (f2 ((p3 &&& (7 : Int32)) % (5 : Int32)) (f0_u5 p3))
def f0_u8 (p1 : Int32) (p2 : Int32) (p3 : Int32) (p4 : Int32) : Int32 := (f3 (f0_u6 p3) (0 : Int32) p4 p2 (f0_u4 p1))
def f0_u9 (p1 : Int32) (p2 : Int32) (p3 : Int32) (p4 : Int32) : Int32 := (f3 (f0_u6 p3) (1 : Int32) p4 p2 (f0_u4 p1))
def f0_u10 (p1 : Int32) (p2 : Int32) (p3 : Int32) (p4 : Int32) : Int32 := (f3 (f0_u6 p3) (2 : Int32) p4 p2 (f0_u4 p1))
def f0_u11 (p1 : Int32) (p2 : Int32) (p3 : Int32) (p4 : Int32) : Int32 := (f12 (f0_u7 p3) (f0_u6 p3) (f4_u4 (p4 &&& (3 : Int32))) (f4_u5 (p4 &&& (3 : Int32)) (f0_u8 p1 p2 p3 p4) (f0_u9 p1 p2 p3 p4) (f0_u10 p1 p2 p3 p4)) (f0_u4 p1))
def f0_u12 (p1 : Int32) (p2 : Int32) (p3 : Int32) (p4 : Int32) : Int32 := (if ((f0_u7 p3) - (f0_u6 p3)) < (p4 &&& (3 : Int32)) then (0 : Int32) else (if (p4 &&& (3 : Int32)) < (1 : Int32) then (if (p4 &&& (3 : Int32)) < (2 : Int32) then (if (p4 &&& (3 : Int32)) < (3 : Int32) then (1 : Int32) else (if ((f0_u4 p1) ((f0_u6 p3) + (2 : Int32))) = (f0_u10 p1 p2 p3 p4) then (1 : Int32) else (0 : Int32))) else (if ((f0_u4 p1) ((f0_u6 p3) + (1 : Int32))) = (f0_u9 p1 p2 p3 p4) then (if (p4 &&& (3 : Int32)) < (3 : Int32) then (1 : Int32) else (if ((f0_u4 p1) ((f0_u6 p3) + (2 : Int32))) = (f0_u10 p1 p2 p3 p4) then (1 : Int32) else (0 : Int32))) else (0 : Int32))) else (if ((f0_u4 p1) (f0_u6 p3)) = (f0_u8 p1 p2 p3 p4) then (if (p4 &&& (3 : Int32)) < (2 : Int32) then (if (p4 &&& (3 : Int32)) < (3 : Int32) then (1 : Int32) else (if ((f0_u4 p1) ((f0_u6 p3) + (2 : Int32))) = (f0_u10 p1 p2 p3 p4) then (1 : Int32) else (0 : Int32))) else (if ((f0_u4 p1) ((f0_u6 p3) + (1 : Int32))) = (f0_u9 p1 p2 p3 p4) then (if (p4 &&& (3 : Int32)) < (3 : Int32) then (1 : Int32) else (if ((f0_u4 p1) ((f0_u6 p3) + (2 : Int32))) = (f0_u10 p1 p2 p3 p4) then (1 : Int32) else (0 : Int32))) else (0 : Int32))) else (0 : Int32))))
def f0_u13 (p1 : Int32) (p2 : Int32) (p3 : Int32) (p4 : Int32) : Int32 := (if (f0_u12 p1 p2 p3 p4) = (0 : Int32) then (f0_u6 p3) else ((f0_u6 p3) + (p4 &&& (3 : Int32))))
def f0 (p1 : Int32) (p2 : Int32) (p3 : Int32) (p4 : Int32) : Int32 := (if (f0_u11 p1 p2 p3 p4) = (f0_u12 p1 p2 p3 p4) then (if (f20 (f12_F_at_a10 (f0_u7 p3) (f0_u6 p3) (f4_u4 (p4 &&& (3 : Int32))) (f4_u5 (p4 &&& (3 : Int32)) (f0_u8 p1 p2 p3 p4) (f0_u9 p1 p2 p3 p4) (f0_u10 p1 p2 p3 p4)) (f0_u4 p1))) = (f0_u13 p1 p2 p3 p4) then (1 : Int32) else (0 : Int32)) else (0 : Int32))
def Q0 (Z : State) (p1 : Int32) (p2 : Int32) (p3 : Int32) (p4 : Int32) (w_COMPACT_STRINGS : Int32) (w_SIOOBE_FORMATTER : Value) (h0 : Heap) (n0 : Nat) (v : Option Value) (h : Heap) (L : List Loc) : Prop := v = some (.int (f0 p1 p2 p3 p4)) ∧ Fr n0 L ∧ Keep h0 h []
theorem own_byte (x : Int32) : ∃ m, m < 256 ∧ nar .char ((x &&& (255 : Int32)).toUInt32.toUInt16.toUInt32.toInt32) = Int32.ofNat m := by
  obtain ⟨n, hn, e⟩ := own_mask x 255 255 (by decide)
  refine ⟨n, hn, ?_⟩
  rw [e]
  exact (show ∀ k : Fin 256, nar .char ((Int32.ofNat k.val).toUInt32.toUInt16.toUInt32.toInt32) = Int32.ofNat k.val from by decide +kernel) ⟨n, hn⟩
theorem own_chr (m : Nat) (h : m < 256) : nar .char (Int32.ofNat m) = Int32.ofNat m :=
  (show ∀ k : Fin 256, nar .char (Int32.ofNat k.val) = Int32.ofNat k.val from by decide +kernel) ⟨m, h⟩
theorem own_le (m : Nat) (h : m < 256) : ¬ (255 : Int32) < Int32.ofNat m :=
  (show ∀ k : Fin 256, ¬ (255 : Int32) < Int32.ofNat k.val from by decide +kernel) ⟨m, h⟩
theorem own_text (x : Int32) (k : Nat) (hk : k < 4) : ∃ m, m < 256 ∧ f0_u4 x (Int32.ofNat k) = Int32.ofNat m := by
  have h : k = 0 ∨ k = 1 ∨ k = 2 ∨ k = 3 := by omega
  rcases h with rfl | rfl | rfl | rfl
  · exact own_byte _
  · exact own_byte _
  · exact own_byte _
  · exact own_byte _
theorem own_x (a b c p i : Int32) : ∃ m, m < 256 ∧ f3 a i p b (f0_u4 c) = Int32.ofNat m := by
  unfold f3
  split
  · obtain ⟨k, hk, e⟩ := own_mask (a + i) 3 3 (by decide)
    rw [e]
    obtain ⟨m, hm, e2⟩ := own_text c k hk
    exact ⟨m, hm, by rw [e2]; exact own_chr m hm⟩
  · exact own_byte _
theorem own_xl (a b c p i : Int32) : ¬ (255 : Int32) < nar .char (f3 a i p b (f0_u4 c)) := by
  obtain ⟨m, hm, e⟩ := own_x a b c p i
  rw [e, own_chr m hm]
  exact own_le m hm
theorem own_lh (p : Int32) : ∃ a b, a ≤ b ∧ b < 5 ∧ f0_u6 p = Int32.ofNat a ∧ f0_u7 p = Int32.ofNat b := by
  have key : ∀ x : Int32, ∃ n, n < 5 ∧ (x &&& (7 : Int32)) % (5 : Int32) = Int32.ofNat n := fun x => by
    obtain ⟨n, hn, e⟩ := own_mask x 7 7 (by decide)
    exact ⟨n % 5, Nat.mod_lt _ (by decide), by rw [e]; exact own_rem n 5 (by omega) (by decide)⟩
  obtain ⟨n, hn, e⟩ := key p
  obtain ⟨m, hm, e2⟩ := key ((p.toUInt32 >>> ((3 : Int32) &&& 31).toUInt32).toInt32)
  unfold f0_u6 f0_u7 f0_u5
  rw [e, e2]
  unfold f1 f2
  have q : (Int32.ofNat m < Int32.ofNat n) ↔ m < n := by
    rw [Int32.lt_iff_toInt_lt, own_ofNat m (by omega), own_ofNat n (by omega)]; omega
  have q2 : (Int32.ofNat n < Int32.ofNat m) ↔ n < m := by
    rw [Int32.lt_iff_toInt_lt, own_ofNat m (by omega), own_ofNat n (by omega)]; omega
  by_cases c1 : m < n
  · rw [if_pos (q.mpr c1), if_neg (fun z => by have := q2.mp z; omega)]
    exact ⟨m, n, by omega, hn, rfl, rfl⟩
  · rw [if_neg (fun z => c1 (q.mp z))]
    by_cases c2 : n < m
    · rw [if_pos (q2.mpr c2)]
      exact ⟨n, m, by omega, hm, rfl, rfl⟩
    · rw [if_neg (fun z => c2 (q2.mp z))]
      exact ⟨n, n, by omega, hn, rfl, rfl⟩
theorem own_l0 (p : Int32) : ¬ f0_u6 p < 0 := by
  obtain ⟨a, b, h1, h2, e, e2⟩ := own_lh p
  rw [e]
  exact (show ∀ k : Fin 5, ¬ Int32.ofNat k.val < 0 from by decide) ⟨a, by omega⟩
theorem own_l1 (p : Int32) : ¬ f0_u7 p < f0_u6 p := fun z => by
  obtain ⟨a, b, h1, h2, e, e2⟩ := own_lh p
  rw [e, e2, Int32.lt_iff_toInt_lt, own_ofNat a (by omega), own_ofNat b (by omega)] at z
  omega
theorem own_l2 (p : Int32) : ¬ (4 : Int32) < f0_u7 p := by
  obtain ⟨a, b, h1, h2, e, e2⟩ := own_lh p
  rw [e2]
  exact (show ∀ k : Fin 5, ¬ (4 : Int32) < Int32.ofNat k.val from by decide) ⟨b, h2⟩
theorem own_bd (p l i j : Int32) (hi : ¬ i < 0) (hj : j.toInt = i.toInt + 1) (h1 : ¬ ((f0_u7 p) - (f0_u6 p)) < l) (h2 : ¬ l < j) : ¬ ((f0_u6 p) + i) < 0 ∧ ((f0_u6 p) + i) < (4 : Int32) :=
  own_rb _ _ _ _ _ (own_l0 p) (own_l1 p) (own_l2 p) hi (Int32.lt_iff_toInt_lt.mpr (by
    have : ¬ (l.toInt < j.toInt) := fun q => h2 (Int32.lt_iff_toInt_lt.mpr q)
    omega)) h1
theorem own_bd0 (p l : Int32) (h1 : ¬ ((f0_u7 p) - (f0_u6 p)) < l) (h2 : ¬ l < (1 : Int32)) : ¬ (f0_u6 p) < 0 ∧ (f0_u6 p) < (4 : Int32) := by
  have := own_bd p l 0 1 (by decide) (by decide) h1 h2
  rwa [Int32.add_zero] at this

set_option maxRecDepth 65536 in
set_option maxHeartbeats 40000000 in
theorem rm0 (l : Launch) (Z : State) (a0 : Array Value) (hw : ∀ d ∈ tables_1, d.before a0 Z = true) (ws : List Jvm.Cond) (p1 : Int32) (p2 : Int32) (p3 : Int32) (p4 : Int32) (w_COMPACT_STRINGS : Int32) (w_SIOOBE_FORMATTER : Value) (h0 : Heap) (n0 : Nat) (Z0 : n0 ≤ h0.size) (S_COMPACT_STRINGS : Sta Z h0 "java/lang/String" "COMPACT_STRINGS" "Z" (.int w_COMPACT_STRINGS)) (hcs : ¬ (w_COMPACT_STRINGS = 0)) (hr_w_SIOOBE_FORMATTER : w_SIOOBE_FORMATTER.isRef = true) (S_SIOOBE_FORMATTER : Sta Z h0 "jdk/internal/util/Preconditions" "SIOOBE_FORMATTER" "Ljava/util/function/BiFunction;" w_SIOOBE_FORMATTER) :
    MetFree l x (head1 (Jvm.Cond.code x code maxLocals ret :: ws) room_1) (fun a U => a = #[(.int p1), (.int p2), (.int p3), (.int p4)] ∧ Z.Warmed39 U.vm ∧ U.heap = h0 ∧ CHv Z EL0 U.vm h0) (fun _ _ _ _ _ => True) (fun _ U o U' => ∃ v L, o = .returned v ∧ Q0 Z p1 p2 p3 p4 w_COMPACT_STRINGS w_SIOOBE_FORMATTER h0 n0 v U'.heap L ∧ ReturnedEndW U o U' L room_1.cells room_1.slots) := by
  refine MetFree.of_bodySF (plainFor_of_name pn_0) hisR ?_
  intro p e s m args below meth c s₁ Bd hml0 hP hK
  obtain ⟨rfl, hZ, hh, H0⟩ := hP
  have hx := Bd.exec
  have hby := Bd.bytes
  have hml : c.maxLocals = 18 := hml0
  have hown : s.vm.findClass "com/example/clapboard/clapboard/parse/TextCursorReadPinLaw" = some m.cls := findClass_of_methodNamed Bd.named
  have hnm := (name_of_methodNamed Bd.named Bd.method).1
  obtain ⟨vm0, hvm0⟩ : ∃ z, z = s.vm := ⟨_, rfl⟩
  have X0 : Stand p l e room_1 (s.setVm vm0) m #[(.int p1), (.int p2), (.int p3), (.int p4)] below meth c s₁ [] 0 0 := by rw [hvm0]; exact Stand.of_body Bd
  have hS : s.Since vm0 h0.size := by rw [hvm0]; exact own_since s _
  rw [← hvm0] at hZ hown
  have CR0 : CHr Z EL0 s.vm h0 vm0 h0 := by rw [hvm0]; exact CHr.refl H0
  have e0 : s₁.heap = h0 := by rw [← hh, Bd.state]; rfl
  have N0 := Fr.nil n0
  have pre0 : ∀ t, Steps p.tables e below (s₁.setTop (mkF m 0 #[.val (.int p1), .val (.int p2), .val (.int p3), .val (.int p4), .unset, .unset, .unset, .unset, .unset, .unset, .unset, .unset, .unset, .unset, .unset, .unset, .unset, .unset] [])) t → Steps p.tables e below (s₁.setTop (entryFrame m #[(.int p1), (.int p2), (.int p3), (.int p4)] maxLocals)) t := fun t k => castTop (ef_0 m p1 p2 p3 p4) k
  have K1 : ∀ t, Steps p.tables e below (s₁.setTop (mkF m 1 #[.val (.int p1), .val (.int p2), .val (.int p3), .val (.int p4), .unset, .unset, .unset, .unset, .unset, .unset, .unset, .unset, .unset, .unset, .unset, .unset, .unset, .unset] [(.int (4 : Int32))])) t → Steps p.tables e below (s₁.setTop (mkF m 0 #[.val (.int p1), .val (.int p2), .val (.int p3), .val (.int p4), .unset, .unset, .unset, .unset, .unset, .unset, .unset, .unset, .unset, .unset, .unset, .unset, .unset, .unset] [])) t := by
    intro t k
    refine XS.iconst X0.here hx rfl (Jvm.hb hby at_0) ?_
    show Steps p.tables e below (s₁.setTop (mkF m 1 #[.val (.int p1), .val (.int p2), .val (.int p3), .val (.int p4), .unset, .unset, .unset, .unset, .unset, .unset, .unset, .unset, .unset, .unset, .unset, .unset, .unset, .unset] [(.int (4 : Int32))])) t
    exact k
  obtain ⟨T2, h2, k2, X2, e2, E2, A2, st2⟩ := newP X0 hx hZ (hw _ (List.mem_of_getElem? (i := 0) rfl)) e0 (g := (mkF m 1 #[.val (.int p1), .val (.int p2), .val (.int p3), .val (.int p4), .unset, .unset, .unset, .unset, .unset, .unset, .unset, .unset, .unset, .unset, .unset, .unset, .unset, .unset] [(.int (4 : Int32))])) rfl (Jvm.hb hby at_1) rfl (by decide) (cap := 4) (by decide) (by decide) (by decide) (by decide)
  obtain ⟨b2, g2⟩ : ∃ z, z = h0.size := ⟨_, rfl⟩
  rw [← g2] at A2 st2
  have KP2 : Keep h0 h2 [] := (Keep.refl h0 []).ext E2
  have CR2 : CHr Z EL0 s.vm h0 vm0 h2 := CR0.trans (CHr.ext E2 CR0.1)
  have SK2 := Nat.le_trans (Nat.le_refl h0.size) E2.1
  have gb_b2 : n0 ≤ b2 := Nat.le_trans Z0 (Nat.le_of_eq g2.symm)
  have sz_b2 : h0.size ≤ b2 := Nat.le_trans (Keep.refl h0 []).1 (Nat.le_of_eq g2.symm)
  have V2 : Ia Z h2 b2 .char (4 : Int32) (fun _ => 0) := Ia.new A2 (by decide) rfl
  have K3 : ∀ t, Steps p.tables e below (T2.setTop (mkF m 3 #[.val (.int p1), .val (.int p2), .val (.int p3), .val (.int p4), .unset, .unset, .unset, .unset, .unset, .unset, .unset, .unset, .unset, .unset, .unset, .unset, .unset, .unset] [(.ref b2)])) t → Steps p.tables e below (s₁.setTop (mkF m 1 #[.val (.int p1), .val (.int p2), .val (.int p3), .val (.int p4), .unset, .unset, .unset, .unset, .unset, .unset, .unset, .unset, .unset, .unset, .unset, .unset, .unset, .unset] [(.int (4 : Int32))])) t := fun t k => st2 _ k
  have K4 : ∀ t, Steps p.tables e below (T2.setTop (mkF m 14 #[.val (.int p1), .val (.int p2), .val (.int p3), .val (.int p4), .val (.ref b2), .unset, .unset, .unset, .unset, .unset, .unset, .unset, .unset, .unset, .unset, .unset, .unset, .unset] [(.int ((p1 &&& (255 : Int32)).toUInt32.toUInt16.toUInt32.toInt32)), (.int (0 : Int32)), (.ref b2)])) t → Steps p.tables e below (T2.setTop (mkF m 3 #[.val (.int p1), .val (.int p2), .val (.int p3), .val (.int p4), .unset, .unset, .unset, .unset, .unset, .unset, .unset, .unset, .unset, .unset, .unset, .unset, .unset, .unset] [(.ref b2)])) t := by
    intro t k
    refine XS.astore X2.here hx rfl (Jvm.hb hby at_3) rfl rfl (l' := #[.val (.int p1), .val (.int p2), .val (.int p3), .val (.int p4), .val (.ref b2), .unset, .unset, .unset, .unset, .unset, .unset, .unset, .unset, .unset, .unset, .unset, .unset, .unset]) rfl ?_
    show Steps p.tables e below (T2.setTop (mkF m 5 #[.val (.int p1), .val (.int p2), .val (.int p3), .val (.int p4), .val (.ref b2), .unset, .unset, .unset, .unset, .unset, .unset, .unset, .unset, .unset, .unset, .unset, .unset, .unset] [])) t
    refine XS.aload X2.here hx rfl (Jvm.hb hby at_5) rfl rfl ?_
    show Steps p.tables e below (T2.setTop (mkF m 7 #[.val (.int p1), .val (.int p2), .val (.int p3), .val (.int p4), .val (.ref b2), .unset, .unset, .unset, .unset, .unset, .unset, .unset, .unset, .unset, .unset, .unset, .unset, .unset] [(.ref b2)])) t
    refine XS.iconst X2.here hx rfl (Jvm.hb hby at_7) ?_
    show Steps p.tables e below (T2.setTop (mkF m 8 #[.val (.int p1), .val (.int p2), .val (.int p3), .val (.int p4), .val (.ref b2), .unset, .unset, .unset, .unset, .unset, .unset, .unset, .unset, .unset, .unset, .unset, .unset, .unset] [(.int (0 : Int32)), (.ref b2)])) t
    refine XS.iloadN X2.here hx rfl (Jvm.hb hby at_8) rfl ?_
    show Steps p.tables e below (T2.setTop (mkF m 9 #[.val (.int p1), .val (.int p2), .val (.int p3), .val (.int p4), .val (.ref b2), .unset, .unset, .unset, .unset, .unset, .unset, .unset, .unset, .unset, .unset, .unset, .unset, .unset] [(.int p1), (.int (0 : Int32)), (.ref b2)])) t
    refine XS.sipush X2.here hx rfl (Jvm.hb hby at_9) ?_
    show Steps p.tables e below (T2.setTop (mkF m 12 #[.val (.int p1), .val (.int p2), .val (.int p3), .val (.int p4), .val (.ref b2), .unset, .unset, .unset, .unset, .unset, .unset, .unset, .unset, .unset, .unset, .unset, .unset, .unset] [(.int (255 : Int32)), (.int p1), (.int (0 : Int32)), (.ref b2)])) t
    refine XS.iand X2.here hx rfl (Jvm.hb hby at_12) rfl ?_
    show Steps p.tables e below (T2.setTop (mkF m 13 #[.val (.int p1), .val (.int p2), .val (.int p3), .val (.int p4), .val (.ref b2), .unset, .unset, .unset, .unset, .unset, .unset, .unset, .unset, .unset, .unset, .unset, .unset, .unset] [(.int (p1 &&& (255 : Int32))), (.int (0 : Int32)), (.ref b2)])) t
    refine XS.i2c X2.here hx rfl (Jvm.hb hby at_13) rfl ?_
    show Steps p.tables e below (T2.setTop (mkF m 14 #[.val (.int p1), .val (.int p2), .val (.int p3), .val (.int p4), .val (.ref b2), .unset, .unset, .unset, .unset, .unset, .unset, .unset, .unset, .unset, .unset, .unset, .unset, .unset] [(.int ((p1 &&& (255 : Int32)).toUInt32.toUInt16.toUInt32.toInt32)), (.int (0 : Int32)), (.ref b2)])) t
    exact k
  have hin5 : ¬ (0 : Int32) < 0 ∧ (0 : Int32) < (4 : Int32) := by exact ⟨by decide, by decide⟩
  obtain ⟨cl5, Aq5, hj5, aq5⟩ := Ia.at V2 hin5
  obtain ⟨T5, h5, X5, e5, W5, st5⟩ := stC X2 hx hZ e2 Aq5 (j := (0 : Int32)) hj5 (g := (mkF m 14 #[.val (.int p1), .val (.int p2), .val (.int p3), .val (.int p4), .val (.ref b2), .unset, .unset, .unset, .unset, .unset, .unset, .unset, .unset, .unset, .unset, .unset, .unset, .unset] [(.int ((p1 &&& (255 : Int32)).toUInt32.toUInt16.toUInt32.toInt32)), (.int (0 : Int32)), (.ref b2)])) rfl rfl (Jvm.hb hby at_14)
  have KP5 : Keep h0 h5 [] := KP2.wr W5 (Or.inr sz_b2)
  have N5 := Fr.snoc X5 N0 gb_b2
  have CR5 : CHr Z EL0 s.vm h0 vm0 h5 := CR2.trans (CHr.wr W5 (own_safeA hZ.alike V2 (by decide)) CR2.1)
  have SK5 := Nat.le_trans SK2 (own_wrsz W5)
  have Aw5 : Ia Z h5 b2 .char (4 : Int32) (f0_u1 p1) := V2.set W5 hin5.1
  have K6 : ∀ t, Steps p.tables e below (T5.setTop (mkF m 15 #[.val (.int p1), .val (.int p2), .val (.int p3), .val (.int p4), .val (.ref b2), .unset, .unset, .unset, .unset, .unset, .unset, .unset, .unset, .unset, .unset, .unset, .unset, .unset] [])) t → Steps p.tables e below (T2.setTop (mkF m 14 #[.val (.int p1), .val (.int p2), .val (.int p3), .val (.int p4), .val (.ref b2), .unset, .unset, .unset, .unset, .unset, .unset, .unset, .unset, .unset, .unset, .unset, .unset, .unset] [(.int ((p1 &&& (255 : Int32)).toUInt32.toUInt16.toUInt32.toInt32)), (.int (0 : Int32)), (.ref b2)])) t := fun t k => st5 _ k
  have K7 : ∀ t, Steps p.tables e below (T5.setTop (mkF m 27 #[.val (.int p1), .val (.int p2), .val (.int p3), .val (.int p4), .val (.ref b2), .unset, .unset, .unset, .unset, .unset, .unset, .unset, .unset, .unset, .unset, .unset, .unset, .unset] [(.int ((((p1.toUInt32 >>> ((8 : Int32) &&& 31).toUInt32).toInt32) &&& (255 : Int32)).toUInt32.toUInt16.toUInt32.toInt32)), (.int (1 : Int32)), (.ref b2)])) t → Steps p.tables e below (T5.setTop (mkF m 15 #[.val (.int p1), .val (.int p2), .val (.int p3), .val (.int p4), .val (.ref b2), .unset, .unset, .unset, .unset, .unset, .unset, .unset, .unset, .unset, .unset, .unset, .unset, .unset] [])) t := by
    intro t k
    refine XS.aload X5.here hx rfl (Jvm.hb hby at_15) rfl rfl ?_
    show Steps p.tables e below (T5.setTop (mkF m 17 #[.val (.int p1), .val (.int p2), .val (.int p3), .val (.int p4), .val (.ref b2), .unset, .unset, .unset, .unset, .unset, .unset, .unset, .unset, .unset, .unset, .unset, .unset, .unset] [(.ref b2)])) t
    refine XS.iconst X5.here hx rfl (Jvm.hb hby at_17) ?_
    show Steps p.tables e below (T5.setTop (mkF m 18 #[.val (.int p1), .val (.int p2), .val (.int p3), .val (.int p4), .val (.ref b2), .unset, .unset, .unset, .unset, .unset, .unset, .unset, .unset, .unset, .unset, .unset, .unset, .unset] [(.int (1 : Int32)), (.ref b2)])) t
    refine XS.iloadN X5.here hx rfl (Jvm.hb hby at_18) rfl ?_
    show Steps p.tables e below (T5.setTop (mkF m 19 #[.val (.int p1), .val (.int p2), .val (.int p3), .val (.int p4), .val (.ref b2), .unset, .unset, .unset, .unset, .unset, .unset, .unset, .unset, .unset, .unset, .unset, .unset, .unset] [(.int p1), (.int (1 : Int32)), (.ref b2)])) t
    refine XS.bipush X5.here hx rfl (Jvm.hb hby at_19) ?_
    show Steps p.tables e below (T5.setTop (mkF m 21 #[.val (.int p1), .val (.int p2), .val (.int p3), .val (.int p4), .val (.ref b2), .unset, .unset, .unset, .unset, .unset, .unset, .unset, .unset, .unset, .unset, .unset, .unset, .unset] [(.int (8 : Int32)), (.int p1), (.int (1 : Int32)), (.ref b2)])) t
    refine XS.iushr X5.here hx rfl (Jvm.hb hby at_21) rfl ?_
    show Steps p.tables e below (T5.setTop (mkF m 22 #[.val (.int p1), .val (.int p2), .val (.int p3), .val (.int p4), .val (.ref b2), .unset, .unset, .unset, .unset, .unset, .unset, .unset, .unset, .unset, .unset, .unset, .unset, .unset] [(.int ((p1.toUInt32 >>> ((8 : Int32) &&& 31).toUInt32).toInt32)), (.int (1 : Int32)), (.ref b2)])) t
    refine XS.sipush X5.here hx rfl (Jvm.hb hby at_22) ?_
    show Steps p.tables e below (T5.setTop (mkF m 25 #[.val (.int p1), .val (.int p2), .val (.int p3), .val (.int p4), .val (.ref b2), .unset, .unset, .unset, .unset, .unset, .unset, .unset, .unset, .unset, .unset, .unset, .unset, .unset] [(.int (255 : Int32)), (.int ((p1.toUInt32 >>> ((8 : Int32) &&& 31).toUInt32).toInt32)), (.int (1 : Int32)), (.ref b2)])) t
    refine XS.iand X5.here hx rfl (Jvm.hb hby at_25) rfl ?_
    show Steps p.tables e below (T5.setTop (mkF m 26 #[.val (.int p1), .val (.int p2), .val (.int p3), .val (.int p4), .val (.ref b2), .unset, .unset, .unset, .unset, .unset, .unset, .unset, .unset, .unset, .unset, .unset, .unset, .unset] [(.int (((p1.toUInt32 >>> ((8 : Int32) &&& 31).toUInt32).toInt32) &&& (255 : Int32))), (.int (1 : Int32)), (.ref b2)])) t
    refine XS.i2c X5.here hx rfl (Jvm.hb hby at_26) rfl ?_
    show Steps p.tables e below (T5.setTop (mkF m 27 #[.val (.int p1), .val (.int p2), .val (.int p3), .val (.int p4), .val (.ref b2), .unset, .unset, .unset, .unset, .unset, .unset, .unset, .unset, .unset, .unset, .unset, .unset, .unset] [(.int ((((p1.toUInt32 >>> ((8 : Int32) &&& 31).toUInt32).toInt32) &&& (255 : Int32)).toUInt32.toUInt16.toUInt32.toInt32)), (.int (1 : Int32)), (.ref b2)])) t
    exact k
  have hin8 : ¬ (1 : Int32) < 0 ∧ (1 : Int32) < (4 : Int32) := by exact ⟨by decide, by decide⟩
  obtain ⟨cl8, Aq8, hj8, aq8⟩ := Ia.at Aw5 hin8
  obtain ⟨T8, h8, X8, e8, W8, st8⟩ := stC X5 hx hZ e5 Aq8 (j := (1 : Int32)) hj8 (g := (mkF m 27 #[.val (.int p1), .val (.int p2), .val (.int p3), .val (.int p4), .val (.ref b2), .unset, .unset, .unset, .unset, .unset, .unset, .unset, .unset, .unset, .unset, .unset, .unset, .unset] [(.int ((((p1.toUInt32 >>> ((8 : Int32) &&& 31).toUInt32).toInt32) &&& (255 : Int32)).toUInt32.toUInt16.toUInt32.toInt32)), (.int (1 : Int32)), (.ref b2)])) rfl rfl (Jvm.hb hby at_27)
  have KP8 : Keep h0 h8 [] := KP5.wr W8 (Or.inr sz_b2)
  have N8 := Fr.snoc X8 N5 gb_b2
  have CR8 : CHr Z EL0 s.vm h0 vm0 h8 := CR5.trans (CHr.wr W8 (own_safeA hZ.alike Aw5 (by decide)) CR5.1)
  have SK8 := Nat.le_trans SK5 (own_wrsz W8)
  have Aw8 : Ia Z h8 b2 .char (4 : Int32) (f0_u2 p1) := Aw5.set W8 hin8.1
  have K9 : ∀ t, Steps p.tables e below (T8.setTop (mkF m 28 #[.val (.int p1), .val (.int p2), .val (.int p3), .val (.int p4), .val (.ref b2), .unset, .unset, .unset, .unset, .unset, .unset, .unset, .unset, .unset, .unset, .unset, .unset, .unset] [])) t → Steps p.tables e below (T5.setTop (mkF m 27 #[.val (.int p1), .val (.int p2), .val (.int p3), .val (.int p4), .val (.ref b2), .unset, .unset, .unset, .unset, .unset, .unset, .unset, .unset, .unset, .unset, .unset, .unset, .unset] [(.int ((((p1.toUInt32 >>> ((8 : Int32) &&& 31).toUInt32).toInt32) &&& (255 : Int32)).toUInt32.toUInt16.toUInt32.toInt32)), (.int (1 : Int32)), (.ref b2)])) t := fun t k => st8 _ k
  have K10 : ∀ t, Steps p.tables e below (T8.setTop (mkF m 40 #[.val (.int p1), .val (.int p2), .val (.int p3), .val (.int p4), .val (.ref b2), .unset, .unset, .unset, .unset, .unset, .unset, .unset, .unset, .unset, .unset, .unset, .unset, .unset] [(.int ((((p1.toUInt32 >>> ((16 : Int32) &&& 31).toUInt32).toInt32) &&& (255 : Int32)).toUInt32.toUInt16.toUInt32.toInt32)), (.int (2 : Int32)), (.ref b2)])) t → Steps p.tables e below (T8.setTop (mkF m 28 #[.val (.int p1), .val (.int p2), .val (.int p3), .val (.int p4), .val (.ref b2), .unset, .unset, .unset, .unset, .unset, .unset, .unset, .unset, .unset, .unset, .unset, .unset, .unset] [])) t := by
    intro t k
    refine XS.aload X8.here hx rfl (Jvm.hb hby at_28) rfl rfl ?_
    show Steps p.tables e below (T8.setTop (mkF m 30 #[.val (.int p1), .val (.int p2), .val (.int p3), .val (.int p4), .val (.ref b2), .unset, .unset, .unset, .unset, .unset, .unset, .unset, .unset, .unset, .unset, .unset, .unset, .unset] [(.ref b2)])) t
    refine XS.iconst X8.here hx rfl (Jvm.hb hby at_30) ?_
    show Steps p.tables e below (T8.setTop (mkF m 31 #[.val (.int p1), .val (.int p2), .val (.int p3), .val (.int p4), .val (.ref b2), .unset, .unset, .unset, .unset, .unset, .unset, .unset, .unset, .unset, .unset, .unset, .unset, .unset] [(.int (2 : Int32)), (.ref b2)])) t
    refine XS.iloadN X8.here hx rfl (Jvm.hb hby at_31) rfl ?_
    show Steps p.tables e below (T8.setTop (mkF m 32 #[.val (.int p1), .val (.int p2), .val (.int p3), .val (.int p4), .val (.ref b2), .unset, .unset, .unset, .unset, .unset, .unset, .unset, .unset, .unset, .unset, .unset, .unset, .unset] [(.int p1), (.int (2 : Int32)), (.ref b2)])) t
    refine XS.bipush X8.here hx rfl (Jvm.hb hby at_32) ?_
    show Steps p.tables e below (T8.setTop (mkF m 34 #[.val (.int p1), .val (.int p2), .val (.int p3), .val (.int p4), .val (.ref b2), .unset, .unset, .unset, .unset, .unset, .unset, .unset, .unset, .unset, .unset, .unset, .unset, .unset] [(.int (16 : Int32)), (.int p1), (.int (2 : Int32)), (.ref b2)])) t
    refine XS.iushr X8.here hx rfl (Jvm.hb hby at_34) rfl ?_
    show Steps p.tables e below (T8.setTop (mkF m 35 #[.val (.int p1), .val (.int p2), .val (.int p3), .val (.int p4), .val (.ref b2), .unset, .unset, .unset, .unset, .unset, .unset, .unset, .unset, .unset, .unset, .unset, .unset, .unset] [(.int ((p1.toUInt32 >>> ((16 : Int32) &&& 31).toUInt32).toInt32)), (.int (2 : Int32)), (.ref b2)])) t
    refine XS.sipush X8.here hx rfl (Jvm.hb hby at_35) ?_
    show Steps p.tables e below (T8.setTop (mkF m 38 #[.val (.int p1), .val (.int p2), .val (.int p3), .val (.int p4), .val (.ref b2), .unset, .unset, .unset, .unset, .unset, .unset, .unset, .unset, .unset, .unset, .unset, .unset, .unset] [(.int (255 : Int32)), (.int ((p1.toUInt32 >>> ((16 : Int32) &&& 31).toUInt32).toInt32)), (.int (2 : Int32)), (.ref b2)])) t
    refine XS.iand X8.here hx rfl (Jvm.hb hby at_38) rfl ?_
    show Steps p.tables e below (T8.setTop (mkF m 39 #[.val (.int p1), .val (.int p2), .val (.int p3), .val (.int p4), .val (.ref b2), .unset, .unset, .unset, .unset, .unset, .unset, .unset, .unset, .unset, .unset, .unset, .unset, .unset] [(.int (((p1.toUInt32 >>> ((16 : Int32) &&& 31).toUInt32).toInt32) &&& (255 : Int32))), (.int (2 : Int32)), (.ref b2)])) t
    refine XS.i2c X8.here hx rfl (Jvm.hb hby at_39) rfl ?_
    show Steps p.tables e below (T8.setTop (mkF m 40 #[.val (.int p1), .val (.int p2), .val (.int p3), .val (.int p4), .val (.ref b2), .unset, .unset, .unset, .unset, .unset, .unset, .unset, .unset, .unset, .unset, .unset, .unset, .unset] [(.int ((((p1.toUInt32 >>> ((16 : Int32) &&& 31).toUInt32).toInt32) &&& (255 : Int32)).toUInt32.toUInt16.toUInt32.toInt32)), (.int (2 : Int32)), (.ref b2)])) t
    exact k
  have hin11 : ¬ (2 : Int32) < 0 ∧ (2 : Int32) < (4 : Int32) := by exact ⟨by decide, by decide⟩
  obtain ⟨cl11, Aq11, hj11, aq11⟩ := Ia.at Aw8 hin11
  obtain ⟨T11, h11, X11, e11, W11, st11⟩ := stC X8 hx hZ e8 Aq11 (j := (2 : Int32)) hj11 (g := (mkF m 40 #[.val (.int p1), .val (.int p2), .val (.int p3), .val (.int p4), .val (.ref b2), .unset, .unset, .unset, .unset, .unset, .unset, .unset, .unset, .unset, .unset, .unset, .unset, .unset] [(.int ((((p1.toUInt32 >>> ((16 : Int32) &&& 31).toUInt32).toInt32) &&& (255 : Int32)).toUInt32.toUInt16.toUInt32.toInt32)), (.int (2 : Int32)), (.ref b2)])) rfl rfl (Jvm.hb hby at_40)
  have KP11 : Keep h0 h11 [] := KP8.wr W11 (Or.inr sz_b2)
  have N11 := Fr.snoc X11 N8 gb_b2
  have CR11 : CHr Z EL0 s.vm h0 vm0 h11 := CR8.trans (CHr.wr W11 (own_safeA hZ.alike Aw8 (by decide)) CR8.1)
  have SK11 := Nat.le_trans SK8 (own_wrsz W11)
  have Aw11 : Ia Z h11 b2 .char (4 : Int32) (f0_u3 p1) := Aw8.set W11 hin11.1
  have K12 : ∀ t, Steps p.tables e below (T11.setTop (mkF m 41 #[.val (.int p1), .val (.int p2), .val (.int p3), .val (.int p4), .val (.ref b2), .unset, .unset, .unset, .unset, .unset, .unset, .unset, .unset, .unset, .unset, .unset, .unset, .unset] [])) t → Steps p.tables e below (T8.setTop (mkF m 40 #[.val (.int p1), .val (.int p2), .val (.int p3), .val (.int p4), .val (.ref b2), .unset, .unset, .unset, .unset, .unset, .unset, .unset, .unset, .unset, .unset, .unset, .unset, .unset] [(.int ((((p1.toUInt32 >>> ((16 : Int32) &&& 31).toUInt32).toInt32) &&& (255 : Int32)).toUInt32.toUInt16.toUInt32.toInt32)), (.int (2 : Int32)), (.ref b2)])) t := fun t k => st11 _ k
  have K13 : ∀ t, Steps p.tables e below (T11.setTop (mkF m 53 #[.val (.int p1), .val (.int p2), .val (.int p3), .val (.int p4), .val (.ref b2), .unset, .unset, .unset, .unset, .unset, .unset, .unset, .unset, .unset, .unset, .unset, .unset, .unset] [(.int ((((p1.toUInt32 >>> ((24 : Int32) &&& 31).toUInt32).toInt32) &&& (255 : Int32)).toUInt32.toUInt16.toUInt32.toInt32)), (.int (3 : Int32)), (.ref b2)])) t → Steps p.tables e below (T11.setTop (mkF m 41 #[.val (.int p1), .val (.int p2), .val (.int p3), .val (.int p4), .val (.ref b2), .unset, .unset, .unset, .unset, .unset, .unset, .unset, .unset, .unset, .unset, .unset, .unset, .unset] [])) t := by
    intro t k
    refine XS.aload X11.here hx rfl (Jvm.hb hby at_41) rfl rfl ?_
    show Steps p.tables e below (T11.setTop (mkF m 43 #[.val (.int p1), .val (.int p2), .val (.int p3), .val (.int p4), .val (.ref b2), .unset, .unset, .unset, .unset, .unset, .unset, .unset, .unset, .unset, .unset, .unset, .unset, .unset] [(.ref b2)])) t
    refine XS.iconst X11.here hx rfl (Jvm.hb hby at_43) ?_
    show Steps p.tables e below (T11.setTop (mkF m 44 #[.val (.int p1), .val (.int p2), .val (.int p3), .val (.int p4), .val (.ref b2), .unset, .unset, .unset, .unset, .unset, .unset, .unset, .unset, .unset, .unset, .unset, .unset, .unset] [(.int (3 : Int32)), (.ref b2)])) t
    refine XS.iloadN X11.here hx rfl (Jvm.hb hby at_44) rfl ?_
    show Steps p.tables e below (T11.setTop (mkF m 45 #[.val (.int p1), .val (.int p2), .val (.int p3), .val (.int p4), .val (.ref b2), .unset, .unset, .unset, .unset, .unset, .unset, .unset, .unset, .unset, .unset, .unset, .unset, .unset] [(.int p1), (.int (3 : Int32)), (.ref b2)])) t
    refine XS.bipush X11.here hx rfl (Jvm.hb hby at_45) ?_
    show Steps p.tables e below (T11.setTop (mkF m 47 #[.val (.int p1), .val (.int p2), .val (.int p3), .val (.int p4), .val (.ref b2), .unset, .unset, .unset, .unset, .unset, .unset, .unset, .unset, .unset, .unset, .unset, .unset, .unset] [(.int (24 : Int32)), (.int p1), (.int (3 : Int32)), (.ref b2)])) t
    refine XS.iushr X11.here hx rfl (Jvm.hb hby at_47) rfl ?_
    show Steps p.tables e below (T11.setTop (mkF m 48 #[.val (.int p1), .val (.int p2), .val (.int p3), .val (.int p4), .val (.ref b2), .unset, .unset, .unset, .unset, .unset, .unset, .unset, .unset, .unset, .unset, .unset, .unset, .unset] [(.int ((p1.toUInt32 >>> ((24 : Int32) &&& 31).toUInt32).toInt32)), (.int (3 : Int32)), (.ref b2)])) t
    refine XS.sipush X11.here hx rfl (Jvm.hb hby at_48) ?_
    show Steps p.tables e below (T11.setTop (mkF m 51 #[.val (.int p1), .val (.int p2), .val (.int p3), .val (.int p4), .val (.ref b2), .unset, .unset, .unset, .unset, .unset, .unset, .unset, .unset, .unset, .unset, .unset, .unset, .unset] [(.int (255 : Int32)), (.int ((p1.toUInt32 >>> ((24 : Int32) &&& 31).toUInt32).toInt32)), (.int (3 : Int32)), (.ref b2)])) t
    refine XS.iand X11.here hx rfl (Jvm.hb hby at_51) rfl ?_
    show Steps p.tables e below (T11.setTop (mkF m 52 #[.val (.int p1), .val (.int p2), .val (.int p3), .val (.int p4), .val (.ref b2), .unset, .unset, .unset, .unset, .unset, .unset, .unset, .unset, .unset, .unset, .unset, .unset, .unset] [(.int (((p1.toUInt32 >>> ((24 : Int32) &&& 31).toUInt32).toInt32) &&& (255 : Int32))), (.int (3 : Int32)), (.ref b2)])) t
    refine XS.i2c X11.here hx rfl (Jvm.hb hby at_52) rfl ?_
    show Steps p.tables e below (T11.setTop (mkF m 53 #[.val (.int p1), .val (.int p2), .val (.int p3), .val (.int p4), .val (.ref b2), .unset, .unset, .unset, .unset, .unset, .unset, .unset, .unset, .unset, .unset, .unset, .unset, .unset] [(.int ((((p1.toUInt32 >>> ((24 : Int32) &&& 31).toUInt32).toInt32) &&& (255 : Int32)).toUInt32.toUInt16.toUInt32.toInt32)), (.int (3 : Int32)), (.ref b2)])) t
    exact k
  have hin14 : ¬ (3 : Int32) < 0 ∧ (3 : Int32) < (4 : Int32) := by exact ⟨by decide, by decide⟩
  obtain ⟨cl14, Aq14, hj14, aq14⟩ := Ia.at Aw11 hin14
  obtain ⟨T14, h14, X14, e14, W14, st14⟩ := stC X11 hx hZ e11 Aq14 (j := (3 : Int32)) hj14 (g := (mkF m 53 #[.val (.int p1), .val (.int p2), .val (.int p3), .val (.int p4), .val (.ref b2), .unset, .unset, .unset, .unset, .unset, .unset, .unset, .unset, .unset, .unset, .unset, .unset, .unset] [(.int ((((p1.toUInt32 >>> ((24 : Int32) &&& 31).toUInt32).toInt32) &&& (255 : Int32)).toUInt32.toUInt16.toUInt32.toInt32)), (.int (3 : Int32)), (.ref b2)])) rfl rfl (Jvm.hb hby at_53)
  have KP14 : Keep h0 h14 [] := KP11.wr W14 (Or.inr sz_b2)
  have N14 := Fr.snoc X14 N11 gb_b2
  have CR14 : CHr Z EL0 s.vm h0 vm0 h14 := CR11.trans (CHr.wr W14 (own_safeA hZ.alike Aw11 (by decide)) CR11.1)
  have SK14 := Nat.le_trans SK11 (own_wrsz W14)
  have Aw14 : Ia Z h14 b2 .char (4 : Int32) (f0_u4 p1) := Aw11.set W14 hin14.1
  have K15 : ∀ t, Steps p.tables e below (T14.setTop (mkF m 54 #[.val (.int p1), .val (.int p2), .val (.int p3), .val (.int p4), .val (.ref b2), .unset, .unset, .unset, .unset, .unset, .unset, .unset, .unset, .unset, .unset, .unset, .unset, .unset] [])) t → Steps p.tables e below (T11.setTop (mkF m 53 #[.val (.int p1), .val (.int p2), .val (.int p3), .val (.int p4), .val (.ref b2), .unset, .unset, .unset, .unset, .unset, .unset, .unset, .unset, .unset, .unset, .unset, .unset, .unset] [(.int ((((p1.toUInt32 >>> ((24 : Int32) &&& 31).toUInt32).toInt32) &&& (255 : Int32)).toUInt32.toUInt16.toUInt32.toInt32)), (.int (3 : Int32)), (.ref b2)])) t := fun t k => st14 _ k
  have K16 : ∀ t, Steps p.tables e below (T14.setTop (mkF m 76 #[.val (.int p1), .val (.int p2), .val (.int p3), .val (.int p4), .val (.ref b2), .val (.int ((p3 &&& (7 : Int32)) % (5 : Int32))), .val (.int (f0_u5 p3)), .unset, .unset, .unset, .unset, .unset, .unset, .unset, .unset, .unset, .unset, .unset] [(.int (f0_u5 p3)), (.int ((p3 &&& (7 : Int32)) % (5 : Int32)))])) t → Steps p.tables e below (T14.setTop (mkF m 54 #[.val (.int p1), .val (.int p2), .val (.int p3), .val (.int p4), .val (.ref b2), .unset, .unset, .unset, .unset, .unset, .unset, .unset, .unset, .unset, .unset, .unset, .unset, .unset] [])) t := by
    intro t k
    refine XS.iloadN X14.here hx rfl (Jvm.hb hby at_54) rfl ?_
    show Steps p.tables e below (T14.setTop (mkF m 55 #[.val (.int p1), .val (.int p2), .val (.int p3), .val (.int p4), .val (.ref b2), .unset, .unset, .unset, .unset, .unset, .unset, .unset, .unset, .unset, .unset, .unset, .unset, .unset] [(.int p3)])) t
    refine XS.bipush X14.here hx rfl (Jvm.hb hby at_55) ?_
    show Steps p.tables e below (T14.setTop (mkF m 57 #[.val (.int p1), .val (.int p2), .val (.int p3), .val (.int p4), .val (.ref b2), .unset, .unset, .unset, .unset, .unset, .unset, .unset, .unset, .unset, .unset, .unset, .unset, .unset] [(.int (7 : Int32)), (.int p3)])) t
    refine XS.iand X14.here hx rfl (Jvm.hb hby at_57) rfl ?_
    show Steps p.tables e below (T14.setTop (mkF m 58 #[.val (.int p1), .val (.int p2), .val (.int p3), .val (.int p4), .val (.ref b2), .unset, .unset, .unset, .unset, .unset, .unset, .unset, .unset, .unset, .unset, .unset, .unset, .unset] [(.int (p3 &&& (7 : Int32)))])) t
    refine XS.iconst X14.here hx rfl (Jvm.hb hby at_58) ?_
    show Steps p.tables e below (T14.setTop (mkF m 59 #[.val (.int p1), .val (.int p2), .val (.int p3), .val (.int p4), .val (.ref b2), .unset, .unset, .unset, .unset, .unset, .unset, .unset, .unset, .unset, .unset, .unset, .unset, .unset] [(.int (5 : Int32)), (.int (p3 &&& (7 : Int32)))])) t
    refine iremM X14 hx rfl (Jvm.hb hby at_59) rfl (show (5 : Int32) ≠ (0 : Int32) from (by decide)) ?_
    show Steps p.tables e below (T14.setTop (mkF m 60 #[.val (.int p1), .val (.int p2), .val (.int p3), .val (.int p4), .val (.ref b2), .unset, .unset, .unset, .unset, .unset, .unset, .unset, .unset, .unset, .unset, .unset, .unset, .unset] [(.int ((p3 &&& (7 : Int32)) % (5 : Int32)))])) t
    refine XS.istore X14.here hx rfl (Jvm.hb hby at_60) rfl (l' := #[.val (.int p1), .val (.int p2), .val (.int p3), .val (.int p4), .val (.ref b2), .val (.int ((p3 &&& (7 : Int32)) % (5 : Int32))), .unset, .unset, .unset, .unset, .unset, .unset, .unset, .unset, .unset, .unset, .unset, .unset]) rfl ?_
    show Steps p.tables e below (T14.setTop (mkF m 62 #[.val (.int p1), .val (.int p2), .val (.int p3), .val (.int p4), .val (.ref b2), .val (.int ((p3 &&& (7 : Int32)) % (5 : Int32))), .unset, .unset, .unset, .unset, .unset, .unset, .unset, .unset, .unset, .unset, .unset, .unset] [])) t
    refine XS.iloadN X14.here hx rfl (Jvm.hb hby at_62) rfl ?_
    show Steps p.tables e below (T14.setTop (mkF m 63 #[.val (.int p1), .val (.int p2), .val (.int p3), .val (.int p4), .val (.ref b2), .val (.int ((p3 &&& (7 : Int32)) % (5 : Int32))), .unset, .unset, .unset, .unset, .unset, .unset, .unset, .unset, .unset, .unset, .unset, .unset] [(.int p3)])) t
    refine XS.iconst X14.here hx rfl (Jvm.hb hby at_63) ?_
    show Steps p.tables e below (T14.setTop (mkF m 64 #[.val (.int p1), .val (.int p2), .val (.int p3), .val (.int p4), .val (.ref b2), .val (.int ((p3 &&& (7 : Int32)) % (5 : Int32))), .unset, .unset, .unset, .unset, .unset, .unset, .unset, .unset, .unset, .unset, .unset, .unset] [(.int (3 : Int32)), (.int p3)])) t
    refine XS.iushr X14.here hx rfl (Jvm.hb hby at_64) rfl ?_
    show Steps p.tables e below (T14.setTop (mkF m 65 #[.val (.int p1), .val (.int p2), .val (.int p3), .val (.int p4), .val (.ref b2), .val (.int ((p3 &&& (7 : Int32)) % (5 : Int32))), .unset, .unset, .unset, .unset, .unset, .unset, .unset, .unset, .unset, .unset, .unset, .unset] [(.int ((p3.toUInt32 >>> ((3 : Int32) &&& 31).toUInt32).toInt32))])) t
    refine XS.bipush X14.here hx rfl (Jvm.hb hby at_65) ?_
    show Steps p.tables e below (T14.setTop (mkF m 67 #[.val (.int p1), .val (.int p2), .val (.int p3), .val (.int p4), .val (.ref b2), .val (.int ((p3 &&& (7 : Int32)) % (5 : Int32))), .unset, .unset, .unset, .unset, .unset, .unset, .unset, .unset, .unset, .unset, .unset, .unset] [(.int (7 : Int32)), (.int ((p3.toUInt32 >>> ((3 : Int32) &&& 31).toUInt32).toInt32))])) t
    refine XS.iand X14.here hx rfl (Jvm.hb hby at_67) rfl ?_
    show Steps p.tables e below (T14.setTop (mkF m 68 #[.val (.int p1), .val (.int p2), .val (.int p3), .val (.int p4), .val (.ref b2), .val (.int ((p3 &&& (7 : Int32)) % (5 : Int32))), .unset, .unset, .unset, .unset, .unset, .unset, .unset, .unset, .unset, .unset, .unset, .unset] [(.int (((p3.toUInt32 >>> ((3 : Int32) &&& 31).toUInt32).toInt32) &&& (7 : Int32)))])) t
    refine XS.iconst X14.here hx rfl (Jvm.hb hby at_68) ?_
    show Steps p.tables e below (T14.setTop (mkF m 69 #[.val (.int p1), .val (.int p2), .val (.int p3), .val (.int p4), .val (.ref b2), .val (.int ((p3 &&& (7 : Int32)) % (5 : Int32))), .unset, .unset, .unset, .unset, .unset, .unset, .unset, .unset, .unset, .unset, .unset, .unset] [(.int (5 : Int32)), (.int (((p3.toUInt32 >>> ((3 : Int32) &&& 31).toUInt32).toInt32) &&& (7 : Int32)))])) t
    refine iremM X14 hx rfl (Jvm.hb hby at_69) rfl (show (5 : Int32) ≠ (0 : Int32) from (by decide)) ?_
    show Steps p.tables e below (T14.setTop (mkF m 70 #[.val (.int p1), .val (.int p2), .val (.int p3), .val (.int p4), .val (.ref b2), .val (.int ((p3 &&& (7 : Int32)) % (5 : Int32))), .unset, .unset, .unset, .unset, .unset, .unset, .unset, .unset, .unset, .unset, .unset, .unset] [(.int ((((p3.toUInt32 >>> ((3 : Int32) &&& 31).toUInt32).toInt32) &&& (7 : Int32)) % (5 : Int32)))])) t
    refine XS.istore X14.here hx rfl (Jvm.hb hby at_70) rfl (l' := #[.val (.int p1), .val (.int p2), .val (.int p3), .val (.int p4), .val (.ref b2), .val (.int ((p3 &&& (7 : Int32)) % (5 : Int32))), .val (.int (f0_u5 p3)), .unset, .unset, .unset, .unset, .unset, .unset, .unset, .unset, .unset, .unset, .unset]) rfl ?_
    show Steps p.tables e below (T14.setTop (mkF m 72 #[.val (.int p1), .val (.int p2), .val (.int p3), .val (.int p4), .val (.ref b2), .val (.int ((p3 &&& (7 : Int32)) % (5 : Int32))), .val (.int (f0_u5 p3)), .unset, .unset, .unset, .unset, .unset, .unset, .unset, .unset, .unset, .unset, .unset] [])) t
    refine XS.iload X14.here hx rfl (Jvm.hb hby at_72) rfl ?_
    show Steps p.tables e below (T14.setTop (mkF m 74 #[.val (.int p1), .val (.int p2), .val (.int p3), .val (.int p4), .val (.ref b2), .val (.int ((p3 &&& (7 : Int32)) % (5 : Int32))), .val (.int (f0_u5 p3)), .unset, .unset, .unset, .unset, .unset, .unset, .unset, .unset, .unset, .unset, .unset] [(.int ((p3 &&& (7 : Int32)) % (5 : Int32)))])) t
    refine XS.iload X14.here hx rfl (Jvm.hb hby at_74) rfl ?_
    show Steps p.tables e below (T14.setTop (mkF m 76 #[.val (.int p1), .val (.int p2), .val (.int p3), .val (.int p4), .val (.ref b2), .val (.int ((p3 &&& (7 : Int32)) % (5 : Int32))), .val (.int (f0_u5 p3)), .unset, .unset, .unset, .unset, .unset, .unset, .unset, .unset, .unset, .unset, .unset] [(.int (f0_u5 p3)), (.int ((p3 &&& (7 : Int32)) % (5 : Int32)))])) t
    exact k
  obtain ⟨_, _, ⟨T17, L17, k17, n17⟩, -, X17, ⟨Lc17, hQ17, l17, y17, z17⟩, st17⟩ := Jvm.LawKit.callS X14 hx (y := (⟨"java/lang/Math", "min", "(II)I"⟩ : MethodName)) hown (mvT hZ (hw _ (List.mem_of_getElem? (i := 1) rfl))) (mvT hZ (hw _ (List.mem_of_getElem? (i := 2) rfl))) (mvT hZ (hw _ (List.mem_of_getElem? (i := 3) rfl))) (mvT hZ (hw _ (List.mem_of_getElem? (i := 4) rfl))) (by decide) (backOf (W := 0) (rm1 l Z a0 hw [] ((p3 &&& (7 : Int32)) % (5 : Int32)) (f0_u5 p3) h14 n0 (Nat.le_trans Z0 KP14.1) ) hZ (hw _ (List.mem_of_getElem? (i := 4) rfl)) (hw _ (List.mem_of_getElem? (i := 3) rfl)) (by decide) (by decide)) (g := (mkF m 76 #[.val (.int p1), .val (.int p2), .val (.int p3), .val (.int p4), .val (.ref b2), .val (.int ((p3 &&& (7 : Int32)) % (5 : Int32))), .val (.int (f0_u5 p3)), .unset, .unset, .unset, .unset, .unset, .unset, .unset, .unset, .unset, .unset, .unset] [(.int (f0_u5 p3)), (.int ((p3 &&& (7 : Int32)) % (5 : Int32)))])) rfl (by rw [hml]; rfl) (argsL := [(.int ((p3 &&& (7 : Int32)) % (5 : Int32))), (.int (f0_u5 p3))]) (rest := []) (lenOf pd_0 rfl) rfl (by show 2 * 0 + _ ≤ _; exact Nat.le_of_eq rfl) (Jvm.hb hby at_76) (fun _ _ => ⟨rfl, e14, (by decide : 1 + 0 ≤ _), (by decide : 4 + 0 ≤ _)⟩)
  dsimp only [Pt.U, Pt.locs, Pt.cells, Pt.slots] at X17 l17 y17 z17 st17 hQ17
  subst l17 y17 z17
  obtain ⟨rfl, N17q, e17⟩ := hQ17
  have N17 := Fr.app N14 N17q
  have K18 : ∀ t, Steps p.tables e below (T17.setTop (mkF m 79 #[.val (.int p1), .val (.int p2), .val (.int p3), .val (.int p4), .val (.ref b2), .val (.int ((p3 &&& (7 : Int32)) % (5 : Int32))), .val (.int (f0_u5 p3)), .unset, .unset, .unset, .unset, .unset, .unset, .unset, .unset, .unset, .unset, .unset] [(.int (f1 ((p3 &&& (7 : Int32)) % (5 : Int32)) (f0_u5 p3)))])) t → Steps p.tables e below (T14.setTop (mkF m 76 #[.val (.int p1), .val (.int p2), .val (.int p3), .val (.int p4), .val (.ref b2), .val (.int ((p3 &&& (7 : Int32)) % (5 : Int32))), .val (.int (f0_u5 p3)), .unset, .unset, .unset, .unset, .unset, .unset, .unset, .unset, .unset, .unset, .unset] [(.int (f0_u5 p3)), (.int ((p3 &&& (7 : Int32)) % (5 : Int32)))])) t := fun t k => st17 _ k
  have K19 : ∀ t, Steps p.tables e below (T17.setTop (mkF m 85 #[.val (.int p1), .val (.int p2), .val (.int p3), .val (.int p4), .val (.ref b2), .val (.int ((p3 &&& (7 : Int32)) % (5 : Int32))), .val (.int (f0_u5 p3)), .val (.int (f0_u6 p3)), .unset, .unset, .unset, .unset, .unset, .unset, .unset, .unset, .unset, .unset] [(.int (f0_u5 p3)), (.int ((p3 &&& (7 : Int32)) % (5 : Int32)))])) t → Steps p.tables e below (T17.setTop (mkF m 79 #[.val (.int p1), .val (.int p2), .val (.int p3), .val (.int p4), .val (.ref b2), .val (.int ((p3 &&& (7 : Int32)) % (5 : Int32))), .val (.int (f0_u5 p3)), .unset, .unset, .unset, .unset, .unset, .unset, .unset, .unset, .unset, .unset, .unset] [(.int (f1 ((p3 &&& (7 : Int32)) % (5 : Int32)) (f0_u5 p3)))])) t := by
    intro t k
    refine XS.istore X17.here hx rfl (Jvm.hb hby at_79) rfl (l' := #[.val (.int p1), .val (.int p2), .val (.int p3), .val (.int p4), .val (.ref b2), .val (.int ((p3 &&& (7 : Int32)) % (5 : Int32))), .val (.int (f0_u5 p3)), .val (.int (f0_u6 p3)), .unset, .unset, .unset, .unset, .unset, .unset, .unset, .unset, .unset, .unset]) rfl ?_
    show Steps p.tables e below (T17.setTop (mkF m 81 #[.val (.int p1), .val (.int p2), .val (.int p3), .val (.int p4), .val (.ref b2), .val (.int ((p3 &&& (7 : Int32)) % (5 : Int32))), .val (.int (f0_u5 p3)), .val (.int (f0_u6 p3)), .unset, .unset, .unset, .unset, .unset, .unset, .unset, .unset, .unset, .unset] [])) t
    refine XS.iload X17.here hx rfl (Jvm.hb hby at_81) rfl ?_
    show Steps p.tables e below (T17.setTop (mkF m 83 #[.val (.int p1), .val (.int p2), .val (.int p3), .val (.int p4), .val (.ref b2), .val (.int ((p3 &&& (7 : Int32)) % (5 : Int32))), .val (.int (f0_u5 p3)), .val (.int (f0_u6 p3)), .unset, .unset, .unset, .unset, .unset, .unset, .unset, .unset, .unset, .unset] [(.int ((p3 &&& (7 : Int32)) % (5 : Int32)))])) t
    refine XS.iload X17.here hx rfl (Jvm.hb hby at_83) rfl ?_
    show Steps p.tables e below (T17.setTop (mkF m 85 #[.val (.int p1), .val (.int p2), .val (.int p3), .val (.int p4), .val (.ref b2), .val (.int ((p3 &&& (7 : Int32)) % (5 : Int32))), .val (.int (f0_u5 p3)), .val (.int (f0_u6 p3)), .unset, .unset, .unset, .unset, .unset, .unset, .unset, .unset, .unset, .unset] [(.int (f0_u5 p3)), (.int ((p3 &&& (7 : Int32)) % (5 : Int32)))])) t
    exact k
  obtain ⟨_, _, ⟨T20, L20, k20, n20⟩, -, X20, ⟨Lc20, hQ20, l20, y20, z20⟩, st20⟩ := Jvm.LawKit.callS X17 hx (y := (⟨"java/lang/Math", "max", "(II)I"⟩ : MethodName)) hown (mvT hZ (hw _ (List.mem_of_getElem? (i := 5) rfl))) (mvT hZ (hw _ (List.mem_of_getElem? (i := 6) rfl))) (mvT hZ (hw _ (List.mem_of_getElem? (i := 3) rfl))) (mvT hZ (hw _ (List.mem_of_getElem? (i := 7) rfl))) (by decide) (backOf (W := 0) (rm2 l Z a0 hw [] ((p3 &&& (7 : Int32)) % (5 : Int32)) (f0_u5 p3) h14 n0 (Nat.le_trans Z0 KP14.1) ) hZ (hw _ (List.mem_of_getElem? (i := 7) rfl)) (hw _ (List.mem_of_getElem? (i := 3) rfl)) (by decide) (by decide)) (g := (mkF m 85 #[.val (.int p1), .val (.int p2), .val (.int p3), .val (.int p4), .val (.ref b2), .val (.int ((p3 &&& (7 : Int32)) % (5 : Int32))), .val (.int (f0_u5 p3)), .val (.int (f0_u6 p3)), .unset, .unset, .unset, .unset, .unset, .unset, .unset, .unset, .unset, .unset] [(.int (f0_u5 p3)), (.int ((p3 &&& (7 : Int32)) % (5 : Int32)))])) rfl (by rw [hml]; rfl) (argsL := [(.int ((p3 &&& (7 : Int32)) % (5 : Int32))), (.int (f0_u5 p3))]) (rest := []) (lenOf pd_0 rfl) rfl (by show 2 * 0 + _ ≤ _; exact Nat.le_of_eq rfl) (Jvm.hb hby at_85) (fun _ _ => ⟨rfl, e17, (by decide : 1 + 0 ≤ _), (by decide : 4 + 0 ≤ _)⟩)
  dsimp only [Pt.U, Pt.locs, Pt.cells, Pt.slots] at X20 l20 y20 z20 st20 hQ20
  subst l20 y20 z20
  obtain ⟨rfl, N20q, e20⟩ := hQ20
  have N20 := Fr.app N17 N20q
  have K21 : ∀ t, Steps p.tables e below (T20.setTop (mkF m 88 #[.val (.int p1), .val (.int p2), .val (.int p3), .val (.int p4), .val (.ref b2), .val (.int ((p3 &&& (7 : Int32)) % (5 : Int32))), .val (.int (f0_u5 p3)), .val (.int (f0_u6 p3)), .unset, .unset, .unset, .unset, .unset, .unset, .unset, .unset, .unset, .unset] [(.int (f2 ((p3 &&& (7 : Int32)) % (5 : Int32)) (f0_u5 p3)))])) t → Steps p.tables e below (T17.setTop (mkF m 85 #[.val (.int p1), .val (.int p2), .val (.int p3), .val (.int p4), .val (.ref b2), .val (.int ((p3 &&& (7 : Int32)) % (5 : Int32))), .val (.int (f0_u5 p3)), .val (.int (f0_u6 p3)), .unset, .unset, .unset, .unset, .unset, .unset, .unset, .unset, .unset, .unset] [(.int (f0_u5 p3)), (.int ((p3 &&& (7 : Int32)) % (5 : Int32)))])) t := fun t k => st20 _ k
  have K22 : ∀ t, Steps p.tables e below (T20.setTop (mkF m 102 #[.val (.int p1), .val (.int p2), .val (.int p3), .val (.int p4), .val (.ref b2), .val (.int ((p3 &&& (7 : Int32)) % (5 : Int32))), .val (.int (f0_u5 p3)), .val (.int (f0_u6 p3)), .val (.int (f0_u7 p3)), .val (.int (p4 &&& (3 : Int32))), .unset, .unset, .unset, .unset, .unset, .unset, .unset, .unset] [(.int p2), (.int p4), (.int (0 : Int32)), (.int (f0_u6 p3)), (.ref b2)])) t → Steps p.tables e below (T20.setTop (mkF m 88 #[.val (.int p1), .val (.int p2), .val (.int p3), .val (.int p4), .val (.ref b2), .val (.int ((p3 &&& (7 : Int32)) % (5 : Int32))), .val (.int (f0_u5 p3)), .val (.int (f0_u6 p3)), .unset, .unset, .unset, .unset, .unset, .unset, .unset, .unset, .unset, .unset] [(.int (f2 ((p3 &&& (7 : Int32)) % (5 : Int32)) (f0_u5 p3)))])) t := by
    intro t k
    refine XS.istore X20.here hx rfl (Jvm.hb hby at_88) rfl (l' := #[.val (.int p1), .val (.int p2), .val (.int p3), .val (.int p4), .val (.ref b2), .val (.int ((p3 &&& (7 : Int32)) % (5 : Int32))), .val (.int (f0_u5 p3)), .val (.int (f0_u6 p3)), .val (.int (f0_u7 p3)), .unset, .unset, .unset, .unset, .unset, .unset, .unset, .unset, .unset]) rfl ?_
    show Steps p.tables e below (T20.setTop (mkF m 90 #[.val (.int p1), .val (.int p2), .val (.int p3), .val (.int p4), .val (.ref b2), .val (.int ((p3 &&& (7 : Int32)) % (5 : Int32))), .val (.int (f0_u5 p3)), .val (.int (f0_u6 p3)), .val (.int (f0_u7 p3)), .unset, .unset, .unset, .unset, .unset, .unset, .unset, .unset, .unset] [])) t
    refine XS.iloadN X20.here hx rfl (Jvm.hb hby at_90) rfl ?_
    show Steps p.tables e below (T20.setTop (mkF m 91 #[.val (.int p1), .val (.int p2), .val (.int p3), .val (.int p4), .val (.ref b2), .val (.int ((p3 &&& (7 : Int32)) % (5 : Int32))), .val (.int (f0_u5 p3)), .val (.int (f0_u6 p3)), .val (.int (f0_u7 p3)), .unset, .unset, .unset, .unset, .unset, .unset, .unset, .unset, .unset] [(.int p4)])) t
    refine XS.iconst X20.here hx rfl (Jvm.hb hby at_91) ?_
    show Steps p.tables e below (T20.setTop (mkF m 92 #[.val (.int p1), .val (.int p2), .val (.int p3), .val (.int p4), .val (.ref b2), .val (.int ((p3 &&& (7 : Int32)) % (5 : Int32))), .val (.int (f0_u5 p3)), .val (.int (f0_u6 p3)), .val (.int (f0_u7 p3)), .unset, .unset, .unset, .unset, .unset, .unset, .unset, .unset, .unset] [(.int (3 : Int32)), (.int p4)])) t
    refine XS.iand X20.here hx rfl (Jvm.hb hby at_92) rfl ?_
    show Steps p.tables e below (T20.setTop (mkF m 93 #[.val (.int p1), .val (.int p2), .val (.int p3), .val (.int p4), .val (.ref b2), .val (.int ((p3 &&& (7 : Int32)) % (5 : Int32))), .val (.int (f0_u5 p3)), .val (.int (f0_u6 p3)), .val (.int (f0_u7 p3)), .unset, .unset, .unset, .unset, .unset, .unset, .unset, .unset, .unset] [(.int (p4 &&& (3 : Int32)))])) t
    refine XS.istore X20.here hx rfl (Jvm.hb hby at_93) rfl (l' := #[.val (.int p1), .val (.int p2), .val (.int p3), .val (.int p4), .val (.ref b2), .val (.int ((p3 &&& (7 : Int32)) % (5 : Int32))), .val (.int (f0_u5 p3)), .val (.int (f0_u6 p3)), .val (.int (f0_u7 p3)), .val (.int (p4 &&& (3 : Int32))), .unset, .unset, .unset, .unset, .unset, .unset, .unset, .unset]) rfl ?_
    show Steps p.tables e below (T20.setTop (mkF m 95 #[.val (.int p1), .val (.int p2), .val (.int p3), .val (.int p4), .val (.ref b2), .val (.int ((p3 &&& (7 : Int32)) % (5 : Int32))), .val (.int (f0_u5 p3)), .val (.int (f0_u6 p3)), .val (.int (f0_u7 p3)), .val (.int (p4 &&& (3 : Int32))), .unset, .unset, .unset, .unset, .unset, .unset, .unset, .unset] [])) t
    refine XS.aload X20.here hx rfl (Jvm.hb hby at_95) rfl rfl ?_
    show Steps p.tables e below (T20.setTop (mkF m 97 #[.val (.int p1), .val (.int p2), .val (.int p3), .val (.int p4), .val (.ref b2), .val (.int ((p3 &&& (7 : Int32)) % (5 : Int32))), .val (.int (f0_u5 p3)), .val (.int (f0_u6 p3)), .val (.int (f0_u7 p3)), .val (.int (p4 &&& (3 : Int32))), .unset, .unset, .unset, .unset, .unset, .unset, .unset, .unset] [(.ref b2)])) t
    refine XS.iload X20.here hx rfl (Jvm.hb hby at_97) rfl ?_
    show Steps p.tables e below (T20.setTop (mkF m 99 #[.val (.int p1), .val (.int p2), .val (.int p3), .val (.int p4), .val (.ref b2), .val (.int ((p3 &&& (7 : Int32)) % (5 : Int32))), .val (.int (f0_u5 p3)), .val (.int (f0_u6 p3)), .val (.int (f0_u7 p3)), .val (.int (p4 &&& (3 : Int32))), .unset, .unset, .unset, .unset, .unset, .unset, .unset, .unset] [(.int (f0_u6 p3)), (.ref b2)])) t
    refine XS.iconst X20.here hx rfl (Jvm.hb hby at_99) ?_
    show Steps p.tables e below (T20.setTop (mkF m 100 #[.val (.int p1), .val (.int p2), .val (.int p3), .val (.int p4), .val (.ref b2), .val (.int ((p3 &&& (7 : Int32)) % (5 : Int32))), .val (.int (f0_u5 p3)), .val (.int (f0_u6 p3)), .val (.int (f0_u7 p3)), .val (.int (p4 &&& (3 : Int32))), .unset, .unset, .unset, .unset, .unset, .unset, .unset, .unset] [(.int (0 : Int32)), (.int (f0_u6 p3)), (.ref b2)])) t
    refine XS.iloadN X20.here hx rfl (Jvm.hb hby at_100) rfl ?_
    show Steps p.tables e below (T20.setTop (mkF m 101 #[.val (.int p1), .val (.int p2), .val (.int p3), .val (.int p4), .val (.ref b2), .val (.int ((p3 &&& (7 : Int32)) % (5 : Int32))), .val (.int (f0_u5 p3)), .val (.int (f0_u6 p3)), .val (.int (f0_u7 p3)), .val (.int (p4 &&& (3 : Int32))), .unset, .unset, .unset, .unset, .unset, .unset, .unset, .unset] [(.int p4), (.int (0 : Int32)), (.int (f0_u6 p3)), (.ref b2)])) t
    refine XS.iloadN X20.here hx rfl (Jvm.hb hby at_101) rfl ?_
    show Steps p.tables e below (T20.setTop (mkF m 102 #[.val (.int p1), .val (.int p2), .val (.int p3), .val (.int p4), .val (.ref b2), .val (.int ((p3 &&& (7 : Int32)) % (5 : Int32))), .val (.int (f0_u5 p3)), .val (.int (f0_u6 p3)), .val (.int (f0_u7 p3)), .val (.int (p4 &&& (3 : Int32))), .unset, .unset, .unset, .unset, .unset, .unset, .unset, .unset] [(.int p2), (.int p4), (.int (0 : Int32)), (.int (f0_u6 p3)), (.ref b2)])) t
    exact k
  obtain ⟨_, _, ⟨T23, L23, k23, n23⟩, -, X23, ⟨Lc23, hQ23, l23, y23, z23⟩, st23⟩ := Jvm.LawKit.callS X20 hx (y := (⟨"com/example/clapboard/clapboard/parse/TextCursorReadPinLaw", "pick", "([CIIII)C"⟩ : MethodName)) hown (mvT hZ (hw _ (List.mem_of_getElem? (i := 8) rfl))) (mvT hZ (hw _ (List.mem_of_getElem? (i := 9) rfl))) (mvT hZ (hw _ (List.mem_of_getElem? (i := 10) rfl))) (mvT hZ (hw _ (List.mem_of_getElem? (i := 11) rfl))) (by decide) (backOf (W := 0) (rm3 l Z a0 hw [] b2 (f0_u6 p3) (0 : Int32) p4 p2 (4 : Int32) (f0_u4 p1) h14 n0 (Nat.le_trans Z0 KP14.1) rfl Aw14) hZ (hw _ (List.mem_of_getElem? (i := 11) rfl)) (hw _ (List.mem_of_getElem? (i := 10) rfl)) (by decide) (by decide)) (g := (mkF m 102 #[.val (.int p1), .val (.int p2), .val (.int p3), .val (.int p4), .val (.ref b2), .val (.int ((p3 &&& (7 : Int32)) % (5 : Int32))), .val (.int (f0_u5 p3)), .val (.int (f0_u6 p3)), .val (.int (f0_u7 p3)), .val (.int (p4 &&& (3 : Int32))), .unset, .unset, .unset, .unset, .unset, .unset, .unset, .unset] [(.int p2), (.int p4), (.int (0 : Int32)), (.int (f0_u6 p3)), (.ref b2)])) rfl (by rw [hml]; rfl) (argsL := [(.ref b2), (.int (f0_u6 p3)), (.int (0 : Int32)), (.int p4), (.int p2)]) (rest := []) (lenOf pd_1 rfl) rfl (by show 2 * 0 + _ ≤ _; exact Nat.le_of_eq rfl) (Jvm.hb hby at_102) (fun _ _ => ⟨rfl, e20, (by decide : 1 + 0 ≤ _), (by decide : 4 + 0 ≤ _)⟩)
  dsimp only [Pt.U, Pt.locs, Pt.cells, Pt.slots] at X23 l23 y23 z23 st23 hQ23
  subst l23 y23 z23
  obtain ⟨rfl, N23q, e23⟩ := hQ23
  have N23 := Fr.app N20 N23q
  have K24 : ∀ t, Steps p.tables e below (T23.setTop (mkF m 105 #[.val (.int p1), .val (.int p2), .val (.int p3), .val (.int p4), .val (.ref b2), .val (.int ((p3 &&& (7 : Int32)) % (5 : Int32))), .val (.int (f0_u5 p3)), .val (.int (f0_u6 p3)), .val (.int (f0_u7 p3)), .val (.int (p4 &&& (3 : Int32))), .unset, .unset, .unset, .unset, .unset, .unset, .unset, .unset] [(.int (f3 (f0_u6 p3) (0 : Int32) p4 p2 (f0_u4 p1)))])) t → Steps p.tables e below (T20.setTop (mkF m 102 #[.val (.int p1), .val (.int p2), .val (.int p3), .val (.int p4), .val (.ref b2), .val (.int ((p3 &&& (7 : Int32)) % (5 : Int32))), .val (.int (f0_u5 p3)), .val (.int (f0_u6 p3)), .val (.int (f0_u7 p3)), .val (.int (p4 &&& (3 : Int32))), .unset, .unset, .unset, .unset, .unset, .unset, .unset, .unset] [(.int p2), (.int p4), (.int (0 : Int32)), (.int (f0_u6 p3)), (.ref b2)])) t := fun t k => st23 _ k
  have K25 : ∀ t, Steps p.tables e below (T23.setTop (mkF m 114 #[.val (.int p1), .val (.int p2), .val (.int p3), .val (.int p4), .val (.ref b2), .val (.int ((p3 &&& (7 : Int32)) % (5 : Int32))), .val (.int (f0_u5 p3)), .val (.int (f0_u6 p3)), .val (.int (f0_u7 p3)), .val (.int (p4 &&& (3 : Int32))), .val (.int (f0_u8 p1 p2 p3 p4)), .unset, .unset, .unset, .unset, .unset, .unset, .unset] [(.int p2), (.int p4), (.int (1 : Int32)), (.int (f0_u6 p3)), (.ref b2)])) t → Steps p.tables e below (T23.setTop (mkF m 105 #[.val (.int p1), .val (.int p2), .val (.int p3), .val (.int p4), .val (.ref b2), .val (.int ((p3 &&& (7 : Int32)) % (5 : Int32))), .val (.int (f0_u5 p3)), .val (.int (f0_u6 p3)), .val (.int (f0_u7 p3)), .val (.int (p4 &&& (3 : Int32))), .unset, .unset, .unset, .unset, .unset, .unset, .unset, .unset] [(.int (f3 (f0_u6 p3) (0 : Int32) p4 p2 (f0_u4 p1)))])) t := by
    intro t k
    refine XS.istore X23.here hx rfl (Jvm.hb hby at_105) rfl (l' := #[.val (.int p1), .val (.int p2), .val (.int p3), .val (.int p4), .val (.ref b2), .val (.int ((p3 &&& (7 : Int32)) % (5 : Int32))), .val (.int (f0_u5 p3)), .val (.int (f0_u6 p3)), .val (.int (f0_u7 p3)), .val (.int (p4 &&& (3 : Int32))), .val (.int (f0_u8 p1 p2 p3 p4)), .unset, .unset, .unset, .unset, .unset, .unset, .unset]) rfl ?_
    show Steps p.tables e below (T23.setTop (mkF m 107 #[.val (.int p1), .val (.int p2), .val (.int p3), .val (.int p4), .val (.ref b2), .val (.int ((p3 &&& (7 : Int32)) % (5 : Int32))), .val (.int (f0_u5 p3)), .val (.int (f0_u6 p3)), .val (.int (f0_u7 p3)), .val (.int (p4 &&& (3 : Int32))), .val (.int (f0_u8 p1 p2 p3 p4)), .unset, .unset, .unset, .unset, .unset, .unset, .unset] [])) t
    refine XS.aload X23.here hx rfl (Jvm.hb hby at_107) rfl rfl ?_
    show Steps p.tables e below (T23.setTop (mkF m 109 #[.val (.int p1), .val (.int p2), .val (.int p3), .val (.int p4), .val (.ref b2), .val (.int ((p3 &&& (7 : Int32)) % (5 : Int32))), .val (.int (f0_u5 p3)), .val (.int (f0_u6 p3)), .val (.int (f0_u7 p3)), .val (.int (p4 &&& (3 : Int32))), .val (.int (f0_u8 p1 p2 p3 p4)), .unset, .unset, .unset, .unset, .unset, .unset, .unset] [(.ref b2)])) t
    refine XS.iload X23.here hx rfl (Jvm.hb hby at_109) rfl ?_
    show Steps p.tables e below (T23.setTop (mkF m 111 #[.val (.int p1), .val (.int p2), .val (.int p3), .val (.int p4), .val (.ref b2), .val (.int ((p3 &&& (7 : Int32)) % (5 : Int32))), .val (.int (f0_u5 p3)), .val (.int (f0_u6 p3)), .val (.int (f0_u7 p3)), .val (.int (p4 &&& (3 : Int32))), .val (.int (f0_u8 p1 p2 p3 p4)), .unset, .unset, .unset, .unset, .unset, .unset, .unset] [(.int (f0_u6 p3)), (.ref b2)])) t
    refine XS.iconst X23.here hx rfl (Jvm.hb hby at_111) ?_
    show Steps p.tables e below (T23.setTop (mkF m 112 #[.val (.int p1), .val (.int p2), .val (.int p3), .val (.int p4), .val (.ref b2), .val (.int ((p3 &&& (7 : Int32)) % (5 : Int32))), .val (.int (f0_u5 p3)), .val (.int (f0_u6 p3)), .val (.int (f0_u7 p3)), .val (.int (p4 &&& (3 : Int32))), .val (.int (f0_u8 p1 p2 p3 p4)), .unset, .unset, .unset, .unset, .unset, .unset, .unset] [(.int (1 : Int32)), (.int (f0_u6 p3)), (.ref b2)])) t
    refine XS.iloadN X23.here hx rfl (Jvm.hb hby at_112) rfl ?_
    show Steps p.tables e below (T23.setTop (mkF m 113 #[.val (.int p1), .val (.int p2), .val (.int p3), .val (.int p4), .val (.ref b2), .val (.int ((p3 &&& (7 : Int32)) % (5 : Int32))), .val (.int (f0_u5 p3)), .val (.int (f0_u6 p3)), .val (.int (f0_u7 p3)), .val (.int (p4 &&& (3 : Int32))), .val (.int (f0_u8 p1 p2 p3 p4)), .unset, .unset, .unset, .unset, .unset, .unset, .unset] [(.int p4), (.int (1 : Int32)), (.int (f0_u6 p3)), (.ref b2)])) t
    refine XS.iloadN X23.here hx rfl (Jvm.hb hby at_113) rfl ?_
    show Steps p.tables e below (T23.setTop (mkF m 114 #[.val (.int p1), .val (.int p2), .val (.int p3), .val (.int p4), .val (.ref b2), .val (.int ((p3 &&& (7 : Int32)) % (5 : Int32))), .val (.int (f0_u5 p3)), .val (.int (f0_u6 p3)), .val (.int (f0_u7 p3)), .val (.int (p4 &&& (3 : Int32))), .val (.int (f0_u8 p1 p2 p3 p4)), .unset, .unset, .unset, .unset, .unset, .unset, .unset] [(.int p2), (.int p4), (.int (1 : Int32)), (.int (f0_u6 p3)), (.ref b2)])) t
    exact k
  obtain ⟨_, _, ⟨T26, L26, k26, n26⟩, -, X26, ⟨Lc26, hQ26, l26, y26, z26⟩, st26⟩ := Jvm.LawKit.callS X23 hx (y := (⟨"com/example/clapboard/clapboard/parse/TextCursorReadPinLaw", "pick", "([CIIII)C"⟩ : MethodName)) hown (mvT hZ (hw _ (List.mem_of_getElem? (i := 8) rfl))) (mvT hZ (hw _ (List.mem_of_getElem? (i := 9) rfl))) (mvT hZ (hw _ (List.mem_of_getElem? (i := 10) rfl))) (mvT hZ (hw _ (List.mem_of_getElem? (i := 11) rfl))) (by decide) (backOf (W := 0) (rm3 l Z a0 hw [] b2 (f0_u6 p3) (1 : Int32) p4 p2 (4 : Int32) (f0_u4 p1) h14 n0 (Nat.le_trans Z0 KP14.1) rfl Aw14) hZ (hw _ (List.mem_of_getElem? (i := 11) rfl)) (hw _ (List.mem_of_getElem? (i := 10) rfl)) (by decide) (by decide)) (g := (mkF m 114 #[.val (.int p1), .val (.int p2), .val (.int p3), .val (.int p4), .val (.ref b2), .val (.int ((p3 &&& (7 : Int32)) % (5 : Int32))), .val (.int (f0_u5 p3)), .val (.int (f0_u6 p3)), .val (.int (f0_u7 p3)), .val (.int (p4 &&& (3 : Int32))), .val (.int (f0_u8 p1 p2 p3 p4)), .unset, .unset, .unset, .unset, .unset, .unset, .unset] [(.int p2), (.int p4), (.int (1 : Int32)), (.int (f0_u6 p3)), (.ref b2)])) rfl (by rw [hml]; rfl) (argsL := [(.ref b2), (.int (f0_u6 p3)), (.int (1 : Int32)), (.int p4), (.int p2)]) (rest := []) (lenOf pd_1 rfl) rfl (by show 2 * 0 + _ ≤ _; exact Nat.le_of_eq rfl) (Jvm.hb hby at_114) (fun _ _ => ⟨rfl, e23, (by decide : 1 + 0 ≤ _), (by decide : 4 + 0 ≤ _)⟩)
  dsimp only [Pt.U, Pt.locs, Pt.cells, Pt.slots] at X26 l26 y26 z26 st26 hQ26
  subst l26 y26 z26
  obtain ⟨rfl, N26q, e26⟩ := hQ26
  have N26 := Fr.app N23 N26q
  have K27 : ∀ t, Steps p.tables e below (T26.setTop (mkF m 117 #[.val (.int p1), .val (.int p2), .val (.int p3), .val (.int p4), .val (.ref b2), .val (.int ((p3 &&& (7 : Int32)) % (5 : Int32))), .val (.int (f0_u5 p3)), .val (.int (f0_u6 p3)), .val (.int (f0_u7 p3)), .val (.int (p4 &&& (3 : Int32))), .val (.int (f0_u8 p1 p2 p3 p4)), .unset, .unset, .unset, .unset, .unset, .unset, .unset] [(.int (f3 (f0_u6 p3) (1 : Int32) p4 p2 (f0_u4 p1)))])) t → Steps p.tables e below (T23.setTop (mkF m 114 #[.val (.int p1), .val (.int p2), .val (.int p3), .val (.int p4), .val (.ref b2), .val (.int ((p3 &&& (7 : Int32)) % (5 : Int32))), .val (.int (f0_u5 p3)), .val (.int (f0_u6 p3)), .val (.int (f0_u7 p3)), .val (.int (p4 &&& (3 : Int32))), .val (.int (f0_u8 p1 p2 p3 p4)), .unset, .unset, .unset, .unset, .unset, .unset, .unset] [(.int p2), (.int p4), (.int (1 : Int32)), (.int (f0_u6 p3)), (.ref b2)])) t := fun t k => st26 _ k
  have K28 : ∀ t, Steps p.tables e below (T26.setTop (mkF m 126 #[.val (.int p1), .val (.int p2), .val (.int p3), .val (.int p4), .val (.ref b2), .val (.int ((p3 &&& (7 : Int32)) % (5 : Int32))), .val (.int (f0_u5 p3)), .val (.int (f0_u6 p3)), .val (.int (f0_u7 p3)), .val (.int (p4 &&& (3 : Int32))), .val (.int (f0_u8 p1 p2 p3 p4)), .val (.int (f0_u9 p1 p2 p3 p4)), .unset, .unset, .unset, .unset, .unset, .unset] [(.int p2), (.int p4), (.int (2 : Int32)), (.int (f0_u6 p3)), (.ref b2)])) t → Steps p.tables e below (T26.setTop (mkF m 117 #[.val (.int p1), .val (.int p2), .val (.int p3), .val (.int p4), .val (.ref b2), .val (.int ((p3 &&& (7 : Int32)) % (5 : Int32))), .val (.int (f0_u5 p3)), .val (.int (f0_u6 p3)), .val (.int (f0_u7 p3)), .val (.int (p4 &&& (3 : Int32))), .val (.int (f0_u8 p1 p2 p3 p4)), .unset, .unset, .unset, .unset, .unset, .unset, .unset] [(.int (f3 (f0_u6 p3) (1 : Int32) p4 p2 (f0_u4 p1)))])) t := by
    intro t k
    refine XS.istore X26.here hx rfl (Jvm.hb hby at_117) rfl (l' := #[.val (.int p1), .val (.int p2), .val (.int p3), .val (.int p4), .val (.ref b2), .val (.int ((p3 &&& (7 : Int32)) % (5 : Int32))), .val (.int (f0_u5 p3)), .val (.int (f0_u6 p3)), .val (.int (f0_u7 p3)), .val (.int (p4 &&& (3 : Int32))), .val (.int (f0_u8 p1 p2 p3 p4)), .val (.int (f0_u9 p1 p2 p3 p4)), .unset, .unset, .unset, .unset, .unset, .unset]) rfl ?_
    show Steps p.tables e below (T26.setTop (mkF m 119 #[.val (.int p1), .val (.int p2), .val (.int p3), .val (.int p4), .val (.ref b2), .val (.int ((p3 &&& (7 : Int32)) % (5 : Int32))), .val (.int (f0_u5 p3)), .val (.int (f0_u6 p3)), .val (.int (f0_u7 p3)), .val (.int (p4 &&& (3 : Int32))), .val (.int (f0_u8 p1 p2 p3 p4)), .val (.int (f0_u9 p1 p2 p3 p4)), .unset, .unset, .unset, .unset, .unset, .unset] [])) t
    refine XS.aload X26.here hx rfl (Jvm.hb hby at_119) rfl rfl ?_
    show Steps p.tables e below (T26.setTop (mkF m 121 #[.val (.int p1), .val (.int p2), .val (.int p3), .val (.int p4), .val (.ref b2), .val (.int ((p3 &&& (7 : Int32)) % (5 : Int32))), .val (.int (f0_u5 p3)), .val (.int (f0_u6 p3)), .val (.int (f0_u7 p3)), .val (.int (p4 &&& (3 : Int32))), .val (.int (f0_u8 p1 p2 p3 p4)), .val (.int (f0_u9 p1 p2 p3 p4)), .unset, .unset, .unset, .unset, .unset, .unset] [(.ref b2)])) t
    refine XS.iload X26.here hx rfl (Jvm.hb hby at_121) rfl ?_
    show Steps p.tables e below (T26.setTop (mkF m 123 #[.val (.int p1), .val (.int p2), .val (.int p3), .val (.int p4), .val (.ref b2), .val (.int ((p3 &&& (7 : Int32)) % (5 : Int32))), .val (.int (f0_u5 p3)), .val (.int (f0_u6 p3)), .val (.int (f0_u7 p3)), .val (.int (p4 &&& (3 : Int32))), .val (.int (f0_u8 p1 p2 p3 p4)), .val (.int (f0_u9 p1 p2 p3 p4)), .unset, .unset, .unset, .unset, .unset, .unset] [(.int (f0_u6 p3)), (.ref b2)])) t
    refine XS.iconst X26.here hx rfl (Jvm.hb hby at_123) ?_
    show Steps p.tables e below (T26.setTop (mkF m 124 #[.val (.int p1), .val (.int p2), .val (.int p3), .val (.int p4), .val (.ref b2), .val (.int ((p3 &&& (7 : Int32)) % (5 : Int32))), .val (.int (f0_u5 p3)), .val (.int (f0_u6 p3)), .val (.int (f0_u7 p3)), .val (.int (p4 &&& (3 : Int32))), .val (.int (f0_u8 p1 p2 p3 p4)), .val (.int (f0_u9 p1 p2 p3 p4)), .unset, .unset, .unset, .unset, .unset, .unset] [(.int (2 : Int32)), (.int (f0_u6 p3)), (.ref b2)])) t
    refine XS.iloadN X26.here hx rfl (Jvm.hb hby at_124) rfl ?_
    show Steps p.tables e below (T26.setTop (mkF m 125 #[.val (.int p1), .val (.int p2), .val (.int p3), .val (.int p4), .val (.ref b2), .val (.int ((p3 &&& (7 : Int32)) % (5 : Int32))), .val (.int (f0_u5 p3)), .val (.int (f0_u6 p3)), .val (.int (f0_u7 p3)), .val (.int (p4 &&& (3 : Int32))), .val (.int (f0_u8 p1 p2 p3 p4)), .val (.int (f0_u9 p1 p2 p3 p4)), .unset, .unset, .unset, .unset, .unset, .unset] [(.int p4), (.int (2 : Int32)), (.int (f0_u6 p3)), (.ref b2)])) t
    refine XS.iloadN X26.here hx rfl (Jvm.hb hby at_125) rfl ?_
    show Steps p.tables e below (T26.setTop (mkF m 126 #[.val (.int p1), .val (.int p2), .val (.int p3), .val (.int p4), .val (.ref b2), .val (.int ((p3 &&& (7 : Int32)) % (5 : Int32))), .val (.int (f0_u5 p3)), .val (.int (f0_u6 p3)), .val (.int (f0_u7 p3)), .val (.int (p4 &&& (3 : Int32))), .val (.int (f0_u8 p1 p2 p3 p4)), .val (.int (f0_u9 p1 p2 p3 p4)), .unset, .unset, .unset, .unset, .unset, .unset] [(.int p2), (.int p4), (.int (2 : Int32)), (.int (f0_u6 p3)), (.ref b2)])) t
    exact k
  obtain ⟨_, _, ⟨T29, L29, k29, n29⟩, -, X29, ⟨Lc29, hQ29, l29, y29, z29⟩, st29⟩ := Jvm.LawKit.callS X26 hx (y := (⟨"com/example/clapboard/clapboard/parse/TextCursorReadPinLaw", "pick", "([CIIII)C"⟩ : MethodName)) hown (mvT hZ (hw _ (List.mem_of_getElem? (i := 8) rfl))) (mvT hZ (hw _ (List.mem_of_getElem? (i := 9) rfl))) (mvT hZ (hw _ (List.mem_of_getElem? (i := 10) rfl))) (mvT hZ (hw _ (List.mem_of_getElem? (i := 11) rfl))) (by decide) (backOf (W := 0) (rm3 l Z a0 hw [] b2 (f0_u6 p3) (2 : Int32) p4 p2 (4 : Int32) (f0_u4 p1) h14 n0 (Nat.le_trans Z0 KP14.1) rfl Aw14) hZ (hw _ (List.mem_of_getElem? (i := 11) rfl)) (hw _ (List.mem_of_getElem? (i := 10) rfl)) (by decide) (by decide)) (g := (mkF m 126 #[.val (.int p1), .val (.int p2), .val (.int p3), .val (.int p4), .val (.ref b2), .val (.int ((p3 &&& (7 : Int32)) % (5 : Int32))), .val (.int (f0_u5 p3)), .val (.int (f0_u6 p3)), .val (.int (f0_u7 p3)), .val (.int (p4 &&& (3 : Int32))), .val (.int (f0_u8 p1 p2 p3 p4)), .val (.int (f0_u9 p1 p2 p3 p4)), .unset, .unset, .unset, .unset, .unset, .unset] [(.int p2), (.int p4), (.int (2 : Int32)), (.int (f0_u6 p3)), (.ref b2)])) rfl (by rw [hml]; rfl) (argsL := [(.ref b2), (.int (f0_u6 p3)), (.int (2 : Int32)), (.int p4), (.int p2)]) (rest := []) (lenOf pd_1 rfl) rfl (by show 2 * 0 + _ ≤ _; exact Nat.le_of_eq rfl) (Jvm.hb hby at_126) (fun _ _ => ⟨rfl, e26, (by decide : 1 + 0 ≤ _), (by decide : 4 + 0 ≤ _)⟩)
  dsimp only [Pt.U, Pt.locs, Pt.cells, Pt.slots] at X29 l29 y29 z29 st29 hQ29
  subst l29 y29 z29
  obtain ⟨rfl, N29q, e29⟩ := hQ29
  have N29 := Fr.app N26 N29q
  have K30 : ∀ t, Steps p.tables e below (T29.setTop (mkF m 129 #[.val (.int p1), .val (.int p2), .val (.int p3), .val (.int p4), .val (.ref b2), .val (.int ((p3 &&& (7 : Int32)) % (5 : Int32))), .val (.int (f0_u5 p3)), .val (.int (f0_u6 p3)), .val (.int (f0_u7 p3)), .val (.int (p4 &&& (3 : Int32))), .val (.int (f0_u8 p1 p2 p3 p4)), .val (.int (f0_u9 p1 p2 p3 p4)), .unset, .unset, .unset, .unset, .unset, .unset] [(.int (f3 (f0_u6 p3) (2 : Int32) p4 p2 (f0_u4 p1)))])) t → Steps p.tables e below (T26.setTop (mkF m 126 #[.val (.int p1), .val (.int p2), .val (.int p3), .val (.int p4), .val (.ref b2), .val (.int ((p3 &&& (7 : Int32)) % (5 : Int32))), .val (.int (f0_u5 p3)), .val (.int (f0_u6 p3)), .val (.int (f0_u7 p3)), .val (.int (p4 &&& (3 : Int32))), .val (.int (f0_u8 p1 p2 p3 p4)), .val (.int (f0_u9 p1 p2 p3 p4)), .unset, .unset, .unset, .unset, .unset, .unset] [(.int p2), (.int p4), (.int (2 : Int32)), (.int (f0_u6 p3)), (.ref b2)])) t := fun t k => st29 _ k
  have K31 : ∀ t, Steps p.tables e below (T29.setTop (mkF m 139 #[.val (.int p1), .val (.int p2), .val (.int p3), .val (.int p4), .val (.ref b2), .val (.int ((p3 &&& (7 : Int32)) % (5 : Int32))), .val (.int (f0_u5 p3)), .val (.int (f0_u6 p3)), .val (.int (f0_u7 p3)), .val (.int (p4 &&& (3 : Int32))), .val (.int (f0_u8 p1 p2 p3 p4)), .val (.int (f0_u9 p1 p2 p3 p4)), .val (.int (f0_u10 p1 p2 p3 p4)), .unset, .unset, .unset, .unset, .unset] [(.int (f0_u10 p1 p2 p3 p4)), (.int (f0_u9 p1 p2 p3 p4)), (.int (f0_u8 p1 p2 p3 p4)), (.int (p4 &&& (3 : Int32)))])) t → Steps p.tables e below (T29.setTop (mkF m 129 #[.val (.int p1), .val (.int p2), .val (.int p3), .val (.int p4), .val (.ref b2), .val (.int ((p3 &&& (7 : Int32)) % (5 : Int32))), .val (.int (f0_u5 p3)), .val (.int (f0_u6 p3)), .val (.int (f0_u7 p3)), .val (.int (p4 &&& (3 : Int32))), .val (.int (f0_u8 p1 p2 p3 p4)), .val (.int (f0_u9 p1 p2 p3 p4)), .unset, .unset, .unset, .unset, .unset, .unset] [(.int (f3 (f0_u6 p3) (2 : Int32) p4 p2 (f0_u4 p1)))])) t := by
    intro t k
    refine XS.istore X29.here hx rfl (Jvm.hb hby at_129) rfl (l' := #[.val (.int p1), .val (.int p2), .val (.int p3), .val (.int p4), .val (.ref b2), .val (.int ((p3 &&& (7 : Int32)) % (5 : Int32))), .val (.int (f0_u5 p3)), .val (.int (f0_u6 p3)), .val (.int (f0_u7 p3)), .val (.int (p4 &&& (3 : Int32))), .val (.int (f0_u8 p1 p2 p3 p4)), .val (.int (f0_u9 p1 p2 p3 p4)), .val (.int (f0_u10 p1 p2 p3 p4)), .unset, .unset, .unset, .unset, .unset]) rfl ?_
    show Steps p.tables e below (T29.setTop (mkF m 131 #[.val (.int p1), .val (.int p2), .val (.int p3), .val (.int p4), .val (.ref b2), .val (.int ((p3 &&& (7 : Int32)) % (5 : Int32))), .val (.int (f0_u5 p3)), .val (.int (f0_u6 p3)), .val (.int (f0_u7 p3)), .val (.int (p4 &&& (3 : Int32))), .val (.int (f0_u8 p1 p2 p3 p4)), .val (.int (f0_u9 p1 p2 p3 p4)), .val (.int (f0_u10 p1 p2 p3 p4)), .unset, .unset, .unset, .unset, .unset] [])) t
    refine XS.iload X29.here hx rfl (Jvm.hb hby at_131) rfl ?_
    show Steps p.tables e below (T29.setTop (mkF m 133 #[.val (.int p1), .val (.int p2), .val (.int p3), .val (.int p4), .val (.ref b2), .val (.int ((p3 &&& (7 : Int32)) % (5 : Int32))), .val (.int (f0_u5 p3)), .val (.int (f0_u6 p3)), .val (.int (f0_u7 p3)), .val (.int (p4 &&& (3 : Int32))), .val (.int (f0_u8 p1 p2 p3 p4)), .val (.int (f0_u9 p1 p2 p3 p4)), .val (.int (f0_u10 p1 p2 p3 p4)), .unset, .unset, .unset, .unset, .unset] [(.int (p4 &&& (3 : Int32)))])) t
    refine XS.iload X29.here hx rfl (Jvm.hb hby at_133) rfl ?_
    show Steps p.tables e below (T29.setTop (mkF m 135 #[.val (.int p1), .val (.int p2), .val (.int p3), .val (.int p4), .val (.ref b2), .val (.int ((p3 &&& (7 : Int32)) % (5 : Int32))), .val (.int (f0_u5 p3)), .val (.int (f0_u6 p3)), .val (.int (f0_u7 p3)), .val (.int (p4 &&& (3 : Int32))), .val (.int (f0_u8 p1 p2 p3 p4)), .val (.int (f0_u9 p1 p2 p3 p4)), .val (.int (f0_u10 p1 p2 p3 p4)), .unset, .unset, .unset, .unset, .unset] [(.int (f0_u8 p1 p2 p3 p4)), (.int (p4 &&& (3 : Int32)))])) t
    refine XS.iload X29.here hx rfl (Jvm.hb hby at_135) rfl ?_
    show Steps p.tables e below (T29.setTop (mkF m 137 #[.val (.int p1), .val (.int p2), .val (.int p3), .val (.int p4), .val (.ref b2), .val (.int ((p3 &&& (7 : Int32)) % (5 : Int32))), .val (.int (f0_u5 p3)), .val (.int (f0_u6 p3)), .val (.int (f0_u7 p3)), .val (.int (p4 &&& (3 : Int32))), .val (.int (f0_u8 p1 p2 p3 p4)), .val (.int (f0_u9 p1 p2 p3 p4)), .val (.int (f0_u10 p1 p2 p3 p4)), .unset, .unset, .unset, .unset, .unset] [(.int (f0_u9 p1 p2 p3 p4)), (.int (f0_u8 p1 p2 p3 p4)), (.int (p4 &&& (3 : Int32)))])) t
    refine XS.iload X29.here hx rfl (Jvm.hb hby at_137) rfl ?_
    show Steps p.tables e below (T29.setTop (mkF m 139 #[.val (.int p1), .val (.int p2), .val (.int p3), .val (.int p4), .val (.ref b2), .val (.int ((p3 &&& (7 : Int32)) % (5 : Int32))), .val (.int (f0_u5 p3)), .val (.int (f0_u6 p3)), .val (.int (f0_u7 p3)), .val (.int (p4 &&& (3 : Int32))), .val (.int (f0_u8 p1 p2 p3 p4)), .val (.int (f0_u9 p1 p2 p3 p4)), .val (.int (f0_u10 p1 p2 p3 p4)), .unset, .unset, .unset, .unset, .unset] [(.int (f0_u10 p1 p2 p3 p4)), (.int (f0_u9 p1 p2 p3 p4)), (.int (f0_u8 p1 p2 p3 p4)), (.int (p4 &&& (3 : Int32)))])) t
    exact k
  obtain ⟨_, _, ⟨T32, L32, k32, n32⟩, -, Xq32, hSq32, hgq32, ⟨Lc32, hQ32, l32, y32, z32, CHq32⟩, st32⟩ := callSS X29 hx (y := (⟨"com/example/clapboard/clapboard/parse/TextCursorReadPinLaw", "make", "(ICCC)Ljava/lang/String;"⟩ : MethodName)) hown (mvT hZ (hw _ (List.mem_of_getElem? (i := 12) rfl))) (mvT hZ (hw _ (List.mem_of_getElem? (i := 13) rfl))) (mvT hZ (hw _ (List.mem_of_getElem? (i := 10) rfl))) (mvT hZ (hw _ (List.mem_of_getElem? (i := 14) rfl))) (by decide) (backOfSH (W := 0) (EL := EL0) (rm4 l Z a0 hw [] (p4 &&& (3 : Int32)) (f0_u8 p1 p2 p3 p4) (f0_u9 p1 p2 p3 p4) (f0_u10 p1 p2 p3 p4) w_COMPACT_STRINGS h14 n0 (Nat.le_trans Z0 KP14.1) (own_xl _ _ _ _ _) (own_xl _ _ _ _ _) (own_xl _ _ _ _ _) (S_COMPACT_STRINGS.ext (own_ext KP14)) hcs) hZ (hw _ (List.mem_of_getElem? (i := 14) rfl)) (hw _ (List.mem_of_getElem? (i := 10) rfl)) (by decide) (by decide) (ew0 hw) CR14.1) (g := (mkF m 139 #[.val (.int p1), .val (.int p2), .val (.int p3), .val (.int p4), .val (.ref b2), .val (.int ((p3 &&& (7 : Int32)) % (5 : Int32))), .val (.int (f0_u5 p3)), .val (.int (f0_u6 p3)), .val (.int (f0_u7 p3)), .val (.int (p4 &&& (3 : Int32))), .val (.int (f0_u8 p1 p2 p3 p4)), .val (.int (f0_u9 p1 p2 p3 p4)), .val (.int (f0_u10 p1 p2 p3 p4)), .unset, .unset, .unset, .unset, .unset] [(.int (f0_u10 p1 p2 p3 p4)), (.int (f0_u9 p1 p2 p3 p4)), (.int (f0_u8 p1 p2 p3 p4)), (.int (p4 &&& (3 : Int32)))])) rfl (by rw [hml]; rfl) (argsL := [(.int (p4 &&& (3 : Int32))), (.int (f0_u8 p1 p2 p3 p4)), (.int (f0_u9 p1 p2 p3 p4)), (.int (f0_u10 p1 p2 p3 p4))]) (rest := []) (lenOf pd_2 rfl) rfl (by show 2 * 0 + _ ≤ _; exact Nat.le_of_eq rfl) (Jvm.hb hby at_139) (fun _ _ => ⟨rfl, e29, (by decide : 1 + 6 ≤ _), (by decide : 4 + 12 ≤ _)⟩)
  dsimp only [Pt.U, Pt.locs, Pt.cells, Pt.slots] at Xq32 hSq32 hgq32 CHq32 l32 y32 z32 st32 hQ32
  subst l32 y32 z32
  obtain ⟨X32, hS, hZ, hown⟩ := rebS hS (show _ ≤ T29.heap.size from (by rw [e29]; exact SK14)) Xq32 hSq32 hgq32 hZ hown
  obtain ⟨h32, e32⟩ : ∃ z, T32.heap = z := ⟨_, rfl⟩
  rw [e32] at hQ32
  rw [e32] at CHq32
  obtain ⟨b32_x1, b32_x2, rfl, N32q, Kq32, szq_b32_x1, gb_b32_x1, ne_b32_x1_b32_x2, R32_0, R32_1, R32_2, R32_3⟩ := hQ32
  have N32 := Fr.app N29 N32q
  have KP32 : Keep h0 h32 [] := KP14.trans Kq32 all0
  have A32_2 : Ia Z h32 b2 .char (4 : Int32) (f0_u4 p1) := Aw14.keep Kq32 nin0
  have CR32 : CHr Z EL0 s.vm h0 T32.vm h32 := CR14.trans (CHq32)
  rw [e32] at hS
  have ne32_x1_0 : b2 ≠ b32_x1 := Nat.ne_of_lt (Nat.lt_of_lt_of_le Aw14.lt szq_b32_x1)
  have sz_b32_x1 : h0.size ≤ b32_x1 := Nat.le_trans KP14.1 szq_b32_x1
  have K33 : ∀ t, Steps p.tables e below (T32.setTop (mkF m 142 #[.val (.int p1), .val (.int p2), .val (.int p3), .val (.int p4), .val (.ref b2), .val (.int ((p3 &&& (7 : Int32)) % (5 : Int32))), .val (.int (f0_u5 p3)), .val (.int (f0_u6 p3)), .val (.int (f0_u7 p3)), .val (.int (p4 &&& (3 : Int32))), .val (.int (f0_u8 p1 p2 p3 p4)), .val (.int (f0_u9 p1 p2 p3 p4)), .val (.int (f0_u10 p1 p2 p3 p4)), .unset, .unset, .unset, .unset, .unset] [(.ref b32_x1)])) t → Steps p.tables e below (T29.setTop (mkF m 139 #[.val (.int p1), .val (.int p2), .val (.int p3), .val (.int p4), .val (.ref b2), .val (.int ((p3 &&& (7 : Int32)) % (5 : Int32))), .val (.int (f0_u5 p3)), .val (.int (f0_u6 p3)), .val (.int (f0_u7 p3)), .val (.int (p4 &&& (3 : Int32))), .val (.int (f0_u8 p1 p2 p3 p4)), .val (.int (f0_u9 p1 p2 p3 p4)), .val (.int (f0_u10 p1 p2 p3 p4)), .unset, .unset, .unset, .unset, .unset] [(.int (f0_u10 p1 p2 p3 p4)), (.int (f0_u9 p1 p2 p3 p4)), (.int (f0_u8 p1 p2 p3 p4)), (.int (p4 &&& (3 : Int32)))])) t := fun t k => st32.trans k
  have K34 : ∀ t, Steps p.tables e below (T32.setTop (mkF m 144 #[.val (.int p1), .val (.int p2), .val (.int p3), .val (.int p4), .val (.ref b2), .val (.int ((p3 &&& (7 : Int32)) % (5 : Int32))), .val (.int (f0_u5 p3)), .val (.int (f0_u6 p3)), .val (.int (f0_u7 p3)), .val (.int (p4 &&& (3 : Int32))), .val (.int (f0_u8 p1 p2 p3 p4)), .val (.int (f0_u9 p1 p2 p3 p4)), .val (.int (f0_u10 p1 p2 p3 p4)), .val (.ref b32_x1), .unset, .unset, .unset, .unset] [])) t → Steps p.tables e below (T32.setTop (mkF m 142 #[.val (.int p1), .val (.int p2), .val (.int p3), .val (.int p4), .val (.ref b2), .val (.int ((p3 &&& (7 : Int32)) % (5 : Int32))), .val (.int (f0_u5 p3)), .val (.int (f0_u6 p3)), .val (.int (f0_u7 p3)), .val (.int (p4 &&& (3 : Int32))), .val (.int (f0_u8 p1 p2 p3 p4)), .val (.int (f0_u9 p1 p2 p3 p4)), .val (.int (f0_u10 p1 p2 p3 p4)), .unset, .unset, .unset, .unset, .unset] [(.ref b32_x1)])) t := by
    intro t k
    refine XS.astore X32.here hx rfl (Jvm.hb hby at_142) rfl rfl (l' := #[.val (.int p1), .val (.int p2), .val (.int p3), .val (.int p4), .val (.ref b2), .val (.int ((p3 &&& (7 : Int32)) % (5 : Int32))), .val (.int (f0_u5 p3)), .val (.int (f0_u6 p3)), .val (.int (f0_u7 p3)), .val (.int (p4 &&& (3 : Int32))), .val (.int (f0_u8 p1 p2 p3 p4)), .val (.int (f0_u9 p1 p2 p3 p4)), .val (.int (f0_u10 p1 p2 p3 p4)), .val (.ref b32_x1), .unset, .unset, .unset, .unset]) rfl ?_
    show Steps p.tables e below (T32.setTop (mkF m 144 #[.val (.int p1), .val (.int p2), .val (.int p3), .val (.int p4), .val (.ref b2), .val (.int ((p3 &&& (7 : Int32)) % (5 : Int32))), .val (.int (f0_u5 p3)), .val (.int (f0_u6 p3)), .val (.int (f0_u7 p3)), .val (.int (p4 &&& (3 : Int32))), .val (.int (f0_u8 p1 p2 p3 p4)), .val (.int (f0_u9 p1 p2 p3 p4)), .val (.int (f0_u10 p1 p2 p3 p4)), .val (.ref b32_x1), .unset, .unset, .unset, .unset] [])) t
    exact k
  obtain ⟨T35, h35, X35, e35, E35, A35, D35, -, st35⟩ := newO X32 hx hZ hown (hw _ (List.mem_of_getElem? (i := 44) rfl)) (hw _ (List.mem_of_getElem? (i := 45) rfl)) (hw _ (List.mem_of_getElem? (i := 46) rfl)) e32 (g := (mkF m 144 #[.val (.int p1), .val (.int p2), .val (.int p3), .val (.int p4), .val (.ref b2), .val (.int ((p3 &&& (7 : Int32)) % (5 : Int32))), .val (.int (f0_u5 p3)), .val (.int (f0_u6 p3)), .val (.int (f0_u7 p3)), .val (.int (p4 &&& (3 : Int32))), .val (.int (f0_u8 p1 p2 p3 p4)), .val (.int (f0_u9 p1 p2 p3 p4)), .val (.int (f0_u10 p1 p2 p3 p4)), .val (.ref b32_x1), .unset, .unset, .unset, .unset] [])) rfl (Jvm.hb hby at_144) (by decide) (by decide)
  obtain ⟨b35, g35⟩ : ∃ z, z = h32.size := ⟨_, rfl⟩
  rw [← g35] at A35 D35 st35
  have KP35 : Keep h0 h35 [] := KP32.ext E35
  have A35_2 : Ia Z h35 b2 .char (4 : Int32) (f0_u4 p1) := A32_2.ext E35
  have E35_3 : Exa Z h35 b32_x1 "java/lang/String" := R32_0.ext E35
  have A35_4 : Ia Z h35 b32_x2 .byte (f4_u4 (p4 &&& (3 : Int32))) (f4_u5 (p4 &&& (3 : Int32)) (f0_u8 p1 p2 p3 p4) (f0_u9 p1 p2 p3 p4) (f0_u10 p1 p2 p3 p4)) := R32_1.ext E35
  have F35_5 : Fld Z h35 b32_x1 "java/lang/String" "value" "[B" (.ref b32_x2) := R32_2.ext E35
  have F35_6 : Fld Z h35 b32_x1 "java/lang/String" "coder" "B" (.int (0 : Int32)) := R32_3.ext E35
  have CR35 : CHr Z EL0 s.vm h0 T32.vm h35 := CR32.trans (CHr.ext E35 CR32.1)
  have SK35 := Nat.le_trans (Nat.le_refl _) E35.1
  have ne35_4 : b2 ≠ b35 := Nat.ne_of_lt (Nat.lt_of_lt_of_le A32_2.lt (Nat.le_of_eq g35.symm))
  have ne35_6 : b32_x1 ≠ b35 := Nat.ne_of_lt (Nat.lt_of_lt_of_le R32_0.lt (Nat.le_of_eq g35.symm))
  have ne35_8 : b32_x2 ≠ b35 := Nat.ne_of_lt (Nat.lt_of_lt_of_le R32_1.lt (Nat.le_of_eq g35.symm))
  have gb_b35 : n0 ≤ b35 := Nat.le_trans (Nat.le_trans Z0 KP32.1) (Nat.le_of_eq g35.symm)
  have sz_b35 : h0.size ≤ b35 := Nat.le_trans KP32.1 (Nat.le_of_eq g35.symm)
  have F35_text : Fld Z h35 b35 "com/example/clapboard/clapboard/parse/TextCursor" "text" "[C" .null := D35 (Or.inr (hw _ (List.mem_of_getElem? (i := 52) rfl))) (ty := (.array .char)) (by decide)
  have F35_at : Fld Z h35 b35 "com/example/clapboard/clapboard/parse/TextCursor" "at" "I" (.int (0 : Int32)) := D35 (Or.inl (hw _ (List.mem_of_getElem? (i := 54) rfl))) (ty := .int) (by decide)
  have F35_end : Fld Z h35 b35 "com/example/clapboard/clapboard/parse/TextCursor" "end" "I" (.int (0 : Int32)) := D35 (Or.inl (hw _ (List.mem_of_getElem? (i := 56) rfl))) (ty := .int) (by decide)
  have K36 : ∀ t, Steps p.tables e below (T35.setTop (mkF m 147 #[.val (.int p1), .val (.int p2), .val (.int p3), .val (.int p4), .val (.ref b2), .val (.int ((p3 &&& (7 : Int32)) % (5 : Int32))), .val (.int (f0_u5 p3)), .val (.int (f0_u6 p3)), .val (.int (f0_u7 p3)), .val (.int (p4 &&& (3 : Int32))), .val (.int (f0_u8 p1 p2 p3 p4)), .val (.int (f0_u9 p1 p2 p3 p4)), .val (.int (f0_u10 p1 p2 p3 p4)), .val (.ref b32_x1), .unset, .unset, .unset, .unset] [(.ref b35)])) t → Steps p.tables e below (T32.setTop (mkF m 144 #[.val (.int p1), .val (.int p2), .val (.int p3), .val (.int p4), .val (.ref b2), .val (.int ((p3 &&& (7 : Int32)) % (5 : Int32))), .val (.int (f0_u5 p3)), .val (.int (f0_u6 p3)), .val (.int (f0_u7 p3)), .val (.int (p4 &&& (3 : Int32))), .val (.int (f0_u8 p1 p2 p3 p4)), .val (.int (f0_u9 p1 p2 p3 p4)), .val (.int (f0_u10 p1 p2 p3 p4)), .val (.ref b32_x1), .unset, .unset, .unset, .unset] [])) t := fun t k => st35 _ k
  have K37 : ∀ t, Steps p.tables e below (T35.setTop (mkF m 154 #[.val (.int p1), .val (.int p2), .val (.int p3), .val (.int p4), .val (.ref b2), .val (.int ((p3 &&& (7 : Int32)) % (5 : Int32))), .val (.int (f0_u5 p3)), .val (.int (f0_u6 p3)), .val (.int (f0_u7 p3)), .val (.int (p4 &&& (3 : Int32))), .val (.int (f0_u8 p1 p2 p3 p4)), .val (.int (f0_u9 p1 p2 p3 p4)), .val (.int (f0_u10 p1 p2 p3 p4)), .val (.ref b32_x1), .unset, .unset, .unset, .unset] [(.int (f0_u7 p3)), (.int (f0_u6 p3)), (.ref b2), (.ref b35), (.ref b35)])) t → Steps p.tables e below (T35.setTop (mkF m 147 #[.val (.int p1), .val (.int p2), .val (.int p3), .val (.int p4), .val (.ref b2), .val (.int ((p3 &&& (7 : Int32)) % (5 : Int32))), .val (.int (f0_u5 p3)), .val (.int (f0_u6 p3)), .val (.int (f0_u7 p3)), .val (.int (p4 &&& (3 : Int32))), .val (.int (f0_u8 p1 p2 p3 p4)), .val (.int (f0_u9 p1 p2 p3 p4)), .val (.int (f0_u10 p1 p2 p3 p4)), .val (.ref b32_x1), .unset, .unset, .unset, .unset] [(.ref b35)])) t := by
    intro t k
    refine XS.dup X35.here hx rfl (Jvm.hb hby at_147) rfl rfl ?_
    show Steps p.tables e below (T35.setTop (mkF m 148 #[.val (.int p1), .val (.int p2), .val (.int p3), .val (.int p4), .val (.ref b2), .val (.int ((p3 &&& (7 : Int32)) % (5 : Int32))), .val (.int (f0_u5 p3)), .val (.int (f0_u6 p3)), .val (.int (f0_u7 p3)), .val (.int (p4 &&& (3 : Int32))), .val (.int (f0_u8 p1 p2 p3 p4)), .val (.int (f0_u9 p1 p2 p3 p4)), .val (.int (f0_u10 p1 p2 p3 p4)), .val (.ref b32_x1), .unset, .unset, .unset, .unset] [(.ref b35), (.ref b35)])) t
    refine XS.aload X35.here hx rfl (Jvm.hb hby at_148) rfl rfl ?_
    show Steps p.tables e below (T35.setTop (mkF m 150 #[.val (.int p1), .val (.int p2), .val (.int p3), .val (.int p4), .val (.ref b2), .val (.int ((p3 &&& (7 : Int32)) % (5 : Int32))), .val (.int (f0_u5 p3)), .val (.int (f0_u6 p3)), .val (.int (f0_u7 p3)), .val (.int (p4 &&& (3 : Int32))), .val (.int (f0_u8 p1 p2 p3 p4)), .val (.int (f0_u9 p1 p2 p3 p4)), .val (.int (f0_u10 p1 p2 p3 p4)), .val (.ref b32_x1), .unset, .unset, .unset, .unset] [(.ref b2), (.ref b35), (.ref b35)])) t
    refine XS.iload X35.here hx rfl (Jvm.hb hby at_150) rfl ?_
    show Steps p.tables e below (T35.setTop (mkF m 152 #[.val (.int p1), .val (.int p2), .val (.int p3), .val (.int p4), .val (.ref b2), .val (.int ((p3 &&& (7 : Int32)) % (5 : Int32))), .val (.int (f0_u5 p3)), .val (.int (f0_u6 p3)), .val (.int (f0_u7 p3)), .val (.int (p4 &&& (3 : Int32))), .val (.int (f0_u8 p1 p2 p3 p4)), .val (.int (f0_u9 p1 p2 p3 p4)), .val (.int (f0_u10 p1 p2 p3 p4)), .val (.ref b32_x1), .unset, .unset, .unset, .unset] [(.int (f0_u6 p3)), (.ref b2), (.ref b35), (.ref b35)])) t
    refine XS.iload X35.here hx rfl (Jvm.hb hby at_152) rfl ?_
    show Steps p.tables e below (T35.setTop (mkF m 154 #[.val (.int p1), .val (.int p2), .val (.int p3), .val (.int p4), .val (.ref b2), .val (.int ((p3 &&& (7 : Int32)) % (5 : Int32))), .val (.int (f0_u5 p3)), .val (.int (f0_u6 p3)), .val (.int (f0_u7 p3)), .val (.int (p4 &&& (3 : Int32))), .val (.int (f0_u8 p1 p2 p3 p4)), .val (.int (f0_u9 p1 p2 p3 p4)), .val (.int (f0_u10 p1 p2 p3 p4)), .val (.ref b32_x1), .unset, .unset, .unset, .unset] [(.int (f0_u7 p3)), (.int (f0_u6 p3)), (.ref b2), (.ref b35), (.ref b35)])) t
    exact k
  obtain ⟨_, _, ⟨T38, L38, k38, n38⟩, -, X38, ⟨Lc38, hQ38, l38, y38, z38⟩, st38⟩ := X35.specialBack hx (y := (⟨"com/example/clapboard/clapboard/parse/TextCursor", "<init>", "([CII)V"⟩ : MethodName)) rfl hown (mvT hZ (hw _ (List.mem_of_getElem? (i := 47) rfl))) (mvT hZ (hw _ (List.mem_of_getElem? (i := 48) rfl))) (mvT hZ (hw _ (List.mem_of_getElem? (i := 49) rfl))) (by decide) (backOf (W := 1) (rm11 l Z a0 hw [] b35 b2 (f0_u6 p3) (f0_u7 p3) .null (.int (0 : Int32)) (.int (0 : Int32)) h35 n0 (Nat.le_trans Z0 KP35.1) A35 F35_text gb_b35 F35_at F35_end) hZ (hw _ (List.mem_of_getElem? (i := 49) rfl)) (hw _ (List.mem_of_getElem? (i := 46) rfl)) (by decide) (by decide)) (g := (mkF m 154 #[.val (.int p1), .val (.int p2), .val (.int p3), .val (.int p4), .val (.ref b2), .val (.int ((p3 &&& (7 : Int32)) % (5 : Int32))), .val (.int (f0_u5 p3)), .val (.int (f0_u6 p3)), .val (.int (f0_u7 p3)), .val (.int (p4 &&& (3 : Int32))), .val (.int (f0_u8 p1 p2 p3 p4)), .val (.int (f0_u9 p1 p2 p3 p4)), .val (.int (f0_u10 p1 p2 p3 p4)), .val (.ref b32_x1), .unset, .unset, .unset, .unset] [(.int (f0_u7 p3)), (.int (f0_u6 p3)), (.ref b2), (.ref b35), (.ref b35)])) rfl (by rw [hml]; rfl) (Steps.refl _) (a := b35) (argsL := [(.ref b2), (.int (f0_u6 p3)), (.int (f0_u7 p3))]) (rest := [(.ref b35)]) (lenOf pd_9 rfl) rfl (by show 2 * 0 + _ ≤ _; exact Nat.le_of_eq rfl) (Jvm.hb hby at_154) (fun _ _ => ⟨rfl, e35, (by decide : 8 + 0 ≤ _), (by decide : 19 + 0 ≤ _)⟩)
  dsimp only [Pt.U, Pt.locs, Pt.cells, Pt.slots] at X38 l38 y38 z38 st38 hQ38
  subst l38 y38 z38
  obtain ⟨h38, e38⟩ : ∃ z, T38.heap = z := ⟨_, rfl⟩
  rw [e38] at hQ38
  obtain ⟨rfl, N38q, Kq38, R38_0, R38_1, R38_2, R38_3⟩ := hQ38
  have N38 := Fr.app N32 N38q
  have KP38 : Keep h0 h38 [] := KP35.trans Kq38 (allS (Or.inr sz_b35) all0)
  have A38_2 : Ia Z h38 b2 .char (4 : Int32) (f0_u4 p1) := A35_2.keep Kq38 (ninS ne35_4 nin0)
  have E38_3 : Exa Z h38 b32_x1 "java/lang/String" := E35_3.keep Kq38
  have A38_4 : Ia Z h38 b32_x2 .byte (f4_u4 (p4 &&& (3 : Int32))) (f4_u5 (p4 &&& (3 : Int32)) (f0_u8 p1 p2 p3 p4) (f0_u9 p1 p2 p3 p4) (f0_u10 p1 p2 p3 p4)) := A35_4.keep Kq38 (ninS ne35_8 nin0)
  have F38_5 : Fld Z h38 b32_x1 "java/lang/String" "value" "[B" (.ref b32_x2) := F35_5.keep Kq38 (ninS ne35_6 nin0)
  have F38_6 : Fld Z h38 b32_x1 "java/lang/String" "coder" "B" (.int (0 : Int32)) := F35_6.keep Kq38 (ninS ne35_6 nin0)
  have CR38 : CHr Z EL0 s.vm h0 T32.vm h38 := CR35.trans (CHr.keep Kq38 (allS (Safe.exa hZ.alike A35 (by decide) (by decide)) all0) CR35.1)
  have SK38 := Nat.le_trans SK35 Kq38.1
  have K39 : ∀ t, Steps p.tables e below (T38.setTop (mkF m 157 #[.val (.int p1), .val (.int p2), .val (.int p3), .val (.int p4), .val (.ref b2), .val (.int ((p3 &&& (7 : Int32)) % (5 : Int32))), .val (.int (f0_u5 p3)), .val (.int (f0_u6 p3)), .val (.int (f0_u7 p3)), .val (.int (p4 &&& (3 : Int32))), .val (.int (f0_u8 p1 p2 p3 p4)), .val (.int (f0_u9 p1 p2 p3 p4)), .val (.int (f0_u10 p1 p2 p3 p4)), .val (.ref b32_x1), .unset, .unset, .unset, .unset] [(.ref b35)])) t → Steps p.tables e below (T35.setTop (mkF m 154 #[.val (.int p1), .val (.int p2), .val (.int p3), .val (.int p4), .val (.ref b2), .val (.int ((p3 &&& (7 : Int32)) % (5 : Int32))), .val (.int (f0_u5 p3)), .val (.int (f0_u6 p3)), .val (.int (f0_u7 p3)), .val (.int (p4 &&& (3 : Int32))), .val (.int (f0_u8 p1 p2 p3 p4)), .val (.int (f0_u9 p1 p2 p3 p4)), .val (.int (f0_u10 p1 p2 p3 p4)), .val (.ref b32_x1), .unset, .unset, .unset, .unset] [(.int (f0_u7 p3)), (.int (f0_u6 p3)), (.ref b2), (.ref b35), (.ref b35)])) t := fun t k => st38.trans k
  have K40 : ∀ t, Steps p.tables e below (T38.setTop (mkF m 163 #[.val (.int p1), .val (.int p2), .val (.int p3), .val (.int p4), .val (.ref b2), .val (.int ((p3 &&& (7 : Int32)) % (5 : Int32))), .val (.int (f0_u5 p3)), .val (.int (f0_u6 p3)), .val (.int (f0_u7 p3)), .val (.int (p4 &&& (3 : Int32))), .val (.int (f0_u8 p1 p2 p3 p4)), .val (.int (f0_u9 p1 p2 p3 p4)), .val (.int (f0_u10 p1 p2 p3 p4)), .val (.ref b32_x1), .val (.ref b35), .unset, .unset, .unset] [(.ref b32_x1), (.ref b35)])) t → Steps p.tables e below (T38.setTop (mkF m 157 #[.val (.int p1), .val (.int p2), .val (.int p3), .val (.int p4), .val (.ref b2), .val (.int ((p3 &&& (7 : Int32)) % (5 : Int32))), .val (.int (f0_u5 p3)), .val (.int (f0_u6 p3)), .val (.int (f0_u7 p3)), .val (.int (p4 &&& (3 : Int32))), .val (.int (f0_u8 p1 p2 p3 p4)), .val (.int (f0_u9 p1 p2 p3 p4)), .val (.int (f0_u10 p1 p2 p3 p4)), .val (.ref b32_x1), .unset, .unset, .unset, .unset] [(.ref b35)])) t := by
    intro t k
    refine XS.astore X38.here hx rfl (Jvm.hb hby at_157) rfl rfl (l' := #[.val (.int p1), .val (.int p2), .val (.int p3), .val (.int p4), .val (.ref b2), .val (.int ((p3 &&& (7 : Int32)) % (5 : Int32))), .val (.int (f0_u5 p3)), .val (.int (f0_u6 p3)), .val (.int (f0_u7 p3)), .val (.int (p4 &&& (3 : Int32))), .val (.int (f0_u8 p1 p2 p3 p4)), .val (.int (f0_u9 p1 p2 p3 p4)), .val (.int (f0_u10 p1 p2 p3 p4)), .val (.ref b32_x1), .val (.ref b35), .unset, .unset, .unset]) rfl ?_
    show Steps p.tables e below (T38.setTop (mkF m 159 #[.val (.int p1), .val (.int p2), .val (.int p3), .val (.int p4), .val (.ref b2), .val (.int ((p3 &&& (7 : Int32)) % (5 : Int32))), .val (.int (f0_u5 p3)), .val (.int (f0_u6 p3)), .val (.int (f0_u7 p3)), .val (.int (p4 &&& (3 : Int32))), .val (.int (f0_u8 p1 p2 p3 p4)), .val (.int (f0_u9 p1 p2 p3 p4)), .val (.int (f0_u10 p1 p2 p3 p4)), .val (.ref b32_x1), .val (.ref b35), .unset, .unset, .unset] [])) t
    refine XS.aload X38.here hx rfl (Jvm.hb hby at_159) rfl rfl ?_
    show Steps p.tables e below (T38.setTop (mkF m 161 #[.val (.int p1), .val (.int p2), .val (.int p3), .val (.int p4), .val (.ref b2), .val (.int ((p3 &&& (7 : Int32)) % (5 : Int32))), .val (.int (f0_u5 p3)), .val (.int (f0_u6 p3)), .val (.int (f0_u7 p3)), .val (.int (p4 &&& (3 : Int32))), .val (.int (f0_u8 p1 p2 p3 p4)), .val (.int (f0_u9 p1 p2 p3 p4)), .val (.int (f0_u10 p1 p2 p3 p4)), .val (.ref b32_x1), .val (.ref b35), .unset, .unset, .unset] [(.ref b35)])) t
    refine XS.aload X38.here hx rfl (Jvm.hb hby at_161) rfl rfl ?_
    show Steps p.tables e below (T38.setTop (mkF m 163 #[.val (.int p1), .val (.int p2), .val (.int p3), .val (.int p4), .val (.ref b2), .val (.int ((p3 &&& (7 : Int32)) % (5 : Int32))), .val (.int (f0_u5 p3)), .val (.int (f0_u6 p3)), .val (.int (f0_u7 p3)), .val (.int (p4 &&& (3 : Int32))), .val (.int (f0_u8 p1 p2 p3 p4)), .val (.int (f0_u9 p1 p2 p3 p4)), .val (.int (f0_u10 p1 p2 p3 p4)), .val (.ref b32_x1), .val (.ref b35), .unset, .unset, .unset] [(.ref b32_x1), (.ref b35)])) t
    exact k
  obtain ⟨cq41, kq41, q41a, q41b, q41c⟩ := isOf hZ e38 R38_0
  obtain ⟨_, _, ⟨T41, L41, k41, n41⟩, -, X41, ⟨Lc41, hQ41, l41, y41, z41⟩, st41⟩ := X38.virtualBack hx (y := (⟨"com/example/clapboard/clapboard/parse/TextCursor", "read", "(Ljava/lang/String;)Z"⟩ : MethodName)) (z := (⟨"com/example/clapboard/clapboard/parse/TextCursor", "read", "(Ljava/lang/String;)Z"⟩ : MethodName)) hown (mvT hZ (hw _ (List.mem_of_getElem? (i := 57) rfl))) (mvT hZ (hw _ (List.mem_of_getElem? (i := 58) rfl))) (notFace_of_selects (args := #[]) (mvT hZ (hw _ (List.mem_of_getElem? (i := 60) rfl)))) (mvT hZ (hw _ (List.mem_of_getElem? (i := 60) rfl))) (mvT hZ (hw _ (List.mem_of_getElem? (i := 59) rfl))) (by decide) (backOf (W := 0) (rm12 l Z a0 hw [] b35 b32_x1 (f0_u7 p3) (f0_u6 p3) b32_x2 (f4_u4 (p4 &&& (3 : Int32))) (f4_u5 (p4 &&& (3 : Int32)) (f0_u8 p1 p2 p3 p4) (f0_u9 p1 p2 p3 p4) (f0_u10 p1 p2 p3 p4)) w_COMPACT_STRINGS b2 (4 : Int32) (f0_u4 p1) w_SIOOBE_FORMATTER h38 n0 (Nat.le_trans Z0 KP38.1) (own_l0 _) (own_l1 _) (own_l2 _) R38_3 R38_2 E38_3 F38_5 A38_4 (S_COMPACT_STRINGS.ext (own_ext KP38)) F38_6 hcs R38_1 A38_2 hr_w_SIOOBE_FORMATTER (S_SIOOBE_FORMATTER.ext (own_ext KP38)) R38_0 gb_b35) hZ (hw _ (List.mem_of_getElem? (i := 61) rfl)) (hw _ (List.mem_of_getElem? (i := 46) rfl)) (by decide) (by decide)) q41a q41c (g := (mkF m 163 #[.val (.int p1), .val (.int p2), .val (.int p3), .val (.int p4), .val (.ref b2), .val (.int ((p3 &&& (7 : Int32)) % (5 : Int32))), .val (.int (f0_u5 p3)), .val (.int (f0_u6 p3)), .val (.int (f0_u7 p3)), .val (.int (p4 &&& (3 : Int32))), .val (.int (f0_u8 p1 p2 p3 p4)), .val (.int (f0_u9 p1 p2 p3 p4)), .val (.int (f0_u10 p1 p2 p3 p4)), .val (.ref b32_x1), .val (.ref b35), .unset, .unset, .unset] [(.ref b32_x1), (.ref b35)])) rfl (by rw [hml]; rfl) (Steps.refl _) (argsL := [(.ref b32_x1)]) (rest := []) (lenOf pd_10 rfl) rfl (by show 2 * 0 + _ ≤ _; exact Nat.le_of_eq rfl) (Jvm.hb hby at_163) (fun _ _ => ⟨rfl, e38, (by decide : 8 + 0 ≤ _), (by decide : 19 + 0 ≤ _)⟩)
  dsimp only [Pt.U, Pt.locs, Pt.cells, Pt.slots] at X41 l41 y41 z41 st41 hQ41
  subst l41 y41 z41
  obtain ⟨h41, e41⟩ : ∃ z, T41.heap = z := ⟨_, rfl⟩
  rw [e41] at hQ41
  obtain ⟨rfl, N41q, Kq41, R41_0, R41_1, R41_2, R41_3⟩ := hQ41
  have N41 := Fr.app N38 N41q
  have KP41 : Keep h0 h41 [] := KP38.trans Kq41 (allS (Or.inr sz_b35) all0)
  have A41_2 : Ia Z h41 b2 .char (4 : Int32) (f0_u4 p1) := A38_2.keep Kq41 (ninS ne35_4 nin0)
  have E41_3 : Exa Z h41 b32_x1 "java/lang/String" := E38_3.keep Kq41
  have A41_4 : Ia Z h41 b32_x2 .byte (f4_u4 (p4 &&& (3 : Int32))) (f4_u5 (p4 &&& (3 : Int32)) (f0_u8 p1 p2 p3 p4) (f0_u9 p1 p2 p3 p4) (f0_u10 p1 p2 p3 p4)) := A38_4.keep Kq41 (ninS ne35_8 nin0)
  have F41_5 : Fld Z h41 b32_x1 "java/lang/String" "value" "[B" (.ref b32_x2) := F38_5.keep Kq41 (ninS ne35_6 nin0)
  have F41_6 : Fld Z h41 b32_x1 "java/lang/String" "coder" "B" (.int (0 : Int32)) := F38_6.keep Kq41 (ninS ne35_6 nin0)
  have CR41 : CHr Z EL0 s.vm h0 T32.vm h41 := CR38.trans (CHr.keep Kq41 (allS (Safe.exa hZ.alike R38_0 (by decide) (by decide)) all0) CR38.1)
  have SK41 := Nat.le_trans SK38 Kq41.1
  have K42 : ∀ t, Steps p.tables e below (T41.setTop (mkF m 166 #[.val (.int p1), .val (.int p2), .val (.int p3), .val (.int p4), .val (.ref b2), .val (.int ((p3 &&& (7 : Int32)) % (5 : Int32))), .val (.int (f0_u5 p3)), .val (.int (f0_u6 p3)), .val (.int (f0_u7 p3)), .val (.int (p4 &&& (3 : Int32))), .val (.int (f0_u8 p1 p2 p3 p4)), .val (.int (f0_u9 p1 p2 p3 p4)), .val (.int (f0_u10 p1 p2 p3 p4)), .val (.ref b32_x1), .val (.ref b35), .unset, .unset, .unset] [(.int (f12 (f0_u7 p3) (f0_u6 p3) (f4_u4 (p4 &&& (3 : Int32))) (f4_u5 (p4 &&& (3 : Int32)) (f0_u8 p1 p2 p3 p4) (f0_u9 p1 p2 p3 p4) (f0_u10 p1 p2 p3 p4)) (f0_u4 p1)))])) t → Steps p.tables e below (T38.setTop (mkF m 163 #[.val (.int p1), .val (.int p2), .val (.int p3), .val (.int p4), .val (.ref b2), .val (.int ((p3 &&& (7 : Int32)) % (5 : Int32))), .val (.int (f0_u5 p3)), .val (.int (f0_u6 p3)), .val (.int (f0_u7 p3)), .val (.int (p4 &&& (3 : Int32))), .val (.int (f0_u8 p1 p2 p3 p4)), .val (.int (f0_u9 p1 p2 p3 p4)), .val (.int (f0_u10 p1 p2 p3 p4)), .val (.ref b32_x1), .val (.ref b35), .unset, .unset, .unset] [(.ref b32_x1), (.ref b35)])) t := fun t k => st41.trans k
  have K43 : ∀ t, Steps p.tables e below (T41.setTop (mkF m 175 #[.val (.int p1), .val (.int p2), .val (.int p3), .val (.int p4), .val (.ref b2), .val (.int ((p3 &&& (7 : Int32)) % (5 : Int32))), .val (.int (f0_u5 p3)), .val (.int (f0_u6 p3)), .val (.int (f0_u7 p3)), .val (.int (p4 &&& (3 : Int32))), .val (.int (f0_u8 p1 p2 p3 p4)), .val (.int (f0_u9 p1 p2 p3 p4)), .val (.int (f0_u10 p1 p2 p3 p4)), .val (.ref b32_x1), .val (.ref b35), .val (.int (f0_u11 p1 p2 p3 p4)), .unset, .unset] [(.int ((f0_u7 p3) - (f0_u6 p3))), (.int (p4 &&& (3 : Int32)))])) t → Steps p.tables e below (T41.setTop (mkF m 166 #[.val (.int p1), .val (.int p2), .val (.int p3), .val (.int p4), .val (.ref b2), .val (.int ((p3 &&& (7 : Int32)) % (5 : Int32))), .val (.int (f0_u5 p3)), .val (.int (f0_u6 p3)), .val (.int (f0_u7 p3)), .val (.int (p4 &&& (3 : Int32))), .val (.int (f0_u8 p1 p2 p3 p4)), .val (.int (f0_u9 p1 p2 p3 p4)), .val (.int (f0_u10 p1 p2 p3 p4)), .val (.ref b32_x1), .val (.ref b35), .unset, .unset, .unset] [(.int (f12 (f0_u7 p3) (f0_u6 p3) (f4_u4 (p4 &&& (3 : Int32))) (f4_u5 (p4 &&& (3 : Int32)) (f0_u8 p1 p2 p3 p4) (f0_u9 p1 p2 p3 p4) (f0_u10 p1 p2 p3 p4)) (f0_u4 p1)))])) t := by
    intro t k
    refine XS.istore X41.here hx rfl (Jvm.hb hby at_166) rfl (l' := #[.val (.int p1), .val (.int p2), .val (.int p3), .val (.int p4), .val (.ref b2), .val (.int ((p3 &&& (7 : Int32)) % (5 : Int32))), .val (.int (f0_u5 p3)), .val (.int (f0_u6 p3)), .val (.int (f0_u7 p3)), .val (.int (p4 &&& (3 : Int32))), .val (.int (f0_u8 p1 p2 p3 p4)), .val (.int (f0_u9 p1 p2 p3 p4)), .val (.int (f0_u10 p1 p2 p3 p4)), .val (.ref b32_x1), .val (.ref b35), .val (.int (f0_u11 p1 p2 p3 p4)), .unset, .unset]) rfl ?_
    show Steps p.tables e below (T41.setTop (mkF m 168 #[.val (.int p1), .val (.int p2), .val (.int p3), .val (.int p4), .val (.ref b2), .val (.int ((p3 &&& (7 : Int32)) % (5 : Int32))), .val (.int (f0_u5 p3)), .val (.int (f0_u6 p3)), .val (.int (f0_u7 p3)), .val (.int (p4 &&& (3 : Int32))), .val (.int (f0_u8 p1 p2 p3 p4)), .val (.int (f0_u9 p1 p2 p3 p4)), .val (.int (f0_u10 p1 p2 p3 p4)), .val (.ref b32_x1), .val (.ref b35), .val (.int (f0_u11 p1 p2 p3 p4)), .unset, .unset] [])) t
    refine XS.iload X41.here hx rfl (Jvm.hb hby at_168) rfl ?_
    show Steps p.tables e below (T41.setTop (mkF m 170 #[.val (.int p1), .val (.int p2), .val (.int p3), .val (.int p4), .val (.ref b2), .val (.int ((p3 &&& (7 : Int32)) % (5 : Int32))), .val (.int (f0_u5 p3)), .val (.int (f0_u6 p3)), .val (.int (f0_u7 p3)), .val (.int (p4 &&& (3 : Int32))), .val (.int (f0_u8 p1 p2 p3 p4)), .val (.int (f0_u9 p1 p2 p3 p4)), .val (.int (f0_u10 p1 p2 p3 p4)), .val (.ref b32_x1), .val (.ref b35), .val (.int (f0_u11 p1 p2 p3 p4)), .unset, .unset] [(.int (p4 &&& (3 : Int32)))])) t
    refine XS.iload X41.here hx rfl (Jvm.hb hby at_170) rfl ?_
    show Steps p.tables e below (T41.setTop (mkF m 172 #[.val (.int p1), .val (.int p2), .val (.int p3), .val (.int p4), .val (.ref b2), .val (.int ((p3 &&& (7 : Int32)) % (5 : Int32))), .val (.int (f0_u5 p3)), .val (.int (f0_u6 p3)), .val (.int (f0_u7 p3)), .val (.int (p4 &&& (3 : Int32))), .val (.int (f0_u8 p1 p2 p3 p4)), .val (.int (f0_u9 p1 p2 p3 p4)), .val (.int (f0_u10 p1 p2 p3 p4)), .val (.ref b32_x1), .val (.ref b35), .val (.int (f0_u11 p1 p2 p3 p4)), .unset, .unset] [(.int (f0_u7 p3)), (.int (p4 &&& (3 : Int32)))])) t
    refine XS.iload X41.here hx rfl (Jvm.hb hby at_172) rfl ?_
    show Steps p.tables e below (T41.setTop (mkF m 174 #[.val (.int p1), .val (.int p2), .val (.int p3), .val (.int p4), .val (.ref b2), .val (.int ((p3 &&& (7 : Int32)) % (5 : Int32))), .val (.int (f0_u5 p3)), .val (.int (f0_u6 p3)), .val (.int (f0_u7 p3)), .val (.int (p4 &&& (3 : Int32))), .val (.int (f0_u8 p1 p2 p3 p4)), .val (.int (f0_u9 p1 p2 p3 p4)), .val (.int (f0_u10 p1 p2 p3 p4)), .val (.ref b32_x1), .val (.ref b35), .val (.int (f0_u11 p1 p2 p3 p4)), .unset, .unset] [(.int (f0_u6 p3)), (.int (f0_u7 p3)), (.int (p4 &&& (3 : Int32)))])) t
    refine XS.isub X41.here hx rfl (Jvm.hb hby at_174) rfl ?_
    show Steps p.tables e below (T41.setTop (mkF m 175 #[.val (.int p1), .val (.int p2), .val (.int p3), .val (.int p4), .val (.ref b2), .val (.int ((p3 &&& (7 : Int32)) % (5 : Int32))), .val (.int (f0_u5 p3)), .val (.int (f0_u6 p3)), .val (.int (f0_u7 p3)), .val (.int (p4 &&& (3 : Int32))), .val (.int (f0_u8 p1 p2 p3 p4)), .val (.int (f0_u9 p1 p2 p3 p4)), .val (.int (f0_u10 p1 p2 p3 p4)), .val (.ref b32_x1), .val (.ref b35), .val (.int (f0_u11 p1 p2 p3 p4)), .unset, .unset] [(.int ((f0_u7 p3) - (f0_u6 p3))), (.int (p4 &&& (3 : Int32)))])) t
    exact k
  have K44 : ∀ t, Steps p.tables e below (T41.setTop (mkF m 235 #[.val (.int p1), .val (.int p2), .val (.int p3), .val (.int p4), .val (.ref b2), .val (.int ((p3 &&& (7 : Int32)) % (5 : Int32))), .val (.int (f0_u5 p3)), .val (.int (f0_u6 p3)), .val (.int (f0_u7 p3)), .val (.int (p4 &&& (3 : Int32))), .val (.int (f0_u8 p1 p2 p3 p4)), .val (.int (f0_u9 p1 p2 p3 p4)), .val (.int (f0_u10 p1 p2 p3 p4)), .val (.ref b32_x1), .val (.ref b35), .val (.int (f0_u11 p1 p2 p3 p4)), .unset, .unset] [(.int (f0_u12 p1 p2 p3 p4))])) t → Steps p.tables e below (T41.setTop (mkF m 175 #[.val (.int p1), .val (.int p2), .val (.int p3), .val (.int p4), .val (.ref b2), .val (.int ((p3 &&& (7 : Int32)) % (5 : Int32))), .val (.int (f0_u5 p3)), .val (.int (f0_u6 p3)), .val (.int (f0_u7 p3)), .val (.int (p4 &&& (3 : Int32))), .val (.int (f0_u8 p1 p2 p3 p4)), .val (.int (f0_u9 p1 p2 p3 p4)), .val (.int (f0_u10 p1 p2 p3 p4)), .val (.ref b32_x1), .val (.ref b35), .val (.int (f0_u11 p1 p2 p3 p4)), .unset, .unset] [(.int ((f0_u7 p3) - (f0_u6 p3))), (.int (p4 &&& (3 : Int32)))])) t := by
    intro t k
    by_cases hc44 : ((f0_u7 p3) - (f0_u6 p3)) < (p4 &&& (3 : Int32))
    · have K45 : ∀ t, Steps p.tables e below (T41.setTop (mkF m 234 #[.val (.int p1), .val (.int p2), .val (.int p3), .val (.int p4), .val (.ref b2), .val (.int ((p3 &&& (7 : Int32)) % (5 : Int32))), .val (.int (f0_u5 p3)), .val (.int (f0_u6 p3)), .val (.int (f0_u7 p3)), .val (.int (p4 &&& (3 : Int32))), .val (.int (f0_u8 p1 p2 p3 p4)), .val (.int (f0_u9 p1 p2 p3 p4)), .val (.int (f0_u10 p1 p2 p3 p4)), .val (.ref b32_x1), .val (.ref b35), .val (.int (f0_u11 p1 p2 p3 p4)), .unset, .unset] [])) t → Steps p.tables e below (T41.setTop (mkF m 175 #[.val (.int p1), .val (.int p2), .val (.int p3), .val (.int p4), .val (.ref b2), .val (.int ((p3 &&& (7 : Int32)) % (5 : Int32))), .val (.int (f0_u5 p3)), .val (.int (f0_u6 p3)), .val (.int (f0_u7 p3)), .val (.int (p4 &&& (3 : Int32))), .val (.int (f0_u8 p1 p2 p3 p4)), .val (.int (f0_u9 p1 p2 p3 p4)), .val (.int (f0_u10 p1 p2 p3 p4)), .val (.ref b32_x1), .val (.ref b35), .val (.int (f0_u11 p1 p2 p3 p4)), .unset, .unset] [(.int ((f0_u7 p3) - (f0_u6 p3))), (.int (p4 &&& (3 : Int32)))])) t := by
        intro t k
        refine XS.icmpYes X41.here hx rfl (pc0 := 175) (pc' := 234) rfl (Jvm.hb hby at_175) rfl (tlt hc44).2.2.1 (by decide) (by decide) ?_
        exact k
      have K46 : ∀ t, Steps p.tables e below (T41.setTop (mkF m 235 #[.val (.int p1), .val (.int p2), .val (.int p3), .val (.int p4), .val (.ref b2), .val (.int ((p3 &&& (7 : Int32)) % (5 : Int32))), .val (.int (f0_u5 p3)), .val (.int (f0_u6 p3)), .val (.int (f0_u7 p3)), .val (.int (p4 &&& (3 : Int32))), .val (.int (f0_u8 p1 p2 p3 p4)), .val (.int (f0_u9 p1 p2 p3 p4)), .val (.int (f0_u10 p1 p2 p3 p4)), .val (.ref b32_x1), .val (.ref b35), .val (.int (f0_u11 p1 p2 p3 p4)), .unset, .unset] [(.int (0 : Int32))])) t → Steps p.tables e below (T41.setTop (mkF m 234 #[.val (.int p1), .val (.int p2), .val (.int p3), .val (.int p4), .val (.ref b2), .val (.int ((p3 &&& (7 : Int32)) % (5 : Int32))), .val (.int (f0_u5 p3)), .val (.int (f0_u6 p3)), .val (.int (f0_u7 p3)), .val (.int (p4 &&& (3 : Int32))), .val (.int (f0_u8 p1 p2 p3 p4)), .val (.int (f0_u9 p1 p2 p3 p4)), .val (.int (f0_u10 p1 p2 p3 p4)), .val (.ref b32_x1), .val (.ref b35), .val (.int (f0_u11 p1 p2 p3 p4)), .unset, .unset] [])) t := by
        intro t k
        refine XS.iconst X41.here hx rfl (Jvm.hb hby at_234) ?_
        show Steps p.tables e below (T41.setTop (mkF m 235 #[.val (.int p1), .val (.int p2), .val (.int p3), .val (.int p4), .val (.ref b2), .val (.int ((p3 &&& (7 : Int32)) % (5 : Int32))), .val (.int (f0_u5 p3)), .val (.int (f0_u6 p3)), .val (.int (f0_u7 p3)), .val (.int (p4 &&& (3 : Int32))), .val (.int (f0_u8 p1 p2 p3 p4)), .val (.int (f0_u9 p1 p2 p3 p4)), .val (.int (f0_u10 p1 p2 p3 p4)), .val (.ref b32_x1), .val (.ref b35), .val (.int (f0_u11 p1 p2 p3 p4)), .unset, .unset] [(.int (0 : Int32))])) t
        exact k
      rw [show (f0_u12 p1 p2 p3 p4) = (0 : Int32) from if_pos hc44] at k
      exact K45 _ (K46 _ (k))
    · have K47 : ∀ t, Steps p.tables e below (T41.setTop (mkF m 178 #[.val (.int p1), .val (.int p2), .val (.int p3), .val (.int p4), .val (.ref b2), .val (.int ((p3 &&& (7 : Int32)) % (5 : Int32))), .val (.int (f0_u5 p3)), .val (.int (f0_u6 p3)), .val (.int (f0_u7 p3)), .val (.int (p4 &&& (3 : Int32))), .val (.int (f0_u8 p1 p2 p3 p4)), .val (.int (f0_u9 p1 p2 p3 p4)), .val (.int (f0_u10 p1 p2 p3 p4)), .val (.ref b32_x1), .val (.ref b35), .val (.int (f0_u11 p1 p2 p3 p4)), .unset, .unset] [])) t → Steps p.tables e below (T41.setTop (mkF m 175 #[.val (.int p1), .val (.int p2), .val (.int p3), .val (.int p4), .val (.ref b2), .val (.int ((p3 &&& (7 : Int32)) % (5 : Int32))), .val (.int (f0_u5 p3)), .val (.int (f0_u6 p3)), .val (.int (f0_u7 p3)), .val (.int (p4 &&& (3 : Int32))), .val (.int (f0_u8 p1 p2 p3 p4)), .val (.int (f0_u9 p1 p2 p3 p4)), .val (.int (f0_u10 p1 p2 p3 p4)), .val (.ref b32_x1), .val (.ref b35), .val (.int (f0_u11 p1 p2 p3 p4)), .unset, .unset] [(.int ((f0_u7 p3) - (f0_u6 p3))), (.int (p4 &&& (3 : Int32)))])) t := by
        intro t k
        refine XS.icmpNo X41.here hx rfl (Jvm.hb hby at_175) rfl (flt hc44).2.2.1 ?_
        exact k
      have K48 : ∀ t, Steps p.tables e below (T41.setTop (mkF m 181 #[.val (.int p1), .val (.int p2), .val (.int p3), .val (.int p4), .val (.ref b2), .val (.int ((p3 &&& (7 : Int32)) % (5 : Int32))), .val (.int (f0_u5 p3)), .val (.int (f0_u6 p3)), .val (.int (f0_u7 p3)), .val (.int (p4 &&& (3 : Int32))), .val (.int (f0_u8 p1 p2 p3 p4)), .val (.int (f0_u9 p1 p2 p3 p4)), .val (.int (f0_u10 p1 p2 p3 p4)), .val (.ref b32_x1), .val (.ref b35), .val (.int (f0_u11 p1 p2 p3 p4)), .unset, .unset] [(.int (1 : Int32)), (.int (p4 &&& (3 : Int32)))])) t → Steps p.tables e below (T41.setTop (mkF m 178 #[.val (.int p1), .val (.int p2), .val (.int p3), .val (.int p4), .val (.ref b2), .val (.int ((p3 &&& (7 : Int32)) % (5 : Int32))), .val (.int (f0_u5 p3)), .val (.int (f0_u6 p3)), .val (.int (f0_u7 p3)), .val (.int (p4 &&& (3 : Int32))), .val (.int (f0_u8 p1 p2 p3 p4)), .val (.int (f0_u9 p1 p2 p3 p4)), .val (.int (f0_u10 p1 p2 p3 p4)), .val (.ref b32_x1), .val (.ref b35), .val (.int (f0_u11 p1 p2 p3 p4)), .unset, .unset] [])) t := by
        intro t k
        refine XS.iload X41.here hx rfl (Jvm.hb hby at_178) rfl ?_
        show Steps p.tables e below (T41.setTop (mkF m 180 #[.val (.int p1), .val (.int p2), .val (.int p3), .val (.int p4), .val (.ref b2), .val (.int ((p3 &&& (7 : Int32)) % (5 : Int32))), .val (.int (f0_u5 p3)), .val (.int (f0_u6 p3)), .val (.int (f0_u7 p3)), .val (.int (p4 &&& (3 : Int32))), .val (.int (f0_u8 p1 p2 p3 p4)), .val (.int (f0_u9 p1 p2 p3 p4)), .val (.int (f0_u10 p1 p2 p3 p4)), .val (.ref b32_x1), .val (.ref b35), .val (.int (f0_u11 p1 p2 p3 p4)), .unset, .unset] [(.int (p4 &&& (3 : Int32)))])) t
        refine XS.iconst X41.here hx rfl (Jvm.hb hby at_180) ?_
        show Steps p.tables e below (T41.setTop (mkF m 181 #[.val (.int p1), .val (.int p2), .val (.int p3), .val (.int p4), .val (.ref b2), .val (.int ((p3 &&& (7 : Int32)) % (5 : Int32))), .val (.int (f0_u5 p3)), .val (.int (f0_u6 p3)), .val (.int (f0_u7 p3)), .val (.int (p4 &&& (3 : Int32))), .val (.int (f0_u8 p1 p2 p3 p4)), .val (.int (f0_u9 p1 p2 p3 p4)), .val (.int (f0_u10 p1 p2 p3 p4)), .val (.ref b32_x1), .val (.ref b35), .val (.int (f0_u11 p1 p2 p3 p4)), .unset, .unset] [(.int (1 : Int32)), (.int (p4 &&& (3 : Int32)))])) t
        exact k
      by_cases hc49 : (p4 &&& (3 : Int32)) < (1 : Int32)
      · have K50 : ∀ t, Steps p.tables e below (T41.setTop (mkF m 194 #[.val (.int p1), .val (.int p2), .val (.int p3), .val (.int p4), .val (.ref b2), .val (.int ((p3 &&& (7 : Int32)) % (5 : Int32))), .val (.int (f0_u5 p3)), .val (.int (f0_u6 p3)), .val (.int (f0_u7 p3)), .val (.int (p4 &&& (3 : Int32))), .val (.int (f0_u8 p1 p2 p3 p4)), .val (.int (f0_u9 p1 p2 p3 p4)), .val (.int (f0_u10 p1 p2 p3 p4)), .val (.ref b32_x1), .val (.ref b35), .val (.int (f0_u11 p1 p2 p3 p4)), .unset, .unset] [])) t → Steps p.tables e below (T41.setTop (mkF m 181 #[.val (.int p1), .val (.int p2), .val (.int p3), .val (.int p4), .val (.ref b2), .val (.int ((p3 &&& (7 : Int32)) % (5 : Int32))), .val (.int (f0_u5 p3)), .val (.int (f0_u6 p3)), .val (.int (f0_u7 p3)), .val (.int (p4 &&& (3 : Int32))), .val (.int (f0_u8 p1 p2 p3 p4)), .val (.int (f0_u9 p1 p2 p3 p4)), .val (.int (f0_u10 p1 p2 p3 p4)), .val (.ref b32_x1), .val (.ref b35), .val (.int (f0_u11 p1 p2 p3 p4)), .unset, .unset] [(.int (1 : Int32)), (.int (p4 &&& (3 : Int32)))])) t := by
          intro t k
          refine XS.icmpYes X41.here hx rfl (pc0 := 181) (pc' := 194) rfl (Jvm.hb hby at_181) rfl (tlt hc49).1 (by decide) (by decide) ?_
          exact k
        have K51 : ∀ t, Steps p.tables e below (T41.setTop (mkF m 197 #[.val (.int p1), .val (.int p2), .val (.int p3), .val (.int p4), .val (.ref b2), .val (.int ((p3 &&& (7 : Int32)) % (5 : Int32))), .val (.int (f0_u5 p3)), .val (.int (f0_u6 p3)), .val (.int (f0_u7 p3)), .val (.int (p4 &&& (3 : Int32))), .val (.int (f0_u8 p1 p2 p3 p4)), .val (.int (f0_u9 p1 p2 p3 p4)), .val (.int (f0_u10 p1 p2 p3 p4)), .val (.ref b32_x1), .val (.ref b35), .val (.int (f0_u11 p1 p2 p3 p4)), .unset, .unset] [(.int (2 : Int32)), (.int (p4 &&& (3 : Int32)))])) t → Steps p.tables e below (T41.setTop (mkF m 194 #[.val (.int p1), .val (.int p2), .val (.int p3), .val (.int p4), .val (.ref b2), .val (.int ((p3 &&& (7 : Int32)) % (5 : Int32))), .val (.int (f0_u5 p3)), .val (.int (f0_u6 p3)), .val (.int (f0_u7 p3)), .val (.int (p4 &&& (3 : Int32))), .val (.int (f0_u8 p1 p2 p3 p4)), .val (.int (f0_u9 p1 p2 p3 p4)), .val (.int (f0_u10 p1 p2 p3 p4)), .val (.ref b32_x1), .val (.ref b35), .val (.int (f0_u11 p1 p2 p3 p4)), .unset, .unset] [])) t := by
          intro t k
          refine XS.iload X41.here hx rfl (Jvm.hb hby at_194) rfl ?_
          show Steps p.tables e below (T41.setTop (mkF m 196 #[.val (.int p1), .val (.int p2), .val (.int p3), .val (.int p4), .val (.ref b2), .val (.int ((p3 &&& (7 : Int32)) % (5 : Int32))), .val (.int (f0_u5 p3)), .val (.int (f0_u6 p3)), .val (.int (f0_u7 p3)), .val (.int (p4 &&& (3 : Int32))), .val (.int (f0_u8 p1 p2 p3 p4)), .val (.int (f0_u9 p1 p2 p3 p4)), .val (.int (f0_u10 p1 p2 p3 p4)), .val (.ref b32_x1), .val (.ref b35), .val (.int (f0_u11 p1 p2 p3 p4)), .unset, .unset] [(.int (p4 &&& (3 : Int32)))])) t
          refine XS.iconst X41.here hx rfl (Jvm.hb hby at_196) ?_
          show Steps p.tables e below (T41.setTop (mkF m 197 #[.val (.int p1), .val (.int p2), .val (.int p3), .val (.int p4), .val (.ref b2), .val (.int ((p3 &&& (7 : Int32)) % (5 : Int32))), .val (.int (f0_u5 p3)), .val (.int (f0_u6 p3)), .val (.int (f0_u7 p3)), .val (.int (p4 &&& (3 : Int32))), .val (.int (f0_u8 p1 p2 p3 p4)), .val (.int (f0_u9 p1 p2 p3 p4)), .val (.int (f0_u10 p1 p2 p3 p4)), .val (.ref b32_x1), .val (.ref b35), .val (.int (f0_u11 p1 p2 p3 p4)), .unset, .unset] [(.int (2 : Int32)), (.int (p4 &&& (3 : Int32)))])) t
          exact k
        by_cases hc52 : (p4 &&& (3 : Int32)) < (2 : Int32)
        · have K53 : ∀ t, Steps p.tables e below (T41.setTop (mkF m 212 #[.val (.int p1), .val (.int p2), .val (.int p3), .val (.int p4), .val (.ref b2), .val (.int ((p3 &&& (7 : Int32)) % (5 : Int32))), .val (.int (f0_u5 p3)), .val (.int (f0_u6 p3)), .val (.int (f0_u7 p3)), .val (.int (p4 &&& (3 : Int32))), .val (.int (f0_u8 p1 p2 p3 p4)), .val (.int (f0_u9 p1 p2 p3 p4)), .val (.int (f0_u10 p1 p2 p3 p4)), .val (.ref b32_x1), .val (.ref b35), .val (.int (f0_u11 p1 p2 p3 p4)), .unset, .unset] [])) t → Steps p.tables e below (T41.setTop (mkF m 197 #[.val (.int p1), .val (.int p2), .val (.int p3), .val (.int p4), .val (.ref b2), .val (.int ((p3 &&& (7 : Int32)) % (5 : Int32))), .val (.int (f0_u5 p3)), .val (.int (f0_u6 p3)), .val (.int (f0_u7 p3)), .val (.int (p4 &&& (3 : Int32))), .val (.int (f0_u8 p1 p2 p3 p4)), .val (.int (f0_u9 p1 p2 p3 p4)), .val (.int (f0_u10 p1 p2 p3 p4)), .val (.ref b32_x1), .val (.ref b35), .val (.int (f0_u11 p1 p2 p3 p4)), .unset, .unset] [(.int (2 : Int32)), (.int (p4 &&& (3 : Int32)))])) t := by
            intro t k
            refine XS.icmpYes X41.here hx rfl (pc0 := 197) (pc' := 212) rfl (Jvm.hb hby at_197) rfl (tlt hc52).1 (by decide) (by decide) ?_
            exact k
          have K54 : ∀ t, Steps p.tables e below (T41.setTop (mkF m 215 #[.val (.int p1), .val (.int p2), .val (.int p3), .val (.int p4), .val (.ref b2), .val (.int ((p3 &&& (7 : Int32)) % (5 : Int32))), .val (.int (f0_u5 p3)), .val (.int (f0_u6 p3)), .val (.int (f0_u7 p3)), .val (.int (p4 &&& (3 : Int32))), .val (.int (f0_u8 p1 p2 p3 p4)), .val (.int (f0_u9 p1 p2 p3 p4)), .val (.int (f0_u10 p1 p2 p3 p4)), .val (.ref b32_x1), .val (.ref b35), .val (.int (f0_u11 p1 p2 p3 p4)), .unset, .unset] [(.int (3 : Int32)), (.int (p4 &&& (3 : Int32)))])) t → Steps p.tables e below (T41.setTop (mkF m 212 #[.val (.int p1), .val (.int p2), .val (.int p3), .val (.int p4), .val (.ref b2), .val (.int ((p3 &&& (7 : Int32)) % (5 : Int32))), .val (.int (f0_u5 p3)), .val (.int (f0_u6 p3)), .val (.int (f0_u7 p3)), .val (.int (p4 &&& (3 : Int32))), .val (.int (f0_u8 p1 p2 p3 p4)), .val (.int (f0_u9 p1 p2 p3 p4)), .val (.int (f0_u10 p1 p2 p3 p4)), .val (.ref b32_x1), .val (.ref b35), .val (.int (f0_u11 p1 p2 p3 p4)), .unset, .unset] [])) t := by
            intro t k
            refine XS.iload X41.here hx rfl (Jvm.hb hby at_212) rfl ?_
            show Steps p.tables e below (T41.setTop (mkF m 214 #[.val (.int p1), .val (.int p2), .val (.int p3), .val (.int p4), .val (.ref b2), .val (.int ((p3 &&& (7 : Int32)) % (5 : Int32))), .val (.int (f0_u5 p3)), .val (.int (f0_u6 p3)), .val (.int (f0_u7 p3)), .val (.int (p4 &&& (3 : Int32))), .val (.int (f0_u8 p1 p2 p3 p4)), .val (.int (f0_u9 p1 p2 p3 p4)), .val (.int (f0_u10 p1 p2 p3 p4)), .val (.ref b32_x1), .val (.ref b35), .val (.int (f0_u11 p1 p2 p3 p4)), .unset, .unset] [(.int (p4 &&& (3 : Int32)))])) t
            refine XS.iconst X41.here hx rfl (Jvm.hb hby at_214) ?_
            show Steps p.tables e below (T41.setTop (mkF m 215 #[.val (.int p1), .val (.int p2), .val (.int p3), .val (.int p4), .val (.ref b2), .val (.int ((p3 &&& (7 : Int32)) % (5 : Int32))), .val (.int (f0_u5 p3)), .val (.int (f0_u6 p3)), .val (.int (f0_u7 p3)), .val (.int (p4 &&& (3 : Int32))), .val (.int (f0_u8 p1 p2 p3 p4)), .val (.int (f0_u9 p1 p2 p3 p4)), .val (.int (f0_u10 p1 p2 p3 p4)), .val (.ref b32_x1), .val (.ref b35), .val (.int (f0_u11 p1 p2 p3 p4)), .unset, .unset] [(.int (3 : Int32)), (.int (p4 &&& (3 : Int32)))])) t
            exact k
          by_cases hc55 : (p4 &&& (3 : Int32)) < (3 : Int32)
          · have K56 : ∀ t, Steps p.tables e below (T41.setTop (mkF m 230 #[.val (.int p1), .val (.int p2), .val (.int p3), .val (.int p4), .val (.ref b2), .val (.int ((p3 &&& (7 : Int32)) % (5 : Int32))), .val (.int (f0_u5 p3)), .val (.int (f0_u6 p3)), .val (.int (f0_u7 p3)), .val (.int (p4 &&& (3 : Int32))), .val (.int (f0_u8 p1 p2 p3 p4)), .val (.int (f0_u9 p1 p2 p3 p4)), .val (.int (f0_u10 p1 p2 p3 p4)), .val (.ref b32_x1), .val (.ref b35), .val (.int (f0_u11 p1 p2 p3 p4)), .unset, .unset] [])) t → Steps p.tables e below (T41.setTop (mkF m 215 #[.val (.int p1), .val (.int p2), .val (.int p3), .val (.int p4), .val (.ref b2), .val (.int ((p3 &&& (7 : Int32)) % (5 : Int32))), .val (.int (f0_u5 p3)), .val (.int (f0_u6 p3)), .val (.int (f0_u7 p3)), .val (.int (p4 &&& (3 : Int32))), .val (.int (f0_u8 p1 p2 p3 p4)), .val (.int (f0_u9 p1 p2 p3 p4)), .val (.int (f0_u10 p1 p2 p3 p4)), .val (.ref b32_x1), .val (.ref b35), .val (.int (f0_u11 p1 p2 p3 p4)), .unset, .unset] [(.int (3 : Int32)), (.int (p4 &&& (3 : Int32)))])) t := by
              intro t k
              refine XS.icmpYes X41.here hx rfl (pc0 := 215) (pc' := 230) rfl (Jvm.hb hby at_215) rfl (tlt hc55).1 (by decide) (by decide) ?_
              exact k
            have K57 : ∀ t, Steps p.tables e below (T41.setTop (mkF m 235 #[.val (.int p1), .val (.int p2), .val (.int p3), .val (.int p4), .val (.ref b2), .val (.int ((p3 &&& (7 : Int32)) % (5 : Int32))), .val (.int (f0_u5 p3)), .val (.int (f0_u6 p3)), .val (.int (f0_u7 p3)), .val (.int (p4 &&& (3 : Int32))), .val (.int (f0_u8 p1 p2 p3 p4)), .val (.int (f0_u9 p1 p2 p3 p4)), .val (.int (f0_u10 p1 p2 p3 p4)), .val (.ref b32_x1), .val (.ref b35), .val (.int (f0_u11 p1 p2 p3 p4)), .unset, .unset] [(.int (1 : Int32))])) t → Steps p.tables e below (T41.setTop (mkF m 230 #[.val (.int p1), .val (.int p2), .val (.int p3), .val (.int p4), .val (.ref b2), .val (.int ((p3 &&& (7 : Int32)) % (5 : Int32))), .val (.int (f0_u5 p3)), .val (.int (f0_u6 p3)), .val (.int (f0_u7 p3)), .val (.int (p4 &&& (3 : Int32))), .val (.int (f0_u8 p1 p2 p3 p4)), .val (.int (f0_u9 p1 p2 p3 p4)), .val (.int (f0_u10 p1 p2 p3 p4)), .val (.ref b32_x1), .val (.ref b35), .val (.int (f0_u11 p1 p2 p3 p4)), .unset, .unset] [])) t := by
              intro t k
              refine XS.iconst X41.here hx rfl (Jvm.hb hby at_230) ?_
              show Steps p.tables e below (T41.setTop (mkF m 231 #[.val (.int p1), .val (.int p2), .val (.int p3), .val (.int p4), .val (.ref b2), .val (.int ((p3 &&& (7 : Int32)) % (5 : Int32))), .val (.int (f0_u5 p3)), .val (.int (f0_u6 p3)), .val (.int (f0_u7 p3)), .val (.int (p4 &&& (3 : Int32))), .val (.int (f0_u8 p1 p2 p3 p4)), .val (.int (f0_u9 p1 p2 p3 p4)), .val (.int (f0_u10 p1 p2 p3 p4)), .val (.ref b32_x1), .val (.ref b35), .val (.int (f0_u11 p1 p2 p3 p4)), .unset, .unset] [(.int (1 : Int32))])) t
              refine XS.goto X41.here hx rfl (pc0 := 231) (pc' := 235) rfl (Jvm.hb hby at_231) (by decide) (by decide) ?_
              show Steps p.tables e below (T41.setTop (mkF m 235 #[.val (.int p1), .val (.int p2), .val (.int p3), .val (.int p4), .val (.ref b2), .val (.int ((p3 &&& (7 : Int32)) % (5 : Int32))), .val (.int (f0_u5 p3)), .val (.int (f0_u6 p3)), .val (.int (f0_u7 p3)), .val (.int (p4 &&& (3 : Int32))), .val (.int (f0_u8 p1 p2 p3 p4)), .val (.int (f0_u9 p1 p2 p3 p4)), .val (.int (f0_u10 p1 p2 p3 p4)), .val (.ref b32_x1), .val (.ref b35), .val (.int (f0_u11 p1 p2 p3 p4)), .unset, .unset] [(.int (1 : Int32))])) t
              exact k
            rw [show (f0_u12 p1 p2 p3 p4) = (1 : Int32) from (if_neg hc44).trans ((if_pos hc49).trans ((if_pos hc52).trans (if_pos hc55)))] at k
            exact K47 _ (K48 _ (K50 _ (K51 _ (K53 _ (K54 _ (K56 _ (K57 _ (k))))))))
          · have K58 : ∀ t, Steps p.tables e below (T41.setTop (mkF m 218 #[.val (.int p1), .val (.int p2), .val (.int p3), .val (.int p4), .val (.ref b2), .val (.int ((p3 &&& (7 : Int32)) % (5 : Int32))), .val (.int (f0_u5 p3)), .val (.int (f0_u6 p3)), .val (.int (f0_u7 p3)), .val (.int (p4 &&& (3 : Int32))), .val (.int (f0_u8 p1 p2 p3 p4)), .val (.int (f0_u9 p1 p2 p3 p4)), .val (.int (f0_u10 p1 p2 p3 p4)), .val (.ref b32_x1), .val (.ref b35), .val (.int (f0_u11 p1 p2 p3 p4)), .unset, .unset] [])) t → Steps p.tables e below (T41.setTop (mkF m 215 #[.val (.int p1), .val (.int p2), .val (.int p3), .val (.int p4), .val (.ref b2), .val (.int ((p3 &&& (7 : Int32)) % (5 : Int32))), .val (.int (f0_u5 p3)), .val (.int (f0_u6 p3)), .val (.int (f0_u7 p3)), .val (.int (p4 &&& (3 : Int32))), .val (.int (f0_u8 p1 p2 p3 p4)), .val (.int (f0_u9 p1 p2 p3 p4)), .val (.int (f0_u10 p1 p2 p3 p4)), .val (.ref b32_x1), .val (.ref b35), .val (.int (f0_u11 p1 p2 p3 p4)), .unset, .unset] [(.int (3 : Int32)), (.int (p4 &&& (3 : Int32)))])) t := by
              intro t k
              refine XS.icmpNo X41.here hx rfl (Jvm.hb hby at_215) rfl (flt hc55).1 ?_
              exact k
            have K63 : ∀ t, Steps p.tables e below (T41.setTop (mkF m 224 #[.val (.int p1), .val (.int p2), .val (.int p3), .val (.int p4), .val (.ref b2), .val (.int ((p3 &&& (7 : Int32)) % (5 : Int32))), .val (.int (f0_u5 p3)), .val (.int (f0_u6 p3)), .val (.int (f0_u7 p3)), .val (.int (p4 &&& (3 : Int32))), .val (.int (f0_u8 p1 p2 p3 p4)), .val (.int (f0_u9 p1 p2 p3 p4)), .val (.int (f0_u10 p1 p2 p3 p4)), .val (.ref b32_x1), .val (.ref b35), .val (.int (f0_u11 p1 p2 p3 p4)), .unset, .unset] [(.int ((f0_u6 p3) + (2 : Int32))), (.ref b2)])) t → Steps p.tables e below (T41.setTop (mkF m 218 #[.val (.int p1), .val (.int p2), .val (.int p3), .val (.int p4), .val (.ref b2), .val (.int ((p3 &&& (7 : Int32)) % (5 : Int32))), .val (.int (f0_u5 p3)), .val (.int (f0_u6 p3)), .val (.int (f0_u7 p3)), .val (.int (p4 &&& (3 : Int32))), .val (.int (f0_u8 p1 p2 p3 p4)), .val (.int (f0_u9 p1 p2 p3 p4)), .val (.int (f0_u10 p1 p2 p3 p4)), .val (.ref b32_x1), .val (.ref b35), .val (.int (f0_u11 p1 p2 p3 p4)), .unset, .unset] [])) t := by
              intro t k
              refine XS.aload X41.here hx rfl (Jvm.hb hby at_218) rfl rfl ?_
              show Steps p.tables e below (T41.setTop (mkF m 220 #[.val (.int p1), .val (.int p2), .val (.int p3), .val (.int p4), .val (.ref b2), .val (.int ((p3 &&& (7 : Int32)) % (5 : Int32))), .val (.int (f0_u5 p3)), .val (.int (f0_u6 p3)), .val (.int (f0_u7 p3)), .val (.int (p4 &&& (3 : Int32))), .val (.int (f0_u8 p1 p2 p3 p4)), .val (.int (f0_u9 p1 p2 p3 p4)), .val (.int (f0_u10 p1 p2 p3 p4)), .val (.ref b32_x1), .val (.ref b35), .val (.int (f0_u11 p1 p2 p3 p4)), .unset, .unset] [(.ref b2)])) t
              refine XS.iload X41.here hx rfl (Jvm.hb hby at_220) rfl ?_
              show Steps p.tables e below (T41.setTop (mkF m 222 #[.val (.int p1), .val (.int p2), .val (.int p3), .val (.int p4), .val (.ref b2), .val (.int ((p3 &&& (7 : Int32)) % (5 : Int32))), .val (.int (f0_u5 p3)), .val (.int (f0_u6 p3)), .val (.int (f0_u7 p3)), .val (.int (p4 &&& (3 : Int32))), .val (.int (f0_u8 p1 p2 p3 p4)), .val (.int (f0_u9 p1 p2 p3 p4)), .val (.int (f0_u10 p1 p2 p3 p4)), .val (.ref b32_x1), .val (.ref b35), .val (.int (f0_u11 p1 p2 p3 p4)), .unset, .unset] [(.int (f0_u6 p3)), (.ref b2)])) t
              refine XS.iconst X41.here hx rfl (Jvm.hb hby at_222) ?_
              show Steps p.tables e below (T41.setTop (mkF m 223 #[.val (.int p1), .val (.int p2), .val (.int p3), .val (.int p4), .val (.ref b2), .val (.int ((p3 &&& (7 : Int32)) % (5 : Int32))), .val (.int (f0_u5 p3)), .val (.int (f0_u6 p3)), .val (.int (f0_u7 p3)), .val (.int (p4 &&& (3 : Int32))), .val (.int (f0_u8 p1 p2 p3 p4)), .val (.int (f0_u9 p1 p2 p3 p4)), .val (.int (f0_u10 p1 p2 p3 p4)), .val (.ref b32_x1), .val (.ref b35), .val (.int (f0_u11 p1 p2 p3 p4)), .unset, .unset] [(.int (2 : Int32)), (.int (f0_u6 p3)), (.ref b2)])) t
              refine XS.iadd X41.here hx rfl (Jvm.hb hby at_223) rfl ?_
              show Steps p.tables e below (T41.setTop (mkF m 224 #[.val (.int p1), .val (.int p2), .val (.int p3), .val (.int p4), .val (.ref b2), .val (.int ((p3 &&& (7 : Int32)) % (5 : Int32))), .val (.int (f0_u5 p3)), .val (.int (f0_u6 p3)), .val (.int (f0_u7 p3)), .val (.int (p4 &&& (3 : Int32))), .val (.int (f0_u8 p1 p2 p3 p4)), .val (.int (f0_u9 p1 p2 p3 p4)), .val (.int (f0_u10 p1 p2 p3 p4)), .val (.ref b32_x1), .val (.ref b35), .val (.int (f0_u11 p1 p2 p3 p4)), .unset, .unset] [(.int ((f0_u6 p3) + (2 : Int32))), (.ref b2)])) t
              exact k
            have hin59 : ¬ ((f0_u6 p3) + (2 : Int32)) < 0 ∧ ((f0_u6 p3) + (2 : Int32)) < (4 : Int32) := by exact own_bd _ _ 2 3 (by decide) (by decide) (by assumption) (by assumption)
            obtain ⟨cl60, Aq61, hjhin59, aq62⟩ := Ia.at A41_2 hin59
            have K64 : ∀ t, Steps p.tables e below (T41.setTop (mkF m 227 #[.val (.int p1), .val (.int p2), .val (.int p3), .val (.int p4), .val (.ref b2), .val (.int ((p3 &&& (7 : Int32)) % (5 : Int32))), .val (.int (f0_u5 p3)), .val (.int (f0_u6 p3)), .val (.int (f0_u7 p3)), .val (.int (p4 &&& (3 : Int32))), .val (.int (f0_u8 p1 p2 p3 p4)), .val (.int (f0_u9 p1 p2 p3 p4)), .val (.int (f0_u10 p1 p2 p3 p4)), .val (.ref b32_x1), .val (.ref b35), .val (.int (f0_u11 p1 p2 p3 p4)), .unset, .unset] [(.int (f0_u10 p1 p2 p3 p4)), (.int ((f0_u4 p1) ((f0_u6 p3) + (2 : Int32))))])) t → Steps p.tables e below (T41.setTop (mkF m 224 #[.val (.int p1), .val (.int p2), .val (.int p3), .val (.int p4), .val (.ref b2), .val (.int ((p3 &&& (7 : Int32)) % (5 : Int32))), .val (.int (f0_u5 p3)), .val (.int (f0_u6 p3)), .val (.int (f0_u7 p3)), .val (.int (p4 &&& (3 : Int32))), .val (.int (f0_u8 p1 p2 p3 p4)), .val (.int (f0_u9 p1 p2 p3 p4)), .val (.int (f0_u10 p1 p2 p3 p4)), .val (.ref b32_x1), .val (.ref b35), .val (.int (f0_u11 p1 p2 p3 p4)), .unset, .unset] [(.int ((f0_u6 p3) + (2 : Int32))), (.ref b2)])) t := by
              intro t k
              refine X41.caload hx (j := ((f0_u6 p3) + (2 : Int32))) (v := .int ((f0_u4 p1) ((f0_u6 p3) + (2 : Int32)))) (by rw [e41]; exact Aq61.1) (State.isArrayOf_alike hZ.alike Aq61.2.1) Aq61.2.2 hjhin59 aq62 (g := (mkF m 224 #[.val (.int p1), .val (.int p2), .val (.int p3), .val (.int p4), .val (.ref b2), .val (.int ((p3 &&& (7 : Int32)) % (5 : Int32))), .val (.int (f0_u5 p3)), .val (.int (f0_u6 p3)), .val (.int (f0_u7 p3)), .val (.int (p4 &&& (3 : Int32))), .val (.int (f0_u8 p1 p2 p3 p4)), .val (.int (f0_u9 p1 p2 p3 p4)), .val (.int (f0_u10 p1 p2 p3 p4)), .val (.ref b32_x1), .val (.ref b35), .val (.int (f0_u11 p1 p2 p3 p4)), .unset, .unset] [(.int ((f0_u6 p3) + (2 : Int32))), (.ref b2)])) rfl rfl (Jvm.hb hby at_224) _ ?_
              show Steps p.tables e below (T41.setTop (mkF m 225 #[.val (.int p1), .val (.int p2), .val (.int p3), .val (.int p4), .val (.ref b2), .val (.int ((p3 &&& (7 : Int32)) % (5 : Int32))), .val (.int (f0_u5 p3)), .val (.int (f0_u6 p3)), .val (.int (f0_u7 p3)), .val (.int (p4 &&& (3 : Int32))), .val (.int (f0_u8 p1 p2 p3 p4)), .val (.int (f0_u9 p1 p2 p3 p4)), .val (.int (f0_u10 p1 p2 p3 p4)), .val (.ref b32_x1), .val (.ref b35), .val (.int (f0_u11 p1 p2 p3 p4)), .unset, .unset] [(.int ((f0_u4 p1) ((f0_u6 p3) + (2 : Int32))))])) t
              refine XS.iload X41.here hx rfl (Jvm.hb hby at_225) rfl ?_
              show Steps p.tables e below (T41.setTop (mkF m 227 #[.val (.int p1), .val (.int p2), .val (.int p3), .val (.int p4), .val (.ref b2), .val (.int ((p3 &&& (7 : Int32)) % (5 : Int32))), .val (.int (f0_u5 p3)), .val (.int (f0_u6 p3)), .val (.int (f0_u7 p3)), .val (.int (p4 &&& (3 : Int32))), .val (.int (f0_u8 p1 p2 p3 p4)), .val (.int (f0_u9 p1 p2 p3 p4)), .val (.int (f0_u10 p1 p2 p3 p4)), .val (.ref b32_x1), .val (.ref b35), .val (.int (f0_u11 p1 p2 p3 p4)), .unset, .unset] [(.int (f0_u10 p1 p2 p3 p4)), (.int ((f0_u4 p1) ((f0_u6 p3) + (2 : Int32))))])) t
              exact k
            by_cases hc65 : ((f0_u4 p1) ((f0_u6 p3) + (2 : Int32))) = (f0_u10 p1 p2 p3 p4)
            · have K66 : ∀ t, Steps p.tables e below (T41.setTop (mkF m 230 #[.val (.int p1), .val (.int p2), .val (.int p3), .val (.int p4), .val (.ref b2), .val (.int ((p3 &&& (7 : Int32)) % (5 : Int32))), .val (.int (f0_u5 p3)), .val (.int (f0_u6 p3)), .val (.int (f0_u7 p3)), .val (.int (p4 &&& (3 : Int32))), .val (.int (f0_u8 p1 p2 p3 p4)), .val (.int (f0_u9 p1 p2 p3 p4)), .val (.int (f0_u10 p1 p2 p3 p4)), .val (.ref b32_x1), .val (.ref b35), .val (.int (f0_u11 p1 p2 p3 p4)), .unset, .unset] [])) t → Steps p.tables e below (T41.setTop (mkF m 227 #[.val (.int p1), .val (.int p2), .val (.int p3), .val (.int p4), .val (.ref b2), .val (.int ((p3 &&& (7 : Int32)) % (5 : Int32))), .val (.int (f0_u5 p3)), .val (.int (f0_u6 p3)), .val (.int (f0_u7 p3)), .val (.int (p4 &&& (3 : Int32))), .val (.int (f0_u8 p1 p2 p3 p4)), .val (.int (f0_u9 p1 p2 p3 p4)), .val (.int (f0_u10 p1 p2 p3 p4)), .val (.ref b32_x1), .val (.ref b35), .val (.int (f0_u11 p1 p2 p3 p4)), .unset, .unset] [(.int (f0_u10 p1 p2 p3 p4)), (.int ((f0_u4 p1) ((f0_u6 p3) + (2 : Int32))))])) t := by
                intro t k
                refine XS.icmpNo X41.here hx rfl (Jvm.hb hby at_227) rfl (teq hc65).2 ?_
                exact k
              have K67 : ∀ t, Steps p.tables e below (T41.setTop (mkF m 235 #[.val (.int p1), .val (.int p2), .val (.int p3), .val (.int p4), .val (.ref b2), .val (.int ((p3 &&& (7 : Int32)) % (5 : Int32))), .val (.int (f0_u5 p3)), .val (.int (f0_u6 p3)), .val (.int (f0_u7 p3)), .val (.int (p4 &&& (3 : Int32))), .val (.int (f0_u8 p1 p2 p3 p4)), .val (.int (f0_u9 p1 p2 p3 p4)), .val (.int (f0_u10 p1 p2 p3 p4)), .val (.ref b32_x1), .val (.ref b35), .val (.int (f0_u11 p1 p2 p3 p4)), .unset, .unset] [(.int (1 : Int32))])) t → Steps p.tables e below (T41.setTop (mkF m 230 #[.val (.int p1), .val (.int p2), .val (.int p3), .val (.int p4), .val (.ref b2), .val (.int ((p3 &&& (7 : Int32)) % (5 : Int32))), .val (.int (f0_u5 p3)), .val (.int (f0_u6 p3)), .val (.int (f0_u7 p3)), .val (.int (p4 &&& (3 : Int32))), .val (.int (f0_u8 p1 p2 p3 p4)), .val (.int (f0_u9 p1 p2 p3 p4)), .val (.int (f0_u10 p1 p2 p3 p4)), .val (.ref b32_x1), .val (.ref b35), .val (.int (f0_u11 p1 p2 p3 p4)), .unset, .unset] [])) t := by
                intro t k
                refine XS.iconst X41.here hx rfl (Jvm.hb hby at_230) ?_
                show Steps p.tables e below (T41.setTop (mkF m 231 #[.val (.int p1), .val (.int p2), .val (.int p3), .val (.int p4), .val (.ref b2), .val (.int ((p3 &&& (7 : Int32)) % (5 : Int32))), .val (.int (f0_u5 p3)), .val (.int (f0_u6 p3)), .val (.int (f0_u7 p3)), .val (.int (p4 &&& (3 : Int32))), .val (.int (f0_u8 p1 p2 p3 p4)), .val (.int (f0_u9 p1 p2 p3 p4)), .val (.int (f0_u10 p1 p2 p3 p4)), .val (.ref b32_x1), .val (.ref b35), .val (.int (f0_u11 p1 p2 p3 p4)), .unset, .unset] [(.int (1 : Int32))])) t
                refine XS.goto X41.here hx rfl (pc0 := 231) (pc' := 235) rfl (Jvm.hb hby at_231) (by decide) (by decide) ?_
                show Steps p.tables e below (T41.setTop (mkF m 235 #[.val (.int p1), .val (.int p2), .val (.int p3), .val (.int p4), .val (.ref b2), .val (.int ((p3 &&& (7 : Int32)) % (5 : Int32))), .val (.int (f0_u5 p3)), .val (.int (f0_u6 p3)), .val (.int (f0_u7 p3)), .val (.int (p4 &&& (3 : Int32))), .val (.int (f0_u8 p1 p2 p3 p4)), .val (.int (f0_u9 p1 p2 p3 p4)), .val (.int (f0_u10 p1 p2 p3 p4)), .val (.ref b32_x1), .val (.ref b35), .val (.int (f0_u11 p1 p2 p3 p4)), .unset, .unset] [(.int (1 : Int32))])) t
                exact k
              rw [show (f0_u12 p1 p2 p3 p4) = (1 : Int32) from (if_neg hc44).trans ((if_pos hc49).trans ((if_pos hc52).trans ((if_neg hc55).trans (if_pos hc65))))] at k
              exact K47 _ (K48 _ (K50 _ (K51 _ (K53 _ (K54 _ (K58 _ (K63 _ (K64 _ (K66 _ (K67 _ (k)))))))))))
            · have K68 : ∀ t, Steps p.tables e below (T41.setTop (mkF m 234 #[.val (.int p1), .val (.int p2), .val (.int p3), .val (.int p4), .val (.ref b2), .val (.int ((p3 &&& (7 : Int32)) % (5 : Int32))), .val (.int (f0_u5 p3)), .val (.int (f0_u6 p3)), .val (.int (f0_u7 p3)), .val (.int (p4 &&& (3 : Int32))), .val (.int (f0_u8 p1 p2 p3 p4)), .val (.int (f0_u9 p1 p2 p3 p4)), .val (.int (f0_u10 p1 p2 p3 p4)), .val (.ref b32_x1), .val (.ref b35), .val (.int (f0_u11 p1 p2 p3 p4)), .unset, .unset] [])) t → Steps p.tables e below (T41.setTop (mkF m 227 #[.val (.int p1), .val (.int p2), .val (.int p3), .val (.int p4), .val (.ref b2), .val (.int ((p3 &&& (7 : Int32)) % (5 : Int32))), .val (.int (f0_u5 p3)), .val (.int (f0_u6 p3)), .val (.int (f0_u7 p3)), .val (.int (p4 &&& (3 : Int32))), .val (.int (f0_u8 p1 p2 p3 p4)), .val (.int (f0_u9 p1 p2 p3 p4)), .val (.int (f0_u10 p1 p2 p3 p4)), .val (.ref b32_x1), .val (.ref b35), .val (.int (f0_u11 p1 p2 p3 p4)), .unset, .unset] [(.int (f0_u10 p1 p2 p3 p4)), (.int ((f0_u4 p1) ((f0_u6 p3) + (2 : Int32))))])) t := by
                intro t k
                refine XS.icmpYes X41.here hx rfl (pc0 := 227) (pc' := 234) rfl (Jvm.hb hby at_227) rfl (feq hc65).2 (by decide) (by decide) ?_
                exact k
              have K69 : ∀ t, Steps p.tables e below (T41.setTop (mkF m 235 #[.val (.int p1), .val (.int p2), .val (.int p3), .val (.int p4), .val (.ref b2), .val (.int ((p3 &&& (7 : Int32)) % (5 : Int32))), .val (.int (f0_u5 p3)), .val (.int (f0_u6 p3)), .val (.int (f0_u7 p3)), .val (.int (p4 &&& (3 : Int32))), .val (.int (f0_u8 p1 p2 p3 p4)), .val (.int (f0_u9 p1 p2 p3 p4)), .val (.int (f0_u10 p1 p2 p3 p4)), .val (.ref b32_x1), .val (.ref b35), .val (.int (f0_u11 p1 p2 p3 p4)), .unset, .unset] [(.int (0 : Int32))])) t → Steps p.tables e below (T41.setTop (mkF m 234 #[.val (.int p1), .val (.int p2), .val (.int p3), .val (.int p4), .val (.ref b2), .val (.int ((p3 &&& (7 : Int32)) % (5 : Int32))), .val (.int (f0_u5 p3)), .val (.int (f0_u6 p3)), .val (.int (f0_u7 p3)), .val (.int (p4 &&& (3 : Int32))), .val (.int (f0_u8 p1 p2 p3 p4)), .val (.int (f0_u9 p1 p2 p3 p4)), .val (.int (f0_u10 p1 p2 p3 p4)), .val (.ref b32_x1), .val (.ref b35), .val (.int (f0_u11 p1 p2 p3 p4)), .unset, .unset] [])) t := by
                intro t k
                refine XS.iconst X41.here hx rfl (Jvm.hb hby at_234) ?_
                show Steps p.tables e below (T41.setTop (mkF m 235 #[.val (.int p1), .val (.int p2), .val (.int p3), .val (.int p4), .val (.ref b2), .val (.int ((p3 &&& (7 : Int32)) % (5 : Int32))), .val (.int (f0_u5 p3)), .val (.int (f0_u6 p3)), .val (.int (f0_u7 p3)), .val (.int (p4 &&& (3 : Int32))), .val (.int (f0_u8 p1 p2 p3 p4)), .val (.int (f0_u9 p1 p2 p3 p4)), .val (.int (f0_u10 p1 p2 p3 p4)), .val (.ref b32_x1), .val (.ref b35), .val (.int (f0_u11 p1 p2 p3 p4)), .unset, .unset] [(.int (0 : Int32))])) t
                exact k
              rw [show (f0_u12 p1 p2 p3 p4) = (0 : Int32) from (if_neg hc44).trans ((if_pos hc49).trans ((if_pos hc52).trans ((if_neg hc55).trans (if_neg hc65))))] at k
              exact K47 _ (K48 _ (K50 _ (K51 _ (K53 _ (K54 _ (K58 _ (K63 _ (K64 _ (K68 _ (K69 _ (k)))))))))))
        · have K70 : ∀ t, Steps p.tables e below (T41.setTop (mkF m 200 #[.val (.int p1), .val (.int p2), .val (.int p3), .val (.int p4), .val (.ref b2), .val (.int ((p3 &&& (7 : Int32)) % (5 : Int32))), .val (.int (f0_u5 p3)), .val (.int (f0_u6 p3)), .val (.int (f0_u7 p3)), .val (.int (p4 &&& (3 : Int32))), .val (.int (f0_u8 p1 p2 p3 p4)), .val (.int (f0_u9 p1 p2 p3 p4)), .val (.int (f0_u10 p1 p2 p3 p4)), .val (.ref b32_x1), .val (.ref b35), .val (.int (f0_u11 p1 p2 p3 p4)), .unset, .unset] [])) t → Steps p.tables e below (T41.setTop (mkF m 197 #[.val (.int p1), .val (.int p2), .val (.int p3), .val (.int p4), .val (.ref b2), .val (.int ((p3 &&& (7 : Int32)) % (5 : Int32))), .val (.int (f0_u5 p3)), .val (.int (f0_u6 p3)), .val (.int (f0_u7 p3)), .val (.int (p4 &&& (3 : Int32))), .val (.int (f0_u8 p1 p2 p3 p4)), .val (.int (f0_u9 p1 p2 p3 p4)), .val (.int (f0_u10 p1 p2 p3 p4)), .val (.ref b32_x1), .val (.ref b35), .val (.int (f0_u11 p1 p2 p3 p4)), .unset, .unset] [(.int (2 : Int32)), (.int (p4 &&& (3 : Int32)))])) t := by
            intro t k
            refine XS.icmpNo X41.here hx rfl (Jvm.hb hby at_197) rfl (flt hc52).1 ?_
            exact k
          have K75 : ∀ t, Steps p.tables e below (T41.setTop (mkF m 206 #[.val (.int p1), .val (.int p2), .val (.int p3), .val (.int p4), .val (.ref b2), .val (.int ((p3 &&& (7 : Int32)) % (5 : Int32))), .val (.int (f0_u5 p3)), .val (.int (f0_u6 p3)), .val (.int (f0_u7 p3)), .val (.int (p4 &&& (3 : Int32))), .val (.int (f0_u8 p1 p2 p3 p4)), .val (.int (f0_u9 p1 p2 p3 p4)), .val (.int (f0_u10 p1 p2 p3 p4)), .val (.ref b32_x1), .val (.ref b35), .val (.int (f0_u11 p1 p2 p3 p4)), .unset, .unset] [(.int ((f0_u6 p3) + (1 : Int32))), (.ref b2)])) t → Steps p.tables e below (T41.setTop (mkF m 200 #[.val (.int p1), .val (.int p2), .val (.int p3), .val (.int p4), .val (.ref b2), .val (.int ((p3 &&& (7 : Int32)) % (5 : Int32))), .val (.int (f0_u5 p3)), .val (.int (f0_u6 p3)), .val (.int (f0_u7 p3)), .val (.int (p4 &&& (3 : Int32))), .val (.int (f0_u8 p1 p2 p3 p4)), .val (.int (f0_u9 p1 p2 p3 p4)), .val (.int (f0_u10 p1 p2 p3 p4)), .val (.ref b32_x1), .val (.ref b35), .val (.int (f0_u11 p1 p2 p3 p4)), .unset, .unset] [])) t := by
            intro t k
            refine XS.aload X41.here hx rfl (Jvm.hb hby at_200) rfl rfl ?_
            show Steps p.tables e below (T41.setTop (mkF m 202 #[.val (.int p1), .val (.int p2), .val (.int p3), .val (.int p4), .val (.ref b2), .val (.int ((p3 &&& (7 : Int32)) % (5 : Int32))), .val (.int (f0_u5 p3)), .val (.int (f0_u6 p3)), .val (.int (f0_u7 p3)), .val (.int (p4 &&& (3 : Int32))), .val (.int (f0_u8 p1 p2 p3 p4)), .val (.int (f0_u9 p1 p2 p3 p4)), .val (.int (f0_u10 p1 p2 p3 p4)), .val (.ref b32_x1), .val (.ref b35), .val (.int (f0_u11 p1 p2 p3 p4)), .unset, .unset] [(.ref b2)])) t
            refine XS.iload X41.here hx rfl (Jvm.hb hby at_202) rfl ?_
            show Steps p.tables e below (T41.setTop (mkF m 204 #[.val (.int p1), .val (.int p2), .val (.int p3), .val (.int p4), .val (.ref b2), .val (.int ((p3 &&& (7 : Int32)) % (5 : Int32))), .val (.int (f0_u5 p3)), .val (.int (f0_u6 p3)), .val (.int (f0_u7 p3)), .val (.int (p4 &&& (3 : Int32))), .val (.int (f0_u8 p1 p2 p3 p4)), .val (.int (f0_u9 p1 p2 p3 p4)), .val (.int (f0_u10 p1 p2 p3 p4)), .val (.ref b32_x1), .val (.ref b35), .val (.int (f0_u11 p1 p2 p3 p4)), .unset, .unset] [(.int (f0_u6 p3)), (.ref b2)])) t
            refine XS.iconst X41.here hx rfl (Jvm.hb hby at_204) ?_
            show Steps p.tables e below (T41.setTop (mkF m 205 #[.val (.int p1), .val (.int p2), .val (.int p3), .val (.int p4), .val (.ref b2), .val (.int ((p3 &&& (7 : Int32)) % (5 : Int32))), .val (.int (f0_u5 p3)), .val (.int (f0_u6 p3)), .val (.int (f0_u7 p3)), .val (.int (p4 &&& (3 : Int32))), .val (.int (f0_u8 p1 p2 p3 p4)), .val (.int (f0_u9 p1 p2 p3 p4)), .val (.int (f0_u10 p1 p2 p3 p4)), .val (.ref b32_x1), .val (.ref b35), .val (.int (f0_u11 p1 p2 p3 p4)), .unset, .unset] [(.int (1 : Int32)), (.int (f0_u6 p3)), (.ref b2)])) t
            refine XS.iadd X41.here hx rfl (Jvm.hb hby at_205) rfl ?_
            show Steps p.tables e below (T41.setTop (mkF m 206 #[.val (.int p1), .val (.int p2), .val (.int p3), .val (.int p4), .val (.ref b2), .val (.int ((p3 &&& (7 : Int32)) % (5 : Int32))), .val (.int (f0_u5 p3)), .val (.int (f0_u6 p3)), .val (.int (f0_u7 p3)), .val (.int (p4 &&& (3 : Int32))), .val (.int (f0_u8 p1 p2 p3 p4)), .val (.int (f0_u9 p1 p2 p3 p4)), .val (.int (f0_u10 p1 p2 p3 p4)), .val (.ref b32_x1), .val (.ref b35), .val (.int (f0_u11 p1 p2 p3 p4)), .unset, .unset] [(.int ((f0_u6 p3) + (1 : Int32))), (.ref b2)])) t
            exact k
          have hin71 : ¬ ((f0_u6 p3) + (1 : Int32)) < 0 ∧ ((f0_u6 p3) + (1 : Int32)) < (4 : Int32) := by exact own_bd _ _ 1 2 (by decide) (by decide) (by assumption) (by assumption)
          obtain ⟨cl72, Aq73, hjhin71, aq74⟩ := Ia.at A41_2 hin71
          have K76 : ∀ t, Steps p.tables e below (T41.setTop (mkF m 209 #[.val (.int p1), .val (.int p2), .val (.int p3), .val (.int p4), .val (.ref b2), .val (.int ((p3 &&& (7 : Int32)) % (5 : Int32))), .val (.int (f0_u5 p3)), .val (.int (f0_u6 p3)), .val (.int (f0_u7 p3)), .val (.int (p4 &&& (3 : Int32))), .val (.int (f0_u8 p1 p2 p3 p4)), .val (.int (f0_u9 p1 p2 p3 p4)), .val (.int (f0_u10 p1 p2 p3 p4)), .val (.ref b32_x1), .val (.ref b35), .val (.int (f0_u11 p1 p2 p3 p4)), .unset, .unset] [(.int (f0_u9 p1 p2 p3 p4)), (.int ((f0_u4 p1) ((f0_u6 p3) + (1 : Int32))))])) t → Steps p.tables e below (T41.setTop (mkF m 206 #[.val (.int p1), .val (.int p2), .val (.int p3), .val (.int p4), .val (.ref b2), .val (.int ((p3 &&& (7 : Int32)) % (5 : Int32))), .val (.int (f0_u5 p3)), .val (.int (f0_u6 p3)), .val (.int (f0_u7 p3)), .val (.int (p4 &&& (3 : Int32))), .val (.int (f0_u8 p1 p2 p3 p4)), .val (.int (f0_u9 p1 p2 p3 p4)), .val (.int (f0_u10 p1 p2 p3 p4)), .val (.ref b32_x1), .val (.ref b35), .val (.int (f0_u11 p1 p2 p3 p4)), .unset, .unset] [(.int ((f0_u6 p3) + (1 : Int32))), (.ref b2)])) t := by
            intro t k
            refine X41.caload hx (j := ((f0_u6 p3) + (1 : Int32))) (v := .int ((f0_u4 p1) ((f0_u6 p3) + (1 : Int32)))) (by rw [e41]; exact Aq73.1) (State.isArrayOf_alike hZ.alike Aq73.2.1) Aq73.2.2 hjhin71 aq74 (g := (mkF m 206 #[.val (.int p1), .val (.int p2), .val (.int p3), .val (.int p4), .val (.ref b2), .val (.int ((p3 &&& (7 : Int32)) % (5 : Int32))), .val (.int (f0_u5 p3)), .val (.int (f0_u6 p3)), .val (.int (f0_u7 p3)), .val (.int (p4 &&& (3 : Int32))), .val (.int (f0_u8 p1 p2 p3 p4)), .val (.int (f0_u9 p1 p2 p3 p4)), .val (.int (f0_u10 p1 p2 p3 p4)), .val (.ref b32_x1), .val (.ref b35), .val (.int (f0_u11 p1 p2 p3 p4)), .unset, .unset] [(.int ((f0_u6 p3) + (1 : Int32))), (.ref b2)])) rfl rfl (Jvm.hb hby at_206) _ ?_
            show Steps p.tables e below (T41.setTop (mkF m 207 #[.val (.int p1), .val (.int p2), .val (.int p3), .val (.int p4), .val (.ref b2), .val (.int ((p3 &&& (7 : Int32)) % (5 : Int32))), .val (.int (f0_u5 p3)), .val (.int (f0_u6 p3)), .val (.int (f0_u7 p3)), .val (.int (p4 &&& (3 : Int32))), .val (.int (f0_u8 p1 p2 p3 p4)), .val (.int (f0_u9 p1 p2 p3 p4)), .val (.int (f0_u10 p1 p2 p3 p4)), .val (.ref b32_x1), .val (.ref b35), .val (.int (f0_u11 p1 p2 p3 p4)), .unset, .unset] [(.int ((f0_u4 p1) ((f0_u6 p3) + (1 : Int32))))])) t
            refine XS.iload X41.here hx rfl (Jvm.hb hby at_207) rfl ?_
            show Steps p.tables e below (T41.setTop (mkF m 209 #[.val (.int p1), .val (.int p2), .val (.int p3), .val (.int p4), .val (.ref b2), .val (.int ((p3 &&& (7 : Int32)) % (5 : Int32))), .val (.int (f0_u5 p3)), .val (.int (f0_u6 p3)), .val (.int (f0_u7 p3)), .val (.int (p4 &&& (3 : Int32))), .val (.int (f0_u8 p1 p2 p3 p4)), .val (.int (f0_u9 p1 p2 p3 p4)), .val (.int (f0_u10 p1 p2 p3 p4)), .val (.ref b32_x1), .val (.ref b35), .val (.int (f0_u11 p1 p2 p3 p4)), .unset, .unset] [(.int (f0_u9 p1 p2 p3 p4)), (.int ((f0_u4 p1) ((f0_u6 p3) + (1 : Int32))))])) t
            exact k
          by_cases hc77 : ((f0_u4 p1) ((f0_u6 p3) + (1 : Int32))) = (f0_u9 p1 p2 p3 p4)
          · have K78 : ∀ t, Steps p.tables e below (T41.setTop (mkF m 212 #[.val (.int p1), .val (.int p2), .val (.int p3), .val (.int p4), .val (.ref b2), .val (.int ((p3 &&& (7 : Int32)) % (5 : Int32))), .val (.int (f0_u5 p3)), .val (.int (f0_u6 p3)), .val (.int (f0_u7 p3)), .val (.int (p4 &&& (3 : Int32))), .val (.int (f0_u8 p1 p2 p3 p4)), .val (.int (f0_u9 p1 p2 p3 p4)), .val (.int (f0_u10 p1 p2 p3 p4)), .val (.ref b32_x1), .val (.ref b35), .val (.int (f0_u11 p1 p2 p3 p4)), .unset, .unset] [])) t → Steps p.tables e below (T41.setTop (mkF m 209 #[.val (.int p1), .val (.int p2), .val (.int p3), .val (.int p4), .val (.ref b2), .val (.int ((p3 &&& (7 : Int32)) % (5 : Int32))), .val (.int (f0_u5 p3)), .val (.int (f0_u6 p3)), .val (.int (f0_u7 p3)), .val (.int (p4 &&& (3 : Int32))), .val (.int (f0_u8 p1 p2 p3 p4)), .val (.int (f0_u9 p1 p2 p3 p4)), .val (.int (f0_u10 p1 p2 p3 p4)), .val (.ref b32_x1), .val (.ref b35), .val (.int (f0_u11 p1 p2 p3 p4)), .unset, .unset] [(.int (f0_u9 p1 p2 p3 p4)), (.int ((f0_u4 p1) ((f0_u6 p3) + (1 : Int32))))])) t := by
              intro t k
              refine XS.icmpNo X41.here hx rfl (Jvm.hb hby at_209) rfl (teq hc77).2 ?_
              exact k
            have K79 : ∀ t, Steps p.tables e below (T41.setTop (mkF m 215 #[.val (.int p1), .val (.int p2), .val (.int p3), .val (.int p4), .val (.ref b2), .val (.int ((p3 &&& (7 : Int32)) % (5 : Int32))), .val (.int (f0_u5 p3)), .val (.int (f0_u6 p3)), .val (.int (f0_u7 p3)), .val (.int (p4 &&& (3 : Int32))), .val (.int (f0_u8 p1 p2 p3 p4)), .val (.int (f0_u9 p1 p2 p3 p4)), .val (.int (f0_u10 p1 p2 p3 p4)), .val (.ref b32_x1), .val (.ref b35), .val (.int (f0_u11 p1 p2 p3 p4)), .unset, .unset] [(.int (3 : Int32)), (.int (p4 &&& (3 : Int32)))])) t → Steps p.tables e below (T41.setTop (mkF m 212 #[.val (.int p1), .val (.int p2), .val (.int p3), .val (.int p4), .val (.ref b2), .val (.int ((p3 &&& (7 : Int32)) % (5 : Int32))), .val (.int (f0_u5 p3)), .val (.int (f0_u6 p3)), .val (.int (f0_u7 p3)), .val (.int (p4 &&& (3 : Int32))), .val (.int (f0_u8 p1 p2 p3 p4)), .val (.int (f0_u9 p1 p2 p3 p4)), .val (.int (f0_u10 p1 p2 p3 p4)), .val (.ref b32_x1), .val (.ref b35), .val (.int (f0_u11 p1 p2 p3 p4)), .unset, .unset] [])) t := by
              intro t k
              refine XS.iload X41.here hx rfl (Jvm.hb hby at_212) rfl ?_
              show Steps p.tables e below (T41.setTop (mkF m 214 #[.val (.int p1), .val (.int p2), .val (.int p3), .val (.int p4), .val (.ref b2), .val (.int ((p3 &&& (7 : Int32)) % (5 : Int32))), .val (.int (f0_u5 p3)), .val (.int (f0_u6 p3)), .val (.int (f0_u7 p3)), .val (.int (p4 &&& (3 : Int32))), .val (.int (f0_u8 p1 p2 p3 p4)), .val (.int (f0_u9 p1 p2 p3 p4)), .val (.int (f0_u10 p1 p2 p3 p4)), .val (.ref b32_x1), .val (.ref b35), .val (.int (f0_u11 p1 p2 p3 p4)), .unset, .unset] [(.int (p4 &&& (3 : Int32)))])) t
              refine XS.iconst X41.here hx rfl (Jvm.hb hby at_214) ?_
              show Steps p.tables e below (T41.setTop (mkF m 215 #[.val (.int p1), .val (.int p2), .val (.int p3), .val (.int p4), .val (.ref b2), .val (.int ((p3 &&& (7 : Int32)) % (5 : Int32))), .val (.int (f0_u5 p3)), .val (.int (f0_u6 p3)), .val (.int (f0_u7 p3)), .val (.int (p4 &&& (3 : Int32))), .val (.int (f0_u8 p1 p2 p3 p4)), .val (.int (f0_u9 p1 p2 p3 p4)), .val (.int (f0_u10 p1 p2 p3 p4)), .val (.ref b32_x1), .val (.ref b35), .val (.int (f0_u11 p1 p2 p3 p4)), .unset, .unset] [(.int (3 : Int32)), (.int (p4 &&& (3 : Int32)))])) t
              exact k
            by_cases hc80 : (p4 &&& (3 : Int32)) < (3 : Int32)
            · have K81 : ∀ t, Steps p.tables e below (T41.setTop (mkF m 230 #[.val (.int p1), .val (.int p2), .val (.int p3), .val (.int p4), .val (.ref b2), .val (.int ((p3 &&& (7 : Int32)) % (5 : Int32))), .val (.int (f0_u5 p3)), .val (.int (f0_u6 p3)), .val (.int (f0_u7 p3)), .val (.int (p4 &&& (3 : Int32))), .val (.int (f0_u8 p1 p2 p3 p4)), .val (.int (f0_u9 p1 p2 p3 p4)), .val (.int (f0_u10 p1 p2 p3 p4)), .val (.ref b32_x1), .val (.ref b35), .val (.int (f0_u11 p1 p2 p3 p4)), .unset, .unset] [])) t → Steps p.tables e below (T41.setTop (mkF m 215 #[.val (.int p1), .val (.int p2), .val (.int p3), .val (.int p4), .val (.ref b2), .val (.int ((p3 &&& (7 : Int32)) % (5 : Int32))), .val (.int (f0_u5 p3)), .val (.int (f0_u6 p3)), .val (.int (f0_u7 p3)), .val (.int (p4 &&& (3 : Int32))), .val (.int (f0_u8 p1 p2 p3 p4)), .val (.int (f0_u9 p1 p2 p3 p4)), .val (.int (f0_u10 p1 p2 p3 p4)), .val (.ref b32_x1), .val (.ref b35), .val (.int (f0_u11 p1 p2 p3 p4)), .unset, .unset] [(.int (3 : Int32)), (.int (p4 &&& (3 : Int32)))])) t := by
                intro t k
                refine XS.icmpYes X41.here hx rfl (pc0 := 215) (pc' := 230) rfl (Jvm.hb hby at_215) rfl (tlt hc80).1 (by decide) (by decide) ?_
                exact k
              have K82 : ∀ t, Steps p.tables e below (T41.setTop (mkF m 235 #[.val (.int p1), .val (.int p2), .val (.int p3), .val (.int p4), .val (.ref b2), .val (.int ((p3 &&& (7 : Int32)) % (5 : Int32))), .val (.int (f0_u5 p3)), .val (.int (f0_u6 p3)), .val (.int (f0_u7 p3)), .val (.int (p4 &&& (3 : Int32))), .val (.int (f0_u8 p1 p2 p3 p4)), .val (.int (f0_u9 p1 p2 p3 p4)), .val (.int (f0_u10 p1 p2 p3 p4)), .val (.ref b32_x1), .val (.ref b35), .val (.int (f0_u11 p1 p2 p3 p4)), .unset, .unset] [(.int (1 : Int32))])) t → Steps p.tables e below (T41.setTop (mkF m 230 #[.val (.int p1), .val (.int p2), .val (.int p3), .val (.int p4), .val (.ref b2), .val (.int ((p3 &&& (7 : Int32)) % (5 : Int32))), .val (.int (f0_u5 p3)), .val (.int (f0_u6 p3)), .val (.int (f0_u7 p3)), .val (.int (p4 &&& (3 : Int32))), .val (.int (f0_u8 p1 p2 p3 p4)), .val (.int (f0_u9 p1 p2 p3 p4)), .val (.int (f0_u10 p1 p2 p3 p4)), .val (.ref b32_x1), .val (.ref b35), .val (.int (f0_u11 p1 p2 p3 p4)), .unset, .unset] [])) t := by
                intro t k
                refine XS.iconst X41.here hx rfl (Jvm.hb hby at_230) ?_
                show Steps p.tables e below (T41.setTop (mkF m 231 #[.val (.int p1), .val (.int p2), .val (.int p3), .val (.int p4), .val (.ref b2), .val (.int ((p3 &&& (7 : Int32)) % (5 : Int32))), .val (.int (f0_u5 p3)), .val (.int (f0_u6 p3)), .val (.int (f0_u7 p3)), .val (.int (p4 &&& (3 : Int32))), .val (.int (f0_u8 p1 p2 p3 p4)), .val (.int (f0_u9 p1 p2 p3 p4)), .val (.int (f0_u10 p1 p2 p3 p4)), .val (.ref b32_x1), .val (.ref b35), .val (.int (f0_u11 p1 p2 p3 p4)), .unset, .unset] [(.int (1 : Int32))])) t
                refine XS.goto X41.here hx rfl (pc0 := 231) (pc' := 235) rfl (Jvm.hb hby at_231) (by decide) (by decide) ?_
                show Steps p.tables e below (T41.setTop (mkF m 235 #[.val (.int p1), .val (.int p2), .val (.int p3), .val (.int p4), .val (.ref b2), .val (.int ((p3 &&& (7 : Int32)) % (5 : Int32))), .val (.int (f0_u5 p3)), .val (.int (f0_u6 p3)), .val (.int (f0_u7 p3)), .val (.int (p4 &&& (3 : Int32))), .val (.int (f0_u8 p1 p2 p3 p4)), .val (.int (f0_u9 p1 p2 p3 p4)), .val (.int (f0_u10 p1 p2 p3 p4)), .val (.ref b32_x1), .val (.ref b35), .val (.int (f0_u11 p1 p2 p3 p4)), .unset, .unset] [(.int (1 : Int32))])) t
                exact k
              rw [show (f0_u12 p1 p2 p3 p4) = (1 : Int32) from (if_neg hc44).trans ((if_pos hc49).trans ((if_neg hc52).trans ((if_pos hc77).trans (if_pos hc80))))] at k
              exact K47 _ (K48 _ (K50 _ (K51 _ (K70 _ (K75 _ (K76 _ (K78 _ (K79 _ (K81 _ (K82 _ (k)))))))))))
            · have K83 : ∀ t, Steps p.tables e below (T41.setTop (mkF m 218 #[.val (.int p1), .val (.int p2), .val (.int p3), .val (.int p4), .val (.ref b2), .val (.int ((p3 &&& (7 : Int32)) % (5 : Int32))), .val (.int (f0_u5 p3)), .val (.int (f0_u6 p3)), .val (.int (f0_u7 p3)), .val (.int (p4 &&& (3 : Int32))), .val (.int (f0_u8 p1 p2 p3 p4)), .val (.int (f0_u9 p1 p2 p3 p4)), .val (.int (f0_u10 p1 p2 p3 p4)), .val (.ref b32_x1), .val (.ref b35), .val (.int (f0_u11 p1 p2 p3 p4)), .unset, .unset] [])) t → Steps p.tables e below (T41.setTop (mkF m 215 #[.val (.int p1), .val (.int p2), .val (.int p3), .val (.int p4), .val (.ref b2), .val (.int ((p3 &&& (7 : Int32)) % (5 : Int32))), .val (.int (f0_u5 p3)), .val (.int (f0_u6 p3)), .val (.int (f0_u7 p3)), .val (.int (p4 &&& (3 : Int32))), .val (.int (f0_u8 p1 p2 p3 p4)), .val (.int (f0_u9 p1 p2 p3 p4)), .val (.int (f0_u10 p1 p2 p3 p4)), .val (.ref b32_x1), .val (.ref b35), .val (.int (f0_u11 p1 p2 p3 p4)), .unset, .unset] [(.int (3 : Int32)), (.int (p4 &&& (3 : Int32)))])) t := by
                intro t k
                refine XS.icmpNo X41.here hx rfl (Jvm.hb hby at_215) rfl (flt hc80).1 ?_
                exact k
              have K88 : ∀ t, Steps p.tables e below (T41.setTop (mkF m 224 #[.val (.int p1), .val (.int p2), .val (.int p3), .val (.int p4), .val (.ref b2), .val (.int ((p3 &&& (7 : Int32)) % (5 : Int32))), .val (.int (f0_u5 p3)), .val (.int (f0_u6 p3)), .val (.int (f0_u7 p3)), .val (.int (p4 &&& (3 : Int32))), .val (.int (f0_u8 p1 p2 p3 p4)), .val (.int (f0_u9 p1 p2 p3 p4)), .val (.int (f0_u10 p1 p2 p3 p4)), .val (.ref b32_x1), .val (.ref b35), .val (.int (f0_u11 p1 p2 p3 p4)), .unset, .unset] [(.int ((f0_u6 p3) + (2 : Int32))), (.ref b2)])) t → Steps p.tables e below (T41.setTop (mkF m 218 #[.val (.int p1), .val (.int p2), .val (.int p3), .val (.int p4), .val (.ref b2), .val (.int ((p3 &&& (7 : Int32)) % (5 : Int32))), .val (.int (f0_u5 p3)), .val (.int (f0_u6 p3)), .val (.int (f0_u7 p3)), .val (.int (p4 &&& (3 : Int32))), .val (.int (f0_u8 p1 p2 p3 p4)), .val (.int (f0_u9 p1 p2 p3 p4)), .val (.int (f0_u10 p1 p2 p3 p4)), .val (.ref b32_x1), .val (.ref b35), .val (.int (f0_u11 p1 p2 p3 p4)), .unset, .unset] [])) t := by
                intro t k
                refine XS.aload X41.here hx rfl (Jvm.hb hby at_218) rfl rfl ?_
                show Steps p.tables e below (T41.setTop (mkF m 220 #[.val (.int p1), .val (.int p2), .val (.int p3), .val (.int p4), .val (.ref b2), .val (.int ((p3 &&& (7 : Int32)) % (5 : Int32))), .val (.int (f0_u5 p3)), .val (.int (f0_u6 p3)), .val (.int (f0_u7 p3)), .val (.int (p4 &&& (3 : Int32))), .val (.int (f0_u8 p1 p2 p3 p4)), .val (.int (f0_u9 p1 p2 p3 p4)), .val (.int (f0_u10 p1 p2 p3 p4)), .val (.ref b32_x1), .val (.ref b35), .val (.int (f0_u11 p1 p2 p3 p4)), .unset, .unset] [(.ref b2)])) t
                refine XS.iload X41.here hx rfl (Jvm.hb hby at_220) rfl ?_
                show Steps p.tables e below (T41.setTop (mkF m 222 #[.val (.int p1), .val (.int p2), .val (.int p3), .val (.int p4), .val (.ref b2), .val (.int ((p3 &&& (7 : Int32)) % (5 : Int32))), .val (.int (f0_u5 p3)), .val (.int (f0_u6 p3)), .val (.int (f0_u7 p3)), .val (.int (p4 &&& (3 : Int32))), .val (.int (f0_u8 p1 p2 p3 p4)), .val (.int (f0_u9 p1 p2 p3 p4)), .val (.int (f0_u10 p1 p2 p3 p4)), .val (.ref b32_x1), .val (.ref b35), .val (.int (f0_u11 p1 p2 p3 p4)), .unset, .unset] [(.int (f0_u6 p3)), (.ref b2)])) t
                refine XS.iconst X41.here hx rfl (Jvm.hb hby at_222) ?_
                show Steps p.tables e below (T41.setTop (mkF m 223 #[.val (.int p1), .val (.int p2), .val (.int p3), .val (.int p4), .val (.ref b2), .val (.int ((p3 &&& (7 : Int32)) % (5 : Int32))), .val (.int (f0_u5 p3)), .val (.int (f0_u6 p3)), .val (.int (f0_u7 p3)), .val (.int (p4 &&& (3 : Int32))), .val (.int (f0_u8 p1 p2 p3 p4)), .val (.int (f0_u9 p1 p2 p3 p4)), .val (.int (f0_u10 p1 p2 p3 p4)), .val (.ref b32_x1), .val (.ref b35), .val (.int (f0_u11 p1 p2 p3 p4)), .unset, .unset] [(.int (2 : Int32)), (.int (f0_u6 p3)), (.ref b2)])) t
                refine XS.iadd X41.here hx rfl (Jvm.hb hby at_223) rfl ?_
                show Steps p.tables e below (T41.setTop (mkF m 224 #[.val (.int p1), .val (.int p2), .val (.int p3), .val (.int p4), .val (.ref b2), .val (.int ((p3 &&& (7 : Int32)) % (5 : Int32))), .val (.int (f0_u5 p3)), .val (.int (f0_u6 p3)), .val (.int (f0_u7 p3)), .val (.int (p4 &&& (3 : Int32))), .val (.int (f0_u8 p1 p2 p3 p4)), .val (.int (f0_u9 p1 p2 p3 p4)), .val (.int (f0_u10 p1 p2 p3 p4)), .val (.ref b32_x1), .val (.ref b35), .val (.int (f0_u11 p1 p2 p3 p4)), .unset, .unset] [(.int ((f0_u6 p3) + (2 : Int32))), (.ref b2)])) t
                exact k
              have hin84 : ¬ ((f0_u6 p3) + (2 : Int32)) < 0 ∧ ((f0_u6 p3) + (2 : Int32)) < (4 : Int32) := by exact own_bd _ _ 2 3 (by decide) (by decide) (by assumption) (by assumption)
              obtain ⟨cl85, Aq86, hjhin84, aq87⟩ := Ia.at A41_2 hin84
              have K89 : ∀ t, Steps p.tables e below (T41.setTop (mkF m 227 #[.val (.int p1), .val (.int p2), .val (.int p3), .val (.int p4), .val (.ref b2), .val (.int ((p3 &&& (7 : Int32)) % (5 : Int32))), .val (.int (f0_u5 p3)), .val (.int (f0_u6 p3)), .val (.int (f0_u7 p3)), .val (.int (p4 &&& (3 : Int32))), .val (.int (f0_u8 p1 p2 p3 p4)), .val (.int (f0_u9 p1 p2 p3 p4)), .val (.int (f0_u10 p1 p2 p3 p4)), .val (.ref b32_x1), .val (.ref b35), .val (.int (f0_u11 p1 p2 p3 p4)), .unset, .unset] [(.int (f0_u10 p1 p2 p3 p4)), (.int ((f0_u4 p1) ((f0_u6 p3) + (2 : Int32))))])) t → Steps p.tables e below (T41.setTop (mkF m 224 #[.val (.int p1), .val (.int p2), .val (.int p3), .val (.int p4), .val (.ref b2), .val (.int ((p3 &&& (7 : Int32)) % (5 : Int32))), .val (.int (f0_u5 p3)), .val (.int (f0_u6 p3)), .val (.int (f0_u7 p3)), .val (.int (p4 &&& (3 : Int32))), .val (.int (f0_u8 p1 p2 p3 p4)), .val (.int (f0_u9 p1 p2 p3 p4)), .val (.int (f0_u10 p1 p2 p3 p4)), .val (.ref b32_x1), .val (.ref b35), .val (.int (f0_u11 p1 p2 p3 p4)), .unset, .unset] [(.int ((f0_u6 p3) + (2 : Int32))), (.ref b2)])) t := by
                intro t k
                refine X41.caload hx (j := ((f0_u6 p3) + (2 : Int32))) (v := .int ((f0_u4 p1) ((f0_u6 p3) + (2 : Int32)))) (by rw [e41]; exact Aq86.1) (State.isArrayOf_alike hZ.alike Aq86.2.1) Aq86.2.2 hjhin84 aq87 (g := (mkF m 224 #[.val (.int p1), .val (.int p2), .val (.int p3), .val (.int p4), .val (.ref b2), .val (.int ((p3 &&& (7 : Int32)) % (5 : Int32))), .val (.int (f0_u5 p3)), .val (.int (f0_u6 p3)), .val (.int (f0_u7 p3)), .val (.int (p4 &&& (3 : Int32))), .val (.int (f0_u8 p1 p2 p3 p4)), .val (.int (f0_u9 p1 p2 p3 p4)), .val (.int (f0_u10 p1 p2 p3 p4)), .val (.ref b32_x1), .val (.ref b35), .val (.int (f0_u11 p1 p2 p3 p4)), .unset, .unset] [(.int ((f0_u6 p3) + (2 : Int32))), (.ref b2)])) rfl rfl (Jvm.hb hby at_224) _ ?_
                show Steps p.tables e below (T41.setTop (mkF m 225 #[.val (.int p1), .val (.int p2), .val (.int p3), .val (.int p4), .val (.ref b2), .val (.int ((p3 &&& (7 : Int32)) % (5 : Int32))), .val (.int (f0_u5 p3)), .val (.int (f0_u6 p3)), .val (.int (f0_u7 p3)), .val (.int (p4 &&& (3 : Int32))), .val (.int (f0_u8 p1 p2 p3 p4)), .val (.int (f0_u9 p1 p2 p3 p4)), .val (.int (f0_u10 p1 p2 p3 p4)), .val (.ref b32_x1), .val (.ref b35), .val (.int (f0_u11 p1 p2 p3 p4)), .unset, .unset] [(.int ((f0_u4 p1) ((f0_u6 p3) + (2 : Int32))))])) t
                refine XS.iload X41.here hx rfl (Jvm.hb hby at_225) rfl ?_
                show Steps p.tables e below (T41.setTop (mkF m 227 #[.val (.int p1), .val (.int p2), .val (.int p3), .val (.int p4), .val (.ref b2), .val (.int ((p3 &&& (7 : Int32)) % (5 : Int32))), .val (.int (f0_u5 p3)), .val (.int (f0_u6 p3)), .val (.int (f0_u7 p3)), .val (.int (p4 &&& (3 : Int32))), .val (.int (f0_u8 p1 p2 p3 p4)), .val (.int (f0_u9 p1 p2 p3 p4)), .val (.int (f0_u10 p1 p2 p3 p4)), .val (.ref b32_x1), .val (.ref b35), .val (.int (f0_u11 p1 p2 p3 p4)), .unset, .unset] [(.int (f0_u10 p1 p2 p3 p4)), (.int ((f0_u4 p1) ((f0_u6 p3) + (2 : Int32))))])) t
                exact k
              by_cases hc90 : ((f0_u4 p1) ((f0_u6 p3) + (2 : Int32))) = (f0_u10 p1 p2 p3 p4)
              · have K91 : ∀ t, Steps p.tables e below (T41.setTop (mkF m 230 #[.val (.int p1), .val (.int p2), .val (.int p3), .val (.int p4), .val (.ref b2), .val (.int ((p3 &&& (7 : Int32)) % (5 : Int32))), .val (.int (f0_u5 p3)), .val (.int (f0_u6 p3)), .val (.int (f0_u7 p3)), .val (.int (p4 &&& (3 : Int32))), .val (.int (f0_u8 p1 p2 p3 p4)), .val (.int (f0_u9 p1 p2 p3 p4)), .val (.int (f0_u10 p1 p2 p3 p4)), .val (.ref b32_x1), .val (.ref b35), .val (.int (f0_u11 p1 p2 p3 p4)), .unset, .unset] [])) t → Steps p.tables e below (T41.setTop (mkF m 227 #[.val (.int p1), .val (.int p2), .val (.int p3), .val (.int p4), .val (.ref b2), .val (.int ((p3 &&& (7 : Int32)) % (5 : Int32))), .val (.int (f0_u5 p3)), .val (.int (f0_u6 p3)), .val (.int (f0_u7 p3)), .val (.int (p4 &&& (3 : Int32))), .val (.int (f0_u8 p1 p2 p3 p4)), .val (.int (f0_u9 p1 p2 p3 p4)), .val (.int (f0_u10 p1 p2 p3 p4)), .val (.ref b32_x1), .val (.ref b35), .val (.int (f0_u11 p1 p2 p3 p4)), .unset, .unset] [(.int (f0_u10 p1 p2 p3 p4)), (.int ((f0_u4 p1) ((f0_u6 p3) + (2 : Int32))))])) t := by
                  intro t k
                  refine XS.icmpNo X41.here hx rfl (Jvm.hb hby at_227) rfl (teq hc90).2 ?_
                  exact k
                have K92 : ∀ t, Steps p.tables e below (T41.setTop (mkF m 235 #[.val (.int p1), .val (.int p2), .val (.int p3), .val (.int p4), .val (.ref b2), .val (.int ((p3 &&& (7 : Int32)) % (5 : Int32))), .val (.int (f0_u5 p3)), .val (.int (f0_u6 p3)), .val (.int (f0_u7 p3)), .val (.int (p4 &&& (3 : Int32))), .val (.int (f0_u8 p1 p2 p3 p4)), .val (.int (f0_u9 p1 p2 p3 p4)), .val (.int (f0_u10 p1 p2 p3 p4)), .val (.ref b32_x1), .val (.ref b35), .val (.int (f0_u11 p1 p2 p3 p4)), .unset, .unset] [(.int (1 : Int32))])) t → Steps p.tables e below (T41.setTop (mkF m 230 #[.val (.int p1), .val (.int p2), .val (.int p3), .val (.int p4), .val (.ref b2), .val (.int ((p3 &&& (7 : Int32)) % (5 : Int32))), .val (.int (f0_u5 p3)), .val (.int (f0_u6 p3)), .val (.int (f0_u7 p3)), .val (.int (p4 &&& (3 : Int32))), .val (.int (f0_u8 p1 p2 p3 p4)), .val (.int (f0_u9 p1 p2 p3 p4)), .val (.int (f0_u10 p1 p2 p3 p4)), .val (.ref b32_x1), .val (.ref b35), .val (.int (f0_u11 p1 p2 p3 p4)), .unset, .unset] [])) t := by
                  intro t k
                  refine XS.iconst X41.here hx rfl (Jvm.hb hby at_230) ?_
                  show Steps p.tables e below (T41.setTop (mkF m 231 #[.val (.int p1), .val (.int p2), .val (.int p3), .val (.int p4), .val (.ref b2), .val (.int ((p3 &&& (7 : Int32)) % (5 : Int32))), .val (.int (f0_u5 p3)), .val (.int (f0_u6 p3)), .val (.int (f0_u7 p3)), .val (.int (p4 &&& (3 : Int32))), .val (.int (f0_u8 p1 p2 p3 p4)), .val (.int (f0_u9 p1 p2 p3 p4)), .val (.int (f0_u10 p1 p2 p3 p4)), .val (.ref b32_x1), .val (.ref b35), .val (.int (f0_u11 p1 p2 p3 p4)), .unset, .unset] [(.int (1 : Int32))])) t
                  refine XS.goto X41.here hx rfl (pc0 := 231) (pc' := 235) rfl (Jvm.hb hby at_231) (by decide) (by decide) ?_
                  show Steps p.tables e below (T41.setTop (mkF m 235 #[.val (.int p1), .val (.int p2), .val (.int p3), .val (.int p4), .val (.ref b2), .val (.int ((p3 &&& (7 : Int32)) % (5 : Int32))), .val (.int (f0_u5 p3)), .val (.int (f0_u6 p3)), .val (.int (f0_u7 p3)), .val (.int (p4 &&& (3 : Int32))), .val (.int (f0_u8 p1 p2 p3 p4)), .val (.int (f0_u9 p1 p2 p3 p4)), .val (.int (f0_u10 p1 p2 p3 p4)), .val (.ref b32_x1), .val (.ref b35), .val (.int (f0_u11 p1 p2 p3 p4)), .unset, .unset] [(.int (1 : Int32))])) t
                  exact k
                rw [show (f0_u12 p1 p2 p3 p4) = (1 : Int32) from (if_neg hc44).trans ((if_pos hc49).trans ((if_neg hc52).trans ((if_pos hc77).trans ((if_neg hc80).trans (if_pos hc90)))))] at k
                exact K47 _ (K48 _ (K50 _ (K51 _ (K70 _ (K75 _ (K76 _ (K78 _ (K79 _ (K83 _ (K88 _ (K89 _ (K91 _ (K92 _ (k))))))))))))))
              · have K93 : ∀ t, Steps p.tables e below (T41.setTop (mkF m 234 #[.val (.int p1), .val (.int p2), .val (.int p3), .val (.int p4), .val (.ref b2), .val (.int ((p3 &&& (7 : Int32)) % (5 : Int32))), .val (.int (f0_u5 p3)), .val (.int (f0_u6 p3)), .val (.int (f0_u7 p3)), .val (.int (p4 &&& (3 : Int32))), .val (.int (f0_u8 p1 p2 p3 p4)), .val (.int (f0_u9 p1 p2 p3 p4)), .val (.int (f0_u10 p1 p2 p3 p4)), .val (.ref b32_x1), .val (.ref b35), .val (.int (f0_u11 p1 p2 p3 p4)), .unset, .unset] [])) t → Steps p.tables e below (T41.setTop (mkF m 227 #[.val (.int p1), .val (.int p2), .val (.int p3), .val (.int p4), .val (.ref b2), .val (.int ((p3 &&& (7 : Int32)) % (5 : Int32))), .val (.int (f0_u5 p3)), .val (.int (f0_u6 p3)), .val (.int (f0_u7 p3)), .val (.int (p4 &&& (3 : Int32))), .val (.int (f0_u8 p1 p2 p3 p4)), .val (.int (f0_u9 p1 p2 p3 p4)), .val (.int (f0_u10 p1 p2 p3 p4)), .val (.ref b32_x1), .val (.ref b35), .val (.int (f0_u11 p1 p2 p3 p4)), .unset, .unset] [(.int (f0_u10 p1 p2 p3 p4)), (.int ((f0_u4 p1) ((f0_u6 p3) + (2 : Int32))))])) t := by
                  intro t k
                  refine XS.icmpYes X41.here hx rfl (pc0 := 227) (pc' := 234) rfl (Jvm.hb hby at_227) rfl (feq hc90).2 (by decide) (by decide) ?_
                  exact k
                have K94 : ∀ t, Steps p.tables e below (T41.setTop (mkF m 235 #[.val (.int p1), .val (.int p2), .val (.int p3), .val (.int p4), .val (.ref b2), .val (.int ((p3 &&& (7 : Int32)) % (5 : Int32))), .val (.int (f0_u5 p3)), .val (.int (f0_u6 p3)), .val (.int (f0_u7 p3)), .val (.int (p4 &&& (3 : Int32))), .val (.int (f0_u8 p1 p2 p3 p4)), .val (.int (f0_u9 p1 p2 p3 p4)), .val (.int (f0_u10 p1 p2 p3 p4)), .val (.ref b32_x1), .val (.ref b35), .val (.int (f0_u11 p1 p2 p3 p4)), .unset, .unset] [(.int (0 : Int32))])) t → Steps p.tables e below (T41.setTop (mkF m 234 #[.val (.int p1), .val (.int p2), .val (.int p3), .val (.int p4), .val (.ref b2), .val (.int ((p3 &&& (7 : Int32)) % (5 : Int32))), .val (.int (f0_u5 p3)), .val (.int (f0_u6 p3)), .val (.int (f0_u7 p3)), .val (.int (p4 &&& (3 : Int32))), .val (.int (f0_u8 p1 p2 p3 p4)), .val (.int (f0_u9 p1 p2 p3 p4)), .val (.int (f0_u10 p1 p2 p3 p4)), .val (.ref b32_x1), .val (.ref b35), .val (.int (f0_u11 p1 p2 p3 p4)), .unset, .unset] [])) t := by
                  intro t k
                  refine XS.iconst X41.here hx rfl (Jvm.hb hby at_234) ?_
                  show Steps p.tables e below (T41.setTop (mkF m 235 #[.val (.int p1), .val (.int p2), .val (.int p3), .val (.int p4), .val (.ref b2), .val (.int ((p3 &&& (7 : Int32)) % (5 : Int32))), .val (.int (f0_u5 p3)), .val (.int (f0_u6 p3)), .val (.int (f0_u7 p3)), .val (.int (p4 &&& (3 : Int32))), .val (.int (f0_u8 p1 p2 p3 p4)), .val (.int (f0_u9 p1 p2 p3 p4)), .val (.int (f0_u10 p1 p2 p3 p4)), .val (.ref b32_x1), .val (.ref b35), .val (.int (f0_u11 p1 p2 p3 p4)), .unset, .unset] [(.int (0 : Int32))])) t
                  exact k
                rw [show (f0_u12 p1 p2 p3 p4) = (0 : Int32) from (if_neg hc44).trans ((if_pos hc49).trans ((if_neg hc52).trans ((if_pos hc77).trans ((if_neg hc80).trans (if_neg hc90)))))] at k
                exact K47 _ (K48 _ (K50 _ (K51 _ (K70 _ (K75 _ (K76 _ (K78 _ (K79 _ (K83 _ (K88 _ (K89 _ (K93 _ (K94 _ (k))))))))))))))
          · have K95 : ∀ t, Steps p.tables e below (T41.setTop (mkF m 234 #[.val (.int p1), .val (.int p2), .val (.int p3), .val (.int p4), .val (.ref b2), .val (.int ((p3 &&& (7 : Int32)) % (5 : Int32))), .val (.int (f0_u5 p3)), .val (.int (f0_u6 p3)), .val (.int (f0_u7 p3)), .val (.int (p4 &&& (3 : Int32))), .val (.int (f0_u8 p1 p2 p3 p4)), .val (.int (f0_u9 p1 p2 p3 p4)), .val (.int (f0_u10 p1 p2 p3 p4)), .val (.ref b32_x1), .val (.ref b35), .val (.int (f0_u11 p1 p2 p3 p4)), .unset, .unset] [])) t → Steps p.tables e below (T41.setTop (mkF m 209 #[.val (.int p1), .val (.int p2), .val (.int p3), .val (.int p4), .val (.ref b2), .val (.int ((p3 &&& (7 : Int32)) % (5 : Int32))), .val (.int (f0_u5 p3)), .val (.int (f0_u6 p3)), .val (.int (f0_u7 p3)), .val (.int (p4 &&& (3 : Int32))), .val (.int (f0_u8 p1 p2 p3 p4)), .val (.int (f0_u9 p1 p2 p3 p4)), .val (.int (f0_u10 p1 p2 p3 p4)), .val (.ref b32_x1), .val (.ref b35), .val (.int (f0_u11 p1 p2 p3 p4)), .unset, .unset] [(.int (f0_u9 p1 p2 p3 p4)), (.int ((f0_u4 p1) ((f0_u6 p3) + (1 : Int32))))])) t := by
              intro t k
              refine XS.icmpYes X41.here hx rfl (pc0 := 209) (pc' := 234) rfl (Jvm.hb hby at_209) rfl (feq hc77).2 (by decide) (by decide) ?_
              exact k
            have K96 : ∀ t, Steps p.tables e below (T41.setTop (mkF m 235 #[.val (.int p1), .val (.int p2), .val (.int p3), .val (.int p4), .val (.ref b2), .val (.int ((p3 &&& (7 : Int32)) % (5 : Int32))), .val (.int (f0_u5 p3)), .val (.int (f0_u6 p3)), .val (.int (f0_u7 p3)), .val (.int (p4 &&& (3 : Int32))), .val (.int (f0_u8 p1 p2 p3 p4)), .val (.int (f0_u9 p1 p2 p3 p4)), .val (.int (f0_u10 p1 p2 p3 p4)), .val (.ref b32_x1), .val (.ref b35), .val (.int (f0_u11 p1 p2 p3 p4)), .unset, .unset] [(.int (0 : Int32))])) t → Steps p.tables e below (T41.setTop (mkF m 234 #[.val (.int p1), .val (.int p2), .val (.int p3), .val (.int p4), .val (.ref b2), .val (.int ((p3 &&& (7 : Int32)) % (5 : Int32))), .val (.int (f0_u5 p3)), .val (.int (f0_u6 p3)), .val (.int (f0_u7 p3)), .val (.int (p4 &&& (3 : Int32))), .val (.int (f0_u8 p1 p2 p3 p4)), .val (.int (f0_u9 p1 p2 p3 p4)), .val (.int (f0_u10 p1 p2 p3 p4)), .val (.ref b32_x1), .val (.ref b35), .val (.int (f0_u11 p1 p2 p3 p4)), .unset, .unset] [])) t := by
              intro t k
              refine XS.iconst X41.here hx rfl (Jvm.hb hby at_234) ?_
              show Steps p.tables e below (T41.setTop (mkF m 235 #[.val (.int p1), .val (.int p2), .val (.int p3), .val (.int p4), .val (.ref b2), .val (.int ((p3 &&& (7 : Int32)) % (5 : Int32))), .val (.int (f0_u5 p3)), .val (.int (f0_u6 p3)), .val (.int (f0_u7 p3)), .val (.int (p4 &&& (3 : Int32))), .val (.int (f0_u8 p1 p2 p3 p4)), .val (.int (f0_u9 p1 p2 p3 p4)), .val (.int (f0_u10 p1 p2 p3 p4)), .val (.ref b32_x1), .val (.ref b35), .val (.int (f0_u11 p1 p2 p3 p4)), .unset, .unset] [(.int (0 : Int32))])) t
              exact k
            rw [show (f0_u12 p1 p2 p3 p4) = (0 : Int32) from (if_neg hc44).trans ((if_pos hc49).trans ((if_neg hc52).trans (if_neg hc77)))] at k
            exact K47 _ (K48 _ (K50 _ (K51 _ (K70 _ (K75 _ (K76 _ (K95 _ (K96 _ (k)))))))))
      · have K97 : ∀ t, Steps p.tables e below (T41.setTop (mkF m 184 #[.val (.int p1), .val (.int p2), .val (.int p3), .val (.int p4), .val (.ref b2), .val (.int ((p3 &&& (7 : Int32)) % (5 : Int32))), .val (.int (f0_u5 p3)), .val (.int (f0_u6 p3)), .val (.int (f0_u7 p3)), .val (.int (p4 &&& (3 : Int32))), .val (.int (f0_u8 p1 p2 p3 p4)), .val (.int (f0_u9 p1 p2 p3 p4)), .val (.int (f0_u10 p1 p2 p3 p4)), .val (.ref b32_x1), .val (.ref b35), .val (.int (f0_u11 p1 p2 p3 p4)), .unset, .unset] [])) t → Steps p.tables e below (T41.setTop (mkF m 181 #[.val (.int p1), .val (.int p2), .val (.int p3), .val (.int p4), .val (.ref b2), .val (.int ((p3 &&& (7 : Int32)) % (5 : Int32))), .val (.int (f0_u5 p3)), .val (.int (f0_u6 p3)), .val (.int (f0_u7 p3)), .val (.int (p4 &&& (3 : Int32))), .val (.int (f0_u8 p1 p2 p3 p4)), .val (.int (f0_u9 p1 p2 p3 p4)), .val (.int (f0_u10 p1 p2 p3 p4)), .val (.ref b32_x1), .val (.ref b35), .val (.int (f0_u11 p1 p2 p3 p4)), .unset, .unset] [(.int (1 : Int32)), (.int (p4 &&& (3 : Int32)))])) t := by
          intro t k
          refine XS.icmpNo X41.here hx rfl (Jvm.hb hby at_181) rfl (flt hc49).1 ?_
          exact k
        have K102 : ∀ t, Steps p.tables e below (T41.setTop (mkF m 188 #[.val (.int p1), .val (.int p2), .val (.int p3), .val (.int p4), .val (.ref b2), .val (.int ((p3 &&& (7 : Int32)) % (5 : Int32))), .val (.int (f0_u5 p3)), .val (.int (f0_u6 p3)), .val (.int (f0_u7 p3)), .val (.int (p4 &&& (3 : Int32))), .val (.int (f0_u8 p1 p2 p3 p4)), .val (.int (f0_u9 p1 p2 p3 p4)), .val (.int (f0_u10 p1 p2 p3 p4)), .val (.ref b32_x1), .val (.ref b35), .val (.int (f0_u11 p1 p2 p3 p4)), .unset, .unset] [(.int (f0_u6 p3)), (.ref b2)])) t → Steps p.tables e below (T41.setTop (mkF m 184 #[.val (.int p1), .val (.int p2), .val (.int p3), .val (.int p4), .val (.ref b2), .val (.int ((p3 &&& (7 : Int32)) % (5 : Int32))), .val (.int (f0_u5 p3)), .val (.int (f0_u6 p3)), .val (.int (f0_u7 p3)), .val (.int (p4 &&& (3 : Int32))), .val (.int (f0_u8 p1 p2 p3 p4)), .val (.int (f0_u9 p1 p2 p3 p4)), .val (.int (f0_u10 p1 p2 p3 p4)), .val (.ref b32_x1), .val (.ref b35), .val (.int (f0_u11 p1 p2 p3 p4)), .unset, .unset] [])) t := by
          intro t k
          refine XS.aload X41.here hx rfl (Jvm.hb hby at_184) rfl rfl ?_
          show Steps p.tables e below (T41.setTop (mkF m 186 #[.val (.int p1), .val (.int p2), .val (.int p3), .val (.int p4), .val (.ref b2), .val (.int ((p3 &&& (7 : Int32)) % (5 : Int32))), .val (.int (f0_u5 p3)), .val (.int (f0_u6 p3)), .val (.int (f0_u7 p3)), .val (.int (p4 &&& (3 : Int32))), .val (.int (f0_u8 p1 p2 p3 p4)), .val (.int (f0_u9 p1 p2 p3 p4)), .val (.int (f0_u10 p1 p2 p3 p4)), .val (.ref b32_x1), .val (.ref b35), .val (.int (f0_u11 p1 p2 p3 p4)), .unset, .unset] [(.ref b2)])) t
          refine XS.iload X41.here hx rfl (Jvm.hb hby at_186) rfl ?_
          show Steps p.tables e below (T41.setTop (mkF m 188 #[.val (.int p1), .val (.int p2), .val (.int p3), .val (.int p4), .val (.ref b2), .val (.int ((p3 &&& (7 : Int32)) % (5 : Int32))), .val (.int (f0_u5 p3)), .val (.int (f0_u6 p3)), .val (.int (f0_u7 p3)), .val (.int (p4 &&& (3 : Int32))), .val (.int (f0_u8 p1 p2 p3 p4)), .val (.int (f0_u9 p1 p2 p3 p4)), .val (.int (f0_u10 p1 p2 p3 p4)), .val (.ref b32_x1), .val (.ref b35), .val (.int (f0_u11 p1 p2 p3 p4)), .unset, .unset] [(.int (f0_u6 p3)), (.ref b2)])) t
          exact k
        have hin98 : ¬ (f0_u6 p3) < 0 ∧ (f0_u6 p3) < (4 : Int32) := by exact own_bd0 _ _ (by assumption) (by assumption)
        obtain ⟨cl99, Aq100, hjhin98, aq101⟩ := Ia.at A41_2 hin98
        have K103 : ∀ t, Steps p.tables e below (T41.setTop (mkF m 191 #[.val (.int p1), .val (.int p2), .val (.int p3), .val (.int p4), .val (.ref b2), .val (.int ((p3 &&& (7 : Int32)) % (5 : Int32))), .val (.int (f0_u5 p3)), .val (.int (f0_u6 p3)), .val (.int (f0_u7 p3)), .val (.int (p4 &&& (3 : Int32))), .val (.int (f0_u8 p1 p2 p3 p4)), .val (.int (f0_u9 p1 p2 p3 p4)), .val (.int (f0_u10 p1 p2 p3 p4)), .val (.ref b32_x1), .val (.ref b35), .val (.int (f0_u11 p1 p2 p3 p4)), .unset, .unset] [(.int (f0_u8 p1 p2 p3 p4)), (.int ((f0_u4 p1) (f0_u6 p3)))])) t → Steps p.tables e below (T41.setTop (mkF m 188 #[.val (.int p1), .val (.int p2), .val (.int p3), .val (.int p4), .val (.ref b2), .val (.int ((p3 &&& (7 : Int32)) % (5 : Int32))), .val (.int (f0_u5 p3)), .val (.int (f0_u6 p3)), .val (.int (f0_u7 p3)), .val (.int (p4 &&& (3 : Int32))), .val (.int (f0_u8 p1 p2 p3 p4)), .val (.int (f0_u9 p1 p2 p3 p4)), .val (.int (f0_u10 p1 p2 p3 p4)), .val (.ref b32_x1), .val (.ref b35), .val (.int (f0_u11 p1 p2 p3 p4)), .unset, .unset] [(.int (f0_u6 p3)), (.ref b2)])) t := by
          intro t k
          refine X41.caload hx (j := (f0_u6 p3)) (v := .int ((f0_u4 p1) (f0_u6 p3))) (by rw [e41]; exact Aq100.1) (State.isArrayOf_alike hZ.alike Aq100.2.1) Aq100.2.2 hjhin98 aq101 (g := (mkF m 188 #[.val (.int p1), .val (.int p2), .val (.int p3), .val (.int p4), .val (.ref b2), .val (.int ((p3 &&& (7 : Int32)) % (5 : Int32))), .val (.int (f0_u5 p3)), .val (.int (f0_u6 p3)), .val (.int (f0_u7 p3)), .val (.int (p4 &&& (3 : Int32))), .val (.int (f0_u8 p1 p2 p3 p4)), .val (.int (f0_u9 p1 p2 p3 p4)), .val (.int (f0_u10 p1 p2 p3 p4)), .val (.ref b32_x1), .val (.ref b35), .val (.int (f0_u11 p1 p2 p3 p4)), .unset, .unset] [(.int (f0_u6 p3)), (.ref b2)])) rfl rfl (Jvm.hb hby at_188) _ ?_
          show Steps p.tables e below (T41.setTop (mkF m 189 #[.val (.int p1), .val (.int p2), .val (.int p3), .val (.int p4), .val (.ref b2), .val (.int ((p3 &&& (7 : Int32)) % (5 : Int32))), .val (.int (f0_u5 p3)), .val (.int (f0_u6 p3)), .val (.int (f0_u7 p3)), .val (.int (p4 &&& (3 : Int32))), .val (.int (f0_u8 p1 p2 p3 p4)), .val (.int (f0_u9 p1 p2 p3 p4)), .val (.int (f0_u10 p1 p2 p3 p4)), .val (.ref b32_x1), .val (.ref b35), .val (.int (f0_u11 p1 p2 p3 p4)), .unset, .unset] [(.int ((f0_u4 p1) (f0_u6 p3)))])) t
          refine XS.iload X41.here hx rfl (Jvm.hb hby at_189) rfl ?_
          show Steps p.tables e below (T41.setTop (mkF m 191 #[.val (.int p1), .val (.int p2), .val (.int p3), .val (.int p4), .val (.ref b2), .val (.int ((p3 &&& (7 : Int32)) % (5 : Int32))), .val (.int (f0_u5 p3)), .val (.int (f0_u6 p3)), .val (.int (f0_u7 p3)), .val (.int (p4 &&& (3 : Int32))), .val (.int (f0_u8 p1 p2 p3 p4)), .val (.int (f0_u9 p1 p2 p3 p4)), .val (.int (f0_u10 p1 p2 p3 p4)), .val (.ref b32_x1), .val (.ref b35), .val (.int (f0_u11 p1 p2 p3 p4)), .unset, .unset] [(.int (f0_u8 p1 p2 p3 p4)), (.int ((f0_u4 p1) (f0_u6 p3)))])) t
          exact k
        by_cases hc104 : ((f0_u4 p1) (f0_u6 p3)) = (f0_u8 p1 p2 p3 p4)
        · have K105 : ∀ t, Steps p.tables e below (T41.setTop (mkF m 194 #[.val (.int p1), .val (.int p2), .val (.int p3), .val (.int p4), .val (.ref b2), .val (.int ((p3 &&& (7 : Int32)) % (5 : Int32))), .val (.int (f0_u5 p3)), .val (.int (f0_u6 p3)), .val (.int (f0_u7 p3)), .val (.int (p4 &&& (3 : Int32))), .val (.int (f0_u8 p1 p2 p3 p4)), .val (.int (f0_u9 p1 p2 p3 p4)), .val (.int (f0_u10 p1 p2 p3 p4)), .val (.ref b32_x1), .val (.ref b35), .val (.int (f0_u11 p1 p2 p3 p4)), .unset, .unset] [])) t → Steps p.tables e below (T41.setTop (mkF m 191 #[.val (.int p1), .val (.int p2), .val (.int p3), .val (.int p4), .val (.ref b2), .val (.int ((p3 &&& (7 : Int32)) % (5 : Int32))), .val (.int (f0_u5 p3)), .val (.int (f0_u6 p3)), .val (.int (f0_u7 p3)), .val (.int (p4 &&& (3 : Int32))), .val (.int (f0_u8 p1 p2 p3 p4)), .val (.int (f0_u9 p1 p2 p3 p4)), .val (.int (f0_u10 p1 p2 p3 p4)), .val (.ref b32_x1), .val (.ref b35), .val (.int (f0_u11 p1 p2 p3 p4)), .unset, .unset] [(.int (f0_u8 p1 p2 p3 p4)), (.int ((f0_u4 p1) (f0_u6 p3)))])) t := by
            intro t k
            refine XS.icmpNo X41.here hx rfl (Jvm.hb hby at_191) rfl (teq hc104).2 ?_
            exact k
          have K106 : ∀ t, Steps p.tables e below (T41.setTop (mkF m 197 #[.val (.int p1), .val (.int p2), .val (.int p3), .val (.int p4), .val (.ref b2), .val (.int ((p3 &&& (7 : Int32)) % (5 : Int32))), .val (.int (f0_u5 p3)), .val (.int (f0_u6 p3)), .val (.int (f0_u7 p3)), .val (.int (p4 &&& (3 : Int32))), .val (.int (f0_u8 p1 p2 p3 p4)), .val (.int (f0_u9 p1 p2 p3 p4)), .val (.int (f0_u10 p1 p2 p3 p4)), .val (.ref b32_x1), .val (.ref b35), .val (.int (f0_u11 p1 p2 p3 p4)), .unset, .unset] [(.int (2 : Int32)), (.int (p4 &&& (3 : Int32)))])) t → Steps p.tables e below (T41.setTop (mkF m 194 #[.val (.int p1), .val (.int p2), .val (.int p3), .val (.int p4), .val (.ref b2), .val (.int ((p3 &&& (7 : Int32)) % (5 : Int32))), .val (.int (f0_u5 p3)), .val (.int (f0_u6 p3)), .val (.int (f0_u7 p3)), .val (.int (p4 &&& (3 : Int32))), .val (.int (f0_u8 p1 p2 p3 p4)), .val (.int (f0_u9 p1 p2 p3 p4)), .val (.int (f0_u10 p1 p2 p3 p4)), .val (.ref b32_x1), .val (.ref b35), .val (.int (f0_u11 p1 p2 p3 p4)), .unset, .unset] [])) t := by
            intro t k
            refine XS.iload X41.here hx rfl (Jvm.hb hby at_194) rfl ?_
            show Steps p.tables e below (T41.setTop (mkF m 196 #[.val (.int p1), .val (.int p2), .val (.int p3), .val (.int p4), .val (.ref b2), .val (.int ((p3 &&& (7 : Int32)) % (5 : Int32))), .val (.int (f0_u5 p3)), .val (.int (f0_u6 p3)), .val (.int (f0_u7 p3)), .val (.int (p4 &&& (3 : Int32))), .val (.int (f0_u8 p1 p2 p3 p4)), .val (.int (f0_u9 p1 p2 p3 p4)), .val (.int (f0_u10 p1 p2 p3 p4)), .val (.ref b32_x1), .val (.ref b35), .val (.int (f0_u11 p1 p2 p3 p4)), .unset, .unset] [(.int (p4 &&& (3 : Int32)))])) t
            refine XS.iconst X41.here hx rfl (Jvm.hb hby at_196) ?_
            show Steps p.tables e below (T41.setTop (mkF m 197 #[.val (.int p1), .val (.int p2), .val (.int p3), .val (.int p4), .val (.ref b2), .val (.int ((p3 &&& (7 : Int32)) % (5 : Int32))), .val (.int (f0_u5 p3)), .val (.int (f0_u6 p3)), .val (.int (f0_u7 p3)), .val (.int (p4 &&& (3 : Int32))), .val (.int (f0_u8 p1 p2 p3 p4)), .val (.int (f0_u9 p1 p2 p3 p4)), .val (.int (f0_u10 p1 p2 p3 p4)), .val (.ref b32_x1), .val (.ref b35), .val (.int (f0_u11 p1 p2 p3 p4)), .unset, .unset] [(.int (2 : Int32)), (.int (p4 &&& (3 : Int32)))])) t
            exact k
          by_cases hc107 : (p4 &&& (3 : Int32)) < (2 : Int32)
          · have K108 : ∀ t, Steps p.tables e below (T41.setTop (mkF m 212 #[.val (.int p1), .val (.int p2), .val (.int p3), .val (.int p4), .val (.ref b2), .val (.int ((p3 &&& (7 : Int32)) % (5 : Int32))), .val (.int (f0_u5 p3)), .val (.int (f0_u6 p3)), .val (.int (f0_u7 p3)), .val (.int (p4 &&& (3 : Int32))), .val (.int (f0_u8 p1 p2 p3 p4)), .val (.int (f0_u9 p1 p2 p3 p4)), .val (.int (f0_u10 p1 p2 p3 p4)), .val (.ref b32_x1), .val (.ref b35), .val (.int (f0_u11 p1 p2 p3 p4)), .unset, .unset] [])) t → Steps p.tables e below (T41.setTop (mkF m 197 #[.val (.int p1), .val (.int p2), .val (.int p3), .val (.int p4), .val (.ref b2), .val (.int ((p3 &&& (7 : Int32)) % (5 : Int32))), .val (.int (f0_u5 p3)), .val (.int (f0_u6 p3)), .val (.int (f0_u7 p3)), .val (.int (p4 &&& (3 : Int32))), .val (.int (f0_u8 p1 p2 p3 p4)), .val (.int (f0_u9 p1 p2 p3 p4)), .val (.int (f0_u10 p1 p2 p3 p4)), .val (.ref b32_x1), .val (.ref b35), .val (.int (f0_u11 p1 p2 p3 p4)), .unset, .unset] [(.int (2 : Int32)), (.int (p4 &&& (3 : Int32)))])) t := by
              intro t k
              refine XS.icmpYes X41.here hx rfl (pc0 := 197) (pc' := 212) rfl (Jvm.hb hby at_197) rfl (tlt hc107).1 (by decide) (by decide) ?_
              exact k
            have K109 : ∀ t, Steps p.tables e below (T41.setTop (mkF m 215 #[.val (.int p1), .val (.int p2), .val (.int p3), .val (.int p4), .val (.ref b2), .val (.int ((p3 &&& (7 : Int32)) % (5 : Int32))), .val (.int (f0_u5 p3)), .val (.int (f0_u6 p3)), .val (.int (f0_u7 p3)), .val (.int (p4 &&& (3 : Int32))), .val (.int (f0_u8 p1 p2 p3 p4)), .val (.int (f0_u9 p1 p2 p3 p4)), .val (.int (f0_u10 p1 p2 p3 p4)), .val (.ref b32_x1), .val (.ref b35), .val (.int (f0_u11 p1 p2 p3 p4)), .unset, .unset] [(.int (3 : Int32)), (.int (p4 &&& (3 : Int32)))])) t → Steps p.tables e below (T41.setTop (mkF m 212 #[.val (.int p1), .val (.int p2), .val (.int p3), .val (.int p4), .val (.ref b2), .val (.int ((p3 &&& (7 : Int32)) % (5 : Int32))), .val (.int (f0_u5 p3)), .val (.int (f0_u6 p3)), .val (.int (f0_u7 p3)), .val (.int (p4 &&& (3 : Int32))), .val (.int (f0_u8 p1 p2 p3 p4)), .val (.int (f0_u9 p1 p2 p3 p4)), .val (.int (f0_u10 p1 p2 p3 p4)), .val (.ref b32_x1), .val (.ref b35), .val (.int (f0_u11 p1 p2 p3 p4)), .unset, .unset] [])) t := by
              intro t k
              refine XS.iload X41.here hx rfl (Jvm.hb hby at_212) rfl ?_
              show Steps p.tables e below (T41.setTop (mkF m 214 #[.val (.int p1), .val (.int p2), .val (.int p3), .val (.int p4), .val (.ref b2), .val (.int ((p3 &&& (7 : Int32)) % (5 : Int32))), .val (.int (f0_u5 p3)), .val (.int (f0_u6 p3)), .val (.int (f0_u7 p3)), .val (.int (p4 &&& (3 : Int32))), .val (.int (f0_u8 p1 p2 p3 p4)), .val (.int (f0_u9 p1 p2 p3 p4)), .val (.int (f0_u10 p1 p2 p3 p4)), .val (.ref b32_x1), .val (.ref b35), .val (.int (f0_u11 p1 p2 p3 p4)), .unset, .unset] [(.int (p4 &&& (3 : Int32)))])) t
              refine XS.iconst X41.here hx rfl (Jvm.hb hby at_214) ?_
              show Steps p.tables e below (T41.setTop (mkF m 215 #[.val (.int p1), .val (.int p2), .val (.int p3), .val (.int p4), .val (.ref b2), .val (.int ((p3 &&& (7 : Int32)) % (5 : Int32))), .val (.int (f0_u5 p3)), .val (.int (f0_u6 p3)), .val (.int (f0_u7 p3)), .val (.int (p4 &&& (3 : Int32))), .val (.int (f0_u8 p1 p2 p3 p4)), .val (.int (f0_u9 p1 p2 p3 p4)), .val (.int (f0_u10 p1 p2 p3 p4)), .val (.ref b32_x1), .val (.ref b35), .val (.int (f0_u11 p1 p2 p3 p4)), .unset, .unset] [(.int (3 : Int32)), (.int (p4 &&& (3 : Int32)))])) t
              exact k
            by_cases hc110 : (p4 &&& (3 : Int32)) < (3 : Int32)
            · have K111 : ∀ t, Steps p.tables e below (T41.setTop (mkF m 230 #[.val (.int p1), .val (.int p2), .val (.int p3), .val (.int p4), .val (.ref b2), .val (.int ((p3 &&& (7 : Int32)) % (5 : Int32))), .val (.int (f0_u5 p3)), .val (.int (f0_u6 p3)), .val (.int (f0_u7 p3)), .val (.int (p4 &&& (3 : Int32))), .val (.int (f0_u8 p1 p2 p3 p4)), .val (.int (f0_u9 p1 p2 p3 p4)), .val (.int (f0_u10 p1 p2 p3 p4)), .val (.ref b32_x1), .val (.ref b35), .val (.int (f0_u11 p1 p2 p3 p4)), .unset, .unset] [])) t → Steps p.tables e below (T41.setTop (mkF m 215 #[.val (.int p1), .val (.int p2), .val (.int p3), .val (.int p4), .val (.ref b2), .val (.int ((p3 &&& (7 : Int32)) % (5 : Int32))), .val (.int (f0_u5 p3)), .val (.int (f0_u6 p3)), .val (.int (f0_u7 p3)), .val (.int (p4 &&& (3 : Int32))), .val (.int (f0_u8 p1 p2 p3 p4)), .val (.int (f0_u9 p1 p2 p3 p4)), .val (.int (f0_u10 p1 p2 p3 p4)), .val (.ref b32_x1), .val (.ref b35), .val (.int (f0_u11 p1 p2 p3 p4)), .unset, .unset] [(.int (3 : Int32)), (.int (p4 &&& (3 : Int32)))])) t := by
                intro t k
                refine XS.icmpYes X41.here hx rfl (pc0 := 215) (pc' := 230) rfl (Jvm.hb hby at_215) rfl (tlt hc110).1 (by decide) (by decide) ?_
                exact k
              have K112 : ∀ t, Steps p.tables e below (T41.setTop (mkF m 235 #[.val (.int p1), .val (.int p2), .val (.int p3), .val (.int p4), .val (.ref b2), .val (.int ((p3 &&& (7 : Int32)) % (5 : Int32))), .val (.int (f0_u5 p3)), .val (.int (f0_u6 p3)), .val (.int (f0_u7 p3)), .val (.int (p4 &&& (3 : Int32))), .val (.int (f0_u8 p1 p2 p3 p4)), .val (.int (f0_u9 p1 p2 p3 p4)), .val (.int (f0_u10 p1 p2 p3 p4)), .val (.ref b32_x1), .val (.ref b35), .val (.int (f0_u11 p1 p2 p3 p4)), .unset, .unset] [(.int (1 : Int32))])) t → Steps p.tables e below (T41.setTop (mkF m 230 #[.val (.int p1), .val (.int p2), .val (.int p3), .val (.int p4), .val (.ref b2), .val (.int ((p3 &&& (7 : Int32)) % (5 : Int32))), .val (.int (f0_u5 p3)), .val (.int (f0_u6 p3)), .val (.int (f0_u7 p3)), .val (.int (p4 &&& (3 : Int32))), .val (.int (f0_u8 p1 p2 p3 p4)), .val (.int (f0_u9 p1 p2 p3 p4)), .val (.int (f0_u10 p1 p2 p3 p4)), .val (.ref b32_x1), .val (.ref b35), .val (.int (f0_u11 p1 p2 p3 p4)), .unset, .unset] [])) t := by
                intro t k
                refine XS.iconst X41.here hx rfl (Jvm.hb hby at_230) ?_
                show Steps p.tables e below (T41.setTop (mkF m 231 #[.val (.int p1), .val (.int p2), .val (.int p3), .val (.int p4), .val (.ref b2), .val (.int ((p3 &&& (7 : Int32)) % (5 : Int32))), .val (.int (f0_u5 p3)), .val (.int (f0_u6 p3)), .val (.int (f0_u7 p3)), .val (.int (p4 &&& (3 : Int32))), .val (.int (f0_u8 p1 p2 p3 p4)), .val (.int (f0_u9 p1 p2 p3 p4)), .val (.int (f0_u10 p1 p2 p3 p4)), .val (.ref b32_x1), .val (.ref b35), .val (.int (f0_u11 p1 p2 p3 p4)), .unset, .unset] [(.int (1 : Int32))])) t
                refine XS.goto X41.here hx rfl (pc0 := 231) (pc' := 235) rfl (Jvm.hb hby at_231) (by decide) (by decide) ?_
                show Steps p.tables e below (T41.setTop (mkF m 235 #[.val (.int p1), .val (.int p2), .val (.int p3), .val (.int p4), .val (.ref b2), .val (.int ((p3 &&& (7 : Int32)) % (5 : Int32))), .val (.int (f0_u5 p3)), .val (.int (f0_u6 p3)), .val (.int (f0_u7 p3)), .val (.int (p4 &&& (3 : Int32))), .val (.int (f0_u8 p1 p2 p3 p4)), .val (.int (f0_u9 p1 p2 p3 p4)), .val (.int (f0_u10 p1 p2 p3 p4)), .val (.ref b32_x1), .val (.ref b35), .val (.int (f0_u11 p1 p2 p3 p4)), .unset, .unset] [(.int (1 : Int32))])) t
                exact k
              rw [show (f0_u12 p1 p2 p3 p4) = (1 : Int32) from (if_neg hc44).trans ((if_neg hc49).trans ((if_pos hc104).trans ((if_pos hc107).trans (if_pos hc110))))] at k
              exact K47 _ (K48 _ (K97 _ (K102 _ (K103 _ (K105 _ (K106 _ (K108 _ (K109 _ (K111 _ (K112 _ (k)))))))))))
            · have K113 : ∀ t, Steps p.tables e below (T41.setTop (mkF m 218 #[.val (.int p1), .val (.int p2), .val (.int p3), .val (.int p4), .val (.ref b2), .val (.int ((p3 &&& (7 : Int32)) % (5 : Int32))), .val (.int (f0_u5 p3)), .val (.int (f0_u6 p3)), .val (.int (f0_u7 p3)), .val (.int (p4 &&& (3 : Int32))), .val (.int (f0_u8 p1 p2 p3 p4)), .val (.int (f0_u9 p1 p2 p3 p4)), .val (.int (f0_u10 p1 p2 p3 p4)), .val (.ref b32_x1), .val (.ref b35), .val (.int (f0_u11 p1 p2 p3 p4)), .unset, .unset] [])) t → Steps p.tables e below (T41.setTop (mkF m 215 #[.val (.int p1), .val (.int p2), .val (.int p3), .val (.int p4), .val (.ref b2), .val (.int ((p3 &&& (7 : Int32)) % (5 : Int32))), .val (.int (f0_u5 p3)), .val (.int (f0_u6 p3)), .val (.int (f0_u7 p3)), .val (.int (p4 &&& (3 : Int32))), .val (.int (f0_u8 p1 p2 p3 p4)), .val (.int (f0_u9 p1 p2 p3 p4)), .val (.int (f0_u10 p1 p2 p3 p4)), .val (.ref b32_x1), .val (.ref b35), .val (.int (f0_u11 p1 p2 p3 p4)), .unset, .unset] [(.int (3 : Int32)), (.int (p4 &&& (3 : Int32)))])) t := by
                intro t k
                refine XS.icmpNo X41.here hx rfl (Jvm.hb hby at_215) rfl (flt hc110).1 ?_
                exact k
              have K118 : ∀ t, Steps p.tables e below (T41.setTop (mkF m 224 #[.val (.int p1), .val (.int p2), .val (.int p3), .val (.int p4), .val (.ref b2), .val (.int ((p3 &&& (7 : Int32)) % (5 : Int32))), .val (.int (f0_u5 p3)), .val (.int (f0_u6 p3)), .val (.int (f0_u7 p3)), .val (.int (p4 &&& (3 : Int32))), .val (.int (f0_u8 p1 p2 p3 p4)), .val (.int (f0_u9 p1 p2 p3 p4)), .val (.int (f0_u10 p1 p2 p3 p4)), .val (.ref b32_x1), .val (.ref b35), .val (.int (f0_u11 p1 p2 p3 p4)), .unset, .unset] [(.int ((f0_u6 p3) + (2 : Int32))), (.ref b2)])) t → Steps p.tables e below (T41.setTop (mkF m 218 #[.val (.int p1), .val (.int p2), .val (.int p3), .val (.int p4), .val (.ref b2), .val (.int ((p3 &&& (7 : Int32)) % (5 : Int32))), .val (.int (f0_u5 p3)), .val (.int (f0_u6 p3)), .val (.int (f0_u7 p3)), .val (.int (p4 &&& (3 : Int32))), .val (.int (f0_u8 p1 p2 p3 p4)), .val (.int (f0_u9 p1 p2 p3 p4)), .val (.int (f0_u10 p1 p2 p3 p4)), .val (.ref b32_x1), .val (.ref b35), .val (.int (f0_u11 p1 p2 p3 p4)), .unset, .unset] [])) t := by
                intro t k
                refine XS.aload X41.here hx rfl (Jvm.hb hby at_218) rfl rfl ?_
                show Steps p.tables e below (T41.setTop (mkF m 220 #[.val (.int p1), .val (.int p2), .val (.int p3), .val (.int p4), .val (.ref b2), .val (.int ((p3 &&& (7 : Int32)) % (5 : Int32))), .val (.int (f0_u5 p3)), .val (.int (f0_u6 p3)), .val (.int (f0_u7 p3)), .val (.int (p4 &&& (3 : Int32))), .val (.int (f0_u8 p1 p2 p3 p4)), .val (.int (f0_u9 p1 p2 p3 p4)), .val (.int (f0_u10 p1 p2 p3 p4)), .val (.ref b32_x1), .val (.ref b35), .val (.int (f0_u11 p1 p2 p3 p4)), .unset, .unset] [(.ref b2)])) t
                refine XS.iload X41.here hx rfl (Jvm.hb hby at_220) rfl ?_
                show Steps p.tables e below (T41.setTop (mkF m 222 #[.val (.int p1), .val (.int p2), .val (.int p3), .val (.int p4), .val (.ref b2), .val (.int ((p3 &&& (7 : Int32)) % (5 : Int32))), .val (.int (f0_u5 p3)), .val (.int (f0_u6 p3)), .val (.int (f0_u7 p3)), .val (.int (p4 &&& (3 : Int32))), .val (.int (f0_u8 p1 p2 p3 p4)), .val (.int (f0_u9 p1 p2 p3 p4)), .val (.int (f0_u10 p1 p2 p3 p4)), .val (.ref b32_x1), .val (.ref b35), .val (.int (f0_u11 p1 p2 p3 p4)), .unset, .unset] [(.int (f0_u6 p3)), (.ref b2)])) t
                refine XS.iconst X41.here hx rfl (Jvm.hb hby at_222) ?_
                show Steps p.tables e below (T41.setTop (mkF m 223 #[.val (.int p1), .val (.int p2), .val (.int p3), .val (.int p4), .val (.ref b2), .val (.int ((p3 &&& (7 : Int32)) % (5 : Int32))), .val (.int (f0_u5 p3)), .val (.int (f0_u6 p3)), .val (.int (f0_u7 p3)), .val (.int (p4 &&& (3 : Int32))), .val (.int (f0_u8 p1 p2 p3 p4)), .val (.int (f0_u9 p1 p2 p3 p4)), .val (.int (f0_u10 p1 p2 p3 p4)), .val (.ref b32_x1), .val (.ref b35), .val (.int (f0_u11 p1 p2 p3 p4)), .unset, .unset] [(.int (2 : Int32)), (.int (f0_u6 p3)), (.ref b2)])) t
                refine XS.iadd X41.here hx rfl (Jvm.hb hby at_223) rfl ?_
                show Steps p.tables e below (T41.setTop (mkF m 224 #[.val (.int p1), .val (.int p2), .val (.int p3), .val (.int p4), .val (.ref b2), .val (.int ((p3 &&& (7 : Int32)) % (5 : Int32))), .val (.int (f0_u5 p3)), .val (.int (f0_u6 p3)), .val (.int (f0_u7 p3)), .val (.int (p4 &&& (3 : Int32))), .val (.int (f0_u8 p1 p2 p3 p4)), .val (.int (f0_u9 p1 p2 p3 p4)), .val (.int (f0_u10 p1 p2 p3 p4)), .val (.ref b32_x1), .val (.ref b35), .val (.int (f0_u11 p1 p2 p3 p4)), .unset, .unset] [(.int ((f0_u6 p3) + (2 : Int32))), (.ref b2)])) t
                exact k
              have hin114 : ¬ ((f0_u6 p3) + (2 : Int32)) < 0 ∧ ((f0_u6 p3) + (2 : Int32)) < (4 : Int32) := by exact own_bd _ _ 2 3 (by decide) (by decide) (by assumption) (by assumption)
              obtain ⟨cl115, Aq116, hjhin114, aq117⟩ := Ia.at A41_2 hin114
              have K119 : ∀ t, Steps p.tables e below (T41.setTop (mkF m 227 #[.val (.int p1), .val (.int p2), .val (.int p3), .val (.int p4), .val (.ref b2), .val (.int ((p3 &&& (7 : Int32)) % (5 : Int32))), .val (.int (f0_u5 p3)), .val (.int (f0_u6 p3)), .val (.int (f0_u7 p3)), .val (.int (p4 &&& (3 : Int32))), .val (.int (f0_u8 p1 p2 p3 p4)), .val (.int (f0_u9 p1 p2 p3 p4)), .val (.int (f0_u10 p1 p2 p3 p4)), .val (.ref b32_x1), .val (.ref b35), .val (.int (f0_u11 p1 p2 p3 p4)), .unset, .unset] [(.int (f0_u10 p1 p2 p3 p4)), (.int ((f0_u4 p1) ((f0_u6 p3) + (2 : Int32))))])) t → Steps p.tables e below (T41.setTop (mkF m 224 #[.val (.int p1), .val (.int p2), .val (.int p3), .val (.int p4), .val (.ref b2), .val (.int ((p3 &&& (7 : Int32)) % (5 : Int32))), .val (.int (f0_u5 p3)), .val (.int (f0_u6 p3)), .val (.int (f0_u7 p3)), .val (.int (p4 &&& (3 : Int32))), .val (.int (f0_u8 p1 p2 p3 p4)), .val (.int (f0_u9 p1 p2 p3 p4)), .val (.int (f0_u10 p1 p2 p3 p4)), .val (.ref b32_x1), .val (.ref b35), .val (.int (f0_u11 p1 p2 p3 p4)), .unset, .unset] [(.int ((f0_u6 p3) + (2 : Int32))), (.ref b2)])) t := by
                intro t k
                refine X41.caload hx (j := ((f0_u6 p3) + (2 : Int32))) (v := .int ((f0_u4 p1) ((f0_u6 p3) + (2 : Int32)))) (by rw [e41]; exact Aq116.1) (State.isArrayOf_alike hZ.alike Aq116.2.1) Aq116.2.2 hjhin114 aq117 (g := (mkF m 224 #[.val (.int p1), .val (.int p2), .val (.int p3), .val (.int p4), .val (.ref b2), .val (.int ((p3 &&& (7 : Int32)) % (5 : Int32))), .val (.int (f0_u5 p3)), .val (.int (f0_u6 p3)), .val (.int (f0_u7 p3)), .val (.int (p4 &&& (3 : Int32))), .val (.int (f0_u8 p1 p2 p3 p4)), .val (.int (f0_u9 p1 p2 p3 p4)), .val (.int (f0_u10 p1 p2 p3 p4)), .val (.ref b32_x1), .val (.ref b35), .val (.int (f0_u11 p1 p2 p3 p4)), .unset, .unset] [(.int ((f0_u6 p3) + (2 : Int32))), (.ref b2)])) rfl rfl (Jvm.hb hby at_224) _ ?_
                show Steps p.tables e below (T41.setTop (mkF m 225 #[.val (.int p1), .val (.int p2), .val (.int p3), .val (.int p4), .val (.ref b2), .val (.int ((p3 &&& (7 : Int32)) % (5 : Int32))), .val (.int (f0_u5 p3)), .val (.int (f0_u6 p3)), .val (.int (f0_u7 p3)), .val (.int (p4 &&& (3 : Int32))), .val (.int (f0_u8 p1 p2 p3 p4)), .val (.int (f0_u9 p1 p2 p3 p4)), .val (.int (f0_u10 p1 p2 p3 p4)), .val (.ref b32_x1), .val (.ref b35), .val (.int (f0_u11 p1 p2 p3 p4)), .unset, .unset] [(.int ((f0_u4 p1) ((f0_u6 p3) + (2 : Int32))))])) t
                refine XS.iload X41.here hx rfl (Jvm.hb hby at_225) rfl ?_
                show Steps p.tables e below (T41.setTop (mkF m 227 #[.val (.int p1), .val (.int p2), .val (.int p3), .val (.int p4), .val (.ref b2), .val (.int ((p3 &&& (7 : Int32)) % (5 : Int32))), .val (.int (f0_u5 p3)), .val (.int (f0_u6 p3)), .val (.int (f0_u7 p3)), .val (.int (p4 &&& (3 : Int32))), .val (.int (f0_u8 p1 p2 p3 p4)), .val (.int (f0_u9 p1 p2 p3 p4)), .val (.int (f0_u10 p1 p2 p3 p4)), .val (.ref b32_x1), .val (.ref b35), .val (.int (f0_u11 p1 p2 p3 p4)), .unset, .unset] [(.int (f0_u10 p1 p2 p3 p4)), (.int ((f0_u4 p1) ((f0_u6 p3) + (2 : Int32))))])) t
                exact k
              by_cases hc120 : ((f0_u4 p1) ((f0_u6 p3) + (2 : Int32))) = (f0_u10 p1 p2 p3 p4)
              · have K121 : ∀ t, Steps p.tables e below (T41.setTop (mkF m 230 #[.val (.int p1), .val (.int p2), .val (.int p3), .val (.int p4), .val (.ref b2), .val (.int ((p3 &&& (7 : Int32)) % (5 : Int32))), .val (.int (f0_u5 p3)), .val (.int (f0_u6 p3)), .val (.int (f0_u7 p3)), .val (.int (p4 &&& (3 : Int32))), .val (.int (f0_u8 p1 p2 p3 p4)), .val (.int (f0_u9 p1 p2 p3 p4)), .val (.int (f0_u10 p1 p2 p3 p4)), .val (.ref b32_x1), .val (.ref b35), .val (.int (f0_u11 p1 p2 p3 p4)), .unset, .unset] [])) t → Steps p.tables e below (T41.setTop (mkF m 227 #[.val (.int p1), .val (.int p2), .val (.int p3), .val (.int p4), .val (.ref b2), .val (.int ((p3 &&& (7 : Int32)) % (5 : Int32))), .val (.int (f0_u5 p3)), .val (.int (f0_u6 p3)), .val (.int (f0_u7 p3)), .val (.int (p4 &&& (3 : Int32))), .val (.int (f0_u8 p1 p2 p3 p4)), .val (.int (f0_u9 p1 p2 p3 p4)), .val (.int (f0_u10 p1 p2 p3 p4)), .val (.ref b32_x1), .val (.ref b35), .val (.int (f0_u11 p1 p2 p3 p4)), .unset, .unset] [(.int (f0_u10 p1 p2 p3 p4)), (.int ((f0_u4 p1) ((f0_u6 p3) + (2 : Int32))))])) t := by
                  intro t k
                  refine XS.icmpNo X41.here hx rfl (Jvm.hb hby at_227) rfl (teq hc120).2 ?_
                  exact k
                have K122 : ∀ t, Steps p.tables e below (T41.setTop (mkF m 235 #[.val (.int p1), .val (.int p2), .val (.int p3), .val (.int p4), .val (.ref b2), .val (.int ((p3 &&& (7 : Int32)) % (5 : Int32))), .val (.int (f0_u5 p3)), .val (.int (f0_u6 p3)), .val (.int (f0_u7 p3)), .val (.int (p4 &&& (3 : Int32))), .val (.int (f0_u8 p1 p2 p3 p4)), .val (.int (f0_u9 p1 p2 p3 p4)), .val (.int (f0_u10 p1 p2 p3 p4)), .val (.ref b32_x1), .val (.ref b35), .val (.int (f0_u11 p1 p2 p3 p4)), .unset, .unset] [(.int (1 : Int32))])) t → Steps p.tables e below (T41.setTop (mkF m 230 #[.val (.int p1), .val (.int p2), .val (.int p3), .val (.int p4), .val (.ref b2), .val (.int ((p3 &&& (7 : Int32)) % (5 : Int32))), .val (.int (f0_u5 p3)), .val (.int (f0_u6 p3)), .val (.int (f0_u7 p3)), .val (.int (p4 &&& (3 : Int32))), .val (.int (f0_u8 p1 p2 p3 p4)), .val (.int (f0_u9 p1 p2 p3 p4)), .val (.int (f0_u10 p1 p2 p3 p4)), .val (.ref b32_x1), .val (.ref b35), .val (.int (f0_u11 p1 p2 p3 p4)), .unset, .unset] [])) t := by
                  intro t k
                  refine XS.iconst X41.here hx rfl (Jvm.hb hby at_230) ?_
                  show Steps p.tables e below (T41.setTop (mkF m 231 #[.val (.int p1), .val (.int p2), .val (.int p3), .val (.int p4), .val (.ref b2), .val (.int ((p3 &&& (7 : Int32)) % (5 : Int32))), .val (.int (f0_u5 p3)), .val (.int (f0_u6 p3)), .val (.int (f0_u7 p3)), .val (.int (p4 &&& (3 : Int32))), .val (.int (f0_u8 p1 p2 p3 p4)), .val (.int (f0_u9 p1 p2 p3 p4)), .val (.int (f0_u10 p1 p2 p3 p4)), .val (.ref b32_x1), .val (.ref b35), .val (.int (f0_u11 p1 p2 p3 p4)), .unset, .unset] [(.int (1 : Int32))])) t
                  refine XS.goto X41.here hx rfl (pc0 := 231) (pc' := 235) rfl (Jvm.hb hby at_231) (by decide) (by decide) ?_
                  show Steps p.tables e below (T41.setTop (mkF m 235 #[.val (.int p1), .val (.int p2), .val (.int p3), .val (.int p4), .val (.ref b2), .val (.int ((p3 &&& (7 : Int32)) % (5 : Int32))), .val (.int (f0_u5 p3)), .val (.int (f0_u6 p3)), .val (.int (f0_u7 p3)), .val (.int (p4 &&& (3 : Int32))), .val (.int (f0_u8 p1 p2 p3 p4)), .val (.int (f0_u9 p1 p2 p3 p4)), .val (.int (f0_u10 p1 p2 p3 p4)), .val (.ref b32_x1), .val (.ref b35), .val (.int (f0_u11 p1 p2 p3 p4)), .unset, .unset] [(.int (1 : Int32))])) t
                  exact k
                rw [show (f0_u12 p1 p2 p3 p4) = (1 : Int32) from (if_neg hc44).trans ((if_neg hc49).trans ((if_pos hc104).trans ((if_pos hc107).trans ((if_neg hc110).trans (if_pos hc120)))))] at k
                exact K47 _ (K48 _ (K97 _ (K102 _ (K103 _ (K105 _ (K106 _ (K108 _ (K109 _ (K113 _ (K118 _ (K119 _ (K121 _ (K122 _ (k))))))))))))))
              · have K123 : ∀ t, Steps p.tables e below (T41.setTop (mkF m 234 #[.val (.int p1), .val (.int p2), .val (.int p3), .val (.int p4), .val (.ref b2), .val (.int ((p3 &&& (7 : Int32)) % (5 : Int32))), .val (.int (f0_u5 p3)), .val (.int (f0_u6 p3)), .val (.int (f0_u7 p3)), .val (.int (p4 &&& (3 : Int32))), .val (.int (f0_u8 p1 p2 p3 p4)), .val (.int (f0_u9 p1 p2 p3 p4)), .val (.int (f0_u10 p1 p2 p3 p4)), .val (.ref b32_x1), .val (.ref b35), .val (.int (f0_u11 p1 p2 p3 p4)), .unset, .unset] [])) t → Steps p.tables e below (T41.setTop (mkF m 227 #[.val (.int p1), .val (.int p2), .val (.int p3), .val (.int p4), .val (.ref b2), .val (.int ((p3 &&& (7 : Int32)) % (5 : Int32))), .val (.int (f0_u5 p3)), .val (.int (f0_u6 p3)), .val (.int (f0_u7 p3)), .val (.int (p4 &&& (3 : Int32))), .val (.int (f0_u8 p1 p2 p3 p4)), .val (.int (f0_u9 p1 p2 p3 p4)), .val (.int (f0_u10 p1 p2 p3 p4)), .val (.ref b32_x1), .val (.ref b35), .val (.int (f0_u11 p1 p2 p3 p4)), .unset, .unset] [(.int (f0_u10 p1 p2 p3 p4)), (.int ((f0_u4 p1) ((f0_u6 p3) + (2 : Int32))))])) t := by
                  intro t k
                  refine XS.icmpYes X41.here hx rfl (pc0 := 227) (pc' := 234) rfl (Jvm.hb hby at_227) rfl (feq hc120).2 (by decide) (by decide) ?_
                  exact k
                have K124 : ∀ t, Steps p.tables e below (T41.setTop (mkF m 235 #[.val (.int p1), .val (.int p2), .val (.int p3), .val (.int p4), .val (.ref b2), .val (.int ((p3 &&& (7 : Int32)) % (5 : Int32))), .val (.int (f0_u5 p3)), .val (.int (f0_u6 p3)), .val (.int (f0_u7 p3)), .val (.int (p4 &&& (3 : Int32))), .val (.int (f0_u8 p1 p2 p3 p4)), .val (.int (f0_u9 p1 p2 p3 p4)), .val (.int (f0_u10 p1 p2 p3 p4)), .val (.ref b32_x1), .val (.ref b35), .val (.int (f0_u11 p1 p2 p3 p4)), .unset, .unset] [(.int (0 : Int32))])) t → Steps p.tables e below (T41.setTop (mkF m 234 #[.val (.int p1), .val (.int p2), .val (.int p3), .val (.int p4), .val (.ref b2), .val (.int ((p3 &&& (7 : Int32)) % (5 : Int32))), .val (.int (f0_u5 p3)), .val (.int (f0_u6 p3)), .val (.int (f0_u7 p3)), .val (.int (p4 &&& (3 : Int32))), .val (.int (f0_u8 p1 p2 p3 p4)), .val (.int (f0_u9 p1 p2 p3 p4)), .val (.int (f0_u10 p1 p2 p3 p4)), .val (.ref b32_x1), .val (.ref b35), .val (.int (f0_u11 p1 p2 p3 p4)), .unset, .unset] [])) t := by
                  intro t k
                  refine XS.iconst X41.here hx rfl (Jvm.hb hby at_234) ?_
                  show Steps p.tables e below (T41.setTop (mkF m 235 #[.val (.int p1), .val (.int p2), .val (.int p3), .val (.int p4), .val (.ref b2), .val (.int ((p3 &&& (7 : Int32)) % (5 : Int32))), .val (.int (f0_u5 p3)), .val (.int (f0_u6 p3)), .val (.int (f0_u7 p3)), .val (.int (p4 &&& (3 : Int32))), .val (.int (f0_u8 p1 p2 p3 p4)), .val (.int (f0_u9 p1 p2 p3 p4)), .val (.int (f0_u10 p1 p2 p3 p4)), .val (.ref b32_x1), .val (.ref b35), .val (.int (f0_u11 p1 p2 p3 p4)), .unset, .unset] [(.int (0 : Int32))])) t
                  exact k
                rw [show (f0_u12 p1 p2 p3 p4) = (0 : Int32) from (if_neg hc44).trans ((if_neg hc49).trans ((if_pos hc104).trans ((if_pos hc107).trans ((if_neg hc110).trans (if_neg hc120)))))] at k
                exact K47 _ (K48 _ (K97 _ (K102 _ (K103 _ (K105 _ (K106 _ (K108 _ (K109 _ (K113 _ (K118 _ (K119 _ (K123 _ (K124 _ (k))))))))))))))
          · have K125 : ∀ t, Steps p.tables e below (T41.setTop (mkF m 200 #[.val (.int p1), .val (.int p2), .val (.int p3), .val (.int p4), .val (.ref b2), .val (.int ((p3 &&& (7 : Int32)) % (5 : Int32))), .val (.int (f0_u5 p3)), .val (.int (f0_u6 p3)), .val (.int (f0_u7 p3)), .val (.int (p4 &&& (3 : Int32))), .val (.int (f0_u8 p1 p2 p3 p4)), .val (.int (f0_u9 p1 p2 p3 p4)), .val (.int (f0_u10 p1 p2 p3 p4)), .val (.ref b32_x1), .val (.ref b35), .val (.int (f0_u11 p1 p2 p3 p4)), .unset, .unset] [])) t → Steps p.tables e below (T41.setTop (mkF m 197 #[.val (.int p1), .val (.int p2), .val (.int p3), .val (.int p4), .val (.ref b2), .val (.int ((p3 &&& (7 : Int32)) % (5 : Int32))), .val (.int (f0_u5 p3)), .val (.int (f0_u6 p3)), .val (.int (f0_u7 p3)), .val (.int (p4 &&& (3 : Int32))), .val (.int (f0_u8 p1 p2 p3 p4)), .val (.int (f0_u9 p1 p2 p3 p4)), .val (.int (f0_u10 p1 p2 p3 p4)), .val (.ref b32_x1), .val (.ref b35), .val (.int (f0_u11 p1 p2 p3 p4)), .unset, .unset] [(.int (2 : Int32)), (.int (p4 &&& (3 : Int32)))])) t := by
              intro t k
              refine XS.icmpNo X41.here hx rfl (Jvm.hb hby at_197) rfl (flt hc107).1 ?_
              exact k
            have K130 : ∀ t, Steps p.tables e below (T41.setTop (mkF m 206 #[.val (.int p1), .val (.int p2), .val (.int p3), .val (.int p4), .val (.ref b2), .val (.int ((p3 &&& (7 : Int32)) % (5 : Int32))), .val (.int (f0_u5 p3)), .val (.int (f0_u6 p3)), .val (.int (f0_u7 p3)), .val (.int (p4 &&& (3 : Int32))), .val (.int (f0_u8 p1 p2 p3 p4)), .val (.int (f0_u9 p1 p2 p3 p4)), .val (.int (f0_u10 p1 p2 p3 p4)), .val (.ref b32_x1), .val (.ref b35), .val (.int (f0_u11 p1 p2 p3 p4)), .unset, .unset] [(.int ((f0_u6 p3) + (1 : Int32))), (.ref b2)])) t → Steps p.tables e below (T41.setTop (mkF m 200 #[.val (.int p1), .val (.int p2), .val (.int p3), .val (.int p4), .val (.ref b2), .val (.int ((p3 &&& (7 : Int32)) % (5 : Int32))), .val (.int (f0_u5 p3)), .val (.int (f0_u6 p3)), .val (.int (f0_u7 p3)), .val (.int (p4 &&& (3 : Int32))), .val (.int (f0_u8 p1 p2 p3 p4)), .val (.int (f0_u9 p1 p2 p3 p4)), .val (.int (f0_u10 p1 p2 p3 p4)), .val (.ref b32_x1), .val (.ref b35), .val (.int (f0_u11 p1 p2 p3 p4)), .unset, .unset] [])) t := by
              intro t k
              refine XS.aload X41.here hx rfl (Jvm.hb hby at_200) rfl rfl ?_
              show Steps p.tables e below (T41.setTop (mkF m 202 #[.val (.int p1), .val (.int p2), .val (.int p3), .val (.int p4), .val (.ref b2), .val (.int ((p3 &&& (7 : Int32)) % (5 : Int32))), .val (.int (f0_u5 p3)), .val (.int (f0_u6 p3)), .val (.int (f0_u7 p3)), .val (.int (p4 &&& (3 : Int32))), .val (.int (f0_u8 p1 p2 p3 p4)), .val (.int (f0_u9 p1 p2 p3 p4)), .val (.int (f0_u10 p1 p2 p3 p4)), .val (.ref b32_x1), .val (.ref b35), .val (.int (f0_u11 p1 p2 p3 p4)), .unset, .unset] [(.ref b2)])) t
              refine XS.iload X41.here hx rfl (Jvm.hb hby at_202) rfl ?_
              show Steps p.tables e below (T41.setTop (mkF m 204 #[.val (.int p1), .val (.int p2), .val (.int p3), .val (.int p4), .val (.ref b2), .val (.int ((p3 &&& (7 : Int32)) % (5 : Int32))), .val (.int (f0_u5 p3)), .val (.int (f0_u6 p3)), .val (.int (f0_u7 p3)), .val (.int (p4 &&& (3 : Int32))), .val (.int (f0_u8 p1 p2 p3 p4)), .val (.int (f0_u9 p1 p2 p3 p4)), .val (.int (f0_u10 p1 p2 p3 p4)), .val (.ref b32_x1), .val (.ref b35), .val (.int (f0_u11 p1 p2 p3 p4)), .unset, .unset] [(.int (f0_u6 p3)), (.ref b2)])) t
              refine XS.iconst X41.here hx rfl (Jvm.hb hby at_204) ?_
              show Steps p.tables e below (T41.setTop (mkF m 205 #[.val (.int p1), .val (.int p2), .val (.int p3), .val (.int p4), .val (.ref b2), .val (.int ((p3 &&& (7 : Int32)) % (5 : Int32))), .val (.int (f0_u5 p3)), .val (.int (f0_u6 p3)), .val (.int (f0_u7 p3)), .val (.int (p4 &&& (3 : Int32))), .val (.int (f0_u8 p1 p2 p3 p4)), .val (.int (f0_u9 p1 p2 p3 p4)), .val (.int (f0_u10 p1 p2 p3 p4)), .val (.ref b32_x1), .val (.ref b35), .val (.int (f0_u11 p1 p2 p3 p4)), .unset, .unset] [(.int (1 : Int32)), (.int (f0_u6 p3)), (.ref b2)])) t
              refine XS.iadd X41.here hx rfl (Jvm.hb hby at_205) rfl ?_
              show Steps p.tables e below (T41.setTop (mkF m 206 #[.val (.int p1), .val (.int p2), .val (.int p3), .val (.int p4), .val (.ref b2), .val (.int ((p3 &&& (7 : Int32)) % (5 : Int32))), .val (.int (f0_u5 p3)), .val (.int (f0_u6 p3)), .val (.int (f0_u7 p3)), .val (.int (p4 &&& (3 : Int32))), .val (.int (f0_u8 p1 p2 p3 p4)), .val (.int (f0_u9 p1 p2 p3 p4)), .val (.int (f0_u10 p1 p2 p3 p4)), .val (.ref b32_x1), .val (.ref b35), .val (.int (f0_u11 p1 p2 p3 p4)), .unset, .unset] [(.int ((f0_u6 p3) + (1 : Int32))), (.ref b2)])) t
              exact k
            have hin126 : ¬ ((f0_u6 p3) + (1 : Int32)) < 0 ∧ ((f0_u6 p3) + (1 : Int32)) < (4 : Int32) := by exact own_bd _ _ 1 2 (by decide) (by decide) (by assumption) (by assumption)
            obtain ⟨cl127, Aq128, hjhin126, aq129⟩ := Ia.at A41_2 hin126
            have K131 : ∀ t, Steps p.tables e below (T41.setTop (mkF m 209 #[.val (.int p1), .val (.int p2), .val (.int p3), .val (.int p4), .val (.ref b2), .val (.int ((p3 &&& (7 : Int32)) % (5 : Int32))), .val (.int (f0_u5 p3)), .val (.int (f0_u6 p3)), .val (.int (f0_u7 p3)), .val (.int (p4 &&& (3 : Int32))), .val (.int (f0_u8 p1 p2 p3 p4)), .val (.int (f0_u9 p1 p2 p3 p4)), .val (.int (f0_u10 p1 p2 p3 p4)), .val (.ref b32_x1), .val (.ref b35), .val (.int (f0_u11 p1 p2 p3 p4)), .unset, .unset] [(.int (f0_u9 p1 p2 p3 p4)), (.int ((f0_u4 p1) ((f0_u6 p3) + (1 : Int32))))])) t → Steps p.tables e below (T41.setTop (mkF m 206 #[.val (.int p1), .val (.int p2), .val (.int p3), .val (.int p4), .val (.ref b2), .val (.int ((p3 &&& (7 : Int32)) % (5 : Int32))), .val (.int (f0_u5 p3)), .val (.int (f0_u6 p3)), .val (.int (f0_u7 p3)), .val (.int (p4 &&& (3 : Int32))), .val (.int (f0_u8 p1 p2 p3 p4)), .val (.int (f0_u9 p1 p2 p3 p4)), .val (.int (f0_u10 p1 p2 p3 p4)), .val (.ref b32_x1), .val (.ref b35), .val (.int (f0_u11 p1 p2 p3 p4)), .unset, .unset] [(.int ((f0_u6 p3) + (1 : Int32))), (.ref b2)])) t := by
              intro t k
              refine X41.caload hx (j := ((f0_u6 p3) + (1 : Int32))) (v := .int ((f0_u4 p1) ((f0_u6 p3) + (1 : Int32)))) (by rw [e41]; exact Aq128.1) (State.isArrayOf_alike hZ.alike Aq128.2.1) Aq128.2.2 hjhin126 aq129 (g := (mkF m 206 #[.val (.int p1), .val (.int p2), .val (.int p3), .val (.int p4), .val (.ref b2), .val (.int ((p3 &&& (7 : Int32)) % (5 : Int32))), .val (.int (f0_u5 p3)), .val (.int (f0_u6 p3)), .val (.int (f0_u7 p3)), .val (.int (p4 &&& (3 : Int32))), .val (.int (f0_u8 p1 p2 p3 p4)), .val (.int (f0_u9 p1 p2 p3 p4)), .val (.int (f0_u10 p1 p2 p3 p4)), .val (.ref b32_x1), .val (.ref b35), .val (.int (f0_u11 p1 p2 p3 p4)), .unset, .unset] [(.int ((f0_u6 p3) + (1 : Int32))), (.ref b2)])) rfl rfl (Jvm.hb hby at_206) _ ?_
              show Steps p.tables e below (T41.setTop (mkF m 207 #[.val (.int p1), .val (.int p2), .val (.int p3), .val (.int p4), .val (.ref b2), .val (.int ((p3 &&& (7 : Int32)) % (5 : Int32))), .val (.int (f0_u5 p3)), .val (.int (f0_u6 p3)), .val (.int (f0_u7 p3)), .val (.int (p4 &&& (3 : Int32))), .val (.int (f0_u8 p1 p2 p3 p4)), .val (.int (f0_u9 p1 p2 p3 p4)), .val (.int (f0_u10 p1 p2 p3 p4)), .val (.ref b32_x1), .val (.ref b35), .val (.int (f0_u11 p1 p2 p3 p4)), .unset, .unset] [(.int ((f0_u4 p1) ((f0_u6 p3) + (1 : Int32))))])) t
              refine XS.iload X41.here hx rfl (Jvm.hb hby at_207) rfl ?_
              show Steps p.tables e below (T41.setTop (mkF m 209 #[.val (.int p1), .val (.int p2), .val (.int p3), .val (.int p4), .val (.ref b2), .val (.int ((p3 &&& (7 : Int32)) % (5 : Int32))), .val (.int (f0_u5 p3)), .val (.int (f0_u6 p3)), .val (.int (f0_u7 p3)), .val (.int (p4 &&& (3 : Int32))), .val (.int (f0_u8 p1 p2 p3 p4)), .val (.int (f0_u9 p1 p2 p3 p4)), .val (.int (f0_u10 p1 p2 p3 p4)), .val (.ref b32_x1), .val (.ref b35), .val (.int (f0_u11 p1 p2 p3 p4)), .unset, .unset] [(.int (f0_u9 p1 p2 p3 p4)), (.int ((f0_u4 p1) ((f0_u6 p3) + (1 : Int32))))])) t
              exact k
            by_cases hc132 : ((f0_u4 p1) ((f0_u6 p3) + (1 : Int32))) = (f0_u9 p1 p2 p3 p4)
            · have K133 : ∀ t, Steps p.tables e below (T41.setTop (mkF m 212 #[.val (.int p1), .val (.int p2), .val (.int p3), .val (.int p4), .val (.ref b2), .val (.int ((p3 &&& (7 : Int32)) % (5 : Int32))), .val (.int (f0_u5 p3)), .val (.int (f0_u6 p3)), .val (.int (f0_u7 p3)), .val (.int (p4 &&& (3 : Int32))), .val (.int (f0_u8 p1 p2 p3 p4)), .val (.int (f0_u9 p1 p2 p3 p4)), .val (.int (f0_u10 p1 p2 p3 p4)), .val (.ref b32_x1), .val (.ref b35), .val (.int (f0_u11 p1 p2 p3 p4)), .unset, .unset] [])) t → Steps p.tables e below (T41.setTop (mkF m 209 #[.val (.int p1), .val (.int p2), .val (.int p3), .val (.int p4), .val (.ref b2), .val (.int ((p3 &&& (7 : Int32)) % (5 : Int32))), .val (.int (f0_u5 p3)), .val (.int (f0_u6 p3)), .val (.int (f0_u7 p3)), .val (.int (p4 &&& (3 : Int32))), .val (.int (f0_u8 p1 p2 p3 p4)), .val (.int (f0_u9 p1 p2 p3 p4)), .val (.int (f0_u10 p1 p2 p3 p4)), .val (.ref b32_x1), .val (.ref b35), .val (.int (f0_u11 p1 p2 p3 p4)), .unset, .unset] [(.int (f0_u9 p1 p2 p3 p4)), (.int ((f0_u4 p1) ((f0_u6 p3) + (1 : Int32))))])) t := by
                intro t k
                refine XS.icmpNo X41.here hx rfl (Jvm.hb hby at_209) rfl (teq hc132).2 ?_
                exact k
              have K134 : ∀ t, Steps p.tables e below (T41.setTop (mkF m 215 #[.val (.int p1), .val (.int p2), .val (.int p3), .val (.int p4), .val (.ref b2), .val (.int ((p3 &&& (7 : Int32)) % (5 : Int32))), .val (.int (f0_u5 p3)), .val (.int (f0_u6 p3)), .val (.int (f0_u7 p3)), .val (.int (p4 &&& (3 : Int32))), .val (.int (f0_u8 p1 p2 p3 p4)), .val (.int (f0_u9 p1 p2 p3 p4)), .val (.int (f0_u10 p1 p2 p3 p4)), .val (.ref b32_x1), .val (.ref b35), .val (.int (f0_u11 p1 p2 p3 p4)), .unset, .unset] [(.int (3 : Int32)), (.int (p4 &&& (3 : Int32)))])) t → Steps p.tables e below (T41.setTop (mkF m 212 #[.val (.int p1), .val (.int p2), .val (.int p3), .val (.int p4), .val (.ref b2), .val (.int ((p3 &&& (7 : Int32)) % (5 : Int32))), .val (.int (f0_u5 p3)), .val (.int (f0_u6 p3)), .val (.int (f0_u7 p3)), .val (.int (p4 &&& (3 : Int32))), .val (.int (f0_u8 p1 p2 p3 p4)), .val (.int (f0_u9 p1 p2 p3 p4)), .val (.int (f0_u10 p1 p2 p3 p4)), .val (.ref b32_x1), .val (.ref b35), .val (.int (f0_u11 p1 p2 p3 p4)), .unset, .unset] [])) t := by
                intro t k
                refine XS.iload X41.here hx rfl (Jvm.hb hby at_212) rfl ?_
                show Steps p.tables e below (T41.setTop (mkF m 214 #[.val (.int p1), .val (.int p2), .val (.int p3), .val (.int p4), .val (.ref b2), .val (.int ((p3 &&& (7 : Int32)) % (5 : Int32))), .val (.int (f0_u5 p3)), .val (.int (f0_u6 p3)), .val (.int (f0_u7 p3)), .val (.int (p4 &&& (3 : Int32))), .val (.int (f0_u8 p1 p2 p3 p4)), .val (.int (f0_u9 p1 p2 p3 p4)), .val (.int (f0_u10 p1 p2 p3 p4)), .val (.ref b32_x1), .val (.ref b35), .val (.int (f0_u11 p1 p2 p3 p4)), .unset, .unset] [(.int (p4 &&& (3 : Int32)))])) t
                refine XS.iconst X41.here hx rfl (Jvm.hb hby at_214) ?_
                show Steps p.tables e below (T41.setTop (mkF m 215 #[.val (.int p1), .val (.int p2), .val (.int p3), .val (.int p4), .val (.ref b2), .val (.int ((p3 &&& (7 : Int32)) % (5 : Int32))), .val (.int (f0_u5 p3)), .val (.int (f0_u6 p3)), .val (.int (f0_u7 p3)), .val (.int (p4 &&& (3 : Int32))), .val (.int (f0_u8 p1 p2 p3 p4)), .val (.int (f0_u9 p1 p2 p3 p4)), .val (.int (f0_u10 p1 p2 p3 p4)), .val (.ref b32_x1), .val (.ref b35), .val (.int (f0_u11 p1 p2 p3 p4)), .unset, .unset] [(.int (3 : Int32)), (.int (p4 &&& (3 : Int32)))])) t
                exact k
              by_cases hc135 : (p4 &&& (3 : Int32)) < (3 : Int32)
              · have K136 : ∀ t, Steps p.tables e below (T41.setTop (mkF m 230 #[.val (.int p1), .val (.int p2), .val (.int p3), .val (.int p4), .val (.ref b2), .val (.int ((p3 &&& (7 : Int32)) % (5 : Int32))), .val (.int (f0_u5 p3)), .val (.int (f0_u6 p3)), .val (.int (f0_u7 p3)), .val (.int (p4 &&& (3 : Int32))), .val (.int (f0_u8 p1 p2 p3 p4)), .val (.int (f0_u9 p1 p2 p3 p4)), .val (.int (f0_u10 p1 p2 p3 p4)), .val (.ref b32_x1), .val (.ref b35), .val (.int (f0_u11 p1 p2 p3 p4)), .unset, .unset] [])) t → Steps p.tables e below (T41.setTop (mkF m 215 #[.val (.int p1), .val (.int p2), .val (.int p3), .val (.int p4), .val (.ref b2), .val (.int ((p3 &&& (7 : Int32)) % (5 : Int32))), .val (.int (f0_u5 p3)), .val (.int (f0_u6 p3)), .val (.int (f0_u7 p3)), .val (.int (p4 &&& (3 : Int32))), .val (.int (f0_u8 p1 p2 p3 p4)), .val (.int (f0_u9 p1 p2 p3 p4)), .val (.int (f0_u10 p1 p2 p3 p4)), .val (.ref b32_x1), .val (.ref b35), .val (.int (f0_u11 p1 p2 p3 p4)), .unset, .unset] [(.int (3 : Int32)), (.int (p4 &&& (3 : Int32)))])) t := by
                  intro t k
                  refine XS.icmpYes X41.here hx rfl (pc0 := 215) (pc' := 230) rfl (Jvm.hb hby at_215) rfl (tlt hc135).1 (by decide) (by decide) ?_
                  exact k
                have K137 : ∀ t, Steps p.tables e below (T41.setTop (mkF m 235 #[.val (.int p1), .val (.int p2), .val (.int p3), .val (.int p4), .val (.ref b2), .val (.int ((p3 &&& (7 : Int32)) % (5 : Int32))), .val (.int (f0_u5 p3)), .val (.int (f0_u6 p3)), .val (.int (f0_u7 p3)), .val (.int (p4 &&& (3 : Int32))), .val (.int (f0_u8 p1 p2 p3 p4)), .val (.int (f0_u9 p1 p2 p3 p4)), .val (.int (f0_u10 p1 p2 p3 p4)), .val (.ref b32_x1), .val (.ref b35), .val (.int (f0_u11 p1 p2 p3 p4)), .unset, .unset] [(.int (1 : Int32))])) t → Steps p.tables e below (T41.setTop (mkF m 230 #[.val (.int p1), .val (.int p2), .val (.int p3), .val (.int p4), .val (.ref b2), .val (.int ((p3 &&& (7 : Int32)) % (5 : Int32))), .val (.int (f0_u5 p3)), .val (.int (f0_u6 p3)), .val (.int (f0_u7 p3)), .val (.int (p4 &&& (3 : Int32))), .val (.int (f0_u8 p1 p2 p3 p4)), .val (.int (f0_u9 p1 p2 p3 p4)), .val (.int (f0_u10 p1 p2 p3 p4)), .val (.ref b32_x1), .val (.ref b35), .val (.int (f0_u11 p1 p2 p3 p4)), .unset, .unset] [])) t := by
                  intro t k
                  refine XS.iconst X41.here hx rfl (Jvm.hb hby at_230) ?_
                  show Steps p.tables e below (T41.setTop (mkF m 231 #[.val (.int p1), .val (.int p2), .val (.int p3), .val (.int p4), .val (.ref b2), .val (.int ((p3 &&& (7 : Int32)) % (5 : Int32))), .val (.int (f0_u5 p3)), .val (.int (f0_u6 p3)), .val (.int (f0_u7 p3)), .val (.int (p4 &&& (3 : Int32))), .val (.int (f0_u8 p1 p2 p3 p4)), .val (.int (f0_u9 p1 p2 p3 p4)), .val (.int (f0_u10 p1 p2 p3 p4)), .val (.ref b32_x1), .val (.ref b35), .val (.int (f0_u11 p1 p2 p3 p4)), .unset, .unset] [(.int (1 : Int32))])) t
                  refine XS.goto X41.here hx rfl (pc0 := 231) (pc' := 235) rfl (Jvm.hb hby at_231) (by decide) (by decide) ?_
                  show Steps p.tables e below (T41.setTop (mkF m 235 #[.val (.int p1), .val (.int p2), .val (.int p3), .val (.int p4), .val (.ref b2), .val (.int ((p3 &&& (7 : Int32)) % (5 : Int32))), .val (.int (f0_u5 p3)), .val (.int (f0_u6 p3)), .val (.int (f0_u7 p3)), .val (.int (p4 &&& (3 : Int32))), .val (.int (f0_u8 p1 p2 p3 p4)), .val (.int (f0_u9 p1 p2 p3 p4)), .val (.int (f0_u10 p1 p2 p3 p4)), .val (.ref b32_x1), .val (.ref b35), .val (.int (f0_u11 p1 p2 p3 p4)), .unset, .unset] [(.int (1 : Int32))])) t
                  exact k
                rw [show (f0_u12 p1 p2 p3 p4) = (1 : Int32) from (if_neg hc44).trans ((if_neg hc49).trans ((if_pos hc104).trans ((if_neg hc107).trans ((if_pos hc132).trans (if_pos hc135)))))] at k
                exact K47 _ (K48 _ (K97 _ (K102 _ (K103 _ (K105 _ (K106 _ (K125 _ (K130 _ (K131 _ (K133 _ (K134 _ (K136 _ (K137 _ (k))))))))))))))
              · have K138 : ∀ t, Steps p.tables e below (T41.setTop (mkF m 218 #[.val (.int p1), .val (.int p2), .val (.int p3), .val (.int p4), .val (.ref b2), .val (.int ((p3 &&& (7 : Int32)) % (5 : Int32))), .val (.int (f0_u5 p3)), .val (.int (f0_u6 p3)), .val (.int (f0_u7 p3)), .val (.int (p4 &&& (3 : Int32))), .val (.int (f0_u8 p1 p2 p3 p4)), .val (.int (f0_u9 p1 p2 p3 p4)), .val (.int (f0_u10 p1 p2 p3 p4)), .val (.ref b32_x1), .val (.ref b35), .val (.int (f0_u11 p1 p2 p3 p4)), .unset, .unset] [])) t → Steps p.tables e below (T41.setTop (mkF m 215 #[.val (.int p1), .val (.int p2), .val (.int p3), .val (.int p4), .val (.ref b2), .val (.int ((p3 &&& (7 : Int32)) % (5 : Int32))), .val (.int (f0_u5 p3)), .val (.int (f0_u6 p3)), .val (.int (f0_u7 p3)), .val (.int (p4 &&& (3 : Int32))), .val (.int (f0_u8 p1 p2 p3 p4)), .val (.int (f0_u9 p1 p2 p3 p4)), .val (.int (f0_u10 p1 p2 p3 p4)), .val (.ref b32_x1), .val (.ref b35), .val (.int (f0_u11 p1 p2 p3 p4)), .unset, .unset] [(.int (3 : Int32)), (.int (p4 &&& (3 : Int32)))])) t := by
                  intro t k
                  refine XS.icmpNo X41.here hx rfl (Jvm.hb hby at_215) rfl (flt hc135).1 ?_
                  exact k
                have K143 : ∀ t, Steps p.tables e below (T41.setTop (mkF m 224 #[.val (.int p1), .val (.int p2), .val (.int p3), .val (.int p4), .val (.ref b2), .val (.int ((p3 &&& (7 : Int32)) % (5 : Int32))), .val (.int (f0_u5 p3)), .val (.int (f0_u6 p3)), .val (.int (f0_u7 p3)), .val (.int (p4 &&& (3 : Int32))), .val (.int (f0_u8 p1 p2 p3 p4)), .val (.int (f0_u9 p1 p2 p3 p4)), .val (.int (f0_u10 p1 p2 p3 p4)), .val (.ref b32_x1), .val (.ref b35), .val (.int (f0_u11 p1 p2 p3 p4)), .unset, .unset] [(.int ((f0_u6 p3) + (2 : Int32))), (.ref b2)])) t → Steps p.tables e below (T41.setTop (mkF m 218 #[.val (.int p1), .val (.int p2), .val (.int p3), .val (.int p4), .val (.ref b2), .val (.int ((p3 &&& (7 : Int32)) % (5 : Int32))), .val (.int (f0_u5 p3)), .val (.int (f0_u6 p3)), .val (.int (f0_u7 p3)), .val (.int (p4 &&& (3 : Int32))), .val (.int (f0_u8 p1 p2 p3 p4)), .val (.int (f0_u9 p1 p2 p3 p4)), .val (.int (f0_u10 p1 p2 p3 p4)), .val (.ref b32_x1), .val (.ref b35), .val (.int (f0_u11 p1 p2 p3 p4)), .unset, .unset] [])) t := by
                  intro t k
                  refine XS.aload X41.here hx rfl (Jvm.hb hby at_218) rfl rfl ?_
                  show Steps p.tables e below (T41.setTop (mkF m 220 #[.val (.int p1), .val (.int p2), .val (.int p3), .val (.int p4), .val (.ref b2), .val (.int ((p3 &&& (7 : Int32)) % (5 : Int32))), .val (.int (f0_u5 p3)), .val (.int (f0_u6 p3)), .val (.int (f0_u7 p3)), .val (.int (p4 &&& (3 : Int32))), .val (.int (f0_u8 p1 p2 p3 p4)), .val (.int (f0_u9 p1 p2 p3 p4)), .val (.int (f0_u10 p1 p2 p3 p4)), .val (.ref b32_x1), .val (.ref b35), .val (.int (f0_u11 p1 p2 p3 p4)), .unset, .unset] [(.ref b2)])) t
                  refine XS.iload X41.here hx rfl (Jvm.hb hby at_220) rfl ?_
                  show Steps p.tables e below (T41.setTop (mkF m 222 #[.val (.int p1), .val (.int p2), .val (.int p3), .val (.int p4), .val (.ref b2), .val (.int ((p3 &&& (7 : Int32)) % (5 : Int32))), .val (.int (f0_u5 p3)), .val (.int (f0_u6 p3)), .val (.int (f0_u7 p3)), .val (.int (p4 &&& (3 : Int32))), .val (.int (f0_u8 p1 p2 p3 p4)), .val (.int (f0_u9 p1 p2 p3 p4)), .val (.int (f0_u10 p1 p2 p3 p4)), .val (.ref b32_x1), .val (.ref b35), .val (.int (f0_u11 p1 p2 p3 p4)), .unset, .unset] [(.int (f0_u6 p3)), (.ref b2)])) t
                  refine XS.iconst X41.here hx rfl (Jvm.hb hby at_222) ?_
                  show Steps p.tables e below (T41.setTop (mkF m 223 #[.val (.int p1), .val (.int p2), .val (.int p3), .val (.int p4), .val (.ref b2), .val (.int ((p3 &&& (7 : Int32)) % (5 : Int32))), .val (.int (f0_u5 p3)), .val (.int (f0_u6 p3)), .val (.int (f0_u7 p3)), .val (.int (p4 &&& (3 : Int32))), .val (.int (f0_u8 p1 p2 p3 p4)), .val (.int (f0_u9 p1 p2 p3 p4)), .val (.int (f0_u10 p1 p2 p3 p4)), .val (.ref b32_x1), .val (.ref b35), .val (.int (f0_u11 p1 p2 p3 p4)), .unset, .unset] [(.int (2 : Int32)), (.int (f0_u6 p3)), (.ref b2)])) t
                  refine XS.iadd X41.here hx rfl (Jvm.hb hby at_223) rfl ?_
                  show Steps p.tables e below (T41.setTop (mkF m 224 #[.val (.int p1), .val (.int p2), .val (.int p3), .val (.int p4), .val (.ref b2), .val (.int ((p3 &&& (7 : Int32)) % (5 : Int32))), .val (.int (f0_u5 p3)), .val (.int (f0_u6 p3)), .val (.int (f0_u7 p3)), .val (.int (p4 &&& (3 : Int32))), .val (.int (f0_u8 p1 p2 p3 p4)), .val (.int (f0_u9 p1 p2 p3 p4)), .val (.int (f0_u10 p1 p2 p3 p4)), .val (.ref b32_x1), .val (.ref b35), .val (.int (f0_u11 p1 p2 p3 p4)), .unset, .unset] [(.int ((f0_u6 p3) + (2 : Int32))), (.ref b2)])) t
                  exact k
                have hin139 : ¬ ((f0_u6 p3) + (2 : Int32)) < 0 ∧ ((f0_u6 p3) + (2 : Int32)) < (4 : Int32) := by exact own_bd _ _ 2 3 (by decide) (by decide) (by assumption) (by assumption)
                obtain ⟨cl140, Aq141, hjhin139, aq142⟩ := Ia.at A41_2 hin139
                have K144 : ∀ t, Steps p.tables e below (T41.setTop (mkF m 227 #[.val (.int p1), .val (.int p2), .val (.int p3), .val (.int p4), .val (.ref b2), .val (.int ((p3 &&& (7 : Int32)) % (5 : Int32))), .val (.int (f0_u5 p3)), .val (.int (f0_u6 p3)), .val (.int (f0_u7 p3)), .val (.int (p4 &&& (3 : Int32))), .val (.int (f0_u8 p1 p2 p3 p4)), .val (.int (f0_u9 p1 p2 p3 p4)), .val (.int (f0_u10 p1 p2 p3 p4)), .val (.ref b32_x1), .val (.ref b35), .val (.int (f0_u11 p1 p2 p3 p4)), .unset, .unset] [(.int (f0_u10 p1 p2 p3 p4)), (.int ((f0_u4 p1) ((f0_u6 p3) + (2 : Int32))))])) t → Steps p.tables e below (T41.setTop (mkF m 224 #[.val (.int p1), .val (.int p2), .val (.int p3), .val (.int p4), .val (.ref b2), .val (.int ((p3 &&& (7 : Int32)) % (5 : Int32))), .val (.int (f0_u5 p3)), .val (.int (f0_u6 p3)), .val (.int (f0_u7 p3)), .val (.int (p4 &&& (3 : Int32))), .val (.int (f0_u8 p1 p2 p3 p4)), .val (.int (f0_u9 p1 p2 p3 p4)), .val (.int (f0_u10 p1 p2 p3 p4)), .val (.ref b32_x1), .val (.ref b35), .val (.int (f0_u11 p1 p2 p3 p4)), .unset, .unset] [(.int ((f0_u6 p3) + (2 : Int32))), (.ref b2)])) t := by
                  intro t k
                  refine X41.caload hx (j := ((f0_u6 p3) + (2 : Int32))) (v := .int ((f0_u4 p1) ((f0_u6 p3) + (2 : Int32)))) (by rw [e41]; exact Aq141.1) (State.isArrayOf_alike hZ.alike Aq141.2.1) Aq141.2.2 hjhin139 aq142 (g := (mkF m 224 #[.val (.int p1), .val (.int p2), .val (.int p3), .val (.int p4), .val (.ref b2), .val (.int ((p3 &&& (7 : Int32)) % (5 : Int32))), .val (.int (f0_u5 p3)), .val (.int (f0_u6 p3)), .val (.int (f0_u7 p3)), .val (.int (p4 &&& (3 : Int32))), .val (.int (f0_u8 p1 p2 p3 p4)), .val (.int (f0_u9 p1 p2 p3 p4)), .val (.int (f0_u10 p1 p2 p3 p4)), .val (.ref b32_x1), .val (.ref b35), .val (.int (f0_u11 p1 p2 p3 p4)), .unset, .unset] [(.int ((f0_u6 p3) + (2 : Int32))), (.ref b2)])) rfl rfl (Jvm.hb hby at_224) _ ?_
                  show Steps p.tables e below (T41.setTop (mkF m 225 #[.val (.int p1), .val (.int p2), .val (.int p3), .val (.int p4), .val (.ref b2), .val (.int ((p3 &&& (7 : Int32)) % (5 : Int32))), .val (.int (f0_u5 p3)), .val (.int (f0_u6 p3)), .val (.int (f0_u7 p3)), .val (.int (p4 &&& (3 : Int32))), .val (.int (f0_u8 p1 p2 p3 p4)), .val (.int (f0_u9 p1 p2 p3 p4)), .val (.int (f0_u10 p1 p2 p3 p4)), .val (.ref b32_x1), .val (.ref b35), .val (.int (f0_u11 p1 p2 p3 p4)), .unset, .unset] [(.int ((f0_u4 p1) ((f0_u6 p3) + (2 : Int32))))])) t
                  refine XS.iload X41.here hx rfl (Jvm.hb hby at_225) rfl ?_
                  show Steps p.tables e below (T41.setTop (mkF m 227 #[.val (.int p1), .val (.int p2), .val (.int p3), .val (.int p4), .val (.ref b2), .val (.int ((p3 &&& (7 : Int32)) % (5 : Int32))), .val (.int (f0_u5 p3)), .val (.int (f0_u6 p3)), .val (.int (f0_u7 p3)), .val (.int (p4 &&& (3 : Int32))), .val (.int (f0_u8 p1 p2 p3 p4)), .val (.int (f0_u9 p1 p2 p3 p4)), .val (.int (f0_u10 p1 p2 p3 p4)), .val (.ref b32_x1), .val (.ref b35), .val (.int (f0_u11 p1 p2 p3 p4)), .unset, .unset] [(.int (f0_u10 p1 p2 p3 p4)), (.int ((f0_u4 p1) ((f0_u6 p3) + (2 : Int32))))])) t
                  exact k
                by_cases hc145 : ((f0_u4 p1) ((f0_u6 p3) + (2 : Int32))) = (f0_u10 p1 p2 p3 p4)
                · have K146 : ∀ t, Steps p.tables e below (T41.setTop (mkF m 230 #[.val (.int p1), .val (.int p2), .val (.int p3), .val (.int p4), .val (.ref b2), .val (.int ((p3 &&& (7 : Int32)) % (5 : Int32))), .val (.int (f0_u5 p3)), .val (.int (f0_u6 p3)), .val (.int (f0_u7 p3)), .val (.int (p4 &&& (3 : Int32))), .val (.int (f0_u8 p1 p2 p3 p4)), .val (.int (f0_u9 p1 p2 p3 p4)), .val (.int (f0_u10 p1 p2 p3 p4)), .val (.ref b32_x1), .val (.ref b35), .val (.int (f0_u11 p1 p2 p3 p4)), .unset, .unset] [])) t → Steps p.tables e below (T41.setTop (mkF m 227 #[.val (.int p1), .val (.int p2), .val (.int p3), .val (.int p4), .val (.ref b2), .val (.int ((p3 &&& (7 : Int32)) % (5 : Int32))), .val (.int (f0_u5 p3)), .val (.int (f0_u6 p3)), .val (.int (f0_u7 p3)), .val (.int (p4 &&& (3 : Int32))), .val (.int (f0_u8 p1 p2 p3 p4)), .val (.int (f0_u9 p1 p2 p3 p4)), .val (.int (f0_u10 p1 p2 p3 p4)), .val (.ref b32_x1), .val (.ref b35), .val (.int (f0_u11 p1 p2 p3 p4)), .unset, .unset] [(.int (f0_u10 p1 p2 p3 p4)), (.int ((f0_u4 p1) ((f0_u6 p3) + (2 : Int32))))])) t := by
                    intro t k
                    refine XS.icmpNo X41.here hx rfl (Jvm.hb hby at_227) rfl (teq hc145).2 ?_
                    exact k
                  have K147 : ∀ t, Steps p.tables e below (T41.setTop (mkF m 235 #[.val (.int p1), .val (.int p2), .val (.int p3), .val (.int p4), .val (.ref b2), .val (.int ((p3 &&& (7 : Int32)) % (5 : Int32))), .val (.int (f0_u5 p3)), .val (.int (f0_u6 p3)), .val (.int (f0_u7 p3)), .val (.int (p4 &&& (3 : Int32))), .val (.int (f0_u8 p1 p2 p3 p4)), .val (.int (f0_u9 p1 p2 p3 p4)), .val (.int (f0_u10 p1 p2 p3 p4)), .val (.ref b32_x1), .val (.ref b35), .val (.int (f0_u11 p1 p2 p3 p4)), .unset, .unset] [(.int (1 : Int32))])) t → Steps p.tables e below (T41.setTop (mkF m 230 #[.val (.int p1), .val (.int p2), .val (.int p3), .val (.int p4), .val (.ref b2), .val (.int ((p3 &&& (7 : Int32)) % (5 : Int32))), .val (.int (f0_u5 p3)), .val (.int (f0_u6 p3)), .val (.int (f0_u7 p3)), .val (.int (p4 &&& (3 : Int32))), .val (.int (f0_u8 p1 p2 p3 p4)), .val (.int (f0_u9 p1 p2 p3 p4)), .val (.int (f0_u10 p1 p2 p3 p4)), .val (.ref b32_x1), .val (.ref b35), .val (.int (f0_u11 p1 p2 p3 p4)), .unset, .unset] [])) t := by
                    intro t k
                    refine XS.iconst X41.here hx rfl (Jvm.hb hby at_230) ?_
                    show Steps p.tables e below (T41.setTop (mkF m 231 #[.val (.int p1), .val (.int p2), .val (.int p3), .val (.int p4), .val (.ref b2), .val (.int ((p3 &&& (7 : Int32)) % (5 : Int32))), .val (.int (f0_u5 p3)), .val (.int (f0_u6 p3)), .val (.int (f0_u7 p3)), .val (.int (p4 &&& (3 : Int32))), .val (.int (f0_u8 p1 p2 p3 p4)), .val (.int (f0_u9 p1 p2 p3 p4)), .val (.int (f0_u10 p1 p2 p3 p4)), .val (.ref b32_x1), .val (.ref b35), .val (.int (f0_u11 p1 p2 p3 p4)), .unset, .unset] [(.int (1 : Int32))])) t
                    refine XS.goto X41.here hx rfl (pc0 := 231) (pc' := 235) rfl (Jvm.hb hby at_231) (by decide) (by decide) ?_
                    show Steps p.tables e below (T41.setTop (mkF m 235 #[.val (.int p1), .val (.int p2), .val (.int p3), .val (.int p4), .val (.ref b2), .val (.int ((p3 &&& (7 : Int32)) % (5 : Int32))), .val (.int (f0_u5 p3)), .val (.int (f0_u6 p3)), .val (.int (f0_u7 p3)), .val (.int (p4 &&& (3 : Int32))), .val (.int (f0_u8 p1 p2 p3 p4)), .val (.int (f0_u9 p1 p2 p3 p4)), .val (.int (f0_u10 p1 p2 p3 p4)), .val (.ref b32_x1), .val (.ref b35), .val (.int (f0_u11 p1 p2 p3 p4)), .unset, .unset] [(.int (1 : Int32))])) t
                    exact k
                  rw [show (f0_u12 p1 p2 p3 p4) = (1 : Int32) from (if_neg hc44).trans ((if_neg hc49).trans ((if_pos hc104).trans ((if_neg hc107).trans ((if_pos hc132).trans ((if_neg hc135).trans (if_pos hc145))))))] at k
                  exact K47 _ (K48 _ (K97 _ (K102 _ (K103 _ (K105 _ (K106 _ (K125 _ (K130 _ (K131 _ (K133 _ (K134 _ (K138 _ (K143 _ (K144 _ (K146 _ (K147 _ (k)))))))))))))))))
                · have K148 : ∀ t, Steps p.tables e below (T41.setTop (mkF m 234 #[.val (.int p1), .val (.int p2), .val (.int p3), .val (.int p4), .val (.ref b2), .val (.int ((p3 &&& (7 : Int32)) % (5 : Int32))), .val (.int (f0_u5 p3)), .val (.int (f0_u6 p3)), .val (.int (f0_u7 p3)), .val (.int (p4 &&& (3 : Int32))), .val (.int (f0_u8 p1 p2 p3 p4)), .val (.int (f0_u9 p1 p2 p3 p4)), .val (.int (f0_u10 p1 p2 p3 p4)), .val (.ref b32_x1), .val (.ref b35), .val (.int (f0_u11 p1 p2 p3 p4)), .unset, .unset] [])) t → Steps p.tables e below (T41.setTop (mkF m 227 #[.val (.int p1), .val (.int p2), .val (.int p3), .val (.int p4), .val (.ref b2), .val (.int ((p3 &&& (7 : Int32)) % (5 : Int32))), .val (.int (f0_u5 p3)), .val (.int (f0_u6 p3)), .val (.int (f0_u7 p3)), .val (.int (p4 &&& (3 : Int32))), .val (.int (f0_u8 p1 p2 p3 p4)), .val (.int (f0_u9 p1 p2 p3 p4)), .val (.int (f0_u10 p1 p2 p3 p4)), .val (.ref b32_x1), .val (.ref b35), .val (.int (f0_u11 p1 p2 p3 p4)), .unset, .unset] [(.int (f0_u10 p1 p2 p3 p4)), (.int ((f0_u4 p1) ((f0_u6 p3) + (2 : Int32))))])) t := by
                    intro t k
                    refine XS.icmpYes X41.here hx rfl (pc0 := 227) (pc' := 234) rfl (Jvm.hb hby at_227) rfl (feq hc145).2 (by decide) (by decide) ?_
                    exact k
                  have K149 : ∀ t, Steps p.tables e below (T41.setTop (mkF m 235 #[.val (.int p1), .val (.int p2), .val (.int p3), .val (.int p4), .val (.ref b2), .val (.int ((p3 &&& (7 : Int32)) % (5 : Int32))), .val (.int (f0_u5 p3)), .val (.int (f0_u6 p3)), .val (.int (f0_u7 p3)), .val (.int (p4 &&& (3 : Int32))), .val (.int (f0_u8 p1 p2 p3 p4)), .val (.int (f0_u9 p1 p2 p3 p4)), .val (.int (f0_u10 p1 p2 p3 p4)), .val (.ref b32_x1), .val (.ref b35), .val (.int (f0_u11 p1 p2 p3 p4)), .unset, .unset] [(.int (0 : Int32))])) t → Steps p.tables e below (T41.setTop (mkF m 234 #[.val (.int p1), .val (.int p2), .val (.int p3), .val (.int p4), .val (.ref b2), .val (.int ((p3 &&& (7 : Int32)) % (5 : Int32))), .val (.int (f0_u5 p3)), .val (.int (f0_u6 p3)), .val (.int (f0_u7 p3)), .val (.int (p4 &&& (3 : Int32))), .val (.int (f0_u8 p1 p2 p3 p4)), .val (.int (f0_u9 p1 p2 p3 p4)), .val (.int (f0_u10 p1 p2 p3 p4)), .val (.ref b32_x1), .val (.ref b35), .val (.int (f0_u11 p1 p2 p3 p4)), .unset, .unset] [])) t := by
                    intro t k
                    refine XS.iconst X41.here hx rfl (Jvm.hb hby at_234) ?_
                    show Steps p.tables e below (T41.setTop (mkF m 235 #[.val (.int p1), .val (.int p2), .val (.int p3), .val (.int p4), .val (.ref b2), .val (.int ((p3 &&& (7 : Int32)) % (5 : Int32))), .val (.int (f0_u5 p3)), .val (.int (f0_u6 p3)), .val (.int (f0_u7 p3)), .val (.int (p4 &&& (3 : Int32))), .val (.int (f0_u8 p1 p2 p3 p4)), .val (.int (f0_u9 p1 p2 p3 p4)), .val (.int (f0_u10 p1 p2 p3 p4)), .val (.ref b32_x1), .val (.ref b35), .val (.int (f0_u11 p1 p2 p3 p4)), .unset, .unset] [(.int (0 : Int32))])) t
                    exact k
                  rw [show (f0_u12 p1 p2 p3 p4) = (0 : Int32) from (if_neg hc44).trans ((if_neg hc49).trans ((if_pos hc104).trans ((if_neg hc107).trans ((if_pos hc132).trans ((if_neg hc135).trans (if_neg hc145))))))] at k
                  exact K47 _ (K48 _ (K97 _ (K102 _ (K103 _ (K105 _ (K106 _ (K125 _ (K130 _ (K131 _ (K133 _ (K134 _ (K138 _ (K143 _ (K144 _ (K148 _ (K149 _ (k)))))))))))))))))
            · have K150 : ∀ t, Steps p.tables e below (T41.setTop (mkF m 234 #[.val (.int p1), .val (.int p2), .val (.int p3), .val (.int p4), .val (.ref b2), .val (.int ((p3 &&& (7 : Int32)) % (5 : Int32))), .val (.int (f0_u5 p3)), .val (.int (f0_u6 p3)), .val (.int (f0_u7 p3)), .val (.int (p4 &&& (3 : Int32))), .val (.int (f0_u8 p1 p2 p3 p4)), .val (.int (f0_u9 p1 p2 p3 p4)), .val (.int (f0_u10 p1 p2 p3 p4)), .val (.ref b32_x1), .val (.ref b35), .val (.int (f0_u11 p1 p2 p3 p4)), .unset, .unset] [])) t → Steps p.tables e below (T41.setTop (mkF m 209 #[.val (.int p1), .val (.int p2), .val (.int p3), .val (.int p4), .val (.ref b2), .val (.int ((p3 &&& (7 : Int32)) % (5 : Int32))), .val (.int (f0_u5 p3)), .val (.int (f0_u6 p3)), .val (.int (f0_u7 p3)), .val (.int (p4 &&& (3 : Int32))), .val (.int (f0_u8 p1 p2 p3 p4)), .val (.int (f0_u9 p1 p2 p3 p4)), .val (.int (f0_u10 p1 p2 p3 p4)), .val (.ref b32_x1), .val (.ref b35), .val (.int (f0_u11 p1 p2 p3 p4)), .unset, .unset] [(.int (f0_u9 p1 p2 p3 p4)), (.int ((f0_u4 p1) ((f0_u6 p3) + (1 : Int32))))])) t := by
                intro t k
                refine XS.icmpYes X41.here hx rfl (pc0 := 209) (pc' := 234) rfl (Jvm.hb hby at_209) rfl (feq hc132).2 (by decide) (by decide) ?_
                exact k
              have K151 : ∀ t, Steps p.tables e below (T41.setTop (mkF m 235 #[.val (.int p1), .val (.int p2), .val (.int p3), .val (.int p4), .val (.ref b2), .val (.int ((p3 &&& (7 : Int32)) % (5 : Int32))), .val (.int (f0_u5 p3)), .val (.int (f0_u6 p3)), .val (.int (f0_u7 p3)), .val (.int (p4 &&& (3 : Int32))), .val (.int (f0_u8 p1 p2 p3 p4)), .val (.int (f0_u9 p1 p2 p3 p4)), .val (.int (f0_u10 p1 p2 p3 p4)), .val (.ref b32_x1), .val (.ref b35), .val (.int (f0_u11 p1 p2 p3 p4)), .unset, .unset] [(.int (0 : Int32))])) t → Steps p.tables e below (T41.setTop (mkF m 234 #[.val (.int p1), .val (.int p2), .val (.int p3), .val (.int p4), .val (.ref b2), .val (.int ((p3 &&& (7 : Int32)) % (5 : Int32))), .val (.int (f0_u5 p3)), .val (.int (f0_u6 p3)), .val (.int (f0_u7 p3)), .val (.int (p4 &&& (3 : Int32))), .val (.int (f0_u8 p1 p2 p3 p4)), .val (.int (f0_u9 p1 p2 p3 p4)), .val (.int (f0_u10 p1 p2 p3 p4)), .val (.ref b32_x1), .val (.ref b35), .val (.int (f0_u11 p1 p2 p3 p4)), .unset, .unset] [])) t := by
                intro t k
                refine XS.iconst X41.here hx rfl (Jvm.hb hby at_234) ?_
                show Steps p.tables e below (T41.setTop (mkF m 235 #[.val (.int p1), .val (.int p2), .val (.int p3), .val (.int p4), .val (.ref b2), .val (.int ((p3 &&& (7 : Int32)) % (5 : Int32))), .val (.int (f0_u5 p3)), .val (.int (f0_u6 p3)), .val (.int (f0_u7 p3)), .val (.int (p4 &&& (3 : Int32))), .val (.int (f0_u8 p1 p2 p3 p4)), .val (.int (f0_u9 p1 p2 p3 p4)), .val (.int (f0_u10 p1 p2 p3 p4)), .val (.ref b32_x1), .val (.ref b35), .val (.int (f0_u11 p1 p2 p3 p4)), .unset, .unset] [(.int (0 : Int32))])) t
                exact k
              rw [show (f0_u12 p1 p2 p3 p4) = (0 : Int32) from (if_neg hc44).trans ((if_neg hc49).trans ((if_pos hc104).trans ((if_neg hc107).trans (if_neg hc132))))] at k
              exact K47 _ (K48 _ (K97 _ (K102 _ (K103 _ (K105 _ (K106 _ (K125 _ (K130 _ (K131 _ (K150 _ (K151 _ (k))))))))))))
        · have K152 : ∀ t, Steps p.tables e below (T41.setTop (mkF m 234 #[.val (.int p1), .val (.int p2), .val (.int p3), .val (.int p4), .val (.ref b2), .val (.int ((p3 &&& (7 : Int32)) % (5 : Int32))), .val (.int (f0_u5 p3)), .val (.int (f0_u6 p3)), .val (.int (f0_u7 p3)), .val (.int (p4 &&& (3 : Int32))), .val (.int (f0_u8 p1 p2 p3 p4)), .val (.int (f0_u9 p1 p2 p3 p4)), .val (.int (f0_u10 p1 p2 p3 p4)), .val (.ref b32_x1), .val (.ref b35), .val (.int (f0_u11 p1 p2 p3 p4)), .unset, .unset] [])) t → Steps p.tables e below (T41.setTop (mkF m 191 #[.val (.int p1), .val (.int p2), .val (.int p3), .val (.int p4), .val (.ref b2), .val (.int ((p3 &&& (7 : Int32)) % (5 : Int32))), .val (.int (f0_u5 p3)), .val (.int (f0_u6 p3)), .val (.int (f0_u7 p3)), .val (.int (p4 &&& (3 : Int32))), .val (.int (f0_u8 p1 p2 p3 p4)), .val (.int (f0_u9 p1 p2 p3 p4)), .val (.int (f0_u10 p1 p2 p3 p4)), .val (.ref b32_x1), .val (.ref b35), .val (.int (f0_u11 p1 p2 p3 p4)), .unset, .unset] [(.int (f0_u8 p1 p2 p3 p4)), (.int ((f0_u4 p1) (f0_u6 p3)))])) t := by
            intro t k
            refine XS.icmpYes X41.here hx rfl (pc0 := 191) (pc' := 234) rfl (Jvm.hb hby at_191) rfl (feq hc104).2 (by decide) (by decide) ?_
            exact k
          have K153 : ∀ t, Steps p.tables e below (T41.setTop (mkF m 235 #[.val (.int p1), .val (.int p2), .val (.int p3), .val (.int p4), .val (.ref b2), .val (.int ((p3 &&& (7 : Int32)) % (5 : Int32))), .val (.int (f0_u5 p3)), .val (.int (f0_u6 p3)), .val (.int (f0_u7 p3)), .val (.int (p4 &&& (3 : Int32))), .val (.int (f0_u8 p1 p2 p3 p4)), .val (.int (f0_u9 p1 p2 p3 p4)), .val (.int (f0_u10 p1 p2 p3 p4)), .val (.ref b32_x1), .val (.ref b35), .val (.int (f0_u11 p1 p2 p3 p4)), .unset, .unset] [(.int (0 : Int32))])) t → Steps p.tables e below (T41.setTop (mkF m 234 #[.val (.int p1), .val (.int p2), .val (.int p3), .val (.int p4), .val (.ref b2), .val (.int ((p3 &&& (7 : Int32)) % (5 : Int32))), .val (.int (f0_u5 p3)), .val (.int (f0_u6 p3)), .val (.int (f0_u7 p3)), .val (.int (p4 &&& (3 : Int32))), .val (.int (f0_u8 p1 p2 p3 p4)), .val (.int (f0_u9 p1 p2 p3 p4)), .val (.int (f0_u10 p1 p2 p3 p4)), .val (.ref b32_x1), .val (.ref b35), .val (.int (f0_u11 p1 p2 p3 p4)), .unset, .unset] [])) t := by
            intro t k
            refine XS.iconst X41.here hx rfl (Jvm.hb hby at_234) ?_
            show Steps p.tables e below (T41.setTop (mkF m 235 #[.val (.int p1), .val (.int p2), .val (.int p3), .val (.int p4), .val (.ref b2), .val (.int ((p3 &&& (7 : Int32)) % (5 : Int32))), .val (.int (f0_u5 p3)), .val (.int (f0_u6 p3)), .val (.int (f0_u7 p3)), .val (.int (p4 &&& (3 : Int32))), .val (.int (f0_u8 p1 p2 p3 p4)), .val (.int (f0_u9 p1 p2 p3 p4)), .val (.int (f0_u10 p1 p2 p3 p4)), .val (.ref b32_x1), .val (.ref b35), .val (.int (f0_u11 p1 p2 p3 p4)), .unset, .unset] [(.int (0 : Int32))])) t
            exact k
          rw [show (f0_u12 p1 p2 p3 p4) = (0 : Int32) from (if_neg hc44).trans ((if_neg hc49).trans (if_neg hc104))] at k
          exact K47 _ (K48 _ (K97 _ (K102 _ (K103 _ (K152 _ (K153 _ (k)))))))
  have K154 : ∀ t, Steps p.tables e below (T41.setTop (mkF m 239 #[.val (.int p1), .val (.int p2), .val (.int p3), .val (.int p4), .val (.ref b2), .val (.int ((p3 &&& (7 : Int32)) % (5 : Int32))), .val (.int (f0_u5 p3)), .val (.int (f0_u6 p3)), .val (.int (f0_u7 p3)), .val (.int (p4 &&& (3 : Int32))), .val (.int (f0_u8 p1 p2 p3 p4)), .val (.int (f0_u9 p1 p2 p3 p4)), .val (.int (f0_u10 p1 p2 p3 p4)), .val (.ref b32_x1), .val (.ref b35), .val (.int (f0_u11 p1 p2 p3 p4)), .val (.int (f0_u12 p1 p2 p3 p4)), .unset] [(.int (f0_u12 p1 p2 p3 p4))])) t → Steps p.tables e below (T41.setTop (mkF m 235 #[.val (.int p1), .val (.int p2), .val (.int p3), .val (.int p4), .val (.ref b2), .val (.int ((p3 &&& (7 : Int32)) % (5 : Int32))), .val (.int (f0_u5 p3)), .val (.int (f0_u6 p3)), .val (.int (f0_u7 p3)), .val (.int (p4 &&& (3 : Int32))), .val (.int (f0_u8 p1 p2 p3 p4)), .val (.int (f0_u9 p1 p2 p3 p4)), .val (.int (f0_u10 p1 p2 p3 p4)), .val (.ref b32_x1), .val (.ref b35), .val (.int (f0_u11 p1 p2 p3 p4)), .unset, .unset] [(.int (f0_u12 p1 p2 p3 p4))])) t := by
    intro t k
    refine XS.istore X41.here hx rfl (Jvm.hb hby at_235) rfl (l' := #[.val (.int p1), .val (.int p2), .val (.int p3), .val (.int p4), .val (.ref b2), .val (.int ((p3 &&& (7 : Int32)) % (5 : Int32))), .val (.int (f0_u5 p3)), .val (.int (f0_u6 p3)), .val (.int (f0_u7 p3)), .val (.int (p4 &&& (3 : Int32))), .val (.int (f0_u8 p1 p2 p3 p4)), .val (.int (f0_u9 p1 p2 p3 p4)), .val (.int (f0_u10 p1 p2 p3 p4)), .val (.ref b32_x1), .val (.ref b35), .val (.int (f0_u11 p1 p2 p3 p4)), .val (.int (f0_u12 p1 p2 p3 p4)), .unset]) rfl ?_
    show Steps p.tables e below (T41.setTop (mkF m 237 #[.val (.int p1), .val (.int p2), .val (.int p3), .val (.int p4), .val (.ref b2), .val (.int ((p3 &&& (7 : Int32)) % (5 : Int32))), .val (.int (f0_u5 p3)), .val (.int (f0_u6 p3)), .val (.int (f0_u7 p3)), .val (.int (p4 &&& (3 : Int32))), .val (.int (f0_u8 p1 p2 p3 p4)), .val (.int (f0_u9 p1 p2 p3 p4)), .val (.int (f0_u10 p1 p2 p3 p4)), .val (.ref b32_x1), .val (.ref b35), .val (.int (f0_u11 p1 p2 p3 p4)), .val (.int (f0_u12 p1 p2 p3 p4)), .unset] [])) t
    refine XS.iload X41.here hx rfl (Jvm.hb hby at_237) rfl ?_
    show Steps p.tables e below (T41.setTop (mkF m 239 #[.val (.int p1), .val (.int p2), .val (.int p3), .val (.int p4), .val (.ref b2), .val (.int ((p3 &&& (7 : Int32)) % (5 : Int32))), .val (.int (f0_u5 p3)), .val (.int (f0_u6 p3)), .val (.int (f0_u7 p3)), .val (.int (p4 &&& (3 : Int32))), .val (.int (f0_u8 p1 p2 p3 p4)), .val (.int (f0_u9 p1 p2 p3 p4)), .val (.int (f0_u10 p1 p2 p3 p4)), .val (.ref b32_x1), .val (.ref b35), .val (.int (f0_u11 p1 p2 p3 p4)), .val (.int (f0_u12 p1 p2 p3 p4)), .unset] [(.int (f0_u12 p1 p2 p3 p4))])) t
    exact k
  have K155 : ∀ t, Steps p.tables e below (T41.setTop (mkF m 252 #[.val (.int p1), .val (.int p2), .val (.int p3), .val (.int p4), .val (.ref b2), .val (.int ((p3 &&& (7 : Int32)) % (5 : Int32))), .val (.int (f0_u5 p3)), .val (.int (f0_u6 p3)), .val (.int (f0_u7 p3)), .val (.int (p4 &&& (3 : Int32))), .val (.int (f0_u8 p1 p2 p3 p4)), .val (.int (f0_u9 p1 p2 p3 p4)), .val (.int (f0_u10 p1 p2 p3 p4)), .val (.ref b32_x1), .val (.ref b35), .val (.int (f0_u11 p1 p2 p3 p4)), .val (.int (f0_u12 p1 p2 p3 p4)), .unset] [(.int (f0_u13 p1 p2 p3 p4))])) t → Steps p.tables e below (T41.setTop (mkF m 239 #[.val (.int p1), .val (.int p2), .val (.int p3), .val (.int p4), .val (.ref b2), .val (.int ((p3 &&& (7 : Int32)) % (5 : Int32))), .val (.int (f0_u5 p3)), .val (.int (f0_u6 p3)), .val (.int (f0_u7 p3)), .val (.int (p4 &&& (3 : Int32))), .val (.int (f0_u8 p1 p2 p3 p4)), .val (.int (f0_u9 p1 p2 p3 p4)), .val (.int (f0_u10 p1 p2 p3 p4)), .val (.ref b32_x1), .val (.ref b35), .val (.int (f0_u11 p1 p2 p3 p4)), .val (.int (f0_u12 p1 p2 p3 p4)), .unset] [(.int (f0_u12 p1 p2 p3 p4))])) t := by
    intro t k
    by_cases hc155 : (f0_u12 p1 p2 p3 p4) = (0 : Int32)
    · have K156 : ∀ t, Steps p.tables e below (T41.setTop (mkF m 250 #[.val (.int p1), .val (.int p2), .val (.int p3), .val (.int p4), .val (.ref b2), .val (.int ((p3 &&& (7 : Int32)) % (5 : Int32))), .val (.int (f0_u5 p3)), .val (.int (f0_u6 p3)), .val (.int (f0_u7 p3)), .val (.int (p4 &&& (3 : Int32))), .val (.int (f0_u8 p1 p2 p3 p4)), .val (.int (f0_u9 p1 p2 p3 p4)), .val (.int (f0_u10 p1 p2 p3 p4)), .val (.ref b32_x1), .val (.ref b35), .val (.int (f0_u11 p1 p2 p3 p4)), .val (.int (f0_u12 p1 p2 p3 p4)), .unset] [])) t → Steps p.tables e below (T41.setTop (mkF m 239 #[.val (.int p1), .val (.int p2), .val (.int p3), .val (.int p4), .val (.ref b2), .val (.int ((p3 &&& (7 : Int32)) % (5 : Int32))), .val (.int (f0_u5 p3)), .val (.int (f0_u6 p3)), .val (.int (f0_u7 p3)), .val (.int (p4 &&& (3 : Int32))), .val (.int (f0_u8 p1 p2 p3 p4)), .val (.int (f0_u9 p1 p2 p3 p4)), .val (.int (f0_u10 p1 p2 p3 p4)), .val (.ref b32_x1), .val (.ref b35), .val (.int (f0_u11 p1 p2 p3 p4)), .val (.int (f0_u12 p1 p2 p3 p4)), .unset] [(.int (f0_u12 p1 p2 p3 p4))])) t := by
        intro t k
        refine XS.ifYes X41.here hx rfl (pc0 := 239) (pc' := 250) rfl (Jvm.hb hby at_239) rfl ((if0 _ _).trans (teq hc155).1) (by decide) (by decide) ?_
        exact k
      have K157 : ∀ t, Steps p.tables e below (T41.setTop (mkF m 252 #[.val (.int p1), .val (.int p2), .val (.int p3), .val (.int p4), .val (.ref b2), .val (.int ((p3 &&& (7 : Int32)) % (5 : Int32))), .val (.int (f0_u5 p3)), .val (.int (f0_u6 p3)), .val (.int (f0_u7 p3)), .val (.int (p4 &&& (3 : Int32))), .val (.int (f0_u8 p1 p2 p3 p4)), .val (.int (f0_u9 p1 p2 p3 p4)), .val (.int (f0_u10 p1 p2 p3 p4)), .val (.ref b32_x1), .val (.ref b35), .val (.int (f0_u11 p1 p2 p3 p4)), .val (.int (f0_u12 p1 p2 p3 p4)), .unset] [(.int (f0_u6 p3))])) t → Steps p.tables e below (T41.setTop (mkF m 250 #[.val (.int p1), .val (.int p2), .val (.int p3), .val (.int p4), .val (.ref b2), .val (.int ((p3 &&& (7 : Int32)) % (5 : Int32))), .val (.int (f0_u5 p3)), .val (.int (f0_u6 p3)), .val (.int (f0_u7 p3)), .val (.int (p4 &&& (3 : Int32))), .val (.int (f0_u8 p1 p2 p3 p4)), .val (.int (f0_u9 p1 p2 p3 p4)), .val (.int (f0_u10 p1 p2 p3 p4)), .val (.ref b32_x1), .val (.ref b35), .val (.int (f0_u11 p1 p2 p3 p4)), .val (.int (f0_u12 p1 p2 p3 p4)), .unset] [])) t := by
        intro t k
        refine XS.iload X41.here hx rfl (Jvm.hb hby at_250) rfl ?_
        show Steps p.tables e below (T41.setTop (mkF m 252 #[.val (.int p1), .val (.int p2), .val (.int p3), .val (.int p4), .val (.ref b2), .val (.int ((p3 &&& (7 : Int32)) % (5 : Int32))), .val (.int (f0_u5 p3)), .val (.int (f0_u6 p3)), .val (.int (f0_u7 p3)), .val (.int (p4 &&& (3 : Int32))), .val (.int (f0_u8 p1 p2 p3 p4)), .val (.int (f0_u9 p1 p2 p3 p4)), .val (.int (f0_u10 p1 p2 p3 p4)), .val (.ref b32_x1), .val (.ref b35), .val (.int (f0_u11 p1 p2 p3 p4)), .val (.int (f0_u12 p1 p2 p3 p4)), .unset] [(.int (f0_u6 p3))])) t
        exact k
      rw [show (f0_u13 p1 p2 p3 p4) = (f0_u6 p3) from if_pos hc155] at k
      exact K156 _ (K157 _ (k))
    · have K158 : ∀ t, Steps p.tables e below (T41.setTop (mkF m 242 #[.val (.int p1), .val (.int p2), .val (.int p3), .val (.int p4), .val (.ref b2), .val (.int ((p3 &&& (7 : Int32)) % (5 : Int32))), .val (.int (f0_u5 p3)), .val (.int (f0_u6 p3)), .val (.int (f0_u7 p3)), .val (.int (p4 &&& (3 : Int32))), .val (.int (f0_u8 p1 p2 p3 p4)), .val (.int (f0_u9 p1 p2 p3 p4)), .val (.int (f0_u10 p1 p2 p3 p4)), .val (.ref b32_x1), .val (.ref b35), .val (.int (f0_u11 p1 p2 p3 p4)), .val (.int (f0_u12 p1 p2 p3 p4)), .unset] [])) t → Steps p.tables e below (T41.setTop (mkF m 239 #[.val (.int p1), .val (.int p2), .val (.int p3), .val (.int p4), .val (.ref b2), .val (.int ((p3 &&& (7 : Int32)) % (5 : Int32))), .val (.int (f0_u5 p3)), .val (.int (f0_u6 p3)), .val (.int (f0_u7 p3)), .val (.int (p4 &&& (3 : Int32))), .val (.int (f0_u8 p1 p2 p3 p4)), .val (.int (f0_u9 p1 p2 p3 p4)), .val (.int (f0_u10 p1 p2 p3 p4)), .val (.ref b32_x1), .val (.ref b35), .val (.int (f0_u11 p1 p2 p3 p4)), .val (.int (f0_u12 p1 p2 p3 p4)), .unset] [(.int (f0_u12 p1 p2 p3 p4))])) t := by
        intro t k
        refine XS.ifNo X41.here hx rfl (Jvm.hb hby at_239) rfl ((if0 _ _).trans (feq hc155).1) ?_
        exact k
      have K159 : ∀ t, Steps p.tables e below (T41.setTop (mkF m 252 #[.val (.int p1), .val (.int p2), .val (.int p3), .val (.int p4), .val (.ref b2), .val (.int ((p3 &&& (7 : Int32)) % (5 : Int32))), .val (.int (f0_u5 p3)), .val (.int (f0_u6 p3)), .val (.int (f0_u7 p3)), .val (.int (p4 &&& (3 : Int32))), .val (.int (f0_u8 p1 p2 p3 p4)), .val (.int (f0_u9 p1 p2 p3 p4)), .val (.int (f0_u10 p1 p2 p3 p4)), .val (.ref b32_x1), .val (.ref b35), .val (.int (f0_u11 p1 p2 p3 p4)), .val (.int (f0_u12 p1 p2 p3 p4)), .unset] [(.int ((f0_u6 p3) + (p4 &&& (3 : Int32))))])) t → Steps p.tables e below (T41.setTop (mkF m 242 #[.val (.int p1), .val (.int p2), .val (.int p3), .val (.int p4), .val (.ref b2), .val (.int ((p3 &&& (7 : Int32)) % (5 : Int32))), .val (.int (f0_u5 p3)), .val (.int (f0_u6 p3)), .val (.int (f0_u7 p3)), .val (.int (p4 &&& (3 : Int32))), .val (.int (f0_u8 p1 p2 p3 p4)), .val (.int (f0_u9 p1 p2 p3 p4)), .val (.int (f0_u10 p1 p2 p3 p4)), .val (.ref b32_x1), .val (.ref b35), .val (.int (f0_u11 p1 p2 p3 p4)), .val (.int (f0_u12 p1 p2 p3 p4)), .unset] [])) t := by
        intro t k
        refine XS.iload X41.here hx rfl (Jvm.hb hby at_242) rfl ?_
        show Steps p.tables e below (T41.setTop (mkF m 244 #[.val (.int p1), .val (.int p2), .val (.int p3), .val (.int p4), .val (.ref b2), .val (.int ((p3 &&& (7 : Int32)) % (5 : Int32))), .val (.int (f0_u5 p3)), .val (.int (f0_u6 p3)), .val (.int (f0_u7 p3)), .val (.int (p4 &&& (3 : Int32))), .val (.int (f0_u8 p1 p2 p3 p4)), .val (.int (f0_u9 p1 p2 p3 p4)), .val (.int (f0_u10 p1 p2 p3 p4)), .val (.ref b32_x1), .val (.ref b35), .val (.int (f0_u11 p1 p2 p3 p4)), .val (.int (f0_u12 p1 p2 p3 p4)), .unset] [(.int (f0_u6 p3))])) t
        refine XS.iload X41.here hx rfl (Jvm.hb hby at_244) rfl ?_
        show Steps p.tables e below (T41.setTop (mkF m 246 #[.val (.int p1), .val (.int p2), .val (.int p3), .val (.int p4), .val (.ref b2), .val (.int ((p3 &&& (7 : Int32)) % (5 : Int32))), .val (.int (f0_u5 p3)), .val (.int (f0_u6 p3)), .val (.int (f0_u7 p3)), .val (.int (p4 &&& (3 : Int32))), .val (.int (f0_u8 p1 p2 p3 p4)), .val (.int (f0_u9 p1 p2 p3 p4)), .val (.int (f0_u10 p1 p2 p3 p4)), .val (.ref b32_x1), .val (.ref b35), .val (.int (f0_u11 p1 p2 p3 p4)), .val (.int (f0_u12 p1 p2 p3 p4)), .unset] [(.int (p4 &&& (3 : Int32))), (.int (f0_u6 p3))])) t
        refine XS.iadd X41.here hx rfl (Jvm.hb hby at_246) rfl ?_
        show Steps p.tables e below (T41.setTop (mkF m 247 #[.val (.int p1), .val (.int p2), .val (.int p3), .val (.int p4), .val (.ref b2), .val (.int ((p3 &&& (7 : Int32)) % (5 : Int32))), .val (.int (f0_u5 p3)), .val (.int (f0_u6 p3)), .val (.int (f0_u7 p3)), .val (.int (p4 &&& (3 : Int32))), .val (.int (f0_u8 p1 p2 p3 p4)), .val (.int (f0_u9 p1 p2 p3 p4)), .val (.int (f0_u10 p1 p2 p3 p4)), .val (.ref b32_x1), .val (.ref b35), .val (.int (f0_u11 p1 p2 p3 p4)), .val (.int (f0_u12 p1 p2 p3 p4)), .unset] [(.int ((f0_u6 p3) + (p4 &&& (3 : Int32))))])) t
        refine XS.goto X41.here hx rfl (pc0 := 247) (pc' := 252) rfl (Jvm.hb hby at_247) (by decide) (by decide) ?_
        show Steps p.tables e below (T41.setTop (mkF m 252 #[.val (.int p1), .val (.int p2), .val (.int p3), .val (.int p4), .val (.ref b2), .val (.int ((p3 &&& (7 : Int32)) % (5 : Int32))), .val (.int (f0_u5 p3)), .val (.int (f0_u6 p3)), .val (.int (f0_u7 p3)), .val (.int (p4 &&& (3 : Int32))), .val (.int (f0_u8 p1 p2 p3 p4)), .val (.int (f0_u9 p1 p2 p3 p4)), .val (.int (f0_u10 p1 p2 p3 p4)), .val (.ref b32_x1), .val (.ref b35), .val (.int (f0_u11 p1 p2 p3 p4)), .val (.int (f0_u12 p1 p2 p3 p4)), .unset] [(.int ((f0_u6 p3) + (p4 &&& (3 : Int32))))])) t
        exact k
      rw [show (f0_u13 p1 p2 p3 p4) = ((f0_u6 p3) + (p4 &&& (3 : Int32))) from if_neg hc155] at k
      exact K158 _ (K159 _ (k))
  have K160 : ∀ t, Steps p.tables e below (T41.setTop (mkF m 258 #[.val (.int p1), .val (.int p2), .val (.int p3), .val (.int p4), .val (.ref b2), .val (.int ((p3 &&& (7 : Int32)) % (5 : Int32))), .val (.int (f0_u5 p3)), .val (.int (f0_u6 p3)), .val (.int (f0_u7 p3)), .val (.int (p4 &&& (3 : Int32))), .val (.int (f0_u8 p1 p2 p3 p4)), .val (.int (f0_u9 p1 p2 p3 p4)), .val (.int (f0_u10 p1 p2 p3 p4)), .val (.ref b32_x1), .val (.ref b35), .val (.int (f0_u11 p1 p2 p3 p4)), .val (.int (f0_u12 p1 p2 p3 p4)), .val (.int (f0_u13 p1 p2 p3 p4))] [(.int (f0_u12 p1 p2 p3 p4)), (.int (f0_u11 p1 p2 p3 p4))])) t → Steps p.tables e below (T41.setTop (mkF m 252 #[.val (.int p1), .val (.int p2), .val (.int p3), .val (.int p4), .val (.ref b2), .val (.int ((p3 &&& (7 : Int32)) % (5 : Int32))), .val (.int (f0_u5 p3)), .val (.int (f0_u6 p3)), .val (.int (f0_u7 p3)), .val (.int (p4 &&& (3 : Int32))), .val (.int (f0_u8 p1 p2 p3 p4)), .val (.int (f0_u9 p1 p2 p3 p4)), .val (.int (f0_u10 p1 p2 p3 p4)), .val (.ref b32_x1), .val (.ref b35), .val (.int (f0_u11 p1 p2 p3 p4)), .val (.int (f0_u12 p1 p2 p3 p4)), .unset] [(.int (f0_u13 p1 p2 p3 p4))])) t := by
    intro t k
    refine XS.istore X41.here hx rfl (Jvm.hb hby at_252) rfl (l' := #[.val (.int p1), .val (.int p2), .val (.int p3), .val (.int p4), .val (.ref b2), .val (.int ((p3 &&& (7 : Int32)) % (5 : Int32))), .val (.int (f0_u5 p3)), .val (.int (f0_u6 p3)), .val (.int (f0_u7 p3)), .val (.int (p4 &&& (3 : Int32))), .val (.int (f0_u8 p1 p2 p3 p4)), .val (.int (f0_u9 p1 p2 p3 p4)), .val (.int (f0_u10 p1 p2 p3 p4)), .val (.ref b32_x1), .val (.ref b35), .val (.int (f0_u11 p1 p2 p3 p4)), .val (.int (f0_u12 p1 p2 p3 p4)), .val (.int (f0_u13 p1 p2 p3 p4))]) rfl ?_
    show Steps p.tables e below (T41.setTop (mkF m 254 #[.val (.int p1), .val (.int p2), .val (.int p3), .val (.int p4), .val (.ref b2), .val (.int ((p3 &&& (7 : Int32)) % (5 : Int32))), .val (.int (f0_u5 p3)), .val (.int (f0_u6 p3)), .val (.int (f0_u7 p3)), .val (.int (p4 &&& (3 : Int32))), .val (.int (f0_u8 p1 p2 p3 p4)), .val (.int (f0_u9 p1 p2 p3 p4)), .val (.int (f0_u10 p1 p2 p3 p4)), .val (.ref b32_x1), .val (.ref b35), .val (.int (f0_u11 p1 p2 p3 p4)), .val (.int (f0_u12 p1 p2 p3 p4)), .val (.int (f0_u13 p1 p2 p3 p4))] [])) t
    refine XS.iload X41.here hx rfl (Jvm.hb hby at_254) rfl ?_
    show Steps p.tables e below (T41.setTop (mkF m 256 #[.val (.int p1), .val (.int p2), .val (.int p3), .val (.int p4), .val (.ref b2), .val (.int ((p3 &&& (7 : Int32)) % (5 : Int32))), .val (.int (f0_u5 p3)), .val (.int (f0_u6 p3)), .val (.int (f0_u7 p3)), .val (.int (p4 &&& (3 : Int32))), .val (.int (f0_u8 p1 p2 p3 p4)), .val (.int (f0_u9 p1 p2 p3 p4)), .val (.int (f0_u10 p1 p2 p3 p4)), .val (.ref b32_x1), .val (.ref b35), .val (.int (f0_u11 p1 p2 p3 p4)), .val (.int (f0_u12 p1 p2 p3 p4)), .val (.int (f0_u13 p1 p2 p3 p4))] [(.int (f0_u11 p1 p2 p3 p4))])) t
    refine XS.iload X41.here hx rfl (Jvm.hb hby at_256) rfl ?_
    show Steps p.tables e below (T41.setTop (mkF m 258 #[.val (.int p1), .val (.int p2), .val (.int p3), .val (.int p4), .val (.ref b2), .val (.int ((p3 &&& (7 : Int32)) % (5 : Int32))), .val (.int (f0_u5 p3)), .val (.int (f0_u6 p3)), .val (.int (f0_u7 p3)), .val (.int (p4 &&& (3 : Int32))), .val (.int (f0_u8 p1 p2 p3 p4)), .val (.int (f0_u9 p1 p2 p3 p4)), .val (.int (f0_u10 p1 p2 p3 p4)), .val (.ref b32_x1), .val (.ref b35), .val (.int (f0_u11 p1 p2 p3 p4)), .val (.int (f0_u12 p1 p2 p3 p4)), .val (.int (f0_u13 p1 p2 p3 p4))] [(.int (f0_u12 p1 p2 p3 p4)), (.int (f0_u11 p1 p2 p3 p4))])) t
    exact k
  by_cases hc161 : (f0_u11 p1 p2 p3 p4) = (f0_u12 p1 p2 p3 p4)
  · have K162 : ∀ t, Steps p.tables e below (T41.setTop (mkF m 261 #[.val (.int p1), .val (.int p2), .val (.int p3), .val (.int p4), .val (.ref b2), .val (.int ((p3 &&& (7 : Int32)) % (5 : Int32))), .val (.int (f0_u5 p3)), .val (.int (f0_u6 p3)), .val (.int (f0_u7 p3)), .val (.int (p4 &&& (3 : Int32))), .val (.int (f0_u8 p1 p2 p3 p4)), .val (.int (f0_u9 p1 p2 p3 p4)), .val (.int (f0_u10 p1 p2 p3 p4)), .val (.ref b32_x1), .val (.ref b35), .val (.int (f0_u11 p1 p2 p3 p4)), .val (.int (f0_u12 p1 p2 p3 p4)), .val (.int (f0_u13 p1 p2 p3 p4))] [])) t → Steps p.tables e below (T41.setTop (mkF m 258 #[.val (.int p1), .val (.int p2), .val (.int p3), .val (.int p4), .val (.ref b2), .val (.int ((p3 &&& (7 : Int32)) % (5 : Int32))), .val (.int (f0_u5 p3)), .val (.int (f0_u6 p3)), .val (.int (f0_u7 p3)), .val (.int (p4 &&& (3 : Int32))), .val (.int (f0_u8 p1 p2 p3 p4)), .val (.int (f0_u9 p1 p2 p3 p4)), .val (.int (f0_u10 p1 p2 p3 p4)), .val (.ref b32_x1), .val (.ref b35), .val (.int (f0_u11 p1 p2 p3 p4)), .val (.int (f0_u12 p1 p2 p3 p4)), .val (.int (f0_u13 p1 p2 p3 p4))] [(.int (f0_u12 p1 p2 p3 p4)), (.int (f0_u11 p1 p2 p3 p4))])) t := by
      intro t k
      refine XS.icmpNo X41.here hx rfl (Jvm.hb hby at_258) rfl (teq hc161).2 ?_
      exact k
    have K163 : ∀ t, Steps p.tables e below (T41.setTop (mkF m 263 #[.val (.int p1), .val (.int p2), .val (.int p3), .val (.int p4), .val (.ref b2), .val (.int ((p3 &&& (7 : Int32)) % (5 : Int32))), .val (.int (f0_u5 p3)), .val (.int (f0_u6 p3)), .val (.int (f0_u7 p3)), .val (.int (p4 &&& (3 : Int32))), .val (.int (f0_u8 p1 p2 p3 p4)), .val (.int (f0_u9 p1 p2 p3 p4)), .val (.int (f0_u10 p1 p2 p3 p4)), .val (.ref b32_x1), .val (.ref b35), .val (.int (f0_u11 p1 p2 p3 p4)), .val (.int (f0_u12 p1 p2 p3 p4)), .val (.int (f0_u13 p1 p2 p3 p4))] [(.ref b35)])) t → Steps p.tables e below (T41.setTop (mkF m 261 #[.val (.int p1), .val (.int p2), .val (.int p3), .val (.int p4), .val (.ref b2), .val (.int ((p3 &&& (7 : Int32)) % (5 : Int32))), .val (.int (f0_u5 p3)), .val (.int (f0_u6 p3)), .val (.int (f0_u7 p3)), .val (.int (p4 &&& (3 : Int32))), .val (.int (f0_u8 p1 p2 p3 p4)), .val (.int (f0_u9 p1 p2 p3 p4)), .val (.int (f0_u10 p1 p2 p3 p4)), .val (.ref b32_x1), .val (.ref b35), .val (.int (f0_u11 p1 p2 p3 p4)), .val (.int (f0_u12 p1 p2 p3 p4)), .val (.int (f0_u13 p1 p2 p3 p4))] [])) t := by
      intro t k
      refine XS.aload X41.here hx rfl (Jvm.hb hby at_261) rfl rfl ?_
      show Steps p.tables e below (T41.setTop (mkF m 263 #[.val (.int p1), .val (.int p2), .val (.int p3), .val (.int p4), .val (.ref b2), .val (.int ((p3 &&& (7 : Int32)) % (5 : Int32))), .val (.int (f0_u5 p3)), .val (.int (f0_u6 p3)), .val (.int (f0_u7 p3)), .val (.int (p4 &&& (3 : Int32))), .val (.int (f0_u8 p1 p2 p3 p4)), .val (.int (f0_u9 p1 p2 p3 p4)), .val (.int (f0_u10 p1 p2 p3 p4)), .val (.ref b32_x1), .val (.ref b35), .val (.int (f0_u11 p1 p2 p3 p4)), .val (.int (f0_u12 p1 p2 p3 p4)), .val (.int (f0_u13 p1 p2 p3 p4))] [(.ref b35)])) t
      exact k
    obtain ⟨cq164, kq164, q164a, q164b, q164c⟩ := isOf hZ e41 R41_3
    obtain ⟨_, _, ⟨T164, L164, k164, n164⟩, -, X164, ⟨Lc164, hQ164, l164, y164, z164⟩, st164⟩ := X41.virtualBack hx (y := (⟨"com/example/clapboard/clapboard/parse/TextCursor", "position", "()I"⟩ : MethodName)) (z := (⟨"com/example/clapboard/clapboard/parse/TextCursor", "position", "()I"⟩ : MethodName)) hown (mvT hZ (hw _ (List.mem_of_getElem? (i := 94) rfl))) (mvT hZ (hw _ (List.mem_of_getElem? (i := 95) rfl))) (notFace_of_selects (args := #[]) (mvT hZ (hw _ (List.mem_of_getElem? (i := 97) rfl)))) (mvT hZ (hw _ (List.mem_of_getElem? (i := 97) rfl))) (mvT hZ (hw _ (List.mem_of_getElem? (i := 96) rfl))) (by decide) (backOf (W := 0) (rm20 l Z a0 hw [] b35 (f12_F_at_a10 (f0_u7 p3) (f0_u6 p3) (f4_u4 (p4 &&& (3 : Int32))) (f4_u5 (p4 &&& (3 : Int32)) (f0_u8 p1 p2 p3 p4) (f0_u9 p1 p2 p3 p4) (f0_u10 p1 p2 p3 p4)) (f0_u4 p1)) h41 n0 (Nat.le_trans Z0 KP41.1) R41_1) hZ (hw _ (List.mem_of_getElem? (i := 98) rfl)) (hw _ (List.mem_of_getElem? (i := 46) rfl)) (by decide) (by decide)) q164a q164c (g := (mkF m 263 #[.val (.int p1), .val (.int p2), .val (.int p3), .val (.int p4), .val (.ref b2), .val (.int ((p3 &&& (7 : Int32)) % (5 : Int32))), .val (.int (f0_u5 p3)), .val (.int (f0_u6 p3)), .val (.int (f0_u7 p3)), .val (.int (p4 &&& (3 : Int32))), .val (.int (f0_u8 p1 p2 p3 p4)), .val (.int (f0_u9 p1 p2 p3 p4)), .val (.int (f0_u10 p1 p2 p3 p4)), .val (.ref b32_x1), .val (.ref b35), .val (.int (f0_u11 p1 p2 p3 p4)), .val (.int (f0_u12 p1 p2 p3 p4)), .val (.int (f0_u13 p1 p2 p3 p4))] [(.ref b35)])) rfl (by rw [hml]; rfl) (Steps.refl _) (argsL := []) (rest := []) (lenOf pd_11 rfl) rfl (by show 2 * 0 + _ ≤ _; exact Nat.le_of_eq rfl) (Jvm.hb hby at_263) (fun _ _ => ⟨rfl, e41, (by decide : 8 + 0 ≤ _), (by decide : 19 + 0 ≤ _)⟩)
    dsimp only [Pt.U, Pt.locs, Pt.cells, Pt.slots] at X164 l164 y164 z164 st164 hQ164
    subst l164 y164 z164
    obtain ⟨rfl, N164q, e164⟩ := hQ164
    have N164 := Fr.app N41 N164q
    have K165 : ∀ t, Steps p.tables e below (T164.setTop (mkF m 266 #[.val (.int p1), .val (.int p2), .val (.int p3), .val (.int p4), .val (.ref b2), .val (.int ((p3 &&& (7 : Int32)) % (5 : Int32))), .val (.int (f0_u5 p3)), .val (.int (f0_u6 p3)), .val (.int (f0_u7 p3)), .val (.int (p4 &&& (3 : Int32))), .val (.int (f0_u8 p1 p2 p3 p4)), .val (.int (f0_u9 p1 p2 p3 p4)), .val (.int (f0_u10 p1 p2 p3 p4)), .val (.ref b32_x1), .val (.ref b35), .val (.int (f0_u11 p1 p2 p3 p4)), .val (.int (f0_u12 p1 p2 p3 p4)), .val (.int (f0_u13 p1 p2 p3 p4))] [(.int (f20 (f12_F_at_a10 (f0_u7 p3) (f0_u6 p3) (f4_u4 (p4 &&& (3 : Int32))) (f4_u5 (p4 &&& (3 : Int32)) (f0_u8 p1 p2 p3 p4) (f0_u9 p1 p2 p3 p4) (f0_u10 p1 p2 p3 p4)) (f0_u4 p1))))])) t → Steps p.tables e below (T41.setTop (mkF m 263 #[.val (.int p1), .val (.int p2), .val (.int p3), .val (.int p4), .val (.ref b2), .val (.int ((p3 &&& (7 : Int32)) % (5 : Int32))), .val (.int (f0_u5 p3)), .val (.int (f0_u6 p3)), .val (.int (f0_u7 p3)), .val (.int (p4 &&& (3 : Int32))), .val (.int (f0_u8 p1 p2 p3 p4)), .val (.int (f0_u9 p1 p2 p3 p4)), .val (.int (f0_u10 p1 p2 p3 p4)), .val (.ref b32_x1), .val (.ref b35), .val (.int (f0_u11 p1 p2 p3 p4)), .val (.int (f0_u12 p1 p2 p3 p4)), .val (.int (f0_u13 p1 p2 p3 p4))] [(.ref b35)])) t := fun t k => st164.trans k
    have K166 : ∀ t, Steps p.tables e below (T164.setTop (mkF m 268 #[.val (.int p1), .val (.int p2), .val (.int p3), .val (.int p4), .val (.ref b2), .val (.int ((p3 &&& (7 : Int32)) % (5 : Int32))), .val (.int (f0_u5 p3)), .val (.int (f0_u6 p3)), .val (.int (f0_u7 p3)), .val (.int (p4 &&& (3 : Int32))), .val (.int (f0_u8 p1 p2 p3 p4)), .val (.int (f0_u9 p1 p2 p3 p4)), .val (.int (f0_u10 p1 p2 p3 p4)), .val (.ref b32_x1), .val (.ref b35), .val (.int (f0_u11 p1 p2 p3 p4)), .val (.int (f0_u12 p1 p2 p3 p4)), .val (.int (f0_u13 p1 p2 p3 p4))] [(.int (f0_u13 p1 p2 p3 p4)), (.int (f20 (f12_F_at_a10 (f0_u7 p3) (f0_u6 p3) (f4_u4 (p4 &&& (3 : Int32))) (f4_u5 (p4 &&& (3 : Int32)) (f0_u8 p1 p2 p3 p4) (f0_u9 p1 p2 p3 p4) (f0_u10 p1 p2 p3 p4)) (f0_u4 p1))))])) t → Steps p.tables e below (T164.setTop (mkF m 266 #[.val (.int p1), .val (.int p2), .val (.int p3), .val (.int p4), .val (.ref b2), .val (.int ((p3 &&& (7 : Int32)) % (5 : Int32))), .val (.int (f0_u5 p3)), .val (.int (f0_u6 p3)), .val (.int (f0_u7 p3)), .val (.int (p4 &&& (3 : Int32))), .val (.int (f0_u8 p1 p2 p3 p4)), .val (.int (f0_u9 p1 p2 p3 p4)), .val (.int (f0_u10 p1 p2 p3 p4)), .val (.ref b32_x1), .val (.ref b35), .val (.int (f0_u11 p1 p2 p3 p4)), .val (.int (f0_u12 p1 p2 p3 p4)), .val (.int (f0_u13 p1 p2 p3 p4))] [(.int (f20 (f12_F_at_a10 (f0_u7 p3) (f0_u6 p3) (f4_u4 (p4 &&& (3 : Int32))) (f4_u5 (p4 &&& (3 : Int32)) (f0_u8 p1 p2 p3 p4) (f0_u9 p1 p2 p3 p4) (f0_u10 p1 p2 p3 p4)) (f0_u4 p1))))])) t := by
      intro t k
      refine XS.iload X164.here hx rfl (Jvm.hb hby at_266) rfl ?_
      show Steps p.tables e below (T164.setTop (mkF m 268 #[.val (.int p1), .val (.int p2), .val (.int p3), .val (.int p4), .val (.ref b2), .val (.int ((p3 &&& (7 : Int32)) % (5 : Int32))), .val (.int (f0_u5 p3)), .val (.int (f0_u6 p3)), .val (.int (f0_u7 p3)), .val (.int (p4 &&& (3 : Int32))), .val (.int (f0_u8 p1 p2 p3 p4)), .val (.int (f0_u9 p1 p2 p3 p4)), .val (.int (f0_u10 p1 p2 p3 p4)), .val (.ref b32_x1), .val (.ref b35), .val (.int (f0_u11 p1 p2 p3 p4)), .val (.int (f0_u12 p1 p2 p3 p4)), .val (.int (f0_u13 p1 p2 p3 p4))] [(.int (f0_u13 p1 p2 p3 p4)), (.int (f20 (f12_F_at_a10 (f0_u7 p3) (f0_u6 p3) (f4_u4 (p4 &&& (3 : Int32))) (f4_u5 (p4 &&& (3 : Int32)) (f0_u8 p1 p2 p3 p4) (f0_u9 p1 p2 p3 p4) (f0_u10 p1 p2 p3 p4)) (f0_u4 p1))))])) t
      exact k
    by_cases hc167 : (f20 (f12_F_at_a10 (f0_u7 p3) (f0_u6 p3) (f4_u4 (p4 &&& (3 : Int32))) (f4_u5 (p4 &&& (3 : Int32)) (f0_u8 p1 p2 p3 p4) (f0_u9 p1 p2 p3 p4) (f0_u10 p1 p2 p3 p4)) (f0_u4 p1))) = (f0_u13 p1 p2 p3 p4)
    · have K168 : ∀ t, Steps p.tables e below (T164.setTop (mkF m 271 #[.val (.int p1), .val (.int p2), .val (.int p3), .val (.int p4), .val (.ref b2), .val (.int ((p3 &&& (7 : Int32)) % (5 : Int32))), .val (.int (f0_u5 p3)), .val (.int (f0_u6 p3)), .val (.int (f0_u7 p3)), .val (.int (p4 &&& (3 : Int32))), .val (.int (f0_u8 p1 p2 p3 p4)), .val (.int (f0_u9 p1 p2 p3 p4)), .val (.int (f0_u10 p1 p2 p3 p4)), .val (.ref b32_x1), .val (.ref b35), .val (.int (f0_u11 p1 p2 p3 p4)), .val (.int (f0_u12 p1 p2 p3 p4)), .val (.int (f0_u13 p1 p2 p3 p4))] [])) t → Steps p.tables e below (T164.setTop (mkF m 268 #[.val (.int p1), .val (.int p2), .val (.int p3), .val (.int p4), .val (.ref b2), .val (.int ((p3 &&& (7 : Int32)) % (5 : Int32))), .val (.int (f0_u5 p3)), .val (.int (f0_u6 p3)), .val (.int (f0_u7 p3)), .val (.int (p4 &&& (3 : Int32))), .val (.int (f0_u8 p1 p2 p3 p4)), .val (.int (f0_u9 p1 p2 p3 p4)), .val (.int (f0_u10 p1 p2 p3 p4)), .val (.ref b32_x1), .val (.ref b35), .val (.int (f0_u11 p1 p2 p3 p4)), .val (.int (f0_u12 p1 p2 p3 p4)), .val (.int (f0_u13 p1 p2 p3 p4))] [(.int (f0_u13 p1 p2 p3 p4)), (.int (f20 (f12_F_at_a10 (f0_u7 p3) (f0_u6 p3) (f4_u4 (p4 &&& (3 : Int32))) (f4_u5 (p4 &&& (3 : Int32)) (f0_u8 p1 p2 p3 p4) (f0_u9 p1 p2 p3 p4) (f0_u10 p1 p2 p3 p4)) (f0_u4 p1))))])) t := by
        intro t k
        refine XS.icmpNo X164.here hx rfl (Jvm.hb hby at_268) rfl (teq hc167).2 ?_
        exact k
      have K169 : ∀ t, Steps p.tables e below (T164.setTop (mkF m 276 #[.val (.int p1), .val (.int p2), .val (.int p3), .val (.int p4), .val (.ref b2), .val (.int ((p3 &&& (7 : Int32)) % (5 : Int32))), .val (.int (f0_u5 p3)), .val (.int (f0_u6 p3)), .val (.int (f0_u7 p3)), .val (.int (p4 &&& (3 : Int32))), .val (.int (f0_u8 p1 p2 p3 p4)), .val (.int (f0_u9 p1 p2 p3 p4)), .val (.int (f0_u10 p1 p2 p3 p4)), .val (.ref b32_x1), .val (.ref b35), .val (.int (f0_u11 p1 p2 p3 p4)), .val (.int (f0_u12 p1 p2 p3 p4)), .val (.int (f0_u13 p1 p2 p3 p4))] [(.int (1 : Int32))])) t → Steps p.tables e below (T164.setTop (mkF m 271 #[.val (.int p1), .val (.int p2), .val (.int p3), .val (.int p4), .val (.ref b2), .val (.int ((p3 &&& (7 : Int32)) % (5 : Int32))), .val (.int (f0_u5 p3)), .val (.int (f0_u6 p3)), .val (.int (f0_u7 p3)), .val (.int (p4 &&& (3 : Int32))), .val (.int (f0_u8 p1 p2 p3 p4)), .val (.int (f0_u9 p1 p2 p3 p4)), .val (.int (f0_u10 p1 p2 p3 p4)), .val (.ref b32_x1), .val (.ref b35), .val (.int (f0_u11 p1 p2 p3 p4)), .val (.int (f0_u12 p1 p2 p3 p4)), .val (.int (f0_u13 p1 p2 p3 p4))] [])) t := by
        intro t k
        refine XS.iconst X164.here hx rfl (Jvm.hb hby at_271) ?_
        show Steps p.tables e below (T164.setTop (mkF m 272 #[.val (.int p1), .val (.int p2), .val (.int p3), .val (.int p4), .val (.ref b2), .val (.int ((p3 &&& (7 : Int32)) % (5 : Int32))), .val (.int (f0_u5 p3)), .val (.int (f0_u6 p3)), .val (.int (f0_u7 p3)), .val (.int (p4 &&& (3 : Int32))), .val (.int (f0_u8 p1 p2 p3 p4)), .val (.int (f0_u9 p1 p2 p3 p4)), .val (.int (f0_u10 p1 p2 p3 p4)), .val (.ref b32_x1), .val (.ref b35), .val (.int (f0_u11 p1 p2 p3 p4)), .val (.int (f0_u12 p1 p2 p3 p4)), .val (.int (f0_u13 p1 p2 p3 p4))] [(.int (1 : Int32))])) t
        refine XS.goto X164.here hx rfl (pc0 := 272) (pc' := 276) rfl (Jvm.hb hby at_272) (by decide) (by decide) ?_
        show Steps p.tables e below (T164.setTop (mkF m 276 #[.val (.int p1), .val (.int p2), .val (.int p3), .val (.int p4), .val (.ref b2), .val (.int ((p3 &&& (7 : Int32)) % (5 : Int32))), .val (.int (f0_u5 p3)), .val (.int (f0_u6 p3)), .val (.int (f0_u7 p3)), .val (.int (p4 &&& (3 : Int32))), .val (.int (f0_u8 p1 p2 p3 p4)), .val (.int (f0_u9 p1 p2 p3 p4)), .val (.int (f0_u10 p1 p2 p3 p4)), .val (.ref b32_x1), .val (.ref b35), .val (.int (f0_u11 p1 p2 p3 p4)), .val (.int (f0_u12 p1 p2 p3 p4)), .val (.int (f0_u13 p1 p2 p3 p4))] [(.int (1 : Int32))])) t
        exact k
      obtain ⟨fs, hr, hrun, hended, hRW⟩ := X164.leaveW hS (show _ ≤ T164.heap.size from (by rw [e164]; exact SK41)) (v := some (.int (1 : Int32))) (fun h => by rw [Bd.returns] at h; cases h) Bd.notSynchronized
      refine ⟨_, _, pre0 _ (K1 _ (K3 _ (K4 _ (K6 _ (K7 _ (K9 _ (K10 _ (K12 _ (K13 _ (K15 _ (K16 _ (K18 _ (K19 _ (K21 _ (K22 _ (K24 _ (K25 _ (K27 _ (K28 _ (K30 _ (K31 _ (K33 _ (K34 _ (K36 _ (K37 _ (K39 _ (K40 _ (K42 _ (K43 _ (K44 _ (K154 _ (K155 _ (K160 _ (K162 _ (K163 _ (K165 _ (K166 _ (K168 _ (K169 _ (retN X164 hx (t := .boolean) Bd.returns (by simp) (Jvm.hb hby at_276) hr)))))))))))))))))))))))))))))))))))))))), hrun, hended, _, _, rfl, ?_, hRW.1, hRW.2.1, hRW.2.2.1, hRW.2.2.2.mono (by decide) (by decide)⟩
      show Q0 Z p1 p2 p3 p4 w_COMPACT_STRINGS w_SIOOBE_FORMATTER h0 n0 _ T164.heap _
      rw [e164]
      exact ⟨congrArg (fun z => some (Value.int z)) (show (1 : Int32) = f0 p1 p2 p3 p4 from Eq.symm ((if_pos hc161).trans (if_pos hc167))), N164, KP41⟩
    · have K170 : ∀ t, Steps p.tables e below (T164.setTop (mkF m 275 #[.val (.int p1), .val (.int p2), .val (.int p3), .val (.int p4), .val (.ref b2), .val (.int ((p3 &&& (7 : Int32)) % (5 : Int32))), .val (.int (f0_u5 p3)), .val (.int (f0_u6 p3)), .val (.int (f0_u7 p3)), .val (.int (p4 &&& (3 : Int32))), .val (.int (f0_u8 p1 p2 p3 p4)), .val (.int (f0_u9 p1 p2 p3 p4)), .val (.int (f0_u10 p1 p2 p3 p4)), .val (.ref b32_x1), .val (.ref b35), .val (.int (f0_u11 p1 p2 p3 p4)), .val (.int (f0_u12 p1 p2 p3 p4)), .val (.int (f0_u13 p1 p2 p3 p4))] [])) t → Steps p.tables e below (T164.setTop (mkF m 268 #[.val (.int p1), .val (.int p2), .val (.int p3), .val (.int p4), .val (.ref b2), .val (.int ((p3 &&& (7 : Int32)) % (5 : Int32))), .val (.int (f0_u5 p3)), .val (.int (f0_u6 p3)), .val (.int (f0_u7 p3)), .val (.int (p4 &&& (3 : Int32))), .val (.int (f0_u8 p1 p2 p3 p4)), .val (.int (f0_u9 p1 p2 p3 p4)), .val (.int (f0_u10 p1 p2 p3 p4)), .val (.ref b32_x1), .val (.ref b35), .val (.int (f0_u11 p1 p2 p3 p4)), .val (.int (f0_u12 p1 p2 p3 p4)), .val (.int (f0_u13 p1 p2 p3 p4))] [(.int (f0_u13 p1 p2 p3 p4)), (.int (f20 (f12_F_at_a10 (f0_u7 p3) (f0_u6 p3) (f4_u4 (p4 &&& (3 : Int32))) (f4_u5 (p4 &&& (3 : Int32)) (f0_u8 p1 p2 p3 p4) (f0_u9 p1 p2 p3 p4) (f0_u10 p1 p2 p3 p4)) (f0_u4 p1))))])) t := by
        intro t k
        refine XS.icmpYes X164.here hx rfl (pc0 := 268) (pc' := 275) rfl (Jvm.hb hby at_268) rfl (feq hc167).2 (by decide) (by decide) ?_
        exact k
      have K171 : ∀ t, Steps p.tables e below (T164.setTop (mkF m 276 #[.val (.int p1), .val (.int p2), .val (.int p3), .val (.int p4), .val (.ref b2), .val (.int ((p3 &&& (7 : Int32)) % (5 : Int32))), .val (.int (f0_u5 p3)), .val (.int (f0_u6 p3)), .val (.int (f0_u7 p3)), .val (.int (p4 &&& (3 : Int32))), .val (.int (f0_u8 p1 p2 p3 p4)), .val (.int (f0_u9 p1 p2 p3 p4)), .val (.int (f0_u10 p1 p2 p3 p4)), .val (.ref b32_x1), .val (.ref b35), .val (.int (f0_u11 p1 p2 p3 p4)), .val (.int (f0_u12 p1 p2 p3 p4)), .val (.int (f0_u13 p1 p2 p3 p4))] [(.int (0 : Int32))])) t → Steps p.tables e below (T164.setTop (mkF m 275 #[.val (.int p1), .val (.int p2), .val (.int p3), .val (.int p4), .val (.ref b2), .val (.int ((p3 &&& (7 : Int32)) % (5 : Int32))), .val (.int (f0_u5 p3)), .val (.int (f0_u6 p3)), .val (.int (f0_u7 p3)), .val (.int (p4 &&& (3 : Int32))), .val (.int (f0_u8 p1 p2 p3 p4)), .val (.int (f0_u9 p1 p2 p3 p4)), .val (.int (f0_u10 p1 p2 p3 p4)), .val (.ref b32_x1), .val (.ref b35), .val (.int (f0_u11 p1 p2 p3 p4)), .val (.int (f0_u12 p1 p2 p3 p4)), .val (.int (f0_u13 p1 p2 p3 p4))] [])) t := by
        intro t k
        refine XS.iconst X164.here hx rfl (Jvm.hb hby at_275) ?_
        show Steps p.tables e below (T164.setTop (mkF m 276 #[.val (.int p1), .val (.int p2), .val (.int p3), .val (.int p4), .val (.ref b2), .val (.int ((p3 &&& (7 : Int32)) % (5 : Int32))), .val (.int (f0_u5 p3)), .val (.int (f0_u6 p3)), .val (.int (f0_u7 p3)), .val (.int (p4 &&& (3 : Int32))), .val (.int (f0_u8 p1 p2 p3 p4)), .val (.int (f0_u9 p1 p2 p3 p4)), .val (.int (f0_u10 p1 p2 p3 p4)), .val (.ref b32_x1), .val (.ref b35), .val (.int (f0_u11 p1 p2 p3 p4)), .val (.int (f0_u12 p1 p2 p3 p4)), .val (.int (f0_u13 p1 p2 p3 p4))] [(.int (0 : Int32))])) t
        exact k
      obtain ⟨fs, hr, hrun, hended, hRW⟩ := X164.leaveW hS (show _ ≤ T164.heap.size from (by rw [e164]; exact SK41)) (v := some (.int (0 : Int32))) (fun h => by rw [Bd.returns] at h; cases h) Bd.notSynchronized
      refine ⟨_, _, pre0 _ (K1 _ (K3 _ (K4 _ (K6 _ (K7 _ (K9 _ (K10 _ (K12 _ (K13 _ (K15 _ (K16 _ (K18 _ (K19 _ (K21 _ (K22 _ (K24 _ (K25 _ (K27 _ (K28 _ (K30 _ (K31 _ (K33 _ (K34 _ (K36 _ (K37 _ (K39 _ (K40 _ (K42 _ (K43 _ (K44 _ (K154 _ (K155 _ (K160 _ (K162 _ (K163 _ (K165 _ (K166 _ (K170 _ (K171 _ (retN X164 hx (t := .boolean) Bd.returns (by simp) (Jvm.hb hby at_276) hr)))))))))))))))))))))))))))))))))))))))), hrun, hended, _, _, rfl, ?_, hRW.1, hRW.2.1, hRW.2.2.1, hRW.2.2.2.mono (by decide) (by decide)⟩
      show Q0 Z p1 p2 p3 p4 w_COMPACT_STRINGS w_SIOOBE_FORMATTER h0 n0 _ T164.heap _
      rw [e164]
      exact ⟨congrArg (fun z => some (Value.int z)) (show (0 : Int32) = f0 p1 p2 p3 p4 from Eq.symm ((if_pos hc161).trans (if_neg hc167))), N164, KP41⟩
  · have K172 : ∀ t, Steps p.tables e below (T41.setTop (mkF m 275 #[.val (.int p1), .val (.int p2), .val (.int p3), .val (.int p4), .val (.ref b2), .val (.int ((p3 &&& (7 : Int32)) % (5 : Int32))), .val (.int (f0_u5 p3)), .val (.int (f0_u6 p3)), .val (.int (f0_u7 p3)), .val (.int (p4 &&& (3 : Int32))), .val (.int (f0_u8 p1 p2 p3 p4)), .val (.int (f0_u9 p1 p2 p3 p4)), .val (.int (f0_u10 p1 p2 p3 p4)), .val (.ref b32_x1), .val (.ref b35), .val (.int (f0_u11 p1 p2 p3 p4)), .val (.int (f0_u12 p1 p2 p3 p4)), .val (.int (f0_u13 p1 p2 p3 p4))] [])) t → Steps p.tables e below (T41.setTop (mkF m 258 #[.val (.int p1), .val (.int p2), .val (.int p3), .val (.int p4), .val (.ref b2), .val (.int ((p3 &&& (7 : Int32)) % (5 : Int32))), .val (.int (f0_u5 p3)), .val (.int (f0_u6 p3)), .val (.int (f0_u7 p3)), .val (.int (p4 &&& (3 : Int32))), .val (.int (f0_u8 p1 p2 p3 p4)), .val (.int (f0_u9 p1 p2 p3 p4)), .val (.int (f0_u10 p1 p2 p3 p4)), .val (.ref b32_x1), .val (.ref b35), .val (.int (f0_u11 p1 p2 p3 p4)), .val (.int (f0_u12 p1 p2 p3 p4)), .val (.int (f0_u13 p1 p2 p3 p4))] [(.int (f0_u12 p1 p2 p3 p4)), (.int (f0_u11 p1 p2 p3 p4))])) t := by
      intro t k
      refine XS.icmpYes X41.here hx rfl (pc0 := 258) (pc' := 275) rfl (Jvm.hb hby at_258) rfl (feq hc161).2 (by decide) (by decide) ?_
      exact k
    have K173 : ∀ t, Steps p.tables e below (T41.setTop (mkF m 276 #[.val (.int p1), .val (.int p2), .val (.int p3), .val (.int p4), .val (.ref b2), .val (.int ((p3 &&& (7 : Int32)) % (5 : Int32))), .val (.int (f0_u5 p3)), .val (.int (f0_u6 p3)), .val (.int (f0_u7 p3)), .val (.int (p4 &&& (3 : Int32))), .val (.int (f0_u8 p1 p2 p3 p4)), .val (.int (f0_u9 p1 p2 p3 p4)), .val (.int (f0_u10 p1 p2 p3 p4)), .val (.ref b32_x1), .val (.ref b35), .val (.int (f0_u11 p1 p2 p3 p4)), .val (.int (f0_u12 p1 p2 p3 p4)), .val (.int (f0_u13 p1 p2 p3 p4))] [(.int (0 : Int32))])) t → Steps p.tables e below (T41.setTop (mkF m 275 #[.val (.int p1), .val (.int p2), .val (.int p3), .val (.int p4), .val (.ref b2), .val (.int ((p3 &&& (7 : Int32)) % (5 : Int32))), .val (.int (f0_u5 p3)), .val (.int (f0_u6 p3)), .val (.int (f0_u7 p3)), .val (.int (p4 &&& (3 : Int32))), .val (.int (f0_u8 p1 p2 p3 p4)), .val (.int (f0_u9 p1 p2 p3 p4)), .val (.int (f0_u10 p1 p2 p3 p4)), .val (.ref b32_x1), .val (.ref b35), .val (.int (f0_u11 p1 p2 p3 p4)), .val (.int (f0_u12 p1 p2 p3 p4)), .val (.int (f0_u13 p1 p2 p3 p4))] [])) t := by
      intro t k
      refine XS.iconst X41.here hx rfl (Jvm.hb hby at_275) ?_
      show Steps p.tables e below (T41.setTop (mkF m 276 #[.val (.int p1), .val (.int p2), .val (.int p3), .val (.int p4), .val (.ref b2), .val (.int ((p3 &&& (7 : Int32)) % (5 : Int32))), .val (.int (f0_u5 p3)), .val (.int (f0_u6 p3)), .val (.int (f0_u7 p3)), .val (.int (p4 &&& (3 : Int32))), .val (.int (f0_u8 p1 p2 p3 p4)), .val (.int (f0_u9 p1 p2 p3 p4)), .val (.int (f0_u10 p1 p2 p3 p4)), .val (.ref b32_x1), .val (.ref b35), .val (.int (f0_u11 p1 p2 p3 p4)), .val (.int (f0_u12 p1 p2 p3 p4)), .val (.int (f0_u13 p1 p2 p3 p4))] [(.int (0 : Int32))])) t
      exact k
    obtain ⟨fs, hr, hrun, hended, hRW⟩ := X41.leaveW hS (show _ ≤ T41.heap.size from (by rw [e41]; exact SK41)) (v := some (.int (0 : Int32))) (fun h => by rw [Bd.returns] at h; cases h) Bd.notSynchronized
    refine ⟨_, _, pre0 _ (K1 _ (K3 _ (K4 _ (K6 _ (K7 _ (K9 _ (K10 _ (K12 _ (K13 _ (K15 _ (K16 _ (K18 _ (K19 _ (K21 _ (K22 _ (K24 _ (K25 _ (K27 _ (K28 _ (K30 _ (K31 _ (K33 _ (K34 _ (K36 _ (K37 _ (K39 _ (K40 _ (K42 _ (K43 _ (K44 _ (K154 _ (K155 _ (K160 _ (K172 _ (K173 _ (retN X41 hx (t := .boolean) Bd.returns (by simp) (Jvm.hb hby at_276) hr)))))))))))))))))))))))))))))))))))), hrun, hended, _, _, rfl, ?_, hRW.1, hRW.2.1, hRW.2.2.1, hRW.2.2.2.mono (by decide) (by decide)⟩
    show Q0 Z p1 p2 p3 p4 w_COMPACT_STRINGS w_SIOOBE_FORMATTER h0 n0 _ T41.heap _
    rw [e41]
    exact ⟨congrArg (fun z => some (Value.int z)) (show (0 : Int32) = f0 p1 p2 p3 p4 from Eq.symm (if_neg hc161)), N41, KP41⟩
theorem own_g1 (f g : Int32 → Int32) : f9_G_a30 1 f g = upd g 0 (nar .byte ((f 0).toInt8.toInt32)) := by
  show f9_G_a3 1 f g (0 + 1 + 1) 0 0 0 g = _
  rw [f9_G_a3_succ, if_pos (by decide), f9_G_a3_succ, if_neg (by decide)]
  rfl
theorem own_g2 (f g : Int32 → Int32) : f9_G_a30 2 f g = upd (upd g 0 (nar .byte ((f 0).toInt8.toInt32))) 1 (nar .byte ((f 1).toInt8.toInt32)) := by
  show f9_G_a3 2 f g (0 + 1 + 1 + 1) 0 0 0 g = _
  rw [f9_G_a3_succ, if_pos (by decide), f9_G_a3_succ, if_pos (by decide), f9_G_a3_succ, if_neg (by decide)]
  rfl
theorem own_g3 (f g : Int32 → Int32) : f9_G_a30 3 f g = upd (upd (upd g 0 (nar .byte ((f 0).toInt8.toInt32))) 1 (nar .byte ((f 1).toInt8.toInt32))) 2 (nar .byte ((f 2).toInt8.toInt32)) := by
  show f9_G_a3 3 f g (0 + 1 + 1 + 1 + 1) 0 0 0 g = _
  rw [f9_G_a3_succ, if_pos (by decide), f9_G_a3_succ, if_pos (by decide), f9_G_a3_succ, if_pos (by decide), f9_G_a3_succ, if_neg (by decide)]
  rfl
theorem own_back (m : Nat) (h : m < 256) : nar .char (nar .char (((nar .byte ((nar .char (Int32.ofNat m)).toInt8.toInt32)) &&& (255 : Int32)).toUInt32.toUInt16.toUInt32.toInt32)) = Int32.ofNat m :=
  (show ∀ k : Fin 256, nar .char (nar .char (((nar .byte ((nar .char (Int32.ofNat k.val)).toInt8.toInt32)) &&& (255 : Int32)).toUInt32.toUInt16.toUInt32.toInt32)) = Int32.ofNat k.val from by decide +kernel) ⟨m, h⟩
theorem own_u (f : Int32 → Int32) (i v : Int32) : upd f i v i = v := if_pos rfl
theorem own_v (f : Int32 → Int32) (i v j : Int32) (h : ¬ j = i) : upd f i v j = f j := if_neg h
theorem own_ca (x : Int32) (v : Int32 → Int32) (j : Int32) (hx : ∃ m, m < 256 ∧ x = Int32.ofNat m) (h : v j = nar .byte ((nar .char x).toInt8.toInt32)) : f15 j v = x := by
  obtain ⟨m, hm, rfl⟩ := hx
  unfold f15 f17
  rw [h]
  exact own_back m hm
theorem own_r0 (e a : Int32) (v t : Int32 → Int32) : f12 e a 0 v t = (if e - a < 0 then 0 else 1) ∧ f12_F_at_a10 e a 0 v t = (if e - a < 0 then a else a + 0) := by
  unfold f12 f12_F_at_a10
  rw [show (0 : Int32).toNatClampNeg + 1 = 0 + 1 from rfl]
  rw [f12_L_succ, f12_F_at_a1_succ, if_neg (show ¬ (0 : Int32) < 0 from by decide), if_neg (show ¬ (0 : Int32) < 0 from by decide)]
  exact ⟨rfl, rfl⟩
theorem own_r1 (e a : Int32) (v t : Int32 → Int32) (x : Int32) (h0 : f15 0 v = x) : f12 e a 1 v t = (if e - a < 1 then 0 else if t a = x then 1 else 0) ∧ f12_F_at_a10 e a 1 v t = (if e - a < 1 then a else if t a = x then a + 1 else a) := by
  unfold f12 f12_F_at_a10
  rw [show (1 : Int32).toNatClampNeg + 1 = 0 + 1 + 1 from rfl]
  rw [f12_L_succ, f12_F_at_a1_succ, if_pos (show (0 : Int32) < 1 from by decide), if_pos (show (0 : Int32) < 1 from by decide), show (0 : Int32) + 1 = 1 from rfl]
  rw [f12_L_succ, f12_F_at_a1_succ, if_neg (show ¬ (1 : Int32) < 1 from by decide), if_neg (show ¬ (1 : Int32) < 1 from by decide)]
  rw [h0, Int32.add_zero]
  exact ⟨rfl, rfl⟩
theorem own_r2 (e a : Int32) (v t : Int32 → Int32) (x y : Int32) (h0 : f15 0 v = x) (h1 : f15 1 v = y) : f12 e a 2 v t = (if e - a < 2 then 0 else if t a = x then (if t (a + 1) = y then 1 else 0) else 0) ∧ f12_F_at_a10 e a 2 v t = (if e - a < 2 then a else if t a = x then (if t (a + 1) = y then a + 2 else a) else a) := by
  unfold f12 f12_F_at_a10
  rw [show (2 : Int32).toNatClampNeg + 1 = 0 + 1 + 1 + 1 from rfl]
  rw [f12_L_succ, f12_F_at_a1_succ, if_pos (show (0 : Int32) < 2 from by decide), if_pos (show (0 : Int32) < 2 from by decide), show (0 : Int32) + 1 = 1 from rfl]
  rw [f12_L_succ, f12_F_at_a1_succ, if_pos (show (1 : Int32) < 2 from by decide), if_pos (show (1 : Int32) < 2 from by decide), show (1 : Int32) + 1 = 2 from rfl]
  rw [f12_L_succ, f12_F_at_a1_succ, if_neg (show ¬ (2 : Int32) < 2 from by decide), if_neg (show ¬ (2 : Int32) < 2 from by decide)]
  rw [h0, h1, Int32.add_zero]
  exact ⟨rfl, rfl⟩
theorem own_r3 (e a : Int32) (v t : Int32 → Int32) (x y z : Int32) (h0 : f15 0 v = x) (h1 : f15 1 v = y) (h2 : f15 2 v = z) : f12 e a 3 v t = (if e - a < 3 then 0 else if t a = x then (if t (a + 1) = y then (if t (a + 2) = z then 1 else 0) else 0) else 0) ∧ f12_F_at_a10 e a 3 v t = (if e - a < 3 then a else if t a = x then (if t (a + 1) = y then (if t (a + 2) = z then a + 3 else a) else a) else a) := by
  unfold f12 f12_F_at_a10
  rw [show (3 : Int32).toNatClampNeg + 1 = 0 + 1 + 1 + 1 + 1 from rfl]
  rw [f12_L_succ, f12_F_at_a1_succ, if_pos (show (0 : Int32) < 3 from by decide), if_pos (show (0 : Int32) < 3 from by decide), show (0 : Int32) + 1 = 1 from rfl]
  rw [f12_L_succ, f12_F_at_a1_succ, if_pos (show (1 : Int32) < 3 from by decide), if_pos (show (1 : Int32) < 3 from by decide), show (1 : Int32) + 1 = 2 from rfl]
  rw [f12_L_succ, f12_F_at_a1_succ, if_pos (show (2 : Int32) < 3 from by decide), if_pos (show (2 : Int32) < 3 from by decide), show (2 : Int32) + 1 = 3 from rfl]
  rw [f12_L_succ, f12_F_at_a1_succ, if_neg (show ¬ (3 : Int32) < 3 from by decide), if_neg (show ¬ (3 : Int32) < 3 from by decide)]
  rw [h0, h1, h2, Int32.add_zero]
  exact ⟨rfl, rfl⟩
theorem own_t20 (x y : Int32) : f4_u2 x y 0 = nar .char x := (own_v _ _ _ _ (by decide)).trans (own_u _ _ _)
theorem own_t21 (x y : Int32) : f4_u2 x y 1 = nar .char y := own_u _ _ _
theorem own_w1 (x y z : Int32) : f4_u5 1 x y z = f9_G_a30 1 (f4_u1 x) (fun _ => 0) := by
  unfold f4_u5
  rw [if_neg (show ¬ (1 : Int32) = 0 from by decide), if_pos rfl]
theorem own_w2 (x y z : Int32) : f4_u5 2 x y z = f9_G_a30 2 (f4_u2 x y) (fun _ => 0) := by
  unfold f4_u5
  rw [if_neg (show ¬ (2 : Int32) = 0 from by decide), if_neg (show ¬ (2 : Int32) = 1 from by decide), if_pos rfl]
theorem own_w3 (x y z : Int32) : f4_u5 3 x y z = f9_G_a30 3 (f4_u3 x y z) (fun _ => 0) := by
  unfold f4_u5
  rw [if_neg (show ¬ (3 : Int32) = 0 from by decide), if_neg (show ¬ (3 : Int32) = 1 from by decide), if_neg (show ¬ (3 : Int32) = 2 from by decide)]
theorem plain (p1 p2 p3 p4 : Int32) : f0 p1 p2 p3 p4 = 1 := by
  obtain ⟨n, hn, e⟩ := own_mask p4 3 3 (by decide)
  have x0 : ∃ m, m < 256 ∧ f0_u8 p1 p2 p3 p4 = Int32.ofNat m := own_x _ _ _ _ _
  have x1 : ∃ m, m < 256 ∧ f0_u9 p1 p2 p3 p4 = Int32.ofNat m := own_x _ _ _ _ _
  have x2 : ∃ m, m < 256 ∧ f0_u10 p1 p2 p3 p4 = Int32.ofNat m := own_x _ _ _ _ _
  unfold f0 f0_u11 f0_u13 f0_u12 f20
  generalize f0_u8 p1 p2 p3 p4 = x at *
  generalize f0_u9 p1 p2 p3 p4 = y at *
  generalize f0_u10 p1 p2 p3 p4 = z at *
  generalize f0_u4 p1 = t at *
  generalize f0_u6 p3 = a at *
  generalize f0_u7 p3 = b at *
  rw [e]
  have h : n = 0 ∨ n = 1 ∨ n = 2 ∨ n = 3 := by omega
  rcases h with rfl | rfl | rfl | rfl
  · rw [show Int32.ofNat 0 = (0 : Int32) from rfl, show f4_u4 (0 : Int32) = 0 from by decide, (own_r0 _ _ _ _).1, (own_r0 _ _ _ _).2]
    by_cases c : b - a < 0
    · simp +decide [c]
    · simp +decide [c]
  · rw [show Int32.ofNat 1 = (1 : Int32) from rfl, show f4_u4 (1 : Int32) = 1 from by decide]
    have q := own_r1 b a (f4_u5 1 x y z) t x (own_ca x _ 0 x0 (by rw [own_w1, own_g1, own_u, show f4_u1 x 0 = nar .char x from own_u _ _ _]))
    rw [q.1, q.2]
    by_cases c : b - a < 1
    · simp +decide [c]
    · simp only [if_neg c]
      by_cases c1 : t a = x
      · simp +decide [c1]
      · simp +decide [c1]
  · rw [show Int32.ofNat 2 = (2 : Int32) from rfl, show f4_u4 (2 : Int32) = 2 from by decide]
    have q := own_r2 b a (f4_u5 2 x y z) t x y
      (own_ca x _ 0 x0 (by rw [own_w2, own_g2, own_v _ _ _ _ (by decide), own_u, own_t20]))
      (own_ca y _ 1 x1 (by rw [own_w2, own_g2, own_u, own_t21]))
    rw [q.1, q.2]
    by_cases c : b - a < 2
    · simp +decide [c]
    · simp only [if_neg c]
      by_cases c1 : t a = x
      · by_cases c2 : t (a + 1) = y
        · simp +decide [c1, c2]
        · simp +decide [c1, c2]
      · simp +decide [c1]
  · rw [show Int32.ofNat 3 = (3 : Int32) from rfl, show f4_u4 (3 : Int32) = 3 from by decide]
    have q := own_r3 b a (f4_u5 3 x y z) t x y z
      (own_ca x _ 0 x0 (by rw [own_w3, own_g3, own_v _ _ _ _ (by decide), own_v _ _ _ _ (by decide), own_u, show f4_u3 x y z 0 = nar .char x from (own_v _ _ _ _ (by decide)).trans (own_t20 x y)]))
      (own_ca y _ 1 x1 (by rw [own_w3, own_g3, own_v _ _ _ _ (by decide), own_u, show f4_u3 x y z 1 = nar .char y from (own_v _ _ _ _ (by decide)).trans (own_t21 x y)]))
      (own_ca z _ 2 x2 (by rw [own_w3, own_g3, own_u, show f4_u3 x y z 2 = nar .char z from own_u _ _ _]))
    rw [q.1, q.2]
    by_cases c : b - a < 3
    · simp +decide [c]
    · simp only [if_neg c]
      by_cases c1 : t a = x
      · by_cases c2 : t (a + 1) = y
        · by_cases c3 : t (a + 2) = z
          · simp +decide [c1, c2, c3]
          · simp +decide [c1, c2, c3]
        · simp +decide [c1, c2]
      · simp +decide [c1]
set_option maxRecDepth 65536 in
set_option maxHeartbeats 40000000 in
theorem comes_1 {Post : Tables → Env → Array Value → State → Outcome → State → Prop} (hpost : ∀ tb e args s v u, (limb_1_1.after args s (.returned v) u = true ∧ limb_1_2.after args s (.returned v) u = true ∧ True) → ReturnedEndW s (.returned v) u (Jvm.fieldLocs frame_1_writes args s ++ Jvm.arrayLocs frame_1_arrays args s ++ Jvm.staticLocs frame_1_statics s) 24 1152 → Post tb e args s (.returned v) u) :
    ArmFor flags0 classFile x code maxLocals ret World_1 tables_1 room_1 Calls_1 rest_1 Pre_1 Post := by
  intro l hfl _ _ p e ha hc hk s m args below hf hA hF happ hP
  obtain ⟨hcalls, hrest, hpre⟩ := hP
  obtain ⟨-, -, -, hnamed, -, -, -, hat⟩ := (Spec.applies_iff hf).mp happ
  obtain ⟨hg, hn⟩ := and_e (Cond.before_iff.mp (show (Jvm.Cond.and given_1 narrow_1).before args s = true from hpre))
  obtain ⟨gc, g0⟩ := and_e hg
  obtain ⟨gi0, g1⟩ := and_e g0
  obtain ⟨gi1, g2⟩ := and_e g1
  obtain ⟨gi2, g3⟩ := and_e g2
  have gi3 := g3
  obtain ⟨w0, w1, w2, w3, rfl⟩ : ∃ w0 w1 w2 w3 : Value, args = #[w0, w1, w2, w3] := by
    have hs : args.size = 4 := by simpa [Cond.value, given_1] using gc
    obtain ⟨L⟩ := args
    match L, hs with
    | [w0, w1, w2, w3], _ => exact ⟨w0, w1, w2, w3, rfl⟩
  have hw := fun d (hd : d ∈ tables_1) => atoms_spec (ws := Jvm.Cond.code x code maxLocals ret :: tables_1) hat d (List.mem_cons_of_mem _ hd)
  have hfit : Fit s := fun {y c} hc i hi => by
    obtain ⟨ha, rfl⟩ := Array.getElem?_eq_some_iff.mp hc
    have q := List.all_eq_true.mp ((Array.all_eq_true_iff_forall_mem.mp hF) _ (Array.getElem_mem ha)) i (List.mem_range.mpr hi)
    simpa [Array.getElem?_eq_getElem hi] using q
  obtain ⟨i0, ei0⟩ := is_v gi0
  obtain rfl : w0 = (.int i0) := Option.some.inj ei0
  obtain ⟨i1, ei1⟩ := is_v gi1
  obtain rfl : w1 = (.int i1) := Option.some.inj ei1
  obtain ⟨i2, ei2⟩ := is_v gi2
  obtain rfl : w2 = (.int i2) := Option.some.inj ei2
  obtain ⟨i3, ei3⟩ := is_v gi3
  obtain rfl : w3 = (.int i3) := Option.some.inj ei3
  obtain ⟨ra0, rb0⟩ := and_e (Cond.before_iff.mp (show rest_1_c.before _ s = true from hrest))
  obtain ⟨ra1, rb1⟩ := and_e rb0
  obtain ⟨ra2, rb2⟩ := and_e rb1
  obtain ⟨ra3, rb3⟩ := and_e rb2
  obtain ⟨ra4, rb4⟩ := and_e rb3
  obtain ⟨ra5, rb5⟩ := and_e rb4
  obtain ⟨ra6, rb6⟩ := and_e rb5
  obtain ⟨ra7, rb7⟩ := and_e rb6
  obtain ⟨ra8, rb8⟩ := and_e rb7
  obtain ⟨w_COMPACT_STRINGS, ev_COMPACT_STRINGS⟩ := is_v ra1
  have S_COMPACT_STRINGS : Sta s s.heap "java/lang/String" "COMPACT_STRINGS" "Z" (.int w_COMPACT_STRINGS) := Sta.start ev_COMPACT_STRINGS (Or.inl (Cond.before_iff.mpr ra0))
  have hcs : ¬ (w_COMPACT_STRINGS = 0) := own_nzs ev_COMPACT_STRINGS ra2
  have hcw : Jvm.Lit.compactW.before _ s = true := Cond.before_iff.mpr ra2
  obtain ⟨w_SIOOBE_FORMATTER, ev_SIOOBE_FORMATTER, hr_w_SIOOBE_FORMATTER⟩ := own_isref ra8
  have S_SIOOBE_FORMATTER : Sta s s.heap "jdk/internal/util/Preconditions" "SIOOBE_FORMATTER" "Ljava/util/function/BiFunction;" w_SIOOBE_FORMATTER := Sta.start ev_SIOOBE_FORMATTER (Or.inl (Cond.before_iff.mpr ra7))
  obtain ⟨n, o, h1, h2, h3, v, L, rfl, ⟨hv, N, -⟩, hq⟩ := rm0 l s _ hw tables_1 i0 i1 i2 i3 w_COMPACT_STRINGS w_SIOOBE_FORMATTER s.heap s.heap.size (Nat.le_refl _) S_COMPACT_STRINGS hcs hr_w_SIOOBE_FORMATTER S_SIOOBE_FORMATTER p e ha hc hk s m _ below hf ((Spec.applies_iff_loose hf).mp happ).1 ⟨rfl, State.Warmed39.refl s, rfl, CHv.start (ew0 hw) hcalls.1 hcw (hw _ (List.mem_of_getElem? (i := 33) rfl)) (hw _ (List.mem_of_getElem? (i := 16) rfl))⟩ trivial
  rw [plain i0 i1 i2 i3] at hv
  subst hv
  refine ⟨n, _, h1, h2, h3, hpost _ _ _ _ _ _ ⟨Cond.after_iff.mpr rfl, Cond.after_iff.mpr (eq_i res_at (Term.int_eval (1)) rfl), trivial⟩ ⟨hq.1, hq.2.1, hq.2.2.1, (hq.2.2.2.sift fun y hy => Or.inr (N y hy)).mono (by decide) (by decide)⟩⟩
theorem main_1_1 : Claimed_1_1 := comes_1 fun _ _ _ _ _ _ h hF => ⟨h.1, hF⟩
theorem main_1_2 : Claimed_1_2 := comes_1 fun _ _ _ _ _ _ h hF => ⟨h.2.1, hF⟩
end Jvm.Pilot.@@N@@
namespace Jvm.Pilot.@@N@@
open Jvm Jvm.ClassFile Sem Op Lib Jvm.Free Jvm.Stand Jvm.Pilot.@@N@@.Jvm.D
/-! MADE BY PROGRAM (witnessworld.py) out of the Statement's table words and the real class files: 21 classes; the members and pool entries that the words name. The judged class is class 1, her method 1. -/
namespace start1
open Jvm.ClassFile
def u (s : String) : CpInfo := .utf8 (stringToUtf16 s)
/-- a pool by its gaps: so many unusable entries, then the entry; so many at the end -/
def gap : Nat → List CpInfo → List CpInfo
  | 0, r => r
  | n + 1, r => .unusable :: gap n r
def poolList (es : List (Nat × CpInfo)) (last : Nat) : List CpInfo := es.foldr (fun e r => gap e.1 (e.2 :: r)) (gap last [])
def pool (es : List (Nat × CpInfo)) (last : Nat) : Array CpInfo := ⟨poolList es last⟩
def fileOf (pool : Array CpInfo) (this : Nat) (attrs : Array Attribute := #[]) (ms : Array MethodInfo := #[]) (fl : Nat := 33) (sup : Nat := 0) (ifs : Array Nat := #[]) (fds : Array FieldInfo := #[]) : ClassFile where
  minorVersion := 0
  majorVersion := 65
  constantPool := pool
  accessFlags := fl
  thisClass := this
  superClass := sup
  interfaces := ifs
  fields := fds
  methods := ms
  attributes := attrs
def plain (name : String) (sup : Option ClassId) : Class where
  name := name
  kind := .ordinary
  loader := none
  accessFlags := 33
  super := sup
  interfaces := #[]
  cf := none
  fields := #[]
  methods := #[]
  instanceTypes := #[]
  staticTypes := #[]
  resolved := #[]
  callSites := []
  init := .initialized
  statics := none
  mirror := none

def pool0 : Array CpInfo := pool [(5, u "<init>"), (0, u "()V"), (1, .class_ 10), (1, u "java/lang/Object")] 113

def k0c0 : Code := { maxStack := 0, maxLocals := 1, code := object_method_1_code, exceptionTable := #[], attributes := #[] }
def k0m0 : Method := { name := "<init>", desc := "()V", sig := { parameters := [], returnType := none }, accessFlags := 1, code := some k0c0 }
/-- java/lang/Object -/
def k0 : Class := { plain "java/lang/Object" none with
  accessFlags := 33
  interfaces := #[]
  cf := some (fileOf pool0 8 #[] #[{ accessFlags := 1, nameIndex := 5, descriptorIndex := 6, attributes := #[] }] 33 0 #[] #[])
  fields := #[]
  methods := #[k0m0]
  instanceTypes := #[]
  staticTypes := #[]
  resolved := Array.replicate 124 none
  statics := none }

def pool1 : Array CpInfo := pool [(2, .class_ 4), (1, u "java/lang/Object"), (0, u "<init>"), (0, u "()V"), (0, .methodref 8 9), (0, .class_ 10), (0, .nameAndType 11 12), (0, u "java/lang/Math"), (0, u "min"), (0, u "(II)I"), (0, .methodref 8 14), (0, .nameAndType 15 12), (0, u "max"), (0, .methodref 17 18), (0, .class_ 19), (0, .nameAndType 20 21), (0, u "com/example/clapboard/clapboard/parse/TextCursorReadPinLaw"), (0, u "pick"), (0, u "([CIIII)C"), (0, .methodref 17 23), (0, .nameAndType 24 25), (0, u "make"), (0, u "(ICCC)Ljava/lang/String;"), (0, .class_ 27), (0, u "com/example/clapboard/clapboard/parse/TextCursor"), (0, .methodref 26 29), (0, .nameAndType 5 30), (0, u "([CII)V"), (0, .methodref 26 32), (0, .nameAndType 33 34), (0, u "read"), (0, u "(Ljava/lang/String;)Z"), (0, .methodref 26 36), (0, .nameAndType 37 38), (0, u "position"), (0, u "()I"), (0, .class_ 40), (0, u "java/lang/String"), (0, .methodref 39 42), (0, .nameAndType 5 43), (0, u "([C)V"), (2, u "law"), (0, u "(IIII)Z")] 5

def k1m0 : Method := { name := "<init>", desc := "()V", sig := { parameters := [], returnType := none }, accessFlags := 1, code := none }
def k1c1 : Code := { maxStack := 5, maxLocals := 18, code := code, exceptionTable := #[], attributes := #[] }
def k1m1 : Method := { name := "law", desc := "(IIII)Z", sig := { parameters := [.int, .int, .int, .int], returnType := some .boolean }, accessFlags := 9, code := some k1c1 }
def k1c2 : Code := { maxStack := 3, maxLocals := 5, code := method_3_code, exceptionTable := #[], attributes := #[] }
def k1m2 : Method := { name := "pick", desc := "([CIIII)C", sig := { parameters := [(.array .char), .int, .int, .int, .int], returnType := some .char }, accessFlags := 10, code := some k1c2 }
def k1c3 : Code := { maxStack := 3, maxLocals := 5, code := method_4_code, exceptionTable := #[], attributes := #[] }
def k1m3 : Method := { name := "make", desc := "(ICCC)Ljava/lang/String;", sig := { parameters := [.int, .char, .char, .char], returnType := some (.object "java/lang/String") }, accessFlags := 10, code := some k1c3 }
/-- com/example/clapboard/clapboard/parse/TextCursorReadPinLaw -/
def k1 : Class := { plain "com/example/clapboard/clapboard/parse/TextCursorReadPinLaw" (some 0) with
  accessFlags := 49
  interfaces := #[]
  cf := some (fileOf pool1 17 #[] #[{ accessFlags := 1, nameIndex := 5, descriptorIndex := 6, attributes := #[] }, { accessFlags := 9, nameIndex := 46, descriptorIndex := 47, attributes := #[] }, { accessFlags := 10, nameIndex := 20, descriptorIndex := 21, attributes := #[] }, { accessFlags := 10, nameIndex := 24, descriptorIndex := 25, attributes := #[] }] 49 2 #[] #[])
  fields := #[]
  methods := #[k1m0, k1m1, k1m2, k1m3]
  instanceTypes := #[]
  staticTypes := #[]
  resolved := Array.replicate 53 none
  statics := none }

def pool2 : Array CpInfo := pool [(1, .class_ 2), (0, u "java/lang/Math"), (1, .class_ 6), (1, u "java/lang/Object"), (0, u "<init>"), (0, u "()V"), (89, .class_ 100), (1, u "java/lang/Math$RandomNumberGeneratorHolder"), (71, u "negativeZeroFloatBits"), (0, u "J"), (2, u "negativeZeroDoubleBits"), (21, u "max"), (2, u "min"), (43, u "$assertionsDisabled"), (0, u "Z"), (88, u "(II)I"), (2, u "twoToTheDoubleScaleDown"), (0, u "D"), (4, u "twoToTheDoubleScaleUp"), (9, u "E"), (3, u "PI"), (2, u "TAU"), (2, u "DEGREES_TO_RADIANS"), (0, u "RADIANS_TO_DEGREES")] 94

def k2m0 : Method := { name := "<init>", desc := "()V", sig := { parameters := [], returnType := none }, accessFlags := 2, code := none }
def k2c1 : Code := { maxStack := 2, maxLocals := 2, code := jdk_29_method_65_code, exceptionTable := #[], attributes := #[] }
def k2m1 : Method := { name := "max", desc := "(II)I", sig := { parameters := [.int, .int], returnType := some .int }, accessFlags := 9, code := some k2c1 }
def k2c2 : Code := { maxStack := 2, maxLocals := 2, code := jdk_29_method_69_code, exceptionTable := #[], attributes := #[] }
def k2m2 : Method := { name := "min", desc := "(II)I", sig := { parameters := [.int, .int], returnType := some .int }, accessFlags := 9, code := some k2c2 }
/-- java/lang/Math -/
def k2 : Class := { plain "java/lang/Math" (some 0) with
  accessFlags := 49
  interfaces := #[]
  cf := some (fileOf pool2 1 #[.nestMembers #[98]] #[{ accessFlags := 2, nameIndex := 7, descriptorIndex := 8, attributes := #[] }, { accessFlags := 9, nameIndex := 198, descriptorIndex := 335, attributes := #[] }, { accessFlags := 9, nameIndex := 201, descriptorIndex := 335, attributes := #[] }] 49 4 #[] #[{ accessFlags := 25, nameIndex := 354, descriptorIndex := 339, attributes := #[] }, { accessFlags := 25, nameIndex := 358, descriptorIndex := 339, attributes := #[] }, { accessFlags := 25, nameIndex := 361, descriptorIndex := 339, attributes := #[] }, { accessFlags := 26, nameIndex := 364, descriptorIndex := 339, attributes := #[] }, { accessFlags := 26, nameIndex := 365, descriptorIndex := 339, attributes := #[] }, { accessFlags := 26, nameIndex := 172, descriptorIndex := 173, attributes := #[] }, { accessFlags := 26, nameIndex := 176, descriptorIndex := 173, attributes := #[] }, { accessFlags := 8, nameIndex := 344, descriptorIndex := 339, attributes := #[] }, { accessFlags := 8, nameIndex := 338, descriptorIndex := 339, attributes := #[] }, { accessFlags := 4120, nameIndex := 245, descriptorIndex := 246, attributes := #[] }])
  fields := #[{ name := "E", type := .double, accessFlags := 25, slot := 0, constantValue := 0 }, { name := "PI", type := .double, accessFlags := 25, slot := 1, constantValue := 0 }, { name := "TAU", type := .double, accessFlags := 25, slot := 2, constantValue := 0 }, { name := "DEGREES_TO_RADIANS", type := .double, accessFlags := 26, slot := 3, constantValue := 0 }, { name := "RADIANS_TO_DEGREES", type := .double, accessFlags := 26, slot := 4, constantValue := 0 }, { name := "negativeZeroFloatBits", type := .long, accessFlags := 26, slot := 5, constantValue := 0 }, { name := "negativeZeroDoubleBits", type := .long, accessFlags := 26, slot := 6, constantValue := 0 }, { name := "twoToTheDoubleScaleUp", type := .double, accessFlags := 8, slot := 7, constantValue := 0 }, { name := "twoToTheDoubleScaleDown", type := .double, accessFlags := 8, slot := 8, constantValue := 0 }, { name := "$assertionsDisabled", type := .boolean, accessFlags := 4120, slot := 9, constantValue := 0 }]
  methods := #[k2m0, k2m1, k2m2]
  instanceTypes := #[]
  staticTypes := #[.double, .double, .double, .double, .double, .long, .long, .double, .double, .boolean]
  resolved := Array.replicate 460 none
  statics := none }

def pool3 : Array CpInfo := pool [(1, .class_ 2), (0, u "java/io/Serializable"), (0, .class_ 4), (0, u "java/lang/Object")] 2

/-- java/io/Serializable -/
def k3 : Class := { plain "java/io/Serializable" (some 0) with
  accessFlags := 1537
  interfaces := #[]
  cf := some (fileOf pool3 1 #[] #[] 1537 3 #[] #[])
  fields := #[]
  methods := #[]
  instanceTypes := #[]
  staticTypes := #[]
  resolved := Array.replicate 7 none
  statics := none }

def pool4 : Array CpInfo := pool [(1, .class_ 2), (0, u "java/lang/Comparable"), (0, .class_ 4), (0, u "java/lang/Object")] 7

/-- java/lang/Comparable -/
def k4 : Class := { plain "java/lang/Comparable" (some 0) with
  accessFlags := 1537
  interfaces := #[]
  cf := some (fileOf pool4 1 #[] #[] 1537 3 #[] #[])
  fields := #[]
  methods := #[]
  instanceTypes := #[]
  staticTypes := #[]
  resolved := Array.replicate 12 none
  statics := none }

def pool5 : Array CpInfo := pool [(2, .class_ 4), (1, u "java/lang/CharSequence"), (42, .class_ 48), (0, u "java/lang/CharSequence$1CodePointIterator"), (10, .class_ 60), (0, u "java/lang/CharSequence$1CharIterator"), (5, .class_ 67), (0, u "java/lang/Object")] 63

/-- java/lang/CharSequence -/
def k5 : Class := { plain "java/lang/CharSequence" (some 0) with
  accessFlags := 1537
  interfaces := #[]
  cf := some (fileOf pool5 2 #[.nestMembers #[47, 59]] #[] 1537 66 #[] #[])
  fields := #[]
  methods := #[]
  instanceTypes := #[]
  staticTypes := #[]
  resolved := Array.replicate 131 none
  statics := none }

def pool6 : Array CpInfo := pool [(1, .class_ 2), (0, u "java/lang/constant/Constable"), (0, .class_ 4), (0, u "java/lang/Object")] 6

/-- java/lang/constant/Constable -/
def k6 : Class := { plain "java/lang/constant/Constable" (some 0) with
  accessFlags := 1537
  interfaces := #[]
  cf := some (fileOf pool6 1 #[] #[] 1537 3 #[] #[])
  fields := #[]
  methods := #[]
  instanceTypes := #[]
  staticTypes := #[]
  resolved := Array.replicate 11 none
  statics := none }

def pool7 : Array CpInfo := pool [(1, .class_ 2), (0, u "java/lang/constant/ConstantDesc"), (0, .class_ 4), (0, u "java/lang/Object")] 32

/-- java/lang/constant/ConstantDesc -/
def k7 : Class := { plain "java/lang/constant/ConstantDesc" (some 0) with
  accessFlags := 1537
  interfaces := #[]
  cf := some (fileOf pool7 1 #[] #[] 1537 3 #[] #[])
  fields := #[]
  methods := #[]
  instanceTypes := #[]
  staticTypes := #[]
  resolved := Array.replicate 37 none
  statics := none }

def pool8 : Array CpInfo := pool [(1, .methodref 2 3), (0, .class_ 4), (0, .nameAndType 5 6), (0, u "java/lang/Object"), (0, u "<init>"), (0, u "()V"), (0, .string 8), (0, u ""), (0, .fieldref 10 11), (0, .class_ 12), (0, .nameAndType 13 14), (0, u "java/lang/String"), (0, u "value"), (0, u "[B"), (0, .fieldref 10 16), (0, .nameAndType 17 18), (0, u "coder"), (0, u "B"), (2, u "hash"), (0, u "I"), (2, u "hashIsZero"), (0, u "Z"), (0, .methodref 10 28), (0, .nameAndType 5 29), (0, u "([CIILjava/lang/Void;)V"), (8, .fieldref 10 39), (0, .nameAndType 40 26), (0, u "COMPACT_STRINGS"), (1, .class_ 44), (1, u "java/lang/StringUTF16"), (0, u "compress"), (1, .methodref 42 48), (0, .nameAndType 49 50), (0, u "coderFromArrayLen"), (0, u "([BI)B"), (56, .class_ 109), (1, u "java/lang/StringLatin1"), (32, u "()Z"), (34, .methodref 42 178), (0, .nameAndType 45 179), (0, u "([CII)[B"), (154, u "()I"), (0, .methodref 10 336), (0, .nameAndType 17 337), (0, u "()B"), (25, u "([BI)C"), (27, u "(II)V"), (35, u "(I)C"), (64, .methodref 10 493), (0, .nameAndType 494 142), (0, u "isLatin1"), (0, .methodref 107 496), (0, .nameAndType 497 363), (0, u "charAt"), (3, u "checkIndex"), (5, u "length"), (67, .class_ 576), (0, u "java/lang/CharSequence"), (22, u "CASE_INSENSITIVE_ORDER"), (0, u "Ljava/util/Comparator;"), (409, u "([C)V"), (42, .fieldref 1054 1055), (0, .class_ 1056), (0, .nameAndType 1057 1058), (0, u "jdk/internal/util/Preconditions"), (0, u "SIOOBE_FORMATTER"), (0, u "Ljava/util/function/BiFunction;"), (0, .methodref 1054 1060), (0, .nameAndType 501 1061), (0, u "(IILjava/util/function/BiFunction;)I"), (39, u "serialPersistentFields"), (0, u "[Ljava/io/ObjectStreamField;"), (0, .class_ 1104), (0, u "java/lang/String$CaseInsensitiveComparator"), (1, .class_ 1107), (0, u "java/io/Serializable"), (0, .class_ 1109), (0, u "java/lang/Comparable"), (0, .class_ 1111), (0, u "java/lang/constant/Constable"), (0, .class_ 1113), (0, u "java/lang/constant/ConstantDesc"), (2, u "serialVersionUID"), (0, u "J"), (3, u "REPL"), (0, u "C"), (2, u "LATIN1"), (1, u "UTF16")] 323

def k8m0 : Method := { name := "<init>", desc := "()V", sig := { parameters := [], returnType := none }, accessFlags := 1, code := none }
def k8c1 : Code := { maxStack := 5, maxLocals := 2, code := jdk_42_method_3_code, exceptionTable := #[], attributes := #[] }
def k8m1 : Method := { name := "<init>", desc := "([C)V", sig := { parameters := [(.array .char)], returnType := none }, accessFlags := 1, code := some k8c1 }
def k8c2 : Code := { maxStack := 2, maxLocals := 1, code := jdk_42_method_54_code, exceptionTable := #[], attributes := #[] }
def k8m2 : Method := { name := "length", desc := "()I", sig := { parameters := [], returnType := some .int }, accessFlags := 1, code := some k8c2 }
def k8c3 : Code := { maxStack := 2, maxLocals := 2, code := jdk_42_method_56_code, exceptionTable := #[], attributes := #[] }
def k8m3 : Method := { name := "charAt", desc := "(I)C", sig := { parameters := [.int], returnType := some .char }, accessFlags := 1, code := some k8c3 }
def k8c4 : Code := { maxStack := 4, maxLocals := 6, code := jdk_42_method_149_code, exceptionTable := #[], attributes := #[] }
def k8m4 : Method := { name := "<init>", desc := "([CIILjava/lang/Void;)V", sig := { parameters := [(.array .char), .int, .int, (.object "java/lang/Void")], returnType := none }, accessFlags := 2, code := some k8c4 }
def k8c5 : Code := { maxStack := 1, maxLocals := 1, code := jdk_42_method_152_code, exceptionTable := #[], attributes := #[] }
def k8m5 : Method := { name := "coder", desc := "()B", sig := { parameters := [], returnType := some .byte }, accessFlags := 0, code := some k8c5 }
def k8c6 : Code := { maxStack := 1, maxLocals := 1, code := jdk_42_method_154_code, exceptionTable := #[], attributes := #[] }
def k8m6 : Method := { name := "isLatin1", desc := "()Z", sig := { parameters := [], returnType := some .boolean }, accessFlags := 0, code := some k8c6 }
def k8c7 : Code := { maxStack := 3, maxLocals := 2, code := jdk_42_method_155_code, exceptionTable := #[], attributes := #[] }
def k8m7 : Method := { name := "checkIndex", desc := "(II)V", sig := { parameters := [.int, .int], returnType := none }, accessFlags := 8, code := some k8c7 }
/-- java/lang/String -/
def k8 : Class := { plain "java/lang/String" (some 0) with
  accessFlags := 49
  interfaces := #[3, 4, 5, 6, 7]
  cf := some (fileOf pool8 10 #[.nestMembers #[1103]] #[{ accessFlags := 1, nameIndex := 5, descriptorIndex := 6, attributes := #[] }, { accessFlags := 1, nameIndex := 5, descriptorIndex := 1010, attributes := #[] }, { accessFlags := 1, nameIndex := 507, descriptorIndex := 334, attributes := #[] }, { accessFlags := 1, nameIndex := 497, descriptorIndex := 427, attributes := #[] }, { accessFlags := 2, nameIndex := 5, descriptorIndex := 29, attributes := #[] }, { accessFlags := 0, nameIndex := 17, descriptorIndex := 337, attributes := #[] }, { accessFlags := 0, nameIndex := 494, descriptorIndex := 142, attributes := #[] }, { accessFlags := 8, nameIndex := 501, descriptorIndex := 391, attributes := #[] }] 49 2 #[1106, 1108, 575, 1110, 1112] #[{ accessFlags := 18, nameIndex := 13, descriptorIndex := 14, attributes := #[] }, { accessFlags := 18, nameIndex := 17, descriptorIndex := 18, attributes := #[] }, { accessFlags := 2, nameIndex := 21, descriptorIndex := 22, attributes := #[] }, { accessFlags := 2, nameIndex := 25, descriptorIndex := 26, attributes := #[] }, { accessFlags := 26, nameIndex := 1116, descriptorIndex := 1117, attributes := #[] }, { accessFlags := 24, nameIndex := 40, descriptorIndex := 26, attributes := #[] }, { accessFlags := 26, nameIndex := 1101, descriptorIndex := 1102, attributes := #[] }, { accessFlags := 26, nameIndex := 1121, descriptorIndex := 1122, attributes := #[] }, { accessFlags := 25, nameIndex := 599, descriptorIndex := 600, attributes := #[] }, { accessFlags := 24, nameIndex := 1125, descriptorIndex := 18, attributes := #[] }, { accessFlags := 24, nameIndex := 1127, descriptorIndex := 18, attributes := #[] }])
  fields := #[{ name := "value", type := (.array .byte), accessFlags := 18, slot := 0, constantValue := 0 }, { name := "coder", type := .byte, accessFlags := 18, slot := 1, constantValue := 0 }, { name := "hash", type := .int, accessFlags := 2, slot := 2, constantValue := 0 }, { name := "hashIsZero", type := .boolean, accessFlags := 2, slot := 3, constantValue := 0 }, { name := "serialVersionUID", type := .long, accessFlags := 26, slot := 0, constantValue := 0 }, { name := "COMPACT_STRINGS", type := .boolean, accessFlags := 24, slot := 1, constantValue := 0 }, { name := "serialPersistentFields", type := (.array (.object "java/io/ObjectStreamField")), accessFlags := 26, slot := 2, constantValue := 0 }, { name := "REPL", type := .char, accessFlags := 26, slot := 3, constantValue := 0 }, { name := "CASE_INSENSITIVE_ORDER", type := (.object "java/util/Comparator"), accessFlags := 25, slot := 4, constantValue := 0 }, { name := "LATIN1", type := .byte, accessFlags := 24, slot := 5, constantValue := 0 }, { name := "UTF16", type := .byte, accessFlags := 24, slot := 6, constantValue := 0 }]
  methods := #[k8m0, k8m1, k8m2, k8m3, k8m4, k8m5, k8m6, k8m7]
  instanceTypes := #[(.array .byte), .byte, .int, .boolean]
  staticTypes := #[.long, .boolean, (.array (.object "java/io/ObjectStreamField")), .char, (.object "java/util/Comparator"), .byte, .byte]
  resolved := Array.replicate 1451 none
  statics := some 0 }

def pool9 : Array CpInfo := pool [(6, .class_ 8), (1, u "java/lang/Object"), (0, u "<init>"), (0, u "()V"), (1, .class_ 14), (1, u "java/lang/StringUTF16"), (31, u "$assertionsDisabled"), (0, u "Z"), (13, u "HI_BYTE_SHIFT"), (0, u "I"), (2, u "LO_BYTE_SHIFT"), (49, .methodref 12 116), (0, .nameAndType 117 118), (0, u "compress"), (0, u "([CI[BII)I"), (3, u "([CII)[B"), (138, u "coderFromArrayLen"), (0, u "([BI)B"), (106, .class_ 371), (1, u "java/lang/StringUTF16$LinesSpliterator"), (58, u "MAX_LENGTH"), (196, .class_ 628), (0, u "java/lang/StringUTF16$CodePointsSpliterator"), (0, .class_ 630), (0, u "java/lang/StringUTF16$CharsSpliterator")] 4

def k9m0 : Method := { name := "<init>", desc := "()V", sig := { parameters := [], returnType := none }, accessFlags := 0, code := none }
def k9c1 : Code := { maxStack := 2, maxLocals := 2, code := jdk_52_method_15_code, exceptionTable := #[], attributes := #[] }
def k9m1 : Method := { name := "coderFromArrayLen", desc := "([BI)B", sig := { parameters := [(.array .byte), .int], returnType := some .byte }, accessFlags := 8, code := some k9c1 }
def k9c2 : Code := { maxStack := 5, maxLocals := 6, code := jdk_52_method_16_code, exceptionTable := #[], attributes := #[] }
def k9m2 : Method := { name := "compress", desc := "([CII)[B", sig := { parameters := [(.array .char), .int, .int], returnType := some (.array .byte) }, accessFlags := 9, code := some k9c2 }
def k9c3 : Code := { maxStack := 3, maxLocals := 7, code := jdk_52_method_21_code, exceptionTable := #[], attributes := #[] }
def k9m3 : Method := { name := "compress", desc := "([CI[BII)I", sig := { parameters := [(.array .char), .int, (.array .byte), .int, .int], returnType := some .int }, accessFlags := 9, code := some k9c3 }
/-- java/lang/StringUTF16 -/
def k9 : Class := { plain "java/lang/StringUTF16" (some 0) with
  accessFlags := 48
  interfaces := #[]
  cf := some (fileOf pool9 12 #[.nestMembers #[627, 629, 369]] #[{ accessFlags := 0, nameIndex := 9, descriptorIndex := 10, attributes := #[] }, { accessFlags := 8, nameIndex := 261, descriptorIndex := 262, attributes := #[] }, { accessFlags := 9, nameIndex := 117, descriptorIndex := 122, attributes := #[] }, { accessFlags := 9, nameIndex := 117, descriptorIndex := 118, attributes := #[] }] 48 6 #[] #[{ accessFlags := 26, nameIndex := 61, descriptorIndex := 62, attributes := #[] }, { accessFlags := 26, nameIndex := 65, descriptorIndex := 62, attributes := #[] }, { accessFlags := 24, nameIndex := 430, descriptorIndex := 62, attributes := #[] }, { accessFlags := 4120, nameIndex := 46, descriptorIndex := 47, attributes := #[] }])
  fields := #[{ name := "HI_BYTE_SHIFT", type := .int, accessFlags := 26, slot := 0, constantValue := 0 }, { name := "LO_BYTE_SHIFT", type := .int, accessFlags := 26, slot := 1, constantValue := 0 }, { name := "MAX_LENGTH", type := .int, accessFlags := 24, slot := 2, constantValue := 0 }, { name := "$assertionsDisabled", type := .boolean, accessFlags := 4120, slot := 3, constantValue := 0 }]
  methods := #[k9m0, k9m1, k9m2, k9m3]
  instanceTypes := #[]
  staticTypes := #[.int, .int, .int, .boolean]
  resolved := Array.replicate 635 none
  statics := none }

def pool10 : Array CpInfo := pool [(1, .methodref 2 3), (0, .class_ 4), (0, .nameAndType 5 6), (0, u "java/lang/Object"), (0, u "<init>"), (0, u "()V"), (0, .fieldref 8 9), (0, .class_ 10), (0, .nameAndType 11 12), (0, u "com/example/clapboard/clapboard/parse/TextCursor"), (0, u "text"), (0, u "[C"), (0, .fieldref 8 14), (0, .nameAndType 15 16), (0, u "at"), (0, u "I"), (0, .fieldref 8 18), (0, .nameAndType 19 16), (0, u "end"), (0, .class_ 21), (0, u "java/lang/String"), (2, u "([CII)V"), (0, .methodref 20 26), (0, .nameAndType 27 28), (0, u "length"), (0, u "()I"), (0, .methodref 20 30), (0, .nameAndType 31 32), (0, u "charAt"), (0, u "(I)C"), (10, u "position"), (5, u "read"), (0, u "(Ljava/lang/String;)Z")] 6

def k10c0 : Code := { maxStack := 2, maxLocals := 4, code := prog_127_method_1_code, exceptionTable := #[], attributes := #[] }
def k10m0 : Method := { name := "<init>", desc := "([CII)V", sig := { parameters := [(.array .char), .int, .int], returnType := none }, accessFlags := 0, code := some k10c0 }
def k10c1 : Code := { maxStack := 1, maxLocals := 1, code := prog_127_method_3_code, exceptionTable := #[], attributes := #[] }
def k10m1 : Method := { name := "position", desc := "()I", sig := { parameters := [], returnType := some .int }, accessFlags := 0, code := some k10c1 }
def k10c2 : Code := { maxStack := 3, maxLocals := 3, code := prog_127_method_6_code, exceptionTable := #[], attributes := #[] }
def k10m2 : Method := { name := "read", desc := "(Ljava/lang/String;)Z", sig := { parameters := [(.object "java/lang/String")], returnType := some .boolean }, accessFlags := 0, code := some k10c2 }
/-- com/example/clapboard/clapboard/parse/TextCursor -/
def k10 : Class := { plain "com/example/clapboard/clapboard/parse/TextCursor" (some 0) with
  accessFlags := 48
  interfaces := #[]
  cf := some (fileOf pool10 8 #[] #[{ accessFlags := 0, nameIndex := 5, descriptorIndex := 24, attributes := #[] }, { accessFlags := 0, nameIndex := 43, descriptorIndex := 28, attributes := #[] }, { accessFlags := 0, nameIndex := 49, descriptorIndex := 50, attributes := #[] }] 48 2 #[] #[{ accessFlags := 18, nameIndex := 11, descriptorIndex := 12, attributes := #[] }, { accessFlags := 2, nameIndex := 19, descriptorIndex := 16, attributes := #[] }, { accessFlags := 2, nameIndex := 15, descriptorIndex := 16, attributes := #[] }])
  fields := #[{ name := "text", type := (.array .char), accessFlags := 18, slot := 0, constantValue := 0 }, { name := "end", type := .int, accessFlags := 2, slot := 1, constantValue := 0 }, { name := "at", type := .int, accessFlags := 2, slot := 2, constantValue := 0 }]
  methods := #[k10m0, k10m1, k10m2]
  instanceTypes := #[(.array .char), .int, .int]
  staticTypes := #[]
  resolved := Array.replicate 57 none
  statics := none }

def pool11 : Array CpInfo := pool [(1, .class_ 2), (0, u "java/lang/String"), (1, .class_ 6), (1, u "java/lang/Object"), (0, u "<init>"), (0, u "()V"), (0, .methodref 1 10), (0, .nameAndType 11 12), (0, u "checkIndex"), (0, u "(II)V"), (1, .class_ 16), (1, u "java/lang/StringLatin1"), (36, u "([BI)C"), (67, u "$assertionsDisabled"), (0, u "Z"), (98, .class_ 223), (1, u "java/lang/StringLatin1$LinesSpliterator"), (28, u "charAt"), (137, .class_ 391), (0, u "java/lang/StringLatin1$CharsSpliterator")] 3

def k11m0 : Method := { name := "<init>", desc := "()V", sig := { parameters := [], returnType := none }, accessFlags := 0, code := none }
def k11c1 : Code := { maxStack := 2, maxLocals := 2, code := jdk_43_method_2_code, exceptionTable := #[], attributes := #[] }
def k11m1 : Method := { name := "charAt", desc := "([BI)C", sig := { parameters := [(.array .byte), .int], returnType := some .char }, accessFlags := 9, code := some k11c1 }
/-- java/lang/StringLatin1 -/
def k11 : Class := { plain "java/lang/StringLatin1" (some 0) with
  accessFlags := 48
  interfaces := #[]
  cf := some (fileOf pool11 14 #[.nestMembers #[390, 221]] #[{ accessFlags := 0, nameIndex := 7, descriptorIndex := 8, attributes := #[] }, { accessFlags := 9, nameIndex := 252, descriptorIndex := 53, attributes := #[] }] 48 4 #[] #[{ accessFlags := 4120, nameIndex := 121, descriptorIndex := 122, attributes := #[] }])
  fields := #[{ name := "$assertionsDisabled", type := .boolean, accessFlags := 4120, slot := 0, constantValue := 0 }]
  methods := #[k11m0, k11m1]
  instanceTypes := #[]
  staticTypes := #[.boolean]
  resolved := Array.replicate 395 none
  statics := none }

def pool12 : Array CpInfo := pool [(2, .class_ 4), (1, u "java/lang/Object"), (0, u "<init>"), (0, u "()V"), (17, .class_ 26), (1, u "jdk/internal/util/Preconditions"), (6, u "checkIndex"), (21, .class_ 56), (0, u "jdk/internal/util/Preconditions$4"), (57, .class_ 115), (0, u "jdk/internal/util/Preconditions$1"), (7, u "SIOOBE_FORMATTER"), (0, u "Ljava/util/function/BiFunction;"), (0, .class_ 126), (0, u "jdk/internal/util/Preconditions$2"), (3, u "AIOOBE_FORMATTER"), (0, .class_ 132), (0, u "jdk/internal/util/Preconditions$3"), (3, u "IOOBE_FORMATTER"), (41, u "(IILjava/util/function/BiFunction;)I")] 15

def k12m0 : Method := { name := "<init>", desc := "()V", sig := { parameters := [], returnType := none }, accessFlags := 1, code := none }
def k12c1 : Code := { maxStack := 3, maxLocals := 3, code := jdk_41_method_11_code, exceptionTable := #[], attributes := #[] }
def k12m1 : Method := { name := "checkIndex", desc := "(IILjava/util/function/BiFunction;)I", sig := { parameters := [.int, .int, (.object "java/util/function/BiFunction")], returnType := some .int }, accessFlags := 9, code := some k12c1 }
/-- jdk/internal/util/Preconditions -/
def k12 : Class := { plain "jdk/internal/util/Preconditions" (some 0) with
  accessFlags := 33
  interfaces := #[]
  cf := some (fileOf pool12 24 #[.nestMembers #[55, 131, 125, 114]] #[{ accessFlags := 1, nameIndex := 5, descriptorIndex := 6, attributes := #[] }, { accessFlags := 9, nameIndex := 33, descriptorIndex := 178, attributes := #[] }] 33 2 #[] #[{ accessFlags := 25, nameIndex := 123, descriptorIndex := 124, attributes := #[] }, { accessFlags := 25, nameIndex := 130, descriptorIndex := 124, attributes := #[] }, { accessFlags := 25, nameIndex := 136, descriptorIndex := 124, attributes := #[] }])
  fields := #[{ name := "SIOOBE_FORMATTER", type := (.object "java/util/function/BiFunction"), accessFlags := 25, slot := 0, constantValue := 0 }, { name := "AIOOBE_FORMATTER", type := (.object "java/util/function/BiFunction"), accessFlags := 25, slot := 1, constantValue := 0 }, { name := "IOOBE_FORMATTER", type := (.object "java/util/function/BiFunction"), accessFlags := 25, slot := 2, constantValue := 0 }]
  methods := #[k12m0, k12m1]
  instanceTypes := #[]
  staticTypes := #[(.object "java/util/function/BiFunction"), (.object "java/util/function/BiFunction"), (.object "java/util/function/BiFunction")]
  resolved := Array.replicate 194 none
  statics := some 1 }

def pool13 : Array CpInfo := pool [(9, u "<init>"), (6, .class_ 18), (1, u "java/lang/Object"), (0, u "()V"), (1, .class_ 23), (1, u "jdk/internal/util/ArraysSupport"), (0, u "LOG2_ARRAY_LONG_INDEX_SCALE"), (0, u "I"), (2, u "U"), (0, u "Ljdk/internal/misc/Unsafe;"), (8, u "BIG_ENDIAN"), (0, u "Z"), (8, u "LOG2_BYTE_BIT_SIZE"), (4, u "LOG2_ARRAY_INT_INDEX_SCALE"), (54, u "JLA"), (0, u "Ljdk/internal/access/JavaLangAccess;"), (11, u "LOG2_ARRAY_BOOLEAN_INDEX_SCALE"), (9, u "LOG2_ARRAY_BYTE_INDEX_SCALE"), (5, u "LOG2_ARRAY_CHAR_INDEX_SCALE"), (5, u "LOG2_ARRAY_SHORT_INDEX_SCALE"), (18, u "LOG2_ARRAY_FLOAT_INDEX_SCALE"), (24, u "LOG2_ARRAY_DOUBLE_INDEX_SCALE"), (89, u "T_BOOLEAN"), (2, u "T_CHAR"), (1, u "T_FLOAT"), (1, u "T_DOUBLE"), (1, u "T_BYTE"), (1, u "T_SHORT"), (1, u "T_INT"), (1, u "T_LONG"), (1, u "SOFT_MAX_ARRAY_LENGTH")] 83

def k13m0 : Method := { name := "<init>", desc := "()V", sig := { parameters := [], returnType := none }, accessFlags := 2, code := none }
/-- jdk/internal/util/ArraysSupport -/
def k13 : Class := { plain "jdk/internal/util/ArraysSupport" (some 0) with
  accessFlags := 33
  interfaces := #[]
  cf := some (fileOf pool13 21 #[] #[{ accessFlags := 2, nameIndex := 9, descriptorIndex := 19, attributes := #[] }] 33 16 #[] #[{ accessFlags := 24, nameIndex := 28, descriptorIndex := 29, attributes := #[] }, { accessFlags := 26, nameIndex := 38, descriptorIndex := 39, attributes := #[] }, { accessFlags := 25, nameIndex := 121, descriptorIndex := 25, attributes := #[] }, { accessFlags := 25, nameIndex := 131, descriptorIndex := 25, attributes := #[] }, { accessFlags := 25, nameIndex := 137, descriptorIndex := 25, attributes := #[] }, { accessFlags := 25, nameIndex := 143, descriptorIndex := 25, attributes := #[] }, { accessFlags := 25, nameIndex := 53, descriptorIndex := 25, attributes := #[] }, { accessFlags := 25, nameIndex := 24, descriptorIndex := 25, attributes := #[] }, { accessFlags := 25, nameIndex := 162, descriptorIndex := 25, attributes := #[] }, { accessFlags := 25, nameIndex := 187, descriptorIndex := 25, attributes := #[] }, { accessFlags := 26, nameIndex := 48, descriptorIndex := 25, attributes := #[] }, { accessFlags := 25, nameIndex := 277, descriptorIndex := 25, attributes := #[] }, { accessFlags := 25, nameIndex := 280, descriptorIndex := 25, attributes := #[] }, { accessFlags := 25, nameIndex := 282, descriptorIndex := 25, attributes := #[] }, { accessFlags := 25, nameIndex := 284, descriptorIndex := 25, attributes := #[] }, { accessFlags := 25, nameIndex := 286, descriptorIndex := 25, attributes := #[] }, { accessFlags := 25, nameIndex := 288, descriptorIndex := 25, attributes := #[] }, { accessFlags := 25, nameIndex := 290, descriptorIndex := 25, attributes := #[] }, { accessFlags := 25, nameIndex := 292, descriptorIndex := 25, attributes := #[] }, { accessFlags := 26, nameIndex := 108, descriptorIndex := 109, attributes := #[] }, { accessFlags := 25, nameIndex := 294, descriptorIndex := 25, attributes := #[] }])
  fields := #[{ name := "U", type := (.object "jdk/internal/misc/Unsafe"), accessFlags := 24, slot := 0, constantValue := 0 }, { name := "BIG_ENDIAN", type := .boolean, accessFlags := 26, slot := 1, constantValue := 0 }, { name := "LOG2_ARRAY_BOOLEAN_INDEX_SCALE", type := .int, accessFlags := 25, slot := 2, constantValue := 0 }, { name := "LOG2_ARRAY_BYTE_INDEX_SCALE", type := .int, accessFlags := 25, slot := 3, constantValue := 0 }, { name := "LOG2_ARRAY_CHAR_INDEX_SCALE", type := .int, accessFlags := 25, slot := 4, constantValue := 0 }, { name := "LOG2_ARRAY_SHORT_INDEX_SCALE", type := .int, accessFlags := 25, slot := 5, constantValue := 0 }, { name := "LOG2_ARRAY_INT_INDEX_SCALE", type := .int, accessFlags := 25, slot := 6, constantValue := 0 }, { name := "LOG2_ARRAY_LONG_INDEX_SCALE", type := .int, accessFlags := 25, slot := 7, constantValue := 0 }, { name := "LOG2_ARRAY_FLOAT_INDEX_SCALE", type := .int, accessFlags := 25, slot := 8, constantValue := 0 }, { name := "LOG2_ARRAY_DOUBLE_INDEX_SCALE", type := .int, accessFlags := 25, slot := 9, constantValue := 0 }, { name := "LOG2_BYTE_BIT_SIZE", type := .int, accessFlags := 26, slot := 10, constantValue := 0 }, { name := "T_BOOLEAN", type := .int, accessFlags := 25, slot := 11, constantValue := 0 }, { name := "T_CHAR", type := .int, accessFlags := 25, slot := 12, constantValue := 0 }, { name := "T_FLOAT", type := .int, accessFlags := 25, slot := 13, constantValue := 0 }, { name := "T_DOUBLE", type := .int, accessFlags := 25, slot := 14, constantValue := 0 }, { name := "T_BYTE", type := .int, accessFlags := 25, slot := 15, constantValue := 0 }, { name := "T_SHORT", type := .int, accessFlags := 25, slot := 16, constantValue := 0 }, { name := "T_INT", type := .int, accessFlags := 25, slot := 17, constantValue := 0 }, { name := "T_LONG", type := .int, accessFlags := 25, slot := 18, constantValue := 0 }, { name := "JLA", type := (.object "jdk/internal/access/JavaLangAccess"), accessFlags := 26, slot := 19, constantValue := 0 }, { name := "SOFT_MAX_ARRAY_LENGTH", type := .int, accessFlags := 25, slot := 20, constantValue := 0 }]
  methods := #[k13m0]
  instanceTypes := #[]
  staticTypes := #[(.object "jdk/internal/misc/Unsafe"), .boolean, .int, .int, .int, .int, .int, .int, .int, .int, .int, .int, .int, .int, .int, .int, .int, .int, .int, (.object "jdk/internal/access/JavaLangAccess"), .int]
  resolved := Array.replicate 378 none
  statics := none }

def pool14 : Array CpInfo := pool [(1, u "java/lang/Cloneable"), (0, .class_ 1), (0, u "java/lang/Object"), (0, .class_ 3)] 3

/-- java/lang/Cloneable -/
def k14 : Class := { plain "java/lang/Cloneable" (some 0) with
  accessFlags := 1537
  interfaces := #[]
  cf := some (fileOf pool14 2 #[] #[] 1537 4 #[] #[])
  fields := #[]
  methods := #[]
  instanceTypes := #[]
  staticTypes := #[]
  resolved := Array.replicate 8 none
  statics := none }

/-- the primitive byte -/
def k15 : Class := { plain "byte" none with kind := .primitive 'B', accessFlags := 0x411 }
/-- [B -/
def k16 : Class := { plain "[B" (some 0) with kind := .array 15 .byte, interfaces := #[14, 3], accessFlags := 1041 }

/-- the primitive char -/
def k17 : Class := { plain "char" none with kind := .primitive 'C', accessFlags := 0x411 }
/-- [C -/
def k18 : Class := { plain "[C" (some 0) with kind := .array 17 .char, interfaces := #[14, 3], accessFlags := 1041 }

/-- the primitive int -/
def k19 : Class := { plain "int" none with kind := .primitive 'I', accessFlags := 0x411 }
/-- [I -/
def k20 : Class := { plain "[I" (some 0) with kind := .array 19 .int, interfaces := #[14, 3], accessFlags := 1041 }

def heap : Heap := #[{ cls := 8, slots := #[.long 0, .int 1, .null, .int 0, .null, .int 0, .int 0], vm := .statics 8 },
  { cls := 12, slots := #[.null, .null, .null], vm := .statics 12 }]
def classes : Array Class := #[k0, k1, k2, k3, k4, k5, k6, k7, k8, k9, k10, k11, k12, k13, k14, k15, k16, k17, k18, k19, k20]
def interned : List (Array UInt16 × Addr) := []
def slotsUsed : Nat := 10
def theMethod : MethodId := ⟨1, 1⟩
def args0 : Array Value := #[.int 5, .int 6, .int 7, .int 8]
def aboutOver (below : List Frame) : State where
  vm := { classes := classes, interned := interned.toArray }
  heap := heap
  slotsUsed := slotsUsed
  threads := #[{ frames := .invoking theMethod args0 :: below }]
def below0 : List Frame := [.native { method := ⟨0, 0⟩, args := #[] }]
def about1 : State := aboutOver below0
def p0 : Program := .bare "" "" ""
def e0 : Env := launch0.env 0 0 0
theorem w_frames : about1.frames = Frame.invoking theMethod args0 :: below0 := rfl
set_option maxRecDepth 65536 in
theorem w_args : argsFit about1.vm theMethod args0 = true := by decide +kernel
set_option maxRecDepth 65536 in
theorem w_heap : heapFits about1 = true := by decide +kernel
set_option maxRecDepth 65536 in
theorem w_runnable : about1.curStatus? = some .runnable := by decide +kernel
set_option maxRecDepth 65536 in
theorem w_alone : about1.alone = true := by decide +kernel
set_option maxRecDepth 65536 in
theorem w_named : about1.methodNamed? x = some theMethod := by decide +kernel
set_option maxRecDepth 65536 in
theorem w_hears : about1.hears theMethod below0 = true := by decide +kernel
set_option maxRecDepth 65536 in
theorem w_ripe : about1.ripe theMethod args0 below0 = true := by decide +kernel
theorem w_running : about1.status = .running := rfl
set_option maxRecDepth 65536 in
theorem w_room : about1.hasRoom e0.platform room_1 = true :=
  launch0.hasRoom_least _ room_1 (by decide +kernel) (by decide +kernel) (by decide +kernel) (by decide +kernel) (by decide +kernel) (by decide +kernel)
theorem allAtoms_all (ts : List Jvm.Cond) (a : Array Jvm.Value) (st : Jvm.State) : (allAtoms ts).before a st = ts.all (fun c => c.before a st) := by
  induction ts with
  | nil => rfl
  | cons c t ih =>
    show (Jvm.Cond.and c (allAtoms t)).before a st = _
    rw [Jvm.Cond.before_and, ih, List.all_cons]
def words1 : List Jvm.Cond := Jvm.Cond.code x code maxLocals ret :: tables_1
/-- a 'code' word, met by the world's own term for the bytes: nothing is compared byte by byte -/
theorem code_word {y : MethodName} {bytes : ByteArray} {mx : Nat} {rt : Option FieldType} {a : Array Value} {s : State} {m : MethodId} {meth : Method} {c : Code} (h1 : s.methodNamed? y = some m) (h2 : s.vm.method? m = some meth) (h3 : meth.code = some c) (h4 : c.code = bytes)
    (h5 : (c.maxLocals == mx && c.exceptionTable.isEmpty && decide (c.maxStack ≤ mostOperands) && decide (meth.sig.returnType = rt) && !meth.locks && decide (parseMethodDescriptor y.desc = some meth.sig)) = true) : (Jvm.Cond.code y bytes mx rt).before a s = true := by
  simp only [Bool.and_eq_true, beq_iff_eq, Bool.not_eq_true', decide_eq_true_eq] at h5
  obtain ⟨⟨⟨⟨⟨g1, g2⟩, g3⟩, g4⟩, g5⟩, g6⟩ := h5
  simp [Cond.before, Cond.holds, Cond.value, h1, h2, h3, h4, g1, g2, g3, g4, g5, g6]
def isCode : Jvm.Cond → Bool
  | .code _ _ _ _ => true
  | _ => false
theorem all_split {L : List Jvm.Cond} {P : Jvm.Cond → Bool} (h1 : L.all (fun c => isCode c || P c) = true) (h2 : ∀ c ∈ L.filter isCode, P c = true) : L.all P = true := by
  refine List.all_eq_true.mpr fun c hc => ?_
  have h := List.all_eq_true.mp h1 c hc
  rcases Bool.eq_false_or_eq_true (isCode c) with hi | hi
  · exact h2 c (List.mem_filter.mpr ⟨hc, hi⟩)
  · simpa [hi] using h
set_option maxRecDepth 65536 in
theorem w_c0 : (Jvm.Cond.code x code maxLocals ret).before args0 about1 = true := code_word (m := ⟨1, 1⟩) (meth := k1m1) (c := k1c1) (by decide +kernel) rfl rfl rfl (by decide +kernel)
set_option maxRecDepth 65536 in
theorem w_c1 : (Jvm.Cond.code ({ cls := "java/lang/Math", name := "min", desc := "(II)I" } : Jvm.MethodName) jdk_29_method_69_code (2 : Nat) (Option.some Jvm.ClassFile.FieldType.int)).before args0 about1 = true := code_word (m := ⟨2, 2⟩) (meth := k2m2) (c := k2c2) (by decide +kernel) rfl rfl rfl (by decide +kernel)
set_option maxRecDepth 65536 in
theorem w_c2 : (Jvm.Cond.code ({ cls := "java/lang/Math", name := "max", desc := "(II)I" } : Jvm.MethodName) jdk_29_method_65_code (2 : Nat) (Option.some Jvm.ClassFile.FieldType.int)).before args0 about1 = true := code_word (m := ⟨2, 1⟩) (meth := k2m1) (c := k2c1) (by decide +kernel) rfl rfl rfl (by decide +kernel)
set_option maxRecDepth 65536 in
theorem w_c3 : (Jvm.Cond.code ({ cls := "com/example/clapboard/clapboard/parse/TextCursorReadPinLaw", name := "pick", desc := "([CIIII)C" } : Jvm.MethodName) method_3_code (5 : Nat) (Option.some Jvm.ClassFile.FieldType.char)).before args0 about1 = true := code_word (m := ⟨1, 2⟩) (meth := k1m2) (c := k1c2) (by decide +kernel) rfl rfl rfl (by decide +kernel)
set_option maxRecDepth 65536 in
theorem w_c4 : (Jvm.Cond.code ({ cls := "com/example/clapboard/clapboard/parse/TextCursorReadPinLaw", name := "make", desc := "(ICCC)Ljava/lang/String;" } : Jvm.MethodName) method_4_code (5 : Nat) (Option.some (Jvm.ClassFile.FieldType.object "java/lang/String"))).before args0 about1 = true := code_word (m := ⟨1, 3⟩) (meth := k1m3) (c := k1c3) (by decide +kernel) rfl rfl rfl (by decide +kernel)
set_option maxRecDepth 65536 in
theorem w_c5 : (Jvm.Cond.code ({ cls := "java/lang/String", name := "<init>", desc := "([C)V" } : Jvm.MethodName) jdk_42_method_3_code (2 : Nat) (Option.none : Option Jvm.ClassFile.FieldType)).before args0 about1 = true := code_word (m := ⟨8, 1⟩) (meth := k8m1) (c := k8c1) (by decide +kernel) rfl rfl rfl (by decide +kernel)
set_option maxRecDepth 65536 in
theorem w_c6 : (Jvm.Cond.code ({ cls := "java/lang/String", name := "<init>", desc := "([CIILjava/lang/Void;)V" } : Jvm.MethodName) jdk_42_method_149_code (6 : Nat) (Option.none : Option Jvm.ClassFile.FieldType)).before args0 about1 = true := code_word (m := ⟨8, 4⟩) (meth := k8m4) (c := k8c4) (by decide +kernel) rfl rfl rfl (by decide +kernel)
set_option maxRecDepth 65536 in
theorem w_c7 : (Jvm.Cond.code ({ cls := "java/lang/Object", name := "<init>", desc := "()V" } : Jvm.MethodName) object_method_1_code (1 : Nat) (Option.none : Option Jvm.ClassFile.FieldType)).before args0 about1 = true := code_word (m := ⟨0, 0⟩) (meth := k0m0) (c := k0c0) (by decide +kernel) rfl rfl rfl (by decide +kernel)
set_option maxRecDepth 65536 in
theorem w_c8 : (Jvm.Cond.code ({ cls := "java/lang/StringUTF16", name := "compress", desc := "([CII)[B" } : Jvm.MethodName) jdk_52_method_16_code (6 : Nat) (Option.some (Jvm.ClassFile.FieldType.array Jvm.ClassFile.FieldType.byte))).before args0 about1 = true := code_word (m := ⟨9, 2⟩) (meth := k9m2) (c := k9c2) (by decide +kernel) rfl rfl rfl (by decide +kernel)
set_option maxRecDepth 65536 in
theorem w_c9 : (Jvm.Cond.code ({ cls := "java/lang/StringUTF16", name := "compress", desc := "([CI[BII)I" } : Jvm.MethodName) jdk_52_method_21_code (7 : Nat) (Option.some Jvm.ClassFile.FieldType.int)).before args0 about1 = true := code_word (m := ⟨9, 3⟩) (meth := k9m3) (c := k9c3) (by decide +kernel) rfl rfl rfl (by decide +kernel)
set_option maxRecDepth 65536 in
theorem w_c10 : (Jvm.Cond.code ({ cls := "java/lang/StringUTF16", name := "coderFromArrayLen", desc := "([BI)B" } : Jvm.MethodName) jdk_52_method_15_code (2 : Nat) (Option.some Jvm.ClassFile.FieldType.byte)).before args0 about1 = true := code_word (m := ⟨9, 1⟩) (meth := k9m1) (c := k9c1) (by decide +kernel) rfl rfl rfl (by decide +kernel)
set_option maxRecDepth 65536 in
theorem w_c11 : (Jvm.Cond.code ({ cls := "com/example/clapboard/clapboard/parse/TextCursor", name := "<init>", desc := "([CII)V" } : Jvm.MethodName) prog_127_method_1_code (4 : Nat) (Option.none : Option Jvm.ClassFile.FieldType)).before args0 about1 = true := code_word (m := ⟨10, 0⟩) (meth := k10m0) (c := k10c0) (by decide +kernel) rfl rfl rfl (by decide +kernel)
set_option maxRecDepth 65536 in
theorem w_c12 : (Jvm.Cond.code ({ cls := "com/example/clapboard/clapboard/parse/TextCursor", name := "read", desc := "(Ljava/lang/String;)Z" } : Jvm.MethodName) prog_127_method_6_code (3 : Nat) (Option.some Jvm.ClassFile.FieldType.boolean)).before args0 about1 = true := code_word (m := ⟨10, 2⟩) (meth := k10m2) (c := k10c2) (by decide +kernel) rfl rfl rfl (by decide +kernel)
set_option maxRecDepth 65536 in
theorem w_c13 : (Jvm.Cond.code ({ cls := "java/lang/String", name := "length", desc := "()I" } : Jvm.MethodName) jdk_42_method_54_code (1 : Nat) (Option.some Jvm.ClassFile.FieldType.int)).before args0 about1 = true := code_word (m := ⟨8, 2⟩) (meth := k8m2) (c := k8c2) (by decide +kernel) rfl rfl rfl (by decide +kernel)
set_option maxRecDepth 65536 in
theorem w_c14 : (Jvm.Cond.code ({ cls := "java/lang/String", name := "coder", desc := "()B" } : Jvm.MethodName) jdk_42_method_152_code (1 : Nat) (Option.some Jvm.ClassFile.FieldType.byte)).before args0 about1 = true := code_word (m := ⟨8, 5⟩) (meth := k8m5) (c := k8c5) (by decide +kernel) rfl rfl rfl (by decide +kernel)
set_option maxRecDepth 65536 in
theorem w_c15 : (Jvm.Cond.code ({ cls := "java/lang/String", name := "charAt", desc := "(I)C" } : Jvm.MethodName) jdk_42_method_56_code (2 : Nat) (Option.some Jvm.ClassFile.FieldType.char)).before args0 about1 = true := code_word (m := ⟨8, 3⟩) (meth := k8m3) (c := k8c3) (by decide +kernel) rfl rfl rfl (by decide +kernel)
set_option maxRecDepth 65536 in
theorem w_c16 : (Jvm.Cond.code ({ cls := "java/lang/String", name := "isLatin1", desc := "()Z" } : Jvm.MethodName) jdk_42_method_154_code (1 : Nat) (Option.some Jvm.ClassFile.FieldType.boolean)).before args0 about1 = true := code_word (m := ⟨8, 6⟩) (meth := k8m6) (c := k8c6) (by decide +kernel) rfl rfl rfl (by decide +kernel)
set_option maxRecDepth 65536 in
theorem w_c17 : (Jvm.Cond.code ({ cls := "java/lang/StringLatin1", name := "charAt", desc := "([BI)C" } : Jvm.MethodName) jdk_43_method_2_code (2 : Nat) (Option.some Jvm.ClassFile.FieldType.char)).before args0 about1 = true := code_word (m := ⟨11, 1⟩) (meth := k11m1) (c := k11c1) (by decide +kernel) rfl rfl rfl (by decide +kernel)
set_option maxRecDepth 65536 in
theorem w_c18 : (Jvm.Cond.code ({ cls := "java/lang/String", name := "checkIndex", desc := "(II)V" } : Jvm.MethodName) jdk_42_method_155_code (2 : Nat) (Option.none : Option Jvm.ClassFile.FieldType)).before args0 about1 = true := code_word (m := ⟨8, 7⟩) (meth := k8m7) (c := k8c7) (by decide +kernel) rfl rfl rfl (by decide +kernel)
set_option maxRecDepth 65536 in
theorem w_c19 : (Jvm.Cond.code ({ cls := "jdk/internal/util/Preconditions", name := "checkIndex", desc := "(IILjava/util/function/BiFunction;)I" } : Jvm.MethodName) jdk_41_method_11_code (3 : Nat) (Option.some Jvm.ClassFile.FieldType.int)).before args0 about1 = true := code_word (m := ⟨12, 1⟩) (meth := k12m1) (c := k12c1) (by decide +kernel) rfl rfl rfl (by decide +kernel)
set_option maxRecDepth 65536 in
theorem w_c20 : (Jvm.Cond.code ({ cls := "com/example/clapboard/clapboard/parse/TextCursor", name := "position", desc := "()I" } : Jvm.MethodName) prog_127_method_3_code (1 : Nat) (Option.some Jvm.ClassFile.FieldType.int)).before args0 about1 = true := code_word (m := ⟨10, 1⟩) (meth := k10m1) (c := k10c1) (by decide +kernel) rfl rfl rfl (by decide +kernel)
def codes1 : List Jvm.Cond := [Jvm.Cond.code x code maxLocals ret, Jvm.Cond.code ({ cls := "java/lang/Math", name := "min", desc := "(II)I" } : Jvm.MethodName) jdk_29_method_69_code (2 : Nat) (Option.some Jvm.ClassFile.FieldType.int), Jvm.Cond.code ({ cls := "java/lang/Math", name := "max", desc := "(II)I" } : Jvm.MethodName) jdk_29_method_65_code (2 : Nat) (Option.some Jvm.ClassFile.FieldType.int), Jvm.Cond.code ({ cls := "com/example/clapboard/clapboard/parse/TextCursorReadPinLaw", name := "pick", desc := "([CIIII)C" } : Jvm.MethodName) method_3_code (5 : Nat) (Option.some Jvm.ClassFile.FieldType.char), Jvm.Cond.code ({ cls := "com/example/clapboard/clapboard/parse/TextCursorReadPinLaw", name := "make", desc := "(ICCC)Ljava/lang/String;" } : Jvm.MethodName) method_4_code (5 : Nat) (Option.some (Jvm.ClassFile.FieldType.object "java/lang/String")), Jvm.Cond.code ({ cls := "java/lang/String", name := "<init>", desc := "([C)V" } : Jvm.MethodName) jdk_42_method_3_code (2 : Nat) (Option.none : Option Jvm.ClassFile.FieldType), Jvm.Cond.code ({ cls := "java/lang/String", name := "<init>", desc := "([CIILjava/lang/Void;)V" } : Jvm.MethodName) jdk_42_method_149_code (6 : Nat) (Option.none : Option Jvm.ClassFile.FieldType), Jvm.Cond.code ({ cls := "java/lang/Object", name := "<init>", desc := "()V" } : Jvm.MethodName) object_method_1_code (1 : Nat) (Option.none : Option Jvm.ClassFile.FieldType), Jvm.Cond.code ({ cls := "java/lang/StringUTF16", name := "compress", desc := "([CII)[B" } : Jvm.MethodName) jdk_52_method_16_code (6 : Nat) (Option.some (Jvm.ClassFile.FieldType.array Jvm.ClassFile.FieldType.byte)), Jvm.Cond.code ({ cls := "java/lang/StringUTF16", name := "compress", desc := "([CI[BII)I" } : Jvm.MethodName) jdk_52_method_21_code (7 : Nat) (Option.some Jvm.ClassFile.FieldType.int), Jvm.Cond.code ({ cls := "java/lang/StringUTF16", name := "coderFromArrayLen", desc := "([BI)B" } : Jvm.MethodName) jdk_52_method_15_code (2 : Nat) (Option.some Jvm.ClassFile.FieldType.byte), Jvm.Cond.code ({ cls := "com/example/clapboard/clapboard/parse/TextCursor", name := "<init>", desc := "([CII)V" } : Jvm.MethodName) prog_127_method_1_code (4 : Nat) (Option.none : Option Jvm.ClassFile.FieldType), Jvm.Cond.code ({ cls := "com/example/clapboard/clapboard/parse/TextCursor", name := "read", desc := "(Ljava/lang/String;)Z" } : Jvm.MethodName) prog_127_method_6_code (3 : Nat) (Option.some Jvm.ClassFile.FieldType.boolean), Jvm.Cond.code ({ cls := "java/lang/String", name := "length", desc := "()I" } : Jvm.MethodName) jdk_42_method_54_code (1 : Nat) (Option.some Jvm.ClassFile.FieldType.int), Jvm.Cond.code ({ cls := "java/lang/String", name := "coder", desc := "()B" } : Jvm.MethodName) jdk_42_method_152_code (1 : Nat) (Option.some Jvm.ClassFile.FieldType.byte), Jvm.Cond.code ({ cls := "java/lang/String", name := "charAt", desc := "(I)C" } : Jvm.MethodName) jdk_42_method_56_code (2 : Nat) (Option.some Jvm.ClassFile.FieldType.char), Jvm.Cond.code ({ cls := "java/lang/String", name := "isLatin1", desc := "()Z" } : Jvm.MethodName) jdk_42_method_154_code (1 : Nat) (Option.some Jvm.ClassFile.FieldType.boolean), Jvm.Cond.code ({ cls := "java/lang/StringLatin1", name := "charAt", desc := "([BI)C" } : Jvm.MethodName) jdk_43_method_2_code (2 : Nat) (Option.some Jvm.ClassFile.FieldType.char), Jvm.Cond.code ({ cls := "java/lang/String", name := "checkIndex", desc := "(II)V" } : Jvm.MethodName) jdk_42_method_155_code (2 : Nat) (Option.none : Option Jvm.ClassFile.FieldType), Jvm.Cond.code ({ cls := "jdk/internal/util/Preconditions", name := "checkIndex", desc := "(IILjava/util/function/BiFunction;)I" } : Jvm.MethodName) jdk_41_method_11_code (3 : Nat) (Option.some Jvm.ClassFile.FieldType.int), Jvm.Cond.code ({ cls := "com/example/clapboard/clapboard/parse/TextCursor", name := "position", desc := "()I" } : Jvm.MethodName) prog_127_method_3_code (1 : Nat) (Option.some Jvm.ClassFile.FieldType.int)]
set_option maxRecDepth 65536 in
theorem codes_eq : words1.filter isCode = codes1 := rfl
theorem w_codes : ∀ c ∈ words1.filter isCode, c.before args0 about1 = true := by
  rw [codes_eq]
  intro c hc
  simp only [codes1, List.mem_cons, List.not_mem_nil, or_false] at hc
  rcases hc with rfl | rfl | rfl | rfl | rfl | rfl | rfl | rfl | rfl | rfl | rfl | rfl | rfl | rfl | rfl | rfl | rfl | rfl | rfl | rfl | rfl
  · exact w_c0
  · exact w_c1
  · exact w_c2
  · exact w_c3
  · exact w_c4
  · exact w_c5
  · exact w_c6
  · exact w_c7
  · exact w_c8
  · exact w_c9
  · exact w_c10
  · exact w_c11
  · exact w_c12
  · exact w_c13
  · exact w_c14
  · exact w_c15
  · exact w_c16
  · exact w_c17
  · exact w_c18
  · exact w_c19
  · exact w_c20
set_option maxRecDepth 65536 in
theorem w_t1 : (words1.take 24).all (fun c => isCode c || c.before args0 about1) = true := by decide +kernel
set_option maxRecDepth 65536 in
theorem w_t2 : ((words1.drop 24).take 24).all (fun c => isCode c || c.before args0 about1) = true := by decide +kernel
set_option maxRecDepth 65536 in
theorem w_t3 : (((words1.drop 24).drop 24).take 24).all (fun c => isCode c || c.before args0 about1) = true := by decide +kernel
set_option maxRecDepth 65536 in
theorem w_t4 : ((((words1.drop 24).drop 24).drop 24).take 24).all (fun c => isCode c || c.before args0 about1) = true := by decide +kernel
set_option maxRecDepth 65536 in
theorem w_t5 : ((((words1.drop 24).drop 24).drop 24).drop 24).all (fun c => isCode c || c.before args0 about1) = true := by decide +kernel
theorem w_tables : (allAtoms (Jvm.Cond.code x code maxLocals ret :: tables_1)).before args0 about1 = true := by
  rw [allAtoms_all]
  show words1.all (fun c => c.before args0 about1) = true
  refine all_split ?_ w_codes
  rw [← List.take_append_drop 24 words1, List.all_append, w_t1, ← List.take_append_drop 24 (words1.drop 24), List.all_append, w_t2, ← List.take_append_drop 24 ((words1.drop 24).drop 24), List.all_append, w_t3, ← List.take_append_drop 24 (((words1.drop 24).drop 24).drop 24), List.all_append, w_t4, w_t5]
  rfl
set_option maxRecDepth 65536 in
theorem w_rest : rest_1_c.before args0 about1 = true := by decide +kernel
set_option maxRecDepth 65536 in
theorem w_case : (Jvm.Cond.and given_1 narrow_1).before args0 about1 = true := by decide +kernel
set_option maxRecDepth 65536 in
theorem w_consts : constsHeld consts_1 about1 := Jvm.Lit.constsHeldB_iff.mp (by decide +kernel)
theorem w_applies : (headSpec (Jvm.Cond.code x code maxLocals ret :: tables_1) room_1).applies x e0.platform about1 = true :=
  (Spec.applies_iff w_frames).mpr ⟨w_running, w_runnable, w_alone, w_named, w_hears, w_ripe, w_room, w_tables⟩
theorem atStart : AtStart classFile x code maxLocals ret World_1 tables_1 room_1 Calls_1 rest_1 Pre_1 launch0 p0 e0 about1 theMethod args0 below0 :=
  ⟨lists_1, trivial, launch0.admits_env _ _ _, launch0.least_env, fairChoices_fair.cas, fairChoices_fair.clock, w_frames, w_args, w_heap, w_applies, ⟨w_consts, trivial⟩, w_rest, w_case⟩
end start1
theorem witness_1 : WitnessClaimed_1 := ⟨start1.p0, start1.e0, start1.about1, start1.theMethod, start1.args0, start1.below0, start1.atStart⟩
end Jvm.Pilot.@@N@@
