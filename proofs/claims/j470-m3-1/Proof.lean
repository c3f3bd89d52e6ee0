import JvmDerived
import JvmDerived.Pilot.@@N@@Statement
import JvmDerived.Pilot.@@N@@Code
set_option linter.unusedVariables false
set_option linter.unusedSimpArgs false
namespace Jvm.RoadKit
open Sem ClassFile Op Lib Jvm.Stand Jvm.Free Jvm.LawKit
section New
variable {p : Program} {l : Launch} {e : Env} {R : Room} {s : State} {m : MethodId} {args : Array Value} {below : List Frame} {meth : Method} {c : Code} {T : State} {locs : List Loc} {cells slots : Nat}
theorem retI (X : Stand p l e R s m args below meth c T locs cells slots) (hx : p.tables.exec = Jvm.exec) {pc : Nat} {Ls : Array Slot} {z : Int32} {rest : List Value} (hret : meth.sig.returnType = some .int) (hd : decode c.code pc = .ok (.ireturn, 1)) {fs : List Frame}
    (hl : ∀ (f : JFrame) (acts : List Action), f.method = m → f.locked = none → f.entered = [] → (doReturn e (T.setTop f) acts (some (.int z))).1 = T.setFrames fs) : Steps p.tables e below (T.setTop (mkF m pc Ls (.int z :: rest))) (T.setFrames fs) := by
  have hm' : T.vm.method? m = some meth := X.method'
  have hn : narrow .int (.int z) = .int z := rfl
  show Steps p.tables e below (T.setTop { method := m, pc := pc, locals := Ls, stack := _ :: rest, locked := none }) _
  jvm_step X.here [X.here.top, hx, hd, hm', hret, hn]
  first | (intro acts; rw [hl _ acts rfl rfl rfl]) | rw [hl _ _ rfl rfl rfl]
  exact Steps.refl _
end New
end Jvm.RoadKit
namespace Jvm.Pilot.@@N@@
open Jvm Jvm.ClassFile Sem Op Lib Jvm.Free Jvm.Stand Jvm.LawKit Jvm.RoadKit Bundle Jvm.Pilot.@@N@@.Jvm.D
def own_cmp (x y : Int64) : Int32 := lcmpW x y
theorem own_lt (x y : Int64) : own_cmp x y < 0 ↔ x < y := by
  unfold own_cmp lcmpW; split <;> (try split) <;> simp_all [Int64.lt_iff_toInt_lt, ← Int64.toInt_inj] <;> omega
theorem own_gt (x y : Int64) : 0 < own_cmp x y ↔ y < x := by
  unfold own_cmp lcmpW; split <;> (try split) <;> simp_all [Int64.lt_iff_toInt_lt, ← Int64.toInt_inj] <;> omega
theorem own_eq0 (x y : Int64) : own_cmp x y = 0 ↔ x = y := by
  unfold own_cmp lcmpW; split <;> (try split) <;> simp_all [Int64.lt_iff_toInt_lt, ← Int64.toInt_inj] <;> omega
theorem own_fld {s : State} {args : Array Value} {t : Term} {x : Addr} {C n d : String} {k : Int32} (ev : t.eval args s none [] s = some (.ref x)) (h : (Jvm.Cond.eq (.field t C n d) (.int k)).value args s none s [] = some true) : Fld s s.heap x C n d (.int k) := by
  have hf := fld_at (C := C) (n := n) (dd := d) ev
  have hk : (Term.int k).eval args s none [] s = some (.int k) := Term.int_eval k
  cases hq : s.fieldOf? x C n d with
  | none => rw [hq] at hf; simp [Cond.value, hf] at h
  | some v =>
    rw [hq] at hf
    cases v <;> simp [Cond.value, hf, hk] at h
    subst h
    exact Fld.start hq
def upd (f : Int32 → Int32) (j v : Int32) : Int32 → Int32 := fun k => if k = j then v else f k
def Ia (Z : State) (h : Heap) (a : Addr) (ty : FieldType) (n : Int32) (f : Int32 → Int32) : Prop := ∃ c : Cell, Arr Z h a c ty ∧ c.slots.size = n.toNatClampNeg ∧ ¬ n < 0 ∧ ∀ j : Int32, ¬ j < 0 → j < n → c.slots[j.toNatClampNeg]? = some (.int (f j))
section OwnIa
variable {Z : State} {h h' : Heap} {a b : Addr} {ty : FieldType} {n j x : Int32} {f : Int32 → Int32} {sl : Nat} {v : Value} {ws : List Addr}
theorem own_ext (K : Keep h h' []) : Ext h h' := ⟨K.1, fun a c q => K.2.1 a c q nin0⟩
theorem Ia.lt (F : Ia Z h a ty n f) : a < h.size := by obtain ⟨c, A, -⟩ := F; exact A.lt
theorem Ia.ext (F : Ia Z h a ty n f) (E : Ext h h') : Ia Z h' a ty n f := by obtain ⟨c, A, r⟩ := F; exact ⟨c, A.ext E, r⟩
theorem Ia.other (F : Ia Z h b ty n f) (W : Wr h h' a sl v) (q : b ≠ a) : Ia Z h' b ty n f := by obtain ⟨c, A, r⟩ := F; exact ⟨c, A.other W q, r⟩
theorem Ia.keep (F : Ia Z h a ty n f) (K : Keep h h' ws) (q : a ∉ ws) : Ia Z h' a ty n f := by obtain ⟨c, A, r⟩ := F; exact ⟨c, ⟨K.2.1 a c A.1 q, A.2⟩, r⟩
theorem Ia.at (F : Ia Z h a ty n f) (q : ¬ j < 0 ∧ j < n) : ∃ c : Cell, Arr Z h a c ty ∧ ¬ (j < 0 ∨ c.slots.size ≤ j.toNatClampNeg) ∧ c.slots[j.toNatClampNeg]? = some (.int (f j)) := by
  obtain ⟨c, A, S, N, G⟩ := F
  exact ⟨c, A, inb_of S q, G j q.1 q.2⟩
theorem Ia.len (F : Ia Z h a ty n f) : ∃ c : Cell, Arr Z h a c ty ∧ c.slots.size = n.toNatClampNeg ∧ ¬ n < 0 := by
  obtain ⟨c, A, S, N, G⟩ := F
  exact ⟨c, A, S, N⟩
theorem Ia.new {k : ClassId} (A : Arr Z h a (newA k ty n) ty) (q : ¬ n < 0) (e : defaultValue ty = .int 0) : Ia Z h a ty n (fun _ => 0) :=
  ⟨_, A, sz_new _ _ _, q, fun j h1 h2 => by
    have hi := inb_of (sz_new k ty n) ⟨h1, h2⟩
    rw [sz_new] at hi
    rw [get_new hi, e]⟩
theorem Ia.set (F : Ia Z h a ty n f) (W : Wr h h' a j.toNatClampNeg (.int x)) (hj : ¬ j < 0) : Ia Z h' a ty n (upd f j x) := by
  obtain ⟨c, A, S, N, G⟩ := F
  refine ⟨_, A.same W, by rw [sz_set]; exact S, N, fun k h1 h2 => ?_⟩
  by_cases e : k = j
  · subst e
    rw [get_hit (inb_of S ⟨h1, h2⟩) rfl]
    exact congrArg (fun z => some (Value.int z)) (if_pos rfl).symm
  · rw [get_miss hj h1 e, G k h1 h2]
    exact congrArg (fun z => some (Value.int z)) (if_neg e).symm
theorem own_nea {C : String} {a0 : Array Value} {k : Nat} (F : Exa Z h a C) (wi : (Jvm.Cond.instantiable C k).before a0 Z = true) (G : Ia Z h b ty n f) : a ≠ b := by
  obtain ⟨c, A, -⟩ := G
  exact ne_arr F wi A
theorem Ia.congr {g : Int32 → Int32} (F : Ia Z h a ty n f) (q : ∀ j : Int32, ¬ j < 0 → j < n → f j = g j) : Ia Z h a ty n g := by
  obtain ⟨c, A, S, N, G⟩ := F
  exact ⟨c, A, S, N, fun k h1 h2 => by rw [← q k h1 h2]; exact G k h1 h2⟩
end OwnIa
theorem own_nat (b : Int32) : b = Int32.ofNat b.toBitVec.toNat := by
  apply Int32.toBitVec_inj.mp
  simp
theorem own_mask (a m : Int32) (k : Nat) (h : m.toBitVec.toNat = k) : ∃ n, n < k + 1 ∧ a &&& m = Int32.ofNat n := by
  refine ⟨(a &&& m).toBitVec.toNat, ?_, own_nat _⟩
  have : (a &&& m).toBitVec.toNat = a.toBitVec.toNat &&& m.toBitVec.toNat := by simp
  rw [this, h]
  exact Nat.lt_succ_of_le Nat.and_le_right
theorem own_ofNat (n : Nat) (h : n < 2147483648) : (Int32.ofNat n).toInt = (n : Int) := Int32.toInt_ofNat_of_lt h
theorem own_rem (n k : Nat) (h : n < 2147483648) (h1 : k < 2147483648) : Int32.ofNat n % Int32.ofNat k = Int32.ofNat (n % k) := by
  apply Int32.toInt_inj.mp
  rw [Int32.toInt_mod, own_ofNat n h, own_ofNat k h1, own_ofNat (n % k) (Nat.lt_of_le_of_lt (Nat.mod_le n k) h)]
  rw [Int.tmod_eq_emod_of_nonneg (by omega)]
  exact (Int.natCast_emod n k).symm
theorem Ia.nn {Z : State} {h : Heap} {a : Addr} {ty : FieldType} {n : Int32} {f : Int32 → Int32} (F : Ia Z h a ty n f) : ¬ n < 0 := by obtain ⟨c, A, S, N, G⟩ := F; exact N
theorem own_inc (i n : Int32) (h : i < n) : (i + 1).toInt = i.toInt + 1 := by
  have h1 := Int32.lt_iff_toInt_lt.mp h
  have r1 := i.le_toInt
  have r2 := n.toInt_lt
  have z1 : (1 : Int32).toInt = 1 := by decide
  rw [Int32.toInt_add, z1]
  exact Int.bmod_eq_of_le (by omega) (by omega)
theorem own_s1 (i n : Int32) (hi : ¬ i < 0) (h : i < n) : ¬ (i + 1) < 0 := fun q => by
  have z0 : (0 : Int32).toInt = 0 := by decide
  have h1 := Int32.lt_iff_toInt_lt.mp q
  have h2 : ¬ (i.toInt < (0 : Int32).toInt) := fun q => hi (Int32.lt_iff_toInt_lt.mpr q)
  rw [own_inc i n h] at h1
  omega
theorem own_s2 (i n : Int32) (h : i < n) : ¬ n < (i + 1) := fun q => by
  have h1 := Int32.lt_iff_toInt_lt.mp q
  have h2 := Int32.lt_iff_toInt_lt.mp h
  rw [own_inc i n h] at h1
  omega
theorem own_s3 (i n : Int32) (k : Nat) (hk : n.toInt - i.toInt < ((k + 1 : Nat) : Int)) (h : i < n) : n.toInt - (i + 1).toInt < (k : Int) := by
  rw [own_inc i n h]
  omega
theorem own_z (i n : Int32) (hj : ¬ n < i) (hk : n.toInt - i.toInt < ((0 : Nat) : Int)) : False := by
  have h2 : ¬ (n.toInt < i.toInt) := fun q => hj (Int32.lt_iff_toInt_lt.mpr q)
  omega
theorem own_clamp (n : Int32) (h : ¬ n < 0) : n.toInt = (n.toNatClampNeg : Int) := by
  have z0 : (0 : Int32).toInt = 0 := by decide
  have h2 : ¬ (n.toInt < (0 : Int32).toInt) := fun q => h (Int32.lt_iff_toInt_lt.mpr q)
  show n.toInt = (n.toInt.toNat : Int)
  omega
theorem own_k0 (n : Int32) (h : ¬ n < 0) : n.toInt - (0 : Int32).toInt < ((n.toNatClampNeg + 1 : Nat) : Int) := by
  have z0 : (0 : Int32).toInt = 0 := by decide
  have := own_clamp n h
  omega
theorem own_tr (i n m : Int32) (h : i < n) (hm : ¬ m < n) : i < m := by
  have h1 := Int32.lt_iff_toInt_lt.mp h
  have h2 : ¬ (m.toInt < n.toInt) := fun q => hm (Int32.lt_iff_toInt_lt.mpr q)
  exact Int32.lt_iff_toInt_lt.mpr (by omega)
theorem own_wrsz {h h' : Heap} {a : Addr} {sl : Nat} {v : Value} (W : Wr h h' a sl v) : h.size ≤ h'.size := by
  obtain ⟨c, -, -, -, rfl⟩ := W
  simp
theorem own_sz {T : State} {h : Heap} (e : T.heap = h) : T.heap.size ≤ h.size := by rw [e]; exact Nat.le_refl _
theorem own_since (s : State) (n : Nat) : s.Since s.vm n := (State.WarmedH.refl s).since n
theorem own_ia0 {Z : State} {h : Heap} {b : Addr} {k : ClassId} (A : Arv Z h b k .byte 0 [] (.int 0)) : Ia Z h b .byte (0 : Int32) (fun _ => 0) := by
  obtain ⟨c, A, -, S, N, -, -⟩ := A
  exact ⟨c, A, S, N, fun j h1 h2 => absurd h2 h1⟩
theorem own_safeA {Z : State} {EL : List (String × Nat)} {vm : Vm} {h : Heap} {a : Addr} {ty : FieldType} {n : Int32} {f : Int32 → Int32} (hal : Z.vm.Alike vm) (F : Ia Z h a ty n f) (q : ty ≠ .byte) : Safe Z EL vm h a := by
  obtain ⟨c, A, -⟩ := F
  exact Safe.arr hal A q
theorem own_safe {Z : State} {EL : List (String × Nat)} {vm : Vm} {h : Heap} {a : Addr} (hal : Z.vm.Alike vm) (E : Exa Z h a "java/lang/String") (F : Fld Z h a "java/lang/String" "value" "[B" .null) : Safe Z EL vm h a := fun B => by
  obtain ⟨p, -, u, x, -, q, -, G, rfl | rfl⟩ := B
  · obtain ⟨cell, cf, k, i, f, e1, e2, -, -, -, -, e7⟩ := F
    cases (show h[q.sa]? = some q.sC from G.ha).symm.trans e1
    obtain ⟨cS, ⟨⟨-, -, -, ⟨c1, k1, i1, f1, -⟩, -, -, -, v1, -⟩, -⟩, -⟩ := G
    obtain ⟨k3, e3⟩ := ff_back (U := Wst Z vm h) hal f1
    have e4 := e2.symm.trans e3
    simp only [Option.some.injEq, Prod.mk.injEq] at e4
    rw [e4.2.2.2, v1] at e7
    cases e7
  · obtain ⟨cell, k, e1, e2, -, -, -⟩ := E
    cases (show h[q.sd]? = some q.SA from G.hd).symm.trans e1
    obtain ⟨cS, -, -, f, -⟩ := G
    have f : vm.findClass "[B" = some q.SA.cls := f
    rw [hal.findClass] at f
    obtain ⟨k1, q1, q2⟩ := Vm.findClass_spec f
    obtain ⟨k2, q3, q4⟩ := Vm.findClass_spec e2
    cases q1.symm.trans q3
    exact absurd (q2.symm.trans q4) (by decide)
theorem own_neA {Z : State} {h : Heap} {a b : Addr} {ty ty' : FieldType} {n n' : Int32} {f f' : Int32 → Int32} (F : Ia Z h a ty n f) (G : Ia Z h b ty' n' f') (hne : ty ≠ ty') : a ≠ b := fun e => by
  subst e
  obtain ⟨c, ⟨A1, ⟨-, kA, hkA, compA, hkindA⟩, -⟩, -⟩ := F
  obtain ⟨c', ⟨B1, ⟨-, kB, hkB, compB, hkindB⟩, -⟩, -⟩ := G
  cases A1.symm.trans B1
  cases hkA.symm.trans hkB
  have := hkindA.symm.trans hkindB
  injection this with _ e
  exact hne e
theorem own_nst {Z : State} {h : Heap} {a : Addr} {C : String} (E : Exa Z h a C) : ∃ c : Cell, h[a]? = some c ∧ c.vm.isStatics = false := by
  obtain ⟨c, k, h1, -, -, h2, -⟩ := E
  exact ⟨c, h1, h2⟩
theorem own_stak {Z : State} {h0 h : Heap} {C n d : String} {v : Value} {ws : List Addr} (F : Sta Z h0 C n d v) (K : Keep h0 h ws) (q : ∀ x ∈ ws, ∃ c : Cell, h0[x]? = some c ∧ c.vm.isStatics = false) : Sta Z h C n d v := by
  obtain ⟨cf, i, k, f, st, cell, h1, h2, h3, h4, h5, h6, h7⟩ := F
  refine ⟨cf, i, k, f, st, cell, h1, h2, h3, h4, K.2.1 _ _ h5 (fun hm => ?_), h6, h7⟩
  obtain ⟨c, e1, e2⟩ := q _ hm
  cases e1.symm.trans h5
  rw [h6] at e2
  cases e2
theorem own_cat {v : Value} (h : v.isRef = true) : v.category = 1 := by
  rcases Jvm.RoadKit.ref_cases h with rfl | ⟨z, rfl⟩ <;> rfl
theorem own_stv {P : Value → Prop} (x : Value) (h : x.isRef = true) (h0 : P .null) (h1 : ∀ z, P (.ref z)) : P x := by
  rcases Jvm.RoadKit.ref_cases h with rfl | ⟨z, rfl⟩
  · exact h0
  · exact h1 z
theorem own_sts {P : Slot → Prop} (x : Slot) (h : x = .unset ∨ ∃ z : Int32, x = .val (.int z)) (h0 : P .unset) (h1 : ∀ z : Int32, P (.val (.int z))) : P x := by
  rcases h with rfl | ⟨z, rfl⟩
  · exact h0
  · exact h1 z
theorem own_nzs {s : State} {args : Array Value} {t : Term} {w : Int32} (ev : t.eval args s none [] s = some (.int w)) (h : (Jvm.Cond.not (.eq t (.int 0))).value args s none s [] = some true) : ¬ (w = 0) := fun e => by
  subst e
  have hk : (Term.int 0).eval args s none [] s = some (.int 0) := Term.int_eval 0
  simp [Cond.value, ev, hk] at h
theorem own_isref {s : State} {args : Array Value} {t : Term} (h : (Jvm.Cond.isRef t).value args s none s [] = some true) : ∃ w : Value, t.eval args s none [] s = some w ∧ w.isRef = true := by
  cases ev : t.eval args s none [] s with
  | none => simp [Cond.value, ev] at h
  | some w => exact ⟨w, rfl, by cases w <;> first | rfl | (simp [Cond.value, ev] at h)⟩
def Ra (Z : State) (h : Heap) (a : Addr) : Prop := ∃ c : Cell, Arr Z h a c (.object "java/lang/Integer") ∧ c.slots.size = 256 ∧ ∀ j : Int32, ¬ (j < 0 ∨ c.slots.size ≤ j.toNatClampNeg) → ∃ v, c.slots[j.toNatClampNeg]? = some v ∧ v.isRef = true
theorem Ra.ext {Z : State} {h h' : Heap} {a : Addr} (F : Ra Z h a) (E : Ext h h') : Ra Z h' a := by
  obtain ⟨c, A, r⟩ := F
  exact ⟨c, A.ext E, r⟩
theorem Ra.at {Z : State} {h : Heap} {a : Addr} {j : Int32} (F : Ra Z h a) (q : ¬ j < 0 ∧ j < 256) : ∃ (c : Cell) (v : Value), Arr Z h a c (.object "java/lang/Integer") ∧ ¬ (j < 0 ∨ c.slots.size ≤ j.toNatClampNeg) ∧ c.slots[j.toNatClampNeg]? = some v ∧ v.isRef = true := by
  obtain ⟨c, A, S, G⟩ := F
  have z0 : (0 : Int32).toInt = 0 := by decide
  have z1 : (256 : Int32).toInt = 256 := by decide
  have h1 : ¬ (j.toInt < (0 : Int32).toInt) := fun x => q.1 (Int32.lt_iff_toInt_lt.mpr x)
  have h2 := Int32.lt_iff_toInt_lt.mp q.2
  have h3 : ¬ (j < 0 ∨ c.slots.size ≤ j.toNatClampNeg) := fun x => x.elim q.1 (fun y => by
    rw [S] at y
    have y : 256 ≤ j.toInt.toNat := y
    omega)
  obtain ⟨v, e1, e2⟩ := G j h3
  exact ⟨c, v, A, h3, e1, e2⟩
theorem own_ra {s : State} {args : Array Value} {t : Term} {a : Addr} (hf : Fit s) (ev : t.eval args s none [] s = some (.ref a)) (hx : (Jvm.Cond.arrayOf t (.object "java/lang/Integer")).value args s none s [] = some true)
    (hl : (Jvm.Cond.eq (.length t) (.int 256)).value args s none s [] = some true) : Ra s s.heap a := by
  obtain ⟨c, A⟩ := Arr.start ev hx
  have hlen := Cond.eq_int (Cond.before_iff.mpr hl) rfl
  obtain ⟨x, cl, hev, hat, -⟩ := Term.length_spec hlen
  cases ev.symm.trans hev
  have h31 := Jvm.Free.SBG.length_lt hev hat hlen
  have e : (Term.length t).eval args s none [] s = some (.int (Int32.ofNat cl.slots.size)) := by simp [Term.eval, hev, hat, h31]
  have h2 : Int32.ofNat cl.slots.size = (256 : Int32) := by simpa using Option.some.inj (e.symm.trans hlen)
  have h3 := congrArg Int32.toInt h2
  rw [Int32.toInt_ofNat_of_lt h31, show (256 : Int32).toInt = 256 from by decide] at h3
  have hc := (Jvm.Joins.arrayAt_spec hat).1
  cases A.1.symm.trans hc
  exact ⟨c, A, by omega, fun j hj => by
    obtain ⟨v, e1, e2⟩ := elem_fit hf A hj
    exact ⟨v, e1, fit_R e2 rfl⟩⟩
theorem own_eqs {s : State} {args : Array Value} {t : Term} {k : Int32} (h : (Jvm.Cond.eq t (.int k)).value args s none s [] = some true) : ∃ w : Int32, t.eval args s none [] s = some (.int w) ∧ w = k :=
  ⟨k, Cond.eq_int (Cond.before_iff.mpr h) rfl, rfl⟩
theorem own_chs (f : Int32 → Int32) (i a : Int32) (h : ∀ j, ¬ (255 : Int32) < f j) (ha : ¬ (255 : Int32) < a) : ∀ j, ¬ (255 : Int32) < upd f i a j := fun j => by
  unfold upd
  split
  · exact ha
  · exact h j
theorem own_lb (x : Int32) : ¬ (255 : Int32) < nar .char ((x &&& (255 : Int32)).toUInt32.toUInt16.toUInt32.toInt32) := by
  obtain ⟨n, hn, e⟩ := own_mask x 255 255 (by decide)
  rw [e]
  exact (show ∀ k : Fin 256, ¬ (255 : Int32) < nar .char ((Int32.ofNat k.val).toUInt32.toUInt16.toUInt32.toInt32) from by decide +kernel) ⟨n, hn⟩
theorem own_ix (p w : Int32) (h : ¬ p < (-128 : Int32)) (h2 : ¬ w < p) (e : w = 127) : ¬ (p + (128 : Int32)) < 0 ∧ (p + (128 : Int32)) < 256 := by
  subst e
  have z0 : (0 : Int32).toInt = 0 := by decide
  have z1 : (-128 : Int32).toInt = -128 := by decide
  have z2 : (127 : Int32).toInt = 127 := by decide
  have z3 : (128 : Int32).toInt = 128 := by decide
  have z4 : (256 : Int32).toInt = 256 := by decide
  have h1 : ¬ (p.toInt < (-128 : Int32).toInt) := fun q => h (Int32.lt_iff_toInt_lt.mpr q)
  have h3 : ¬ ((127 : Int32).toInt < p.toInt) := fun q => h2 (Int32.lt_iff_toInt_lt.mpr q)
  have s : (p + (128 : Int32)).toInt = p.toInt + 128 := by
    rw [Int32.toInt_add, z3]; exact Int.bmod_eq_of_le (by omega) (by omega)
  exact ⟨fun q => by have := Int32.lt_iff_toInt_lt.mp q; omega, Int32.lt_iff_toInt_lt.mpr (by omega)⟩
def EL0 : List (String × Nat) := [("java/lang/String", 7)]
theorem ew0 {Z : State} {a0 : Array Value} (hw : ∀ d ∈ tables_1, d.before a0 Z = true) : EW Z a0 EL0 := EW.cons (text := "") (hw _ (List.mem_of_getElem? (i := 37) rfl)) (fun c hc => by simp at hc) EW.nil
theorem wS0 {Z : State} {a0 : Array Value} (hw : ∀ d ∈ tables_1, d.before a0 Z = true) : ∀ d ∈ Bundle.stringAtoms, d.before a0 Z = true := by
  intro d hd
  simp only [Bundle.stringAtoms, List.mem_cons, List.not_mem_nil, or_false] at hd
  rcases hd with rfl | rfl | rfl | rfl | rfl | rfl | rfl
  · exact (hw _ (List.mem_of_getElem? (i := 9) rfl))
  · exact (hw _ (List.mem_of_getElem? (i := 8) rfl))
  · exact (hw _ (List.mem_of_getElem? (i := 26) rfl))
  · exact (hw _ (List.mem_of_getElem? (i := 36) rfl))
  · exact (hw _ (List.mem_of_getElem? (i := 34) rfl))
  · exact (hw _ (List.mem_of_getElem? (i := 38) rfl))
  · exact (hw _ (List.mem_of_getElem? (i := 39) rfl))
-- body 1: com/example/millrace/millrace/api/SinkRecordWithDataPinLaw.schema(I)Lcom/example/millrace/millrace/api/Schema;
theorem d1_0 : decode method_2_code 0 = .ok (.iload_n 0, 1) := by decide +kernel
theorem d1_1 : decode method_2_code 1 = .ok (.iconst 3, 1) := by decide +kernel
theorem d1_2 : decode method_2_code 2 = .ok (.iand, 1) := by decide +kernel
theorem d1_3 : decode method_2_code 3 = .ok (.istore_n 1, 1) := by decide +kernel
theorem d1_4 : decode method_2_code 4 = .ok (.iload_n 1, 1) := by decide +kernel
theorem d1_5 : decode method_2_code 5 = .ok (.ifCond .ne 5, 3) := by decide +kernel
theorem d1_8 : decode method_2_code 8 = .ok (.aconst_null, 1) := by decide +kernel
theorem d1_9 : decode method_2_code 9 = .ok (.areturn, 1) := by decide +kernel
theorem d1_10 : decode method_2_code 10 = .ok (.iload_n 1, 1) := by decide +kernel
theorem d1_11 : decode method_2_code 11 = .ok (.iconst 1, 1) := by decide +kernel
theorem d1_12 : decode method_2_code 12 = .ok (.if_icmp .ne 7, 3) := by decide +kernel
theorem d1_15 : decode method_2_code 15 = .ok (.getstatic 7, 3) := by decide +kernel
theorem d1_18 : decode method_2_code 18 = .ok (.areturn, 1) := by decide +kernel
theorem d1_19 : decode method_2_code 19 = .ok (.iload_n 1, 1) := by decide +kernel
theorem d1_20 : decode method_2_code 20 = .ok (.iconst 2, 1) := by decide +kernel
theorem d1_21 : decode method_2_code 21 = .ok (.if_icmp .ne 7, 3) := by decide +kernel
theorem d1_24 : decode method_2_code 24 = .ok (.getstatic 13, 3) := by decide +kernel
theorem d1_27 : decode method_2_code 27 = .ok (.areturn, 1) := by decide +kernel
theorem d1_28 : decode method_2_code 28 = .ok (.getstatic 7, 3) := by decide +kernel
theorem d1_31 : decode method_2_code 31 = .ok (.areturn, 1) := by decide +kernel
theorem pn_1 : plainName "com/example/millrace/millrace/api/SinkRecordWithDataPinLaw" = true := by first | (simp [plainName, overriddenIn]; done) | decide +kernel
theorem ef_1 (m : MethodId) (p1 : Int32) : entryFrame m #[(.int p1)] 2 = mkF m 0 #[.val (.int p1), .unset] [] := by first | (simp [entryFrame, mkF, argsToLocals, Value.category]; done) | rfl
def Q1 (Z : State) (p1 : Int32) (w_STRING : Addr) (w_OPTIONAL_STRING : Addr) (h0 : Heap) (n0 : Nat) (v : Option Value) (h : Heap) (L : List Loc) : Prop := ∃ d : Value, v = some d ∧ d.isRef = true ∧ Fr n0 L ∧ h = h0
set_option maxRecDepth 65536 in
set_option maxHeartbeats 40000000 in
theorem rm1 (l : Launch) (Z : State) (a0 : Array Value) (hw : ∀ d ∈ tables_1, d.before a0 Z = true) (ws : List Jvm.Cond) (p1 : Int32) (w_STRING : Addr) (w_OPTIONAL_STRING : Addr) (h0 : Heap) (n0 : Nat) (Z0 : n0 ≤ h0.size) (S_STRING : Sta Z h0 "com/example/millrace/millrace/api/Schema" "STRING" "Lcom/example/millrace/millrace/api/Schema;" (.ref w_STRING)) (S_OPTIONAL_STRING : Sta Z h0 "com/example/millrace/millrace/api/Schema" "OPTIONAL_STRING" "Lcom/example/millrace/millrace/api/Schema;" (.ref w_OPTIONAL_STRING)) :
    MetFree l (⟨"com/example/millrace/millrace/api/SinkRecordWithDataPinLaw", "schema", "(I)Lcom/example/millrace/millrace/api/Schema;"⟩ : MethodName) (head1 (Jvm.Cond.code (⟨"com/example/millrace/millrace/api/SinkRecordWithDataPinLaw", "schema", "(I)Lcom/example/millrace/millrace/api/Schema;"⟩ : MethodName) method_2_code 2 (some (.object "com/example/millrace/millrace/api/Schema")) :: ws) ({ frames := 0, cells := 0, slots := 0, locals := 0 } : Room)) (fun a U => a = #[(.int p1)] ∧ Z.Warmed39 U.vm ∧ U.heap = h0) (fun _ _ _ _ _ => True) (fun _ U o U' => ∃ v L, o = .returned v ∧ Q1 Z p1 w_STRING w_OPTIONAL_STRING h0 n0 v U'.heap L ∧ FrameEnd U o U' L ({ frames := 0, cells := 0, slots := 0, locals := 0 } : Room).cells ({ frames := 0, cells := 0, slots := 0, locals := 0 } : Room).slots) := by
  refine MetFree.of_bodySF (plainFor_of_name pn_1) hisR ?_
  intro p e s m args below meth c s₁ Bd hml0 hP hK
  obtain ⟨rfl, hZ, hh⟩ := hP
  have hx := Bd.exec
  have hby := Bd.bytes
  have hml : c.maxLocals = 2 := hml0
  have hown : s.vm.findClass "com/example/millrace/millrace/api/SinkRecordWithDataPinLaw" = some m.cls := findClass_of_methodNamed Bd.named
  have hnm := (name_of_methodNamed Bd.named Bd.method).1
  have X0 : Stand p l e ({ frames := 0, cells := 0, slots := 0, locals := 0 } : Room) s m #[(.int p1)] below meth c s₁ [] 0 0 := Stand.of_body Bd
  have e0 : s₁.heap = h0 := by rw [← hh, Bd.state]; rfl
  have N0 := Fr.nil n0
  have pre0 : ∀ t, Steps p.tables e below (s₁.setTop (mkF m 0 #[.val (.int p1), .unset] [])) t → Steps p.tables e below (s₁.setTop (entryFrame m #[(.int p1)] 2)) t := fun t k => castTop (ef_1 m p1) k
  have K1 : ∀ t, Steps p.tables e below (s₁.setTop (mkF m 5 #[.val (.int p1), .val (.int (p1 &&& (3 : Int32)))] [(.int (p1 &&& (3 : Int32)))])) t → Steps p.tables e below (s₁.setTop (mkF m 0 #[.val (.int p1), .unset] [])) t := by
    intro t k
    refine XS.iloadN X0.here hx rfl (Jvm.hb hby d1_0) rfl ?_
    show Steps p.tables e below (s₁.setTop (mkF m 1 #[.val (.int p1), .unset] [(.int p1)])) t
    refine XS.iconst X0.here hx rfl (Jvm.hb hby d1_1) ?_
    show Steps p.tables e below (s₁.setTop (mkF m 2 #[.val (.int p1), .unset] [(.int (3 : Int32)), (.int p1)])) t
    refine XS.iand X0.here hx rfl (Jvm.hb hby d1_2) rfl ?_
    show Steps p.tables e below (s₁.setTop (mkF m 3 #[.val (.int p1), .unset] [(.int (p1 &&& (3 : Int32)))])) t
    refine XS.istoreN X0.here hx rfl (Jvm.hb hby d1_3) rfl (l' := #[.val (.int p1), .val (.int (p1 &&& (3 : Int32)))]) rfl ?_
    show Steps p.tables e below (s₁.setTop (mkF m 4 #[.val (.int p1), .val (.int (p1 &&& (3 : Int32)))] [])) t
    refine XS.iloadN X0.here hx rfl (Jvm.hb hby d1_4) rfl ?_
    show Steps p.tables e below (s₁.setTop (mkF m 5 #[.val (.int p1), .val (.int (p1 &&& (3 : Int32)))] [(.int (p1 &&& (3 : Int32)))])) t
    exact k
  by_cases hc2 : (p1 &&& (3 : Int32)) = (0 : Int32)
  · have K3 : ∀ t, Steps p.tables e below (s₁.setTop (mkF m 8 #[.val (.int p1), .val (.int (p1 &&& (3 : Int32)))] [])) t → Steps p.tables e below (s₁.setTop (mkF m 5 #[.val (.int p1), .val (.int (p1 &&& (3 : Int32)))] [(.int (p1 &&& (3 : Int32)))])) t := by
      intro t k
      refine XS.ifNo X0.here hx rfl (Jvm.hb hby d1_5) rfl ((if0 _ _).trans (teq hc2).2) ?_
      exact k
    have K4 : ∀ t, Steps p.tables e below (s₁.setTop (mkF m 9 #[.val (.int p1), .val (.int (p1 &&& (3 : Int32)))] [.null])) t → Steps p.tables e below (s₁.setTop (mkF m 8 #[.val (.int p1), .val (.int (p1 &&& (3 : Int32)))] [])) t := by
      intro t k
      refine XS.aconstNull X0.here hx rfl (Jvm.hb hby d1_8) ?_
      show Steps p.tables e below (s₁.setTop (mkF m 9 #[.val (.int p1), .val (.int (p1 &&& (3 : Int32)))] [.null])) t
      exact k
    obtain ⟨fs, hr, hrun, hended, hW, hsame⟩ := X0.leave (v := some .null) (fun h => by rw [Bd.returns] at h; cases h) Bd.notSynchronized
    refine ⟨_, _, pre0 _ (K1 _ (K3 _ (K4 _ (retOut X0 hx Bd.returns rfl (Or.inr (Or.inr (Or.inr (Or.inr ⟨rfl, rfl, rfl⟩)))) (Jvm.hb hby d1_9) hr)))), hrun, hended, _, _, rfl, ?_, ⟨_, rfl⟩, hW, hsame.mono (by decide) (by decide)⟩
    show Q1 Z p1 w_STRING w_OPTIONAL_STRING h0 n0 _ s₁.heap _
    rw [e0]
    exact ⟨_, rfl, rfl, N0, rfl⟩
  · have K5 : ∀ t, Steps p.tables e below (s₁.setTop (mkF m 10 #[.val (.int p1), .val (.int (p1 &&& (3 : Int32)))] [])) t → Steps p.tables e below (s₁.setTop (mkF m 5 #[.val (.int p1), .val (.int (p1 &&& (3 : Int32)))] [(.int (p1 &&& (3 : Int32)))])) t := by
      intro t k
      refine XS.ifYes X0.here hx rfl (pc0 := 5) (pc' := 10) rfl (Jvm.hb hby d1_5) rfl ((if0 _ _).trans (feq hc2).2) (by decide) (by decide) ?_
      exact k
    have K6 : ∀ t, Steps p.tables e below (s₁.setTop (mkF m 12 #[.val (.int p1), .val (.int (p1 &&& (3 : Int32)))] [(.int (1 : Int32)), (.int (p1 &&& (3 : Int32)))])) t → Steps p.tables e below (s₁.setTop (mkF m 10 #[.val (.int p1), .val (.int (p1 &&& (3 : Int32)))] [])) t := by
      intro t k
      refine XS.iloadN X0.here hx rfl (Jvm.hb hby d1_10) rfl ?_
      show Steps p.tables e below (s₁.setTop (mkF m 11 #[.val (.int p1), .val (.int (p1 &&& (3 : Int32)))] [(.int (p1 &&& (3 : Int32)))])) t
      refine XS.iconst X0.here hx rfl (Jvm.hb hby d1_11) ?_
      show Steps p.tables e below (s₁.setTop (mkF m 12 #[.val (.int p1), .val (.int (p1 &&& (3 : Int32)))] [(.int (1 : Int32)), (.int (p1 &&& (3 : Int32)))])) t
      exact k
    by_cases hc7 : (p1 &&& (3 : Int32)) = (1 : Int32)
    · have K8 : ∀ t, Steps p.tables e below (s₁.setTop (mkF m 15 #[.val (.int p1), .val (.int (p1 &&& (3 : Int32)))] [])) t → Steps p.tables e below (s₁.setTop (mkF m 12 #[.val (.int p1), .val (.int (p1 &&& (3 : Int32)))] [(.int (1 : Int32)), (.int (p1 &&& (3 : Int32)))])) t := by
        intro t k
        refine XS.icmpNo X0.here hx rfl (Jvm.hb hby d1_12) rfl (teq hc7).2 ?_
        exact k
      obtain ⟨T9, X9, e9, st9⟩ := getS2 X0 hx hZ hown (host := "") (Or.inl (hw _ (List.mem_of_getElem? (i := 40) rfl))) Via.refl e0 S_STRING (g := (mkF m 15 #[.val (.int p1), .val (.int (p1 &&& (3 : Int32)))] [])) rfl (Jvm.hb hby d1_15)
      have K10 : ∀ t, Steps p.tables e below (T9.setTop (mkF m 18 #[.val (.int p1), .val (.int (p1 &&& (3 : Int32)))] [(.ref w_STRING)])) t → Steps p.tables e below (s₁.setTop (mkF m 15 #[.val (.int p1), .val (.int (p1 &&& (3 : Int32)))] [])) t := fun t k => st9 _ k
      obtain ⟨fs, hr, hrun, hended, hW, hsame⟩ := X9.leave (v := some (.ref w_STRING)) (fun h => by rw [Bd.returns] at h; cases h) Bd.notSynchronized
      refine ⟨_, _, pre0 _ (K1 _ (K5 _ (K6 _ (K8 _ (K10 _ (retOut X9 hx Bd.returns rfl (Or.inr (Or.inr (Or.inr (Or.inr ⟨rfl, rfl, rfl⟩)))) (Jvm.hb hby d1_18) hr)))))), hrun, hended, _, _, rfl, ?_, ⟨_, rfl⟩, hW, hsame.mono (by decide) (by decide)⟩
      show Q1 Z p1 w_STRING w_OPTIONAL_STRING h0 n0 _ T9.heap _
      rw [e9]
      exact ⟨_, rfl, rfl, N0, rfl⟩
    · have K11 : ∀ t, Steps p.tables e below (s₁.setTop (mkF m 19 #[.val (.int p1), .val (.int (p1 &&& (3 : Int32)))] [])) t → Steps p.tables e below (s₁.setTop (mkF m 12 #[.val (.int p1), .val (.int (p1 &&& (3 : Int32)))] [(.int (1 : Int32)), (.int (p1 &&& (3 : Int32)))])) t := by
        intro t k
        refine XS.icmpYes X0.here hx rfl (pc0 := 12) (pc' := 19) rfl (Jvm.hb hby d1_12) rfl (feq hc7).2 (by decide) (by decide) ?_
        exact k
      have K12 : ∀ t, Steps p.tables e below (s₁.setTop (mkF m 21 #[.val (.int p1), .val (.int (p1 &&& (3 : Int32)))] [(.int (2 : Int32)), (.int (p1 &&& (3 : Int32)))])) t → Steps p.tables e below (s₁.setTop (mkF m 19 #[.val (.int p1), .val (.int (p1 &&& (3 : Int32)))] [])) t := by
        intro t k
        refine XS.iloadN X0.here hx rfl (Jvm.hb hby d1_19) rfl ?_
        show Steps p.tables e below (s₁.setTop (mkF m 20 #[.val (.int p1), .val (.int (p1 &&& (3 : Int32)))] [(.int (p1 &&& (3 : Int32)))])) t
        refine XS.iconst X0.here hx rfl (Jvm.hb hby d1_20) ?_
        show Steps p.tables e below (s₁.setTop (mkF m 21 #[.val (.int p1), .val (.int (p1 &&& (3 : Int32)))] [(.int (2 : Int32)), (.int (p1 &&& (3 : Int32)))])) t
        exact k
      by_cases hc13 : (p1 &&& (3 : Int32)) = (2 : Int32)
      · have K14 : ∀ t, Steps p.tables e below (s₁.setTop (mkF m 24 #[.val (.int p1), .val (.int (p1 &&& (3 : Int32)))] [])) t → Steps p.tables e below (s₁.setTop (mkF m 21 #[.val (.int p1), .val (.int (p1 &&& (3 : Int32)))] [(.int (2 : Int32)), (.int (p1 &&& (3 : Int32)))])) t := by
          intro t k
          refine XS.icmpNo X0.here hx rfl (Jvm.hb hby d1_21) rfl (teq hc13).2 ?_
          exact k
        obtain ⟨T15, X15, e15, st15⟩ := getS2 X0 hx hZ hown (host := "") (Or.inl (hw _ (List.mem_of_getElem? (i := 107) rfl))) Via.refl e0 S_OPTIONAL_STRING (g := (mkF m 24 #[.val (.int p1), .val (.int (p1 &&& (3 : Int32)))] [])) rfl (Jvm.hb hby d1_24)
        have K16 : ∀ t, Steps p.tables e below (T15.setTop (mkF m 27 #[.val (.int p1), .val (.int (p1 &&& (3 : Int32)))] [(.ref w_OPTIONAL_STRING)])) t → Steps p.tables e below (s₁.setTop (mkF m 24 #[.val (.int p1), .val (.int (p1 &&& (3 : Int32)))] [])) t := fun t k => st15 _ k
        obtain ⟨fs, hr, hrun, hended, hW, hsame⟩ := X15.leave (v := some (.ref w_OPTIONAL_STRING)) (fun h => by rw [Bd.returns] at h; cases h) Bd.notSynchronized
        refine ⟨_, _, pre0 _ (K1 _ (K5 _ (K6 _ (K11 _ (K12 _ (K14 _ (K16 _ (retOut X15 hx Bd.returns rfl (Or.inr (Or.inr (Or.inr (Or.inr ⟨rfl, rfl, rfl⟩)))) (Jvm.hb hby d1_27) hr)))))))), hrun, hended, _, _, rfl, ?_, ⟨_, rfl⟩, hW, hsame.mono (by decide) (by decide)⟩
        show Q1 Z p1 w_STRING w_OPTIONAL_STRING h0 n0 _ T15.heap _
        rw [e15]
        exact ⟨_, rfl, rfl, N0, rfl⟩
      · have K17 : ∀ t, Steps p.tables e below (s₁.setTop (mkF m 28 #[.val (.int p1), .val (.int (p1 &&& (3 : Int32)))] [])) t → Steps p.tables e below (s₁.setTop (mkF m 21 #[.val (.int p1), .val (.int (p1 &&& (3 : Int32)))] [(.int (2 : Int32)), (.int (p1 &&& (3 : Int32)))])) t := by
          intro t k
          refine XS.icmpYes X0.here hx rfl (pc0 := 21) (pc' := 28) rfl (Jvm.hb hby d1_21) rfl (feq hc13).2 (by decide) (by decide) ?_
          exact k
        obtain ⟨T18, X18, e18, st18⟩ := getS2 X0 hx hZ hown (host := "") (Or.inl (hw _ (List.mem_of_getElem? (i := 40) rfl))) Via.refl e0 S_STRING (g := (mkF m 28 #[.val (.int p1), .val (.int (p1 &&& (3 : Int32)))] [])) rfl (Jvm.hb hby d1_28)
        have K19 : ∀ t, Steps p.tables e below (T18.setTop (mkF m 31 #[.val (.int p1), .val (.int (p1 &&& (3 : Int32)))] [(.ref w_STRING)])) t → Steps p.tables e below (s₁.setTop (mkF m 28 #[.val (.int p1), .val (.int (p1 &&& (3 : Int32)))] [])) t := fun t k => st18 _ k
        obtain ⟨fs, hr, hrun, hended, hW, hsame⟩ := X18.leave (v := some (.ref w_STRING)) (fun h => by rw [Bd.returns] at h; cases h) Bd.notSynchronized
        refine ⟨_, _, pre0 _ (K1 _ (K5 _ (K6 _ (K11 _ (K12 _ (K17 _ (K19 _ (retOut X18 hx Bd.returns rfl (Or.inr (Or.inr (Or.inr (Or.inr ⟨rfl, rfl, rfl⟩)))) (Jvm.hb hby d1_31) hr)))))))), hrun, hended, _, _, rfl, ?_, ⟨_, rfl⟩, hW, hsame.mono (by decide) (by decide)⟩
        show Q1 Z p1 w_STRING w_OPTIONAL_STRING h0 n0 _ T18.heap _
        rw [e18]
        exact ⟨_, rfl, rfl, N0, rfl⟩
-- body 104: java/lang/String.<init>([CIILjava/lang/Void;)V
theorem d104_0 : decode jdk_42_method_149_code 0 = .ok (.aload_n 0, 1) := by decide +kernel
theorem d104_1 : decode jdk_42_method_149_code 1 = .ok (.invokespecial 1, 3) := by decide +kernel
theorem d104_4 : decode jdk_42_method_149_code 4 = .ok (.iload_n 3, 1) := by decide +kernel
theorem d104_5 : decode jdk_42_method_149_code 5 = .ok (.ifCond .ne 22, 3) := by decide +kernel
theorem d104_8 : decode jdk_42_method_149_code 8 = .ok (.aload_n 0, 1) := by decide +kernel
theorem d104_9 : decode jdk_42_method_149_code 9 = .ok (.ldc 7, 2) := by decide +kernel
theorem d104_11 : decode jdk_42_method_149_code 11 = .ok (.getfield 9, 3) := by decide +kernel
theorem d104_14 : decode jdk_42_method_149_code 14 = .ok (.putfield 9, 3) := by decide +kernel
theorem d104_17 : decode jdk_42_method_149_code 17 = .ok (.aload_n 0, 1) := by decide +kernel
theorem d104_18 : decode jdk_42_method_149_code 18 = .ok (.ldc 7, 2) := by decide +kernel
theorem d104_20 : decode jdk_42_method_149_code 20 = .ok (.getfield 15, 3) := by decide +kernel
theorem d104_23 : decode jdk_42_method_149_code 23 = .ok (.putfield 15, 3) := by decide +kernel
theorem d104_26 : decode jdk_42_method_149_code 26 = .ok (.return_, 1) := by decide +kernel
theorem pn_104 : plainName "java/lang/String" = true := by first | (simp [plainName, overriddenIn]; done) | decide +kernel
theorem ef_104 (m : MethodId) (a1 : Addr) (a2 : Addr) : entryFrame m #[(.ref a1), (.ref a2), (.int (0 : Int32)), (.int (0 : Int32)), .null] 6 = mkF m 0 #[.val (.ref a1), .val (.ref a2), .val (.int (0 : Int32)), .val (.int (0 : Int32)), .val .null, .unset] [] := by first | (simp [entryFrame, mkF, argsToLocals, Value.category]; done) | rfl
def Q104 (Z : State) (a1 : Addr) (a2 : Addr) (u_coder_a1 : Value) (h0 : Heap) (n0 : Nat) (v : Option Value) (h : Heap) (L : List Loc) : Prop := ∃ x1 : Addr, v = none ∧ Fr n0 L ∧ Keep h0 h [a1] ∧ Exa Z h a1 "java/lang/String" ∧ Ia Z h x1 .byte (0 : Int32) (fun _ => 0) ∧ Fld Z h a1 "java/lang/String" "value" "[B" (.ref x1) ∧ Fld Z h a1 "java/lang/String" "coder" "B" (.int (0 : Int32))
set_option maxRecDepth 65536 in
set_option maxHeartbeats 40000000 in
theorem rm104 (l : Launch) (Z : State) (a0 : Array Value) (hw : ∀ d ∈ tables_1, d.before a0 Z = true) (ws : List Jvm.Cond) (a1 : Addr) (a2 : Addr) (u_coder_a1 : Value) (h0 : Heap) (n0 : Nat) (Z0 : n0 ≤ h0.size) (E_a1 : Exa Z h0 a1 "java/lang/String") (F_value_a1 : Fld Z h0 a1 "java/lang/String" "value" "[B" .null) (g_a1 : n0 ≤ a1) (F_coder_a1 : Fld Z h0 a1 "java/lang/String" "coder" "B" u_coder_a1) :
    MetFree l (⟨"java/lang/String", "<init>", "([CIILjava/lang/Void;)V"⟩ : MethodName) (head1 (Jvm.Cond.code (⟨"java/lang/String", "<init>", "([CIILjava/lang/Void;)V"⟩ : MethodName) jdk_42_method_149_code 6 none :: ws) ({ frames := 1, cells := 4, slots := 8, locals := 12 } : Room)) (fun a U => a = #[(.ref a1), (.ref a2), (.int (0 : Int32)), (.int (0 : Int32)), .null] ∧ Z.Warmed39 U.vm ∧ U.heap = h0 ∧ CHv Z EL0 U.vm h0) (fun _ _ _ _ _ => True) (fun _ U o U' => ∃ v L, o = .returned v ∧ Q104 Z a1 a2 u_coder_a1 h0 n0 v U'.heap L ∧ CHr Z EL0 U.vm U.heap U'.vm U'.heap ∧ ReturnedEndW U o U' L ({ frames := 1, cells := 4, slots := 8, locals := 12 } : Room).cells ({ frames := 1, cells := 4, slots := 8, locals := 12 } : Room).slots) := by
  refine MetFree.of_bodySF (plainFor_of_name pn_104) hisR ?_
  intro p e s m args below meth c s₁ Bd hml0 hP hK
  obtain ⟨rfl, hZ, hh, H0⟩ := hP
  have hx := Bd.exec
  have hby := Bd.bytes
  have hml : c.maxLocals = 6 := hml0
  have hown : s.vm.findClass "java/lang/String" = some m.cls := findClass_of_methodNamed Bd.named
  have hnm := (name_of_methodNamed Bd.named Bd.method).1
  obtain ⟨vm0, hvm0⟩ : ∃ z, z = s.vm := ⟨_, rfl⟩
  have X0 : Stand p l e ({ frames := 1, cells := 4, slots := 8, locals := 12 } : Room) (s.setVm vm0) m #[(.ref a1), (.ref a2), (.int (0 : Int32)), (.int (0 : Int32)), .null] below meth c s₁ [] 0 0 := by rw [hvm0]; exact Stand.of_body Bd
  have hS : s.Since vm0 h0.size := by rw [hvm0]; exact own_since s _
  rw [← hvm0] at hZ hown
  have CR0 : CHr Z EL0 s.vm h0 vm0 h0 := by rw [hvm0]; exact CHr.refl H0
  have e0 : s₁.heap = h0 := by rw [← hh, Bd.state]; rfl
  have N0 := Fr.nil n0
  have pre0 : ∀ t, Steps p.tables e below (s₁.setTop (mkF m 0 #[.val (.ref a1), .val (.ref a2), .val (.int (0 : Int32)), .val (.int (0 : Int32)), .val .null, .unset] [])) t → Steps p.tables e below (s₁.setTop (entryFrame m #[(.ref a1), (.ref a2), (.int (0 : Int32)), (.int (0 : Int32)), .null] 6)) t := fun t k => castTop (ef_104 m a1 a2) k
  have K1 : ∀ t, Steps p.tables e below (s₁.setTop (mkF m 1 #[.val (.ref a1), .val (.ref a2), .val (.int (0 : Int32)), .val (.int (0 : Int32)), .val .null, .unset] [(.ref a1)])) t → Steps p.tables e below (s₁.setTop (mkF m 0 #[.val (.ref a1), .val (.ref a2), .val (.int (0 : Int32)), .val (.int (0 : Int32)), .val .null, .unset] [])) t := by
    intro t k
    refine XS.aloadN X0.here hx rfl (Jvm.hb hby d104_0) rfl rfl ?_
    show Steps p.tables e below (s₁.setTop (mkF m 1 #[.val (.ref a1), .val (.ref a2), .val (.int (0 : Int32)), .val (.int (0 : Int32)), .val .null, .unset] [(.ref a1)])) t
    exact k
  obtain ⟨T2, X2, e2, st2⟩ := initO X0 hx hZ hown (hw _ (List.mem_of_getElem? (i := 18) rfl)) (hw _ (List.mem_of_getElem? (i := 19) rfl)) (hw _ (List.mem_of_getElem? (i := 20) rfl)) e0 (g := (mkF m 1 #[.val (.ref a1), .val (.ref a2), .val (.int (0 : Int32)), .val (.int (0 : Int32)), .val .null, .unset] [(.ref a1)])) rfl (by rw [hml]; rfl) rfl (Jvm.hb hby d104_1) (by decide) (W := 0) (by show 2 * 0 + _ ≤ _; exact Nat.le_of_eq rfl) (by decide)
  have K3 : ∀ t, Steps p.tables e below (T2.setTop (mkF m 4 #[.val (.ref a1), .val (.ref a2), .val (.int (0 : Int32)), .val (.int (0 : Int32)), .val .null, .unset] [])) t → Steps p.tables e below (s₁.setTop (mkF m 1 #[.val (.ref a1), .val (.ref a2), .val (.int (0 : Int32)), .val (.int (0 : Int32)), .val .null, .unset] [(.ref a1)])) t := fun t k => st2 _ k
  have K4 : ∀ t, Steps p.tables e below (T2.setTop (mkF m 5 #[.val (.ref a1), .val (.ref a2), .val (.int (0 : Int32)), .val (.int (0 : Int32)), .val .null, .unset] [(.int (0 : Int32))])) t → Steps p.tables e below (T2.setTop (mkF m 4 #[.val (.ref a1), .val (.ref a2), .val (.int (0 : Int32)), .val (.int (0 : Int32)), .val .null, .unset] [])) t := by
    intro t k
    refine XS.iloadN X2.here hx rfl (Jvm.hb hby d104_4) rfl ?_
    show Steps p.tables e below (T2.setTop (mkF m 5 #[.val (.ref a1), .val (.ref a2), .val (.int (0 : Int32)), .val (.int (0 : Int32)), .val .null, .unset] [(.int (0 : Int32))])) t
    exact k
  have hc5 : (0 : Int32) = (0 : Int32) := rfl
  have K6 : ∀ t, Steps p.tables e below (T2.setTop (mkF m 8 #[.val (.ref a1), .val (.ref a2), .val (.int (0 : Int32)), .val (.int (0 : Int32)), .val .null, .unset] [])) t → Steps p.tables e below (T2.setTop (mkF m 5 #[.val (.ref a1), .val (.ref a2), .val (.int (0 : Int32)), .val (.int (0 : Int32)), .val .null, .unset] [(.int (0 : Int32))])) t := by
    intro t k
    refine XS.ifNo X2.here hx rfl (Jvm.hb hby d104_5) rfl ((if0 _ _).trans (teq hc5).2) ?_
    exact k
  have K7 : ∀ t, Steps p.tables e below (T2.setTop (mkF m 9 #[.val (.ref a1), .val (.ref a2), .val (.int (0 : Int32)), .val (.int (0 : Int32)), .val .null, .unset] [(.ref a1)])) t → Steps p.tables e below (T2.setTop (mkF m 8 #[.val (.ref a1), .val (.ref a2), .val (.int (0 : Int32)), .val (.int (0 : Int32)), .val .null, .unset] [])) t := by
    intro t k
    refine XS.aloadN X2.here hx rfl (Jvm.hb hby d104_8) rfl rfl ?_
    show Steps p.tables e below (T2.setTop (mkF m 9 #[.val (.ref a1), .val (.ref a2), .val (.int (0 : Int32)), .val (.int (0 : Int32)), .val .null, .unset] [(.ref a1)])) t
    exact k
  obtain ⟨c8, T8, h8, kk8, d8, kb8, X8, e8, E8, hS, hkS8, hZ, hown, Le8, Lc8, Lv8, La8, -, -, CHq8, -, hne8, st8⟩ := ldcCH (EL := EL0) X2 hx hZ hown (hw _ (List.mem_of_getElem? (i := 37) rfl)) (wS0 hw) e2 hS (Nat.le_refl h0.size) (ew0 hw) (List.mem_cons_self ..) CR0.1 (vs := []) (z := 0) ⟨(fun c hc => by simp at hc), rfl⟩ (by decide) (by decide) (g := (mkF m 9 #[.val (.ref a1), .val (.ref a2), .val (.int (0 : Int32)), .val (.int (0 : Int32)), .val .null, .unset] [(.ref a1)])) rfl (Jvm.hb hby d104_9) (n := 0) (by decide) (by decide) (by decide) (by decide)
  have KP8 : Keep h0 h8 [a1] := (Keep.refl h0 [a1]).ext E8
  have E8_0 : Exa Z h8 a1 "java/lang/String" := E_a1.ext E8
  have F8_1 : Fld Z h8 a1 "java/lang/String" "value" "[B" .null := F_value_a1.ext E8
  have F8_2 : Fld Z h8 a1 "java/lang/String" "coder" "B" u_coder_a1 := F_coder_a1.ext E8
  have CR8 : CHr Z EL0 s.vm h0 T8.vm h8 := CR0.trans (CHq8)
  have nl8_a1 := hne8 a1 (own_safe hZ.alike E8_0 F8_1)
  have Lb8 : Ia Z h8 d8 .byte (0 : Int32) (fun _ => 0) := own_ia0 La8
  have K9 : ∀ t, Steps p.tables e below (T8.setTop (mkF m 11 #[.val (.ref a1), .val (.ref a2), .val (.int (0 : Int32)), .val (.int (0 : Int32)), .val .null, .unset] [(.ref c8), (.ref a1)])) t → Steps p.tables e below (T2.setTop (mkF m 9 #[.val (.ref a1), .val (.ref a2), .val (.int (0 : Int32)), .val (.int (0 : Int32)), .val .null, .unset] [(.ref a1)])) t := fun t k => st8 _ k
  obtain ⟨T10, X10, e10, st10⟩ := getF X8 hx hZ hown (host := "") (Or.inl (hw _ (List.mem_of_getElem? (i := 35) rfl))) Via.refl e8 Lv8 (g := (mkF m 11 #[.val (.ref a1), .val (.ref a2), .val (.int (0 : Int32)), .val (.int (0 : Int32)), .val .null, .unset] [(.ref c8), (.ref a1)])) rfl rfl (Jvm.hb hby d104_11)
  have K11 : ∀ t, Steps p.tables e below (T10.setTop (mkF m 14 #[.val (.ref a1), .val (.ref a2), .val (.int (0 : Int32)), .val (.int (0 : Int32)), .val .null, .unset] [(.ref d8), (.ref a1)])) t → Steps p.tables e below (T8.setTop (mkF m 11 #[.val (.ref a1), .val (.ref a2), .val (.int (0 : Int32)), .val (.int (0 : Int32)), .val .null, .unset] [(.ref c8), (.ref a1)])) t := fun t k => st10 _ k
  obtain ⟨T12, h12, X12, e12, W12, st12⟩ := putF X10 hx hZ hown (host := "") (Or.inl (hw _ (List.mem_of_getElem? (i := 35) rfl))) Via.refl e10 F8_1 E8_0 (Or.inr ⟨(hw _ (List.mem_of_getElem? (i := 36) rfl)), rfl, hnm⟩) (hw _ (List.mem_of_getElem? (i := 8) rfl)) (ty := (.array .byte)) (by decide) rfl rfl (g := (mkF m 14 #[.val (.ref a1), .val (.ref a2), .val (.int (0 : Int32)), .val (.int (0 : Int32)), .val .null, .unset] [(.ref d8), (.ref a1)])) rfl rfl (Jvm.hb hby d104_14)
  have KP12 : Keep h0 h12 [a1] := KP8.wr W12 (Or.inl (List.mem_of_getElem? (i := 0) rfl))
  have N12 := Fr.snoc X12 N0 g_a1
  have E12_0 : Exa Z h12 a1 "java/lang/String" := E8_0.wr W12
  have F12_1 : Fld Z h12 a1 "java/lang/String" "coder" "B" u_coder_a1 := F8_2.other W12 (Or.inr (slot_ne (Or.inr (hw _ (List.mem_of_getElem? (i := 34) rfl))) (Or.inr (hw _ (List.mem_of_getElem? (i := 36) rfl))) (by decide) (t := .byte) (t' := (.array .byte)) (by decide) (by decide)))
  have E12_2 : Exa Z h12 c8 "java/lang/String" := Le8.wr W12
  have F12_3 : Fld Z h12 c8 "java/lang/String" "coder" "B" (.int (0 : Int32)) := Lc8.other W12 (Or.inl (Ne.symm nl8_a1.1))
  have F12_4 : Fld Z h12 c8 "java/lang/String" "value" "[B" (.ref d8) := Lv8.other W12 (Or.inl (Ne.symm nl8_a1.1))
  have A12_5 : Ia Z h12 d8 .byte (0 : Int32) (fun _ => 0) := Lb8.other W12 (Ne.symm nl8_a1.2)
  have CR12 : CHr Z EL0 s.vm h0 T8.vm h12 := CR8.trans (CHr.wr W12 (own_safe hZ.alike E8_0 F8_1) CR8.1)
  have SK12 := Nat.le_trans hkS8 (own_wrsz W12)
  have Sz12_0 : Safe Z EL0 T8.vm h12 a1 := Safe.wr W12 (own_safe hZ.alike E8_0 F8_1) CR8.1 (own_safe hZ.alike E8_0 F8_1)
  have Fw12 : Fld Z h12 a1 "java/lang/String" "value" "[B" (.ref d8) := F8_1.same W12
  have K13 : ∀ t, Steps p.tables e below (T12.setTop (mkF m 17 #[.val (.ref a1), .val (.ref a2), .val (.int (0 : Int32)), .val (.int (0 : Int32)), .val .null, .unset] [])) t → Steps p.tables e below (T10.setTop (mkF m 14 #[.val (.ref a1), .val (.ref a2), .val (.int (0 : Int32)), .val (.int (0 : Int32)), .val .null, .unset] [(.ref d8), (.ref a1)])) t := fun t k => st12 _ k
  have K14 : ∀ t, Steps p.tables e below (T12.setTop (mkF m 18 #[.val (.ref a1), .val (.ref a2), .val (.int (0 : Int32)), .val (.int (0 : Int32)), .val .null, .unset] [(.ref a1)])) t → Steps p.tables e below (T12.setTop (mkF m 17 #[.val (.ref a1), .val (.ref a2), .val (.int (0 : Int32)), .val (.int (0 : Int32)), .val .null, .unset] [])) t := by
    intro t k
    refine XS.aloadN X12.here hx rfl (Jvm.hb hby d104_17) rfl rfl ?_
    show Steps p.tables e below (T12.setTop (mkF m 18 #[.val (.ref a1), .val (.ref a2), .val (.int (0 : Int32)), .val (.int (0 : Int32)), .val .null, .unset] [(.ref a1)])) t
    exact k
  obtain ⟨c15, T15, h15, kk15, d15, kb15, X15, e15, E15, hS, hkS15, hZ, hown, Le15, Lc15, Lv15, La15, -, -, CHq15, -, hne15, st15⟩ := ldcCH (EL := EL0) X12 hx hZ hown (hw _ (List.mem_of_getElem? (i := 37) rfl)) (wS0 hw) e12 hS SK12 (ew0 hw) (List.mem_cons_self ..) CR12.1 (vs := []) (z := 0) ⟨(fun c hc => by simp at hc), rfl⟩ (by decide) (by decide) (g := (mkF m 18 #[.val (.ref a1), .val (.ref a2), .val (.int (0 : Int32)), .val (.int (0 : Int32)), .val .null, .unset] [(.ref a1)])) rfl (Jvm.hb hby d104_18) (n := 0) (by decide) (by decide) (by decide) (by decide)
  have KP15 : Keep h0 h15 [a1] := KP12.ext E15
  have E15_0 : Exa Z h15 a1 "java/lang/String" := E12_0.ext E15
  have F15_1 : Fld Z h15 a1 "java/lang/String" "coder" "B" u_coder_a1 := F12_1.ext E15
  have E15_2 : Exa Z h15 c8 "java/lang/String" := E12_2.ext E15
  have F15_3 : Fld Z h15 c8 "java/lang/String" "coder" "B" (.int (0 : Int32)) := F12_3.ext E15
  have F15_4 : Fld Z h15 c8 "java/lang/String" "value" "[B" (.ref d8) := F12_4.ext E15
  have A15_5 : Ia Z h15 d8 .byte (0 : Int32) (fun _ => 0) := A12_5.ext E15
  have F15_6 : Fld Z h15 a1 "java/lang/String" "value" "[B" (.ref d8) := Fw12.ext E15
  have CR15 : CHr Z EL0 s.vm h0 T15.vm h15 := CR12.trans (CHq15)
  have Sz15_0 : Safe Z EL0 T15.vm h15 a1 := CHr.safe CHq15 E12_0.lt Sz12_0
  have nl15_a1 := hne15 a1 Sz15_0
  have Lb15 : Ia Z h15 d15 .byte (0 : Int32) (fun _ => 0) := own_ia0 La15
  have K16 : ∀ t, Steps p.tables e below (T15.setTop (mkF m 20 #[.val (.ref a1), .val (.ref a2), .val (.int (0 : Int32)), .val (.int (0 : Int32)), .val .null, .unset] [(.ref c15), (.ref a1)])) t → Steps p.tables e below (T12.setTop (mkF m 18 #[.val (.ref a1), .val (.ref a2), .val (.int (0 : Int32)), .val (.int (0 : Int32)), .val .null, .unset] [(.ref a1)])) t := fun t k => st15 _ k
  obtain ⟨T17, X17, e17, st17⟩ := getF X15 hx hZ hown (host := "") (Or.inl (hw _ (List.mem_of_getElem? (i := 33) rfl))) Via.refl e15 Lc15 (g := (mkF m 20 #[.val (.ref a1), .val (.ref a2), .val (.int (0 : Int32)), .val (.int (0 : Int32)), .val .null, .unset] [(.ref c15), (.ref a1)])) rfl rfl (Jvm.hb hby d104_20)
  have K18 : ∀ t, Steps p.tables e below (T17.setTop (mkF m 23 #[.val (.ref a1), .val (.ref a2), .val (.int (0 : Int32)), .val (.int (0 : Int32)), .val .null, .unset] [(.int (0 : Int32)), (.ref a1)])) t → Steps p.tables e below (T15.setTop (mkF m 20 #[.val (.ref a1), .val (.ref a2), .val (.int (0 : Int32)), .val (.int (0 : Int32)), .val .null, .unset] [(.ref c15), (.ref a1)])) t := fun t k => st17 _ k
  obtain ⟨T19, h19, X19, e19, W19, st19⟩ := putF X17 hx hZ hown (host := "") (Or.inl (hw _ (List.mem_of_getElem? (i := 33) rfl))) Via.refl e17 F15_1 E15_0 (Or.inr ⟨(hw _ (List.mem_of_getElem? (i := 34) rfl)), rfl, hnm⟩) (hw _ (List.mem_of_getElem? (i := 8) rfl)) (ty := .byte) (by decide) rfl rfl (g := (mkF m 23 #[.val (.ref a1), .val (.ref a2), .val (.int (0 : Int32)), .val (.int (0 : Int32)), .val .null, .unset] [(.int (0 : Int32)), (.ref a1)])) rfl rfl (Jvm.hb hby d104_23)
  have KP19 : Keep h0 h19 [a1] := KP15.wr W19 (Or.inl (List.mem_of_getElem? (i := 0) rfl))
  have N19 := Fr.snoc X19 N12 g_a1
  have E19_0 : Exa Z h19 a1 "java/lang/String" := E15_0.wr W19
  have E19_1 : Exa Z h19 c8 "java/lang/String" := E15_2.wr W19
  have F19_2 : Fld Z h19 c8 "java/lang/String" "coder" "B" (.int (0 : Int32)) := F15_3.other W19 (Or.inl (Ne.symm nl8_a1.1))
  have F19_3 : Fld Z h19 c8 "java/lang/String" "value" "[B" (.ref d8) := F15_4.other W19 (Or.inl (Ne.symm nl8_a1.1))
  have A19_4 : Ia Z h19 d8 .byte (0 : Int32) (fun _ => 0) := A15_5.other W19 (Ne.symm nl8_a1.2)
  have F19_5 : Fld Z h19 a1 "java/lang/String" "value" "[B" (.ref d8) := F15_6.other W19 (Or.inr (slot_ne (Or.inr (hw _ (List.mem_of_getElem? (i := 36) rfl))) (Or.inr (hw _ (List.mem_of_getElem? (i := 34) rfl))) (by decide) (t := (.array .byte)) (t' := .byte) (by decide) (by decide)))
  have E19_6 : Exa Z h19 c15 "java/lang/String" := Le15.wr W19
  have F19_7 : Fld Z h19 c15 "java/lang/String" "coder" "B" (.int (0 : Int32)) := Lc15.other W19 (Or.inl (Ne.symm nl15_a1.1))
  have F19_8 : Fld Z h19 c15 "java/lang/String" "value" "[B" (.ref d15) := Lv15.other W19 (Or.inl (Ne.symm nl15_a1.1))
  have A19_9 : Ia Z h19 d15 .byte (0 : Int32) (fun _ => 0) := Lb15.other W19 (Ne.symm nl15_a1.2)
  have CR19 : CHr Z EL0 s.vm h0 T15.vm h19 := CR15.trans (CHr.wr W19 Sz15_0 CR15.1)
  have SK19 := Nat.le_trans hkS15 (own_wrsz W19)
  have Sz19_0 : Safe Z EL0 T15.vm h19 a1 := Safe.wr W19 Sz15_0 CR15.1 Sz15_0
  have Fw19 : Fld Z h19 a1 "java/lang/String" "coder" "B" (.int (0 : Int32)) := F15_1.same W19
  have K20 : ∀ t, Steps p.tables e below (T19.setTop (mkF m 26 #[.val (.ref a1), .val (.ref a2), .val (.int (0 : Int32)), .val (.int (0 : Int32)), .val .null, .unset] [])) t → Steps p.tables e below (T17.setTop (mkF m 23 #[.val (.ref a1), .val (.ref a2), .val (.int (0 : Int32)), .val (.int (0 : Int32)), .val .null, .unset] [(.int (0 : Int32)), (.ref a1)])) t := fun t k => st19 _ k
  obtain ⟨fs, hr, hrun, hended, hRW⟩ := X19.leaveW hS (show _ ≤ T19.heap.size from (by rw [e19]; exact SK19)) (v := none) (fun _ => rfl) Bd.notSynchronized
  refine ⟨_, _, pre0 _ (K1 _ (K3 _ (K4 _ (K6 _ (K7 _ (K9 _ (K11 _ (K13 _ (K14 _ (K16 _ (K18 _ (K20 _ (X19.returnOut hx Bd.returns (Jvm.hb hby d104_26) hr))))))))))))), hrun, hended, _, _, rfl, ?_, (show CHr Z EL0 s.vm s.heap T19.vm T19.heap from by rw [hh, e19]; exact CR19.trans (CHv.at X19 hZ (ew0 hw) CR19.1)), hRW.1, hRW.2.1, hRW.2.2.1, hRW.2.2.2.mono (by decide) (by decide)⟩
  show Q104 Z a1 a2 u_coder_a1 h0 n0 _ T19.heap _
  rw [e19]
  exact ⟨d8, rfl, N19, KP19, E19_0, A19_4, F19_5, Fw19⟩
-- body 103: java/lang/String.<init>([C)V
theorem d103_0 : decode jdk_42_method_3_code 0 = .ok (.aload_n 0, 1) := by decide +kernel
theorem d103_1 : decode jdk_42_method_3_code 1 = .ok (.aload_n 1, 1) := by decide +kernel
theorem d103_2 : decode jdk_42_method_3_code 2 = .ok (.iconst 0, 1) := by decide +kernel
theorem d103_3 : decode jdk_42_method_3_code 3 = .ok (.aload_n 1, 1) := by decide +kernel
theorem d103_4 : decode jdk_42_method_3_code 4 = .ok (.arraylength, 1) := by decide +kernel
theorem d103_5 : decode jdk_42_method_3_code 5 = .ok (.aconst_null, 1) := by decide +kernel
theorem d103_6 : decode jdk_42_method_3_code 6 = .ok (.invokespecial 27, 3) := by decide +kernel
theorem d103_9 : decode jdk_42_method_3_code 9 = .ok (.return_, 1) := by decide +kernel
theorem pn_103 : plainName "java/lang/String" = true := by first | (simp [plainName, overriddenIn]; done) | decide +kernel
theorem pd_3 : parseMethodDescriptor "([CIILjava/lang/Void;)V" = some ⟨[(.array .char), .int, .int, (.object "java/lang/Void")], none⟩ := by decide +kernel
theorem ef_103 (m : MethodId) (a1 : Addr) (a2 : Addr) : entryFrame m #[(.ref a1), (.ref a2)] 2 = mkF m 0 #[.val (.ref a1), .val (.ref a2)] [] := by first | (simp [entryFrame, mkF, argsToLocals, Value.category]; done) | rfl
def Q103 (Z : State) (a1 : Addr) (a2 : Addr) (f_a2 : Int32 → Int32) (u_coder_a1 : Value) (h0 : Heap) (n0 : Nat) (v : Option Value) (h : Heap) (L : List Loc) : Prop := ∃ x1 : Addr, v = none ∧ Fr n0 L ∧ Keep h0 h [a1] ∧ Exa Z h a1 "java/lang/String" ∧ Ia Z h x1 .byte (0 : Int32) (fun _ => 0) ∧ Fld Z h a1 "java/lang/String" "value" "[B" (.ref x1) ∧ Fld Z h a1 "java/lang/String" "coder" "B" (.int (0 : Int32))
set_option maxRecDepth 65536 in
set_option maxHeartbeats 40000000 in
theorem rm103 (l : Launch) (Z : State) (a0 : Array Value) (hw : ∀ d ∈ tables_1, d.before a0 Z = true) (ws : List Jvm.Cond) (a1 : Addr) (a2 : Addr) (f_a2 : Int32 → Int32) (u_coder_a1 : Value) (h0 : Heap) (n0 : Nat) (Z0 : n0 ≤ h0.size) (A_a2 : Ia Z h0 a2 .char (0 : Int32) f_a2) (E_a1 : Exa Z h0 a1 "java/lang/String") (F_value_a1 : Fld Z h0 a1 "java/lang/String" "value" "[B" .null) (F_coder_a1 : Fld Z h0 a1 "java/lang/String" "coder" "B" u_coder_a1) (g_a1 : n0 ≤ a1) :
    MetFree l (⟨"java/lang/String", "<init>", "([C)V"⟩ : MethodName) (head1 (Jvm.Cond.code (⟨"java/lang/String", "<init>", "([C)V"⟩ : MethodName) jdk_42_method_3_code 2 none :: ws) ({ frames := 2, cells := 4, slots := 8, locals := 29 } : Room)) (fun a U => a = #[(.ref a1), (.ref a2)] ∧ Z.Warmed39 U.vm ∧ U.heap = h0 ∧ CHv Z EL0 U.vm h0) (fun _ _ _ _ _ => True) (fun _ U o U' => ∃ v L, o = .returned v ∧ Q103 Z a1 a2 f_a2 u_coder_a1 h0 n0 v U'.heap L ∧ CHr Z EL0 U.vm U.heap U'.vm U'.heap ∧ ReturnedEndW U o U' L ({ frames := 2, cells := 4, slots := 8, locals := 29 } : Room).cells ({ frames := 2, cells := 4, slots := 8, locals := 29 } : Room).slots) := by
  refine MetFree.of_bodySF (plainFor_of_name pn_103) hisR ?_
  intro p e s m args below meth c s₁ Bd hml0 hP hK
  obtain ⟨rfl, hZ, hh, H0⟩ := hP
  have hx := Bd.exec
  have hby := Bd.bytes
  have hml : c.maxLocals = 2 := hml0
  have hown : s.vm.findClass "java/lang/String" = some m.cls := findClass_of_methodNamed Bd.named
  have hnm := (name_of_methodNamed Bd.named Bd.method).1
  obtain ⟨vm0, hvm0⟩ : ∃ z, z = s.vm := ⟨_, rfl⟩
  have X0 : Stand p l e ({ frames := 2, cells := 4, slots := 8, locals := 29 } : Room) (s.setVm vm0) m #[(.ref a1), (.ref a2)] below meth c s₁ [] 0 0 := by rw [hvm0]; exact Stand.of_body Bd
  have hS : s.Since vm0 h0.size := by rw [hvm0]; exact own_since s _
  rw [← hvm0] at hZ hown
  have CR0 : CHr Z EL0 s.vm h0 vm0 h0 := by rw [hvm0]; exact CHr.refl H0
  have e0 : s₁.heap = h0 := by rw [← hh, Bd.state]; rfl
  have N0 := Fr.nil n0
  have pre0 : ∀ t, Steps p.tables e below (s₁.setTop (mkF m 0 #[.val (.ref a1), .val (.ref a2)] [])) t → Steps p.tables e below (s₁.setTop (entryFrame m #[(.ref a1), (.ref a2)] 2)) t := fun t k => castTop (ef_103 m a1 a2) k
  have K5 : ∀ t, Steps p.tables e below (s₁.setTop (mkF m 4 #[.val (.ref a1), .val (.ref a2)] [(.ref a2), (.int (0 : Int32)), (.ref a2), (.ref a1)])) t → Steps p.tables e below (s₁.setTop (mkF m 0 #[.val (.ref a1), .val (.ref a2)] [])) t := by
    intro t k
    refine XS.aloadN X0.here hx rfl (Jvm.hb hby d103_0) rfl rfl ?_
    show Steps p.tables e below (s₁.setTop (mkF m 1 #[.val (.ref a1), .val (.ref a2)] [(.ref a1)])) t
    refine XS.aloadN X0.here hx rfl (Jvm.hb hby d103_1) rfl rfl ?_
    show Steps p.tables e below (s₁.setTop (mkF m 2 #[.val (.ref a1), .val (.ref a2)] [(.ref a2), (.ref a1)])) t
    refine XS.iconst X0.here hx rfl (Jvm.hb hby d103_2) ?_
    show Steps p.tables e below (s₁.setTop (mkF m 3 #[.val (.ref a1), .val (.ref a2)] [(.int (0 : Int32)), (.ref a2), (.ref a1)])) t
    refine XS.aloadN X0.here hx rfl (Jvm.hb hby d103_3) rfl rfl ?_
    show Steps p.tables e below (s₁.setTop (mkF m 4 #[.val (.ref a1), .val (.ref a2)] [(.ref a2), (.int (0 : Int32)), (.ref a2), (.ref a1)])) t
    exact k
  obtain ⟨cl1, Aq2, sq3, nq4⟩ := Ia.len A_a2
  have K6 : ∀ t, Steps p.tables e below (s₁.setTop (mkF m 6 #[.val (.ref a1), .val (.ref a2)] [.null, (.int (0 : Int32)), (.int (0 : Int32)), (.ref a2), (.ref a1)])) t → Steps p.tables e below (s₁.setTop (mkF m 4 #[.val (.ref a1), .val (.ref a2)] [(.ref a2), (.int (0 : Int32)), (.ref a2), (.ref a1)])) t := by
    intro t k
    refine X0.arraylength hx (by rw [e0]; exact Aq2.1) (State.isArrayOf_alike hZ.alike Aq2.2.1) (g := (mkF m 4 #[.val (.ref a1), .val (.ref a2)] [(.ref a2), (.int (0 : Int32)), (.ref a2), (.ref a1)])) rfl rfl (Jvm.hb hby d103_4) _ ?_
    rw [len_of sq3 nq4]
    show Steps p.tables e below (s₁.setTop (mkF m 5 #[.val (.ref a1), .val (.ref a2)] [(.int (0 : Int32)), (.int (0 : Int32)), (.ref a2), (.ref a1)])) t
    refine XS.aconstNull X0.here hx rfl (Jvm.hb hby d103_5) ?_
    show Steps p.tables e below (s₁.setTop (mkF m 6 #[.val (.ref a1), .val (.ref a2)] [.null, (.int (0 : Int32)), (.int (0 : Int32)), (.ref a2), (.ref a1)])) t
    exact k
  obtain ⟨_, _, ⟨T7, L7, k7, n7⟩, -, Xq7, hSq7, hgq7, ⟨Lc7, hQ7, l7, y7, z7, CHq7⟩, st7⟩ := X0.specialBackS hx (y := (⟨"java/lang/String", "<init>", "([CIILjava/lang/Void;)V"⟩ : MethodName)) rfl hown (mvT hZ (hw _ (List.mem_of_getElem? (i := 14) rfl))) (mvT hZ (hw _ (List.mem_of_getElem? (i := 15) rfl))) (mvT hZ (hw _ (List.mem_of_getElem? (i := 17) rfl))) (by decide) (backOfSH (W := 0) (EL := EL0) (rm104 l Z a0 hw [] a1 a2 u_coder_a1 h0 n0 Z0 E_a1 F_value_a1 g_a1 F_coder_a1) hZ (hw _ (List.mem_of_getElem? (i := 17) rfl)) (hw _ (List.mem_of_getElem? (i := 9) rfl)) (by decide) (by decide) (ew0 hw) CR0.1) (g := (mkF m 6 #[.val (.ref a1), .val (.ref a2)] [.null, (.int (0 : Int32)), (.int (0 : Int32)), (.ref a2), (.ref a1)])) rfl (by rw [hml]; rfl) (Steps.refl _) (a := a1) (argsL := [(.ref a2), (.int (0 : Int32)), (.int (0 : Int32)), .null]) (rest := []) (lenOf pd_3 rfl) rfl (by show 2 * 0 + _ ≤ _; exact Nat.le_of_eq rfl) (Jvm.hb hby d103_6) (fun _ _ => ⟨rfl, e0, (by decide : 0 + 4 ≤ _), (by decide : 0 + 8 ≤ _)⟩)
  dsimp only [Pt.U, Pt.locs, Pt.cells, Pt.slots] at Xq7 hSq7 hgq7 CHq7 l7 y7 z7 st7 hQ7
  subst l7 y7 z7
  obtain ⟨X7, hS, hZ, hown⟩ := rebS hS (show _ ≤ s₁.heap.size from (by rw [e0]; exact (Nat.le_refl h0.size))) Xq7 hSq7 hgq7 hZ hown
  obtain ⟨h7, e7⟩ : ∃ z, T7.heap = z := ⟨_, rfl⟩
  rw [e7] at hQ7
  rw [e7] at CHq7
  obtain ⟨b7_x1, rfl, N7q, Kq7, R7_0, R7_1, R7_2, R7_3⟩ := hQ7
  have N7 := Fr.app N0 N7q
  have KP7 : Keep h0 h7 [a1] := (Keep.refl h0 [a1]).trans Kq7 (allS (Or.inl (List.mem_of_getElem? (i := 0) rfl)) all0)
  have A7_0 : Ia Z h7 a2 .char (0 : Int32) f_a2 := A_a2.keep Kq7 (ninS (Ne.symm (own_nea E_a1 (hw _ (List.mem_of_getElem? (i := 8) rfl)) A_a2)) nin0)
  have CR7 : CHr Z EL0 s.vm h0 T7.vm h7 := CR0.trans (CHq7)
  rw [e7] at hS
  have K8 : ∀ t, Steps p.tables e below (T7.setTop (mkF m 9 #[.val (.ref a1), .val (.ref a2)] [])) t → Steps p.tables e below (s₁.setTop (mkF m 6 #[.val (.ref a1), .val (.ref a2)] [.null, (.int (0 : Int32)), (.int (0 : Int32)), (.ref a2), (.ref a1)])) t := fun t k => st7.trans k
  obtain ⟨fs, hr, hrun, hended, hRW⟩ := X7.leaveW hS (show _ ≤ T7.heap.size from (by rw [e7]; exact (Nat.le_refl _))) (v := none) (fun _ => rfl) Bd.notSynchronized
  refine ⟨_, _, pre0 _ (K5 _ (K6 _ (K8 _ (X7.returnOut hx Bd.returns (Jvm.hb hby d103_9) hr)))), hrun, hended, _, _, rfl, ?_, (show CHr Z EL0 s.vm s.heap T7.vm T7.heap from by rw [hh, e7]; exact CR7.trans (CHv.at X7 hZ (ew0 hw) CR7.1)), hRW.1, hRW.2.1, hRW.2.2.1, hRW.2.2.2.mono (by decide) (by decide)⟩
  show Q103 Z a1 a2 f_a2 u_coder_a1 h0 n0 _ T7.heap _
  rw [e7]
  exact ⟨b7_x1, rfl, N7, KP7, R7_0, R7_1, R7_2, R7_3⟩
-- body 7: java/lang/StringUTF16.compress([CI[BII)I
theorem d7_0 : decode jdk_52_method_21_code 0 = .ok (.iconst 0, 1) := by decide +kernel
theorem d7_1 : decode jdk_52_method_21_code 1 = .ok (.istore 5, 2) := by decide +kernel
theorem d7_3 : decode jdk_52_method_21_code 3 = .ok (.iload 5, 2) := by decide +kernel
theorem d7_5 : decode jdk_52_method_21_code 5 = .ok (.iload 4, 2) := by decide +kernel
theorem d7_7 : decode jdk_52_method_21_code 7 = .ok (.if_icmp .ge 37, 3) := by decide +kernel
theorem d7_10 : decode jdk_52_method_21_code 10 = .ok (.aload_n 0, 1) := by decide +kernel
theorem d7_11 : decode jdk_52_method_21_code 11 = .ok (.iload_n 1, 1) := by decide +kernel
theorem d7_12 : decode jdk_52_method_21_code 12 = .ok (.caload, 1) := by decide +kernel
theorem d7_13 : decode jdk_52_method_21_code 13 = .ok (.istore 6, 2) := by decide +kernel
theorem d7_15 : decode jdk_52_method_21_code 15 = .ok (.iload 6, 2) := by decide +kernel
theorem d7_17 : decode jdk_52_method_21_code 17 = .ok (.sipush 255, 3) := by decide +kernel
theorem d7_20 : decode jdk_52_method_21_code 20 = .ok (.if_icmp .le 6, 3) := by decide +kernel
theorem d7_26 : decode jdk_52_method_21_code 26 = .ok (.aload_n 2, 1) := by decide +kernel
theorem d7_27 : decode jdk_52_method_21_code 27 = .ok (.iload_n 3, 1) := by decide +kernel
theorem d7_28 : decode jdk_52_method_21_code 28 = .ok (.iload 6, 2) := by decide +kernel
theorem d7_30 : decode jdk_52_method_21_code 30 = .ok (.i2b, 1) := by decide +kernel
theorem d7_31 : decode jdk_52_method_21_code 31 = .ok (.bastore, 1) := by decide +kernel
theorem d7_32 : decode jdk_52_method_21_code 32 = .ok (.iinc 1 1, 3) := by decide +kernel
theorem d7_35 : decode jdk_52_method_21_code 35 = .ok (.iinc 3 1, 3) := by decide +kernel
theorem d7_38 : decode jdk_52_method_21_code 38 = .ok (.iinc 5 1, 3) := by decide +kernel
theorem d7_41 : decode jdk_52_method_21_code 41 = .ok (.goto (-38), 3) := by decide +kernel
theorem d7_44 : decode jdk_52_method_21_code 44 = .ok (.iload 4, 2) := by decide +kernel
theorem d7_46 : decode jdk_52_method_21_code 46 = .ok (.ireturn, 1) := by decide +kernel
theorem pn_7 : plainName "java/lang/StringUTF16" = true := by first | (simp [plainName, overriddenIn]; done) | decide +kernel
theorem ef_7 (m : MethodId) (a1 : Addr) (a3 : Addr) (p5 : Int32) : entryFrame m #[(.ref a1), (.int (0 : Int32)), (.ref a3), (.int (0 : Int32)), (.int p5)] 7 = mkF m 0 #[.val (.ref a1), .val (.int (0 : Int32)), .val (.ref a3), .val (.int (0 : Int32)), .val (.int p5), .unset, .unset] [] := by first | (simp [entryFrame, mkF, argsToLocals, Value.category]; done) | rfl
def f7_u1 (f_a1 : Int32 → Int32) (i1 : Int32) (i3 : Int32) (g : Int32 → Int32) : Int32 → Int32 := (upd g i3 (nar .byte ((f_a1 i1).toInt8.toInt32)))
def f7_L (p5 : Int32) (f_a1 : Int32 → Int32) (f_a3 : Int32 → Int32) : Nat → (Int32) → (Int32) → (Int32) → (Int32 → Int32) → Int32
  | 0, _, _, _, _ => 0
  | k + 1, i1, i3, i5, g => (if i5 < p5 then (f7_L p5 f_a1 f_a3 k (i1 + (1 : Int32)) (i3 + (1 : Int32)) (i5 + (1 : Int32)) (f7_u1 f_a1 i1 i3 g)) else p5)
theorem f7_L_succ (p5 : Int32) (f_a1 : Int32 → Int32) (f_a3 : Int32 → Int32) (k : Nat) (i1 : Int32) (i3 : Int32) (i5 : Int32) (g : Int32 → Int32) : f7_L p5 f_a1 f_a3 (k + 1) i1 i3 i5 g = (if i5 < p5 then (f7_L p5 f_a1 f_a3 k (i1 + (1 : Int32)) (i3 + (1 : Int32)) (i5 + (1 : Int32)) (f7_u1 f_a1 i1 i3 g)) else p5) := rfl
def f7_G_a3 (p5 : Int32) (f_a1 : Int32 → Int32) (f_a3 : Int32 → Int32) : Nat → (Int32) → (Int32) → (Int32) → (Int32 → Int32) → Int32 → Int32
  | 0, _, _, _, g => g
  | k + 1, i1, i3, i5, g => (if i5 < p5 then (f7_G_a3 p5 f_a1 f_a3 k (i1 + (1 : Int32)) (i3 + (1 : Int32)) (i5 + (1 : Int32)) (f7_u1 f_a1 i1 i3 g)) else g)
theorem f7_G_a3_succ (p5 : Int32) (f_a1 : Int32 → Int32) (f_a3 : Int32 → Int32) (k : Nat) (i1 : Int32) (i3 : Int32) (i5 : Int32) (g : Int32 → Int32) : f7_G_a3 p5 f_a1 f_a3 (k + 1) i1 i3 i5 g = (if i5 < p5 then (f7_G_a3 p5 f_a1 f_a3 k (i1 + (1 : Int32)) (i3 + (1 : Int32)) (i5 + (1 : Int32)) (f7_u1 f_a1 i1 i3 g)) else g) := rfl
def f7 (p5 : Int32) (f_a1 : Int32 → Int32) (f_a3 : Int32 → Int32) : Int32 := (f7_L p5 f_a1 f_a3 (p5.toNatClampNeg + 1) (0 : Int32) (0 : Int32) (0 : Int32) f_a3)
def f7_G_a30 (p5 : Int32) (f_a1 : Int32 → Int32) (f_a3 : Int32 → Int32) : Int32 → Int32 := (f7_G_a3 p5 f_a1 f_a3 (p5.toNatClampNeg + 1) (0 : Int32) (0 : Int32) (0 : Int32) f_a3)
def Q7 (Z : State) (a1 : Addr) (a3 : Addr) (p5 : Int32) (n_a1 : Int32) (f_a1 : Int32 → Int32) (n_a3 : Int32) (f_a3 : Int32 → Int32) (h0 : Heap) (n0 : Nat) (v : Option Value) (h : Heap) (L : List Loc) : Prop := v = some (.int (f7 p5 f_a1 f_a3)) ∧ Fr n0 L ∧ Keep h0 h [a3] ∧ Ia Z h a3 .byte n_a3 (f7_G_a30 p5 f_a1 f_a3)
set_option maxRecDepth 65536 in
set_option maxHeartbeats 40000000 in
theorem rm7 (l : Launch) (Z : State) (a0 : Array Value) (hw : ∀ d ∈ tables_1, d.before a0 Z = true) (ws : List Jvm.Cond) (a1 : Addr) (a3 : Addr) (p5 : Int32) (n_a1 : Int32) (f_a1 : Int32 → Int32) (n_a3 : Int32) (f_a3 : Int32 → Int32) (h0 : Heap) (n0 : Nat) (Z0 : n0 ≤ h0.size) (hp : ¬ p5 < 0) (ha : ¬ n_a1 < p5) (hb : ¬ n_a3 < p5) (hch : ∀ j : Int32, ¬ j < 0 → j < p5 → ¬ (255 : Int32) < f_a1 j) (A_a1 : Ia Z h0 a1 .char n_a1 f_a1) (A_a3 : Ia Z h0 a3 .byte n_a3 f_a3) (g_a3 : n0 ≤ a3) :
    MetFree l (⟨"java/lang/StringUTF16", "compress", "([CI[BII)I"⟩ : MethodName) (head1 (Jvm.Cond.code (⟨"java/lang/StringUTF16", "compress", "([CI[BII)I"⟩ : MethodName) jdk_52_method_21_code 7 (some .int) :: ws) ({ frames := 0, cells := 0, slots := 0, locals := 0 } : Room)) (fun a U => a = #[(.ref a1), (.int (0 : Int32)), (.ref a3), (.int (0 : Int32)), (.int p5)] ∧ Z.Warmed39 U.vm ∧ U.heap = h0) (fun _ _ _ _ _ => True) (fun _ U o U' => ∃ v L, o = .returned v ∧ Q7 Z a1 a3 p5 n_a1 f_a1 n_a3 f_a3 h0 n0 v U'.heap L ∧ FrameEnd U o U' L ({ frames := 0, cells := 0, slots := 0, locals := 0 } : Room).cells ({ frames := 0, cells := 0, slots := 0, locals := 0 } : Room).slots) := by
  refine MetFree.of_bodySF (plainFor_of_name pn_7) hisR ?_
  intro p e s m args below meth c s₁ Bd hml0 hP hK
  obtain ⟨rfl, hZ, hh⟩ := hP
  have hx := Bd.exec
  have hby := Bd.bytes
  have hml : c.maxLocals = 7 := hml0
  have hown : s.vm.findClass "java/lang/StringUTF16" = some m.cls := findClass_of_methodNamed Bd.named
  have hnm := (name_of_methodNamed Bd.named Bd.method).1
  have X0 : Stand p l e ({ frames := 0, cells := 0, slots := 0, locals := 0 } : Room) s m #[(.ref a1), (.int (0 : Int32)), (.ref a3), (.int (0 : Int32)), (.int p5)] below meth c s₁ [] 0 0 := Stand.of_body Bd
  have e0 : s₁.heap = h0 := by rw [← hh, Bd.state]; rfl
  have N0 := Fr.nil n0
  have pre0 : ∀ t, Steps p.tables e below (s₁.setTop (mkF m 0 #[.val (.ref a1), .val (.int (0 : Int32)), .val (.ref a3), .val (.int (0 : Int32)), .val (.int p5), .unset, .unset] [])) t → Steps p.tables e below (s₁.setTop (entryFrame m #[(.ref a1), (.int (0 : Int32)), (.ref a3), (.int (0 : Int32)), (.int p5)] 7)) t := fun t k => castTop (ef_7 m a1 a3 p5) k
  have K1 : ∀ t, Steps p.tables e below (s₁.setTop (mkF m 3 #[.val (.ref a1), .val (.int (0 : Int32)), .val (.ref a3), .val (.int (0 : Int32)), .val (.int p5), .val (.int (0 : Int32)), .unset] [])) t → Steps p.tables e below (s₁.setTop (mkF m 0 #[.val (.ref a1), .val (.int (0 : Int32)), .val (.ref a3), .val (.int (0 : Int32)), .val (.int p5), .unset, .unset] [])) t := by
    intro t k
    refine XS.iconst X0.here hx rfl (Jvm.hb hby d7_0) ?_
    show Steps p.tables e below (s₁.setTop (mkF m 1 #[.val (.ref a1), .val (.int (0 : Int32)), .val (.ref a3), .val (.int (0 : Int32)), .val (.int p5), .unset, .unset] [(.int (0 : Int32))])) t
    refine XS.istore X0.here hx rfl (Jvm.hb hby d7_1) rfl (l' := #[.val (.ref a1), .val (.int (0 : Int32)), .val (.ref a3), .val (.int (0 : Int32)), .val (.int p5), .val (.int (0 : Int32)), .unset]) rfl ?_
    show Steps p.tables e below (s₁.setTop (mkF m 3 #[.val (.ref a1), .val (.int (0 : Int32)), .val (.ref a3), .val (.int (0 : Int32)), .val (.int p5), .val (.int (0 : Int32)), .unset] [])) t
    exact k
  have LP : ∀ (k : Nat) (i1 : Int32) (i3 : Int32) (i5 : Int32) (g : Int32 → Int32) (t6 : Slot) (ht_t6 : t6 = .unset ∨ ∃ z : Int32, t6 = .val (.int z)) (TL : State) (hL : Heap) (LL : List Loc), Stand p l e ({ frames := 0, cells := 0, slots := 0, locals := 0 } : Room) s m #[(.ref a1), (.int (0 : Int32)), (.ref a3), (.int (0 : Int32)), (.int p5)] below meth c TL LL 0 0 → TL.heap = hL → Fr n0 LL → Keep h0 hL [a3] → Ia Z hL a1 .char n_a1 f_a1 → Ia Z hL a3 .byte n_a3 g → (¬ i5 < 0) → (¬ p5 < i5) → (i1 = i5) → (i3 = i5) → (p5.toInt - i5.toInt < (k : Int)) → ∃ s₂ o, Steps p.tables e below (TL.setTop (mkF m 3 #[.val (.ref a1), .val (.int i1), .val (.ref a3), .val (.int i3), .val (.int p5), .val (.int i5), t6] [])) s₂ ∧ s₂.status = .running ∧ Ended s₂ below o ∧ ∃ v L, o = .returned v ∧ (v = some (.int (f7_L p5 f_a1 f_a3 k i1 i3 i5 g)) ∧ Fr n0 L ∧ Keep h0 s₂.heap [a3] ∧ Ia Z s₂.heap a3 .byte n_a3 (f7_G_a3 p5 f_a1 f_a3 k i1 i3 i5 g)) ∧ FrameEnd s o s₂ L ({ frames := 0, cells := 0, slots := 0, locals := 0 } : Room).cells ({ frames := 0, cells := 0, slots := 0, locals := 0 } : Room).slots := by
    intro k
    induction k with
    | zero =>
      intro i1 i3 i5 g t6 ht_t6 TL hL LL XL eL NL KL hL_0 hL_1 hi hj e1 e3 hk
      exfalso
      exact own_z _ _ hj hk
    | succ k ih =>
      intro i1 i3 i5 g t6 ht_t6 TL hL LL XL eL NL KL hL_0 hL_1 hi hj e1 e3 hk
      have K501 : ∀ t, Steps p.tables e below (TL.setTop (mkF m 7 #[.val (.ref a1), .val (.int i1), .val (.ref a3), .val (.int i3), .val (.int p5), .val (.int i5), t6] [(.int p5), (.int i5)])) t → Steps p.tables e below (TL.setTop (mkF m 3 #[.val (.ref a1), .val (.int i1), .val (.ref a3), .val (.int i3), .val (.int p5), .val (.int i5), t6] [])) t := by
        intro t k
        refine XS.iload XL.here hx rfl (Jvm.hb hby d7_3) rfl ?_
        show Steps p.tables e below (TL.setTop (mkF m 5 #[.val (.ref a1), .val (.int i1), .val (.ref a3), .val (.int i3), .val (.int p5), .val (.int i5), t6] [(.int i5)])) t
        refine XS.iload XL.here hx rfl (Jvm.hb hby d7_5) rfl ?_
        show Steps p.tables e below (TL.setTop (mkF m 7 #[.val (.ref a1), .val (.int i1), .val (.ref a3), .val (.int i3), .val (.int p5), .val (.int i5), t6] [(.int p5), (.int i5)])) t
        exact k
      by_cases hc502 : i5 < p5
      · have K503 : ∀ t, Steps p.tables e below (TL.setTop (mkF m 10 #[.val (.ref a1), .val (.int i1), .val (.ref a3), .val (.int i3), .val (.int p5), .val (.int i5), t6] [])) t → Steps p.tables e below (TL.setTop (mkF m 7 #[.val (.ref a1), .val (.int i1), .val (.ref a3), .val (.int i3), .val (.int p5), .val (.int i5), t6] [(.int p5), (.int i5)])) t := by
          intro t k
          refine XS.icmpNo XL.here hx rfl (Jvm.hb hby d7_7) rfl (tlt hc502).2.1 ?_
          exact k
        have K508 : ∀ t, Steps p.tables e below (TL.setTop (mkF m 12 #[.val (.ref a1), .val (.int i1), .val (.ref a3), .val (.int i3), .val (.int p5), .val (.int i5), t6] [(.int i1), (.ref a1)])) t → Steps p.tables e below (TL.setTop (mkF m 10 #[.val (.ref a1), .val (.int i1), .val (.ref a3), .val (.int i3), .val (.int p5), .val (.int i5), t6] [])) t := by
          intro t k
          refine XS.aloadN XL.here hx rfl (Jvm.hb hby d7_10) rfl rfl ?_
          show Steps p.tables e below (TL.setTop (mkF m 11 #[.val (.ref a1), .val (.int i1), .val (.ref a3), .val (.int i3), .val (.int p5), .val (.int i5), t6] [(.ref a1)])) t
          refine XS.iloadN XL.here hx rfl (Jvm.hb hby d7_11) rfl ?_
          show Steps p.tables e below (TL.setTop (mkF m 12 #[.val (.ref a1), .val (.int i1), .val (.ref a3), .val (.int i3), .val (.int p5), .val (.int i5), t6] [(.int i1), (.ref a1)])) t
          exact k
        have hin504 : ¬ i1 < 0 ∧ i1 < n_a1 := by exact ⟨by rw [e1]; exact hi, by rw [e1]; exact own_tr _ _ _ (by assumption) ha⟩
        obtain ⟨cl505, Aq506, hjhin504, aq507⟩ := Ia.at hL_0 hin504
        have K509 : ∀ t, Steps p.tables e below (TL.setTop (mkF m 20 #[.val (.ref a1), .val (.int i1), .val (.ref a3), .val (.int i3), .val (.int p5), .val (.int i5), .val (.int (f_a1 i1))] [(.int (255 : Int32)), (.int (f_a1 i1))])) t → Steps p.tables e below (TL.setTop (mkF m 12 #[.val (.ref a1), .val (.int i1), .val (.ref a3), .val (.int i3), .val (.int p5), .val (.int i5), t6] [(.int i1), (.ref a1)])) t := by
          intro t k
          refine XL.caload hx (j := i1) (v := .int (f_a1 i1)) (by rw [eL]; exact Aq506.1) (State.isArrayOf_alike hZ.alike Aq506.2.1) Aq506.2.2 hjhin504 aq507 (g := (mkF m 12 #[.val (.ref a1), .val (.int i1), .val (.ref a3), .val (.int i3), .val (.int p5), .val (.int i5), t6] [(.int i1), (.ref a1)])) rfl rfl (Jvm.hb hby d7_12) _ ?_
          show Steps p.tables e below (TL.setTop (mkF m 13 #[.val (.ref a1), .val (.int i1), .val (.ref a3), .val (.int i3), .val (.int p5), .val (.int i5), t6] [(.int (f_a1 i1))])) t
          refine XS.istore XL.here hx rfl (Jvm.hb hby d7_13) rfl (l' := #[.val (.ref a1), .val (.int i1), .val (.ref a3), .val (.int i3), .val (.int p5), .val (.int i5), .val (.int (f_a1 i1))]) (own_sts (P := fun y => storeLocals #[.val (.ref a1), .val (.int i1), .val (.ref a3), .val (.int i3), .val (.int p5), .val (.int i5), y] 6 (.int (f_a1 i1)) = some #[.val (.ref a1), .val (.int i1), .val (.ref a3), .val (.int i3), .val (.int p5), .val (.int i5), .val (.int (f_a1 i1))]) _ ht_t6 rfl (fun _ => rfl)) ?_
          show Steps p.tables e below (TL.setTop (mkF m 15 #[.val (.ref a1), .val (.int i1), .val (.ref a3), .val (.int i3), .val (.int p5), .val (.int i5), .val (.int (f_a1 i1))] [])) t
          refine XS.iload XL.here hx rfl (Jvm.hb hby d7_15) rfl ?_
          show Steps p.tables e below (TL.setTop (mkF m 17 #[.val (.ref a1), .val (.int i1), .val (.ref a3), .val (.int i3), .val (.int p5), .val (.int i5), .val (.int (f_a1 i1))] [(.int (f_a1 i1))])) t
          refine XS.sipush XL.here hx rfl (Jvm.hb hby d7_17) ?_
          show Steps p.tables e below (TL.setTop (mkF m 20 #[.val (.ref a1), .val (.int i1), .val (.ref a3), .val (.int i3), .val (.int p5), .val (.int i5), .val (.int (f_a1 i1))] [(.int (255 : Int32)), (.int (f_a1 i1))])) t
          exact k
        have hc510 : ¬ ((255 : Int32) < (f_a1 i1)) := (by rw [e1]; exact hch _ hi (by assumption))
        have K511 : ∀ t, Steps p.tables e below (TL.setTop (mkF m 26 #[.val (.ref a1), .val (.int i1), .val (.ref a3), .val (.int i3), .val (.int p5), .val (.int i5), .val (.int (f_a1 i1))] [])) t → Steps p.tables e below (TL.setTop (mkF m 20 #[.val (.ref a1), .val (.int i1), .val (.ref a3), .val (.int i3), .val (.int p5), .val (.int i5), .val (.int (f_a1 i1))] [(.int (255 : Int32)), (.int (f_a1 i1))])) t := by
          intro t k
          refine XS.icmpYes XL.here hx rfl (pc0 := 20) (pc' := 26) rfl (Jvm.hb hby d7_20) rfl (flt hc510).2.2.2 (by decide) (by decide) ?_
          exact k
        have K512 : ∀ t, Steps p.tables e below (TL.setTop (mkF m 31 #[.val (.ref a1), .val (.int i1), .val (.ref a3), .val (.int i3), .val (.int p5), .val (.int i5), .val (.int (f_a1 i1))] [(.int ((f_a1 i1).toInt8.toInt32)), (.int i3), (.ref a3)])) t → Steps p.tables e below (TL.setTop (mkF m 26 #[.val (.ref a1), .val (.int i1), .val (.ref a3), .val (.int i3), .val (.int p5), .val (.int i5), .val (.int (f_a1 i1))] [])) t := by
          intro t k
          refine XS.aloadN XL.here hx rfl (Jvm.hb hby d7_26) rfl rfl ?_
          show Steps p.tables e below (TL.setTop (mkF m 27 #[.val (.ref a1), .val (.int i1), .val (.ref a3), .val (.int i3), .val (.int p5), .val (.int i5), .val (.int (f_a1 i1))] [(.ref a3)])) t
          refine XS.iloadN XL.here hx rfl (Jvm.hb hby d7_27) rfl ?_
          show Steps p.tables e below (TL.setTop (mkF m 28 #[.val (.ref a1), .val (.int i1), .val (.ref a3), .val (.int i3), .val (.int p5), .val (.int i5), .val (.int (f_a1 i1))] [(.int i3), (.ref a3)])) t
          refine XS.iload XL.here hx rfl (Jvm.hb hby d7_28) rfl ?_
          show Steps p.tables e below (TL.setTop (mkF m 30 #[.val (.ref a1), .val (.int i1), .val (.ref a3), .val (.int i3), .val (.int p5), .val (.int i5), .val (.int (f_a1 i1))] [(.int (f_a1 i1)), (.int i3), (.ref a3)])) t
          refine XS.i2b XL.here hx rfl (Jvm.hb hby d7_30) rfl ?_
          show Steps p.tables e below (TL.setTop (mkF m 31 #[.val (.ref a1), .val (.int i1), .val (.ref a3), .val (.int i3), .val (.int p5), .val (.int i5), .val (.int (f_a1 i1))] [(.int ((f_a1 i1).toInt8.toInt32)), (.int i3), (.ref a3)])) t
          exact k
        have hin513 : ¬ i3 < 0 ∧ i3 < n_a3 := by exact ⟨by rw [e3]; exact hi, by rw [e3]; exact own_tr _ _ _ (by assumption) hb⟩
        obtain ⟨cl513, Aq513, hj513, aq513⟩ := Ia.at hL_1 hin513
        obtain ⟨T513, h513, X513, e513, W513, st513⟩ := stB XL hx hZ eL Aq513 (j := i3) hj513 (g := (mkF m 31 #[.val (.ref a1), .val (.int i1), .val (.ref a3), .val (.int i3), .val (.int p5), .val (.int i5), .val (.int (f_a1 i1))] [(.int ((f_a1 i1).toInt8.toInt32)), (.int i3), (.ref a3)])) rfl rfl (Jvm.hb hby d7_31)
        have KP513 : Keep h0 h513 [a3] := KL.wr W513 (Or.inl (List.mem_of_getElem? (i := 0) rfl))
        have N513 := Fr.snoc X513 NL g_a3
        have A513_0 : Ia Z h513 a1 .char n_a1 f_a1 := hL_0.other W513 (own_neA hL_0 hL_1 (by decide))
        have Aw513 : Ia Z h513 a3 .byte n_a3 (f7_u1 f_a1 i1 i3 g) := hL_1.set W513 hin513.1
        have K514 : ∀ t, Steps p.tables e below (T513.setTop (mkF m 32 #[.val (.ref a1), .val (.int i1), .val (.ref a3), .val (.int i3), .val (.int p5), .val (.int i5), .val (.int (f_a1 i1))] [])) t → Steps p.tables e below (TL.setTop (mkF m 31 #[.val (.ref a1), .val (.int i1), .val (.ref a3), .val (.int i3), .val (.int p5), .val (.int i5), .val (.int (f_a1 i1))] [(.int ((f_a1 i1).toInt8.toInt32)), (.int i3), (.ref a3)])) t := fun t k => st513 _ k
        have K515 : ∀ t, Steps p.tables e below (T513.setTop (mkF m 3 #[.val (.ref a1), .val (.int (i1 + (1 : Int32))), .val (.ref a3), .val (.int (i3 + (1 : Int32))), .val (.int p5), .val (.int (i5 + (1 : Int32))), .val (.int (f_a1 i1))] [])) t → Steps p.tables e below (T513.setTop (mkF m 32 #[.val (.ref a1), .val (.int i1), .val (.ref a3), .val (.int i3), .val (.int p5), .val (.int i5), .val (.int (f_a1 i1))] [])) t := by
          intro t k
          refine XS.iinc X513.here hx rfl (Jvm.hb hby d7_32) rfl (l' := #[.val (.ref a1), .val (.int (i1 + (1 : Int32))), .val (.ref a3), .val (.int i3), .val (.int p5), .val (.int i5), .val (.int (f_a1 i1))]) rfl ?_
          show Steps p.tables e below (T513.setTop (mkF m 35 #[.val (.ref a1), .val (.int (i1 + (1 : Int32))), .val (.ref a3), .val (.int i3), .val (.int p5), .val (.int i5), .val (.int (f_a1 i1))] [])) t
          refine XS.iinc X513.here hx rfl (Jvm.hb hby d7_35) rfl (l' := #[.val (.ref a1), .val (.int (i1 + (1 : Int32))), .val (.ref a3), .val (.int (i3 + (1 : Int32))), .val (.int p5), .val (.int i5), .val (.int (f_a1 i1))]) rfl ?_
          show Steps p.tables e below (T513.setTop (mkF m 38 #[.val (.ref a1), .val (.int (i1 + (1 : Int32))), .val (.ref a3), .val (.int (i3 + (1 : Int32))), .val (.int p5), .val (.int i5), .val (.int (f_a1 i1))] [])) t
          refine XS.iinc X513.here hx rfl (Jvm.hb hby d7_38) rfl (l' := #[.val (.ref a1), .val (.int (i1 + (1 : Int32))), .val (.ref a3), .val (.int (i3 + (1 : Int32))), .val (.int p5), .val (.int (i5 + (1 : Int32))), .val (.int (f_a1 i1))]) rfl ?_
          show Steps p.tables e below (T513.setTop (mkF m 41 #[.val (.ref a1), .val (.int (i1 + (1 : Int32))), .val (.ref a3), .val (.int (i3 + (1 : Int32))), .val (.int p5), .val (.int (i5 + (1 : Int32))), .val (.int (f_a1 i1))] [])) t
          refine XS.goto X513.here hx rfl (pc0 := 41) (pc' := 3) rfl (Jvm.hb hby d7_41) (by decide) (by decide) ?_
          show Steps p.tables e below (T513.setTop (mkF m 3 #[.val (.ref a1), .val (.int (i1 + (1 : Int32))), .val (.ref a3), .val (.int (i3 + (1 : Int32))), .val (.int p5), .val (.int (i5 + (1 : Int32))), .val (.int (f_a1 i1))] [])) t
          exact k
        obtain ⟨s₂, o, hs, zq1, zq2, v, L, zq3, zq4, zq7⟩ := ih (i1 + (1 : Int32)) (i3 + (1 : Int32)) (i5 + (1 : Int32)) (f7_u1 f_a1 i1 i3 g) (.val (.int (f_a1 i1))) (Or.inr ⟨_, rfl⟩) T513 _ _ X513 e513 N513 KP513 A513_0 Aw513 (own_s1 _ _ hi (by assumption)) (own_s2 _ _ (by assumption)) (by rw [e1]) (by rw [e3]) (own_s3 _ _ _ hk (by assumption))
        exact ⟨s₂, o, K501 _ (K503 _ (K508 _ (K509 _ (K511 _ (K512 _ (K514 _ (K515 _ (hs)))))))), zq1, zq2, v, L, zq3, ⟨zq4.1.trans (congrArg (fun z => some (Value.int z)) (show (f7_L p5 f_a1 f_a3 k (i1 + (1 : Int32)) (i3 + (1 : Int32)) (i5 + (1 : Int32)) (f7_u1 f_a1 i1 i3 g)) = f7_L p5 f_a1 f_a3 (k + 1) i1 i3 i5 g from Eq.symm ((f7_L_succ p5 f_a1 f_a3 k i1 i3 i5 g).trans (if_pos hc502)))), zq4.2.1, zq4.2.2.1, (by rw [show f7_G_a3 p5 f_a1 f_a3 (k + 1) i1 i3 i5 g = (f7_G_a3 p5 f_a1 f_a3 k (i1 + (1 : Int32)) (i3 + (1 : Int32)) (i5 + (1 : Int32)) (f7_u1 f_a1 i1 i3 g)) from (f7_G_a3_succ p5 f_a1 f_a3 k i1 i3 i5 g).trans (if_pos hc502)]; exact zq4.2.2.2)⟩, zq7⟩
      · have K516 : ∀ t, Steps p.tables e below (TL.setTop (mkF m 44 #[.val (.ref a1), .val (.int i1), .val (.ref a3), .val (.int i3), .val (.int p5), .val (.int i5), t6] [])) t → Steps p.tables e below (TL.setTop (mkF m 7 #[.val (.ref a1), .val (.int i1), .val (.ref a3), .val (.int i3), .val (.int p5), .val (.int i5), t6] [(.int p5), (.int i5)])) t := by
          intro t k
          refine XS.icmpYes XL.here hx rfl (pc0 := 7) (pc' := 44) rfl (Jvm.hb hby d7_7) rfl (flt hc502).2.1 (by decide) (by decide) ?_
          exact k
        have K517 : ∀ t, Steps p.tables e below (TL.setTop (mkF m 46 #[.val (.ref a1), .val (.int i1), .val (.ref a3), .val (.int i3), .val (.int p5), .val (.int i5), t6] [(.int p5)])) t → Steps p.tables e below (TL.setTop (mkF m 44 #[.val (.ref a1), .val (.int i1), .val (.ref a3), .val (.int i3), .val (.int p5), .val (.int i5), t6] [])) t := by
          intro t k
          refine XS.iload XL.here hx rfl (Jvm.hb hby d7_44) rfl ?_
          show Steps p.tables e below (TL.setTop (mkF m 46 #[.val (.ref a1), .val (.int i1), .val (.ref a3), .val (.int i3), .val (.int p5), .val (.int i5), t6] [(.int p5)])) t
          exact k
        obtain ⟨fs, hr, hrun, hended, hW, hsame⟩ := XL.leave (v := some (.int p5)) (fun h => by rw [Bd.returns] at h; cases h) Bd.notSynchronized
        refine ⟨_, _, (K501 _ (K516 _ (K517 _ (retI XL hx Bd.returns (Jvm.hb hby d7_46) hr)))), hrun, hended, _, _, rfl, ?_, ⟨_, rfl⟩, hW, hsame.mono (by decide) (by decide)⟩
        show ((_ : Option Value) = some (.int (f7_L p5 f_a1 f_a3 (k + 1) i1 i3 i5 g)) ∧ Fr n0 _ ∧ Keep h0 TL.heap [a3] ∧ Ia Z TL.heap a3 .byte n_a3 (f7_G_a3 p5 f_a1 f_a3 (k + 1) i1 i3 i5 g))
        rw [eL]
        exact ⟨congrArg (fun z => some (Value.int z)) (show p5 = f7_L p5 f_a1 f_a3 (k + 1) i1 i3 i5 g from Eq.symm ((f7_L_succ p5 f_a1 f_a3 k i1 i3 i5 g).trans (if_neg hc502))), NL, KL, (by rw [show f7_G_a3 p5 f_a1 f_a3 (k + 1) i1 i3 i5 g = g from (f7_G_a3_succ p5 f_a1 f_a3 k i1 i3 i5 g).trans (if_neg hc502)]; exact hL_1)⟩
  obtain ⟨s₂, o, hs, zq1, zq2, v, L, zq3, zq4, zq7⟩ := LP (p5.toNatClampNeg + 1) (0 : Int32) (0 : Int32) (0 : Int32) f_a3 (.unset) (Or.inl rfl) s₁ _ _ X0 e0 N0 (Keep.refl h0 [a3]) A_a1 A_a3 (by decide) hp rfl rfl (own_k0 _ hp)
  exact ⟨s₂, o, pre0 _ (K1 _ (hs)), zq1, zq2, v, L, zq3, ⟨zq4.1.trans (congrArg (fun z => some (Value.int z)) (show (f7_L p5 f_a1 f_a3 (p5.toNatClampNeg + 1) (0 : Int32) (0 : Int32) (0 : Int32) f_a3) = f7 p5 f_a1 f_a3 from Eq.symm (rfl))), zq4.2.1, zq4.2.2.1, (by rw [show f7_G_a30 p5 f_a1 f_a3 = (f7_G_a3 p5 f_a1 f_a3 (p5.toNatClampNeg + 1) (0 : Int32) (0 : Int32) (0 : Int32) f_a3) from rfl]; exact zq4.2.2.2)⟩, zq7⟩
theorem own_c9L (p5 : Int32) (f g0 : Int32 → Int32) : ∀ (k : Nat) (i1 i3 i5 : Int32) (g : Int32 → Int32), ¬ p5 < i5 → p5.toInt - i5.toInt < (k : Int) → f7_L p5 f g0 k i1 i3 i5 g = p5 := by
  intro k
  induction k with
  | zero => intro i1 i3 i5 g hj hk; exact (own_z _ _ hj hk).elim
  | succ k ih =>
    intro i1 i3 i5 g hj hk
    rw [f7_L_succ]
    by_cases h : i5 < p5
    · rw [if_pos h]; exact ih _ _ _ _ (own_s2 _ _ h) (own_s3 _ _ _ hk h)
    · rw [if_neg h]
theorem own_c9 (p5 : Int32) (f g0 : Int32 → Int32) (h : ¬ p5 < 0) : f7 p5 f g0 = p5 := own_c9L p5 f g0 _ _ _ _ _ h (own_k0 _ h)
-- body 6: java/lang/StringUTF16.compress([CII)[B
theorem d6_0 : decode jdk_52_method_16_code 0 = .ok (.iload_n 2, 1) := by decide +kernel
theorem d6_1 : decode jdk_52_method_16_code 1 = .ok (.newarray .byte, 2) := by decide +kernel
theorem d6_3 : decode jdk_52_method_16_code 3 = .ok (.astore_n 3, 1) := by decide +kernel
theorem d6_4 : decode jdk_52_method_16_code 4 = .ok (.aload_n 0, 1) := by decide +kernel
theorem d6_5 : decode jdk_52_method_16_code 5 = .ok (.iload_n 1, 1) := by decide +kernel
theorem d6_6 : decode jdk_52_method_16_code 6 = .ok (.aload_n 3, 1) := by decide +kernel
theorem d6_7 : decode jdk_52_method_16_code 7 = .ok (.iconst 0, 1) := by decide +kernel
theorem d6_8 : decode jdk_52_method_16_code 8 = .ok (.iload_n 2, 1) := by decide +kernel
theorem d6_9 : decode jdk_52_method_16_code 9 = .ok (.invokestatic 115, 3) := by decide +kernel
theorem d6_12 : decode jdk_52_method_16_code 12 = .ok (.istore 4, 2) := by decide +kernel
theorem d6_14 : decode jdk_52_method_16_code 14 = .ok (.iload 4, 2) := by decide +kernel
theorem d6_16 : decode jdk_52_method_16_code 16 = .ok (.iload_n 2, 1) := by decide +kernel
theorem d6_17 : decode jdk_52_method_16_code 17 = .ok (.if_icmp .eq 40, 3) := by decide +kernel
theorem d6_57 : decode jdk_52_method_16_code 57 = .ok (.aload_n 3, 1) := by decide +kernel
theorem d6_58 : decode jdk_52_method_16_code 58 = .ok (.areturn, 1) := by decide +kernel
theorem pn_6 : plainName "java/lang/StringUTF16" = true := by first | (simp [plainName, overriddenIn]; done) | decide +kernel
theorem pd_6 : parseMethodDescriptor "([CI[BII)I" = some ⟨[(.array .char), .int, (.array .byte), .int, .int], some .int⟩ := by decide +kernel
theorem ef_6 (m : MethodId) (a1 : Addr) (p3 : Int32) : entryFrame m #[(.ref a1), (.int (0 : Int32)), (.int p3)] 6 = mkF m 0 #[.val (.ref a1), .val (.int (0 : Int32)), .val (.int p3), .unset, .unset, .unset] [] := by first | (simp [entryFrame, mkF, argsToLocals, Value.category]; done) | rfl
def Q6 (Z : State) (a1 : Addr) (p3 : Int32) (n_a1 : Int32) (f_a1 : Int32 → Int32) (h0 : Heap) (n0 : Nat) (v : Option Value) (h : Heap) (L : List Loc) : Prop := ∃ x1 : Addr, v = some (.ref x1) ∧ Fr n0 L ∧ Keep h0 h [] ∧ h0.size ≤ x1 ∧ n0 ≤ x1 ∧ Ia Z h x1 .byte p3 (f7_G_a30 p3 f_a1 (fun _ => 0))
set_option maxRecDepth 65536 in
set_option maxHeartbeats 40000000 in
theorem rm6 (l : Launch) (Z : State) (a0 : Array Value) (hw : ∀ d ∈ tables_1, d.before a0 Z = true) (ws : List Jvm.Cond) (a1 : Addr) (p3 : Int32) (n_a1 : Int32) (f_a1 : Int32 → Int32) (h0 : Heap) (n0 : Nat) (Z0 : n0 ≤ h0.size) (hn : ¬ p3 < 0) (hc : p3.toNatClampNeg ≤ 3) (ha : ¬ n_a1 < p3) (hch : ∀ j : Int32, ¬ j < 0 → j < p3 → ¬ (255 : Int32) < f_a1 j) (A_a1 : Ia Z h0 a1 .char n_a1 f_a1) :
    MetFree l (⟨"java/lang/StringUTF16", "compress", "([CII)[B"⟩ : MethodName) (head1 (Jvm.Cond.code (⟨"java/lang/StringUTF16", "compress", "([CII)[B"⟩ : MethodName) jdk_52_method_16_code 6 (some (.array .byte)) :: ws) ({ frames := 1, cells := 1, slots := 3, locals := 18 } : Room)) (fun a U => a = #[(.ref a1), (.int (0 : Int32)), (.int p3)] ∧ Z.Warmed39 U.vm ∧ U.heap = h0) (fun _ _ _ _ _ => True) (fun _ U o U' => ∃ v L, o = .returned v ∧ Q6 Z a1 p3 n_a1 f_a1 h0 n0 v U'.heap L ∧ FrameEnd U o U' L ({ frames := 1, cells := 1, slots := 3, locals := 18 } : Room).cells ({ frames := 1, cells := 1, slots := 3, locals := 18 } : Room).slots) := by
  refine MetFree.of_bodySF (plainFor_of_name pn_6) hisR ?_
  intro p e s m args below meth c s₁ Bd hml0 hP hK
  obtain ⟨rfl, hZ, hh⟩ := hP
  have hx := Bd.exec
  have hby := Bd.bytes
  have hml : c.maxLocals = 6 := hml0
  have hown : s.vm.findClass "java/lang/StringUTF16" = some m.cls := findClass_of_methodNamed Bd.named
  have hnm := (name_of_methodNamed Bd.named Bd.method).1
  have X0 : Stand p l e ({ frames := 1, cells := 1, slots := 3, locals := 18 } : Room) s m #[(.ref a1), (.int (0 : Int32)), (.int p3)] below meth c s₁ [] 0 0 := Stand.of_body Bd
  have e0 : s₁.heap = h0 := by rw [← hh, Bd.state]; rfl
  have N0 := Fr.nil n0
  have pre0 : ∀ t, Steps p.tables e below (s₁.setTop (mkF m 0 #[.val (.ref a1), .val (.int (0 : Int32)), .val (.int p3), .unset, .unset, .unset] [])) t → Steps p.tables e below (s₁.setTop (entryFrame m #[(.ref a1), (.int (0 : Int32)), (.int p3)] 6)) t := fun t k => castTop (ef_6 m a1 p3) k
  have K1 : ∀ t, Steps p.tables e below (s₁.setTop (mkF m 1 #[.val (.ref a1), .val (.int (0 : Int32)), .val (.int p3), .unset, .unset, .unset] [(.int p3)])) t → Steps p.tables e below (s₁.setTop (mkF m 0 #[.val (.ref a1), .val (.int (0 : Int32)), .val (.int p3), .unset, .unset, .unset] [])) t := by
    intro t k
    refine XS.iloadN X0.here hx rfl (Jvm.hb hby d6_0) rfl ?_
    show Steps p.tables e below (s₁.setTop (mkF m 1 #[.val (.ref a1), .val (.int (0 : Int32)), .val (.int p3), .unset, .unset, .unset] [(.int p3)])) t
    exact k
  obtain ⟨T2, h2, k2, X2, e2, E2, A2, st2⟩ := newP X0 hx hZ (hw _ (List.mem_of_getElem? (i := 26) rfl)) e0 (g := (mkF m 1 #[.val (.ref a1), .val (.int (0 : Int32)), .val (.int p3), .unset, .unset, .unset] [(.int p3)])) rfl (Jvm.hb hby d6_1) rfl hn (cap := 3) hc (by decide) (by decide) (by decide)
  obtain ⟨b2, g2⟩ : ∃ z, z = h0.size := ⟨_, rfl⟩
  rw [← g2] at A2 st2
  have KP2 : Keep h0 h2 [] := (Keep.refl h0 []).ext E2
  have A2_0 : Ia Z h2 a1 .char n_a1 f_a1 := A_a1.ext E2
  have ne2_0 : a1 ≠ b2 := Nat.ne_of_lt (Nat.lt_of_lt_of_le A_a1.lt (Nat.le_of_eq g2.symm))
  have gb_b2 : n0 ≤ b2 := Nat.le_trans Z0 (Nat.le_of_eq g2.symm)
  have sz_b2 : h0.size ≤ b2 := Nat.le_trans (Keep.refl h0 []).1 (Nat.le_of_eq g2.symm)
  have V2 : Ia Z h2 b2 .byte p3 (fun _ => 0) := Ia.new A2 hn rfl
  have K3 : ∀ t, Steps p.tables e below (T2.setTop (mkF m 3 #[.val (.ref a1), .val (.int (0 : Int32)), .val (.int p3), .unset, .unset, .unset] [(.ref b2)])) t → Steps p.tables e below (s₁.setTop (mkF m 1 #[.val (.ref a1), .val (.int (0 : Int32)), .val (.int p3), .unset, .unset, .unset] [(.int p3)])) t := fun t k => st2 _ k
  have K4 : ∀ t, Steps p.tables e below (T2.setTop (mkF m 9 #[.val (.ref a1), .val (.int (0 : Int32)), .val (.int p3), .val (.ref b2), .unset, .unset] [(.int p3), (.int (0 : Int32)), (.ref b2), (.int (0 : Int32)), (.ref a1)])) t → Steps p.tables e below (T2.setTop (mkF m 3 #[.val (.ref a1), .val (.int (0 : Int32)), .val (.int p3), .unset, .unset, .unset] [(.ref b2)])) t := by
    intro t k
    refine XS.astoreN X2.here hx rfl (Jvm.hb hby d6_3) rfl rfl (l' := #[.val (.ref a1), .val (.int (0 : Int32)), .val (.int p3), .val (.ref b2), .unset, .unset]) rfl ?_
    show Steps p.tables e below (T2.setTop (mkF m 4 #[.val (.ref a1), .val (.int (0 : Int32)), .val (.int p3), .val (.ref b2), .unset, .unset] [])) t
    refine XS.aloadN X2.here hx rfl (Jvm.hb hby d6_4) rfl rfl ?_
    show Steps p.tables e below (T2.setTop (mkF m 5 #[.val (.ref a1), .val (.int (0 : Int32)), .val (.int p3), .val (.ref b2), .unset, .unset] [(.ref a1)])) t
    refine XS.iloadN X2.here hx rfl (Jvm.hb hby d6_5) rfl ?_
    show Steps p.tables e below (T2.setTop (mkF m 6 #[.val (.ref a1), .val (.int (0 : Int32)), .val (.int p3), .val (.ref b2), .unset, .unset] [(.int (0 : Int32)), (.ref a1)])) t
    refine XS.aloadN X2.here hx rfl (Jvm.hb hby d6_6) rfl rfl ?_
    show Steps p.tables e below (T2.setTop (mkF m 7 #[.val (.ref a1), .val (.int (0 : Int32)), .val (.int p3), .val (.ref b2), .unset, .unset] [(.ref b2), (.int (0 : Int32)), (.ref a1)])) t
    refine XS.iconst X2.here hx rfl (Jvm.hb hby d6_7) ?_
    show Steps p.tables e below (T2.setTop (mkF m 8 #[.val (.ref a1), .val (.int (0 : Int32)), .val (.int p3), .val (.ref b2), .unset, .unset] [(.int (0 : Int32)), (.ref b2), (.int (0 : Int32)), (.ref a1)])) t
    refine XS.iloadN X2.here hx rfl (Jvm.hb hby d6_8) rfl ?_
    show Steps p.tables e below (T2.setTop (mkF m 9 #[.val (.ref a1), .val (.int (0 : Int32)), .val (.int p3), .val (.ref b2), .unset, .unset] [(.int p3), (.int (0 : Int32)), (.ref b2), (.int (0 : Int32)), (.ref a1)])) t
    exact k
  obtain ⟨_, _, ⟨T5, L5, k5, n5⟩, -, X5, ⟨Lc5, hQ5, l5, y5, z5⟩, st5⟩ := Jvm.LawKit.callS X2 hx (y := (⟨"java/lang/StringUTF16", "compress", "([CI[BII)I"⟩ : MethodName)) hown (mvT hZ (hw _ (List.mem_of_getElem? (i := 27) rfl))) (mvT hZ (hw _ (List.mem_of_getElem? (i := 28) rfl))) (mvT hZ (hw _ (List.mem_of_getElem? (i := 24) rfl))) (mvT hZ (hw _ (List.mem_of_getElem? (i := 29) rfl))) (by decide) (backOf (W := 0) (rm7 l Z a0 hw [] a1 b2 p3 n_a1 f_a1 p3 (fun _ => 0) h2 n0 (Nat.le_trans Z0 KP2.1) hn ha Int32.lt_irrefl hch A2_0 V2 gb_b2) hZ (hw _ (List.mem_of_getElem? (i := 29) rfl)) (hw _ (List.mem_of_getElem? (i := 24) rfl)) (by decide) (by decide)) (g := (mkF m 9 #[.val (.ref a1), .val (.int (0 : Int32)), .val (.int p3), .val (.ref b2), .unset, .unset] [(.int p3), (.int (0 : Int32)), (.ref b2), (.int (0 : Int32)), (.ref a1)])) rfl (by rw [hml]; rfl) (argsL := [(.ref a1), (.int (0 : Int32)), (.ref b2), (.int (0 : Int32)), (.int p3)]) (rest := []) (lenOf pd_6 rfl) rfl (by show 2 * 0 + _ ≤ _; exact Nat.le_of_eq rfl) (Jvm.hb hby d6_9) (fun _ _ => ⟨rfl, e2, (by decide : 1 + 0 ≤ _), (by decide : 3 + 0 ≤ _)⟩)
  dsimp only [Pt.U, Pt.locs, Pt.cells, Pt.slots] at X5 l5 y5 z5 st5 hQ5
  subst l5 y5 z5
  obtain ⟨h5, e5⟩ : ∃ z, T5.heap = z := ⟨_, rfl⟩
  rw [e5] at hQ5
  obtain ⟨rfl, N5q, Kq5, R5_0⟩ := hQ5
  have N5 := Fr.app N0 N5q
  have KP5 : Keep h0 h5 [] := KP2.trans Kq5 (allS (Or.inr sz_b2) all0)
  have A5_0 : Ia Z h5 a1 .char n_a1 f_a1 := A2_0.keep Kq5 (ninS ne2_0 nin0)
  have K6 : ∀ t, Steps p.tables e below (T5.setTop (mkF m 12 #[.val (.ref a1), .val (.int (0 : Int32)), .val (.int p3), .val (.ref b2), .unset, .unset] [(.int (f7 p3 f_a1 (fun _ => 0)))])) t → Steps p.tables e below (T2.setTop (mkF m 9 #[.val (.ref a1), .val (.int (0 : Int32)), .val (.int p3), .val (.ref b2), .unset, .unset] [(.int p3), (.int (0 : Int32)), (.ref b2), (.int (0 : Int32)), (.ref a1)])) t := fun t k => st5 _ k
  have K7 : ∀ t, Steps p.tables e below (T5.setTop (mkF m 17 #[.val (.ref a1), .val (.int (0 : Int32)), .val (.int p3), .val (.ref b2), .val (.int (f7 p3 f_a1 (fun _ => 0))), .unset] [(.int p3), (.int (f7 p3 f_a1 (fun _ => 0)))])) t → Steps p.tables e below (T5.setTop (mkF m 12 #[.val (.ref a1), .val (.int (0 : Int32)), .val (.int p3), .val (.ref b2), .unset, .unset] [(.int (f7 p3 f_a1 (fun _ => 0)))])) t := by
    intro t k
    refine XS.istore X5.here hx rfl (Jvm.hb hby d6_12) rfl (l' := #[.val (.ref a1), .val (.int (0 : Int32)), .val (.int p3), .val (.ref b2), .val (.int (f7 p3 f_a1 (fun _ => 0))), .unset]) rfl ?_
    show Steps p.tables e below (T5.setTop (mkF m 14 #[.val (.ref a1), .val (.int (0 : Int32)), .val (.int p3), .val (.ref b2), .val (.int (f7 p3 f_a1 (fun _ => 0))), .unset] [])) t
    refine XS.iload X5.here hx rfl (Jvm.hb hby d6_14) rfl ?_
    show Steps p.tables e below (T5.setTop (mkF m 16 #[.val (.ref a1), .val (.int (0 : Int32)), .val (.int p3), .val (.ref b2), .val (.int (f7 p3 f_a1 (fun _ => 0))), .unset] [(.int (f7 p3 f_a1 (fun _ => 0)))])) t
    refine XS.iloadN X5.here hx rfl (Jvm.hb hby d6_16) rfl ?_
    show Steps p.tables e below (T5.setTop (mkF m 17 #[.val (.ref a1), .val (.int (0 : Int32)), .val (.int p3), .val (.ref b2), .val (.int (f7 p3 f_a1 (fun _ => 0))), .unset] [(.int p3), (.int (f7 p3 f_a1 (fun _ => 0)))])) t
    exact k
  have hc8 : (f7 p3 f_a1 (fun _ => 0)) = p3 := (own_c9 _ _ _ hn)
  have K9 : ∀ t, Steps p.tables e below (T5.setTop (mkF m 57 #[.val (.ref a1), .val (.int (0 : Int32)), .val (.int p3), .val (.ref b2), .val (.int (f7 p3 f_a1 (fun _ => 0))), .unset] [])) t → Steps p.tables e below (T5.setTop (mkF m 17 #[.val (.ref a1), .val (.int (0 : Int32)), .val (.int p3), .val (.ref b2), .val (.int (f7 p3 f_a1 (fun _ => 0))), .unset] [(.int p3), (.int (f7 p3 f_a1 (fun _ => 0)))])) t := by
    intro t k
    refine XS.icmpYes X5.here hx rfl (pc0 := 17) (pc' := 57) rfl (Jvm.hb hby d6_17) rfl (teq hc8).1 (by decide) (by decide) ?_
    exact k
  have K10 : ∀ t, Steps p.tables e below (T5.setTop (mkF m 58 #[.val (.ref a1), .val (.int (0 : Int32)), .val (.int p3), .val (.ref b2), .val (.int (f7 p3 f_a1 (fun _ => 0))), .unset] [(.ref b2)])) t → Steps p.tables e below (T5.setTop (mkF m 57 #[.val (.ref a1), .val (.int (0 : Int32)), .val (.int p3), .val (.ref b2), .val (.int (f7 p3 f_a1 (fun _ => 0))), .unset] [])) t := by
    intro t k
    refine XS.aloadN X5.here hx rfl (Jvm.hb hby d6_57) rfl rfl ?_
    show Steps p.tables e below (T5.setTop (mkF m 58 #[.val (.ref a1), .val (.int (0 : Int32)), .val (.int p3), .val (.ref b2), .val (.int (f7 p3 f_a1 (fun _ => 0))), .unset] [(.ref b2)])) t
    exact k
  obtain ⟨fs, hr, hrun, hended, hW, hsame⟩ := X5.leave (v := some (.ref b2)) (fun h => by rw [Bd.returns] at h; cases h) Bd.notSynchronized
  refine ⟨_, _, pre0 _ (K1 _ (K3 _ (K4 _ (K6 _ (K7 _ (K9 _ (K10 _ (retOut X5 hx Bd.returns rfl (Or.inr (Or.inr (Or.inr (Or.inr ⟨rfl, rfl, rfl⟩)))) (Jvm.hb hby d6_58) hr)))))))), hrun, hended, _, _, rfl, ?_, ⟨_, rfl⟩, hW, hsame.mono (by decide) (by decide)⟩
  show Q6 Z a1 p3 n_a1 f_a1 h0 n0 _ T5.heap _
  rw [e5]
  exact ⟨b2, rfl, N5, KP5, sz_b2, gb_b2, R5_0⟩
-- body 8: java/lang/StringUTF16.coderFromArrayLen([BI)B
theorem d8_0 : decode jdk_52_method_15_code 0 = .ok (.iload_n 1, 1) := by decide +kernel
theorem d8_1 : decode jdk_52_method_15_code 1 = .ok (.aload_n 0, 1) := by decide +kernel
theorem d8_2 : decode jdk_52_method_15_code 2 = .ok (.arraylength, 1) := by decide +kernel
theorem d8_3 : decode jdk_52_method_15_code 3 = .ok (.isub, 1) := by decide +kernel
theorem d8_4 : decode jdk_52_method_15_code 4 = .ok (.bipush 31, 2) := by decide +kernel
theorem d8_6 : decode jdk_52_method_15_code 6 = .ok (.iushr, 1) := by decide +kernel
theorem d8_7 : decode jdk_52_method_15_code 7 = .ok (.i2b, 1) := by decide +kernel
theorem d8_8 : decode jdk_52_method_15_code 8 = .ok (.ireturn, 1) := by decide +kernel
theorem pn_8 : plainName "java/lang/StringUTF16" = true := by first | (simp [plainName, overriddenIn]; done) | decide +kernel
theorem ef_8 (m : MethodId) (a1 : Addr) (p2 : Int32) : entryFrame m #[(.ref a1), (.int p2)] 2 = mkF m 0 #[.val (.ref a1), .val (.int p2)] [] := by first | (simp [entryFrame, mkF, argsToLocals, Value.category]; done) | rfl
def f8 (p2 : Int32) (n_a1 : Int32) : Int32 := (nar .byte ((((p2 - n_a1).toUInt32 >>> ((31 : Int32) &&& 31).toUInt32).toInt32).toInt8.toInt32))
def Q8 (Z : State) (a1 : Addr) (p2 : Int32) (n_a1 : Int32) (f_a1 : Int32 → Int32) (h0 : Heap) (n0 : Nat) (v : Option Value) (h : Heap) (L : List Loc) : Prop := v = some (.int (f8 p2 n_a1)) ∧ Fr n0 L ∧ h = h0
set_option maxRecDepth 65536 in
set_option maxHeartbeats 40000000 in
theorem rm8 (l : Launch) (Z : State) (a0 : Array Value) (hw : ∀ d ∈ tables_1, d.before a0 Z = true) (ws : List Jvm.Cond) (a1 : Addr) (p2 : Int32) (n_a1 : Int32) (f_a1 : Int32 → Int32) (h0 : Heap) (n0 : Nat) (Z0 : n0 ≤ h0.size) (A_a1 : Ia Z h0 a1 .byte n_a1 f_a1) :
    MetFree l (⟨"java/lang/StringUTF16", "coderFromArrayLen", "([BI)B"⟩ : MethodName) (head1 (Jvm.Cond.code (⟨"java/lang/StringUTF16", "coderFromArrayLen", "([BI)B"⟩ : MethodName) jdk_52_method_15_code 2 (some .byte) :: ws) ({ frames := 0, cells := 0, slots := 0, locals := 0 } : Room)) (fun a U => a = #[(.ref a1), (.int p2)] ∧ Z.Warmed39 U.vm ∧ U.heap = h0) (fun _ _ _ _ _ => True) (fun _ U o U' => ∃ v L, o = .returned v ∧ Q8 Z a1 p2 n_a1 f_a1 h0 n0 v U'.heap L ∧ FrameEnd U o U' L ({ frames := 0, cells := 0, slots := 0, locals := 0 } : Room).cells ({ frames := 0, cells := 0, slots := 0, locals := 0 } : Room).slots) := by
  refine MetFree.of_bodySF (plainFor_of_name pn_8) hisR ?_
  intro p e s m args below meth c s₁ Bd hml0 hP hK
  obtain ⟨rfl, hZ, hh⟩ := hP
  have hx := Bd.exec
  have hby := Bd.bytes
  have hml : c.maxLocals = 2 := hml0
  have hown : s.vm.findClass "java/lang/StringUTF16" = some m.cls := findClass_of_methodNamed Bd.named
  have hnm := (name_of_methodNamed Bd.named Bd.method).1
  have X0 : Stand p l e ({ frames := 0, cells := 0, slots := 0, locals := 0 } : Room) s m #[(.ref a1), (.int p2)] below meth c s₁ [] 0 0 := Stand.of_body Bd
  have e0 : s₁.heap = h0 := by rw [← hh, Bd.state]; rfl
  have N0 := Fr.nil n0
  have pre0 : ∀ t, Steps p.tables e below (s₁.setTop (mkF m 0 #[.val (.ref a1), .val (.int p2)] [])) t → Steps p.tables e below (s₁.setTop (entryFrame m #[(.ref a1), (.int p2)] 2)) t := fun t k => castTop (ef_8 m a1 p2) k
  have K5 : ∀ t, Steps p.tables e below (s₁.setTop (mkF m 2 #[.val (.ref a1), .val (.int p2)] [(.ref a1), (.int p2)])) t → Steps p.tables e below (s₁.setTop (mkF m 0 #[.val (.ref a1), .val (.int p2)] [])) t := by
    intro t k
    refine XS.iloadN X0.here hx rfl (Jvm.hb hby d8_0) rfl ?_
    show Steps p.tables e below (s₁.setTop (mkF m 1 #[.val (.ref a1), .val (.int p2)] [(.int p2)])) t
    refine XS.aloadN X0.here hx rfl (Jvm.hb hby d8_1) rfl rfl ?_
    show Steps p.tables e below (s₁.setTop (mkF m 2 #[.val (.ref a1), .val (.int p2)] [(.ref a1), (.int p2)])) t
    exact k
  obtain ⟨cl1, Aq2, sq3, nq4⟩ := Ia.len A_a1
  have K6 : ∀ t, Steps p.tables e below (s₁.setTop (mkF m 8 #[.val (.ref a1), .val (.int p2)] [(.int ((((p2 - n_a1).toUInt32 >>> ((31 : Int32) &&& 31).toUInt32).toInt32).toInt8.toInt32))])) t → Steps p.tables e below (s₁.setTop (mkF m 2 #[.val (.ref a1), .val (.int p2)] [(.ref a1), (.int p2)])) t := by
    intro t k
    refine X0.arraylength hx (by rw [e0]; exact Aq2.1) (State.isArrayOf_alike hZ.alike Aq2.2.1) (g := (mkF m 2 #[.val (.ref a1), .val (.int p2)] [(.ref a1), (.int p2)])) rfl rfl (Jvm.hb hby d8_2) _ ?_
    rw [len_of sq3 nq4]
    show Steps p.tables e below (s₁.setTop (mkF m 3 #[.val (.ref a1), .val (.int p2)] [(.int n_a1), (.int p2)])) t
    refine XS.isub X0.here hx rfl (Jvm.hb hby d8_3) rfl ?_
    show Steps p.tables e below (s₁.setTop (mkF m 4 #[.val (.ref a1), .val (.int p2)] [(.int (p2 - n_a1))])) t
    refine XS.bipush X0.here hx rfl (Jvm.hb hby d8_4) ?_
    show Steps p.tables e below (s₁.setTop (mkF m 6 #[.val (.ref a1), .val (.int p2)] [(.int (31 : Int32)), (.int (p2 - n_a1))])) t
    refine XS.iushr X0.here hx rfl (Jvm.hb hby d8_6) rfl ?_
    show Steps p.tables e below (s₁.setTop (mkF m 7 #[.val (.ref a1), .val (.int p2)] [(.int (((p2 - n_a1).toUInt32 >>> ((31 : Int32) &&& 31).toUInt32).toInt32))])) t
    refine XS.i2b X0.here hx rfl (Jvm.hb hby d8_7) rfl ?_
    show Steps p.tables e below (s₁.setTop (mkF m 8 #[.val (.ref a1), .val (.int p2)] [(.int ((((p2 - n_a1).toUInt32 >>> ((31 : Int32) &&& 31).toUInt32).toInt32).toInt8.toInt32))])) t
    exact k
  obtain ⟨fs, hr, hrun, hended, hW, hsame⟩ := X0.leave (v := some (.int (nar .byte ((((p2 - n_a1).toUInt32 >>> ((31 : Int32) &&& 31).toUInt32).toInt32).toInt8.toInt32)))) (fun h => by rw [Bd.returns] at h; cases h) Bd.notSynchronized
  refine ⟨_, _, pre0 _ (K5 _ (K6 _ (retN X0 hx (t := .byte) Bd.returns (by simp) (Jvm.hb hby d8_8) hr))), hrun, hended, _, _, rfl, ?_, ⟨_, rfl⟩, hW, hsame.mono (by decide) (by decide)⟩
  show Q8 Z a1 p2 n_a1 f_a1 h0 n0 _ s₁.heap _
  rw [e0]
  exact ⟨congrArg (fun z => some (Value.int z)) (show (nar .byte ((((p2 - n_a1).toUInt32 >>> ((31 : Int32) &&& 31).toUInt32).toInt32).toInt8.toInt32)) = f8 p2 n_a1 from Eq.symm (rfl)), N0, rfl⟩
theorem own_cod (p : Int32) : f8 p p = 0 := by unfold f8; rw [Int32.sub_self]; decide
-- body 4: java/lang/String.<init>([CIILjava/lang/Void;)V
theorem d4_0 : decode jdk_42_method_149_code 0 = .ok (.aload_n 0, 1) := by decide +kernel
theorem d4_1 : decode jdk_42_method_149_code 1 = .ok (.invokespecial 1, 3) := by decide +kernel
theorem d4_4 : decode jdk_42_method_149_code 4 = .ok (.iload_n 3, 1) := by decide +kernel
theorem d4_5 : decode jdk_42_method_149_code 5 = .ok (.ifCond .ne 22, 3) := by decide +kernel
theorem d4_27 : decode jdk_42_method_149_code 27 = .ok (.getstatic 38, 3) := by decide +kernel
theorem d4_30 : decode jdk_42_method_149_code 30 = .ok (.ifCond .eq 28, 3) := by decide +kernel
theorem d4_33 : decode jdk_42_method_149_code 33 = .ok (.aload_n 1, 1) := by decide +kernel
theorem d4_34 : decode jdk_42_method_149_code 34 = .ok (.iload_n 2, 1) := by decide +kernel
theorem d4_35 : decode jdk_42_method_149_code 35 = .ok (.iload_n 3, 1) := by decide +kernel
theorem d4_36 : decode jdk_42_method_149_code 36 = .ok (.invokestatic 177, 3) := by decide +kernel
theorem d4_39 : decode jdk_42_method_149_code 39 = .ok (.astore 5, 2) := by decide +kernel
theorem d4_41 : decode jdk_42_method_149_code 41 = .ok (.aload_n 0, 1) := by decide +kernel
theorem d4_42 : decode jdk_42_method_149_code 42 = .ok (.aload 5, 2) := by decide +kernel
theorem d4_44 : decode jdk_42_method_149_code 44 = .ok (.iload_n 3, 1) := by decide +kernel
theorem d4_45 : decode jdk_42_method_149_code 45 = .ok (.invokestatic 47, 3) := by decide +kernel
theorem d4_48 : decode jdk_42_method_149_code 48 = .ok (.putfield 15, 3) := by decide +kernel
theorem d4_51 : decode jdk_42_method_149_code 51 = .ok (.aload_n 0, 1) := by decide +kernel
theorem d4_52 : decode jdk_42_method_149_code 52 = .ok (.aload 5, 2) := by decide +kernel
theorem d4_54 : decode jdk_42_method_149_code 54 = .ok (.putfield 9, 3) := by decide +kernel
theorem d4_57 : decode jdk_42_method_149_code 57 = .ok (.return_, 1) := by decide +kernel
theorem pn_4 : plainName "java/lang/String" = true := by first | (simp [plainName, overriddenIn]; done) | decide +kernel
theorem pd_7 : parseMethodDescriptor "([BI)B" = some ⟨[(.array .byte), .int], some .byte⟩ := by decide +kernel
theorem pd_5 : parseMethodDescriptor "([CII)[B" = some ⟨[(.array .char), .int, .int], some (.array .byte)⟩ := by decide +kernel
theorem ef_4 (m : MethodId) (a1 : Addr) (a2 : Addr) (p4 : Int32) : entryFrame m #[(.ref a1), (.ref a2), (.int (0 : Int32)), (.int p4), .null] 6 = mkF m 0 #[.val (.ref a1), .val (.ref a2), .val (.int (0 : Int32)), .val (.int p4), .val .null, .unset] [] := by first | (simp [entryFrame, mkF, argsToLocals, Value.category]; done) | rfl
def Q4 (Z : State) (a1 : Addr) (a2 : Addr) (p4 : Int32) (w_COMPACT_STRINGS : Int32) (n_a2 : Int32) (f_a2 : Int32 → Int32) (u_coder_a1 : Value) (u_value_a1 : Value) (h0 : Heap) (n0 : Nat) (v : Option Value) (h : Heap) (L : List Loc) : Prop := ∃ x1 : Addr, v = none ∧ Fr n0 L ∧ Keep h0 h [a1] ∧ h0.size ≤ x1 ∧ n0 ≤ x1 ∧ Exa Z h a1 "java/lang/String" ∧ Ia Z h x1 .byte p4 (f7_G_a30 p4 f_a2 (fun _ => 0)) ∧ Fld Z h a1 "java/lang/String" "coder" "B" (.int (0 : Int32)) ∧ Fld Z h a1 "java/lang/String" "value" "[B" (.ref x1)
set_option maxRecDepth 65536 in
set_option maxHeartbeats 40000000 in
theorem rm4 (l : Launch) (Z : State) (a0 : Array Value) (hw : ∀ d ∈ tables_1, d.before a0 Z = true) (ws : List Jvm.Cond) (a1 : Addr) (a2 : Addr) (p4 : Int32) (w_COMPACT_STRINGS : Int32) (n_a2 : Int32) (f_a2 : Int32 → Int32) (u_coder_a1 : Value) (u_value_a1 : Value) (h0 : Heap) (n0 : Nat) (Z0 : n0 ≤ h0.size) (hz : ¬ (p4 = 0)) (hn : ¬ p4 < 0) (hc : p4.toNatClampNeg ≤ 3) (ha : ¬ n_a2 < p4) (hch : ∀ j : Int32, ¬ j < 0 → j < p4 → ¬ (255 : Int32) < f_a2 j) (hcs : ¬ (w_COMPACT_STRINGS = 0)) (S_COMPACT_STRINGS : Sta Z h0 "java/lang/String" "COMPACT_STRINGS" "Z" (.int w_COMPACT_STRINGS)) (A_a2 : Ia Z h0 a2 .char n_a2 f_a2) (E_a1 : Exa Z h0 a1 "java/lang/String") (F_coder_a1 : Fld Z h0 a1 "java/lang/String" "coder" "B" u_coder_a1) (g_a1 : n0 ≤ a1) (F_value_a1 : Fld Z h0 a1 "java/lang/String" "value" "[B" u_value_a1) :
    MetFree l (⟨"java/lang/String", "<init>", "([CIILjava/lang/Void;)V"⟩ : MethodName) (head1 (Jvm.Cond.code (⟨"java/lang/String", "<init>", "([CIILjava/lang/Void;)V"⟩ : MethodName) jdk_42_method_149_code 6 none :: ws) ({ frames := 2, cells := 1, slots := 3, locals := 35 } : Room)) (fun a U => a = #[(.ref a1), (.ref a2), (.int (0 : Int32)), (.int p4), .null] ∧ Z.Warmed39 U.vm ∧ U.heap = h0) (fun _ _ _ _ _ => True) (fun _ U o U' => ∃ v L, o = .returned v ∧ Q4 Z a1 a2 p4 w_COMPACT_STRINGS n_a2 f_a2 u_coder_a1 u_value_a1 h0 n0 v U'.heap L ∧ FrameEnd U o U' L ({ frames := 2, cells := 1, slots := 3, locals := 35 } : Room).cells ({ frames := 2, cells := 1, slots := 3, locals := 35 } : Room).slots) := by
  refine MetFree.of_bodySF (plainFor_of_name pn_4) hisR ?_
  intro p e s m args below meth c s₁ Bd hml0 hP hK
  obtain ⟨rfl, hZ, hh⟩ := hP
  have hx := Bd.exec
  have hby := Bd.bytes
  have hml : c.maxLocals = 6 := hml0
  have hown : s.vm.findClass "java/lang/String" = some m.cls := findClass_of_methodNamed Bd.named
  have hnm := (name_of_methodNamed Bd.named Bd.method).1
  have X0 : Stand p l e ({ frames := 2, cells := 1, slots := 3, locals := 35 } : Room) s m #[(.ref a1), (.ref a2), (.int (0 : Int32)), (.int p4), .null] below meth c s₁ [] 0 0 := Stand.of_body Bd
  have e0 : s₁.heap = h0 := by rw [← hh, Bd.state]; rfl
  have N0 := Fr.nil n0
  have pre0 : ∀ t, Steps p.tables e below (s₁.setTop (mkF m 0 #[.val (.ref a1), .val (.ref a2), .val (.int (0 : Int32)), .val (.int p4), .val .null, .unset] [])) t → Steps p.tables e below (s₁.setTop (entryFrame m #[(.ref a1), (.ref a2), (.int (0 : Int32)), (.int p4), .null] 6)) t := fun t k => castTop (ef_4 m a1 a2 p4) k
  have K1 : ∀ t, Steps p.tables e below (s₁.setTop (mkF m 1 #[.val (.ref a1), .val (.ref a2), .val (.int (0 : Int32)), .val (.int p4), .val .null, .unset] [(.ref a1)])) t → Steps p.tables e below (s₁.setTop (mkF m 0 #[.val (.ref a1), .val (.ref a2), .val (.int (0 : Int32)), .val (.int p4), .val .null, .unset] [])) t := by
    intro t k
    refine XS.aloadN X0.here hx rfl (Jvm.hb hby d4_0) rfl rfl ?_
    show Steps p.tables e below (s₁.setTop (mkF m 1 #[.val (.ref a1), .val (.ref a2), .val (.int (0 : Int32)), .val (.int p4), .val .null, .unset] [(.ref a1)])) t
    exact k
  obtain ⟨T2, X2, e2, st2⟩ := initO X0 hx hZ hown (hw _ (List.mem_of_getElem? (i := 18) rfl)) (hw _ (List.mem_of_getElem? (i := 19) rfl)) (hw _ (List.mem_of_getElem? (i := 20) rfl)) e0 (g := (mkF m 1 #[.val (.ref a1), .val (.ref a2), .val (.int (0 : Int32)), .val (.int p4), .val .null, .unset] [(.ref a1)])) rfl (by rw [hml]; rfl) rfl (Jvm.hb hby d4_1) (by decide) (W := 0) (by show 2 * 0 + _ ≤ _; exact Nat.le_of_eq rfl) (by decide)
  have K3 : ∀ t, Steps p.tables e below (T2.setTop (mkF m 4 #[.val (.ref a1), .val (.ref a2), .val (.int (0 : Int32)), .val (.int p4), .val .null, .unset] [])) t → Steps p.tables e below (s₁.setTop (mkF m 1 #[.val (.ref a1), .val (.ref a2), .val (.int (0 : Int32)), .val (.int p4), .val .null, .unset] [(.ref a1)])) t := fun t k => st2 _ k
  have K4 : ∀ t, Steps p.tables e below (T2.setTop (mkF m 5 #[.val (.ref a1), .val (.ref a2), .val (.int (0 : Int32)), .val (.int p4), .val .null, .unset] [(.int p4)])) t → Steps p.tables e below (T2.setTop (mkF m 4 #[.val (.ref a1), .val (.ref a2), .val (.int (0 : Int32)), .val (.int p4), .val .null, .unset] [])) t := by
    intro t k
    refine XS.iloadN X2.here hx rfl (Jvm.hb hby d4_4) rfl ?_
    show Steps p.tables e below (T2.setTop (mkF m 5 #[.val (.ref a1), .val (.ref a2), .val (.int (0 : Int32)), .val (.int p4), .val .null, .unset] [(.int p4)])) t
    exact k
  have hc5 : ¬ (p4 = (0 : Int32)) := hz
  have K6 : ∀ t, Steps p.tables e below (T2.setTop (mkF m 27 #[.val (.ref a1), .val (.ref a2), .val (.int (0 : Int32)), .val (.int p4), .val .null, .unset] [])) t → Steps p.tables e below (T2.setTop (mkF m 5 #[.val (.ref a1), .val (.ref a2), .val (.int (0 : Int32)), .val (.int p4), .val .null, .unset] [(.int p4)])) t := by
    intro t k
    refine XS.ifYes X2.here hx rfl (pc0 := 5) (pc' := 27) rfl (Jvm.hb hby d4_5) rfl ((if0 _ _).trans (feq hc5).2) (by decide) (by decide) ?_
    exact k
  obtain ⟨T7, X7, e7, st7⟩ := getS2 X2 hx hZ hown (host := "") (Or.inl (hw _ (List.mem_of_getElem? (i := 21) rfl))) Via.refl e2 S_COMPACT_STRINGS (g := (mkF m 27 #[.val (.ref a1), .val (.ref a2), .val (.int (0 : Int32)), .val (.int p4), .val .null, .unset] [])) rfl (Jvm.hb hby d4_27)
  have K8 : ∀ t, Steps p.tables e below (T7.setTop (mkF m 30 #[.val (.ref a1), .val (.ref a2), .val (.int (0 : Int32)), .val (.int p4), .val .null, .unset] [(.int w_COMPACT_STRINGS)])) t → Steps p.tables e below (T2.setTop (mkF m 27 #[.val (.ref a1), .val (.ref a2), .val (.int (0 : Int32)), .val (.int p4), .val .null, .unset] [])) t := fun t k => st7 _ k
  have hc9 : ¬ (w_COMPACT_STRINGS = (0 : Int32)) := hcs
  have K10 : ∀ t, Steps p.tables e below (T7.setTop (mkF m 33 #[.val (.ref a1), .val (.ref a2), .val (.int (0 : Int32)), .val (.int p4), .val .null, .unset] [])) t → Steps p.tables e below (T7.setTop (mkF m 30 #[.val (.ref a1), .val (.ref a2), .val (.int (0 : Int32)), .val (.int p4), .val .null, .unset] [(.int w_COMPACT_STRINGS)])) t := by
    intro t k
    refine XS.ifNo X7.here hx rfl (Jvm.hb hby d4_30) rfl ((if0 _ _).trans (feq hc9).1) ?_
    exact k
  have K11 : ∀ t, Steps p.tables e below (T7.setTop (mkF m 36 #[.val (.ref a1), .val (.ref a2), .val (.int (0 : Int32)), .val (.int p4), .val .null, .unset] [(.int p4), (.int (0 : Int32)), (.ref a2)])) t → Steps p.tables e below (T7.setTop (mkF m 33 #[.val (.ref a1), .val (.ref a2), .val (.int (0 : Int32)), .val (.int p4), .val .null, .unset] [])) t := by
    intro t k
    refine XS.aloadN X7.here hx rfl (Jvm.hb hby d4_33) rfl rfl ?_
    show Steps p.tables e below (T7.setTop (mkF m 34 #[.val (.ref a1), .val (.ref a2), .val (.int (0 : Int32)), .val (.int p4), .val .null, .unset] [(.ref a2)])) t
    refine XS.iloadN X7.here hx rfl (Jvm.hb hby d4_34) rfl ?_
    show Steps p.tables e below (T7.setTop (mkF m 35 #[.val (.ref a1), .val (.ref a2), .val (.int (0 : Int32)), .val (.int p4), .val .null, .unset] [(.int (0 : Int32)), (.ref a2)])) t
    refine XS.iloadN X7.here hx rfl (Jvm.hb hby d4_35) rfl ?_
    show Steps p.tables e below (T7.setTop (mkF m 36 #[.val (.ref a1), .val (.ref a2), .val (.int (0 : Int32)), .val (.int p4), .val .null, .unset] [(.int p4), (.int (0 : Int32)), (.ref a2)])) t
    exact k
  obtain ⟨_, _, ⟨T12, L12, k12, n12⟩, -, X12, ⟨Lc12, hQ12, l12, y12, z12⟩, st12⟩ := Jvm.LawKit.callS X7 hx (y := (⟨"java/lang/StringUTF16", "compress", "([CII)[B"⟩ : MethodName)) hown (mvT hZ (hw _ (List.mem_of_getElem? (i := 22) rfl))) (mvT hZ (hw _ (List.mem_of_getElem? (i := 23) rfl))) (mvT hZ (hw _ (List.mem_of_getElem? (i := 24) rfl))) (mvT hZ (hw _ (List.mem_of_getElem? (i := 25) rfl))) (by decide) (backOf (W := 0) (rm6 l Z a0 hw [] a2 p4 n_a2 f_a2 h0 n0 Z0 hn hc ha hch A_a2) hZ (hw _ (List.mem_of_getElem? (i := 25) rfl)) (hw _ (List.mem_of_getElem? (i := 24) rfl)) (by decide) (by decide)) (g := (mkF m 36 #[.val (.ref a1), .val (.ref a2), .val (.int (0 : Int32)), .val (.int p4), .val .null, .unset] [(.int p4), (.int (0 : Int32)), (.ref a2)])) rfl (by rw [hml]; rfl) (argsL := [(.ref a2), (.int (0 : Int32)), (.int p4)]) (rest := []) (lenOf pd_5 rfl) rfl (by show 2 * 0 + _ ≤ _; exact Nat.le_of_eq rfl) (Jvm.hb hby d4_36) (fun _ _ => ⟨rfl, e7, (by decide : 0 + 1 ≤ _), (by decide : 0 + 3 ≤ _)⟩)
  dsimp only [Pt.U, Pt.locs, Pt.cells, Pt.slots] at X12 l12 y12 z12 st12 hQ12
  subst l12 y12 z12
  obtain ⟨h12, e12⟩ : ∃ z, T12.heap = z := ⟨_, rfl⟩
  rw [e12] at hQ12
  obtain ⟨b12_x1, rfl, N12q, Kq12, szq_b12_x1, gb_b12_x1, R12_0⟩ := hQ12
  have N12 := Fr.app N0 N12q
  have KP12 : Keep h0 h12 [a1] := (Keep.refl h0 [a1]).trans Kq12 all0
  have A12_1 : Ia Z h12 a2 .char n_a2 f_a2 := A_a2.keep Kq12 nin0
  have E12_2 : Exa Z h12 a1 "java/lang/String" := E_a1.keep Kq12
  have F12_3 : Fld Z h12 a1 "java/lang/String" "coder" "B" u_coder_a1 := F_coder_a1.keep Kq12 nin0
  have F12_4 : Fld Z h12 a1 "java/lang/String" "value" "[B" u_value_a1 := F_value_a1.keep Kq12 nin0
  have ne12_x1_0 : a2 ≠ b12_x1 := Nat.ne_of_lt (Nat.lt_of_lt_of_le A_a2.lt szq_b12_x1)
  have ne12_x1_2 : a1 ≠ b12_x1 := Nat.ne_of_lt (Nat.lt_of_lt_of_le E_a1.lt szq_b12_x1)
  have sz_b12_x1 : h0.size ≤ b12_x1 := Nat.le_trans (Keep.refl h0 [a1]).1 szq_b12_x1
  have K13 : ∀ t, Steps p.tables e below (T12.setTop (mkF m 39 #[.val (.ref a1), .val (.ref a2), .val (.int (0 : Int32)), .val (.int p4), .val .null, .unset] [(.ref b12_x1)])) t → Steps p.tables e below (T7.setTop (mkF m 36 #[.val (.ref a1), .val (.ref a2), .val (.int (0 : Int32)), .val (.int p4), .val .null, .unset] [(.int p4), (.int (0 : Int32)), (.ref a2)])) t := fun t k => st12 _ k
  have K14 : ∀ t, Steps p.tables e below (T12.setTop (mkF m 45 #[.val (.ref a1), .val (.ref a2), .val (.int (0 : Int32)), .val (.int p4), .val .null, .val (.ref b12_x1)] [(.int p4), (.ref b12_x1), (.ref a1)])) t → Steps p.tables e below (T12.setTop (mkF m 39 #[.val (.ref a1), .val (.ref a2), .val (.int (0 : Int32)), .val (.int p4), .val .null, .unset] [(.ref b12_x1)])) t := by
    intro t k
    refine XS.astore X12.here hx rfl (Jvm.hb hby d4_39) rfl rfl (l' := #[.val (.ref a1), .val (.ref a2), .val (.int (0 : Int32)), .val (.int p4), .val .null, .val (.ref b12_x1)]) rfl ?_
    show Steps p.tables e below (T12.setTop (mkF m 41 #[.val (.ref a1), .val (.ref a2), .val (.int (0 : Int32)), .val (.int p4), .val .null, .val (.ref b12_x1)] [])) t
    refine XS.aloadN X12.here hx rfl (Jvm.hb hby d4_41) rfl rfl ?_
    show Steps p.tables e below (T12.setTop (mkF m 42 #[.val (.ref a1), .val (.ref a2), .val (.int (0 : Int32)), .val (.int p4), .val .null, .val (.ref b12_x1)] [(.ref a1)])) t
    refine XS.aload X12.here hx rfl (Jvm.hb hby d4_42) rfl rfl ?_
    show Steps p.tables e below (T12.setTop (mkF m 44 #[.val (.ref a1), .val (.ref a2), .val (.int (0 : Int32)), .val (.int p4), .val .null, .val (.ref b12_x1)] [(.ref b12_x1), (.ref a1)])) t
    refine XS.iloadN X12.here hx rfl (Jvm.hb hby d4_44) rfl ?_
    show Steps p.tables e below (T12.setTop (mkF m 45 #[.val (.ref a1), .val (.ref a2), .val (.int (0 : Int32)), .val (.int p4), .val .null, .val (.ref b12_x1)] [(.int p4), (.ref b12_x1), (.ref a1)])) t
    exact k
  obtain ⟨_, _, ⟨T15, L15, k15, n15⟩, -, X15, ⟨Lc15, hQ15, l15, y15, z15⟩, st15⟩ := Jvm.LawKit.callS X12 hx (y := (⟨"java/lang/StringUTF16", "coderFromArrayLen", "([BI)B"⟩ : MethodName)) hown (mvT hZ (hw _ (List.mem_of_getElem? (i := 30) rfl))) (mvT hZ (hw _ (List.mem_of_getElem? (i := 31) rfl))) (mvT hZ (hw _ (List.mem_of_getElem? (i := 24) rfl))) (mvT hZ (hw _ (List.mem_of_getElem? (i := 32) rfl))) (by decide) (backOf (W := 1) (rm8 l Z a0 hw [] b12_x1 p4 p4 (f7_G_a30 p4 f_a2 (fun _ => 0)) h12 n0 (Nat.le_trans Z0 KP12.1) R12_0) hZ (hw _ (List.mem_of_getElem? (i := 32) rfl)) (hw _ (List.mem_of_getElem? (i := 24) rfl)) (by decide) (by decide)) (g := (mkF m 45 #[.val (.ref a1), .val (.ref a2), .val (.int (0 : Int32)), .val (.int p4), .val .null, .val (.ref b12_x1)] [(.int p4), (.ref b12_x1), (.ref a1)])) rfl (by rw [hml]; rfl) (argsL := [(.ref b12_x1), (.int p4)]) (rest := [(.ref a1)]) (lenOf pd_7 rfl) rfl (by show 2 * 0 + _ ≤ _; exact Nat.le_of_eq rfl) (Jvm.hb hby d4_45) (fun _ _ => ⟨rfl, e12, (by decide : 1 + 0 ≤ _), (by decide : 3 + 0 ≤ _)⟩)
  dsimp only [Pt.U, Pt.locs, Pt.cells, Pt.slots] at X15 l15 y15 z15 st15 hQ15
  subst l15 y15 z15
  obtain ⟨rfl, N15q, e15⟩ := hQ15
  have N15 := Fr.app N12 N15q
  have K16 : ∀ t, Steps p.tables e below (T15.setTop (mkF m 48 #[.val (.ref a1), .val (.ref a2), .val (.int (0 : Int32)), .val (.int p4), .val .null, .val (.ref b12_x1)] [(.int (0 : Int32)), (.ref a1)])) t → Steps p.tables e below (T12.setTop (mkF m 45 #[.val (.ref a1), .val (.ref a2), .val (.int (0 : Int32)), .val (.int p4), .val .null, .val (.ref b12_x1)] [(.int p4), (.ref b12_x1), (.ref a1)])) t := fun t k => st15 _ (by rw [show (f8 p4 p4) = (0 : Int32) from own_cod _]; exact k)
  obtain ⟨T17, h17, X17, e17, W17, st17⟩ := putF X15 hx hZ hown (host := "") (Or.inl (hw _ (List.mem_of_getElem? (i := 33) rfl))) Via.refl e15 F12_3 E12_2 (Or.inr ⟨(hw _ (List.mem_of_getElem? (i := 34) rfl)), rfl, hnm⟩) (hw _ (List.mem_of_getElem? (i := 8) rfl)) (ty := .byte) (by decide) rfl rfl (g := (mkF m 48 #[.val (.ref a1), .val (.ref a2), .val (.int (0 : Int32)), .val (.int p4), .val .null, .val (.ref b12_x1)] [(.int (0 : Int32)), (.ref a1)])) rfl rfl (Jvm.hb hby d4_48)
  have KP17 : Keep h0 h17 [a1] := KP12.wr W17 (Or.inl (List.mem_of_getElem? (i := 0) rfl))
  have N17 := Fr.snoc X17 N15 g_a1
  have A17_1 : Ia Z h17 a2 .char n_a2 f_a2 := A12_1.other W17 (Ne.symm (own_nea E12_2 (hw _ (List.mem_of_getElem? (i := 8) rfl)) A12_1))
  have E17_2 : Exa Z h17 a1 "java/lang/String" := E12_2.wr W17
  have F17_3 : Fld Z h17 a1 "java/lang/String" "value" "[B" u_value_a1 := F12_4.other W17 (Or.inr (slot_ne (Or.inr (hw _ (List.mem_of_getElem? (i := 36) rfl))) (Or.inr (hw _ (List.mem_of_getElem? (i := 34) rfl))) (by decide) (t := (.array .byte)) (t' := .byte) (by decide) (by decide)))
  have A17_4 : Ia Z h17 b12_x1 .byte p4 (f7_G_a30 p4 f_a2 (fun _ => 0)) := R12_0.other W17 (Ne.symm ne12_x1_2)
  have Fw17 : Fld Z h17 a1 "java/lang/String" "coder" "B" (.int (0 : Int32)) := F12_3.same W17
  have K18 : ∀ t, Steps p.tables e below (T17.setTop (mkF m 51 #[.val (.ref a1), .val (.ref a2), .val (.int (0 : Int32)), .val (.int p4), .val .null, .val (.ref b12_x1)] [])) t → Steps p.tables e below (T15.setTop (mkF m 48 #[.val (.ref a1), .val (.ref a2), .val (.int (0 : Int32)), .val (.int p4), .val .null, .val (.ref b12_x1)] [(.int (0 : Int32)), (.ref a1)])) t := fun t k => st17 _ k
  have K19 : ∀ t, Steps p.tables e below (T17.setTop (mkF m 54 #[.val (.ref a1), .val (.ref a2), .val (.int (0 : Int32)), .val (.int p4), .val .null, .val (.ref b12_x1)] [(.ref b12_x1), (.ref a1)])) t → Steps p.tables e below (T17.setTop (mkF m 51 #[.val (.ref a1), .val (.ref a2), .val (.int (0 : Int32)), .val (.int p4), .val .null, .val (.ref b12_x1)] [])) t := by
    intro t k
    refine XS.aloadN X17.here hx rfl (Jvm.hb hby d4_51) rfl rfl ?_
    show Steps p.tables e below (T17.setTop (mkF m 52 #[.val (.ref a1), .val (.ref a2), .val (.int (0 : Int32)), .val (.int p4), .val .null, .val (.ref b12_x1)] [(.ref a1)])) t
    refine XS.aload X17.here hx rfl (Jvm.hb hby d4_52) rfl rfl ?_
    show Steps p.tables e below (T17.setTop (mkF m 54 #[.val (.ref a1), .val (.ref a2), .val (.int (0 : Int32)), .val (.int p4), .val .null, .val (.ref b12_x1)] [(.ref b12_x1), (.ref a1)])) t
    exact k
  obtain ⟨T20, h20, X20, e20, W20, st20⟩ := putF X17 hx hZ hown (host := "") (Or.inl (hw _ (List.mem_of_getElem? (i := 35) rfl))) Via.refl e17 F17_3 E17_2 (Or.inr ⟨(hw _ (List.mem_of_getElem? (i := 36) rfl)), rfl, hnm⟩) (hw _ (List.mem_of_getElem? (i := 8) rfl)) (ty := (.array .byte)) (by decide) rfl rfl (g := (mkF m 54 #[.val (.ref a1), .val (.ref a2), .val (.int (0 : Int32)), .val (.int p4), .val .null, .val (.ref b12_x1)] [(.ref b12_x1), (.ref a1)])) rfl rfl (Jvm.hb hby d4_54)
  have KP20 : Keep h0 h20 [a1] := KP17.wr W20 (Or.inl (List.mem_of_getElem? (i := 0) rfl))
  have N20 := Fr.snoc X20 N17 g_a1
  have A20_1 : Ia Z h20 a2 .char n_a2 f_a2 := A17_1.other W20 (Ne.symm (own_nea E17_2 (hw _ (List.mem_of_getElem? (i := 8) rfl)) A17_1))
  have E20_2 : Exa Z h20 a1 "java/lang/String" := E17_2.wr W20
  have A20_3 : Ia Z h20 b12_x1 .byte p4 (f7_G_a30 p4 f_a2 (fun _ => 0)) := A17_4.other W20 (Ne.symm ne12_x1_2)
  have F20_4 : Fld Z h20 a1 "java/lang/String" "coder" "B" (.int (0 : Int32)) := Fw17.other W20 (Or.inr (slot_ne (Or.inr (hw _ (List.mem_of_getElem? (i := 34) rfl))) (Or.inr (hw _ (List.mem_of_getElem? (i := 36) rfl))) (by decide) (t := .byte) (t' := (.array .byte)) (by decide) (by decide)))
  have Fw20 : Fld Z h20 a1 "java/lang/String" "value" "[B" (.ref b12_x1) := F17_3.same W20
  have K21 : ∀ t, Steps p.tables e below (T20.setTop (mkF m 57 #[.val (.ref a1), .val (.ref a2), .val (.int (0 : Int32)), .val (.int p4), .val .null, .val (.ref b12_x1)] [])) t → Steps p.tables e below (T17.setTop (mkF m 54 #[.val (.ref a1), .val (.ref a2), .val (.int (0 : Int32)), .val (.int p4), .val .null, .val (.ref b12_x1)] [(.ref b12_x1), (.ref a1)])) t := fun t k => st20 _ k
  obtain ⟨fs, hr, hrun, hended, hW, hsame⟩ := X20.leave (v := none) (fun _ => rfl) Bd.notSynchronized
  refine ⟨_, _, pre0 _ (K1 _ (K3 _ (K4 _ (K6 _ (K8 _ (K10 _ (K11 _ (K13 _ (K14 _ (K16 _ (K18 _ (K19 _ (K21 _ (X20.returnOut hx Bd.returns (Jvm.hb hby d4_57) hr)))))))))))))), hrun, hended, _, _, rfl, ?_, ⟨_, rfl⟩, hW, hsame.mono (by decide) (by decide)⟩
  show Q4 Z a1 a2 p4 w_COMPACT_STRINGS n_a2 f_a2 u_coder_a1 u_value_a1 h0 n0 _ T20.heap _
  rw [e20]
  exact ⟨b12_x1, rfl, N20, KP20, sz_b12_x1, gb_b12_x1, E20_2, A20_3, F20_4, Fw20⟩
-- body 3: java/lang/String.<init>([C)V
theorem d3_0 : decode jdk_42_method_3_code 0 = .ok (.aload_n 0, 1) := by decide +kernel
theorem d3_1 : decode jdk_42_method_3_code 1 = .ok (.aload_n 1, 1) := by decide +kernel
theorem d3_2 : decode jdk_42_method_3_code 2 = .ok (.iconst 0, 1) := by decide +kernel
theorem d3_3 : decode jdk_42_method_3_code 3 = .ok (.aload_n 1, 1) := by decide +kernel
theorem d3_4 : decode jdk_42_method_3_code 4 = .ok (.arraylength, 1) := by decide +kernel
theorem d3_5 : decode jdk_42_method_3_code 5 = .ok (.aconst_null, 1) := by decide +kernel
theorem d3_6 : decode jdk_42_method_3_code 6 = .ok (.invokespecial 27, 3) := by decide +kernel
theorem d3_9 : decode jdk_42_method_3_code 9 = .ok (.return_, 1) := by decide +kernel
theorem pn_3 : plainName "java/lang/String" = true := by first | (simp [plainName, overriddenIn]; done) | decide +kernel
theorem ef_3 (m : MethodId) (a1 : Addr) (a2 : Addr) : entryFrame m #[(.ref a1), (.ref a2)] 2 = mkF m 0 #[.val (.ref a1), .val (.ref a2)] [] := by first | (simp [entryFrame, mkF, argsToLocals, Value.category]; done) | rfl
def Q3 (Z : State) (a1 : Addr) (a2 : Addr) (n_a2 : Int32) (f_a2 : Int32 → Int32) (w_COMPACT_STRINGS : Int32) (u_coder_a1 : Value) (u_value_a1 : Value) (h0 : Heap) (n0 : Nat) (v : Option Value) (h : Heap) (L : List Loc) : Prop := ∃ x1 : Addr, v = none ∧ Fr n0 L ∧ Keep h0 h [a1] ∧ h0.size ≤ x1 ∧ n0 ≤ x1 ∧ Exa Z h a1 "java/lang/String" ∧ Ia Z h x1 .byte n_a2 (f7_G_a30 n_a2 f_a2 (fun _ => 0)) ∧ Fld Z h a1 "java/lang/String" "coder" "B" (.int (0 : Int32)) ∧ Fld Z h a1 "java/lang/String" "value" "[B" (.ref x1)
set_option maxRecDepth 65536 in
set_option maxHeartbeats 40000000 in
theorem rm3 (l : Launch) (Z : State) (a0 : Array Value) (hw : ∀ d ∈ tables_1, d.before a0 Z = true) (ws : List Jvm.Cond) (a1 : Addr) (a2 : Addr) (n_a2 : Int32) (f_a2 : Int32 → Int32) (w_COMPACT_STRINGS : Int32) (u_coder_a1 : Value) (u_value_a1 : Value) (h0 : Heap) (n0 : Nat) (Z0 : n0 ≤ h0.size) (hz : ¬ (n_a2 = 0)) (hc : n_a2.toNatClampNeg ≤ 3) (hch : ∀ j : Int32, ¬ j < 0 → j < n_a2 → ¬ (255 : Int32) < f_a2 j) (hcs : ¬ (w_COMPACT_STRINGS = 0)) (A_a2 : Ia Z h0 a2 .char n_a2 f_a2) (S_COMPACT_STRINGS : Sta Z h0 "java/lang/String" "COMPACT_STRINGS" "Z" (.int w_COMPACT_STRINGS)) (E_a1 : Exa Z h0 a1 "java/lang/String") (F_coder_a1 : Fld Z h0 a1 "java/lang/String" "coder" "B" u_coder_a1) (F_value_a1 : Fld Z h0 a1 "java/lang/String" "value" "[B" u_value_a1) (g_a1 : n0 ≤ a1) :
    MetFree l (⟨"java/lang/String", "<init>", "([C)V"⟩ : MethodName) (head1 (Jvm.Cond.code (⟨"java/lang/String", "<init>", "([C)V"⟩ : MethodName) jdk_42_method_3_code 2 none :: ws) ({ frames := 3, cells := 1, slots := 3, locals := 52 } : Room)) (fun a U => a = #[(.ref a1), (.ref a2)] ∧ Z.Warmed39 U.vm ∧ U.heap = h0) (fun _ _ _ _ _ => True) (fun _ U o U' => ∃ v L, o = .returned v ∧ Q3 Z a1 a2 n_a2 f_a2 w_COMPACT_STRINGS u_coder_a1 u_value_a1 h0 n0 v U'.heap L ∧ FrameEnd U o U' L ({ frames := 3, cells := 1, slots := 3, locals := 52 } : Room).cells ({ frames := 3, cells := 1, slots := 3, locals := 52 } : Room).slots) := by
  refine MetFree.of_bodySF (plainFor_of_name pn_3) hisR ?_
  intro p e s m args below meth c s₁ Bd hml0 hP hK
  obtain ⟨rfl, hZ, hh⟩ := hP
  have hx := Bd.exec
  have hby := Bd.bytes
  have hml : c.maxLocals = 2 := hml0
  have hown : s.vm.findClass "java/lang/String" = some m.cls := findClass_of_methodNamed Bd.named
  have hnm := (name_of_methodNamed Bd.named Bd.method).1
  have X0 : Stand p l e ({ frames := 3, cells := 1, slots := 3, locals := 52 } : Room) s m #[(.ref a1), (.ref a2)] below meth c s₁ [] 0 0 := Stand.of_body Bd
  have e0 : s₁.heap = h0 := by rw [← hh, Bd.state]; rfl
  have N0 := Fr.nil n0
  have pre0 : ∀ t, Steps p.tables e below (s₁.setTop (mkF m 0 #[.val (.ref a1), .val (.ref a2)] [])) t → Steps p.tables e below (s₁.setTop (entryFrame m #[(.ref a1), (.ref a2)] 2)) t := fun t k => castTop (ef_3 m a1 a2) k
  have K5 : ∀ t, Steps p.tables e below (s₁.setTop (mkF m 4 #[.val (.ref a1), .val (.ref a2)] [(.ref a2), (.int (0 : Int32)), (.ref a2), (.ref a1)])) t → Steps p.tables e below (s₁.setTop (mkF m 0 #[.val (.ref a1), .val (.ref a2)] [])) t := by
    intro t k
    refine XS.aloadN X0.here hx rfl (Jvm.hb hby d3_0) rfl rfl ?_
    show Steps p.tables e below (s₁.setTop (mkF m 1 #[.val (.ref a1), .val (.ref a2)] [(.ref a1)])) t
    refine XS.aloadN X0.here hx rfl (Jvm.hb hby d3_1) rfl rfl ?_
    show Steps p.tables e below (s₁.setTop (mkF m 2 #[.val (.ref a1), .val (.ref a2)] [(.ref a2), (.ref a1)])) t
    refine XS.iconst X0.here hx rfl (Jvm.hb hby d3_2) ?_
    show Steps p.tables e below (s₁.setTop (mkF m 3 #[.val (.ref a1), .val (.ref a2)] [(.int (0 : Int32)), (.ref a2), (.ref a1)])) t
    refine XS.aloadN X0.here hx rfl (Jvm.hb hby d3_3) rfl rfl ?_
    show Steps p.tables e below (s₁.setTop (mkF m 4 #[.val (.ref a1), .val (.ref a2)] [(.ref a2), (.int (0 : Int32)), (.ref a2), (.ref a1)])) t
    exact k
  obtain ⟨cl1, Aq2, sq3, nq4⟩ := Ia.len A_a2
  have K6 : ∀ t, Steps p.tables e below (s₁.setTop (mkF m 6 #[.val (.ref a1), .val (.ref a2)] [.null, (.int n_a2), (.int (0 : Int32)), (.ref a2), (.ref a1)])) t → Steps p.tables e below (s₁.setTop (mkF m 4 #[.val (.ref a1), .val (.ref a2)] [(.ref a2), (.int (0 : Int32)), (.ref a2), (.ref a1)])) t := by
    intro t k
    refine X0.arraylength hx (by rw [e0]; exact Aq2.1) (State.isArrayOf_alike hZ.alike Aq2.2.1) (g := (mkF m 4 #[.val (.ref a1), .val (.ref a2)] [(.ref a2), (.int (0 : Int32)), (.ref a2), (.ref a1)])) rfl rfl (Jvm.hb hby d3_4) _ ?_
    rw [len_of sq3 nq4]
    show Steps p.tables e below (s₁.setTop (mkF m 5 #[.val (.ref a1), .val (.ref a2)] [(.int n_a2), (.int (0 : Int32)), (.ref a2), (.ref a1)])) t
    refine XS.aconstNull X0.here hx rfl (Jvm.hb hby d3_5) ?_
    show Steps p.tables e below (s₁.setTop (mkF m 6 #[.val (.ref a1), .val (.ref a2)] [.null, (.int n_a2), (.int (0 : Int32)), (.ref a2), (.ref a1)])) t
    exact k
  obtain ⟨_, _, ⟨T7, L7, k7, n7⟩, -, X7, ⟨Lc7, hQ7, l7, y7, z7⟩, st7⟩ := X0.specialBack hx (y := (⟨"java/lang/String", "<init>", "([CIILjava/lang/Void;)V"⟩ : MethodName)) rfl hown (mvT hZ (hw _ (List.mem_of_getElem? (i := 14) rfl))) (mvT hZ (hw _ (List.mem_of_getElem? (i := 15) rfl))) (mvT hZ (hw _ (List.mem_of_getElem? (i := 17) rfl))) (by decide) (backOf (W := 0) (rm4 l Z a0 hw [] a1 a2 n_a2 w_COMPACT_STRINGS n_a2 f_a2 u_coder_a1 u_value_a1 h0 n0 Z0 hz A_a2.nn hc Int32.lt_irrefl hch hcs S_COMPACT_STRINGS A_a2 E_a1 F_coder_a1 g_a1 F_value_a1) hZ (hw _ (List.mem_of_getElem? (i := 17) rfl)) (hw _ (List.mem_of_getElem? (i := 9) rfl)) (by decide) (by decide)) (g := (mkF m 6 #[.val (.ref a1), .val (.ref a2)] [.null, (.int n_a2), (.int (0 : Int32)), (.ref a2), (.ref a1)])) rfl (by rw [hml]; rfl) (Steps.refl _) (a := a1) (argsL := [(.ref a2), (.int (0 : Int32)), (.int n_a2), .null]) (rest := []) (lenOf pd_3 rfl) rfl (by show 2 * 0 + _ ≤ _; exact Nat.le_of_eq rfl) (Jvm.hb hby d3_6) (fun _ _ => ⟨rfl, e0, (by decide : 0 + 1 ≤ _), (by decide : 0 + 3 ≤ _)⟩)
  dsimp only [Pt.U, Pt.locs, Pt.cells, Pt.slots] at X7 l7 y7 z7 st7 hQ7
  subst l7 y7 z7
  obtain ⟨h7, e7⟩ : ∃ z, T7.heap = z := ⟨_, rfl⟩
  rw [e7] at hQ7
  obtain ⟨b7_x1, rfl, N7q, Kq7, szq_b7_x1, gb_b7_x1, R7_0, R7_1, R7_2, R7_3⟩ := hQ7
  have N7 := Fr.app N0 N7q
  have KP7 : Keep h0 h7 [a1] := (Keep.refl h0 [a1]).trans Kq7 (allS (Or.inl (List.mem_of_getElem? (i := 0) rfl)) all0)
  have A7_0 : Ia Z h7 a2 .char n_a2 f_a2 := A_a2.keep Kq7 (ninS (Ne.symm (own_nea E_a1 (hw _ (List.mem_of_getElem? (i := 8) rfl)) A_a2)) nin0)
  have ne7_x1_0 : a2 ≠ b7_x1 := Nat.ne_of_lt (Nat.lt_of_lt_of_le A_a2.lt szq_b7_x1)
  have ne7_x1_2 : a1 ≠ b7_x1 := Nat.ne_of_lt (Nat.lt_of_lt_of_le E_a1.lt szq_b7_x1)
  have sz_b7_x1 : h0.size ≤ b7_x1 := Nat.le_trans (Keep.refl h0 [a1]).1 szq_b7_x1
  have K8 : ∀ t, Steps p.tables e below (T7.setTop (mkF m 9 #[.val (.ref a1), .val (.ref a2)] [])) t → Steps p.tables e below (s₁.setTop (mkF m 6 #[.val (.ref a1), .val (.ref a2)] [.null, (.int n_a2), (.int (0 : Int32)), (.ref a2), (.ref a1)])) t := fun t k => st7.trans k
  obtain ⟨fs, hr, hrun, hended, hW, hsame⟩ := X7.leave (v := none) (fun _ => rfl) Bd.notSynchronized
  refine ⟨_, _, pre0 _ (K5 _ (K6 _ (K8 _ (X7.returnOut hx Bd.returns (Jvm.hb hby d3_9) hr)))), hrun, hended, _, _, rfl, ?_, ⟨_, rfl⟩, hW, hsame.mono (by decide) (by decide)⟩
  show Q3 Z a1 a2 n_a2 f_a2 w_COMPACT_STRINGS u_coder_a1 u_value_a1 h0 n0 _ T7.heap _
  rw [e7]
  exact ⟨b7_x1, rfl, N7, KP7, sz_b7_x1, gb_b7_x1, R7_0, R7_1, R7_2, R7_3⟩
-- body 2: com/example/millrace/millrace/api/SinkRecordWithDataPinLaw.text(II)Ljava/lang/String;
theorem d2_0 : decode method_3_code 0 = .ok (.iload_n 0, 1) := by decide +kernel
theorem d2_1 : decode method_3_code 1 = .ok (.iconst 3, 1) := by decide +kernel
theorem d2_2 : decode method_3_code 2 = .ok (.iand, 1) := by decide +kernel
theorem d2_3 : decode method_3_code 3 = .ok (.istore_n 2, 1) := by decide +kernel
theorem d2_4 : decode method_3_code 4 = .ok (.iload_n 1, 1) := by decide +kernel
theorem d2_5 : decode method_3_code 5 = .ok (.sipush 255, 3) := by decide +kernel
theorem d2_8 : decode method_3_code 8 = .ok (.iand, 1) := by decide +kernel
theorem d2_9 : decode method_3_code 9 = .ok (.i2c, 1) := by decide +kernel
theorem d2_10 : decode method_3_code 10 = .ok (.istore_n 3, 1) := by decide +kernel
theorem d2_11 : decode method_3_code 11 = .ok (.iload_n 1, 1) := by decide +kernel
theorem d2_12 : decode method_3_code 12 = .ok (.bipush 8, 2) := by decide +kernel
theorem d2_14 : decode method_3_code 14 = .ok (.iushr, 1) := by decide +kernel
theorem d2_15 : decode method_3_code 15 = .ok (.sipush 255, 3) := by decide +kernel
theorem d2_18 : decode method_3_code 18 = .ok (.iand, 1) := by decide +kernel
theorem d2_19 : decode method_3_code 19 = .ok (.i2c, 1) := by decide +kernel
theorem d2_20 : decode method_3_code 20 = .ok (.istore 4, 2) := by decide +kernel
theorem d2_22 : decode method_3_code 22 = .ok (.iload_n 1, 1) := by decide +kernel
theorem d2_23 : decode method_3_code 23 = .ok (.bipush 16, 2) := by decide +kernel
theorem d2_25 : decode method_3_code 25 = .ok (.iushr, 1) := by decide +kernel
theorem d2_26 : decode method_3_code 26 = .ok (.sipush 255, 3) := by decide +kernel
theorem d2_29 : decode method_3_code 29 = .ok (.iand, 1) := by decide +kernel
theorem d2_30 : decode method_3_code 30 = .ok (.i2c, 1) := by decide +kernel
theorem d2_31 : decode method_3_code 31 = .ok (.istore 5, 2) := by decide +kernel
theorem d2_33 : decode method_3_code 33 = .ok (.iload_n 2, 1) := by decide +kernel
theorem d2_34 : decode method_3_code 34 = .ok (.ifCond .ne 14, 3) := by decide +kernel
theorem d2_37 : decode method_3_code 37 = .ok (.new 16, 3) := by decide +kernel
theorem d2_40 : decode method_3_code 40 = .ok (.dup, 1) := by decide +kernel
theorem d2_41 : decode method_3_code 41 = .ok (.iconst 0, 1) := by decide +kernel
theorem d2_42 : decode method_3_code 42 = .ok (.newarray .char, 2) := by decide +kernel
theorem d2_44 : decode method_3_code 44 = .ok (.invokespecial 18, 3) := by decide +kernel
theorem d2_47 : decode method_3_code 47 = .ok (.areturn, 1) := by decide +kernel
theorem d2_48 : decode method_3_code 48 = .ok (.iload_n 2, 1) := by decide +kernel
theorem d2_49 : decode method_3_code 49 = .ok (.iconst 1, 1) := by decide +kernel
theorem d2_50 : decode method_3_code 50 = .ok (.if_icmp .ne 18, 3) := by decide +kernel
theorem d2_53 : decode method_3_code 53 = .ok (.new 16, 3) := by decide +kernel
theorem d2_56 : decode method_3_code 56 = .ok (.dup, 1) := by decide +kernel
theorem d2_57 : decode method_3_code 57 = .ok (.iconst 1, 1) := by decide +kernel
theorem d2_58 : decode method_3_code 58 = .ok (.newarray .char, 2) := by decide +kernel
theorem d2_60 : decode method_3_code 60 = .ok (.dup, 1) := by decide +kernel
theorem d2_61 : decode method_3_code 61 = .ok (.iconst 0, 1) := by decide +kernel
theorem d2_62 : decode method_3_code 62 = .ok (.iload_n 3, 1) := by decide +kernel
theorem d2_63 : decode method_3_code 63 = .ok (.castore, 1) := by decide +kernel
theorem d2_64 : decode method_3_code 64 = .ok (.invokespecial 18, 3) := by decide +kernel
theorem d2_67 : decode method_3_code 67 = .ok (.areturn, 1) := by decide +kernel
theorem d2_68 : decode method_3_code 68 = .ok (.iload_n 2, 1) := by decide +kernel
theorem d2_69 : decode method_3_code 69 = .ok (.iconst 2, 1) := by decide +kernel
theorem d2_70 : decode method_3_code 70 = .ok (.if_icmp .ne 23, 3) := by decide +kernel
theorem d2_73 : decode method_3_code 73 = .ok (.new 16, 3) := by decide +kernel
theorem d2_76 : decode method_3_code 76 = .ok (.dup, 1) := by decide +kernel
theorem d2_77 : decode method_3_code 77 = .ok (.iconst 2, 1) := by decide +kernel
theorem d2_78 : decode method_3_code 78 = .ok (.newarray .char, 2) := by decide +kernel
theorem d2_80 : decode method_3_code 80 = .ok (.dup, 1) := by decide +kernel
theorem d2_81 : decode method_3_code 81 = .ok (.iconst 0, 1) := by decide +kernel
theorem d2_82 : decode method_3_code 82 = .ok (.iload_n 3, 1) := by decide +kernel
theorem d2_83 : decode method_3_code 83 = .ok (.castore, 1) := by decide +kernel
theorem d2_84 : decode method_3_code 84 = .ok (.dup, 1) := by decide +kernel
theorem d2_85 : decode method_3_code 85 = .ok (.iconst 1, 1) := by decide +kernel
theorem d2_86 : decode method_3_code 86 = .ok (.iload 4, 2) := by decide +kernel
theorem d2_88 : decode method_3_code 88 = .ok (.castore, 1) := by decide +kernel
theorem d2_89 : decode method_3_code 89 = .ok (.invokespecial 18, 3) := by decide +kernel
theorem d2_92 : decode method_3_code 92 = .ok (.areturn, 1) := by decide +kernel
theorem d2_93 : decode method_3_code 93 = .ok (.new 16, 3) := by decide +kernel
theorem d2_96 : decode method_3_code 96 = .ok (.dup, 1) := by decide +kernel
theorem d2_97 : decode method_3_code 97 = .ok (.iconst 3, 1) := by decide +kernel
theorem d2_98 : decode method_3_code 98 = .ok (.newarray .char, 2) := by decide +kernel
theorem d2_100 : decode method_3_code 100 = .ok (.dup, 1) := by decide +kernel
theorem d2_101 : decode method_3_code 101 = .ok (.iconst 0, 1) := by decide +kernel
theorem d2_102 : decode method_3_code 102 = .ok (.iload_n 3, 1) := by decide +kernel
theorem d2_103 : decode method_3_code 103 = .ok (.castore, 1) := by decide +kernel
theorem d2_104 : decode method_3_code 104 = .ok (.dup, 1) := by decide +kernel
theorem d2_105 : decode method_3_code 105 = .ok (.iconst 1, 1) := by decide +kernel
theorem d2_106 : decode method_3_code 106 = .ok (.iload 4, 2) := by decide +kernel
theorem d2_108 : decode method_3_code 108 = .ok (.castore, 1) := by decide +kernel
theorem d2_109 : decode method_3_code 109 = .ok (.dup, 1) := by decide +kernel
theorem d2_110 : decode method_3_code 110 = .ok (.iconst 2, 1) := by decide +kernel
theorem d2_111 : decode method_3_code 111 = .ok (.iload 5, 2) := by decide +kernel
theorem d2_113 : decode method_3_code 113 = .ok (.castore, 1) := by decide +kernel
theorem d2_114 : decode method_3_code 114 = .ok (.invokespecial 18, 3) := by decide +kernel
theorem d2_117 : decode method_3_code 117 = .ok (.areturn, 1) := by decide +kernel
theorem pn_2 : plainName "com/example/millrace/millrace/api/SinkRecordWithDataPinLaw" = true := by first | (simp [plainName, overriddenIn]; done) | decide +kernel
theorem pd_2 : parseMethodDescriptor "([C)V" = some ⟨[(.array .char)], none⟩ := by decide +kernel
theorem ef_2 (m : MethodId) (p1 : Int32) (p2 : Int32) : entryFrame m #[(.int p1), (.int p2)] 6 = mkF m 0 #[.val (.int p1), .val (.int p2), .unset, .unset, .unset, .unset] [] := by first | (simp [entryFrame, mkF, argsToLocals, Value.category]; done) | rfl
def f2_u1 (p2 : Int32) : Int32 → Int32 := (upd (fun _ => 0) (0 : Int32) (nar .char ((p2 &&& (255 : Int32)).toUInt32.toUInt16.toUInt32.toInt32)))
def f2_u2 (p2 : Int32) : Int32 → Int32 := (upd (f2_u1 p2) (1 : Int32) (nar .char ((((p2.toUInt32 >>> ((8 : Int32) &&& 31).toUInt32).toInt32) &&& (255 : Int32)).toUInt32.toUInt16.toUInt32.toInt32)))
def f2_u3 (p2 : Int32) : Int32 → Int32 := (upd (f2_u2 p2) (2 : Int32) (nar .char ((((p2.toUInt32 >>> ((16 : Int32) &&& 31).toUInt32).toInt32) &&& (255 : Int32)).toUInt32.toUInt16.toUInt32.toInt32)))
def f2_u4 (p1 : Int32) : Int32 := (if (p1 &&& (3 : Int32)) = (0 : Int32) then (0 : Int32) else (if (p1 &&& (3 : Int32)) = (1 : Int32) then (1 : Int32) else (if (p1 &&& (3 : Int32)) = (2 : Int32) then (2 : Int32) else (3 : Int32))))
def f2_u5 (p1 : Int32) (p2 : Int32) : Int32 → Int32 := (if (p1 &&& (3 : Int32)) = (0 : Int32) then (fun _ => 0) else (if (p1 &&& (3 : Int32)) = (1 : Int32) then (f7_G_a30 (1 : Int32) (f2_u1 p2) (fun _ => 0)) else (if (p1 &&& (3 : Int32)) = (2 : Int32) then (f7_G_a30 (2 : Int32) (f2_u2 p2) (fun _ => 0)) else (f7_G_a30 (3 : Int32) (f2_u3 p2) (fun _ => 0)))))
def Q2 (Z : State) (p1 : Int32) (p2 : Int32) (w_COMPACT_STRINGS : Int32) (h0 : Heap) (n0 : Nat) (v : Option Value) (h : Heap) (L : List Loc) : Prop := ∃ x1 : Addr, ∃ x2 : Addr, v = some (.ref x1) ∧ Fr n0 L ∧ Keep h0 h [] ∧ h0.size ≤ x1 ∧ n0 ≤ x1 ∧ x1 ≠ x2 ∧ Exa Z h x1 "java/lang/String" ∧ Ia Z h x2 .byte (f2_u4 p1) (f2_u5 p1 p2) ∧ Fld Z h x1 "java/lang/String" "value" "[B" (.ref x2) ∧ Fld Z h x1 "java/lang/String" "coder" "B" (.int (0 : Int32))
set_option maxRecDepth 65536 in
set_option maxHeartbeats 40000000 in
theorem rm2 (l : Launch) (Z : State) (a0 : Array Value) (hw : ∀ d ∈ tables_1, d.before a0 Z = true) (ws : List Jvm.Cond) (p1 : Int32) (p2 : Int32) (w_COMPACT_STRINGS : Int32) (h0 : Heap) (n0 : Nat) (Z0 : n0 ≤ h0.size) (S_COMPACT_STRINGS : Sta Z h0 "java/lang/String" "COMPACT_STRINGS" "Z" (.int w_COMPACT_STRINGS)) (hcs : ¬ (w_COMPACT_STRINGS = 0)) :
    MetFree l (⟨"com/example/millrace/millrace/api/SinkRecordWithDataPinLaw", "text", "(II)Ljava/lang/String;"⟩ : MethodName) (head1 (Jvm.Cond.code (⟨"com/example/millrace/millrace/api/SinkRecordWithDataPinLaw", "text", "(II)Ljava/lang/String;"⟩ : MethodName) method_3_code 6 (some (.object "java/lang/String")) :: ws) ({ frames := 4, cells := 6, slots := 12, locals := 66 } : Room)) (fun a U => a = #[(.int p1), (.int p2)] ∧ Z.Warmed39 U.vm ∧ U.heap = h0 ∧ CHv Z EL0 U.vm h0) (fun _ _ _ _ _ => True) (fun _ U o U' => ∃ v L, o = .returned v ∧ Q2 Z p1 p2 w_COMPACT_STRINGS h0 n0 v U'.heap L ∧ CHr Z EL0 U.vm U.heap U'.vm U'.heap ∧ ReturnedEndW U o U' L ({ frames := 4, cells := 6, slots := 12, locals := 66 } : Room).cells ({ frames := 4, cells := 6, slots := 12, locals := 66 } : Room).slots) := by
  refine MetFree.of_bodySF (plainFor_of_name pn_2) hisR ?_
  intro p e s m args below meth c s₁ Bd hml0 hP hK
  obtain ⟨rfl, hZ, hh, H0⟩ := hP
  have hx := Bd.exec
  have hby := Bd.bytes
  have hml : c.maxLocals = 6 := hml0
  have hown : s.vm.findClass "com/example/millrace/millrace/api/SinkRecordWithDataPinLaw" = some m.cls := findClass_of_methodNamed Bd.named
  have hnm := (name_of_methodNamed Bd.named Bd.method).1
  obtain ⟨vm0, hvm0⟩ : ∃ z, z = s.vm := ⟨_, rfl⟩
  have X0 : Stand p l e ({ frames := 4, cells := 6, slots := 12, locals := 66 } : Room) (s.setVm vm0) m #[(.int p1), (.int p2)] below meth c s₁ [] 0 0 := by rw [hvm0]; exact Stand.of_body Bd
  have hS : s.Since vm0 h0.size := by rw [hvm0]; exact own_since s _
  rw [← hvm0] at hZ hown
  have CR0 : CHr Z EL0 s.vm h0 vm0 h0 := by rw [hvm0]; exact CHr.refl H0
  have e0 : s₁.heap = h0 := by rw [← hh, Bd.state]; rfl
  have N0 := Fr.nil n0
  have pre0 : ∀ t, Steps p.tables e below (s₁.setTop (mkF m 0 #[.val (.int p1), .val (.int p2), .unset, .unset, .unset, .unset] [])) t → Steps p.tables e below (s₁.setTop (entryFrame m #[(.int p1), (.int p2)] 6)) t := fun t k => castTop (ef_2 m p1 p2) k
  have K1 : ∀ t, Steps p.tables e below (s₁.setTop (mkF m 34 #[.val (.int p1), .val (.int p2), .val (.int (p1 &&& (3 : Int32))), .val (.int ((p2 &&& (255 : Int32)).toUInt32.toUInt16.toUInt32.toInt32)), .val (.int ((((p2.toUInt32 >>> ((8 : Int32) &&& 31).toUInt32).toInt32) &&& (255 : Int32)).toUInt32.toUInt16.toUInt32.toInt32)), .val (.int ((((p2.toUInt32 >>> ((16 : Int32) &&& 31).toUInt32).toInt32) &&& (255 : Int32)).toUInt32.toUInt16.toUInt32.toInt32))] [(.int (p1 &&& (3 : Int32)))])) t → Steps p.tables e below (s₁.setTop (mkF m 0 #[.val (.int p1), .val (.int p2), .unset, .unset, .unset, .unset] [])) t := by
    intro t k
    refine XS.iloadN X0.here hx rfl (Jvm.hb hby d2_0) rfl ?_
    show Steps p.tables e below (s₁.setTop (mkF m 1 #[.val (.int p1), .val (.int p2), .unset, .unset, .unset, .unset] [(.int p1)])) t
    refine XS.iconst X0.here hx rfl (Jvm.hb hby d2_1) ?_
    show Steps p.tables e below (s₁.setTop (mkF m 2 #[.val (.int p1), .val (.int p2), .unset, .unset, .unset, .unset] [(.int (3 : Int32)), (.int p1)])) t
    refine XS.iand X0.here hx rfl (Jvm.hb hby d2_2) rfl ?_
    show Steps p.tables e below (s₁.setTop (mkF m 3 #[.val (.int p1), .val (.int p2), .unset, .unset, .unset, .unset] [(.int (p1 &&& (3 : Int32)))])) t
    refine XS.istoreN X0.here hx rfl (Jvm.hb hby d2_3) rfl (l' := #[.val (.int p1), .val (.int p2), .val (.int (p1 &&& (3 : Int32))), .unset, .unset, .unset]) rfl ?_
    show Steps p.tables e below (s₁.setTop (mkF m 4 #[.val (.int p1), .val (.int p2), .val (.int (p1 &&& (3 : Int32))), .unset, .unset, .unset] [])) t
    refine XS.iloadN X0.here hx rfl (Jvm.hb hby d2_4) rfl ?_
    show Steps p.tables e below (s₁.setTop (mkF m 5 #[.val (.int p1), .val (.int p2), .val (.int (p1 &&& (3 : Int32))), .unset, .unset, .unset] [(.int p2)])) t
    refine XS.sipush X0.here hx rfl (Jvm.hb hby d2_5) ?_
    show Steps p.tables e below (s₁.setTop (mkF m 8 #[.val (.int p1), .val (.int p2), .val (.int (p1 &&& (3 : Int32))), .unset, .unset, .unset] [(.int (255 : Int32)), (.int p2)])) t
    refine XS.iand X0.here hx rfl (Jvm.hb hby d2_8) rfl ?_
    show Steps p.tables e below (s₁.setTop (mkF m 9 #[.val (.int p1), .val (.int p2), .val (.int (p1 &&& (3 : Int32))), .unset, .unset, .unset] [(.int (p2 &&& (255 : Int32)))])) t
    refine XS.i2c X0.here hx rfl (Jvm.hb hby d2_9) rfl ?_
    show Steps p.tables e below (s₁.setTop (mkF m 10 #[.val (.int p1), .val (.int p2), .val (.int (p1 &&& (3 : Int32))), .unset, .unset, .unset] [(.int ((p2 &&& (255 : Int32)).toUInt32.toUInt16.toUInt32.toInt32))])) t
    refine XS.istoreN X0.here hx rfl (Jvm.hb hby d2_10) rfl (l' := #[.val (.int p1), .val (.int p2), .val (.int (p1 &&& (3 : Int32))), .val (.int ((p2 &&& (255 : Int32)).toUInt32.toUInt16.toUInt32.toInt32)), .unset, .unset]) rfl ?_
    show Steps p.tables e below (s₁.setTop (mkF m 11 #[.val (.int p1), .val (.int p2), .val (.int (p1 &&& (3 : Int32))), .val (.int ((p2 &&& (255 : Int32)).toUInt32.toUInt16.toUInt32.toInt32)), .unset, .unset] [])) t
    refine XS.iloadN X0.here hx rfl (Jvm.hb hby d2_11) rfl ?_
    show Steps p.tables e below (s₁.setTop (mkF m 12 #[.val (.int p1), .val (.int p2), .val (.int (p1 &&& (3 : Int32))), .val (.int ((p2 &&& (255 : Int32)).toUInt32.toUInt16.toUInt32.toInt32)), .unset, .unset] [(.int p2)])) t
    refine XS.bipush X0.here hx rfl (Jvm.hb hby d2_12) ?_
    show Steps p.tables e below (s₁.setTop (mkF m 14 #[.val (.int p1), .val (.int p2), .val (.int (p1 &&& (3 : Int32))), .val (.int ((p2 &&& (255 : Int32)).toUInt32.toUInt16.toUInt32.toInt32)), .unset, .unset] [(.int (8 : Int32)), (.int p2)])) t
    refine XS.iushr X0.here hx rfl (Jvm.hb hby d2_14) rfl ?_
    show Steps p.tables e below (s₁.setTop (mkF m 15 #[.val (.int p1), .val (.int p2), .val (.int (p1 &&& (3 : Int32))), .val (.int ((p2 &&& (255 : Int32)).toUInt32.toUInt16.toUInt32.toInt32)), .unset, .unset] [(.int ((p2.toUInt32 >>> ((8 : Int32) &&& 31).toUInt32).toInt32))])) t
    refine XS.sipush X0.here hx rfl (Jvm.hb hby d2_15) ?_
    show Steps p.tables e below (s₁.setTop (mkF m 18 #[.val (.int p1), .val (.int p2), .val (.int (p1 &&& (3 : Int32))), .val (.int ((p2 &&& (255 : Int32)).toUInt32.toUInt16.toUInt32.toInt32)), .unset, .unset] [(.int (255 : Int32)), (.int ((p2.toUInt32 >>> ((8 : Int32) &&& 31).toUInt32).toInt32))])) t
    refine XS.iand X0.here hx rfl (Jvm.hb hby d2_18) rfl ?_
    show Steps p.tables e below (s₁.setTop (mkF m 19 #[.val (.int p1), .val (.int p2), .val (.int (p1 &&& (3 : Int32))), .val (.int ((p2 &&& (255 : Int32)).toUInt32.toUInt16.toUInt32.toInt32)), .unset, .unset] [(.int (((p2.toUInt32 >>> ((8 : Int32) &&& 31).toUInt32).toInt32) &&& (255 : Int32)))])) t
    refine XS.i2c X0.here hx rfl (Jvm.hb hby d2_19) rfl ?_
    show Steps p.tables e below (s₁.setTop (mkF m 20 #[.val (.int p1), .val (.int p2), .val (.int (p1 &&& (3 : Int32))), .val (.int ((p2 &&& (255 : Int32)).toUInt32.toUInt16.toUInt32.toInt32)), .unset, .unset] [(.int ((((p2.toUInt32 >>> ((8 : Int32) &&& 31).toUInt32).toInt32) &&& (255 : Int32)).toUInt32.toUInt16.toUInt32.toInt32))])) t
    refine XS.istore X0.here hx rfl (Jvm.hb hby d2_20) rfl (l' := #[.val (.int p1), .val (.int p2), .val (.int (p1 &&& (3 : Int32))), .val (.int ((p2 &&& (255 : Int32)).toUInt32.toUInt16.toUInt32.toInt32)), .val (.int ((((p2.toUInt32 >>> ((8 : Int32) &&& 31).toUInt32).toInt32) &&& (255 : Int32)).toUInt32.toUInt16.toUInt32.toInt32)), .unset]) rfl ?_
    show Steps p.tables e below (s₁.setTop (mkF m 22 #[.val (.int p1), .val (.int p2), .val (.int (p1 &&& (3 : Int32))), .val (.int ((p2 &&& (255 : Int32)).toUInt32.toUInt16.toUInt32.toInt32)), .val (.int ((((p2.toUInt32 >>> ((8 : Int32) &&& 31).toUInt32).toInt32) &&& (255 : Int32)).toUInt32.toUInt16.toUInt32.toInt32)), .unset] [])) t
    refine XS.iloadN X0.here hx rfl (Jvm.hb hby d2_22) rfl ?_
    show Steps p.tables e below (s₁.setTop (mkF m 23 #[.val (.int p1), .val (.int p2), .val (.int (p1 &&& (3 : Int32))), .val (.int ((p2 &&& (255 : Int32)).toUInt32.toUInt16.toUInt32.toInt32)), .val (.int ((((p2.toUInt32 >>> ((8 : Int32) &&& 31).toUInt32).toInt32) &&& (255 : Int32)).toUInt32.toUInt16.toUInt32.toInt32)), .unset] [(.int p2)])) t
    refine XS.bipush X0.here hx rfl (Jvm.hb hby d2_23) ?_
    show Steps p.tables e below (s₁.setTop (mkF m 25 #[.val (.int p1), .val (.int p2), .val (.int (p1 &&& (3 : Int32))), .val (.int ((p2 &&& (255 : Int32)).toUInt32.toUInt16.toUInt32.toInt32)), .val (.int ((((p2.toUInt32 >>> ((8 : Int32) &&& 31).toUInt32).toInt32) &&& (255 : Int32)).toUInt32.toUInt16.toUInt32.toInt32)), .unset] [(.int (16 : Int32)), (.int p2)])) t
    refine XS.iushr X0.here hx rfl (Jvm.hb hby d2_25) rfl ?_
    show Steps p.tables e below (s₁.setTop (mkF m 26 #[.val (.int p1), .val (.int p2), .val (.int (p1 &&& (3 : Int32))), .val (.int ((p2 &&& (255 : Int32)).toUInt32.toUInt16.toUInt32.toInt32)), .val (.int ((((p2.toUInt32 >>> ((8 : Int32) &&& 31).toUInt32).toInt32) &&& (255 : Int32)).toUInt32.toUInt16.toUInt32.toInt32)), .unset] [(.int ((p2.toUInt32 >>> ((16 : Int32) &&& 31).toUInt32).toInt32))])) t
    refine XS.sipush X0.here hx rfl (Jvm.hb hby d2_26) ?_
    show Steps p.tables e below (s₁.setTop (mkF m 29 #[.val (.int p1), .val (.int p2), .val (.int (p1 &&& (3 : Int32))), .val (.int ((p2 &&& (255 : Int32)).toUInt32.toUInt16.toUInt32.toInt32)), .val (.int ((((p2.toUInt32 >>> ((8 : Int32) &&& 31).toUInt32).toInt32) &&& (255 : Int32)).toUInt32.toUInt16.toUInt32.toInt32)), .unset] [(.int (255 : Int32)), (.int ((p2.toUInt32 >>> ((16 : Int32) &&& 31).toUInt32).toInt32))])) t
    refine XS.iand X0.here hx rfl (Jvm.hb hby d2_29) rfl ?_
    show Steps p.tables e below (s₁.setTop (mkF m 30 #[.val (.int p1), .val (.int p2), .val (.int (p1 &&& (3 : Int32))), .val (.int ((p2 &&& (255 : Int32)).toUInt32.toUInt16.toUInt32.toInt32)), .val (.int ((((p2.toUInt32 >>> ((8 : Int32) &&& 31).toUInt32).toInt32) &&& (255 : Int32)).toUInt32.toUInt16.toUInt32.toInt32)), .unset] [(.int (((p2.toUInt32 >>> ((16 : Int32) &&& 31).toUInt32).toInt32) &&& (255 : Int32)))])) t
    refine XS.i2c X0.here hx rfl (Jvm.hb hby d2_30) rfl ?_
    show Steps p.tables e below (s₁.setTop (mkF m 31 #[.val (.int p1), .val (.int p2), .val (.int (p1 &&& (3 : Int32))), .val (.int ((p2 &&& (255 : Int32)).toUInt32.toUInt16.toUInt32.toInt32)), .val (.int ((((p2.toUInt32 >>> ((8 : Int32) &&& 31).toUInt32).toInt32) &&& (255 : Int32)).toUInt32.toUInt16.toUInt32.toInt32)), .unset] [(.int ((((p2.toUInt32 >>> ((16 : Int32) &&& 31).toUInt32).toInt32) &&& (255 : Int32)).toUInt32.toUInt16.toUInt32.toInt32))])) t
    refine XS.istore X0.here hx rfl (Jvm.hb hby d2_31) rfl (l' := #[.val (.int p1), .val (.int p2), .val (.int (p1 &&& (3 : Int32))), .val (.int ((p2 &&& (255 : Int32)).toUInt32.toUInt16.toUInt32.toInt32)), .val (.int ((((p2.toUInt32 >>> ((8 : Int32) &&& 31).toUInt32).toInt32) &&& (255 : Int32)).toUInt32.toUInt16.toUInt32.toInt32)), .val (.int ((((p2.toUInt32 >>> ((16 : Int32) &&& 31).toUInt32).toInt32) &&& (255 : Int32)).toUInt32.toUInt16.toUInt32.toInt32))]) rfl ?_
    show Steps p.tables e below (s₁.setTop (mkF m 33 #[.val (.int p1), .val (.int p2), .val (.int (p1 &&& (3 : Int32))), .val (.int ((p2 &&& (255 : Int32)).toUInt32.toUInt16.toUInt32.toInt32)), .val (.int ((((p2.toUInt32 >>> ((8 : Int32) &&& 31).toUInt32).toInt32) &&& (255 : Int32)).toUInt32.toUInt16.toUInt32.toInt32)), .val (.int ((((p2.toUInt32 >>> ((16 : Int32) &&& 31).toUInt32).toInt32) &&& (255 : Int32)).toUInt32.toUInt16.toUInt32.toInt32))] [])) t
    refine XS.iloadN X0.here hx rfl (Jvm.hb hby d2_33) rfl ?_
    show Steps p.tables e below (s₁.setTop (mkF m 34 #[.val (.int p1), .val (.int p2), .val (.int (p1 &&& (3 : Int32))), .val (.int ((p2 &&& (255 : Int32)).toUInt32.toUInt16.toUInt32.toInt32)), .val (.int ((((p2.toUInt32 >>> ((8 : Int32) &&& 31).toUInt32).toInt32) &&& (255 : Int32)).toUInt32.toUInt16.toUInt32.toInt32)), .val (.int ((((p2.toUInt32 >>> ((16 : Int32) &&& 31).toUInt32).toInt32) &&& (255 : Int32)).toUInt32.toUInt16.toUInt32.toInt32))] [(.int (p1 &&& (3 : Int32)))])) t
    exact k
  by_cases hc2 : (p1 &&& (3 : Int32)) = (0 : Int32)
  · have K3 : ∀ t, Steps p.tables e below (s₁.setTop (mkF m 37 #[.val (.int p1), .val (.int p2), .val (.int (p1 &&& (3 : Int32))), .val (.int ((p2 &&& (255 : Int32)).toUInt32.toUInt16.toUInt32.toInt32)), .val (.int ((((p2.toUInt32 >>> ((8 : Int32) &&& 31).toUInt32).toInt32) &&& (255 : Int32)).toUInt32.toUInt16.toUInt32.toInt32)), .val (.int ((((p2.toUInt32 >>> ((16 : Int32) &&& 31).toUInt32).toInt32) &&& (255 : Int32)).toUInt32.toUInt16.toUInt32.toInt32))] [])) t → Steps p.tables e below (s₁.setTop (mkF m 34 #[.val (.int p1), .val (.int p2), .val (.int (p1 &&& (3 : Int32))), .val (.int ((p2 &&& (255 : Int32)).toUInt32.toUInt16.toUInt32.toInt32)), .val (.int ((((p2.toUInt32 >>> ((8 : Int32) &&& 31).toUInt32).toInt32) &&& (255 : Int32)).toUInt32.toUInt16.toUInt32.toInt32)), .val (.int ((((p2.toUInt32 >>> ((16 : Int32) &&& 31).toUInt32).toInt32) &&& (255 : Int32)).toUInt32.toUInt16.toUInt32.toInt32))] [(.int (p1 &&& (3 : Int32)))])) t := by
      intro t k
      refine XS.ifNo X0.here hx rfl (Jvm.hb hby d2_34) rfl ((if0 _ _).trans (teq hc2).2) ?_
      exact k
    obtain ⟨T4, h4, X4, e4, E4, A4, D4, -, st4⟩ := newO X0 hx hZ hown (hw _ (List.mem_of_getElem? (i := 7) rfl)) (hw _ (List.mem_of_getElem? (i := 8) rfl)) (hw _ (List.mem_of_getElem? (i := 9) rfl)) e0 (g := (mkF m 37 #[.val (.int p1), .val (.int p2), .val (.int (p1 &&& (3 : Int32))), .val (.int ((p2 &&& (255 : Int32)).toUInt32.toUInt16.toUInt32.toInt32)), .val (.int ((((p2.toUInt32 >>> ((8 : Int32) &&& 31).toUInt32).toInt32) &&& (255 : Int32)).toUInt32.toUInt16.toUInt32.toInt32)), .val (.int ((((p2.toUInt32 >>> ((16 : Int32) &&& 31).toUInt32).toInt32) &&& (255 : Int32)).toUInt32.toUInt16.toUInt32.toInt32))] [])) rfl (Jvm.hb hby d2_37) (by decide) (by decide)
    obtain ⟨b4, g4⟩ : ∃ z, z = h0.size := ⟨_, rfl⟩
    rw [← g4] at A4 D4 st4
    have KP4 : Keep h0 h4 [] := (Keep.refl h0 []).ext E4
    have CR4 : CHr Z EL0 s.vm h0 vm0 h4 := CR0.trans (CHr.ext E4 CR0.1)
    have SK4 := Nat.le_trans (Nat.le_refl h0.size) E4.1
    have gb_b4 : n0 ≤ b4 := Nat.le_trans Z0 (Nat.le_of_eq g4.symm)
    have sz_b4 : h0.size ≤ b4 := Nat.le_trans (Keep.refl h0 []).1 (Nat.le_of_eq g4.symm)
    have F4_coder : Fld Z h4 b4 "java/lang/String" "coder" "B" (.int (0 : Int32)) := D4 (Or.inr (hw _ (List.mem_of_getElem? (i := 34) rfl))) (ty := .byte) (by decide)
    have F4_value : Fld Z h4 b4 "java/lang/String" "value" "[B" .null := D4 (Or.inr (hw _ (List.mem_of_getElem? (i := 36) rfl))) (ty := (.array .byte)) (by decide)
    have K5 : ∀ t, Steps p.tables e below (T4.setTop (mkF m 40 #[.val (.int p1), .val (.int p2), .val (.int (p1 &&& (3 : Int32))), .val (.int ((p2 &&& (255 : Int32)).toUInt32.toUInt16.toUInt32.toInt32)), .val (.int ((((p2.toUInt32 >>> ((8 : Int32) &&& 31).toUInt32).toInt32) &&& (255 : Int32)).toUInt32.toUInt16.toUInt32.toInt32)), .val (.int ((((p2.toUInt32 >>> ((16 : Int32) &&& 31).toUInt32).toInt32) &&& (255 : Int32)).toUInt32.toUInt16.toUInt32.toInt32))] [(.ref b4)])) t → Steps p.tables e below (s₁.setTop (mkF m 37 #[.val (.int p1), .val (.int p2), .val (.int (p1 &&& (3 : Int32))), .val (.int ((p2 &&& (255 : Int32)).toUInt32.toUInt16.toUInt32.toInt32)), .val (.int ((((p2.toUInt32 >>> ((8 : Int32) &&& 31).toUInt32).toInt32) &&& (255 : Int32)).toUInt32.toUInt16.toUInt32.toInt32)), .val (.int ((((p2.toUInt32 >>> ((16 : Int32) &&& 31).toUInt32).toInt32) &&& (255 : Int32)).toUInt32.toUInt16.toUInt32.toInt32))] [])) t := fun t k => st4 _ k
    have K6 : ∀ t, Steps p.tables e below (T4.setTop (mkF m 42 #[.val (.int p1), .val (.int p2), .val (.int (p1 &&& (3 : Int32))), .val (.int ((p2 &&& (255 : Int32)).toUInt32.toUInt16.toUInt32.toInt32)), .val (.int ((((p2.toUInt32 >>> ((8 : Int32) &&& 31).toUInt32).toInt32) &&& (255 : Int32)).toUInt32.toUInt16.toUInt32.toInt32)), .val (.int ((((p2.toUInt32 >>> ((16 : Int32) &&& 31).toUInt32).toInt32) &&& (255 : Int32)).toUInt32.toUInt16.toUInt32.toInt32))] [(.int (0 : Int32)), (.ref b4), (.ref b4)])) t → Steps p.tables e below (T4.setTop (mkF m 40 #[.val (.int p1), .val (.int p2), .val (.int (p1 &&& (3 : Int32))), .val (.int ((p2 &&& (255 : Int32)).toUInt32.toUInt16.toUInt32.toInt32)), .val (.int ((((p2.toUInt32 >>> ((8 : Int32) &&& 31).toUInt32).toInt32) &&& (255 : Int32)).toUInt32.toUInt16.toUInt32.toInt32)), .val (.int ((((p2.toUInt32 >>> ((16 : Int32) &&& 31).toUInt32).toInt32) &&& (255 : Int32)).toUInt32.toUInt16.toUInt32.toInt32))] [(.ref b4)])) t := by
      intro t k
      refine XS.dup X4.here hx rfl (Jvm.hb hby d2_40) rfl rfl ?_
      show Steps p.tables e below (T4.setTop (mkF m 41 #[.val (.int p1), .val (.int p2), .val (.int (p1 &&& (3 : Int32))), .val (.int ((p2 &&& (255 : Int32)).toUInt32.toUInt16.toUInt32.toInt32)), .val (.int ((((p2.toUInt32 >>> ((8 : Int32) &&& 31).toUInt32).toInt32) &&& (255 : Int32)).toUInt32.toUInt16.toUInt32.toInt32)), .val (.int ((((p2.toUInt32 >>> ((16 : Int32) &&& 31).toUInt32).toInt32) &&& (255 : Int32)).toUInt32.toUInt16.toUInt32.toInt32))] [(.ref b4), (.ref b4)])) t
      refine XS.iconst X4.here hx rfl (Jvm.hb hby d2_41) ?_
      show Steps p.tables e below (T4.setTop (mkF m 42 #[.val (.int p1), .val (.int p2), .val (.int (p1 &&& (3 : Int32))), .val (.int ((p2 &&& (255 : Int32)).toUInt32.toUInt16.toUInt32.toInt32)), .val (.int ((((p2.toUInt32 >>> ((8 : Int32) &&& 31).toUInt32).toInt32) &&& (255 : Int32)).toUInt32.toUInt16.toUInt32.toInt32)), .val (.int ((((p2.toUInt32 >>> ((16 : Int32) &&& 31).toUInt32).toInt32) &&& (255 : Int32)).toUInt32.toUInt16.toUInt32.toInt32))] [(.int (0 : Int32)), (.ref b4), (.ref b4)])) t
      exact k
    obtain ⟨T7, h7, k7, X7, e7, E7, A7, st7⟩ := newP X4 hx hZ (hw _ (List.mem_of_getElem? (i := 10) rfl)) e4 (g := (mkF m 42 #[.val (.int p1), .val (.int p2), .val (.int (p1 &&& (3 : Int32))), .val (.int ((p2 &&& (255 : Int32)).toUInt32.toUInt16.toUInt32.toInt32)), .val (.int ((((p2.toUInt32 >>> ((8 : Int32) &&& 31).toUInt32).toInt32) &&& (255 : Int32)).toUInt32.toUInt16.toUInt32.toInt32)), .val (.int ((((p2.toUInt32 >>> ((16 : Int32) &&& 31).toUInt32).toInt32) &&& (255 : Int32)).toUInt32.toUInt16.toUInt32.toInt32))] [(.int (0 : Int32)), (.ref b4), (.ref b4)])) rfl (Jvm.hb hby d2_42) rfl (by decide) (cap := 0) (by decide) (by decide) (by decide) (by decide)
    obtain ⟨b7, g7⟩ : ∃ z, z = h4.size := ⟨_, rfl⟩
    rw [← g7] at A7 st7
    have KP7 : Keep h0 h7 [] := KP4.ext E7
    have E7_1 : Exa Z h7 b4 "java/lang/String" := A4.ext E7
    have F7_2 : Fld Z h7 b4 "java/lang/String" "coder" "B" (.int (0 : Int32)) := F4_coder.ext E7
    have F7_3 : Fld Z h7 b4 "java/lang/String" "value" "[B" .null := F4_value.ext E7
    have CR7 : CHr Z EL0 s.vm h0 vm0 h7 := CR4.trans (CHr.ext E7 CR4.1)
    have SK7 := Nat.le_trans SK4 E7.1
    have ne7_0 : b4 ≠ b7 := Nat.ne_of_lt (Nat.lt_of_lt_of_le A4.lt (Nat.le_of_eq g7.symm))
    have gb_b7 : n0 ≤ b7 := Nat.le_trans (Nat.le_trans Z0 KP4.1) (Nat.le_of_eq g7.symm)
    have sz_b7 : h0.size ≤ b7 := Nat.le_trans KP4.1 (Nat.le_of_eq g7.symm)
    have V7 : Ia Z h7 b7 .char (0 : Int32) (fun _ => 0) := Ia.new A7 (by decide) rfl
    have K8 : ∀ t, Steps p.tables e below (T7.setTop (mkF m 44 #[.val (.int p1), .val (.int p2), .val (.int (p1 &&& (3 : Int32))), .val (.int ((p2 &&& (255 : Int32)).toUInt32.toUInt16.toUInt32.toInt32)), .val (.int ((((p2.toUInt32 >>> ((8 : Int32) &&& 31).toUInt32).toInt32) &&& (255 : Int32)).toUInt32.toUInt16.toUInt32.toInt32)), .val (.int ((((p2.toUInt32 >>> ((16 : Int32) &&& 31).toUInt32).toInt32) &&& (255 : Int32)).toUInt32.toUInt16.toUInt32.toInt32))] [(.ref b7), (.ref b4), (.ref b4)])) t → Steps p.tables e below (T4.setTop (mkF m 42 #[.val (.int p1), .val (.int p2), .val (.int (p1 &&& (3 : Int32))), .val (.int ((p2 &&& (255 : Int32)).toUInt32.toUInt16.toUInt32.toInt32)), .val (.int ((((p2.toUInt32 >>> ((8 : Int32) &&& 31).toUInt32).toInt32) &&& (255 : Int32)).toUInt32.toUInt16.toUInt32.toInt32)), .val (.int ((((p2.toUInt32 >>> ((16 : Int32) &&& 31).toUInt32).toInt32) &&& (255 : Int32)).toUInt32.toUInt16.toUInt32.toInt32))] [(.int (0 : Int32)), (.ref b4), (.ref b4)])) t := fun t k => st7 _ k
    obtain ⟨_, _, ⟨T9, L9, k9, n9⟩, -, Xq9, hSq9, hgq9, ⟨Lc9, hQ9, l9, y9, z9, CHq9⟩, st9⟩ := X7.specialBackS hx (y := (⟨"java/lang/String", "<init>", "([C)V"⟩ : MethodName)) rfl hown (mvT hZ (hw _ (List.mem_of_getElem? (i := 11) rfl))) (mvT hZ (hw _ (List.mem_of_getElem? (i := 12) rfl))) (mvT hZ (hw _ (List.mem_of_getElem? (i := 13) rfl))) (by decide) (backOfSH (W := 1) (EL := EL0) (rm103 l Z a0 hw [] b4 b7 (fun _ => 0) (.int (0 : Int32)) h7 n0 (Nat.le_trans Z0 KP7.1) V7 E7_1 F7_3 F7_2 gb_b4) hZ (hw _ (List.mem_of_getElem? (i := 13) rfl)) (hw _ (List.mem_of_getElem? (i := 9) rfl)) (by decide) (by decide) (ew0 hw) CR7.1) (g := (mkF m 44 #[.val (.int p1), .val (.int p2), .val (.int (p1 &&& (3 : Int32))), .val (.int ((p2 &&& (255 : Int32)).toUInt32.toUInt16.toUInt32.toInt32)), .val (.int ((((p2.toUInt32 >>> ((8 : Int32) &&& 31).toUInt32).toInt32) &&& (255 : Int32)).toUInt32.toUInt16.toUInt32.toInt32)), .val (.int ((((p2.toUInt32 >>> ((16 : Int32) &&& 31).toUInt32).toInt32) &&& (255 : Int32)).toUInt32.toUInt16.toUInt32.toInt32))] [(.ref b7), (.ref b4), (.ref b4)])) rfl (by rw [hml]; rfl) (Steps.refl _) (a := b4) (argsL := [(.ref b7)]) (rest := [(.ref b4)]) (lenOf pd_2 rfl) rfl (by show 2 * 0 + _ ≤ _; exact Nat.le_of_eq rfl) (Jvm.hb hby d2_44) (fun _ _ => ⟨rfl, e7, (by decide : 2 + 4 ≤ _), (by decide : 4 + 8 ≤ _)⟩)
    dsimp only [Pt.U, Pt.locs, Pt.cells, Pt.slots] at Xq9 hSq9 hgq9 CHq9 l9 y9 z9 st9 hQ9
    subst l9 y9 z9
    obtain ⟨X9, hS, hZ, hown⟩ := rebS hS (show _ ≤ T7.heap.size from (by rw [e7]; exact SK7)) Xq9 hSq9 hgq9 hZ hown
    obtain ⟨h9, e9⟩ : ∃ z, T9.heap = z := ⟨_, rfl⟩
    rw [e9] at hQ9
    rw [e9] at CHq9
    obtain ⟨b9_x1, rfl, N9q, Kq9, R9_0, R9_1, R9_2, R9_3⟩ := hQ9
    have N9 := Fr.app N0 N9q
    have KP9 : Keep h0 h9 [] := KP7.trans Kq9 (allS (Or.inr sz_b4) all0)
    have A9_1 : Ia Z h9 b7 .char (0 : Int32) (fun _ => 0) := V7.keep Kq9 (ninS (Ne.symm ne7_0) nin0)
    have CR9 : CHr Z EL0 s.vm h0 T9.vm h9 := CR7.trans (CHq9)
    rw [e9] at hS
    have K10 : ∀ t, Steps p.tables e below (T9.setTop (mkF m 47 #[.val (.int p1), .val (.int p2), .val (.int (p1 &&& (3 : Int32))), .val (.int ((p2 &&& (255 : Int32)).toUInt32.toUInt16.toUInt32.toInt32)), .val (.int ((((p2.toUInt32 >>> ((8 : Int32) &&& 31).toUInt32).toInt32) &&& (255 : Int32)).toUInt32.toUInt16.toUInt32.toInt32)), .val (.int ((((p2.toUInt32 >>> ((16 : Int32) &&& 31).toUInt32).toInt32) &&& (255 : Int32)).toUInt32.toUInt16.toUInt32.toInt32))] [(.ref b4)])) t → Steps p.tables e below (T7.setTop (mkF m 44 #[.val (.int p1), .val (.int p2), .val (.int (p1 &&& (3 : Int32))), .val (.int ((p2 &&& (255 : Int32)).toUInt32.toUInt16.toUInt32.toInt32)), .val (.int ((((p2.toUInt32 >>> ((8 : Int32) &&& 31).toUInt32).toInt32) &&& (255 : Int32)).toUInt32.toUInt16.toUInt32.toInt32)), .val (.int ((((p2.toUInt32 >>> ((16 : Int32) &&& 31).toUInt32).toInt32) &&& (255 : Int32)).toUInt32.toUInt16.toUInt32.toInt32))] [(.ref b7), (.ref b4), (.ref b4)])) t := fun t k => st9.trans k
    obtain ⟨fs, hr, hrun, hended, hRW⟩ := X9.leaveW hS (show _ ≤ T9.heap.size from (by rw [e9]; exact (Nat.le_refl _))) (v := some (.ref b4)) (fun h => by rw [Bd.returns] at h; cases h) Bd.notSynchronized
    refine ⟨_, _, pre0 _ (K1 _ (K3 _ (K5 _ (K6 _ (K8 _ (K10 _ (retOut X9 hx Bd.returns rfl (Or.inr (Or.inr (Or.inr (Or.inr ⟨rfl, rfl, rfl⟩)))) (Jvm.hb hby d2_47) hr))))))), hrun, hended, _, _, rfl, ?_, (show CHr Z EL0 s.vm s.heap T9.vm T9.heap from by rw [hh, e9]; exact CR9.trans (CHv.at X9 hZ (ew0 hw) CR9.1)), hRW.1, hRW.2.1, hRW.2.2.1, hRW.2.2.2.mono (by decide) (by decide)⟩
    show Q2 Z p1 p2 w_COMPACT_STRINGS h0 n0 _ T9.heap _
    rw [e9]
    exact ⟨b4, b9_x1, rfl, N9, KP9, sz_b4, gb_b4, (own_nea R9_0 (hw _ (List.mem_of_getElem? (i := 8) rfl)) R9_1), R9_0, (by rw [show (f2_u4 p1) = (0 : Int32) from if_pos hc2, show (f2_u5 p1 p2) = (fun _ => 0) from if_pos hc2]; exact R9_1), R9_2, R9_3⟩
  · have K11 : ∀ t, Steps p.tables e below (s₁.setTop (mkF m 48 #[.val (.int p1), .val (.int p2), .val (.int (p1 &&& (3 : Int32))), .val (.int ((p2 &&& (255 : Int32)).toUInt32.toUInt16.toUInt32.toInt32)), .val (.int ((((p2.toUInt32 >>> ((8 : Int32) &&& 31).toUInt32).toInt32) &&& (255 : Int32)).toUInt32.toUInt16.toUInt32.toInt32)), .val (.int ((((p2.toUInt32 >>> ((16 : Int32) &&& 31).toUInt32).toInt32) &&& (255 : Int32)).toUInt32.toUInt16.toUInt32.toInt32))] [])) t → Steps p.tables e below (s₁.setTop (mkF m 34 #[.val (.int p1), .val (.int p2), .val (.int (p1 &&& (3 : Int32))), .val (.int ((p2 &&& (255 : Int32)).toUInt32.toUInt16.toUInt32.toInt32)), .val (.int ((((p2.toUInt32 >>> ((8 : Int32) &&& 31).toUInt32).toInt32) &&& (255 : Int32)).toUInt32.toUInt16.toUInt32.toInt32)), .val (.int ((((p2.toUInt32 >>> ((16 : Int32) &&& 31).toUInt32).toInt32) &&& (255 : Int32)).toUInt32.toUInt16.toUInt32.toInt32))] [(.int (p1 &&& (3 : Int32)))])) t := by
      intro t k
      refine XS.ifYes X0.here hx rfl (pc0 := 34) (pc' := 48) rfl (Jvm.hb hby d2_34) rfl ((if0 _ _).trans (feq hc2).2) (by decide) (by decide) ?_
      exact k
    have K12 : ∀ t, Steps p.tables e below (s₁.setTop (mkF m 50 #[.val (.int p1), .val (.int p2), .val (.int (p1 &&& (3 : Int32))), .val (.int ((p2 &&& (255 : Int32)).toUInt32.toUInt16.toUInt32.toInt32)), .val (.int ((((p2.toUInt32 >>> ((8 : Int32) &&& 31).toUInt32).toInt32) &&& (255 : Int32)).toUInt32.toUInt16.toUInt32.toInt32)), .val (.int ((((p2.toUInt32 >>> ((16 : Int32) &&& 31).toUInt32).toInt32) &&& (255 : Int32)).toUInt32.toUInt16.toUInt32.toInt32))] [(.int (1 : Int32)), (.int (p1 &&& (3 : Int32)))])) t → Steps p.tables e below (s₁.setTop (mkF m 48 #[.val (.int p1), .val (.int p2), .val (.int (p1 &&& (3 : Int32))), .val (.int ((p2 &&& (255 : Int32)).toUInt32.toUInt16.toUInt32.toInt32)), .val (.int ((((p2.toUInt32 >>> ((8 : Int32) &&& 31).toUInt32).toInt32) &&& (255 : Int32)).toUInt32.toUInt16.toUInt32.toInt32)), .val (.int ((((p2.toUInt32 >>> ((16 : Int32) &&& 31).toUInt32).toInt32) &&& (255 : Int32)).toUInt32.toUInt16.toUInt32.toInt32))] [])) t := by
      intro t k
      refine XS.iloadN X0.here hx rfl (Jvm.hb hby d2_48) rfl ?_
      show Steps p.tables e below (s₁.setTop (mkF m 49 #[.val (.int p1), .val (.int p2), .val (.int (p1 &&& (3 : Int32))), .val (.int ((p2 &&& (255 : Int32)).toUInt32.toUInt16.toUInt32.toInt32)), .val (.int ((((p2.toUInt32 >>> ((8 : Int32) &&& 31).toUInt32).toInt32) &&& (255 : Int32)).toUInt32.toUInt16.toUInt32.toInt32)), .val (.int ((((p2.toUInt32 >>> ((16 : Int32) &&& 31).toUInt32).toInt32) &&& (255 : Int32)).toUInt32.toUInt16.toUInt32.toInt32))] [(.int (p1 &&& (3 : Int32)))])) t
      refine XS.iconst X0.here hx rfl (Jvm.hb hby d2_49) ?_
      show Steps p.tables e below (s₁.setTop (mkF m 50 #[.val (.int p1), .val (.int p2), .val (.int (p1 &&& (3 : Int32))), .val (.int ((p2 &&& (255 : Int32)).toUInt32.toUInt16.toUInt32.toInt32)), .val (.int ((((p2.toUInt32 >>> ((8 : Int32) &&& 31).toUInt32).toInt32) &&& (255 : Int32)).toUInt32.toUInt16.toUInt32.toInt32)), .val (.int ((((p2.toUInt32 >>> ((16 : Int32) &&& 31).toUInt32).toInt32) &&& (255 : Int32)).toUInt32.toUInt16.toUInt32.toInt32))] [(.int (1 : Int32)), (.int (p1 &&& (3 : Int32)))])) t
      exact k
    by_cases hc13 : (p1 &&& (3 : Int32)) = (1 : Int32)
    · have K14 : ∀ t, Steps p.tables e below (s₁.setTop (mkF m 53 #[.val (.int p1), .val (.int p2), .val (.int (p1 &&& (3 : Int32))), .val (.int ((p2 &&& (255 : Int32)).toUInt32.toUInt16.toUInt32.toInt32)), .val (.int ((((p2.toUInt32 >>> ((8 : Int32) &&& 31).toUInt32).toInt32) &&& (255 : Int32)).toUInt32.toUInt16.toUInt32.toInt32)), .val (.int ((((p2.toUInt32 >>> ((16 : Int32) &&& 31).toUInt32).toInt32) &&& (255 : Int32)).toUInt32.toUInt16.toUInt32.toInt32))] [])) t → Steps p.tables e below (s₁.setTop (mkF m 50 #[.val (.int p1), .val (.int p2), .val (.int (p1 &&& (3 : Int32))), .val (.int ((p2 &&& (255 : Int32)).toUInt32.toUInt16.toUInt32.toInt32)), .val (.int ((((p2.toUInt32 >>> ((8 : Int32) &&& 31).toUInt32).toInt32) &&& (255 : Int32)).toUInt32.toUInt16.toUInt32.toInt32)), .val (.int ((((p2.toUInt32 >>> ((16 : Int32) &&& 31).toUInt32).toInt32) &&& (255 : Int32)).toUInt32.toUInt16.toUInt32.toInt32))] [(.int (1 : Int32)), (.int (p1 &&& (3 : Int32)))])) t := by
        intro t k
        refine XS.icmpNo X0.here hx rfl (Jvm.hb hby d2_50) rfl (teq hc13).2 ?_
        exact k
      obtain ⟨T15, h15, X15, e15, E15, A15, D15, -, st15⟩ := newO X0 hx hZ hown (hw _ (List.mem_of_getElem? (i := 7) rfl)) (hw _ (List.mem_of_getElem? (i := 8) rfl)) (hw _ (List.mem_of_getElem? (i := 9) rfl)) e0 (g := (mkF m 53 #[.val (.int p1), .val (.int p2), .val (.int (p1 &&& (3 : Int32))), .val (.int ((p2 &&& (255 : Int32)).toUInt32.toUInt16.toUInt32.toInt32)), .val (.int ((((p2.toUInt32 >>> ((8 : Int32) &&& 31).toUInt32).toInt32) &&& (255 : Int32)).toUInt32.toUInt16.toUInt32.toInt32)), .val (.int ((((p2.toUInt32 >>> ((16 : Int32) &&& 31).toUInt32).toInt32) &&& (255 : Int32)).toUInt32.toUInt16.toUInt32.toInt32))] [])) rfl (Jvm.hb hby d2_53) (by decide) (by decide)
      obtain ⟨b15, g15⟩ : ∃ z, z = h0.size := ⟨_, rfl⟩
      rw [← g15] at A15 D15 st15
      have KP15 : Keep h0 h15 [] := (Keep.refl h0 []).ext E15
      have CR15 : CHr Z EL0 s.vm h0 vm0 h15 := CR0.trans (CHr.ext E15 CR0.1)
      have SK15 := Nat.le_trans (Nat.le_refl h0.size) E15.1
      have gb_b15 : n0 ≤ b15 := Nat.le_trans Z0 (Nat.le_of_eq g15.symm)
      have sz_b15 : h0.size ≤ b15 := Nat.le_trans (Keep.refl h0 []).1 (Nat.le_of_eq g15.symm)
      have F15_coder : Fld Z h15 b15 "java/lang/String" "coder" "B" (.int (0 : Int32)) := D15 (Or.inr (hw _ (List.mem_of_getElem? (i := 34) rfl))) (ty := .byte) (by decide)
      have F15_value : Fld Z h15 b15 "java/lang/String" "value" "[B" .null := D15 (Or.inr (hw _ (List.mem_of_getElem? (i := 36) rfl))) (ty := (.array .byte)) (by decide)
      have K16 : ∀ t, Steps p.tables e below (T15.setTop (mkF m 56 #[.val (.int p1), .val (.int p2), .val (.int (p1 &&& (3 : Int32))), .val (.int ((p2 &&& (255 : Int32)).toUInt32.toUInt16.toUInt32.toInt32)), .val (.int ((((p2.toUInt32 >>> ((8 : Int32) &&& 31).toUInt32).toInt32) &&& (255 : Int32)).toUInt32.toUInt16.toUInt32.toInt32)), .val (.int ((((p2.toUInt32 >>> ((16 : Int32) &&& 31).toUInt32).toInt32) &&& (255 : Int32)).toUInt32.toUInt16.toUInt32.toInt32))] [(.ref b15)])) t → Steps p.tables e below (s₁.setTop (mkF m 53 #[.val (.int p1), .val (.int p2), .val (.int (p1 &&& (3 : Int32))), .val (.int ((p2 &&& (255 : Int32)).toUInt32.toUInt16.toUInt32.toInt32)), .val (.int ((((p2.toUInt32 >>> ((8 : Int32) &&& 31).toUInt32).toInt32) &&& (255 : Int32)).toUInt32.toUInt16.toUInt32.toInt32)), .val (.int ((((p2.toUInt32 >>> ((16 : Int32) &&& 31).toUInt32).toInt32) &&& (255 : Int32)).toUInt32.toUInt16.toUInt32.toInt32))] [])) t := fun t k => st15 _ k
      have K17 : ∀ t, Steps p.tables e below (T15.setTop (mkF m 58 #[.val (.int p1), .val (.int p2), .val (.int (p1 &&& (3 : Int32))), .val (.int ((p2 &&& (255 : Int32)).toUInt32.toUInt16.toUInt32.toInt32)), .val (.int ((((p2.toUInt32 >>> ((8 : Int32) &&& 31).toUInt32).toInt32) &&& (255 : Int32)).toUInt32.toUInt16.toUInt32.toInt32)), .val (.int ((((p2.toUInt32 >>> ((16 : Int32) &&& 31).toUInt32).toInt32) &&& (255 : Int32)).toUInt32.toUInt16.toUInt32.toInt32))] [(.int (1 : Int32)), (.ref b15), (.ref b15)])) t → Steps p.tables e below (T15.setTop (mkF m 56 #[.val (.int p1), .val (.int p2), .val (.int (p1 &&& (3 : Int32))), .val (.int ((p2 &&& (255 : Int32)).toUInt32.toUInt16.toUInt32.toInt32)), .val (.int ((((p2.toUInt32 >>> ((8 : Int32) &&& 31).toUInt32).toInt32) &&& (255 : Int32)).toUInt32.toUInt16.toUInt32.toInt32)), .val (.int ((((p2.toUInt32 >>> ((16 : Int32) &&& 31).toUInt32).toInt32) &&& (255 : Int32)).toUInt32.toUInt16.toUInt32.toInt32))] [(.ref b15)])) t := by
        intro t k
        refine XS.dup X15.here hx rfl (Jvm.hb hby d2_56) rfl rfl ?_
        show Steps p.tables e below (T15.setTop (mkF m 57 #[.val (.int p1), .val (.int p2), .val (.int (p1 &&& (3 : Int32))), .val (.int ((p2 &&& (255 : Int32)).toUInt32.toUInt16.toUInt32.toInt32)), .val (.int ((((p2.toUInt32 >>> ((8 : Int32) &&& 31).toUInt32).toInt32) &&& (255 : Int32)).toUInt32.toUInt16.toUInt32.toInt32)), .val (.int ((((p2.toUInt32 >>> ((16 : Int32) &&& 31).toUInt32).toInt32) &&& (255 : Int32)).toUInt32.toUInt16.toUInt32.toInt32))] [(.ref b15), (.ref b15)])) t
        refine XS.iconst X15.here hx rfl (Jvm.hb hby d2_57) ?_
        show Steps p.tables e below (T15.setTop (mkF m 58 #[.val (.int p1), .val (.int p2), .val (.int (p1 &&& (3 : Int32))), .val (.int ((p2 &&& (255 : Int32)).toUInt32.toUInt16.toUInt32.toInt32)), .val (.int ((((p2.toUInt32 >>> ((8 : Int32) &&& 31).toUInt32).toInt32) &&& (255 : Int32)).toUInt32.toUInt16.toUInt32.toInt32)), .val (.int ((((p2.toUInt32 >>> ((16 : Int32) &&& 31).toUInt32).toInt32) &&& (255 : Int32)).toUInt32.toUInt16.toUInt32.toInt32))] [(.int (1 : Int32)), (.ref b15), (.ref b15)])) t
        exact k
      obtain ⟨T18, h18, k18, X18, e18, E18, A18, st18⟩ := newP X15 hx hZ (hw _ (List.mem_of_getElem? (i := 10) rfl)) e15 (g := (mkF m 58 #[.val (.int p1), .val (.int p2), .val (.int (p1 &&& (3 : Int32))), .val (.int ((p2 &&& (255 : Int32)).toUInt32.toUInt16.toUInt32.toInt32)), .val (.int ((((p2.toUInt32 >>> ((8 : Int32) &&& 31).toUInt32).toInt32) &&& (255 : Int32)).toUInt32.toUInt16.toUInt32.toInt32)), .val (.int ((((p2.toUInt32 >>> ((16 : Int32) &&& 31).toUInt32).toInt32) &&& (255 : Int32)).toUInt32.toUInt16.toUInt32.toInt32))] [(.int (1 : Int32)), (.ref b15), (.ref b15)])) rfl (Jvm.hb hby d2_58) rfl (by decide) (cap := 1) (by decide) (by decide) (by decide) (by decide)
      obtain ⟨b18, g18⟩ : ∃ z, z = h15.size := ⟨_, rfl⟩
      rw [← g18] at A18 st18
      have KP18 : Keep h0 h18 [] := KP15.ext E18
      have E18_1 : Exa Z h18 b15 "java/lang/String" := A15.ext E18
      have F18_2 : Fld Z h18 b15 "java/lang/String" "coder" "B" (.int (0 : Int32)) := F15_coder.ext E18
      have F18_3 : Fld Z h18 b15 "java/lang/String" "value" "[B" .null := F15_value.ext E18
      have CR18 : CHr Z EL0 s.vm h0 vm0 h18 := CR15.trans (CHr.ext E18 CR15.1)
      have SK18 := Nat.le_trans SK15 E18.1
      have ne18_0 : b15 ≠ b18 := Nat.ne_of_lt (Nat.lt_of_lt_of_le A15.lt (Nat.le_of_eq g18.symm))
      have gb_b18 : n0 ≤ b18 := Nat.le_trans (Nat.le_trans Z0 KP15.1) (Nat.le_of_eq g18.symm)
      have sz_b18 : h0.size ≤ b18 := Nat.le_trans KP15.1 (Nat.le_of_eq g18.symm)
      have V18 : Ia Z h18 b18 .char (1 : Int32) (fun _ => 0) := Ia.new A18 (by decide) rfl
      have K19 : ∀ t, Steps p.tables e below (T18.setTop (mkF m 60 #[.val (.int p1), .val (.int p2), .val (.int (p1 &&& (3 : Int32))), .val (.int ((p2 &&& (255 : Int32)).toUInt32.toUInt16.toUInt32.toInt32)), .val (.int ((((p2.toUInt32 >>> ((8 : Int32) &&& 31).toUInt32).toInt32) &&& (255 : Int32)).toUInt32.toUInt16.toUInt32.toInt32)), .val (.int ((((p2.toUInt32 >>> ((16 : Int32) &&& 31).toUInt32).toInt32) &&& (255 : Int32)).toUInt32.toUInt16.toUInt32.toInt32))] [(.ref b18), (.ref b15), (.ref b15)])) t → Steps p.tables e below (T15.setTop (mkF m 58 #[.val (.int p1), .val (.int p2), .val (.int (p1 &&& (3 : Int32))), .val (.int ((p2 &&& (255 : Int32)).toUInt32.toUInt16.toUInt32.toInt32)), .val (.int ((((p2.toUInt32 >>> ((8 : Int32) &&& 31).toUInt32).toInt32) &&& (255 : Int32)).toUInt32.toUInt16.toUInt32.toInt32)), .val (.int ((((p2.toUInt32 >>> ((16 : Int32) &&& 31).toUInt32).toInt32) &&& (255 : Int32)).toUInt32.toUInt16.toUInt32.toInt32))] [(.int (1 : Int32)), (.ref b15), (.ref b15)])) t := fun t k => st18 _ k
      have K20 : ∀ t, Steps p.tables e below (T18.setTop (mkF m 63 #[.val (.int p1), .val (.int p2), .val (.int (p1 &&& (3 : Int32))), .val (.int ((p2 &&& (255 : Int32)).toUInt32.toUInt16.toUInt32.toInt32)), .val (.int ((((p2.toUInt32 >>> ((8 : Int32) &&& 31).toUInt32).toInt32) &&& (255 : Int32)).toUInt32.toUInt16.toUInt32.toInt32)), .val (.int ((((p2.toUInt32 >>> ((16 : Int32) &&& 31).toUInt32).toInt32) &&& (255 : Int32)).toUInt32.toUInt16.toUInt32.toInt32))] [(.int ((p2 &&& (255 : Int32)).toUInt32.toUInt16.toUInt32.toInt32)), (.int (0 : Int32)), (.ref b18), (.ref b18), (.ref b15), (.ref b15)])) t → Steps p.tables e below (T18.setTop (mkF m 60 #[.val (.int p1), .val (.int p2), .val (.int (p1 &&& (3 : Int32))), .val (.int ((p2 &&& (255 : Int32)).toUInt32.toUInt16.toUInt32.toInt32)), .val (.int ((((p2.toUInt32 >>> ((8 : Int32) &&& 31).toUInt32).toInt32) &&& (255 : Int32)).toUInt32.toUInt16.toUInt32.toInt32)), .val (.int ((((p2.toUInt32 >>> ((16 : Int32) &&& 31).toUInt32).toInt32) &&& (255 : Int32)).toUInt32.toUInt16.toUInt32.toInt32))] [(.ref b18), (.ref b15), (.ref b15)])) t := by
        intro t k
        refine XS.dup X18.here hx rfl (Jvm.hb hby d2_60) rfl rfl ?_
        show Steps p.tables e below (T18.setTop (mkF m 61 #[.val (.int p1), .val (.int p2), .val (.int (p1 &&& (3 : Int32))), .val (.int ((p2 &&& (255 : Int32)).toUInt32.toUInt16.toUInt32.toInt32)), .val (.int ((((p2.toUInt32 >>> ((8 : Int32) &&& 31).toUInt32).toInt32) &&& (255 : Int32)).toUInt32.toUInt16.toUInt32.toInt32)), .val (.int ((((p2.toUInt32 >>> ((16 : Int32) &&& 31).toUInt32).toInt32) &&& (255 : Int32)).toUInt32.toUInt16.toUInt32.toInt32))] [(.ref b18), (.ref b18), (.ref b15), (.ref b15)])) t
        refine XS.iconst X18.here hx rfl (Jvm.hb hby d2_61) ?_
        show Steps p.tables e below (T18.setTop (mkF m 62 #[.val (.int p1), .val (.int p2), .val (.int (p1 &&& (3 : Int32))), .val (.int ((p2 &&& (255 : Int32)).toUInt32.toUInt16.toUInt32.toInt32)), .val (.int ((((p2.toUInt32 >>> ((8 : Int32) &&& 31).toUInt32).toInt32) &&& (255 : Int32)).toUInt32.toUInt16.toUInt32.toInt32)), .val (.int ((((p2.toUInt32 >>> ((16 : Int32) &&& 31).toUInt32).toInt32) &&& (255 : Int32)).toUInt32.toUInt16.toUInt32.toInt32))] [(.int (0 : Int32)), (.ref b18), (.ref b18), (.ref b15), (.ref b15)])) t
        refine XS.iloadN X18.here hx rfl (Jvm.hb hby d2_62) rfl ?_
        show Steps p.tables e below (T18.setTop (mkF m 63 #[.val (.int p1), .val (.int p2), .val (.int (p1 &&& (3 : Int32))), .val (.int ((p2 &&& (255 : Int32)).toUInt32.toUInt16.toUInt32.toInt32)), .val (.int ((((p2.toUInt32 >>> ((8 : Int32) &&& 31).toUInt32).toInt32) &&& (255 : Int32)).toUInt32.toUInt16.toUInt32.toInt32)), .val (.int ((((p2.toUInt32 >>> ((16 : Int32) &&& 31).toUInt32).toInt32) &&& (255 : Int32)).toUInt32.toUInt16.toUInt32.toInt32))] [(.int ((p2 &&& (255 : Int32)).toUInt32.toUInt16.toUInt32.toInt32)), (.int (0 : Int32)), (.ref b18), (.ref b18), (.ref b15), (.ref b15)])) t
        exact k
      have hin21 : ¬ (0 : Int32) < 0 ∧ (0 : Int32) < (1 : Int32) := by exact ⟨by decide, by decide⟩
      obtain ⟨cl21, Aq21, hj21, aq21⟩ := Ia.at V18 hin21
      obtain ⟨T21, h21, X21, e21, W21, st21⟩ := stC X18 hx hZ e18 Aq21 (j := (0 : Int32)) hj21 (g := (mkF m 63 #[.val (.int p1), .val (.int p2), .val (.int (p1 &&& (3 : Int32))), .val (.int ((p2 &&& (255 : Int32)).toUInt32.toUInt16.toUInt32.toInt32)), .val (.int ((((p2.toUInt32 >>> ((8 : Int32) &&& 31).toUInt32).toInt32) &&& (255 : Int32)).toUInt32.toUInt16.toUInt32.toInt32)), .val (.int ((((p2.toUInt32 >>> ((16 : Int32) &&& 31).toUInt32).toInt32) &&& (255 : Int32)).toUInt32.toUInt16.toUInt32.toInt32))] [(.int ((p2 &&& (255 : Int32)).toUInt32.toUInt16.toUInt32.toInt32)), (.int (0 : Int32)), (.ref b18), (.ref b18), (.ref b15), (.ref b15)])) rfl rfl (Jvm.hb hby d2_63)
      have KP21 : Keep h0 h21 [] := KP18.wr W21 (Or.inr sz_b18)
      have N21 := Fr.snoc X21 N0 gb_b18
      have E21_1 : Exa Z h21 b15 "java/lang/String" := E18_1.wr W21
      have F21_2 : Fld Z h21 b15 "java/lang/String" "coder" "B" (.int (0 : Int32)) := F18_2.other W21 (Or.inl ne18_0)
      have F21_3 : Fld Z h21 b15 "java/lang/String" "value" "[B" .null := F18_3.other W21 (Or.inl ne18_0)
      have CR21 : CHr Z EL0 s.vm h0 vm0 h21 := CR18.trans (CHr.wr W21 (own_safeA hZ.alike V18 (by decide)) CR18.1)
      have SK21 := Nat.le_trans SK18 (own_wrsz W21)
      have Aw21 : Ia Z h21 b18 .char (1 : Int32) (f2_u1 p2) := V18.set W21 hin21.1
      have K22 : ∀ t, Steps p.tables e below (T21.setTop (mkF m 64 #[.val (.int p1), .val (.int p2), .val (.int (p1 &&& (3 : Int32))), .val (.int ((p2 &&& (255 : Int32)).toUInt32.toUInt16.toUInt32.toInt32)), .val (.int ((((p2.toUInt32 >>> ((8 : Int32) &&& 31).toUInt32).toInt32) &&& (255 : Int32)).toUInt32.toUInt16.toUInt32.toInt32)), .val (.int ((((p2.toUInt32 >>> ((16 : Int32) &&& 31).toUInt32).toInt32) &&& (255 : Int32)).toUInt32.toUInt16.toUInt32.toInt32))] [(.ref b18), (.ref b15), (.ref b15)])) t → Steps p.tables e below (T18.setTop (mkF m 63 #[.val (.int p1), .val (.int p2), .val (.int (p1 &&& (3 : Int32))), .val (.int ((p2 &&& (255 : Int32)).toUInt32.toUInt16.toUInt32.toInt32)), .val (.int ((((p2.toUInt32 >>> ((8 : Int32) &&& 31).toUInt32).toInt32) &&& (255 : Int32)).toUInt32.toUInt16.toUInt32.toInt32)), .val (.int ((((p2.toUInt32 >>> ((16 : Int32) &&& 31).toUInt32).toInt32) &&& (255 : Int32)).toUInt32.toUInt16.toUInt32.toInt32))] [(.int ((p2 &&& (255 : Int32)).toUInt32.toUInt16.toUInt32.toInt32)), (.int (0 : Int32)), (.ref b18), (.ref b18), (.ref b15), (.ref b15)])) t := fun t k => st21 _ k
      obtain ⟨_, _, ⟨T23, L23, k23, n23⟩, -, X23, ⟨Lc23, hQ23, l23, y23, z23⟩, st23⟩ := X21.specialBack hx (y := (⟨"java/lang/String", "<init>", "([C)V"⟩ : MethodName)) rfl hown (mvT hZ (hw _ (List.mem_of_getElem? (i := 11) rfl))) (mvT hZ (hw _ (List.mem_of_getElem? (i := 12) rfl))) (mvT hZ (hw _ (List.mem_of_getElem? (i := 13) rfl))) (by decide) (backOf (W := 1) (rm3 l Z a0 hw [] b15 b18 (1 : Int32) (f2_u1 p2) w_COMPACT_STRINGS (.int (0 : Int32)) .null h21 n0 (Nat.le_trans Z0 KP21.1) (by decide) (by decide) (fun j _ _ => (own_chs _ _ _ (fun _ => by decide) (own_lb _)) j) hcs Aw21 (S_COMPACT_STRINGS.ext (own_ext KP21)) E21_1 F21_2 F21_3 gb_b15) hZ (hw _ (List.mem_of_getElem? (i := 13) rfl)) (hw _ (List.mem_of_getElem? (i := 9) rfl)) (by decide) (by decide)) (g := (mkF m 64 #[.val (.int p1), .val (.int p2), .val (.int (p1 &&& (3 : Int32))), .val (.int ((p2 &&& (255 : Int32)).toUInt32.toUInt16.toUInt32.toInt32)), .val (.int ((((p2.toUInt32 >>> ((8 : Int32) &&& 31).toUInt32).toInt32) &&& (255 : Int32)).toUInt32.toUInt16.toUInt32.toInt32)), .val (.int ((((p2.toUInt32 >>> ((16 : Int32) &&& 31).toUInt32).toInt32) &&& (255 : Int32)).toUInt32.toUInt16.toUInt32.toInt32))] [(.ref b18), (.ref b15), (.ref b15)])) rfl (by rw [hml]; rfl) (Steps.refl _) (a := b15) (argsL := [(.ref b18)]) (rest := [(.ref b15)]) (lenOf pd_2 rfl) rfl (by show 2 * 0 + _ ≤ _; exact Nat.le_of_eq rfl) (Jvm.hb hby d2_64) (fun _ _ => ⟨rfl, e21, (by decide : 2 + 1 ≤ _), (by decide : 5 + 3 ≤ _)⟩)
      dsimp only [Pt.U, Pt.locs, Pt.cells, Pt.slots] at X23 l23 y23 z23 st23 hQ23
      subst l23 y23 z23
      obtain ⟨h23, e23⟩ : ∃ z, T23.heap = z := ⟨_, rfl⟩
      rw [e23] at hQ23
      obtain ⟨b23_x1, rfl, N23q, Kq23, szq_b23_x1, gb_b23_x1, R23_0, R23_1, R23_2, R23_3⟩ := hQ23
      have N23 := Fr.app N21 N23q
      have KP23 : Keep h0 h23 [] := KP21.trans Kq23 (allS (Or.inr sz_b15) all0)
      have A23_1 : Ia Z h23 b18 .char (1 : Int32) (f2_u1 p2) := Aw21.keep Kq23 (ninS (Ne.symm ne18_0) nin0)
      have CR23 : CHr Z EL0 s.vm h0 vm0 h23 := CR21.trans (CHr.keep Kq23 (allS (own_safe hZ.alike E21_1 F21_3) all0) CR21.1)
      have SK23 := Nat.le_trans SK21 Kq23.1
      have ne23_x1_2 : b15 ≠ b23_x1 := Nat.ne_of_lt (Nat.lt_of_lt_of_le E21_1.lt szq_b23_x1)
      have ne23_x1_4 : b18 ≠ b23_x1 := Nat.ne_of_lt (Nat.lt_of_lt_of_le Aw21.lt szq_b23_x1)
      have sz_b23_x1 : h0.size ≤ b23_x1 := Nat.le_trans KP21.1 szq_b23_x1
      have K24 : ∀ t, Steps p.tables e below (T23.setTop (mkF m 67 #[.val (.int p1), .val (.int p2), .val (.int (p1 &&& (3 : Int32))), .val (.int ((p2 &&& (255 : Int32)).toUInt32.toUInt16.toUInt32.toInt32)), .val (.int ((((p2.toUInt32 >>> ((8 : Int32) &&& 31).toUInt32).toInt32) &&& (255 : Int32)).toUInt32.toUInt16.toUInt32.toInt32)), .val (.int ((((p2.toUInt32 >>> ((16 : Int32) &&& 31).toUInt32).toInt32) &&& (255 : Int32)).toUInt32.toUInt16.toUInt32.toInt32))] [(.ref b15)])) t → Steps p.tables e below (T21.setTop (mkF m 64 #[.val (.int p1), .val (.int p2), .val (.int (p1 &&& (3 : Int32))), .val (.int ((p2 &&& (255 : Int32)).toUInt32.toUInt16.toUInt32.toInt32)), .val (.int ((((p2.toUInt32 >>> ((8 : Int32) &&& 31).toUInt32).toInt32) &&& (255 : Int32)).toUInt32.toUInt16.toUInt32.toInt32)), .val (.int ((((p2.toUInt32 >>> ((16 : Int32) &&& 31).toUInt32).toInt32) &&& (255 : Int32)).toUInt32.toUInt16.toUInt32.toInt32))] [(.ref b18), (.ref b15), (.ref b15)])) t := fun t k => st23.trans k
      obtain ⟨fs, hr, hrun, hended, hRW⟩ := X23.leaveW hS (show _ ≤ T23.heap.size from (by rw [e23]; exact SK23)) (v := some (.ref b15)) (fun h => by rw [Bd.returns] at h; cases h) Bd.notSynchronized
      refine ⟨_, _, pre0 _ (K1 _ (K11 _ (K12 _ (K14 _ (K16 _ (K17 _ (K19 _ (K20 _ (K22 _ (K24 _ (retOut X23 hx Bd.returns rfl (Or.inr (Or.inr (Or.inr (Or.inr ⟨rfl, rfl, rfl⟩)))) (Jvm.hb hby d2_67) hr))))))))))), hrun, hended, _, _, rfl, ?_, (show CHr Z EL0 s.vm s.heap T23.vm T23.heap from by rw [hh, e23]; exact CR23.trans (CHv.at X23 hZ (ew0 hw) CR23.1)), hRW.1, hRW.2.1, hRW.2.2.1, hRW.2.2.2.mono (by decide) (by decide)⟩
      show Q2 Z p1 p2 w_COMPACT_STRINGS h0 n0 _ T23.heap _
      rw [e23]
      exact ⟨b15, b23_x1, rfl, N23, KP23, sz_b15, gb_b15, ne23_x1_2, R23_0, (by rw [show (f2_u4 p1) = (1 : Int32) from (if_neg hc2).trans (if_pos hc13), show (f2_u5 p1 p2) = (f7_G_a30 (1 : Int32) (f2_u1 p2) (fun _ => 0)) from (if_neg hc2).trans (if_pos hc13)]; exact R23_1), R23_3, R23_2⟩
    · have K25 : ∀ t, Steps p.tables e below (s₁.setTop (mkF m 68 #[.val (.int p1), .val (.int p2), .val (.int (p1 &&& (3 : Int32))), .val (.int ((p2 &&& (255 : Int32)).toUInt32.toUInt16.toUInt32.toInt32)), .val (.int ((((p2.toUInt32 >>> ((8 : Int32) &&& 31).toUInt32).toInt32) &&& (255 : Int32)).toUInt32.toUInt16.toUInt32.toInt32)), .val (.int ((((p2.toUInt32 >>> ((16 : Int32) &&& 31).toUInt32).toInt32) &&& (255 : Int32)).toUInt32.toUInt16.toUInt32.toInt32))] [])) t → Steps p.tables e below (s₁.setTop (mkF m 50 #[.val (.int p1), .val (.int p2), .val (.int (p1 &&& (3 : Int32))), .val (.int ((p2 &&& (255 : Int32)).toUInt32.toUInt16.toUInt32.toInt32)), .val (.int ((((p2.toUInt32 >>> ((8 : Int32) &&& 31).toUInt32).toInt32) &&& (255 : Int32)).toUInt32.toUInt16.toUInt32.toInt32)), .val (.int ((((p2.toUInt32 >>> ((16 : Int32) &&& 31).toUInt32).toInt32) &&& (255 : Int32)).toUInt32.toUInt16.toUInt32.toInt32))] [(.int (1 : Int32)), (.int (p1 &&& (3 : Int32)))])) t := by
        intro t k
        refine XS.icmpYes X0.here hx rfl (pc0 := 50) (pc' := 68) rfl (Jvm.hb hby d2_50) rfl (feq hc13).2 (by decide) (by decide) ?_
        exact k
      have K26 : ∀ t, Steps p.tables e below (s₁.setTop (mkF m 70 #[.val (.int p1), .val (.int p2), .val (.int (p1 &&& (3 : Int32))), .val (.int ((p2 &&& (255 : Int32)).toUInt32.toUInt16.toUInt32.toInt32)), .val (.int ((((p2.toUInt32 >>> ((8 : Int32) &&& 31).toUInt32).toInt32) &&& (255 : Int32)).toUInt32.toUInt16.toUInt32.toInt32)), .val (.int ((((p2.toUInt32 >>> ((16 : Int32) &&& 31).toUInt32).toInt32) &&& (255 : Int32)).toUInt32.toUInt16.toUInt32.toInt32))] [(.int (2 : Int32)), (.int (p1 &&& (3 : Int32)))])) t → Steps p.tables e below (s₁.setTop (mkF m 68 #[.val (.int p1), .val (.int p2), .val (.int (p1 &&& (3 : Int32))), .val (.int ((p2 &&& (255 : Int32)).toUInt32.toUInt16.toUInt32.toInt32)), .val (.int ((((p2.toUInt32 >>> ((8 : Int32) &&& 31).toUInt32).toInt32) &&& (255 : Int32)).toUInt32.toUInt16.toUInt32.toInt32)), .val (.int ((((p2.toUInt32 >>> ((16 : Int32) &&& 31).toUInt32).toInt32) &&& (255 : Int32)).toUInt32.toUInt16.toUInt32.toInt32))] [])) t := by
        intro t k
        refine XS.iloadN X0.here hx rfl (Jvm.hb hby d2_68) rfl ?_
        show Steps p.tables e below (s₁.setTop (mkF m 69 #[.val (.int p1), .val (.int p2), .val (.int (p1 &&& (3 : Int32))), .val (.int ((p2 &&& (255 : Int32)).toUInt32.toUInt16.toUInt32.toInt32)), .val (.int ((((p2.toUInt32 >>> ((8 : Int32) &&& 31).toUInt32).toInt32) &&& (255 : Int32)).toUInt32.toUInt16.toUInt32.toInt32)), .val (.int ((((p2.toUInt32 >>> ((16 : Int32) &&& 31).toUInt32).toInt32) &&& (255 : Int32)).toUInt32.toUInt16.toUInt32.toInt32))] [(.int (p1 &&& (3 : Int32)))])) t
        refine XS.iconst X0.here hx rfl (Jvm.hb hby d2_69) ?_
        show Steps p.tables e below (s₁.setTop (mkF m 70 #[.val (.int p1), .val (.int p2), .val (.int (p1 &&& (3 : Int32))), .val (.int ((p2 &&& (255 : Int32)).toUInt32.toUInt16.toUInt32.toInt32)), .val (.int ((((p2.toUInt32 >>> ((8 : Int32) &&& 31).toUInt32).toInt32) &&& (255 : Int32)).toUInt32.toUInt16.toUInt32.toInt32)), .val (.int ((((p2.toUInt32 >>> ((16 : Int32) &&& 31).toUInt32).toInt32) &&& (255 : Int32)).toUInt32.toUInt16.toUInt32.toInt32))] [(.int (2 : Int32)), (.int (p1 &&& (3 : Int32)))])) t
        exact k
      by_cases hc27 : (p1 &&& (3 : Int32)) = (2 : Int32)
      · have K28 : ∀ t, Steps p.tables e below (s₁.setTop (mkF m 73 #[.val (.int p1), .val (.int p2), .val (.int (p1 &&& (3 : Int32))), .val (.int ((p2 &&& (255 : Int32)).toUInt32.toUInt16.toUInt32.toInt32)), .val (.int ((((p2.toUInt32 >>> ((8 : Int32) &&& 31).toUInt32).toInt32) &&& (255 : Int32)).toUInt32.toUInt16.toUInt32.toInt32)), .val (.int ((((p2.toUInt32 >>> ((16 : Int32) &&& 31).toUInt32).toInt32) &&& (255 : Int32)).toUInt32.toUInt16.toUInt32.toInt32))] [])) t → Steps p.tables e below (s₁.setTop (mkF m 70 #[.val (.int p1), .val (.int p2), .val (.int (p1 &&& (3 : Int32))), .val (.int ((p2 &&& (255 : Int32)).toUInt32.toUInt16.toUInt32.toInt32)), .val (.int ((((p2.toUInt32 >>> ((8 : Int32) &&& 31).toUInt32).toInt32) &&& (255 : Int32)).toUInt32.toUInt16.toUInt32.toInt32)), .val (.int ((((p2.toUInt32 >>> ((16 : Int32) &&& 31).toUInt32).toInt32) &&& (255 : Int32)).toUInt32.toUInt16.toUInt32.toInt32))] [(.int (2 : Int32)), (.int (p1 &&& (3 : Int32)))])) t := by
          intro t k
          refine XS.icmpNo X0.here hx rfl (Jvm.hb hby d2_70) rfl (teq hc27).2 ?_
          exact k
        obtain ⟨T29, h29, X29, e29, E29, A29, D29, -, st29⟩ := newO X0 hx hZ hown (hw _ (List.mem_of_getElem? (i := 7) rfl)) (hw _ (List.mem_of_getElem? (i := 8) rfl)) (hw _ (List.mem_of_getElem? (i := 9) rfl)) e0 (g := (mkF m 73 #[.val (.int p1), .val (.int p2), .val (.int (p1 &&& (3 : Int32))), .val (.int ((p2 &&& (255 : Int32)).toUInt32.toUInt16.toUInt32.toInt32)), .val (.int ((((p2.toUInt32 >>> ((8 : Int32) &&& 31).toUInt32).toInt32) &&& (255 : Int32)).toUInt32.toUInt16.toUInt32.toInt32)), .val (.int ((((p2.toUInt32 >>> ((16 : Int32) &&& 31).toUInt32).toInt32) &&& (255 : Int32)).toUInt32.toUInt16.toUInt32.toInt32))] [])) rfl (Jvm.hb hby d2_73) (by decide) (by decide)
        obtain ⟨b29, g29⟩ : ∃ z, z = h0.size := ⟨_, rfl⟩
        rw [← g29] at A29 D29 st29
        have KP29 : Keep h0 h29 [] := (Keep.refl h0 []).ext E29
        have CR29 : CHr Z EL0 s.vm h0 vm0 h29 := CR0.trans (CHr.ext E29 CR0.1)
        have SK29 := Nat.le_trans (Nat.le_refl h0.size) E29.1
        have gb_b29 : n0 ≤ b29 := Nat.le_trans Z0 (Nat.le_of_eq g29.symm)
        have sz_b29 : h0.size ≤ b29 := Nat.le_trans (Keep.refl h0 []).1 (Nat.le_of_eq g29.symm)
        have F29_coder : Fld Z h29 b29 "java/lang/String" "coder" "B" (.int (0 : Int32)) := D29 (Or.inr (hw _ (List.mem_of_getElem? (i := 34) rfl))) (ty := .byte) (by decide)
        have F29_value : Fld Z h29 b29 "java/lang/String" "value" "[B" .null := D29 (Or.inr (hw _ (List.mem_of_getElem? (i := 36) rfl))) (ty := (.array .byte)) (by decide)
        have K30 : ∀ t, Steps p.tables e below (T29.setTop (mkF m 76 #[.val (.int p1), .val (.int p2), .val (.int (p1 &&& (3 : Int32))), .val (.int ((p2 &&& (255 : Int32)).toUInt32.toUInt16.toUInt32.toInt32)), .val (.int ((((p2.toUInt32 >>> ((8 : Int32) &&& 31).toUInt32).toInt32) &&& (255 : Int32)).toUInt32.toUInt16.toUInt32.toInt32)), .val (.int ((((p2.toUInt32 >>> ((16 : Int32) &&& 31).toUInt32).toInt32) &&& (255 : Int32)).toUInt32.toUInt16.toUInt32.toInt32))] [(.ref b29)])) t → Steps p.tables e below (s₁.setTop (mkF m 73 #[.val (.int p1), .val (.int p2), .val (.int (p1 &&& (3 : Int32))), .val (.int ((p2 &&& (255 : Int32)).toUInt32.toUInt16.toUInt32.toInt32)), .val (.int ((((p2.toUInt32 >>> ((8 : Int32) &&& 31).toUInt32).toInt32) &&& (255 : Int32)).toUInt32.toUInt16.toUInt32.toInt32)), .val (.int ((((p2.toUInt32 >>> ((16 : Int32) &&& 31).toUInt32).toInt32) &&& (255 : Int32)).toUInt32.toUInt16.toUInt32.toInt32))] [])) t := fun t k => st29 _ k
        have K31 : ∀ t, Steps p.tables e below (T29.setTop (mkF m 78 #[.val (.int p1), .val (.int p2), .val (.int (p1 &&& (3 : Int32))), .val (.int ((p2 &&& (255 : Int32)).toUInt32.toUInt16.toUInt32.toInt32)), .val (.int ((((p2.toUInt32 >>> ((8 : Int32) &&& 31).toUInt32).toInt32) &&& (255 : Int32)).toUInt32.toUInt16.toUInt32.toInt32)), .val (.int ((((p2.toUInt32 >>> ((16 : Int32) &&& 31).toUInt32).toInt32) &&& (255 : Int32)).toUInt32.toUInt16.toUInt32.toInt32))] [(.int (2 : Int32)), (.ref b29), (.ref b29)])) t → Steps p.tables e below (T29.setTop (mkF m 76 #[.val (.int p1), .val (.int p2), .val (.int (p1 &&& (3 : Int32))), .val (.int ((p2 &&& (255 : Int32)).toUInt32.toUInt16.toUInt32.toInt32)), .val (.int ((((p2.toUInt32 >>> ((8 : Int32) &&& 31).toUInt32).toInt32) &&& (255 : Int32)).toUInt32.toUInt16.toUInt32.toInt32)), .val (.int ((((p2.toUInt32 >>> ((16 : Int32) &&& 31).toUInt32).toInt32) &&& (255 : Int32)).toUInt32.toUInt16.toUInt32.toInt32))] [(.ref b29)])) t := by
          intro t k
          refine XS.dup X29.here hx rfl (Jvm.hb hby d2_76) rfl rfl ?_
          show Steps p.tables e below (T29.setTop (mkF m 77 #[.val (.int p1), .val (.int p2), .val (.int (p1 &&& (3 : Int32))), .val (.int ((p2 &&& (255 : Int32)).toUInt32.toUInt16.toUInt32.toInt32)), .val (.int ((((p2.toUInt32 >>> ((8 : Int32) &&& 31).toUInt32).toInt32) &&& (255 : Int32)).toUInt32.toUInt16.toUInt32.toInt32)), .val (.int ((((p2.toUInt32 >>> ((16 : Int32) &&& 31).toUInt32).toInt32) &&& (255 : Int32)).toUInt32.toUInt16.toUInt32.toInt32))] [(.ref b29), (.ref b29)])) t
          refine XS.iconst X29.here hx rfl (Jvm.hb hby d2_77) ?_
          show Steps p.tables e below (T29.setTop (mkF m 78 #[.val (.int p1), .val (.int p2), .val (.int (p1 &&& (3 : Int32))), .val (.int ((p2 &&& (255 : Int32)).toUInt32.toUInt16.toUInt32.toInt32)), .val (.int ((((p2.toUInt32 >>> ((8 : Int32) &&& 31).toUInt32).toInt32) &&& (255 : Int32)).toUInt32.toUInt16.toUInt32.toInt32)), .val (.int ((((p2.toUInt32 >>> ((16 : Int32) &&& 31).toUInt32).toInt32) &&& (255 : Int32)).toUInt32.toUInt16.toUInt32.toInt32))] [(.int (2 : Int32)), (.ref b29), (.ref b29)])) t
          exact k
        obtain ⟨T32, h32, k32, X32, e32, E32, A32, st32⟩ := newP X29 hx hZ (hw _ (List.mem_of_getElem? (i := 10) rfl)) e29 (g := (mkF m 78 #[.val (.int p1), .val (.int p2), .val (.int (p1 &&& (3 : Int32))), .val (.int ((p2 &&& (255 : Int32)).toUInt32.toUInt16.toUInt32.toInt32)), .val (.int ((((p2.toUInt32 >>> ((8 : Int32) &&& 31).toUInt32).toInt32) &&& (255 : Int32)).toUInt32.toUInt16.toUInt32.toInt32)), .val (.int ((((p2.toUInt32 >>> ((16 : Int32) &&& 31).toUInt32).toInt32) &&& (255 : Int32)).toUInt32.toUInt16.toUInt32.toInt32))] [(.int (2 : Int32)), (.ref b29), (.ref b29)])) rfl (Jvm.hb hby d2_78) rfl (by decide) (cap := 2) (by decide) (by decide) (by decide) (by decide)
        obtain ⟨b32, g32⟩ : ∃ z, z = h29.size := ⟨_, rfl⟩
        rw [← g32] at A32 st32
        have KP32 : Keep h0 h32 [] := KP29.ext E32
        have E32_1 : Exa Z h32 b29 "java/lang/String" := A29.ext E32
        have F32_2 : Fld Z h32 b29 "java/lang/String" "coder" "B" (.int (0 : Int32)) := F29_coder.ext E32
        have F32_3 : Fld Z h32 b29 "java/lang/String" "value" "[B" .null := F29_value.ext E32
        have CR32 : CHr Z EL0 s.vm h0 vm0 h32 := CR29.trans (CHr.ext E32 CR29.1)
        have SK32 := Nat.le_trans SK29 E32.1
        have ne32_0 : b29 ≠ b32 := Nat.ne_of_lt (Nat.lt_of_lt_of_le A29.lt (Nat.le_of_eq g32.symm))
        have gb_b32 : n0 ≤ b32 := Nat.le_trans (Nat.le_trans Z0 KP29.1) (Nat.le_of_eq g32.symm)
        have sz_b32 : h0.size ≤ b32 := Nat.le_trans KP29.1 (Nat.le_of_eq g32.symm)
        have V32 : Ia Z h32 b32 .char (2 : Int32) (fun _ => 0) := Ia.new A32 (by decide) rfl
        have K33 : ∀ t, Steps p.tables e below (T32.setTop (mkF m 80 #[.val (.int p1), .val (.int p2), .val (.int (p1 &&& (3 : Int32))), .val (.int ((p2 &&& (255 : Int32)).toUInt32.toUInt16.toUInt32.toInt32)), .val (.int ((((p2.toUInt32 >>> ((8 : Int32) &&& 31).toUInt32).toInt32) &&& (255 : Int32)).toUInt32.toUInt16.toUInt32.toInt32)), .val (.int ((((p2.toUInt32 >>> ((16 : Int32) &&& 31).toUInt32).toInt32) &&& (255 : Int32)).toUInt32.toUInt16.toUInt32.toInt32))] [(.ref b32), (.ref b29), (.ref b29)])) t → Steps p.tables e below (T29.setTop (mkF m 78 #[.val (.int p1), .val (.int p2), .val (.int (p1 &&& (3 : Int32))), .val (.int ((p2 &&& (255 : Int32)).toUInt32.toUInt16.toUInt32.toInt32)), .val (.int ((((p2.toUInt32 >>> ((8 : Int32) &&& 31).toUInt32).toInt32) &&& (255 : Int32)).toUInt32.toUInt16.toUInt32.toInt32)), .val (.int ((((p2.toUInt32 >>> ((16 : Int32) &&& 31).toUInt32).toInt32) &&& (255 : Int32)).toUInt32.toUInt16.toUInt32.toInt32))] [(.int (2 : Int32)), (.ref b29), (.ref b29)])) t := fun t k => st32 _ k
        have K34 : ∀ t, Steps p.tables e below (T32.setTop (mkF m 83 #[.val (.int p1), .val (.int p2), .val (.int (p1 &&& (3 : Int32))), .val (.int ((p2 &&& (255 : Int32)).toUInt32.toUInt16.toUInt32.toInt32)), .val (.int ((((p2.toUInt32 >>> ((8 : Int32) &&& 31).toUInt32).toInt32) &&& (255 : Int32)).toUInt32.toUInt16.toUInt32.toInt32)), .val (.int ((((p2.toUInt32 >>> ((16 : Int32) &&& 31).toUInt32).toInt32) &&& (255 : Int32)).toUInt32.toUInt16.toUInt32.toInt32))] [(.int ((p2 &&& (255 : Int32)).toUInt32.toUInt16.toUInt32.toInt32)), (.int (0 : Int32)), (.ref b32), (.ref b32), (.ref b29), (.ref b29)])) t → Steps p.tables e below (T32.setTop (mkF m 80 #[.val (.int p1), .val (.int p2), .val (.int (p1 &&& (3 : Int32))), .val (.int ((p2 &&& (255 : Int32)).toUInt32.toUInt16.toUInt32.toInt32)), .val (.int ((((p2.toUInt32 >>> ((8 : Int32) &&& 31).toUInt32).toInt32) &&& (255 : Int32)).toUInt32.toUInt16.toUInt32.toInt32)), .val (.int ((((p2.toUInt32 >>> ((16 : Int32) &&& 31).toUInt32).toInt32) &&& (255 : Int32)).toUInt32.toUInt16.toUInt32.toInt32))] [(.ref b32), (.ref b29), (.ref b29)])) t := by
          intro t k
          refine XS.dup X32.here hx rfl (Jvm.hb hby d2_80) rfl rfl ?_
          show Steps p.tables e below (T32.setTop (mkF m 81 #[.val (.int p1), .val (.int p2), .val (.int (p1 &&& (3 : Int32))), .val (.int ((p2 &&& (255 : Int32)).toUInt32.toUInt16.toUInt32.toInt32)), .val (.int ((((p2.toUInt32 >>> ((8 : Int32) &&& 31).toUInt32).toInt32) &&& (255 : Int32)).toUInt32.toUInt16.toUInt32.toInt32)), .val (.int ((((p2.toUInt32 >>> ((16 : Int32) &&& 31).toUInt32).toInt32) &&& (255 : Int32)).toUInt32.toUInt16.toUInt32.toInt32))] [(.ref b32), (.ref b32), (.ref b29), (.ref b29)])) t
          refine XS.iconst X32.here hx rfl (Jvm.hb hby d2_81) ?_
          show Steps p.tables e below (T32.setTop (mkF m 82 #[.val (.int p1), .val (.int p2), .val (.int (p1 &&& (3 : Int32))), .val (.int ((p2 &&& (255 : Int32)).toUInt32.toUInt16.toUInt32.toInt32)), .val (.int ((((p2.toUInt32 >>> ((8 : Int32) &&& 31).toUInt32).toInt32) &&& (255 : Int32)).toUInt32.toUInt16.toUInt32.toInt32)), .val (.int ((((p2.toUInt32 >>> ((16 : Int32) &&& 31).toUInt32).toInt32) &&& (255 : Int32)).toUInt32.toUInt16.toUInt32.toInt32))] [(.int (0 : Int32)), (.ref b32), (.ref b32), (.ref b29), (.ref b29)])) t
          refine XS.iloadN X32.here hx rfl (Jvm.hb hby d2_82) rfl ?_
          show Steps p.tables e below (T32.setTop (mkF m 83 #[.val (.int p1), .val (.int p2), .val (.int (p1 &&& (3 : Int32))), .val (.int ((p2 &&& (255 : Int32)).toUInt32.toUInt16.toUInt32.toInt32)), .val (.int ((((p2.toUInt32 >>> ((8 : Int32) &&& 31).toUInt32).toInt32) &&& (255 : Int32)).toUInt32.toUInt16.toUInt32.toInt32)), .val (.int ((((p2.toUInt32 >>> ((16 : Int32) &&& 31).toUInt32).toInt32) &&& (255 : Int32)).toUInt32.toUInt16.toUInt32.toInt32))] [(.int ((p2 &&& (255 : Int32)).toUInt32.toUInt16.toUInt32.toInt32)), (.int (0 : Int32)), (.ref b32), (.ref b32), (.ref b29), (.ref b29)])) t
          exact k
        have hin35 : ¬ (0 : Int32) < 0 ∧ (0 : Int32) < (2 : Int32) := by exact ⟨by decide, by decide⟩
        obtain ⟨cl35, Aq35, hj35, aq35⟩ := Ia.at V32 hin35
        obtain ⟨T35, h35, X35, e35, W35, st35⟩ := stC X32 hx hZ e32 Aq35 (j := (0 : Int32)) hj35 (g := (mkF m 83 #[.val (.int p1), .val (.int p2), .val (.int (p1 &&& (3 : Int32))), .val (.int ((p2 &&& (255 : Int32)).toUInt32.toUInt16.toUInt32.toInt32)), .val (.int ((((p2.toUInt32 >>> ((8 : Int32) &&& 31).toUInt32).toInt32) &&& (255 : Int32)).toUInt32.toUInt16.toUInt32.toInt32)), .val (.int ((((p2.toUInt32 >>> ((16 : Int32) &&& 31).toUInt32).toInt32) &&& (255 : Int32)).toUInt32.toUInt16.toUInt32.toInt32))] [(.int ((p2 &&& (255 : Int32)).toUInt32.toUInt16.toUInt32.toInt32)), (.int (0 : Int32)), (.ref b32), (.ref b32), (.ref b29), (.ref b29)])) rfl rfl (Jvm.hb hby d2_83)
        have KP35 : Keep h0 h35 [] := KP32.wr W35 (Or.inr sz_b32)
        have N35 := Fr.snoc X35 N0 gb_b32
        have E35_1 : Exa Z h35 b29 "java/lang/String" := E32_1.wr W35
        have F35_2 : Fld Z h35 b29 "java/lang/String" "coder" "B" (.int (0 : Int32)) := F32_2.other W35 (Or.inl ne32_0)
        have F35_3 : Fld Z h35 b29 "java/lang/String" "value" "[B" .null := F32_3.other W35 (Or.inl ne32_0)
        have CR35 : CHr Z EL0 s.vm h0 vm0 h35 := CR32.trans (CHr.wr W35 (own_safeA hZ.alike V32 (by decide)) CR32.1)
        have SK35 := Nat.le_trans SK32 (own_wrsz W35)
        have Aw35 : Ia Z h35 b32 .char (2 : Int32) (f2_u1 p2) := V32.set W35 hin35.1
        have K36 : ∀ t, Steps p.tables e below (T35.setTop (mkF m 84 #[.val (.int p1), .val (.int p2), .val (.int (p1 &&& (3 : Int32))), .val (.int ((p2 &&& (255 : Int32)).toUInt32.toUInt16.toUInt32.toInt32)), .val (.int ((((p2.toUInt32 >>> ((8 : Int32) &&& 31).toUInt32).toInt32) &&& (255 : Int32)).toUInt32.toUInt16.toUInt32.toInt32)), .val (.int ((((p2.toUInt32 >>> ((16 : Int32) &&& 31).toUInt32).toInt32) &&& (255 : Int32)).toUInt32.toUInt16.toUInt32.toInt32))] [(.ref b32), (.ref b29), (.ref b29)])) t → Steps p.tables e below (T32.setTop (mkF m 83 #[.val (.int p1), .val (.int p2), .val (.int (p1 &&& (3 : Int32))), .val (.int ((p2 &&& (255 : Int32)).toUInt32.toUInt16.toUInt32.toInt32)), .val (.int ((((p2.toUInt32 >>> ((8 : Int32) &&& 31).toUInt32).toInt32) &&& (255 : Int32)).toUInt32.toUInt16.toUInt32.toInt32)), .val (.int ((((p2.toUInt32 >>> ((16 : Int32) &&& 31).toUInt32).toInt32) &&& (255 : Int32)).toUInt32.toUInt16.toUInt32.toInt32))] [(.int ((p2 &&& (255 : Int32)).toUInt32.toUInt16.toUInt32.toInt32)), (.int (0 : Int32)), (.ref b32), (.ref b32), (.ref b29), (.ref b29)])) t := fun t k => st35 _ k
        have K37 : ∀ t, Steps p.tables e below (T35.setTop (mkF m 88 #[.val (.int p1), .val (.int p2), .val (.int (p1 &&& (3 : Int32))), .val (.int ((p2 &&& (255 : Int32)).toUInt32.toUInt16.toUInt32.toInt32)), .val (.int ((((p2.toUInt32 >>> ((8 : Int32) &&& 31).toUInt32).toInt32) &&& (255 : Int32)).toUInt32.toUInt16.toUInt32.toInt32)), .val (.int ((((p2.toUInt32 >>> ((16 : Int32) &&& 31).toUInt32).toInt32) &&& (255 : Int32)).toUInt32.toUInt16.toUInt32.toInt32))] [(.int ((((p2.toUInt32 >>> ((8 : Int32) &&& 31).toUInt32).toInt32) &&& (255 : Int32)).toUInt32.toUInt16.toUInt32.toInt32)), (.int (1 : Int32)), (.ref b32), (.ref b32), (.ref b29), (.ref b29)])) t → Steps p.tables e below (T35.setTop (mkF m 84 #[.val (.int p1), .val (.int p2), .val (.int (p1 &&& (3 : Int32))), .val (.int ((p2 &&& (255 : Int32)).toUInt32.toUInt16.toUInt32.toInt32)), .val (.int ((((p2.toUInt32 >>> ((8 : Int32) &&& 31).toUInt32).toInt32) &&& (255 : Int32)).toUInt32.toUInt16.toUInt32.toInt32)), .val (.int ((((p2.toUInt32 >>> ((16 : Int32) &&& 31).toUInt32).toInt32) &&& (255 : Int32)).toUInt32.toUInt16.toUInt32.toInt32))] [(.ref b32), (.ref b29), (.ref b29)])) t := by
          intro t k
          refine XS.dup X35.here hx rfl (Jvm.hb hby d2_84) rfl rfl ?_
          show Steps p.tables e below (T35.setTop (mkF m 85 #[.val (.int p1), .val (.int p2), .val (.int (p1 &&& (3 : Int32))), .val (.int ((p2 &&& (255 : Int32)).toUInt32.toUInt16.toUInt32.toInt32)), .val (.int ((((p2.toUInt32 >>> ((8 : Int32) &&& 31).toUInt32).toInt32) &&& (255 : Int32)).toUInt32.toUInt16.toUInt32.toInt32)), .val (.int ((((p2.toUInt32 >>> ((16 : Int32) &&& 31).toUInt32).toInt32) &&& (255 : Int32)).toUInt32.toUInt16.toUInt32.toInt32))] [(.ref b32), (.ref b32), (.ref b29), (.ref b29)])) t
          refine XS.iconst X35.here hx rfl (Jvm.hb hby d2_85) ?_
          show Steps p.tables e below (T35.setTop (mkF m 86 #[.val (.int p1), .val (.int p2), .val (.int (p1 &&& (3 : Int32))), .val (.int ((p2 &&& (255 : Int32)).toUInt32.toUInt16.toUInt32.toInt32)), .val (.int ((((p2.toUInt32 >>> ((8 : Int32) &&& 31).toUInt32).toInt32) &&& (255 : Int32)).toUInt32.toUInt16.toUInt32.toInt32)), .val (.int ((((p2.toUInt32 >>> ((16 : Int32) &&& 31).toUInt32).toInt32) &&& (255 : Int32)).toUInt32.toUInt16.toUInt32.toInt32))] [(.int (1 : Int32)), (.ref b32), (.ref b32), (.ref b29), (.ref b29)])) t
          refine XS.iload X35.here hx rfl (Jvm.hb hby d2_86) rfl ?_
          show Steps p.tables e below (T35.setTop (mkF m 88 #[.val (.int p1), .val (.int p2), .val (.int (p1 &&& (3 : Int32))), .val (.int ((p2 &&& (255 : Int32)).toUInt32.toUInt16.toUInt32.toInt32)), .val (.int ((((p2.toUInt32 >>> ((8 : Int32) &&& 31).toUInt32).toInt32) &&& (255 : Int32)).toUInt32.toUInt16.toUInt32.toInt32)), .val (.int ((((p2.toUInt32 >>> ((16 : Int32) &&& 31).toUInt32).toInt32) &&& (255 : Int32)).toUInt32.toUInt16.toUInt32.toInt32))] [(.int ((((p2.toUInt32 >>> ((8 : Int32) &&& 31).toUInt32).toInt32) &&& (255 : Int32)).toUInt32.toUInt16.toUInt32.toInt32)), (.int (1 : Int32)), (.ref b32), (.ref b32), (.ref b29), (.ref b29)])) t
          exact k
        have hin38 : ¬ (1 : Int32) < 0 ∧ (1 : Int32) < (2 : Int32) := by exact ⟨by decide, by decide⟩
        obtain ⟨cl38, Aq38, hj38, aq38⟩ := Ia.at Aw35 hin38
        obtain ⟨T38, h38, X38, e38, W38, st38⟩ := stC X35 hx hZ e35 Aq38 (j := (1 : Int32)) hj38 (g := (mkF m 88 #[.val (.int p1), .val (.int p2), .val (.int (p1 &&& (3 : Int32))), .val (.int ((p2 &&& (255 : Int32)).toUInt32.toUInt16.toUInt32.toInt32)), .val (.int ((((p2.toUInt32 >>> ((8 : Int32) &&& 31).toUInt32).toInt32) &&& (255 : Int32)).toUInt32.toUInt16.toUInt32.toInt32)), .val (.int ((((p2.toUInt32 >>> ((16 : Int32) &&& 31).toUInt32).toInt32) &&& (255 : Int32)).toUInt32.toUInt16.toUInt32.toInt32))] [(.int ((((p2.toUInt32 >>> ((8 : Int32) &&& 31).toUInt32).toInt32) &&& (255 : Int32)).toUInt32.toUInt16.toUInt32.toInt32)), (.int (1 : Int32)), (.ref b32), (.ref b32), (.ref b29), (.ref b29)])) rfl rfl (Jvm.hb hby d2_88)
        have KP38 : Keep h0 h38 [] := KP35.wr W38 (Or.inr sz_b32)
        have N38 := Fr.snoc X38 N35 gb_b32
        have E38_1 : Exa Z h38 b29 "java/lang/String" := E35_1.wr W38
        have F38_2 : Fld Z h38 b29 "java/lang/String" "coder" "B" (.int (0 : Int32)) := F35_2.other W38 (Or.inl ne32_0)
        have F38_3 : Fld Z h38 b29 "java/lang/String" "value" "[B" .null := F35_3.other W38 (Or.inl ne32_0)
        have CR38 : CHr Z EL0 s.vm h0 vm0 h38 := CR35.trans (CHr.wr W38 (own_safeA hZ.alike Aw35 (by decide)) CR35.1)
        have SK38 := Nat.le_trans SK35 (own_wrsz W38)
        have Aw38 : Ia Z h38 b32 .char (2 : Int32) (f2_u2 p2) := Aw35.set W38 hin38.1
        have K39 : ∀ t, Steps p.tables e below (T38.setTop (mkF m 89 #[.val (.int p1), .val (.int p2), .val (.int (p1 &&& (3 : Int32))), .val (.int ((p2 &&& (255 : Int32)).toUInt32.toUInt16.toUInt32.toInt32)), .val (.int ((((p2.toUInt32 >>> ((8 : Int32) &&& 31).toUInt32).toInt32) &&& (255 : Int32)).toUInt32.toUInt16.toUInt32.toInt32)), .val (.int ((((p2.toUInt32 >>> ((16 : Int32) &&& 31).toUInt32).toInt32) &&& (255 : Int32)).toUInt32.toUInt16.toUInt32.toInt32))] [(.ref b32), (.ref b29), (.ref b29)])) t → Steps p.tables e below (T35.setTop (mkF m 88 #[.val (.int p1), .val (.int p2), .val (.int (p1 &&& (3 : Int32))), .val (.int ((p2 &&& (255 : Int32)).toUInt32.toUInt16.toUInt32.toInt32)), .val (.int ((((p2.toUInt32 >>> ((8 : Int32) &&& 31).toUInt32).toInt32) &&& (255 : Int32)).toUInt32.toUInt16.toUInt32.toInt32)), .val (.int ((((p2.toUInt32 >>> ((16 : Int32) &&& 31).toUInt32).toInt32) &&& (255 : Int32)).toUInt32.toUInt16.toUInt32.toInt32))] [(.int ((((p2.toUInt32 >>> ((8 : Int32) &&& 31).toUInt32).toInt32) &&& (255 : Int32)).toUInt32.toUInt16.toUInt32.toInt32)), (.int (1 : Int32)), (.ref b32), (.ref b32), (.ref b29), (.ref b29)])) t := fun t k => st38 _ k
        obtain ⟨_, _, ⟨T40, L40, k40, n40⟩, -, X40, ⟨Lc40, hQ40, l40, y40, z40⟩, st40⟩ := X38.specialBack hx (y := (⟨"java/lang/String", "<init>", "([C)V"⟩ : MethodName)) rfl hown (mvT hZ (hw _ (List.mem_of_getElem? (i := 11) rfl))) (mvT hZ (hw _ (List.mem_of_getElem? (i := 12) rfl))) (mvT hZ (hw _ (List.mem_of_getElem? (i := 13) rfl))) (by decide) (backOf (W := 1) (rm3 l Z a0 hw [] b29 b32 (2 : Int32) (f2_u2 p2) w_COMPACT_STRINGS (.int (0 : Int32)) .null h38 n0 (Nat.le_trans Z0 KP38.1) (by decide) (by decide) (fun j _ _ => (own_chs _ _ _ (own_chs _ _ _ (fun _ => by decide) (own_lb _)) (own_lb _)) j) hcs Aw38 (S_COMPACT_STRINGS.ext (own_ext KP38)) E38_1 F38_2 F38_3 gb_b29) hZ (hw _ (List.mem_of_getElem? (i := 13) rfl)) (hw _ (List.mem_of_getElem? (i := 9) rfl)) (by decide) (by decide)) (g := (mkF m 89 #[.val (.int p1), .val (.int p2), .val (.int (p1 &&& (3 : Int32))), .val (.int ((p2 &&& (255 : Int32)).toUInt32.toUInt16.toUInt32.toInt32)), .val (.int ((((p2.toUInt32 >>> ((8 : Int32) &&& 31).toUInt32).toInt32) &&& (255 : Int32)).toUInt32.toUInt16.toUInt32.toInt32)), .val (.int ((((p2.toUInt32 >>> ((16 : Int32) &&& 31).toUInt32).toInt32) &&& (255 : Int32)).toUInt32.toUInt16.toUInt32.toInt32))] [(.ref b32), (.ref b29), (.ref b29)])) rfl (by rw [hml]; rfl) (Steps.refl _) (a := b29) (argsL := [(.ref b32)]) (rest := [(.ref b29)]) (lenOf pd_2 rfl) rfl (by show 2 * 0 + _ ≤ _; exact Nat.le_of_eq rfl) (Jvm.hb hby d2_89) (fun _ _ => ⟨rfl, e38, (by decide : 2 + 1 ≤ _), (by decide : 6 + 3 ≤ _)⟩)
        dsimp only [Pt.U, Pt.locs, Pt.cells, Pt.slots] at X40 l40 y40 z40 st40 hQ40
        subst l40 y40 z40
        obtain ⟨h40, e40⟩ : ∃ z, T40.heap = z := ⟨_, rfl⟩
        rw [e40] at hQ40
        obtain ⟨b40_x1, rfl, N40q, Kq40, szq_b40_x1, gb_b40_x1, R40_0, R40_1, R40_2, R40_3⟩ := hQ40
        have N40 := Fr.app N38 N40q
        have KP40 : Keep h0 h40 [] := KP38.trans Kq40 (allS (Or.inr sz_b29) all0)
        have A40_1 : Ia Z h40 b32 .char (2 : Int32) (f2_u2 p2) := Aw38.keep Kq40 (ninS (Ne.symm ne32_0) nin0)
        have CR40 : CHr Z EL0 s.vm h0 vm0 h40 := CR38.trans (CHr.keep Kq40 (allS (own_safe hZ.alike E38_1 F38_3) all0) CR38.1)
        have SK40 := Nat.le_trans SK38 Kq40.1
        have ne40_x1_2 : b29 ≠ b40_x1 := Nat.ne_of_lt (Nat.lt_of_lt_of_le E38_1.lt szq_b40_x1)
        have ne40_x1_4 : b32 ≠ b40_x1 := Nat.ne_of_lt (Nat.lt_of_lt_of_le Aw38.lt szq_b40_x1)
        have sz_b40_x1 : h0.size ≤ b40_x1 := Nat.le_trans KP38.1 szq_b40_x1
        have K41 : ∀ t, Steps p.tables e below (T40.setTop (mkF m 92 #[.val (.int p1), .val (.int p2), .val (.int (p1 &&& (3 : Int32))), .val (.int ((p2 &&& (255 : Int32)).toUInt32.toUInt16.toUInt32.toInt32)), .val (.int ((((p2.toUInt32 >>> ((8 : Int32) &&& 31).toUInt32).toInt32) &&& (255 : Int32)).toUInt32.toUInt16.toUInt32.toInt32)), .val (.int ((((p2.toUInt32 >>> ((16 : Int32) &&& 31).toUInt32).toInt32) &&& (255 : Int32)).toUInt32.toUInt16.toUInt32.toInt32))] [(.ref b29)])) t → Steps p.tables e below (T38.setTop (mkF m 89 #[.val (.int p1), .val (.int p2), .val (.int (p1 &&& (3 : Int32))), .val (.int ((p2 &&& (255 : Int32)).toUInt32.toUInt16.toUInt32.toInt32)), .val (.int ((((p2.toUInt32 >>> ((8 : Int32) &&& 31).toUInt32).toInt32) &&& (255 : Int32)).toUInt32.toUInt16.toUInt32.toInt32)), .val (.int ((((p2.toUInt32 >>> ((16 : Int32) &&& 31).toUInt32).toInt32) &&& (255 : Int32)).toUInt32.toUInt16.toUInt32.toInt32))] [(.ref b32), (.ref b29), (.ref b29)])) t := fun t k => st40.trans k
        obtain ⟨fs, hr, hrun, hended, hRW⟩ := X40.leaveW hS (show _ ≤ T40.heap.size from (by rw [e40]; exact SK40)) (v := some (.ref b29)) (fun h => by rw [Bd.returns] at h; cases h) Bd.notSynchronized
        refine ⟨_, _, pre0 _ (K1 _ (K11 _ (K12 _ (K25 _ (K26 _ (K28 _ (K30 _ (K31 _ (K33 _ (K34 _ (K36 _ (K37 _ (K39 _ (K41 _ (retOut X40 hx Bd.returns rfl (Or.inr (Or.inr (Or.inr (Or.inr ⟨rfl, rfl, rfl⟩)))) (Jvm.hb hby d2_92) hr))))))))))))))), hrun, hended, _, _, rfl, ?_, (show CHr Z EL0 s.vm s.heap T40.vm T40.heap from by rw [hh, e40]; exact CR40.trans (CHv.at X40 hZ (ew0 hw) CR40.1)), hRW.1, hRW.2.1, hRW.2.2.1, hRW.2.2.2.mono (by decide) (by decide)⟩
        show Q2 Z p1 p2 w_COMPACT_STRINGS h0 n0 _ T40.heap _
        rw [e40]
        exact ⟨b29, b40_x1, rfl, N40, KP40, sz_b29, gb_b29, ne40_x1_2, R40_0, (by rw [show (f2_u4 p1) = (2 : Int32) from (if_neg hc2).trans ((if_neg hc13).trans (if_pos hc27)), show (f2_u5 p1 p2) = (f7_G_a30 (2 : Int32) (f2_u2 p2) (fun _ => 0)) from (if_neg hc2).trans ((if_neg hc13).trans (if_pos hc27))]; exact R40_1), R40_3, R40_2⟩
      · have K42 : ∀ t, Steps p.tables e below (s₁.setTop (mkF m 93 #[.val (.int p1), .val (.int p2), .val (.int (p1 &&& (3 : Int32))), .val (.int ((p2 &&& (255 : Int32)).toUInt32.toUInt16.toUInt32.toInt32)), .val (.int ((((p2.toUInt32 >>> ((8 : Int32) &&& 31).toUInt32).toInt32) &&& (255 : Int32)).toUInt32.toUInt16.toUInt32.toInt32)), .val (.int ((((p2.toUInt32 >>> ((16 : Int32) &&& 31).toUInt32).toInt32) &&& (255 : Int32)).toUInt32.toUInt16.toUInt32.toInt32))] [])) t → Steps p.tables e below (s₁.setTop (mkF m 70 #[.val (.int p1), .val (.int p2), .val (.int (p1 &&& (3 : Int32))), .val (.int ((p2 &&& (255 : Int32)).toUInt32.toUInt16.toUInt32.toInt32)), .val (.int ((((p2.toUInt32 >>> ((8 : Int32) &&& 31).toUInt32).toInt32) &&& (255 : Int32)).toUInt32.toUInt16.toUInt32.toInt32)), .val (.int ((((p2.toUInt32 >>> ((16 : Int32) &&& 31).toUInt32).toInt32) &&& (255 : Int32)).toUInt32.toUInt16.toUInt32.toInt32))] [(.int (2 : Int32)), (.int (p1 &&& (3 : Int32)))])) t := by
          intro t k
          refine XS.icmpYes X0.here hx rfl (pc0 := 70) (pc' := 93) rfl (Jvm.hb hby d2_70) rfl (feq hc27).2 (by decide) (by decide) ?_
          exact k
        obtain ⟨T43, h43, X43, e43, E43, A43, D43, -, st43⟩ := newO X0 hx hZ hown (hw _ (List.mem_of_getElem? (i := 7) rfl)) (hw _ (List.mem_of_getElem? (i := 8) rfl)) (hw _ (List.mem_of_getElem? (i := 9) rfl)) e0 (g := (mkF m 93 #[.val (.int p1), .val (.int p2), .val (.int (p1 &&& (3 : Int32))), .val (.int ((p2 &&& (255 : Int32)).toUInt32.toUInt16.toUInt32.toInt32)), .val (.int ((((p2.toUInt32 >>> ((8 : Int32) &&& 31).toUInt32).toInt32) &&& (255 : Int32)).toUInt32.toUInt16.toUInt32.toInt32)), .val (.int ((((p2.toUInt32 >>> ((16 : Int32) &&& 31).toUInt32).toInt32) &&& (255 : Int32)).toUInt32.toUInt16.toUInt32.toInt32))] [])) rfl (Jvm.hb hby d2_93) (by decide) (by decide)
        obtain ⟨b43, g43⟩ : ∃ z, z = h0.size := ⟨_, rfl⟩
        rw [← g43] at A43 D43 st43
        have KP43 : Keep h0 h43 [] := (Keep.refl h0 []).ext E43
        have CR43 : CHr Z EL0 s.vm h0 vm0 h43 := CR0.trans (CHr.ext E43 CR0.1)
        have SK43 := Nat.le_trans (Nat.le_refl h0.size) E43.1
        have gb_b43 : n0 ≤ b43 := Nat.le_trans Z0 (Nat.le_of_eq g43.symm)
        have sz_b43 : h0.size ≤ b43 := Nat.le_trans (Keep.refl h0 []).1 (Nat.le_of_eq g43.symm)
        have F43_coder : Fld Z h43 b43 "java/lang/String" "coder" "B" (.int (0 : Int32)) := D43 (Or.inr (hw _ (List.mem_of_getElem? (i := 34) rfl))) (ty := .byte) (by decide)
        have F43_value : Fld Z h43 b43 "java/lang/String" "value" "[B" .null := D43 (Or.inr (hw _ (List.mem_of_getElem? (i := 36) rfl))) (ty := (.array .byte)) (by decide)
        have K44 : ∀ t, Steps p.tables e below (T43.setTop (mkF m 96 #[.val (.int p1), .val (.int p2), .val (.int (p1 &&& (3 : Int32))), .val (.int ((p2 &&& (255 : Int32)).toUInt32.toUInt16.toUInt32.toInt32)), .val (.int ((((p2.toUInt32 >>> ((8 : Int32) &&& 31).toUInt32).toInt32) &&& (255 : Int32)).toUInt32.toUInt16.toUInt32.toInt32)), .val (.int ((((p2.toUInt32 >>> ((16 : Int32) &&& 31).toUInt32).toInt32) &&& (255 : Int32)).toUInt32.toUInt16.toUInt32.toInt32))] [(.ref b43)])) t → Steps p.tables e below (s₁.setTop (mkF m 93 #[.val (.int p1), .val (.int p2), .val (.int (p1 &&& (3 : Int32))), .val (.int ((p2 &&& (255 : Int32)).toUInt32.toUInt16.toUInt32.toInt32)), .val (.int ((((p2.toUInt32 >>> ((8 : Int32) &&& 31).toUInt32).toInt32) &&& (255 : Int32)).toUInt32.toUInt16.toUInt32.toInt32)), .val (.int ((((p2.toUInt32 >>> ((16 : Int32) &&& 31).toUInt32).toInt32) &&& (255 : Int32)).toUInt32.toUInt16.toUInt32.toInt32))] [])) t := fun t k => st43 _ k
        have K45 : ∀ t, Steps p.tables e below (T43.setTop (mkF m 98 #[.val (.int p1), .val (.int p2), .val (.int (p1 &&& (3 : Int32))), .val (.int ((p2 &&& (255 : Int32)).toUInt32.toUInt16.toUInt32.toInt32)), .val (.int ((((p2.toUInt32 >>> ((8 : Int32) &&& 31).toUInt32).toInt32) &&& (255 : Int32)).toUInt32.toUInt16.toUInt32.toInt32)), .val (.int ((((p2.toUInt32 >>> ((16 : Int32) &&& 31).toUInt32).toInt32) &&& (255 : Int32)).toUInt32.toUInt16.toUInt32.toInt32))] [(.int (3 : Int32)), (.ref b43), (.ref b43)])) t → Steps p.tables e below (T43.setTop (mkF m 96 #[.val (.int p1), .val (.int p2), .val (.int (p1 &&& (3 : Int32))), .val (.int ((p2 &&& (255 : Int32)).toUInt32.toUInt16.toUInt32.toInt32)), .val (.int ((((p2.toUInt32 >>> ((8 : Int32) &&& 31).toUInt32).toInt32) &&& (255 : Int32)).toUInt32.toUInt16.toUInt32.toInt32)), .val (.int ((((p2.toUInt32 >>> ((16 : Int32) &&& 31).toUInt32).toInt32) &&& (255 : Int32)).toUInt32.toUInt16.toUInt32.toInt32))] [(.ref b43)])) t := by
          intro t k
          refine XS.dup X43.here hx rfl (Jvm.hb hby d2_96) rfl rfl ?_
          show Steps p.tables e below (T43.setTop (mkF m 97 #[.val (.int p1), .val (.int p2), .val (.int (p1 &&& (3 : Int32))), .val (.int ((p2 &&& (255 : Int32)).toUInt32.toUInt16.toUInt32.toInt32)), .val (.int ((((p2.toUInt32 >>> ((8 : Int32) &&& 31).toUInt32).toInt32) &&& (255 : Int32)).toUInt32.toUInt16.toUInt32.toInt32)), .val (.int ((((p2.toUInt32 >>> ((16 : Int32) &&& 31).toUInt32).toInt32) &&& (255 : Int32)).toUInt32.toUInt16.toUInt32.toInt32))] [(.ref b43), (.ref b43)])) t
          refine XS.iconst X43.here hx rfl (Jvm.hb hby d2_97) ?_
          show Steps p.tables e below (T43.setTop (mkF m 98 #[.val (.int p1), .val (.int p2), .val (.int (p1 &&& (3 : Int32))), .val (.int ((p2 &&& (255 : Int32)).toUInt32.toUInt16.toUInt32.toInt32)), .val (.int ((((p2.toUInt32 >>> ((8 : Int32) &&& 31).toUInt32).toInt32) &&& (255 : Int32)).toUInt32.toUInt16.toUInt32.toInt32)), .val (.int ((((p2.toUInt32 >>> ((16 : Int32) &&& 31).toUInt32).toInt32) &&& (255 : Int32)).toUInt32.toUInt16.toUInt32.toInt32))] [(.int (3 : Int32)), (.ref b43), (.ref b43)])) t
          exact k
        obtain ⟨T46, h46, k46, X46, e46, E46, A46, st46⟩ := newP X43 hx hZ (hw _ (List.mem_of_getElem? (i := 10) rfl)) e43 (g := (mkF m 98 #[.val (.int p1), .val (.int p2), .val (.int (p1 &&& (3 : Int32))), .val (.int ((p2 &&& (255 : Int32)).toUInt32.toUInt16.toUInt32.toInt32)), .val (.int ((((p2.toUInt32 >>> ((8 : Int32) &&& 31).toUInt32).toInt32) &&& (255 : Int32)).toUInt32.toUInt16.toUInt32.toInt32)), .val (.int ((((p2.toUInt32 >>> ((16 : Int32) &&& 31).toUInt32).toInt32) &&& (255 : Int32)).toUInt32.toUInt16.toUInt32.toInt32))] [(.int (3 : Int32)), (.ref b43), (.ref b43)])) rfl (Jvm.hb hby d2_98) rfl (by decide) (cap := 3) (by decide) (by decide) (by decide) (by decide)
        obtain ⟨b46, g46⟩ : ∃ z, z = h43.size := ⟨_, rfl⟩
        rw [← g46] at A46 st46
        have KP46 : Keep h0 h46 [] := KP43.ext E46
        have E46_1 : Exa Z h46 b43 "java/lang/String" := A43.ext E46
        have F46_2 : Fld Z h46 b43 "java/lang/String" "coder" "B" (.int (0 : Int32)) := F43_coder.ext E46
        have F46_3 : Fld Z h46 b43 "java/lang/String" "value" "[B" .null := F43_value.ext E46
        have CR46 : CHr Z EL0 s.vm h0 vm0 h46 := CR43.trans (CHr.ext E46 CR43.1)
        have SK46 := Nat.le_trans SK43 E46.1
        have ne46_0 : b43 ≠ b46 := Nat.ne_of_lt (Nat.lt_of_lt_of_le A43.lt (Nat.le_of_eq g46.symm))
        have gb_b46 : n0 ≤ b46 := Nat.le_trans (Nat.le_trans Z0 KP43.1) (Nat.le_of_eq g46.symm)
        have sz_b46 : h0.size ≤ b46 := Nat.le_trans KP43.1 (Nat.le_of_eq g46.symm)
        have V46 : Ia Z h46 b46 .char (3 : Int32) (fun _ => 0) := Ia.new A46 (by decide) rfl
        have K47 : ∀ t, Steps p.tables e below (T46.setTop (mkF m 100 #[.val (.int p1), .val (.int p2), .val (.int (p1 &&& (3 : Int32))), .val (.int ((p2 &&& (255 : Int32)).toUInt32.toUInt16.toUInt32.toInt32)), .val (.int ((((p2.toUInt32 >>> ((8 : Int32) &&& 31).toUInt32).toInt32) &&& (255 : Int32)).toUInt32.toUInt16.toUInt32.toInt32)), .val (.int ((((p2.toUInt32 >>> ((16 : Int32) &&& 31).toUInt32).toInt32) &&& (255 : Int32)).toUInt32.toUInt16.toUInt32.toInt32))] [(.ref b46), (.ref b43), (.ref b43)])) t → Steps p.tables e below (T43.setTop (mkF m 98 #[.val (.int p1), .val (.int p2), .val (.int (p1 &&& (3 : Int32))), .val (.int ((p2 &&& (255 : Int32)).toUInt32.toUInt16.toUInt32.toInt32)), .val (.int ((((p2.toUInt32 >>> ((8 : Int32) &&& 31).toUInt32).toInt32) &&& (255 : Int32)).toUInt32.toUInt16.toUInt32.toInt32)), .val (.int ((((p2.toUInt32 >>> ((16 : Int32) &&& 31).toUInt32).toInt32) &&& (255 : Int32)).toUInt32.toUInt16.toUInt32.toInt32))] [(.int (3 : Int32)), (.ref b43), (.ref b43)])) t := fun t k => st46 _ k
        have K48 : ∀ t, Steps p.tables e below (T46.setTop (mkF m 103 #[.val (.int p1), .val (.int p2), .val (.int (p1 &&& (3 : Int32))), .val (.int ((p2 &&& (255 : Int32)).toUInt32.toUInt16.toUInt32.toInt32)), .val (.int ((((p2.toUInt32 >>> ((8 : Int32) &&& 31).toUInt32).toInt32) &&& (255 : Int32)).toUInt32.toUInt16.toUInt32.toInt32)), .val (.int ((((p2.toUInt32 >>> ((16 : Int32) &&& 31).toUInt32).toInt32) &&& (255 : Int32)).toUInt32.toUInt16.toUInt32.toInt32))] [(.int ((p2 &&& (255 : Int32)).toUInt32.toUInt16.toUInt32.toInt32)), (.int (0 : Int32)), (.ref b46), (.ref b46), (.ref b43), (.ref b43)])) t → Steps p.tables e below (T46.setTop (mkF m 100 #[.val (.int p1), .val (.int p2), .val (.int (p1 &&& (3 : Int32))), .val (.int ((p2 &&& (255 : Int32)).toUInt32.toUInt16.toUInt32.toInt32)), .val (.int ((((p2.toUInt32 >>> ((8 : Int32) &&& 31).toUInt32).toInt32) &&& (255 : Int32)).toUInt32.toUInt16.toUInt32.toInt32)), .val (.int ((((p2.toUInt32 >>> ((16 : Int32) &&& 31).toUInt32).toInt32) &&& (255 : Int32)).toUInt32.toUInt16.toUInt32.toInt32))] [(.ref b46), (.ref b43), (.ref b43)])) t := by
          intro t k
          refine XS.dup X46.here hx rfl (Jvm.hb hby d2_100) rfl rfl ?_
          show Steps p.tables e below (T46.setTop (mkF m 101 #[.val (.int p1), .val (.int p2), .val (.int (p1 &&& (3 : Int32))), .val (.int ((p2 &&& (255 : Int32)).toUInt32.toUInt16.toUInt32.toInt32)), .val (.int ((((p2.toUInt32 >>> ((8 : Int32) &&& 31).toUInt32).toInt32) &&& (255 : Int32)).toUInt32.toUInt16.toUInt32.toInt32)), .val (.int ((((p2.toUInt32 >>> ((16 : Int32) &&& 31).toUInt32).toInt32) &&& (255 : Int32)).toUInt32.toUInt16.toUInt32.toInt32))] [(.ref b46), (.ref b46), (.ref b43), (.ref b43)])) t
          refine XS.iconst X46.here hx rfl (Jvm.hb hby d2_101) ?_
          show Steps p.tables e below (T46.setTop (mkF m 102 #[.val (.int p1), .val (.int p2), .val (.int (p1 &&& (3 : Int32))), .val (.int ((p2 &&& (255 : Int32)).toUInt32.toUInt16.toUInt32.toInt32)), .val (.int ((((p2.toUInt32 >>> ((8 : Int32) &&& 31).toUInt32).toInt32) &&& (255 : Int32)).toUInt32.toUInt16.toUInt32.toInt32)), .val (.int ((((p2.toUInt32 >>> ((16 : Int32) &&& 31).toUInt32).toInt32) &&& (255 : Int32)).toUInt32.toUInt16.toUInt32.toInt32))] [(.int (0 : Int32)), (.ref b46), (.ref b46), (.ref b43), (.ref b43)])) t
          refine XS.iloadN X46.here hx rfl (Jvm.hb hby d2_102) rfl ?_
          show Steps p.tables e below (T46.setTop (mkF m 103 #[.val (.int p1), .val (.int p2), .val (.int (p1 &&& (3 : Int32))), .val (.int ((p2 &&& (255 : Int32)).toUInt32.toUInt16.toUInt32.toInt32)), .val (.int ((((p2.toUInt32 >>> ((8 : Int32) &&& 31).toUInt32).toInt32) &&& (255 : Int32)).toUInt32.toUInt16.toUInt32.toInt32)), .val (.int ((((p2.toUInt32 >>> ((16 : Int32) &&& 31).toUInt32).toInt32) &&& (255 : Int32)).toUInt32.toUInt16.toUInt32.toInt32))] [(.int ((p2 &&& (255 : Int32)).toUInt32.toUInt16.toUInt32.toInt32)), (.int (0 : Int32)), (.ref b46), (.ref b46), (.ref b43), (.ref b43)])) t
          exact k
        have hin49 : ¬ (0 : Int32) < 0 ∧ (0 : Int32) < (3 : Int32) := by exact ⟨by decide, by decide⟩
        obtain ⟨cl49, Aq49, hj49, aq49⟩ := Ia.at V46 hin49
        obtain ⟨T49, h49, X49, e49, W49, st49⟩ := stC X46 hx hZ e46 Aq49 (j := (0 : Int32)) hj49 (g := (mkF m 103 #[.val (.int p1), .val (.int p2), .val (.int (p1 &&& (3 : Int32))), .val (.int ((p2 &&& (255 : Int32)).toUInt32.toUInt16.toUInt32.toInt32)), .val (.int ((((p2.toUInt32 >>> ((8 : Int32) &&& 31).toUInt32).toInt32) &&& (255 : Int32)).toUInt32.toUInt16.toUInt32.toInt32)), .val (.int ((((p2.toUInt32 >>> ((16 : Int32) &&& 31).toUInt32).toInt32) &&& (255 : Int32)).toUInt32.toUInt16.toUInt32.toInt32))] [(.int ((p2 &&& (255 : Int32)).toUInt32.toUInt16.toUInt32.toInt32)), (.int (0 : Int32)), (.ref b46), (.ref b46), (.ref b43), (.ref b43)])) rfl rfl (Jvm.hb hby d2_103)
        have KP49 : Keep h0 h49 [] := KP46.wr W49 (Or.inr sz_b46)
        have N49 := Fr.snoc X49 N0 gb_b46
        have E49_1 : Exa Z h49 b43 "java/lang/String" := E46_1.wr W49
        have F49_2 : Fld Z h49 b43 "java/lang/String" "coder" "B" (.int (0 : Int32)) := F46_2.other W49 (Or.inl ne46_0)
        have F49_3 : Fld Z h49 b43 "java/lang/String" "value" "[B" .null := F46_3.other W49 (Or.inl ne46_0)
        have CR49 : CHr Z EL0 s.vm h0 vm0 h49 := CR46.trans (CHr.wr W49 (own_safeA hZ.alike V46 (by decide)) CR46.1)
        have SK49 := Nat.le_trans SK46 (own_wrsz W49)
        have Aw49 : Ia Z h49 b46 .char (3 : Int32) (f2_u1 p2) := V46.set W49 hin49.1
        have K50 : ∀ t, Steps p.tables e below (T49.setTop (mkF m 104 #[.val (.int p1), .val (.int p2), .val (.int (p1 &&& (3 : Int32))), .val (.int ((p2 &&& (255 : Int32)).toUInt32.toUInt16.toUInt32.toInt32)), .val (.int ((((p2.toUInt32 >>> ((8 : Int32) &&& 31).toUInt32).toInt32) &&& (255 : Int32)).toUInt32.toUInt16.toUInt32.toInt32)), .val (.int ((((p2.toUInt32 >>> ((16 : Int32) &&& 31).toUInt32).toInt32) &&& (255 : Int32)).toUInt32.toUInt16.toUInt32.toInt32))] [(.ref b46), (.ref b43), (.ref b43)])) t → Steps p.tables e below (T46.setTop (mkF m 103 #[.val (.int p1), .val (.int p2), .val (.int (p1 &&& (3 : Int32))), .val (.int ((p2 &&& (255 : Int32)).toUInt32.toUInt16.toUInt32.toInt32)), .val (.int ((((p2.toUInt32 >>> ((8 : Int32) &&& 31).toUInt32).toInt32) &&& (255 : Int32)).toUInt32.toUInt16.toUInt32.toInt32)), .val (.int ((((p2.toUInt32 >>> ((16 : Int32) &&& 31).toUInt32).toInt32) &&& (255 : Int32)).toUInt32.toUInt16.toUInt32.toInt32))] [(.int ((p2 &&& (255 : Int32)).toUInt32.toUInt16.toUInt32.toInt32)), (.int (0 : Int32)), (.ref b46), (.ref b46), (.ref b43), (.ref b43)])) t := fun t k => st49 _ k
        have K51 : ∀ t, Steps p.tables e below (T49.setTop (mkF m 108 #[.val (.int p1), .val (.int p2), .val (.int (p1 &&& (3 : Int32))), .val (.int ((p2 &&& (255 : Int32)).toUInt32.toUInt16.toUInt32.toInt32)), .val (.int ((((p2.toUInt32 >>> ((8 : Int32) &&& 31).toUInt32).toInt32) &&& (255 : Int32)).toUInt32.toUInt16.toUInt32.toInt32)), .val (.int ((((p2.toUInt32 >>> ((16 : Int32) &&& 31).toUInt32).toInt32) &&& (255 : Int32)).toUInt32.toUInt16.toUInt32.toInt32))] [(.int ((((p2.toUInt32 >>> ((8 : Int32) &&& 31).toUInt32).toInt32) &&& (255 : Int32)).toUInt32.toUInt16.toUInt32.toInt32)), (.int (1 : Int32)), (.ref b46), (.ref b46), (.ref b43), (.ref b43)])) t → Steps p.tables e below (T49.setTop (mkF m 104 #[.val (.int p1), .val (.int p2), .val (.int (p1 &&& (3 : Int32))), .val (.int ((p2 &&& (255 : Int32)).toUInt32.toUInt16.toUInt32.toInt32)), .val (.int ((((p2.toUInt32 >>> ((8 : Int32) &&& 31).toUInt32).toInt32) &&& (255 : Int32)).toUInt32.toUInt16.toUInt32.toInt32)), .val (.int ((((p2.toUInt32 >>> ((16 : Int32) &&& 31).toUInt32).toInt32) &&& (255 : Int32)).toUInt32.toUInt16.toUInt32.toInt32))] [(.ref b46), (.ref b43), (.ref b43)])) t := by
          intro t k
          refine XS.dup X49.here hx rfl (Jvm.hb hby d2_104) rfl rfl ?_
          show Steps p.tables e below (T49.setTop (mkF m 105 #[.val (.int p1), .val (.int p2), .val (.int (p1 &&& (3 : Int32))), .val (.int ((p2 &&& (255 : Int32)).toUInt32.toUInt16.toUInt32.toInt32)), .val (.int ((((p2.toUInt32 >>> ((8 : Int32) &&& 31).toUInt32).toInt32) &&& (255 : Int32)).toUInt32.toUInt16.toUInt32.toInt32)), .val (.int ((((p2.toUInt32 >>> ((16 : Int32) &&& 31).toUInt32).toInt32) &&& (255 : Int32)).toUInt32.toUInt16.toUInt32.toInt32))] [(.ref b46), (.ref b46), (.ref b43), (.ref b43)])) t
          refine XS.iconst X49.here hx rfl (Jvm.hb hby d2_105) ?_
          show Steps p.tables e below (T49.setTop (mkF m 106 #[.val (.int p1), .val (.int p2), .val (.int (p1 &&& (3 : Int32))), .val (.int ((p2 &&& (255 : Int32)).toUInt32.toUInt16.toUInt32.toInt32)), .val (.int ((((p2.toUInt32 >>> ((8 : Int32) &&& 31).toUInt32).toInt32) &&& (255 : Int32)).toUInt32.toUInt16.toUInt32.toInt32)), .val (.int ((((p2.toUInt32 >>> ((16 : Int32) &&& 31).toUInt32).toInt32) &&& (255 : Int32)).toUInt32.toUInt16.toUInt32.toInt32))] [(.int (1 : Int32)), (.ref b46), (.ref b46), (.ref b43), (.ref b43)])) t
          refine XS.iload X49.here hx rfl (Jvm.hb hby d2_106) rfl ?_
          show Steps p.tables e below (T49.setTop (mkF m 108 #[.val (.int p1), .val (.int p2), .val (.int (p1 &&& (3 : Int32))), .val (.int ((p2 &&& (255 : Int32)).toUInt32.toUInt16.toUInt32.toInt32)), .val (.int ((((p2.toUInt32 >>> ((8 : Int32) &&& 31).toUInt32).toInt32) &&& (255 : Int32)).toUInt32.toUInt16.toUInt32.toInt32)), .val (.int ((((p2.toUInt32 >>> ((16 : Int32) &&& 31).toUInt32).toInt32) &&& (255 : Int32)).toUInt32.toUInt16.toUInt32.toInt32))] [(.int ((((p2.toUInt32 >>> ((8 : Int32) &&& 31).toUInt32).toInt32) &&& (255 : Int32)).toUInt32.toUInt16.toUInt32.toInt32)), (.int (1 : Int32)), (.ref b46), (.ref b46), (.ref b43), (.ref b43)])) t
          exact k
        have hin52 : ¬ (1 : Int32) < 0 ∧ (1 : Int32) < (3 : Int32) := by exact ⟨by decide, by decide⟩
        obtain ⟨cl52, Aq52, hj52, aq52⟩ := Ia.at Aw49 hin52
        obtain ⟨T52, h52, X52, e52, W52, st52⟩ := stC X49 hx hZ e49 Aq52 (j := (1 : Int32)) hj52 (g := (mkF m 108 #[.val (.int p1), .val (.int p2), .val (.int (p1 &&& (3 : Int32))), .val (.int ((p2 &&& (255 : Int32)).toUInt32.toUInt16.toUInt32.toInt32)), .val (.int ((((p2.toUInt32 >>> ((8 : Int32) &&& 31).toUInt32).toInt32) &&& (255 : Int32)).toUInt32.toUInt16.toUInt32.toInt32)), .val (.int ((((p2.toUInt32 >>> ((16 : Int32) &&& 31).toUInt32).toInt32) &&& (255 : Int32)).toUInt32.toUInt16.toUInt32.toInt32))] [(.int ((((p2.toUInt32 >>> ((8 : Int32) &&& 31).toUInt32).toInt32) &&& (255 : Int32)).toUInt32.toUInt16.toUInt32.toInt32)), (.int (1 : Int32)), (.ref b46), (.ref b46), (.ref b43), (.ref b43)])) rfl rfl (Jvm.hb hby d2_108)
        have KP52 : Keep h0 h52 [] := KP49.wr W52 (Or.inr sz_b46)
        have N52 := Fr.snoc X52 N49 gb_b46
        have E52_1 : Exa Z h52 b43 "java/lang/String" := E49_1.wr W52
        have F52_2 : Fld Z h52 b43 "java/lang/String" "coder" "B" (.int (0 : Int32)) := F49_2.other W52 (Or.inl ne46_0)
        have F52_3 : Fld Z h52 b43 "java/lang/String" "value" "[B" .null := F49_3.other W52 (Or.inl ne46_0)
        have CR52 : CHr Z EL0 s.vm h0 vm0 h52 := CR49.trans (CHr.wr W52 (own_safeA hZ.alike Aw49 (by decide)) CR49.1)
        have SK52 := Nat.le_trans SK49 (own_wrsz W52)
        have Aw52 : Ia Z h52 b46 .char (3 : Int32) (f2_u2 p2) := Aw49.set W52 hin52.1
        have K53 : ∀ t, Steps p.tables e below (T52.setTop (mkF m 109 #[.val (.int p1), .val (.int p2), .val (.int (p1 &&& (3 : Int32))), .val (.int ((p2 &&& (255 : Int32)).toUInt32.toUInt16.toUInt32.toInt32)), .val (.int ((((p2.toUInt32 >>> ((8 : Int32) &&& 31).toUInt32).toInt32) &&& (255 : Int32)).toUInt32.toUInt16.toUInt32.toInt32)), .val (.int ((((p2.toUInt32 >>> ((16 : Int32) &&& 31).toUInt32).toInt32) &&& (255 : Int32)).toUInt32.toUInt16.toUInt32.toInt32))] [(.ref b46), (.ref b43), (.ref b43)])) t → Steps p.tables e below (T49.setTop (mkF m 108 #[.val (.int p1), .val (.int p2), .val (.int (p1 &&& (3 : Int32))), .val (.int ((p2 &&& (255 : Int32)).toUInt32.toUInt16.toUInt32.toInt32)), .val (.int ((((p2.toUInt32 >>> ((8 : Int32) &&& 31).toUInt32).toInt32) &&& (255 : Int32)).toUInt32.toUInt16.toUInt32.toInt32)), .val (.int ((((p2.toUInt32 >>> ((16 : Int32) &&& 31).toUInt32).toInt32) &&& (255 : Int32)).toUInt32.toUInt16.toUInt32.toInt32))] [(.int ((((p2.toUInt32 >>> ((8 : Int32) &&& 31).toUInt32).toInt32) &&& (255 : Int32)).toUInt32.toUInt16.toUInt32.toInt32)), (.int (1 : Int32)), (.ref b46), (.ref b46), (.ref b43), (.ref b43)])) t := fun t k => st52 _ k
        have K54 : ∀ t, Steps p.tables e below (T52.setTop (mkF m 113 #[.val (.int p1), .val (.int p2), .val (.int (p1 &&& (3 : Int32))), .val (.int ((p2 &&& (255 : Int32)).toUInt32.toUInt16.toUInt32.toInt32)), .val (.int ((((p2.toUInt32 >>> ((8 : Int32) &&& 31).toUInt32).toInt32) &&& (255 : Int32)).toUInt32.toUInt16.toUInt32.toInt32)), .val (.int ((((p2.toUInt32 >>> ((16 : Int32) &&& 31).toUInt32).toInt32) &&& (255 : Int32)).toUInt32.toUInt16.toUInt32.toInt32))] [(.int ((((p2.toUInt32 >>> ((16 : Int32) &&& 31).toUInt32).toInt32) &&& (255 : Int32)).toUInt32.toUInt16.toUInt32.toInt32)), (.int (2 : Int32)), (.ref b46), (.ref b46), (.ref b43), (.ref b43)])) t → Steps p.tables e below (T52.setTop (mkF m 109 #[.val (.int p1), .val (.int p2), .val (.int (p1 &&& (3 : Int32))), .val (.int ((p2 &&& (255 : Int32)).toUInt32.toUInt16.toUInt32.toInt32)), .val (.int ((((p2.toUInt32 >>> ((8 : Int32) &&& 31).toUInt32).toInt32) &&& (255 : Int32)).toUInt32.toUInt16.toUInt32.toInt32)), .val (.int ((((p2.toUInt32 >>> ((16 : Int32) &&& 31).toUInt32).toInt32) &&& (255 : Int32)).toUInt32.toUInt16.toUInt32.toInt32))] [(.ref b46), (.ref b43), (.ref b43)])) t := by
          intro t k
          refine XS.dup X52.here hx rfl (Jvm.hb hby d2_109) rfl rfl ?_
          show Steps p.tables e below (T52.setTop (mkF m 110 #[.val (.int p1), .val (.int p2), .val (.int (p1 &&& (3 : Int32))), .val (.int ((p2 &&& (255 : Int32)).toUInt32.toUInt16.toUInt32.toInt32)), .val (.int ((((p2.toUInt32 >>> ((8 : Int32) &&& 31).toUInt32).toInt32) &&& (255 : Int32)).toUInt32.toUInt16.toUInt32.toInt32)), .val (.int ((((p2.toUInt32 >>> ((16 : Int32) &&& 31).toUInt32).toInt32) &&& (255 : Int32)).toUInt32.toUInt16.toUInt32.toInt32))] [(.ref b46), (.ref b46), (.ref b43), (.ref b43)])) t
          refine XS.iconst X52.here hx rfl (Jvm.hb hby d2_110) ?_
          show Steps p.tables e below (T52.setTop (mkF m 111 #[.val (.int p1), .val (.int p2), .val (.int (p1 &&& (3 : Int32))), .val (.int ((p2 &&& (255 : Int32)).toUInt32.toUInt16.toUInt32.toInt32)), .val (.int ((((p2.toUInt32 >>> ((8 : Int32) &&& 31).toUInt32).toInt32) &&& (255 : Int32)).toUInt32.toUInt16.toUInt32.toInt32)), .val (.int ((((p2.toUInt32 >>> ((16 : Int32) &&& 31).toUInt32).toInt32) &&& (255 : Int32)).toUInt32.toUInt16.toUInt32.toInt32))] [(.int (2 : Int32)), (.ref b46), (.ref b46), (.ref b43), (.ref b43)])) t
          refine XS.iload X52.here hx rfl (Jvm.hb hby d2_111) rfl ?_
          show Steps p.tables e below (T52.setTop (mkF m 113 #[.val (.int p1), .val (.int p2), .val (.int (p1 &&& (3 : Int32))), .val (.int ((p2 &&& (255 : Int32)).toUInt32.toUInt16.toUInt32.toInt32)), .val (.int ((((p2.toUInt32 >>> ((8 : Int32) &&& 31).toUInt32).toInt32) &&& (255 : Int32)).toUInt32.toUInt16.toUInt32.toInt32)), .val (.int ((((p2.toUInt32 >>> ((16 : Int32) &&& 31).toUInt32).toInt32) &&& (255 : Int32)).toUInt32.toUInt16.toUInt32.toInt32))] [(.int ((((p2.toUInt32 >>> ((16 : Int32) &&& 31).toUInt32).toInt32) &&& (255 : Int32)).toUInt32.toUInt16.toUInt32.toInt32)), (.int (2 : Int32)), (.ref b46), (.ref b46), (.ref b43), (.ref b43)])) t
          exact k
        have hin55 : ¬ (2 : Int32) < 0 ∧ (2 : Int32) < (3 : Int32) := by exact ⟨by decide, by decide⟩
        obtain ⟨cl55, Aq55, hj55, aq55⟩ := Ia.at Aw52 hin55
        obtain ⟨T55, h55, X55, e55, W55, st55⟩ := stC X52 hx hZ e52 Aq55 (j := (2 : Int32)) hj55 (g := (mkF m 113 #[.val (.int p1), .val (.int p2), .val (.int (p1 &&& (3 : Int32))), .val (.int ((p2 &&& (255 : Int32)).toUInt32.toUInt16.toUInt32.toInt32)), .val (.int ((((p2.toUInt32 >>> ((8 : Int32) &&& 31).toUInt32).toInt32) &&& (255 : Int32)).toUInt32.toUInt16.toUInt32.toInt32)), .val (.int ((((p2.toUInt32 >>> ((16 : Int32) &&& 31).toUInt32).toInt32) &&& (255 : Int32)).toUInt32.toUInt16.toUInt32.toInt32))] [(.int ((((p2.toUInt32 >>> ((16 : Int32) &&& 31).toUInt32).toInt32) &&& (255 : Int32)).toUInt32.toUInt16.toUInt32.toInt32)), (.int (2 : Int32)), (.ref b46), (.ref b46), (.ref b43), (.ref b43)])) rfl rfl (Jvm.hb hby d2_113)
        have KP55 : Keep h0 h55 [] := KP52.wr W55 (Or.inr sz_b46)
        have N55 := Fr.snoc X55 N52 gb_b46
        have E55_1 : Exa Z h55 b43 "java/lang/String" := E52_1.wr W55
        have F55_2 : Fld Z h55 b43 "java/lang/String" "coder" "B" (.int (0 : Int32)) := F52_2.other W55 (Or.inl ne46_0)
        have F55_3 : Fld Z h55 b43 "java/lang/String" "value" "[B" .null := F52_3.other W55 (Or.inl ne46_0)
        have CR55 : CHr Z EL0 s.vm h0 vm0 h55 := CR52.trans (CHr.wr W55 (own_safeA hZ.alike Aw52 (by decide)) CR52.1)
        have SK55 := Nat.le_trans SK52 (own_wrsz W55)
        have Aw55 : Ia Z h55 b46 .char (3 : Int32) (f2_u3 p2) := Aw52.set W55 hin55.1
        have K56 : ∀ t, Steps p.tables e below (T55.setTop (mkF m 114 #[.val (.int p1), .val (.int p2), .val (.int (p1 &&& (3 : Int32))), .val (.int ((p2 &&& (255 : Int32)).toUInt32.toUInt16.toUInt32.toInt32)), .val (.int ((((p2.toUInt32 >>> ((8 : Int32) &&& 31).toUInt32).toInt32) &&& (255 : Int32)).toUInt32.toUInt16.toUInt32.toInt32)), .val (.int ((((p2.toUInt32 >>> ((16 : Int32) &&& 31).toUInt32).toInt32) &&& (255 : Int32)).toUInt32.toUInt16.toUInt32.toInt32))] [(.ref b46), (.ref b43), (.ref b43)])) t → Steps p.tables e below (T52.setTop (mkF m 113 #[.val (.int p1), .val (.int p2), .val (.int (p1 &&& (3 : Int32))), .val (.int ((p2 &&& (255 : Int32)).toUInt32.toUInt16.toUInt32.toInt32)), .val (.int ((((p2.toUInt32 >>> ((8 : Int32) &&& 31).toUInt32).toInt32) &&& (255 : Int32)).toUInt32.toUInt16.toUInt32.toInt32)), .val (.int ((((p2.toUInt32 >>> ((16 : Int32) &&& 31).toUInt32).toInt32) &&& (255 : Int32)).toUInt32.toUInt16.toUInt32.toInt32))] [(.int ((((p2.toUInt32 >>> ((16 : Int32) &&& 31).toUInt32).toInt32) &&& (255 : Int32)).toUInt32.toUInt16.toUInt32.toInt32)), (.int (2 : Int32)), (.ref b46), (.ref b46), (.ref b43), (.ref b43)])) t := fun t k => st55 _ k
        obtain ⟨_, _, ⟨T57, L57, k57, n57⟩, -, X57, ⟨Lc57, hQ57, l57, y57, z57⟩, st57⟩ := X55.specialBack hx (y := (⟨"java/lang/String", "<init>", "([C)V"⟩ : MethodName)) rfl hown (mvT hZ (hw _ (List.mem_of_getElem? (i := 11) rfl))) (mvT hZ (hw _ (List.mem_of_getElem? (i := 12) rfl))) (mvT hZ (hw _ (List.mem_of_getElem? (i := 13) rfl))) (by decide) (backOf (W := 1) (rm3 l Z a0 hw [] b43 b46 (3 : Int32) (f2_u3 p2) w_COMPACT_STRINGS (.int (0 : Int32)) .null h55 n0 (Nat.le_trans Z0 KP55.1) (by decide) (by decide) (fun j _ _ => (own_chs _ _ _ (own_chs _ _ _ (own_chs _ _ _ (fun _ => by decide) (own_lb _)) (own_lb _)) (own_lb _)) j) hcs Aw55 (S_COMPACT_STRINGS.ext (own_ext KP55)) E55_1 F55_2 F55_3 gb_b43) hZ (hw _ (List.mem_of_getElem? (i := 13) rfl)) (hw _ (List.mem_of_getElem? (i := 9) rfl)) (by decide) (by decide)) (g := (mkF m 114 #[.val (.int p1), .val (.int p2), .val (.int (p1 &&& (3 : Int32))), .val (.int ((p2 &&& (255 : Int32)).toUInt32.toUInt16.toUInt32.toInt32)), .val (.int ((((p2.toUInt32 >>> ((8 : Int32) &&& 31).toUInt32).toInt32) &&& (255 : Int32)).toUInt32.toUInt16.toUInt32.toInt32)), .val (.int ((((p2.toUInt32 >>> ((16 : Int32) &&& 31).toUInt32).toInt32) &&& (255 : Int32)).toUInt32.toUInt16.toUInt32.toInt32))] [(.ref b46), (.ref b43), (.ref b43)])) rfl (by rw [hml]; rfl) (Steps.refl _) (a := b43) (argsL := [(.ref b46)]) (rest := [(.ref b43)]) (lenOf pd_2 rfl) rfl (by show 2 * 0 + _ ≤ _; exact Nat.le_of_eq rfl) (Jvm.hb hby d2_114) (fun _ _ => ⟨rfl, e55, (by decide : 2 + 1 ≤ _), (by decide : 7 + 3 ≤ _)⟩)
        dsimp only [Pt.U, Pt.locs, Pt.cells, Pt.slots] at X57 l57 y57 z57 st57 hQ57
        subst l57 y57 z57
        obtain ⟨h57, e57⟩ : ∃ z, T57.heap = z := ⟨_, rfl⟩
        rw [e57] at hQ57
        obtain ⟨b57_x1, rfl, N57q, Kq57, szq_b57_x1, gb_b57_x1, R57_0, R57_1, R57_2, R57_3⟩ := hQ57
        have N57 := Fr.app N55 N57q
        have KP57 : Keep h0 h57 [] := KP55.trans Kq57 (allS (Or.inr sz_b43) all0)
        have A57_1 : Ia Z h57 b46 .char (3 : Int32) (f2_u3 p2) := Aw55.keep Kq57 (ninS (Ne.symm ne46_0) nin0)
        have CR57 : CHr Z EL0 s.vm h0 vm0 h57 := CR55.trans (CHr.keep Kq57 (allS (own_safe hZ.alike E55_1 F55_3) all0) CR55.1)
        have SK57 := Nat.le_trans SK55 Kq57.1
        have ne57_x1_2 : b43 ≠ b57_x1 := Nat.ne_of_lt (Nat.lt_of_lt_of_le E55_1.lt szq_b57_x1)
        have ne57_x1_4 : b46 ≠ b57_x1 := Nat.ne_of_lt (Nat.lt_of_lt_of_le Aw55.lt szq_b57_x1)
        have sz_b57_x1 : h0.size ≤ b57_x1 := Nat.le_trans KP55.1 szq_b57_x1
        have K58 : ∀ t, Steps p.tables e below (T57.setTop (mkF m 117 #[.val (.int p1), .val (.int p2), .val (.int (p1 &&& (3 : Int32))), .val (.int ((p2 &&& (255 : Int32)).toUInt32.toUInt16.toUInt32.toInt32)), .val (.int ((((p2.toUInt32 >>> ((8 : Int32) &&& 31).toUInt32).toInt32) &&& (255 : Int32)).toUInt32.toUInt16.toUInt32.toInt32)), .val (.int ((((p2.toUInt32 >>> ((16 : Int32) &&& 31).toUInt32).toInt32) &&& (255 : Int32)).toUInt32.toUInt16.toUInt32.toInt32))] [(.ref b43)])) t → Steps p.tables e below (T55.setTop (mkF m 114 #[.val (.int p1), .val (.int p2), .val (.int (p1 &&& (3 : Int32))), .val (.int ((p2 &&& (255 : Int32)).toUInt32.toUInt16.toUInt32.toInt32)), .val (.int ((((p2.toUInt32 >>> ((8 : Int32) &&& 31).toUInt32).toInt32) &&& (255 : Int32)).toUInt32.toUInt16.toUInt32.toInt32)), .val (.int ((((p2.toUInt32 >>> ((16 : Int32) &&& 31).toUInt32).toInt32) &&& (255 : Int32)).toUInt32.toUInt16.toUInt32.toInt32))] [(.ref b46), (.ref b43), (.ref b43)])) t := fun t k => st57.trans k
        obtain ⟨fs, hr, hrun, hended, hRW⟩ := X57.leaveW hS (show _ ≤ T57.heap.size from (by rw [e57]; exact SK57)) (v := some (.ref b43)) (fun h => by rw [Bd.returns] at h; cases h) Bd.notSynchronized
        refine ⟨_, _, pre0 _ (K1 _ (K11 _ (K12 _ (K25 _ (K26 _ (K42 _ (K44 _ (K45 _ (K47 _ (K48 _ (K50 _ (K51 _ (K53 _ (K54 _ (K56 _ (K58 _ (retOut X57 hx Bd.returns rfl (Or.inr (Or.inr (Or.inr (Or.inr ⟨rfl, rfl, rfl⟩)))) (Jvm.hb hby d2_117) hr))))))))))))))))), hrun, hended, _, _, rfl, ?_, (show CHr Z EL0 s.vm s.heap T57.vm T57.heap from by rw [hh, e57]; exact CR57.trans (CHv.at X57 hZ (ew0 hw) CR57.1)), hRW.1, hRW.2.1, hRW.2.2.1, hRW.2.2.2.mono (by decide) (by decide)⟩
        show Q2 Z p1 p2 w_COMPACT_STRINGS h0 n0 _ T57.heap _
        rw [e57]
        exact ⟨b43, b57_x1, rfl, N57, KP57, sz_b43, gb_b43, ne57_x1_2, R57_0, (by rw [show (f2_u4 p1) = (3 : Int32) from (if_neg hc2).trans ((if_neg hc13).trans (if_neg hc27)), show (f2_u5 p1 p2) = (f7_G_a30 (3 : Int32) (f2_u3 p2) (fun _ => 0)) from (if_neg hc2).trans ((if_neg hc13).trans (if_neg hc27))]; exact R57_1), R57_3, R57_2⟩
-- body 21: java/lang/Number.<init>()V
theorem d21_0 : decode jdk_18_method_1_code 0 = .ok (.aload_n 0, 1) := by decide +kernel
theorem d21_1 : decode jdk_18_method_1_code 1 = .ok (.invokespecial 1, 3) := by decide +kernel
theorem d21_4 : decode jdk_18_method_1_code 4 = .ok (.return_, 1) := by decide +kernel
theorem pn_21 : plainName "java/lang/Number" = true := by first | (simp [plainName, overriddenIn]; done) | decide +kernel
theorem ef_21 (m : MethodId) (a1 : Addr) : entryFrame m #[(.ref a1)] 1 = mkF m 0 #[.val (.ref a1)] [] := by first | (simp [entryFrame, mkF, argsToLocals, Value.category]; done) | rfl
def Q21 (Z : State) (a1 : Addr) (h0 : Heap) (n0 : Nat) (v : Option Value) (h : Heap) (L : List Loc) : Prop := v = none ∧ Fr n0 L ∧ h = h0
set_option maxRecDepth 65536 in
set_option maxHeartbeats 40000000 in
theorem rm21 (l : Launch) (Z : State) (a0 : Array Value) (hw : ∀ d ∈ tables_1, d.before a0 Z = true) (ws : List Jvm.Cond) (a1 : Addr) (h0 : Heap) (n0 : Nat) (Z0 : n0 ≤ h0.size) :
    MetFree l (⟨"java/lang/Number", "<init>", "()V"⟩ : MethodName) (head1 (Jvm.Cond.code (⟨"java/lang/Number", "<init>", "()V"⟩ : MethodName) jdk_18_method_1_code 1 none :: ws) ({ frames := 1, cells := 0, slots := 0, locals := 12 } : Room)) (fun a U => a = #[(.ref a1)] ∧ Z.Warmed39 U.vm ∧ U.heap = h0) (fun _ _ _ _ _ => True) (fun _ U o U' => ∃ v L, o = .returned v ∧ Q21 Z a1 h0 n0 v U'.heap L ∧ FrameEnd U o U' L ({ frames := 1, cells := 0, slots := 0, locals := 12 } : Room).cells ({ frames := 1, cells := 0, slots := 0, locals := 12 } : Room).slots) := by
  refine MetFree.of_bodySF (plainFor_of_name pn_21) hisR ?_
  intro p e s m args below meth c s₁ Bd hml0 hP hK
  obtain ⟨rfl, hZ, hh⟩ := hP
  have hx := Bd.exec
  have hby := Bd.bytes
  have hml : c.maxLocals = 1 := hml0
  have hown : s.vm.findClass "java/lang/Number" = some m.cls := findClass_of_methodNamed Bd.named
  have hnm := (name_of_methodNamed Bd.named Bd.method).1
  have X0 : Stand p l e ({ frames := 1, cells := 0, slots := 0, locals := 12 } : Room) s m #[(.ref a1)] below meth c s₁ [] 0 0 := Stand.of_body Bd
  have e0 : s₁.heap = h0 := by rw [← hh, Bd.state]; rfl
  have N0 := Fr.nil n0
  have pre0 : ∀ t, Steps p.tables e below (s₁.setTop (mkF m 0 #[.val (.ref a1)] [])) t → Steps p.tables e below (s₁.setTop (entryFrame m #[(.ref a1)] 1)) t := fun t k => castTop (ef_21 m a1) k
  have K1 : ∀ t, Steps p.tables e below (s₁.setTop (mkF m 1 #[.val (.ref a1)] [(.ref a1)])) t → Steps p.tables e below (s₁.setTop (mkF m 0 #[.val (.ref a1)] [])) t := by
    intro t k
    refine XS.aloadN X0.here hx rfl (Jvm.hb hby d21_0) rfl rfl ?_
    show Steps p.tables e below (s₁.setTop (mkF m 1 #[.val (.ref a1)] [(.ref a1)])) t
    exact k
  obtain ⟨T2, X2, e2, st2⟩ := initO X0 hx hZ hown (hw _ (List.mem_of_getElem? (i := 125) rfl)) (hw _ (List.mem_of_getElem? (i := 19) rfl)) (hw _ (List.mem_of_getElem? (i := 20) rfl)) e0 (g := (mkF m 1 #[.val (.ref a1)] [(.ref a1)])) rfl (by rw [hml]; rfl) rfl (Jvm.hb hby d21_1) (by decide) (W := 0) (by show 2 * 0 + _ ≤ _; exact Nat.le_of_eq rfl) (by decide)
  have K3 : ∀ t, Steps p.tables e below (T2.setTop (mkF m 4 #[.val (.ref a1)] [])) t → Steps p.tables e below (s₁.setTop (mkF m 1 #[.val (.ref a1)] [(.ref a1)])) t := fun t k => st2 _ k
  obtain ⟨fs, hr, hrun, hended, hW, hsame⟩ := X2.leave (v := none) (fun _ => rfl) Bd.notSynchronized
  refine ⟨_, _, pre0 _ (K1 _ (K3 _ (X2.returnOut hx Bd.returns (Jvm.hb hby d21_4) hr))), hrun, hended, _, _, rfl, ?_, ⟨_, rfl⟩, hW, hsame.mono (by decide) (by decide)⟩
  show Q21 Z a1 h0 n0 _ T2.heap _
  rw [e2]
  exact ⟨rfl, N0, rfl⟩
-- body 20: java/lang/Integer.<init>(I)V
theorem d20_0 : decode jdk_33_method_23_code 0 = .ok (.aload_n 0, 1) := by decide +kernel
theorem d20_1 : decode jdk_33_method_23_code 1 = .ok (.invokespecial 202, 3) := by decide +kernel
theorem d20_4 : decode jdk_33_method_23_code 4 = .ok (.aload_n 0, 1) := by decide +kernel
theorem d20_5 : decode jdk_33_method_23_code 5 = .ok (.iload_n 1, 1) := by decide +kernel
theorem d20_6 : decode jdk_33_method_23_code 6 = .ok (.putfield 205, 3) := by decide +kernel
theorem d20_9 : decode jdk_33_method_23_code 9 = .ok (.return_, 1) := by decide +kernel
theorem pn_20 : plainName "java/lang/Integer" = true := by first | (simp [plainName, overriddenIn]; done) | decide +kernel
theorem pd_4 : parseMethodDescriptor "()V" = some ⟨[], none⟩ := by decide +kernel
theorem ef_20 (m : MethodId) (a1 : Addr) (p2 : Int32) : entryFrame m #[(.ref a1), (.int p2)] 2 = mkF m 0 #[.val (.ref a1), .val (.int p2)] [] := by first | (simp [entryFrame, mkF, argsToLocals, Value.category]; done) | rfl
def Q20 (Z : State) (a1 : Addr) (p2 : Int32) (u_value_a1 : Value) (h0 : Heap) (n0 : Nat) (v : Option Value) (h : Heap) (L : List Loc) : Prop := v = none ∧ Fr n0 L ∧ Keep h0 h [a1] ∧ Exa Z h a1 "java/lang/Integer" ∧ Fld Z h a1 "java/lang/Integer" "value" "I" (.int p2)
set_option maxRecDepth 65536 in
set_option maxHeartbeats 40000000 in
theorem rm20 (l : Launch) (Z : State) (a0 : Array Value) (hw : ∀ d ∈ tables_1, d.before a0 Z = true) (ws : List Jvm.Cond) (a1 : Addr) (p2 : Int32) (u_value_a1 : Value) (h0 : Heap) (n0 : Nat) (Z0 : n0 ≤ h0.size) (E_a1 : Exa Z h0 a1 "java/lang/Integer") (F_value_a1 : Fld Z h0 a1 "java/lang/Integer" "value" "I" u_value_a1) (g_a1 : n0 ≤ a1) :
    MetFree l (⟨"java/lang/Integer", "<init>", "(I)V"⟩ : MethodName) (head1 (Jvm.Cond.code (⟨"java/lang/Integer", "<init>", "(I)V"⟩ : MethodName) jdk_33_method_23_code 2 none :: ws) ({ frames := 2, cells := 0, slots := 0, locals := 24 } : Room)) (fun a U => a = #[(.ref a1), (.int p2)] ∧ Z.Warmed39 U.vm ∧ U.heap = h0) (fun _ _ _ _ _ => True) (fun _ U o U' => ∃ v L, o = .returned v ∧ Q20 Z a1 p2 u_value_a1 h0 n0 v U'.heap L ∧ FrameEnd U o U' L ({ frames := 2, cells := 0, slots := 0, locals := 24 } : Room).cells ({ frames := 2, cells := 0, slots := 0, locals := 24 } : Room).slots) := by
  refine MetFree.of_bodySF (plainFor_of_name pn_20) hisR ?_
  intro p e s m args below meth c s₁ Bd hml0 hP hK
  obtain ⟨rfl, hZ, hh⟩ := hP
  have hx := Bd.exec
  have hby := Bd.bytes
  have hml : c.maxLocals = 2 := hml0
  have hown : s.vm.findClass "java/lang/Integer" = some m.cls := findClass_of_methodNamed Bd.named
  have hnm := (name_of_methodNamed Bd.named Bd.method).1
  have X0 : Stand p l e ({ frames := 2, cells := 0, slots := 0, locals := 24 } : Room) s m #[(.ref a1), (.int p2)] below meth c s₁ [] 0 0 := Stand.of_body Bd
  have e0 : s₁.heap = h0 := by rw [← hh, Bd.state]; rfl
  have N0 := Fr.nil n0
  have pre0 : ∀ t, Steps p.tables e below (s₁.setTop (mkF m 0 #[.val (.ref a1), .val (.int p2)] [])) t → Steps p.tables e below (s₁.setTop (entryFrame m #[(.ref a1), (.int p2)] 2)) t := fun t k => castTop (ef_20 m a1 p2) k
  have K1 : ∀ t, Steps p.tables e below (s₁.setTop (mkF m 1 #[.val (.ref a1), .val (.int p2)] [(.ref a1)])) t → Steps p.tables e below (s₁.setTop (mkF m 0 #[.val (.ref a1), .val (.int p2)] [])) t := by
    intro t k
    refine XS.aloadN X0.here hx rfl (Jvm.hb hby d20_0) rfl rfl ?_
    show Steps p.tables e below (s₁.setTop (mkF m 1 #[.val (.ref a1), .val (.int p2)] [(.ref a1)])) t
    exact k
  obtain ⟨_, _, ⟨T2, L2, k2, n2⟩, -, X2, ⟨Lc2, hQ2, l2, y2, z2⟩, st2⟩ := X0.specialBack hx (y := (⟨"java/lang/Number", "<init>", "()V"⟩ : MethodName)) rfl hown (mvT hZ (hw _ (List.mem_of_getElem? (i := 119) rfl))) (mvT hZ (hw _ (List.mem_of_getElem? (i := 120) rfl))) (mvT hZ (hw _ (List.mem_of_getElem? (i := 124) rfl))) (by decide) (backOf (W := 0) (rm21 l Z a0 hw [] a1 h0 n0 Z0 ) hZ (hw _ (List.mem_of_getElem? (i := 124) rfl)) (hw _ (List.mem_of_getElem? (i := 123) rfl)) (by decide) (by decide)) (g := (mkF m 1 #[.val (.ref a1), .val (.int p2)] [(.ref a1)])) rfl (by rw [hml]; rfl) (Steps.refl _) (a := a1) (argsL := []) (rest := []) (lenOf pd_4 rfl) rfl (by show 2 * 0 + _ ≤ _; exact Nat.le_of_eq rfl) (Jvm.hb hby d20_1) (fun _ _ => ⟨rfl, e0, (by decide : 0 + 0 ≤ _), (by decide : 0 + 0 ≤ _)⟩)
  dsimp only [Pt.U, Pt.locs, Pt.cells, Pt.slots] at X2 l2 y2 z2 st2 hQ2
  subst l2 y2 z2
  obtain ⟨rfl, N2q, e2⟩ := hQ2
  have N2 := Fr.app N0 N2q
  have K3 : ∀ t, Steps p.tables e below (T2.setTop (mkF m 4 #[.val (.ref a1), .val (.int p2)] [])) t → Steps p.tables e below (s₁.setTop (mkF m 1 #[.val (.ref a1), .val (.int p2)] [(.ref a1)])) t := fun t k => st2.trans k
  have K4 : ∀ t, Steps p.tables e below (T2.setTop (mkF m 6 #[.val (.ref a1), .val (.int p2)] [(.int p2), (.ref a1)])) t → Steps p.tables e below (T2.setTop (mkF m 4 #[.val (.ref a1), .val (.int p2)] [])) t := by
    intro t k
    refine XS.aloadN X2.here hx rfl (Jvm.hb hby d20_4) rfl rfl ?_
    show Steps p.tables e below (T2.setTop (mkF m 5 #[.val (.ref a1), .val (.int p2)] [(.ref a1)])) t
    refine XS.iloadN X2.here hx rfl (Jvm.hb hby d20_5) rfl ?_
    show Steps p.tables e below (T2.setTop (mkF m 6 #[.val (.ref a1), .val (.int p2)] [(.int p2), (.ref a1)])) t
    exact k
  obtain ⟨T5, h5, X5, e5, W5, st5⟩ := putF X2 hx hZ hown (host := "") (Or.inl (hw _ (List.mem_of_getElem? (i := 126) rfl))) Via.refl e2 F_value_a1 E_a1 (Or.inr ⟨(hw _ (List.mem_of_getElem? (i := 127) rfl)), rfl, hnm⟩) (hw _ (List.mem_of_getElem? (i := 114) rfl)) (ty := .int) (by decide) rfl rfl (g := (mkF m 6 #[.val (.ref a1), .val (.int p2)] [(.int p2), (.ref a1)])) rfl rfl (Jvm.hb hby d20_6)
  have KP5 : Keep h0 h5 [a1] := (Keep.refl h0 [a1]).wr W5 (Or.inl (List.mem_of_getElem? (i := 0) rfl))
  have N5 := Fr.snoc X5 N2 g_a1
  have E5_0 : Exa Z h5 a1 "java/lang/Integer" := E_a1.wr W5
  have Fw5 : Fld Z h5 a1 "java/lang/Integer" "value" "I" (.int p2) := F_value_a1.same W5
  have K6 : ∀ t, Steps p.tables e below (T5.setTop (mkF m 9 #[.val (.ref a1), .val (.int p2)] [])) t → Steps p.tables e below (T2.setTop (mkF m 6 #[.val (.ref a1), .val (.int p2)] [(.int p2), (.ref a1)])) t := fun t k => st5 _ k
  obtain ⟨fs, hr, hrun, hended, hW, hsame⟩ := X5.leave (v := none) (fun _ => rfl) Bd.notSynchronized
  refine ⟨_, _, pre0 _ (K1 _ (K3 _ (K4 _ (K6 _ (X5.returnOut hx Bd.returns (Jvm.hb hby d20_9) hr))))), hrun, hended, _, _, rfl, ?_, ⟨_, rfl⟩, hW, hsame.mono (by decide) (by decide)⟩
  show Q20 Z a1 p2 u_value_a1 h0 n0 _ T5.heap _
  rw [e5]
  exact ⟨rfl, N5, KP5, E5_0, Fw5⟩
-- body 19: java/lang/Integer.valueOf(I)Ljava/lang/Integer;
theorem d19_0 : decode jdk_33_method_22_code 0 = .ok (.iload_n 0, 1) := by decide +kernel
theorem d19_1 : decode jdk_33_method_22_code 1 = .ok (.bipush (-128), 2) := by decide +kernel
theorem d19_3 : decode jdk_33_method_22_code 3 = .ok (.if_icmp .lt 20, 3) := by decide +kernel
theorem d19_6 : decode jdk_33_method_22_code 6 = .ok (.iload_n 0, 1) := by decide +kernel
theorem d19_7 : decode jdk_33_method_22_code 7 = .ok (.getstatic 191, 3) := by decide +kernel
theorem d19_10 : decode jdk_33_method_22_code 10 = .ok (.if_icmp .gt 13, 3) := by decide +kernel
theorem d19_13 : decode jdk_33_method_22_code 13 = .ok (.getstatic 195, 3) := by decide +kernel
theorem d19_16 : decode jdk_33_method_22_code 16 = .ok (.iload_n 0, 1) := by decide +kernel
theorem d19_17 : decode jdk_33_method_22_code 17 = .ok (.sipush 128, 3) := by decide +kernel
theorem d19_20 : decode jdk_33_method_22_code 20 = .ok (.iadd, 1) := by decide +kernel
theorem d19_21 : decode jdk_33_method_22_code 21 = .ok (.aaload, 1) := by decide +kernel
theorem d19_22 : decode jdk_33_method_22_code 22 = .ok (.areturn, 1) := by decide +kernel
theorem d19_23 : decode jdk_33_method_22_code 23 = .ok (.new 1, 3) := by decide +kernel
theorem d19_26 : decode jdk_33_method_22_code 26 = .ok (.dup, 1) := by decide +kernel
theorem d19_27 : decode jdk_33_method_22_code 27 = .ok (.iload_n 0, 1) := by decide +kernel
theorem d19_28 : decode jdk_33_method_22_code 28 = .ok (.invokespecial 199, 3) := by decide +kernel
theorem d19_31 : decode jdk_33_method_22_code 31 = .ok (.areturn, 1) := by decide +kernel
theorem pn_19 : plainName "java/lang/Integer" = true := by first | (simp [plainName, overriddenIn]; done) | decide +kernel
theorem pd_16 : parseMethodDescriptor "(I)V" = some ⟨[.int], none⟩ := by decide +kernel
theorem ef_19 (m : MethodId) (p1 : Int32) : entryFrame m #[(.int p1)] 1 = mkF m 0 #[.val (.int p1)] [] := by first | (simp [entryFrame, mkF, argsToLocals, Value.category]; done) | rfl
def Q19 (Z : State) (p1 : Int32) (w_high : Int32) (w_cache : Addr) (h0 : Heap) (n0 : Nat) (v : Option Value) (h : Heap) (L : List Loc) : Prop := ∃ d : Value, v = some d ∧ d.isRef = true ∧ Fr n0 L ∧ Keep h0 h []
set_option maxRecDepth 65536 in
set_option maxHeartbeats 40000000 in
theorem rm19 (l : Launch) (Z : State) (a0 : Array Value) (hw : ∀ d ∈ tables_1, d.before a0 Z = true) (ws : List Jvm.Cond) (p1 : Int32) (w_high : Int32) (w_cache : Addr) (h0 : Heap) (n0 : Nat) (Z0 : n0 ≤ h0.size) (hhi : w_high = 127) (S_high : Sta Z h0 "java/lang/Integer$IntegerCache" "high" "I" (.int w_high)) (S_cache : Sta Z h0 "java/lang/Integer$IntegerCache" "cache" "[Ljava/lang/Integer;" (.ref w_cache)) (Ra_w_cache : Ra Z h0 w_cache) :
    MetFree l (⟨"java/lang/Integer", "valueOf", "(I)Ljava/lang/Integer;"⟩ : MethodName) (head1 (Jvm.Cond.code (⟨"java/lang/Integer", "valueOf", "(I)Ljava/lang/Integer;"⟩ : MethodName) jdk_33_method_22_code 1 (some (.object "java/lang/Integer")) :: ws) ({ frames := 3, cells := 1, slots := 1, locals := 38 } : Room)) (fun a U => a = #[(.int p1)] ∧ Z.Warmed39 U.vm ∧ U.heap = h0) (fun _ _ _ _ _ => True) (fun _ U o U' => ∃ v L, o = .returned v ∧ Q19 Z p1 w_high w_cache h0 n0 v U'.heap L ∧ FrameEnd U o U' L ({ frames := 3, cells := 1, slots := 1, locals := 38 } : Room).cells ({ frames := 3, cells := 1, slots := 1, locals := 38 } : Room).slots) := by
  refine MetFree.of_bodySF (plainFor_of_name pn_19) hisR ?_
  intro p e s m args below meth c s₁ Bd hml0 hP hK
  obtain ⟨rfl, hZ, hh⟩ := hP
  have hx := Bd.exec
  have hby := Bd.bytes
  have hml : c.maxLocals = 1 := hml0
  have hown : s.vm.findClass "java/lang/Integer" = some m.cls := findClass_of_methodNamed Bd.named
  have hnm := (name_of_methodNamed Bd.named Bd.method).1
  have X0 : Stand p l e ({ frames := 3, cells := 1, slots := 1, locals := 38 } : Room) s m #[(.int p1)] below meth c s₁ [] 0 0 := Stand.of_body Bd
  have e0 : s₁.heap = h0 := by rw [← hh, Bd.state]; rfl
  have N0 := Fr.nil n0
  have pre0 : ∀ t, Steps p.tables e below (s₁.setTop (mkF m 0 #[.val (.int p1)] [])) t → Steps p.tables e below (s₁.setTop (entryFrame m #[(.int p1)] 1)) t := fun t k => castTop (ef_19 m p1) k
  have K1 : ∀ t, Steps p.tables e below (s₁.setTop (mkF m 3 #[.val (.int p1)] [(.int (-128 : Int32)), (.int p1)])) t → Steps p.tables e below (s₁.setTop (mkF m 0 #[.val (.int p1)] [])) t := by
    intro t k
    refine XS.iloadN X0.here hx rfl (Jvm.hb hby d19_0) rfl ?_
    show Steps p.tables e below (s₁.setTop (mkF m 1 #[.val (.int p1)] [(.int p1)])) t
    refine XS.bipush X0.here hx rfl (Jvm.hb hby d19_1) ?_
    show Steps p.tables e below (s₁.setTop (mkF m 3 #[.val (.int p1)] [(.int (-128 : Int32)), (.int p1)])) t
    exact k
  by_cases hc2 : p1 < (-128 : Int32)
  · have K3 : ∀ t, Steps p.tables e below (s₁.setTop (mkF m 23 #[.val (.int p1)] [])) t → Steps p.tables e below (s₁.setTop (mkF m 3 #[.val (.int p1)] [(.int (-128 : Int32)), (.int p1)])) t := by
      intro t k
      refine XS.icmpYes X0.here hx rfl (pc0 := 3) (pc' := 23) rfl (Jvm.hb hby d19_3) rfl (tlt hc2).1 (by decide) (by decide) ?_
      exact k
    obtain ⟨T4, h4, X4, e4, E4, A4, D4, -, st4⟩ := newO X0 hx hZ hown (hw _ (List.mem_of_getElem? (i := 113) rfl)) (hw _ (List.mem_of_getElem? (i := 114) rfl)) (hw _ (List.mem_of_getElem? (i := 111) rfl)) e0 (g := (mkF m 23 #[.val (.int p1)] [])) rfl (Jvm.hb hby d19_23) (by decide) (by decide)
    obtain ⟨b4, g4⟩ : ∃ z, z = h0.size := ⟨_, rfl⟩
    rw [← g4] at A4 D4 st4
    have KP4 : Keep h0 h4 [] := (Keep.refl h0 []).ext E4
    have gb_b4 : n0 ≤ b4 := Nat.le_trans Z0 (Nat.le_of_eq g4.symm)
    have sz_b4 : h0.size ≤ b4 := Nat.le_trans (Keep.refl h0 []).1 (Nat.le_of_eq g4.symm)
    have F4_value : Fld Z h4 b4 "java/lang/Integer" "value" "I" (.int (0 : Int32)) := D4 (Or.inr (hw _ (List.mem_of_getElem? (i := 127) rfl))) (ty := .int) (by decide)
    have K5 : ∀ t, Steps p.tables e below (T4.setTop (mkF m 26 #[.val (.int p1)] [(.ref b4)])) t → Steps p.tables e below (s₁.setTop (mkF m 23 #[.val (.int p1)] [])) t := fun t k => st4 _ k
    have K6 : ∀ t, Steps p.tables e below (T4.setTop (mkF m 28 #[.val (.int p1)] [(.int p1), (.ref b4), (.ref b4)])) t → Steps p.tables e below (T4.setTop (mkF m 26 #[.val (.int p1)] [(.ref b4)])) t := by
      intro t k
      refine XS.dup X4.here hx rfl (Jvm.hb hby d19_26) rfl rfl ?_
      show Steps p.tables e below (T4.setTop (mkF m 27 #[.val (.int p1)] [(.ref b4), (.ref b4)])) t
      refine XS.iloadN X4.here hx rfl (Jvm.hb hby d19_27) rfl ?_
      show Steps p.tables e below (T4.setTop (mkF m 28 #[.val (.int p1)] [(.int p1), (.ref b4), (.ref b4)])) t
      exact k
    obtain ⟨_, _, ⟨T7, L7, k7, n7⟩, -, X7, ⟨Lc7, hQ7, l7, y7, z7⟩, st7⟩ := X4.specialBack hx (y := (⟨"java/lang/Integer", "<init>", "(I)V"⟩ : MethodName)) rfl hown (mvT hZ (hw _ (List.mem_of_getElem? (i := 115) rfl))) (mvT hZ (hw _ (List.mem_of_getElem? (i := 116) rfl))) (mvT hZ (hw _ (List.mem_of_getElem? (i := 118) rfl))) (by decide) (backOf (W := 1) (rm20 l Z a0 hw [] b4 p1 (.int (0 : Int32)) h4 n0 (Nat.le_trans Z0 KP4.1) A4 F4_value gb_b4) hZ (hw _ (List.mem_of_getElem? (i := 118) rfl)) (hw _ (List.mem_of_getElem? (i := 111) rfl)) (by decide) (by decide)) (g := (mkF m 28 #[.val (.int p1)] [(.int p1), (.ref b4), (.ref b4)])) rfl (by rw [hml]; rfl) (Steps.refl _) (a := b4) (argsL := [(.int p1)]) (rest := [(.ref b4)]) (lenOf pd_16 rfl) rfl (by show 2 * 0 + _ ≤ _; exact Nat.le_of_eq rfl) (Jvm.hb hby d19_28) (fun _ _ => ⟨rfl, e4, (by decide : 1 + 0 ≤ _), (by decide : 1 + 0 ≤ _)⟩)
    dsimp only [Pt.U, Pt.locs, Pt.cells, Pt.slots] at X7 l7 y7 z7 st7 hQ7
    subst l7 y7 z7
    obtain ⟨h7, e7⟩ : ∃ z, T7.heap = z := ⟨_, rfl⟩
    rw [e7] at hQ7
    obtain ⟨rfl, N7q, Kq7, R7_0, R7_1⟩ := hQ7
    have N7 := Fr.app N0 N7q
    have KP7 : Keep h0 h7 [] := KP4.trans Kq7 (allS (Or.inr sz_b4) all0)
    have K8 : ∀ t, Steps p.tables e below (T7.setTop (mkF m 31 #[.val (.int p1)] [(.ref b4)])) t → Steps p.tables e below (T4.setTop (mkF m 28 #[.val (.int p1)] [(.int p1), (.ref b4), (.ref b4)])) t := fun t k => st7.trans k
    obtain ⟨fs, hr, hrun, hended, hW, hsame⟩ := X7.leave (v := some (.ref b4)) (fun h => by rw [Bd.returns] at h; cases h) Bd.notSynchronized
    refine ⟨_, _, pre0 _ (K1 _ (K3 _ (K5 _ (K6 _ (K8 _ (retOut X7 hx Bd.returns rfl (Or.inr (Or.inr (Or.inr (Or.inr ⟨rfl, rfl, rfl⟩)))) (Jvm.hb hby d19_31) hr)))))), hrun, hended, _, _, rfl, ?_, ⟨_, rfl⟩, hW, hsame.mono (by decide) (by decide)⟩
    show Q19 Z p1 w_high w_cache h0 n0 _ T7.heap _
    rw [e7]
    exact ⟨_, rfl, rfl, N7, KP7⟩
  · have K9 : ∀ t, Steps p.tables e below (s₁.setTop (mkF m 6 #[.val (.int p1)] [])) t → Steps p.tables e below (s₁.setTop (mkF m 3 #[.val (.int p1)] [(.int (-128 : Int32)), (.int p1)])) t := by
      intro t k
      refine XS.icmpNo X0.here hx rfl (Jvm.hb hby d19_3) rfl (flt hc2).1 ?_
      exact k
    have K10 : ∀ t, Steps p.tables e below (s₁.setTop (mkF m 7 #[.val (.int p1)] [(.int p1)])) t → Steps p.tables e below (s₁.setTop (mkF m 6 #[.val (.int p1)] [])) t := by
      intro t k
      refine XS.iloadN X0.here hx rfl (Jvm.hb hby d19_6) rfl ?_
      show Steps p.tables e below (s₁.setTop (mkF m 7 #[.val (.int p1)] [(.int p1)])) t
      exact k
    obtain ⟨T11, X11, e11, st11⟩ := getS2 X0 hx hZ hown (host := "") (Or.inl (hw _ (List.mem_of_getElem? (i := 128) rfl))) Via.refl e0 S_high (g := (mkF m 7 #[.val (.int p1)] [(.int p1)])) rfl (Jvm.hb hby d19_7)
    have K12 : ∀ t, Steps p.tables e below (T11.setTop (mkF m 10 #[.val (.int p1)] [(.int w_high), (.int p1)])) t → Steps p.tables e below (s₁.setTop (mkF m 7 #[.val (.int p1)] [(.int p1)])) t := fun t k => st11 _ k
    by_cases hc13 : w_high < p1
    · have K14 : ∀ t, Steps p.tables e below (T11.setTop (mkF m 23 #[.val (.int p1)] [])) t → Steps p.tables e below (T11.setTop (mkF m 10 #[.val (.int p1)] [(.int w_high), (.int p1)])) t := by
        intro t k
        refine XS.icmpYes X11.here hx rfl (pc0 := 10) (pc' := 23) rfl (Jvm.hb hby d19_10) rfl (tlt hc13).2.2.1 (by decide) (by decide) ?_
        exact k
      obtain ⟨T15, h15, X15, e15, E15, A15, D15, -, st15⟩ := newO X11 hx hZ hown (hw _ (List.mem_of_getElem? (i := 113) rfl)) (hw _ (List.mem_of_getElem? (i := 114) rfl)) (hw _ (List.mem_of_getElem? (i := 111) rfl)) e11 (g := (mkF m 23 #[.val (.int p1)] [])) rfl (Jvm.hb hby d19_23) (by decide) (by decide)
      obtain ⟨b15, g15⟩ : ∃ z, z = h0.size := ⟨_, rfl⟩
      rw [← g15] at A15 D15 st15
      have KP15 : Keep h0 h15 [] := (Keep.refl h0 []).ext E15
      have gb_b15 : n0 ≤ b15 := Nat.le_trans Z0 (Nat.le_of_eq g15.symm)
      have sz_b15 : h0.size ≤ b15 := Nat.le_trans (Keep.refl h0 []).1 (Nat.le_of_eq g15.symm)
      have F15_value : Fld Z h15 b15 "java/lang/Integer" "value" "I" (.int (0 : Int32)) := D15 (Or.inr (hw _ (List.mem_of_getElem? (i := 127) rfl))) (ty := .int) (by decide)
      have K16 : ∀ t, Steps p.tables e below (T15.setTop (mkF m 26 #[.val (.int p1)] [(.ref b15)])) t → Steps p.tables e below (T11.setTop (mkF m 23 #[.val (.int p1)] [])) t := fun t k => st15 _ k
      have K17 : ∀ t, Steps p.tables e below (T15.setTop (mkF m 28 #[.val (.int p1)] [(.int p1), (.ref b15), (.ref b15)])) t → Steps p.tables e below (T15.setTop (mkF m 26 #[.val (.int p1)] [(.ref b15)])) t := by
        intro t k
        refine XS.dup X15.here hx rfl (Jvm.hb hby d19_26) rfl rfl ?_
        show Steps p.tables e below (T15.setTop (mkF m 27 #[.val (.int p1)] [(.ref b15), (.ref b15)])) t
        refine XS.iloadN X15.here hx rfl (Jvm.hb hby d19_27) rfl ?_
        show Steps p.tables e below (T15.setTop (mkF m 28 #[.val (.int p1)] [(.int p1), (.ref b15), (.ref b15)])) t
        exact k
      obtain ⟨_, _, ⟨T18, L18, k18, n18⟩, -, X18, ⟨Lc18, hQ18, l18, y18, z18⟩, st18⟩ := X15.specialBack hx (y := (⟨"java/lang/Integer", "<init>", "(I)V"⟩ : MethodName)) rfl hown (mvT hZ (hw _ (List.mem_of_getElem? (i := 115) rfl))) (mvT hZ (hw _ (List.mem_of_getElem? (i := 116) rfl))) (mvT hZ (hw _ (List.mem_of_getElem? (i := 118) rfl))) (by decide) (backOf (W := 1) (rm20 l Z a0 hw [] b15 p1 (.int (0 : Int32)) h15 n0 (Nat.le_trans Z0 KP15.1) A15 F15_value gb_b15) hZ (hw _ (List.mem_of_getElem? (i := 118) rfl)) (hw _ (List.mem_of_getElem? (i := 111) rfl)) (by decide) (by decide)) (g := (mkF m 28 #[.val (.int p1)] [(.int p1), (.ref b15), (.ref b15)])) rfl (by rw [hml]; rfl) (Steps.refl _) (a := b15) (argsL := [(.int p1)]) (rest := [(.ref b15)]) (lenOf pd_16 rfl) rfl (by show 2 * 0 + _ ≤ _; exact Nat.le_of_eq rfl) (Jvm.hb hby d19_28) (fun _ _ => ⟨rfl, e15, (by decide : 1 + 0 ≤ _), (by decide : 1 + 0 ≤ _)⟩)
      dsimp only [Pt.U, Pt.locs, Pt.cells, Pt.slots] at X18 l18 y18 z18 st18 hQ18
      subst l18 y18 z18
      obtain ⟨h18, e18⟩ : ∃ z, T18.heap = z := ⟨_, rfl⟩
      rw [e18] at hQ18
      obtain ⟨rfl, N18q, Kq18, R18_0, R18_1⟩ := hQ18
      have N18 := Fr.app N0 N18q
      have KP18 : Keep h0 h18 [] := KP15.trans Kq18 (allS (Or.inr sz_b15) all0)
      have K19 : ∀ t, Steps p.tables e below (T18.setTop (mkF m 31 #[.val (.int p1)] [(.ref b15)])) t → Steps p.tables e below (T15.setTop (mkF m 28 #[.val (.int p1)] [(.int p1), (.ref b15), (.ref b15)])) t := fun t k => st18.trans k
      obtain ⟨fs, hr, hrun, hended, hW, hsame⟩ := X18.leave (v := some (.ref b15)) (fun h => by rw [Bd.returns] at h; cases h) Bd.notSynchronized
      refine ⟨_, _, pre0 _ (K1 _ (K9 _ (K10 _ (K12 _ (K14 _ (K16 _ (K17 _ (K19 _ (retOut X18 hx Bd.returns rfl (Or.inr (Or.inr (Or.inr (Or.inr ⟨rfl, rfl, rfl⟩)))) (Jvm.hb hby d19_31) hr))))))))), hrun, hended, _, _, rfl, ?_, ⟨_, rfl⟩, hW, hsame.mono (by decide) (by decide)⟩
      show Q19 Z p1 w_high w_cache h0 n0 _ T18.heap _
      rw [e18]
      exact ⟨_, rfl, rfl, N18, KP18⟩
    · have K20 : ∀ t, Steps p.tables e below (T11.setTop (mkF m 13 #[.val (.int p1)] [])) t → Steps p.tables e below (T11.setTop (mkF m 10 #[.val (.int p1)] [(.int w_high), (.int p1)])) t := by
        intro t k
        refine XS.icmpNo X11.here hx rfl (Jvm.hb hby d19_10) rfl (flt hc13).2.2.1 ?_
        exact k
      obtain ⟨T21, X21, e21, st21⟩ := getS2 X11 hx hZ hown (host := "") (Or.inl (hw _ (List.mem_of_getElem? (i := 130) rfl))) Via.refl e11 S_cache (g := (mkF m 13 #[.val (.int p1)] [])) rfl (Jvm.hb hby d19_13)
      have K22 : ∀ t, Steps p.tables e below (T21.setTop (mkF m 16 #[.val (.int p1)] [(.ref w_cache)])) t → Steps p.tables e below (T11.setTop (mkF m 13 #[.val (.int p1)] [])) t := fun t k => st21 _ k
      have K24 : ∀ t, Steps p.tables e below (T21.setTop (mkF m 21 #[.val (.int p1)] [(.int (p1 + (128 : Int32))), (.ref w_cache)])) t → Steps p.tables e below (T21.setTop (mkF m 16 #[.val (.int p1)] [(.ref w_cache)])) t := by
        intro t k
        refine XS.iloadN X21.here hx rfl (Jvm.hb hby d19_16) rfl ?_
        show Steps p.tables e below (T21.setTop (mkF m 17 #[.val (.int p1)] [(.int p1), (.ref w_cache)])) t
        refine XS.sipush X21.here hx rfl (Jvm.hb hby d19_17) ?_
        show Steps p.tables e below (T21.setTop (mkF m 20 #[.val (.int p1)] [(.int (128 : Int32)), (.int p1), (.ref w_cache)])) t
        refine XS.iadd X21.here hx rfl (Jvm.hb hby d19_20) rfl ?_
        show Steps p.tables e below (T21.setTop (mkF m 21 #[.val (.int p1)] [(.int (p1 + (128 : Int32))), (.ref w_cache)])) t
        exact k
      have hin23 : ¬ (p1 + (128 : Int32)) < 0 ∧ (p1 + (128 : Int32)) < 256 := by exact own_ix _ _ (by assumption) (by assumption) hhi
      obtain ⟨cl23, rv23, Aq23, hj23, aq23, hr_rv23⟩ := Ra.at Ra_w_cache hin23
      have K25 : ∀ t, Steps p.tables e below (T21.setTop (mkF m 22 #[.val (.int p1)] [rv23])) t → Steps p.tables e below (T21.setTop (mkF m 21 #[.val (.int p1)] [(.int (p1 + (128 : Int32))), (.ref w_cache)])) t := by
        intro t k
        refine X21.aaload hx (j := (p1 + (128 : Int32))) (v := rv23) (by rw [e21]; exact Aq23.1) (State.isArrayOf_alike hZ.alike Aq23.2.1) rfl Aq23.2.2 hj23 aq23 (g := (mkF m 21 #[.val (.int p1)] [(.int (p1 + (128 : Int32))), (.ref w_cache)])) rfl rfl (Jvm.hb hby d19_21) _ ?_
        show Steps p.tables e below (T21.setTop (mkF m 22 #[.val (.int p1)] [rv23])) t
        exact k
      obtain ⟨fs, hr, hrun, hended, hW, hsame⟩ := X21.leave (v := some rv23) (fun h => by rw [Bd.returns] at h; cases h) Bd.notSynchronized
      refine ⟨_, _, pre0 _ (K1 _ (K9 _ (K10 _ (K12 _ (K20 _ (K22 _ (K24 _ (K25 _ (retOut X21 hx Bd.returns (own_stv (P := fun y => narrow (.object "java/lang/Integer") y = y) _ hr_rv23 rfl (fun _ => rfl)) (Or.inr (Or.inr (Or.inr (Or.inr ⟨rfl, rfl, hr_rv23⟩)))) (Jvm.hb hby d19_22) hr))))))))), hrun, hended, _, _, rfl, ?_, ⟨_, rfl⟩, hW, hsame.mono (by decide) (by decide)⟩
      show Q19 Z p1 w_high w_cache h0 n0 _ T21.heap _
      rw [e21]
      exact ⟨_, rfl, hr_rv23, N0, (Keep.refl h0 [])⟩
-- body 9: com/example/millrace/millrace/api/SinkRecordWithDataPinLaw.data(II)Ljava/lang/Object;
theorem d9_0 : decode method_4_code 0 = .ok (.iload_n 0, 1) := by decide +kernel
theorem d9_1 : decode method_4_code 1 = .ok (.iconst 3, 1) := by decide +kernel
theorem d9_2 : decode method_4_code 2 = .ok (.iand, 1) := by decide +kernel
theorem d9_3 : decode method_4_code 3 = .ok (.istore_n 2, 1) := by decide +kernel
theorem d9_4 : decode method_4_code 4 = .ok (.iload_n 2, 1) := by decide +kernel
theorem d9_5 : decode method_4_code 5 = .ok (.ifCond .ne 5, 3) := by decide +kernel
theorem d9_8 : decode method_4_code 8 = .ok (.aconst_null, 1) := by decide +kernel
theorem d9_9 : decode method_4_code 9 = .ok (.areturn, 1) := by decide +kernel
theorem d9_10 : decode method_4_code 10 = .ok (.iload_n 2, 1) := by decide +kernel
theorem d9_11 : decode method_4_code 11 = .ok (.iconst 1, 1) := by decide +kernel
theorem d9_12 : decode method_4_code 12 = .ok (.if_icmp .ne 9, 3) := by decide +kernel
theorem d9_15 : decode method_4_code 15 = .ok (.iconst 1, 1) := by decide +kernel
theorem d9_16 : decode method_4_code 16 = .ok (.iload_n 1, 1) := by decide +kernel
theorem d9_17 : decode method_4_code 17 = .ok (.invokestatic 21, 3) := by decide +kernel
theorem d9_20 : decode method_4_code 20 = .ok (.areturn, 1) := by decide +kernel
theorem d9_21 : decode method_4_code 21 = .ok (.iload_n 2, 1) := by decide +kernel
theorem d9_22 : decode method_4_code 22 = .ok (.iconst 2, 1) := by decide +kernel
theorem d9_23 : decode method_4_code 23 = .ok (.if_icmp .ne 8, 3) := by decide +kernel
theorem d9_26 : decode method_4_code 26 = .ok (.iload_n 1, 1) := by decide +kernel
theorem d9_27 : decode method_4_code 27 = .ok (.invokestatic 27, 3) := by decide +kernel
theorem d9_30 : decode method_4_code 30 = .ok (.areturn, 1) := by decide +kernel
theorem d9_31 : decode method_4_code 31 = .ok (.iload_n 1, 1) := by decide +kernel
theorem d9_32 : decode method_4_code 32 = .ok (.bipush 24, 2) := by decide +kernel
theorem d9_34 : decode method_4_code 34 = .ok (.iushr, 1) := by decide +kernel
theorem d9_35 : decode method_4_code 35 = .ok (.iload_n 1, 1) := by decide +kernel
theorem d9_36 : decode method_4_code 36 = .ok (.invokestatic 21, 3) := by decide +kernel
theorem d9_39 : decode method_4_code 39 = .ok (.areturn, 1) := by decide +kernel
theorem pn_9 : plainName "com/example/millrace/millrace/api/SinkRecordWithDataPinLaw" = true := by first | (simp [plainName, overriddenIn]; done) | decide +kernel
theorem pd_15 : parseMethodDescriptor "(I)Ljava/lang/Integer;" = some ⟨[.int], some (.object "java/lang/Integer")⟩ := by decide +kernel
theorem pd_1 : parseMethodDescriptor "(II)Ljava/lang/String;" = some ⟨[.int, .int], some (.object "java/lang/String")⟩ := by decide +kernel
theorem ef_9 (m : MethodId) (p1 : Int32) (p2 : Int32) : entryFrame m #[(.int p1), (.int p2)] 3 = mkF m 0 #[.val (.int p1), .val (.int p2), .unset] [] := by first | (simp [entryFrame, mkF, argsToLocals, Value.category]; done) | rfl
def Q9 (Z : State) (p1 : Int32) (p2 : Int32) (w_COMPACT_STRINGS : Int32) (w_high : Int32) (w_cache : Addr) (h0 : Heap) (n0 : Nat) (v : Option Value) (h : Heap) (L : List Loc) : Prop := ∃ d : Value, v = some d ∧ d.isRef = true ∧ Fr n0 L ∧ Keep h0 h []
set_option maxRecDepth 65536 in
set_option maxHeartbeats 40000000 in
theorem rm9 (l : Launch) (Z : State) (a0 : Array Value) (hw : ∀ d ∈ tables_1, d.before a0 Z = true) (ws : List Jvm.Cond) (p1 : Int32) (p2 : Int32) (w_COMPACT_STRINGS : Int32) (w_high : Int32) (w_cache : Addr) (h0 : Heap) (n0 : Nat) (Z0 : n0 ≤ h0.size) (S_COMPACT_STRINGS : Sta Z h0 "java/lang/String" "COMPACT_STRINGS" "Z" (.int w_COMPACT_STRINGS)) (hcs : ¬ (w_COMPACT_STRINGS = 0)) (S_high : Sta Z h0 "java/lang/Integer$IntegerCache" "high" "I" (.int w_high)) (S_cache : Sta Z h0 "java/lang/Integer$IntegerCache" "cache" "[Ljava/lang/Integer;" (.ref w_cache)) (Ra_w_cache : Ra Z h0 w_cache) (hhi : w_high = 127) :
    MetFree l (⟨"com/example/millrace/millrace/api/SinkRecordWithDataPinLaw", "data", "(II)Ljava/lang/Object;"⟩ : MethodName) (head1 (Jvm.Cond.code (⟨"com/example/millrace/millrace/api/SinkRecordWithDataPinLaw", "data", "(II)Ljava/lang/Object;"⟩ : MethodName) method_4_code 3 (some (.object "java/lang/Object")) :: ws) ({ frames := 5, cells := 6, slots := 12, locals := 83 } : Room)) (fun a U => a = #[(.int p1), (.int p2)] ∧ Z.Warmed39 U.vm ∧ U.heap = h0 ∧ CHv Z EL0 U.vm h0) (fun _ _ _ _ _ => True) (fun _ U o U' => ∃ v L, o = .returned v ∧ Q9 Z p1 p2 w_COMPACT_STRINGS w_high w_cache h0 n0 v U'.heap L ∧ CHr Z EL0 U.vm U.heap U'.vm U'.heap ∧ ReturnedEndW U o U' L ({ frames := 5, cells := 6, slots := 12, locals := 83 } : Room).cells ({ frames := 5, cells := 6, slots := 12, locals := 83 } : Room).slots) := by
  refine MetFree.of_bodySF (plainFor_of_name pn_9) hisR ?_
  intro p e s m args below meth c s₁ Bd hml0 hP hK
  obtain ⟨rfl, hZ, hh, H0⟩ := hP
  have hx := Bd.exec
  have hby := Bd.bytes
  have hml : c.maxLocals = 3 := hml0
  have hown : s.vm.findClass "com/example/millrace/millrace/api/SinkRecordWithDataPinLaw" = some m.cls := findClass_of_methodNamed Bd.named
  have hnm := (name_of_methodNamed Bd.named Bd.method).1
  obtain ⟨vm0, hvm0⟩ : ∃ z, z = s.vm := ⟨_, rfl⟩
  have X0 : Stand p l e ({ frames := 5, cells := 6, slots := 12, locals := 83 } : Room) (s.setVm vm0) m #[(.int p1), (.int p2)] below meth c s₁ [] 0 0 := by rw [hvm0]; exact Stand.of_body Bd
  have hS : s.Since vm0 h0.size := by rw [hvm0]; exact own_since s _
  rw [← hvm0] at hZ hown
  have CR0 : CHr Z EL0 s.vm h0 vm0 h0 := by rw [hvm0]; exact CHr.refl H0
  have e0 : s₁.heap = h0 := by rw [← hh, Bd.state]; rfl
  have N0 := Fr.nil n0
  have pre0 : ∀ t, Steps p.tables e below (s₁.setTop (mkF m 0 #[.val (.int p1), .val (.int p2), .unset] [])) t → Steps p.tables e below (s₁.setTop (entryFrame m #[(.int p1), (.int p2)] 3)) t := fun t k => castTop (ef_9 m p1 p2) k
  have K1 : ∀ t, Steps p.tables e below (s₁.setTop (mkF m 5 #[.val (.int p1), .val (.int p2), .val (.int (p1 &&& (3 : Int32)))] [(.int (p1 &&& (3 : Int32)))])) t → Steps p.tables e below (s₁.setTop (mkF m 0 #[.val (.int p1), .val (.int p2), .unset] [])) t := by
    intro t k
    refine XS.iloadN X0.here hx rfl (Jvm.hb hby d9_0) rfl ?_
    show Steps p.tables e below (s₁.setTop (mkF m 1 #[.val (.int p1), .val (.int p2), .unset] [(.int p1)])) t
    refine XS.iconst X0.here hx rfl (Jvm.hb hby d9_1) ?_
    show Steps p.tables e below (s₁.setTop (mkF m 2 #[.val (.int p1), .val (.int p2), .unset] [(.int (3 : Int32)), (.int p1)])) t
    refine XS.iand X0.here hx rfl (Jvm.hb hby d9_2) rfl ?_
    show Steps p.tables e below (s₁.setTop (mkF m 3 #[.val (.int p1), .val (.int p2), .unset] [(.int (p1 &&& (3 : Int32)))])) t
    refine XS.istoreN X0.here hx rfl (Jvm.hb hby d9_3) rfl (l' := #[.val (.int p1), .val (.int p2), .val (.int (p1 &&& (3 : Int32)))]) rfl ?_
    show Steps p.tables e below (s₁.setTop (mkF m 4 #[.val (.int p1), .val (.int p2), .val (.int (p1 &&& (3 : Int32)))] [])) t
    refine XS.iloadN X0.here hx rfl (Jvm.hb hby d9_4) rfl ?_
    show Steps p.tables e below (s₁.setTop (mkF m 5 #[.val (.int p1), .val (.int p2), .val (.int (p1 &&& (3 : Int32)))] [(.int (p1 &&& (3 : Int32)))])) t
    exact k
  by_cases hc2 : (p1 &&& (3 : Int32)) = (0 : Int32)
  · have K3 : ∀ t, Steps p.tables e below (s₁.setTop (mkF m 8 #[.val (.int p1), .val (.int p2), .val (.int (p1 &&& (3 : Int32)))] [])) t → Steps p.tables e below (s₁.setTop (mkF m 5 #[.val (.int p1), .val (.int p2), .val (.int (p1 &&& (3 : Int32)))] [(.int (p1 &&& (3 : Int32)))])) t := by
      intro t k
      refine XS.ifNo X0.here hx rfl (Jvm.hb hby d9_5) rfl ((if0 _ _).trans (teq hc2).2) ?_
      exact k
    have K4 : ∀ t, Steps p.tables e below (s₁.setTop (mkF m 9 #[.val (.int p1), .val (.int p2), .val (.int (p1 &&& (3 : Int32)))] [.null])) t → Steps p.tables e below (s₁.setTop (mkF m 8 #[.val (.int p1), .val (.int p2), .val (.int (p1 &&& (3 : Int32)))] [])) t := by
      intro t k
      refine XS.aconstNull X0.here hx rfl (Jvm.hb hby d9_8) ?_
      show Steps p.tables e below (s₁.setTop (mkF m 9 #[.val (.int p1), .val (.int p2), .val (.int (p1 &&& (3 : Int32)))] [.null])) t
      exact k
    obtain ⟨fs, hr, hrun, hended, hRW⟩ := X0.leaveW hS (show _ ≤ s₁.heap.size from (by rw [e0]; exact (Nat.le_refl h0.size))) (v := some .null) (fun h => by rw [Bd.returns] at h; cases h) Bd.notSynchronized
    refine ⟨_, _, pre0 _ (K1 _ (K3 _ (K4 _ (retOut X0 hx Bd.returns rfl (Or.inr (Or.inr (Or.inr (Or.inr ⟨rfl, rfl, rfl⟩)))) (Jvm.hb hby d9_9) hr)))), hrun, hended, _, _, rfl, ?_, (show CHr Z EL0 s.vm s.heap s₁.vm s₁.heap from by rw [hh, e0]; exact CR0.trans (CHv.at X0 hZ (ew0 hw) CR0.1)), hRW.1, hRW.2.1, hRW.2.2.1, hRW.2.2.2.mono (by decide) (by decide)⟩
    show Q9 Z p1 p2 w_COMPACT_STRINGS w_high w_cache h0 n0 _ s₁.heap _
    rw [e0]
    exact ⟨_, rfl, rfl, N0, (Keep.refl h0 [])⟩
  · have K5 : ∀ t, Steps p.tables e below (s₁.setTop (mkF m 10 #[.val (.int p1), .val (.int p2), .val (.int (p1 &&& (3 : Int32)))] [])) t → Steps p.tables e below (s₁.setTop (mkF m 5 #[.val (.int p1), .val (.int p2), .val (.int (p1 &&& (3 : Int32)))] [(.int (p1 &&& (3 : Int32)))])) t := by
      intro t k
      refine XS.ifYes X0.here hx rfl (pc0 := 5) (pc' := 10) rfl (Jvm.hb hby d9_5) rfl ((if0 _ _).trans (feq hc2).2) (by decide) (by decide) ?_
      exact k
    have K6 : ∀ t, Steps p.tables e below (s₁.setTop (mkF m 12 #[.val (.int p1), .val (.int p2), .val (.int (p1 &&& (3 : Int32)))] [(.int (1 : Int32)), (.int (p1 &&& (3 : Int32)))])) t → Steps p.tables e below (s₁.setTop (mkF m 10 #[.val (.int p1), .val (.int p2), .val (.int (p1 &&& (3 : Int32)))] [])) t := by
      intro t k
      refine XS.iloadN X0.here hx rfl (Jvm.hb hby d9_10) rfl ?_
      show Steps p.tables e below (s₁.setTop (mkF m 11 #[.val (.int p1), .val (.int p2), .val (.int (p1 &&& (3 : Int32)))] [(.int (p1 &&& (3 : Int32)))])) t
      refine XS.iconst X0.here hx rfl (Jvm.hb hby d9_11) ?_
      show Steps p.tables e below (s₁.setTop (mkF m 12 #[.val (.int p1), .val (.int p2), .val (.int (p1 &&& (3 : Int32)))] [(.int (1 : Int32)), (.int (p1 &&& (3 : Int32)))])) t
      exact k
    by_cases hc7 : (p1 &&& (3 : Int32)) = (1 : Int32)
    · have K8 : ∀ t, Steps p.tables e below (s₁.setTop (mkF m 15 #[.val (.int p1), .val (.int p2), .val (.int (p1 &&& (3 : Int32)))] [])) t → Steps p.tables e below (s₁.setTop (mkF m 12 #[.val (.int p1), .val (.int p2), .val (.int (p1 &&& (3 : Int32)))] [(.int (1 : Int32)), (.int (p1 &&& (3 : Int32)))])) t := by
        intro t k
        refine XS.icmpNo X0.here hx rfl (Jvm.hb hby d9_12) rfl (teq hc7).2 ?_
        exact k
      have K9 : ∀ t, Steps p.tables e below (s₁.setTop (mkF m 17 #[.val (.int p1), .val (.int p2), .val (.int (p1 &&& (3 : Int32)))] [(.int p2), (.int (1 : Int32))])) t → Steps p.tables e below (s₁.setTop (mkF m 15 #[.val (.int p1), .val (.int p2), .val (.int (p1 &&& (3 : Int32)))] [])) t := by
        intro t k
        refine XS.iconst X0.here hx rfl (Jvm.hb hby d9_15) ?_
        show Steps p.tables e below (s₁.setTop (mkF m 16 #[.val (.int p1), .val (.int p2), .val (.int (p1 &&& (3 : Int32)))] [(.int (1 : Int32))])) t
        refine XS.iloadN X0.here hx rfl (Jvm.hb hby d9_16) rfl ?_
        show Steps p.tables e below (s₁.setTop (mkF m 17 #[.val (.int p1), .val (.int p2), .val (.int (p1 &&& (3 : Int32)))] [(.int p2), (.int (1 : Int32))])) t
        exact k
      obtain ⟨_, _, ⟨T10, L10, k10, n10⟩, -, Xq10, hSq10, hgq10, ⟨Lc10, hQ10, l10, y10, z10, CHq10⟩, st10⟩ := callSS X0 hx (y := (⟨"com/example/millrace/millrace/api/SinkRecordWithDataPinLaw", "text", "(II)Ljava/lang/String;"⟩ : MethodName)) hown (mvT hZ (hw _ (List.mem_of_getElem? (i := 4) rfl))) (mvT hZ (hw _ (List.mem_of_getElem? (i := 5) rfl))) (mvT hZ (hw _ (List.mem_of_getElem? (i := 2) rfl))) (mvT hZ (hw _ (List.mem_of_getElem? (i := 6) rfl))) (by decide) (backOfSH (W := 0) (EL := EL0) (rm2 l Z a0 hw [] (1 : Int32) p2 w_COMPACT_STRINGS h0 n0 Z0 S_COMPACT_STRINGS hcs) hZ (hw _ (List.mem_of_getElem? (i := 6) rfl)) (hw _ (List.mem_of_getElem? (i := 2) rfl)) (by decide) (by decide) (ew0 hw) CR0.1) (g := (mkF m 17 #[.val (.int p1), .val (.int p2), .val (.int (p1 &&& (3 : Int32)))] [(.int p2), (.int (1 : Int32))])) rfl (by rw [hml]; rfl) (argsL := [(.int (1 : Int32)), (.int p2)]) (rest := []) (lenOf pd_1 rfl) rfl (by show 2 * 0 + _ ≤ _; exact Nat.le_of_eq rfl) (Jvm.hb hby d9_17) (fun _ _ => ⟨rfl, e0, (by decide : 0 + 6 ≤ _), (by decide : 0 + 12 ≤ _)⟩)
      dsimp only [Pt.U, Pt.locs, Pt.cells, Pt.slots] at Xq10 hSq10 hgq10 CHq10 l10 y10 z10 st10 hQ10
      subst l10 y10 z10
      obtain ⟨X10, hS, hZ, hown⟩ := rebS hS (show _ ≤ s₁.heap.size from (by rw [e0]; exact (Nat.le_refl h0.size))) Xq10 hSq10 hgq10 hZ hown
      obtain ⟨h10, e10⟩ : ∃ z, T10.heap = z := ⟨_, rfl⟩
      rw [e10] at hQ10
      rw [e10] at CHq10
      obtain ⟨b10_x1, b10_x2, rfl, N10q, Kq10, szq_b10_x1, gb_b10_x1, ne_b10_x1_b10_x2, R10_0, R10_1, R10_2, R10_3⟩ := hQ10
      have N10 := Fr.app N0 N10q
      have KP10 : Keep h0 h10 [] := (Keep.refl h0 []).trans Kq10 all0
      have CR10 : CHr Z EL0 s.vm h0 T10.vm h10 := CR0.trans (CHq10)
      rw [e10] at hS
      have sz_b10_x1 : h0.size ≤ b10_x1 := Nat.le_trans (Keep.refl h0 []).1 szq_b10_x1
      have K11 : ∀ t, Steps p.tables e below (T10.setTop (mkF m 20 #[.val (.int p1), .val (.int p2), .val (.int (p1 &&& (3 : Int32)))] [(.ref b10_x1)])) t → Steps p.tables e below (s₁.setTop (mkF m 17 #[.val (.int p1), .val (.int p2), .val (.int (p1 &&& (3 : Int32)))] [(.int p2), (.int (1 : Int32))])) t := fun t k => st10.trans k
      obtain ⟨fs, hr, hrun, hended, hRW⟩ := X10.leaveW hS (show _ ≤ T10.heap.size from (by rw [e10]; exact (Nat.le_refl _))) (v := some (.ref b10_x1)) (fun h => by rw [Bd.returns] at h; cases h) Bd.notSynchronized
      refine ⟨_, _, pre0 _ (K1 _ (K5 _ (K6 _ (K8 _ (K9 _ (K11 _ (retOut X10 hx Bd.returns rfl (Or.inr (Or.inr (Or.inr (Or.inr ⟨rfl, rfl, rfl⟩)))) (Jvm.hb hby d9_20) hr))))))), hrun, hended, _, _, rfl, ?_, (show CHr Z EL0 s.vm s.heap T10.vm T10.heap from by rw [hh, e10]; exact CR10.trans (CHv.at X10 hZ (ew0 hw) CR10.1)), hRW.1, hRW.2.1, hRW.2.2.1, hRW.2.2.2.mono (by decide) (by decide)⟩
      show Q9 Z p1 p2 w_COMPACT_STRINGS w_high w_cache h0 n0 _ T10.heap _
      rw [e10]
      exact ⟨_, rfl, rfl, N10, KP10⟩
    · have K12 : ∀ t, Steps p.tables e below (s₁.setTop (mkF m 21 #[.val (.int p1), .val (.int p2), .val (.int (p1 &&& (3 : Int32)))] [])) t → Steps p.tables e below (s₁.setTop (mkF m 12 #[.val (.int p1), .val (.int p2), .val (.int (p1 &&& (3 : Int32)))] [(.int (1 : Int32)), (.int (p1 &&& (3 : Int32)))])) t := by
        intro t k
        refine XS.icmpYes X0.here hx rfl (pc0 := 12) (pc' := 21) rfl (Jvm.hb hby d9_12) rfl (feq hc7).2 (by decide) (by decide) ?_
        exact k
      have K13 : ∀ t, Steps p.tables e below (s₁.setTop (mkF m 23 #[.val (.int p1), .val (.int p2), .val (.int (p1 &&& (3 : Int32)))] [(.int (2 : Int32)), (.int (p1 &&& (3 : Int32)))])) t → Steps p.tables e below (s₁.setTop (mkF m 21 #[.val (.int p1), .val (.int p2), .val (.int (p1 &&& (3 : Int32)))] [])) t := by
        intro t k
        refine XS.iloadN X0.here hx rfl (Jvm.hb hby d9_21) rfl ?_
        show Steps p.tables e below (s₁.setTop (mkF m 22 #[.val (.int p1), .val (.int p2), .val (.int (p1 &&& (3 : Int32)))] [(.int (p1 &&& (3 : Int32)))])) t
        refine XS.iconst X0.here hx rfl (Jvm.hb hby d9_22) ?_
        show Steps p.tables e below (s₁.setTop (mkF m 23 #[.val (.int p1), .val (.int p2), .val (.int (p1 &&& (3 : Int32)))] [(.int (2 : Int32)), (.int (p1 &&& (3 : Int32)))])) t
        exact k
      by_cases hc14 : (p1 &&& (3 : Int32)) = (2 : Int32)
      · have K15 : ∀ t, Steps p.tables e below (s₁.setTop (mkF m 26 #[.val (.int p1), .val (.int p2), .val (.int (p1 &&& (3 : Int32)))] [])) t → Steps p.tables e below (s₁.setTop (mkF m 23 #[.val (.int p1), .val (.int p2), .val (.int (p1 &&& (3 : Int32)))] [(.int (2 : Int32)), (.int (p1 &&& (3 : Int32)))])) t := by
          intro t k
          refine XS.icmpNo X0.here hx rfl (Jvm.hb hby d9_23) rfl (teq hc14).2 ?_
          exact k
        have K16 : ∀ t, Steps p.tables e below (s₁.setTop (mkF m 27 #[.val (.int p1), .val (.int p2), .val (.int (p1 &&& (3 : Int32)))] [(.int p2)])) t → Steps p.tables e below (s₁.setTop (mkF m 26 #[.val (.int p1), .val (.int p2), .val (.int (p1 &&& (3 : Int32)))] [])) t := by
          intro t k
          refine XS.iloadN X0.here hx rfl (Jvm.hb hby d9_26) rfl ?_
          show Steps p.tables e below (s₁.setTop (mkF m 27 #[.val (.int p1), .val (.int p2), .val (.int (p1 &&& (3 : Int32)))] [(.int p2)])) t
          exact k
        obtain ⟨_, _, ⟨T17, L17, k17, n17⟩, -, X17, ⟨Lc17, hQ17, l17, y17, z17⟩, st17⟩ := Jvm.LawKit.callS X0 hx (y := (⟨"java/lang/Integer", "valueOf", "(I)Ljava/lang/Integer;"⟩ : MethodName)) hown (mvT hZ (hw _ (List.mem_of_getElem? (i := 109) rfl))) (mvT hZ (hw _ (List.mem_of_getElem? (i := 110) rfl))) (mvT hZ (hw _ (List.mem_of_getElem? (i := 111) rfl))) (mvT hZ (hw _ (List.mem_of_getElem? (i := 112) rfl))) (by decide) (backOf (W := 0) (rm19 l Z a0 hw [] p2 w_high w_cache h0 n0 Z0 hhi S_high S_cache Ra_w_cache) hZ (hw _ (List.mem_of_getElem? (i := 112) rfl)) (hw _ (List.mem_of_getElem? (i := 111) rfl)) (by decide) (by decide)) (g := (mkF m 27 #[.val (.int p1), .val (.int p2), .val (.int (p1 &&& (3 : Int32)))] [(.int p2)])) rfl (by rw [hml]; rfl) (argsL := [(.int p2)]) (rest := []) (lenOf pd_15 rfl) rfl (by show 2 * 0 + _ ≤ _; exact Nat.le_of_eq rfl) (Jvm.hb hby d9_27) (fun _ _ => ⟨rfl, e0, (by decide : 0 + 1 ≤ _), (by decide : 0 + 1 ≤ _)⟩)
        dsimp only [Pt.U, Pt.locs, Pt.cells, Pt.slots] at X17 l17 y17 z17 st17 hQ17
        subst l17 y17 z17
        obtain ⟨h17, e17⟩ : ∃ z, T17.heap = z := ⟨_, rfl⟩
        rw [e17] at hQ17
        obtain ⟨d17, rfl, hr_d17, N17q, Kq17⟩ := hQ17
        have N17 := Fr.app N0 N17q
        have KP17 : Keep h0 h17 [] := (Keep.refl h0 []).trans Kq17 all0
        have CR17 : CHr Z EL0 s.vm h0 vm0 h17 := CR0.trans (CHr.keep Kq17 all0 CR0.1)
        have SK17 := Nat.le_trans (Nat.le_refl h0.size) Kq17.1
        have K18 : ∀ t, Steps p.tables e below (T17.setTop (mkF m 30 #[.val (.int p1), .val (.int p2), .val (.int (p1 &&& (3 : Int32)))] [d17])) t → Steps p.tables e below (s₁.setTop (mkF m 27 #[.val (.int p1), .val (.int p2), .val (.int (p1 &&& (3 : Int32)))] [(.int p2)])) t := fun t k => st17 _ k
        obtain ⟨fs, hr, hrun, hended, hRW⟩ := X17.leaveW hS (show _ ≤ T17.heap.size from (by rw [e17]; exact SK17)) (v := some d17) (fun h => by rw [Bd.returns] at h; cases h) Bd.notSynchronized
        refine ⟨_, _, pre0 _ (K1 _ (K5 _ (K6 _ (K12 _ (K13 _ (K15 _ (K16 _ (K18 _ (retOut X17 hx Bd.returns (own_stv (P := fun y => narrow (.object "java/lang/Object") y = y) _ hr_d17 rfl (fun _ => rfl)) (Or.inr (Or.inr (Or.inr (Or.inr ⟨rfl, rfl, hr_d17⟩)))) (Jvm.hb hby d9_30) hr))))))))), hrun, hended, _, _, rfl, ?_, (show CHr Z EL0 s.vm s.heap T17.vm T17.heap from by rw [hh, e17]; exact CR17.trans (CHv.at X17 hZ (ew0 hw) CR17.1)), hRW.1, hRW.2.1, hRW.2.2.1, hRW.2.2.2.mono (by decide) (by decide)⟩
        show Q9 Z p1 p2 w_COMPACT_STRINGS w_high w_cache h0 n0 _ T17.heap _
        rw [e17]
        exact ⟨_, rfl, hr_d17, N17, KP17⟩
      · have K19 : ∀ t, Steps p.tables e below (s₁.setTop (mkF m 31 #[.val (.int p1), .val (.int p2), .val (.int (p1 &&& (3 : Int32)))] [])) t → Steps p.tables e below (s₁.setTop (mkF m 23 #[.val (.int p1), .val (.int p2), .val (.int (p1 &&& (3 : Int32)))] [(.int (2 : Int32)), (.int (p1 &&& (3 : Int32)))])) t := by
          intro t k
          refine XS.icmpYes X0.here hx rfl (pc0 := 23) (pc' := 31) rfl (Jvm.hb hby d9_23) rfl (feq hc14).2 (by decide) (by decide) ?_
          exact k
        have K20 : ∀ t, Steps p.tables e below (s₁.setTop (mkF m 36 #[.val (.int p1), .val (.int p2), .val (.int (p1 &&& (3 : Int32)))] [(.int p2), (.int ((p2.toUInt32 >>> ((24 : Int32) &&& 31).toUInt32).toInt32))])) t → Steps p.tables e below (s₁.setTop (mkF m 31 #[.val (.int p1), .val (.int p2), .val (.int (p1 &&& (3 : Int32)))] [])) t := by
          intro t k
          refine XS.iloadN X0.here hx rfl (Jvm.hb hby d9_31) rfl ?_
          show Steps p.tables e below (s₁.setTop (mkF m 32 #[.val (.int p1), .val (.int p2), .val (.int (p1 &&& (3 : Int32)))] [(.int p2)])) t
          refine XS.bipush X0.here hx rfl (Jvm.hb hby d9_32) ?_
          show Steps p.tables e below (s₁.setTop (mkF m 34 #[.val (.int p1), .val (.int p2), .val (.int (p1 &&& (3 : Int32)))] [(.int (24 : Int32)), (.int p2)])) t
          refine XS.iushr X0.here hx rfl (Jvm.hb hby d9_34) rfl ?_
          show Steps p.tables e below (s₁.setTop (mkF m 35 #[.val (.int p1), .val (.int p2), .val (.int (p1 &&& (3 : Int32)))] [(.int ((p2.toUInt32 >>> ((24 : Int32) &&& 31).toUInt32).toInt32))])) t
          refine XS.iloadN X0.here hx rfl (Jvm.hb hby d9_35) rfl ?_
          show Steps p.tables e below (s₁.setTop (mkF m 36 #[.val (.int p1), .val (.int p2), .val (.int (p1 &&& (3 : Int32)))] [(.int p2), (.int ((p2.toUInt32 >>> ((24 : Int32) &&& 31).toUInt32).toInt32))])) t
          exact k
        obtain ⟨_, _, ⟨T21, L21, k21, n21⟩, -, Xq21, hSq21, hgq21, ⟨Lc21, hQ21, l21, y21, z21, CHq21⟩, st21⟩ := callSS X0 hx (y := (⟨"com/example/millrace/millrace/api/SinkRecordWithDataPinLaw", "text", "(II)Ljava/lang/String;"⟩ : MethodName)) hown (mvT hZ (hw _ (List.mem_of_getElem? (i := 4) rfl))) (mvT hZ (hw _ (List.mem_of_getElem? (i := 5) rfl))) (mvT hZ (hw _ (List.mem_of_getElem? (i := 2) rfl))) (mvT hZ (hw _ (List.mem_of_getElem? (i := 6) rfl))) (by decide) (backOfSH (W := 0) (EL := EL0) (rm2 l Z a0 hw [] ((p2.toUInt32 >>> ((24 : Int32) &&& 31).toUInt32).toInt32) p2 w_COMPACT_STRINGS h0 n0 Z0 S_COMPACT_STRINGS hcs) hZ (hw _ (List.mem_of_getElem? (i := 6) rfl)) (hw _ (List.mem_of_getElem? (i := 2) rfl)) (by decide) (by decide) (ew0 hw) CR0.1) (g := (mkF m 36 #[.val (.int p1), .val (.int p2), .val (.int (p1 &&& (3 : Int32)))] [(.int p2), (.int ((p2.toUInt32 >>> ((24 : Int32) &&& 31).toUInt32).toInt32))])) rfl (by rw [hml]; rfl) (argsL := [(.int ((p2.toUInt32 >>> ((24 : Int32) &&& 31).toUInt32).toInt32)), (.int p2)]) (rest := []) (lenOf pd_1 rfl) rfl (by show 2 * 0 + _ ≤ _; exact Nat.le_of_eq rfl) (Jvm.hb hby d9_36) (fun _ _ => ⟨rfl, e0, (by decide : 0 + 6 ≤ _), (by decide : 0 + 12 ≤ _)⟩)
        dsimp only [Pt.U, Pt.locs, Pt.cells, Pt.slots] at Xq21 hSq21 hgq21 CHq21 l21 y21 z21 st21 hQ21
        subst l21 y21 z21
        obtain ⟨X21, hS, hZ, hown⟩ := rebS hS (show _ ≤ s₁.heap.size from (by rw [e0]; exact (Nat.le_refl h0.size))) Xq21 hSq21 hgq21 hZ hown
        obtain ⟨h21, e21⟩ : ∃ z, T21.heap = z := ⟨_, rfl⟩
        rw [e21] at hQ21
        rw [e21] at CHq21
        obtain ⟨b21_x1, b21_x2, rfl, N21q, Kq21, szq_b21_x1, gb_b21_x1, ne_b21_x1_b21_x2, R21_0, R21_1, R21_2, R21_3⟩ := hQ21
        have N21 := Fr.app N0 N21q
        have KP21 : Keep h0 h21 [] := (Keep.refl h0 []).trans Kq21 all0
        have CR21 : CHr Z EL0 s.vm h0 T21.vm h21 := CR0.trans (CHq21)
        rw [e21] at hS
        have sz_b21_x1 : h0.size ≤ b21_x1 := Nat.le_trans (Keep.refl h0 []).1 szq_b21_x1
        have K22 : ∀ t, Steps p.tables e below (T21.setTop (mkF m 39 #[.val (.int p1), .val (.int p2), .val (.int (p1 &&& (3 : Int32)))] [(.ref b21_x1)])) t → Steps p.tables e below (s₁.setTop (mkF m 36 #[.val (.int p1), .val (.int p2), .val (.int (p1 &&& (3 : Int32)))] [(.int p2), (.int ((p2.toUInt32 >>> ((24 : Int32) &&& 31).toUInt32).toInt32))])) t := fun t k => st21.trans k
        obtain ⟨fs, hr, hrun, hended, hRW⟩ := X21.leaveW hS (show _ ≤ T21.heap.size from (by rw [e21]; exact (Nat.le_refl _))) (v := some (.ref b21_x1)) (fun h => by rw [Bd.returns] at h; cases h) Bd.notSynchronized
        refine ⟨_, _, pre0 _ (K1 _ (K5 _ (K6 _ (K12 _ (K13 _ (K19 _ (K20 _ (K22 _ (retOut X21 hx Bd.returns rfl (Or.inr (Or.inr (Or.inr (Or.inr ⟨rfl, rfl, rfl⟩)))) (Jvm.hb hby d9_39) hr))))))))), hrun, hended, _, _, rfl, ?_, (show CHr Z EL0 s.vm s.heap T21.vm T21.heap from by rw [hh, e21]; exact CR21.trans (CHv.at X21 hZ (ew0 hw) CR21.1)), hRW.1, hRW.2.1, hRW.2.2.1, hRW.2.2.2.mono (by decide) (by decide)⟩
        show Q9 Z p1 p2 w_COMPACT_STRINGS w_high w_cache h0 n0 _ T21.heap _
        rw [e21]
        exact ⟨_, rfl, rfl, N21, KP21⟩
-- body 11: java/lang/Record.<init>()V
theorem d11_0 : decode jdk_30_method_1_code 0 = .ok (.aload_n 0, 1) := by decide +kernel
theorem d11_1 : decode jdk_30_method_1_code 1 = .ok (.invokespecial 1, 3) := by decide +kernel
theorem d11_4 : decode jdk_30_method_1_code 4 = .ok (.return_, 1) := by decide +kernel
theorem pn_11 : plainName "java/lang/Record" = true := by first | (simp [plainName, overriddenIn]; done) | decide +kernel
theorem ef_11 (m : MethodId) (a1 : Addr) : entryFrame m #[(.ref a1)] 1 = mkF m 0 #[.val (.ref a1)] [] := by first | (simp [entryFrame, mkF, argsToLocals, Value.category]; done) | rfl
def Q11 (Z : State) (a1 : Addr) (h0 : Heap) (n0 : Nat) (v : Option Value) (h : Heap) (L : List Loc) : Prop := v = none ∧ Fr n0 L ∧ h = h0
set_option maxRecDepth 65536 in
set_option maxHeartbeats 40000000 in
theorem rm11 (l : Launch) (Z : State) (a0 : Array Value) (hw : ∀ d ∈ tables_1, d.before a0 Z = true) (ws : List Jvm.Cond) (a1 : Addr) (h0 : Heap) (n0 : Nat) (Z0 : n0 ≤ h0.size) :
    MetFree l (⟨"java/lang/Record", "<init>", "()V"⟩ : MethodName) (head1 (Jvm.Cond.code (⟨"java/lang/Record", "<init>", "()V"⟩ : MethodName) jdk_30_method_1_code 1 none :: ws) ({ frames := 1, cells := 0, slots := 0, locals := 12 } : Room)) (fun a U => a = #[(.ref a1)] ∧ Z.Warmed39 U.vm ∧ U.heap = h0) (fun _ _ _ _ _ => True) (fun _ U o U' => ∃ v L, o = .returned v ∧ Q11 Z a1 h0 n0 v U'.heap L ∧ FrameEnd U o U' L ({ frames := 1, cells := 0, slots := 0, locals := 12 } : Room).cells ({ frames := 1, cells := 0, slots := 0, locals := 12 } : Room).slots) := by
  refine MetFree.of_bodySF (plainFor_of_name pn_11) hisR ?_
  intro p e s m args below meth c s₁ Bd hml0 hP hK
  obtain ⟨rfl, hZ, hh⟩ := hP
  have hx := Bd.exec
  have hby := Bd.bytes
  have hml : c.maxLocals = 1 := hml0
  have hown : s.vm.findClass "java/lang/Record" = some m.cls := findClass_of_methodNamed Bd.named
  have hnm := (name_of_methodNamed Bd.named Bd.method).1
  have X0 : Stand p l e ({ frames := 1, cells := 0, slots := 0, locals := 12 } : Room) s m #[(.ref a1)] below meth c s₁ [] 0 0 := Stand.of_body Bd
  have e0 : s₁.heap = h0 := by rw [← hh, Bd.state]; rfl
  have N0 := Fr.nil n0
  have pre0 : ∀ t, Steps p.tables e below (s₁.setTop (mkF m 0 #[.val (.ref a1)] [])) t → Steps p.tables e below (s₁.setTop (entryFrame m #[(.ref a1)] 1)) t := fun t k => castTop (ef_11 m a1) k
  have K1 : ∀ t, Steps p.tables e below (s₁.setTop (mkF m 1 #[.val (.ref a1)] [(.ref a1)])) t → Steps p.tables e below (s₁.setTop (mkF m 0 #[.val (.ref a1)] [])) t := by
    intro t k
    refine XS.aloadN X0.here hx rfl (Jvm.hb hby d11_0) rfl rfl ?_
    show Steps p.tables e below (s₁.setTop (mkF m 1 #[.val (.ref a1)] [(.ref a1)])) t
    exact k
  obtain ⟨T2, X2, e2, st2⟩ := initO X0 hx hZ hown (hw _ (List.mem_of_getElem? (i := 57) rfl)) (hw _ (List.mem_of_getElem? (i := 19) rfl)) (hw _ (List.mem_of_getElem? (i := 20) rfl)) e0 (g := (mkF m 1 #[.val (.ref a1)] [(.ref a1)])) rfl (by rw [hml]; rfl) rfl (Jvm.hb hby d11_1) (by decide) (W := 0) (by show 2 * 0 + _ ≤ _; exact Nat.le_of_eq rfl) (by decide)
  have K3 : ∀ t, Steps p.tables e below (T2.setTop (mkF m 4 #[.val (.ref a1)] [])) t → Steps p.tables e below (s₁.setTop (mkF m 1 #[.val (.ref a1)] [(.ref a1)])) t := fun t k => st2 _ k
  obtain ⟨fs, hr, hrun, hended, hW, hsame⟩ := X2.leave (v := none) (fun _ => rfl) Bd.notSynchronized
  refine ⟨_, _, pre0 _ (K1 _ (K3 _ (X2.returnOut hx Bd.returns (Jvm.hb hby d11_4) hr))), hrun, hended, _, _, rfl, ?_, ⟨_, rfl⟩, hW, hsame.mono (by decide) (by decide)⟩
  show Q11 Z a1 h0 n0 _ T2.heap _
  rw [e2]
  exact ⟨rfl, N0, rfl⟩
-- body 10: com/example/millrace/millrace/api/SinkRecord.<init>(Ljava/lang/String;JLcom/example/millrace/millrace/api/Schema;Ljava/lang/Object;Lcom/example/millrace/millrace/api/Schema;Ljava/lang/Object;)V
theorem d10_0 : decode prog_9_method_1_code 0 = .ok (.aload_n 0, 1) := by decide +kernel
theorem d10_1 : decode prog_9_method_1_code 1 = .ok (.invokespecial 1, 3) := by decide +kernel
theorem d10_4 : decode prog_9_method_1_code 4 = .ok (.aload_n 0, 1) := by decide +kernel
theorem d10_5 : decode prog_9_method_1_code 5 = .ok (.aload_n 1, 1) := by decide +kernel
theorem d10_6 : decode prog_9_method_1_code 6 = .ok (.putfield 7, 3) := by decide +kernel
theorem d10_9 : decode prog_9_method_1_code 9 = .ok (.aload_n 0, 1) := by decide +kernel
theorem d10_10 : decode prog_9_method_1_code 10 = .ok (.lload_n 2, 1) := by decide +kernel
theorem d10_11 : decode prog_9_method_1_code 11 = .ok (.putfield 13, 3) := by decide +kernel
theorem d10_14 : decode prog_9_method_1_code 14 = .ok (.aload_n 0, 1) := by decide +kernel
theorem d10_15 : decode prog_9_method_1_code 15 = .ok (.aload 4, 2) := by decide +kernel
theorem d10_17 : decode prog_9_method_1_code 17 = .ok (.putfield 17, 3) := by decide +kernel
theorem d10_20 : decode prog_9_method_1_code 20 = .ok (.aload_n 0, 1) := by decide +kernel
theorem d10_21 : decode prog_9_method_1_code 21 = .ok (.aload 5, 2) := by decide +kernel
theorem d10_23 : decode prog_9_method_1_code 23 = .ok (.putfield 21, 3) := by decide +kernel
theorem d10_26 : decode prog_9_method_1_code 26 = .ok (.aload_n 0, 1) := by decide +kernel
theorem d10_27 : decode prog_9_method_1_code 27 = .ok (.aload 6, 2) := by decide +kernel
theorem d10_29 : decode prog_9_method_1_code 29 = .ok (.putfield 25, 3) := by decide +kernel
theorem d10_32 : decode prog_9_method_1_code 32 = .ok (.aload_n 0, 1) := by decide +kernel
theorem d10_33 : decode prog_9_method_1_code 33 = .ok (.aload 7, 2) := by decide +kernel
theorem d10_35 : decode prog_9_method_1_code 35 = .ok (.putfield 28, 3) := by decide +kernel
theorem d10_38 : decode prog_9_method_1_code 38 = .ok (.return_, 1) := by decide +kernel
theorem pn_10 : plainName "com/example/millrace/millrace/api/SinkRecord" = true := by first | (simp [plainName, overriddenIn]; done) | decide +kernel
theorem ef_10 (m : MethodId) (a1 : Addr) (a2 : Addr) (q3 : Int64) (v4 : Value) (hr_v4 : v4.isRef = true) (v5 : Value) (hr_v5 : v5.isRef = true) (v6 : Value) (hr_v6 : v6.isRef = true) (v7 : Value) (hr_v7 : v7.isRef = true) : entryFrame m #[(.ref a1), (.ref a2), (.long q3), v4, v5, v6, v7] 8 = mkF m 0 #[.val (.ref a1), .val (.ref a2), .val (.long q3), .second, .val v4, .val v5, .val v6, .val v7] [] := by rcases Jvm.RoadKit.ref_cases hr_v4 with rfl | ⟨z, rfl⟩ <;> rcases Jvm.RoadKit.ref_cases hr_v5 with rfl | ⟨z, rfl⟩ <;> rcases Jvm.RoadKit.ref_cases hr_v6 with rfl | ⟨z, rfl⟩ <;> rcases Jvm.RoadKit.ref_cases hr_v7 with rfl | ⟨z, rfl⟩ <;> first | (simp [entryFrame, mkF, argsToLocals, Value.category]; done) | rfl
def Q10 (Z : State) (a1 : Addr) (a2 : Addr) (q3 : Int64) (v4 : Value) (v5 : Value) (v6 : Value) (v7 : Value) (u_topic_a1 : Value) (u_offset_a1 : Value) (u_keySchema_a1 : Value) (u_key_a1 : Value) (u_valueSchema_a1 : Value) (u_value_a1 : Value) (h0 : Heap) (n0 : Nat) (v : Option Value) (h : Heap) (L : List Loc) : Prop := v = none ∧ Fr n0 L ∧ Keep h0 h [a1] ∧ Exa Z h a1 "com/example/millrace/millrace/api/SinkRecord" ∧ Fld Z h a1 "com/example/millrace/millrace/api/SinkRecord" "topic" "Ljava/lang/String;" (.ref a2) ∧ Fld Z h a1 "com/example/millrace/millrace/api/SinkRecord" "offset" "J" (.long q3) ∧ Fld Z h a1 "com/example/millrace/millrace/api/SinkRecord" "keySchema" "Lcom/example/millrace/millrace/api/Schema;" v4 ∧ Fld Z h a1 "com/example/millrace/millrace/api/SinkRecord" "key" "Ljava/lang/Object;" v5 ∧ Fld Z h a1 "com/example/millrace/millrace/api/SinkRecord" "valueSchema" "Lcom/example/millrace/millrace/api/Schema;" v6 ∧ Fld Z h a1 "com/example/millrace/millrace/api/SinkRecord" "value" "Ljava/lang/Object;" v7
set_option maxRecDepth 65536 in
set_option maxHeartbeats 40000000 in
theorem rm10 (l : Launch) (Z : State) (a0 : Array Value) (hw : ∀ d ∈ tables_1, d.before a0 Z = true) (ws : List Jvm.Cond) (a1 : Addr) (a2 : Addr) (q3 : Int64) (v4 : Value) (v5 : Value) (v6 : Value) (v7 : Value) (u_topic_a1 : Value) (u_offset_a1 : Value) (u_keySchema_a1 : Value) (u_key_a1 : Value) (u_valueSchema_a1 : Value) (u_value_a1 : Value) (h0 : Heap) (n0 : Nat) (Z0 : n0 ≤ h0.size) (hr_v4 : v4.isRef = true) (hr_v5 : v5.isRef = true) (hr_v6 : v6.isRef = true) (hr_v7 : v7.isRef = true) (E_a1 : Exa Z h0 a1 "com/example/millrace/millrace/api/SinkRecord") (F_topic_a1 : Fld Z h0 a1 "com/example/millrace/millrace/api/SinkRecord" "topic" "Ljava/lang/String;" u_topic_a1) (g_a1 : n0 ≤ a1) (F_offset_a1 : Fld Z h0 a1 "com/example/millrace/millrace/api/SinkRecord" "offset" "J" u_offset_a1) (F_keySchema_a1 : Fld Z h0 a1 "com/example/millrace/millrace/api/SinkRecord" "keySchema" "Lcom/example/millrace/millrace/api/Schema;" u_keySchema_a1) (F_key_a1 : Fld Z h0 a1 "com/example/millrace/millrace/api/SinkRecord" "key" "Ljava/lang/Object;" u_key_a1) (F_valueSchema_a1 : Fld Z h0 a1 "com/example/millrace/millrace/api/SinkRecord" "valueSchema" "Lcom/example/millrace/millrace/api/Schema;" u_valueSchema_a1) (F_value_a1 : Fld Z h0 a1 "com/example/millrace/millrace/api/SinkRecord" "value" "Ljava/lang/Object;" u_value_a1) :
    MetFree l (⟨"com/example/millrace/millrace/api/SinkRecord", "<init>", "(Ljava/lang/String;JLcom/example/millrace/millrace/api/Schema;Ljava/lang/Object;Lcom/example/millrace/millrace/api/Schema;Ljava/lang/Object;)V"⟩ : MethodName) (head1 (Jvm.Cond.code (⟨"com/example/millrace/millrace/api/SinkRecord", "<init>", "(Ljava/lang/String;JLcom/example/millrace/millrace/api/Schema;Ljava/lang/Object;Lcom/example/millrace/millrace/api/Schema;Ljava/lang/Object;)V"⟩ : MethodName) prog_9_method_1_code 8 none :: ws) ({ frames := 2, cells := 0, slots := 0, locals := 24 } : Room)) (fun a U => a = #[(.ref a1), (.ref a2), (.long q3), v4, v5, v6, v7] ∧ Z.Warmed39 U.vm ∧ U.heap = h0) (fun _ _ _ _ _ => True) (fun _ U o U' => ∃ v L, o = .returned v ∧ Q10 Z a1 a2 q3 v4 v5 v6 v7 u_topic_a1 u_offset_a1 u_keySchema_a1 u_key_a1 u_valueSchema_a1 u_value_a1 h0 n0 v U'.heap L ∧ FrameEnd U o U' L ({ frames := 2, cells := 0, slots := 0, locals := 24 } : Room).cells ({ frames := 2, cells := 0, slots := 0, locals := 24 } : Room).slots) := by
  refine MetFree.of_bodySF (plainFor_of_name pn_10) hisR ?_
  intro p e s m args below meth c s₁ Bd hml0 hP hK
  obtain ⟨rfl, hZ, hh⟩ := hP
  have hx := Bd.exec
  have hby := Bd.bytes
  have hml : c.maxLocals = 8 := hml0
  have hown : s.vm.findClass "com/example/millrace/millrace/api/SinkRecord" = some m.cls := findClass_of_methodNamed Bd.named
  have hnm := (name_of_methodNamed Bd.named Bd.method).1
  have X0 : Stand p l e ({ frames := 2, cells := 0, slots := 0, locals := 24 } : Room) s m #[(.ref a1), (.ref a2), (.long q3), v4, v5, v6, v7] below meth c s₁ [] 0 0 := Stand.of_body Bd
  have e0 : s₁.heap = h0 := by rw [← hh, Bd.state]; rfl
  have N0 := Fr.nil n0
  have pre0 : ∀ t, Steps p.tables e below (s₁.setTop (mkF m 0 #[.val (.ref a1), .val (.ref a2), .val (.long q3), .second, .val v4, .val v5, .val v6, .val v7] [])) t → Steps p.tables e below (s₁.setTop (entryFrame m #[(.ref a1), (.ref a2), (.long q3), v4, v5, v6, v7] 8)) t := fun t k => castTop (ef_10 m a1 a2 q3 v4 hr_v4 v5 hr_v5 v6 hr_v6 v7 hr_v7) k
  have K1 : ∀ t, Steps p.tables e below (s₁.setTop (mkF m 1 #[.val (.ref a1), .val (.ref a2), .val (.long q3), .second, .val v4, .val v5, .val v6, .val v7] [(.ref a1)])) t → Steps p.tables e below (s₁.setTop (mkF m 0 #[.val (.ref a1), .val (.ref a2), .val (.long q3), .second, .val v4, .val v5, .val v6, .val v7] [])) t := by
    intro t k
    refine XS.aloadN X0.here hx rfl (Jvm.hb hby d10_0) rfl rfl ?_
    show Steps p.tables e below (s₁.setTop (mkF m 1 #[.val (.ref a1), .val (.ref a2), .val (.long q3), .second, .val v4, .val v5, .val v6, .val v7] [(.ref a1)])) t
    exact k
  obtain ⟨_, _, ⟨T2, L2, k2, n2⟩, -, X2, ⟨Lc2, hQ2, l2, y2, z2⟩, st2⟩ := X0.specialBack hx (y := (⟨"java/lang/Record", "<init>", "()V"⟩ : MethodName)) rfl hown (mvT hZ (hw _ (List.mem_of_getElem? (i := 52) rfl))) (mvT hZ (hw _ (List.mem_of_getElem? (i := 53) rfl))) (mvT hZ (hw _ (List.mem_of_getElem? (i := 56) rfl))) (by decide) (backOf (W := 0) (rm11 l Z a0 hw [] a1 h0 n0 Z0 ) hZ (hw _ (List.mem_of_getElem? (i := 56) rfl)) (hw _ (List.mem_of_getElem? (i := 55) rfl)) (by decide) (by decide)) (g := (mkF m 1 #[.val (.ref a1), .val (.ref a2), .val (.long q3), .second, .val v4, .val v5, .val v6, .val v7] [(.ref a1)])) rfl (by rw [hml]; rfl) (Steps.refl _) (a := a1) (argsL := []) (rest := []) (lenOf pd_4 rfl) rfl (by show 2 * 0 + _ ≤ _; exact Nat.le_of_eq rfl) (Jvm.hb hby d10_1) (fun _ _ => ⟨rfl, e0, (by decide : 0 + 0 ≤ _), (by decide : 0 + 0 ≤ _)⟩)
  dsimp only [Pt.U, Pt.locs, Pt.cells, Pt.slots] at X2 l2 y2 z2 st2 hQ2
  subst l2 y2 z2
  obtain ⟨rfl, N2q, e2⟩ := hQ2
  have N2 := Fr.app N0 N2q
  have K3 : ∀ t, Steps p.tables e below (T2.setTop (mkF m 4 #[.val (.ref a1), .val (.ref a2), .val (.long q3), .second, .val v4, .val v5, .val v6, .val v7] [])) t → Steps p.tables e below (s₁.setTop (mkF m 1 #[.val (.ref a1), .val (.ref a2), .val (.long q3), .second, .val v4, .val v5, .val v6, .val v7] [(.ref a1)])) t := fun t k => st2.trans k
  have K4 : ∀ t, Steps p.tables e below (T2.setTop (mkF m 6 #[.val (.ref a1), .val (.ref a2), .val (.long q3), .second, .val v4, .val v5, .val v6, .val v7] [(.ref a2), (.ref a1)])) t → Steps p.tables e below (T2.setTop (mkF m 4 #[.val (.ref a1), .val (.ref a2), .val (.long q3), .second, .val v4, .val v5, .val v6, .val v7] [])) t := by
    intro t k
    refine XS.aloadN X2.here hx rfl (Jvm.hb hby d10_4) rfl rfl ?_
    show Steps p.tables e below (T2.setTop (mkF m 5 #[.val (.ref a1), .val (.ref a2), .val (.long q3), .second, .val v4, .val v5, .val v6, .val v7] [(.ref a1)])) t
    refine XS.aloadN X2.here hx rfl (Jvm.hb hby d10_5) rfl rfl ?_
    show Steps p.tables e below (T2.setTop (mkF m 6 #[.val (.ref a1), .val (.ref a2), .val (.long q3), .second, .val v4, .val v5, .val v6, .val v7] [(.ref a2), (.ref a1)])) t
    exact k
  obtain ⟨T5, h5, X5, e5, W5, st5⟩ := putF X2 hx hZ hown (host := "") (Or.inl (hw _ (List.mem_of_getElem? (i := 58) rfl))) Via.refl e2 F_topic_a1 E_a1 (Or.inr ⟨(hw _ (List.mem_of_getElem? (i := 59) rfl)), rfl, hnm⟩) (hw _ (List.mem_of_getElem? (i := 47) rfl)) (ty := (.object "java/lang/String")) (by decide) rfl rfl (g := (mkF m 6 #[.val (.ref a1), .val (.ref a2), .val (.long q3), .second, .val v4, .val v5, .val v6, .val v7] [(.ref a2), (.ref a1)])) rfl rfl (Jvm.hb hby d10_6)
  have KP5 : Keep h0 h5 [a1] := (Keep.refl h0 [a1]).wr W5 (Or.inl (List.mem_of_getElem? (i := 0) rfl))
  have N5 := Fr.snoc X5 N2 g_a1
  have E5_0 : Exa Z h5 a1 "com/example/millrace/millrace/api/SinkRecord" := E_a1.wr W5
  have F5_1 : Fld Z h5 a1 "com/example/millrace/millrace/api/SinkRecord" "offset" "J" u_offset_a1 := F_offset_a1.other W5 (Or.inr (slot_ne (Or.inr (hw _ (List.mem_of_getElem? (i := 61) rfl))) (Or.inr (hw _ (List.mem_of_getElem? (i := 59) rfl))) (by decide) (t := .long) (t' := (.object "java/lang/String")) (by decide) (by decide)))
  have F5_2 : Fld Z h5 a1 "com/example/millrace/millrace/api/SinkRecord" "keySchema" "Lcom/example/millrace/millrace/api/Schema;" u_keySchema_a1 := F_keySchema_a1.other W5 (Or.inr (slot_ne (Or.inr (hw _ (List.mem_of_getElem? (i := 63) rfl))) (Or.inr (hw _ (List.mem_of_getElem? (i := 59) rfl))) (by decide) (t := (.object "com/example/millrace/millrace/api/Schema")) (t' := (.object "java/lang/String")) (by decide) (by decide)))
  have F5_3 : Fld Z h5 a1 "com/example/millrace/millrace/api/SinkRecord" "key" "Ljava/lang/Object;" u_key_a1 := F_key_a1.other W5 (Or.inr (slot_ne (Or.inr (hw _ (List.mem_of_getElem? (i := 65) rfl))) (Or.inr (hw _ (List.mem_of_getElem? (i := 59) rfl))) (by decide) (t := (.object "java/lang/Object")) (t' := (.object "java/lang/String")) (by decide) (by decide)))
  have F5_4 : Fld Z h5 a1 "com/example/millrace/millrace/api/SinkRecord" "valueSchema" "Lcom/example/millrace/millrace/api/Schema;" u_valueSchema_a1 := F_valueSchema_a1.other W5 (Or.inr (slot_ne (Or.inr (hw _ (List.mem_of_getElem? (i := 67) rfl))) (Or.inr (hw _ (List.mem_of_getElem? (i := 59) rfl))) (by decide) (t := (.object "com/example/millrace/millrace/api/Schema")) (t' := (.object "java/lang/String")) (by decide) (by decide)))
  have F5_5 : Fld Z h5 a1 "com/example/millrace/millrace/api/SinkRecord" "value" "Ljava/lang/Object;" u_value_a1 := F_value_a1.other W5 (Or.inr (slot_ne (Or.inr (hw _ (List.mem_of_getElem? (i := 69) rfl))) (Or.inr (hw _ (List.mem_of_getElem? (i := 59) rfl))) (by decide) (t := (.object "java/lang/Object")) (t' := (.object "java/lang/String")) (by decide) (by decide)))
  have Fw5 : Fld Z h5 a1 "com/example/millrace/millrace/api/SinkRecord" "topic" "Ljava/lang/String;" (.ref a2) := F_topic_a1.same W5
  have K6 : ∀ t, Steps p.tables e below (T5.setTop (mkF m 9 #[.val (.ref a1), .val (.ref a2), .val (.long q3), .second, .val v4, .val v5, .val v6, .val v7] [])) t → Steps p.tables e below (T2.setTop (mkF m 6 #[.val (.ref a1), .val (.ref a2), .val (.long q3), .second, .val v4, .val v5, .val v6, .val v7] [(.ref a2), (.ref a1)])) t := fun t k => st5 _ k
  have K7 : ∀ t, Steps p.tables e below (T5.setTop (mkF m 11 #[.val (.ref a1), .val (.ref a2), .val (.long q3), .second, .val v4, .val v5, .val v6, .val v7] [(.long q3), (.ref a1)])) t → Steps p.tables e below (T5.setTop (mkF m 9 #[.val (.ref a1), .val (.ref a2), .val (.long q3), .second, .val v4, .val v5, .val v6, .val v7] [])) t := by
    intro t k
    refine XS.aloadN X5.here hx rfl (Jvm.hb hby d10_9) rfl rfl ?_
    show Steps p.tables e below (T5.setTop (mkF m 10 #[.val (.ref a1), .val (.ref a2), .val (.long q3), .second, .val v4, .val v5, .val v6, .val v7] [(.ref a1)])) t
    refine XS.lloadN X5.here hx rfl (Jvm.hb hby d10_10) rfl ?_
    show Steps p.tables e below (T5.setTop (mkF m 11 #[.val (.ref a1), .val (.ref a2), .val (.long q3), .second, .val v4, .val v5, .val v6, .val v7] [(.long q3), (.ref a1)])) t
    exact k
  obtain ⟨T8, h8, X8, e8, W8, st8⟩ := putF X5 hx hZ hown (host := "") (Or.inl (hw _ (List.mem_of_getElem? (i := 60) rfl))) Via.refl e5 F5_1 E5_0 (Or.inr ⟨(hw _ (List.mem_of_getElem? (i := 61) rfl)), rfl, hnm⟩) (hw _ (List.mem_of_getElem? (i := 47) rfl)) (ty := .long) (by decide) rfl rfl (g := (mkF m 11 #[.val (.ref a1), .val (.ref a2), .val (.long q3), .second, .val v4, .val v5, .val v6, .val v7] [(.long q3), (.ref a1)])) rfl rfl (Jvm.hb hby d10_11)
  have KP8 : Keep h0 h8 [a1] := KP5.wr W8 (Or.inl (List.mem_of_getElem? (i := 0) rfl))
  have N8 := Fr.snoc X8 N5 g_a1
  have E8_0 : Exa Z h8 a1 "com/example/millrace/millrace/api/SinkRecord" := E5_0.wr W8
  have F8_1 : Fld Z h8 a1 "com/example/millrace/millrace/api/SinkRecord" "keySchema" "Lcom/example/millrace/millrace/api/Schema;" u_keySchema_a1 := F5_2.other W8 (Or.inr (slot_ne (Or.inr (hw _ (List.mem_of_getElem? (i := 63) rfl))) (Or.inr (hw _ (List.mem_of_getElem? (i := 61) rfl))) (by decide) (t := (.object "com/example/millrace/millrace/api/Schema")) (t' := .long) (by decide) (by decide)))
  have F8_2 : Fld Z h8 a1 "com/example/millrace/millrace/api/SinkRecord" "key" "Ljava/lang/Object;" u_key_a1 := F5_3.other W8 (Or.inr (slot_ne (Or.inr (hw _ (List.mem_of_getElem? (i := 65) rfl))) (Or.inr (hw _ (List.mem_of_getElem? (i := 61) rfl))) (by decide) (t := (.object "java/lang/Object")) (t' := .long) (by decide) (by decide)))
  have F8_3 : Fld Z h8 a1 "com/example/millrace/millrace/api/SinkRecord" "valueSchema" "Lcom/example/millrace/millrace/api/Schema;" u_valueSchema_a1 := F5_4.other W8 (Or.inr (slot_ne (Or.inr (hw _ (List.mem_of_getElem? (i := 67) rfl))) (Or.inr (hw _ (List.mem_of_getElem? (i := 61) rfl))) (by decide) (t := (.object "com/example/millrace/millrace/api/Schema")) (t' := .long) (by decide) (by decide)))
  have F8_4 : Fld Z h8 a1 "com/example/millrace/millrace/api/SinkRecord" "value" "Ljava/lang/Object;" u_value_a1 := F5_5.other W8 (Or.inr (slot_ne (Or.inr (hw _ (List.mem_of_getElem? (i := 69) rfl))) (Or.inr (hw _ (List.mem_of_getElem? (i := 61) rfl))) (by decide) (t := (.object "java/lang/Object")) (t' := .long) (by decide) (by decide)))
  have F8_5 : Fld Z h8 a1 "com/example/millrace/millrace/api/SinkRecord" "topic" "Ljava/lang/String;" (.ref a2) := Fw5.other W8 (Or.inr (slot_ne (Or.inr (hw _ (List.mem_of_getElem? (i := 59) rfl))) (Or.inr (hw _ (List.mem_of_getElem? (i := 61) rfl))) (by decide) (t := (.object "java/lang/String")) (t' := .long) (by decide) (by decide)))
  have Fw8 : Fld Z h8 a1 "com/example/millrace/millrace/api/SinkRecord" "offset" "J" (.long q3) := F5_1.same W8
  have K9 : ∀ t, Steps p.tables e below (T8.setTop (mkF m 14 #[.val (.ref a1), .val (.ref a2), .val (.long q3), .second, .val v4, .val v5, .val v6, .val v7] [])) t → Steps p.tables e below (T5.setTop (mkF m 11 #[.val (.ref a1), .val (.ref a2), .val (.long q3), .second, .val v4, .val v5, .val v6, .val v7] [(.long q3), (.ref a1)])) t := fun t k => st8 _ k
  have K10 : ∀ t, Steps p.tables e below (T8.setTop (mkF m 17 #[.val (.ref a1), .val (.ref a2), .val (.long q3), .second, .val v4, .val v5, .val v6, .val v7] [v4, (.ref a1)])) t → Steps p.tables e below (T8.setTop (mkF m 14 #[.val (.ref a1), .val (.ref a2), .val (.long q3), .second, .val v4, .val v5, .val v6, .val v7] [])) t := by
    intro t k
    refine XS.aloadN X8.here hx rfl (Jvm.hb hby d10_14) rfl rfl ?_
    show Steps p.tables e below (T8.setTop (mkF m 15 #[.val (.ref a1), .val (.ref a2), .val (.long q3), .second, .val v4, .val v5, .val v6, .val v7] [(.ref a1)])) t
    refine XS.aload X8.here hx rfl (Jvm.hb hby d10_15) rfl hr_v4 ?_
    show Steps p.tables e below (T8.setTop (mkF m 17 #[.val (.ref a1), .val (.ref a2), .val (.long q3), .second, .val v4, .val v5, .val v6, .val v7] [v4, (.ref a1)])) t
    exact k
  obtain ⟨T11, h11, X11, e11, W11, st11⟩ := putF X8 hx hZ hown (host := "") (Or.inl (hw _ (List.mem_of_getElem? (i := 62) rfl))) Via.refl e8 F8_1 E8_0 (Or.inr ⟨(hw _ (List.mem_of_getElem? (i := 63) rfl)), rfl, hnm⟩) (hw _ (List.mem_of_getElem? (i := 47) rfl)) (ty := (.object "com/example/millrace/millrace/api/Schema")) (by decide) (own_stv (P := fun y => narrow (.object "com/example/millrace/millrace/api/Schema") y = y) _ hr_v4 rfl (fun _ => rfl)) (own_stv (P := fun y => fits (.object "com/example/millrace/millrace/api/Schema") y = true) _ hr_v4 rfl (fun _ => rfl)) (g := (mkF m 17 #[.val (.ref a1), .val (.ref a2), .val (.long q3), .second, .val v4, .val v5, .val v6, .val v7] [v4, (.ref a1)])) rfl rfl (Jvm.hb hby d10_17)
  have KP11 : Keep h0 h11 [a1] := KP8.wr W11 (Or.inl (List.mem_of_getElem? (i := 0) rfl))
  have N11 := Fr.snoc X11 N8 g_a1
  have E11_0 : Exa Z h11 a1 "com/example/millrace/millrace/api/SinkRecord" := E8_0.wr W11
  have F11_1 : Fld Z h11 a1 "com/example/millrace/millrace/api/SinkRecord" "key" "Ljava/lang/Object;" u_key_a1 := F8_2.other W11 (Or.inr (slot_ne (Or.inr (hw _ (List.mem_of_getElem? (i := 65) rfl))) (Or.inr (hw _ (List.mem_of_getElem? (i := 63) rfl))) (by decide) (t := (.object "java/lang/Object")) (t' := (.object "com/example/millrace/millrace/api/Schema")) (by decide) (by decide)))
  have F11_2 : Fld Z h11 a1 "com/example/millrace/millrace/api/SinkRecord" "valueSchema" "Lcom/example/millrace/millrace/api/Schema;" u_valueSchema_a1 := F8_3.other W11 (Or.inr (slot_ne (Or.inr (hw _ (List.mem_of_getElem? (i := 67) rfl))) (Or.inr (hw _ (List.mem_of_getElem? (i := 63) rfl))) (by decide) (t := (.object "com/example/millrace/millrace/api/Schema")) (t' := (.object "com/example/millrace/millrace/api/Schema")) (by decide) (by decide)))
  have F11_3 : Fld Z h11 a1 "com/example/millrace/millrace/api/SinkRecord" "value" "Ljava/lang/Object;" u_value_a1 := F8_4.other W11 (Or.inr (slot_ne (Or.inr (hw _ (List.mem_of_getElem? (i := 69) rfl))) (Or.inr (hw _ (List.mem_of_getElem? (i := 63) rfl))) (by decide) (t := (.object "java/lang/Object")) (t' := (.object "com/example/millrace/millrace/api/Schema")) (by decide) (by decide)))
  have F11_4 : Fld Z h11 a1 "com/example/millrace/millrace/api/SinkRecord" "topic" "Ljava/lang/String;" (.ref a2) := F8_5.other W11 (Or.inr (slot_ne (Or.inr (hw _ (List.mem_of_getElem? (i := 59) rfl))) (Or.inr (hw _ (List.mem_of_getElem? (i := 63) rfl))) (by decide) (t := (.object "java/lang/String")) (t' := (.object "com/example/millrace/millrace/api/Schema")) (by decide) (by decide)))
  have F11_5 : Fld Z h11 a1 "com/example/millrace/millrace/api/SinkRecord" "offset" "J" (.long q3) := Fw8.other W11 (Or.inr (slot_ne (Or.inr (hw _ (List.mem_of_getElem? (i := 61) rfl))) (Or.inr (hw _ (List.mem_of_getElem? (i := 63) rfl))) (by decide) (t := .long) (t' := (.object "com/example/millrace/millrace/api/Schema")) (by decide) (by decide)))
  have Fw11 : Fld Z h11 a1 "com/example/millrace/millrace/api/SinkRecord" "keySchema" "Lcom/example/millrace/millrace/api/Schema;" v4 := F8_1.same W11
  have K12 : ∀ t, Steps p.tables e below (T11.setTop (mkF m 20 #[.val (.ref a1), .val (.ref a2), .val (.long q3), .second, .val v4, .val v5, .val v6, .val v7] [])) t → Steps p.tables e below (T8.setTop (mkF m 17 #[.val (.ref a1), .val (.ref a2), .val (.long q3), .second, .val v4, .val v5, .val v6, .val v7] [v4, (.ref a1)])) t := fun t k => st11 _ k
  have K13 : ∀ t, Steps p.tables e below (T11.setTop (mkF m 23 #[.val (.ref a1), .val (.ref a2), .val (.long q3), .second, .val v4, .val v5, .val v6, .val v7] [v5, (.ref a1)])) t → Steps p.tables e below (T11.setTop (mkF m 20 #[.val (.ref a1), .val (.ref a2), .val (.long q3), .second, .val v4, .val v5, .val v6, .val v7] [])) t := by
    intro t k
    refine XS.aloadN X11.here hx rfl (Jvm.hb hby d10_20) rfl rfl ?_
    show Steps p.tables e below (T11.setTop (mkF m 21 #[.val (.ref a1), .val (.ref a2), .val (.long q3), .second, .val v4, .val v5, .val v6, .val v7] [(.ref a1)])) t
    refine XS.aload X11.here hx rfl (Jvm.hb hby d10_21) rfl hr_v5 ?_
    show Steps p.tables e below (T11.setTop (mkF m 23 #[.val (.ref a1), .val (.ref a2), .val (.long q3), .second, .val v4, .val v5, .val v6, .val v7] [v5, (.ref a1)])) t
    exact k
  obtain ⟨T14, h14, X14, e14, W14, st14⟩ := putF X11 hx hZ hown (host := "") (Or.inl (hw _ (List.mem_of_getElem? (i := 64) rfl))) Via.refl e11 F11_1 E11_0 (Or.inr ⟨(hw _ (List.mem_of_getElem? (i := 65) rfl)), rfl, hnm⟩) (hw _ (List.mem_of_getElem? (i := 47) rfl)) (ty := (.object "java/lang/Object")) (by decide) (own_stv (P := fun y => narrow (.object "java/lang/Object") y = y) _ hr_v5 rfl (fun _ => rfl)) (own_stv (P := fun y => fits (.object "java/lang/Object") y = true) _ hr_v5 rfl (fun _ => rfl)) (g := (mkF m 23 #[.val (.ref a1), .val (.ref a2), .val (.long q3), .second, .val v4, .val v5, .val v6, .val v7] [v5, (.ref a1)])) rfl rfl (Jvm.hb hby d10_23)
  have KP14 : Keep h0 h14 [a1] := KP11.wr W14 (Or.inl (List.mem_of_getElem? (i := 0) rfl))
  have N14 := Fr.snoc X14 N11 g_a1
  have E14_0 : Exa Z h14 a1 "com/example/millrace/millrace/api/SinkRecord" := E11_0.wr W14
  have F14_1 : Fld Z h14 a1 "com/example/millrace/millrace/api/SinkRecord" "valueSchema" "Lcom/example/millrace/millrace/api/Schema;" u_valueSchema_a1 := F11_2.other W14 (Or.inr (slot_ne (Or.inr (hw _ (List.mem_of_getElem? (i := 67) rfl))) (Or.inr (hw _ (List.mem_of_getElem? (i := 65) rfl))) (by decide) (t := (.object "com/example/millrace/millrace/api/Schema")) (t' := (.object "java/lang/Object")) (by decide) (by decide)))
  have F14_2 : Fld Z h14 a1 "com/example/millrace/millrace/api/SinkRecord" "value" "Ljava/lang/Object;" u_value_a1 := F11_3.other W14 (Or.inr (slot_ne (Or.inr (hw _ (List.mem_of_getElem? (i := 69) rfl))) (Or.inr (hw _ (List.mem_of_getElem? (i := 65) rfl))) (by decide) (t := (.object "java/lang/Object")) (t' := (.object "java/lang/Object")) (by decide) (by decide)))
  have F14_3 : Fld Z h14 a1 "com/example/millrace/millrace/api/SinkRecord" "topic" "Ljava/lang/String;" (.ref a2) := F11_4.other W14 (Or.inr (slot_ne (Or.inr (hw _ (List.mem_of_getElem? (i := 59) rfl))) (Or.inr (hw _ (List.mem_of_getElem? (i := 65) rfl))) (by decide) (t := (.object "java/lang/String")) (t' := (.object "java/lang/Object")) (by decide) (by decide)))
  have F14_4 : Fld Z h14 a1 "com/example/millrace/millrace/api/SinkRecord" "offset" "J" (.long q3) := F11_5.other W14 (Or.inr (slot_ne (Or.inr (hw _ (List.mem_of_getElem? (i := 61) rfl))) (Or.inr (hw _ (List.mem_of_getElem? (i := 65) rfl))) (by decide) (t := .long) (t' := (.object "java/lang/Object")) (by decide) (by decide)))
  have F14_5 : Fld Z h14 a1 "com/example/millrace/millrace/api/SinkRecord" "keySchema" "Lcom/example/millrace/millrace/api/Schema;" v4 := Fw11.other W14 (Or.inr (slot_ne (Or.inr (hw _ (List.mem_of_getElem? (i := 63) rfl))) (Or.inr (hw _ (List.mem_of_getElem? (i := 65) rfl))) (by decide) (t := (.object "com/example/millrace/millrace/api/Schema")) (t' := (.object "java/lang/Object")) (by decide) (by decide)))
  have Fw14 : Fld Z h14 a1 "com/example/millrace/millrace/api/SinkRecord" "key" "Ljava/lang/Object;" v5 := F11_1.same W14
  have K15 : ∀ t, Steps p.tables e below (T14.setTop (mkF m 26 #[.val (.ref a1), .val (.ref a2), .val (.long q3), .second, .val v4, .val v5, .val v6, .val v7] [])) t → Steps p.tables e below (T11.setTop (mkF m 23 #[.val (.ref a1), .val (.ref a2), .val (.long q3), .second, .val v4, .val v5, .val v6, .val v7] [v5, (.ref a1)])) t := fun t k => st14 _ k
  have K16 : ∀ t, Steps p.tables e below (T14.setTop (mkF m 29 #[.val (.ref a1), .val (.ref a2), .val (.long q3), .second, .val v4, .val v5, .val v6, .val v7] [v6, (.ref a1)])) t → Steps p.tables e below (T14.setTop (mkF m 26 #[.val (.ref a1), .val (.ref a2), .val (.long q3), .second, .val v4, .val v5, .val v6, .val v7] [])) t := by
    intro t k
    refine XS.aloadN X14.here hx rfl (Jvm.hb hby d10_26) rfl rfl ?_
    show Steps p.tables e below (T14.setTop (mkF m 27 #[.val (.ref a1), .val (.ref a2), .val (.long q3), .second, .val v4, .val v5, .val v6, .val v7] [(.ref a1)])) t
    refine XS.aload X14.here hx rfl (Jvm.hb hby d10_27) rfl hr_v6 ?_
    show Steps p.tables e below (T14.setTop (mkF m 29 #[.val (.ref a1), .val (.ref a2), .val (.long q3), .second, .val v4, .val v5, .val v6, .val v7] [v6, (.ref a1)])) t
    exact k
  obtain ⟨T17, h17, X17, e17, W17, st17⟩ := putF X14 hx hZ hown (host := "") (Or.inl (hw _ (List.mem_of_getElem? (i := 66) rfl))) Via.refl e14 F14_1 E14_0 (Or.inr ⟨(hw _ (List.mem_of_getElem? (i := 67) rfl)), rfl, hnm⟩) (hw _ (List.mem_of_getElem? (i := 47) rfl)) (ty := (.object "com/example/millrace/millrace/api/Schema")) (by decide) (own_stv (P := fun y => narrow (.object "com/example/millrace/millrace/api/Schema") y = y) _ hr_v6 rfl (fun _ => rfl)) (own_stv (P := fun y => fits (.object "com/example/millrace/millrace/api/Schema") y = true) _ hr_v6 rfl (fun _ => rfl)) (g := (mkF m 29 #[.val (.ref a1), .val (.ref a2), .val (.long q3), .second, .val v4, .val v5, .val v6, .val v7] [v6, (.ref a1)])) rfl rfl (Jvm.hb hby d10_29)
  have KP17 : Keep h0 h17 [a1] := KP14.wr W17 (Or.inl (List.mem_of_getElem? (i := 0) rfl))
  have N17 := Fr.snoc X17 N14 g_a1
  have E17_0 : Exa Z h17 a1 "com/example/millrace/millrace/api/SinkRecord" := E14_0.wr W17
  have F17_1 : Fld Z h17 a1 "com/example/millrace/millrace/api/SinkRecord" "value" "Ljava/lang/Object;" u_value_a1 := F14_2.other W17 (Or.inr (slot_ne (Or.inr (hw _ (List.mem_of_getElem? (i := 69) rfl))) (Or.inr (hw _ (List.mem_of_getElem? (i := 67) rfl))) (by decide) (t := (.object "java/lang/Object")) (t' := (.object "com/example/millrace/millrace/api/Schema")) (by decide) (by decide)))
  have F17_2 : Fld Z h17 a1 "com/example/millrace/millrace/api/SinkRecord" "topic" "Ljava/lang/String;" (.ref a2) := F14_3.other W17 (Or.inr (slot_ne (Or.inr (hw _ (List.mem_of_getElem? (i := 59) rfl))) (Or.inr (hw _ (List.mem_of_getElem? (i := 67) rfl))) (by decide) (t := (.object "java/lang/String")) (t' := (.object "com/example/millrace/millrace/api/Schema")) (by decide) (by decide)))
  have F17_3 : Fld Z h17 a1 "com/example/millrace/millrace/api/SinkRecord" "offset" "J" (.long q3) := F14_4.other W17 (Or.inr (slot_ne (Or.inr (hw _ (List.mem_of_getElem? (i := 61) rfl))) (Or.inr (hw _ (List.mem_of_getElem? (i := 67) rfl))) (by decide) (t := .long) (t' := (.object "com/example/millrace/millrace/api/Schema")) (by decide) (by decide)))
  have F17_4 : Fld Z h17 a1 "com/example/millrace/millrace/api/SinkRecord" "keySchema" "Lcom/example/millrace/millrace/api/Schema;" v4 := F14_5.other W17 (Or.inr (slot_ne (Or.inr (hw _ (List.mem_of_getElem? (i := 63) rfl))) (Or.inr (hw _ (List.mem_of_getElem? (i := 67) rfl))) (by decide) (t := (.object "com/example/millrace/millrace/api/Schema")) (t' := (.object "com/example/millrace/millrace/api/Schema")) (by decide) (by decide)))
  have F17_5 : Fld Z h17 a1 "com/example/millrace/millrace/api/SinkRecord" "key" "Ljava/lang/Object;" v5 := Fw14.other W17 (Or.inr (slot_ne (Or.inr (hw _ (List.mem_of_getElem? (i := 65) rfl))) (Or.inr (hw _ (List.mem_of_getElem? (i := 67) rfl))) (by decide) (t := (.object "java/lang/Object")) (t' := (.object "com/example/millrace/millrace/api/Schema")) (by decide) (by decide)))
  have Fw17 : Fld Z h17 a1 "com/example/millrace/millrace/api/SinkRecord" "valueSchema" "Lcom/example/millrace/millrace/api/Schema;" v6 := F14_1.same W17
  have K18 : ∀ t, Steps p.tables e below (T17.setTop (mkF m 32 #[.val (.ref a1), .val (.ref a2), .val (.long q3), .second, .val v4, .val v5, .val v6, .val v7] [])) t → Steps p.tables e below (T14.setTop (mkF m 29 #[.val (.ref a1), .val (.ref a2), .val (.long q3), .second, .val v4, .val v5, .val v6, .val v7] [v6, (.ref a1)])) t := fun t k => st17 _ k
  have K19 : ∀ t, Steps p.tables e below (T17.setTop (mkF m 35 #[.val (.ref a1), .val (.ref a2), .val (.long q3), .second, .val v4, .val v5, .val v6, .val v7] [v7, (.ref a1)])) t → Steps p.tables e below (T17.setTop (mkF m 32 #[.val (.ref a1), .val (.ref a2), .val (.long q3), .second, .val v4, .val v5, .val v6, .val v7] [])) t := by
    intro t k
    refine XS.aloadN X17.here hx rfl (Jvm.hb hby d10_32) rfl rfl ?_
    show Steps p.tables e below (T17.setTop (mkF m 33 #[.val (.ref a1), .val (.ref a2), .val (.long q3), .second, .val v4, .val v5, .val v6, .val v7] [(.ref a1)])) t
    refine XS.aload X17.here hx rfl (Jvm.hb hby d10_33) rfl hr_v7 ?_
    show Steps p.tables e below (T17.setTop (mkF m 35 #[.val (.ref a1), .val (.ref a2), .val (.long q3), .second, .val v4, .val v5, .val v6, .val v7] [v7, (.ref a1)])) t
    exact k
  obtain ⟨T20, h20, X20, e20, W20, st20⟩ := putF X17 hx hZ hown (host := "") (Or.inl (hw _ (List.mem_of_getElem? (i := 68) rfl))) Via.refl e17 F17_1 E17_0 (Or.inr ⟨(hw _ (List.mem_of_getElem? (i := 69) rfl)), rfl, hnm⟩) (hw _ (List.mem_of_getElem? (i := 47) rfl)) (ty := (.object "java/lang/Object")) (by decide) (own_stv (P := fun y => narrow (.object "java/lang/Object") y = y) _ hr_v7 rfl (fun _ => rfl)) (own_stv (P := fun y => fits (.object "java/lang/Object") y = true) _ hr_v7 rfl (fun _ => rfl)) (g := (mkF m 35 #[.val (.ref a1), .val (.ref a2), .val (.long q3), .second, .val v4, .val v5, .val v6, .val v7] [v7, (.ref a1)])) rfl rfl (Jvm.hb hby d10_35)
  have KP20 : Keep h0 h20 [a1] := KP17.wr W20 (Or.inl (List.mem_of_getElem? (i := 0) rfl))
  have N20 := Fr.snoc X20 N17 g_a1
  have E20_0 : Exa Z h20 a1 "com/example/millrace/millrace/api/SinkRecord" := E17_0.wr W20
  have F20_1 : Fld Z h20 a1 "com/example/millrace/millrace/api/SinkRecord" "topic" "Ljava/lang/String;" (.ref a2) := F17_2.other W20 (Or.inr (slot_ne (Or.inr (hw _ (List.mem_of_getElem? (i := 59) rfl))) (Or.inr (hw _ (List.mem_of_getElem? (i := 69) rfl))) (by decide) (t := (.object "java/lang/String")) (t' := (.object "java/lang/Object")) (by decide) (by decide)))
  have F20_2 : Fld Z h20 a1 "com/example/millrace/millrace/api/SinkRecord" "offset" "J" (.long q3) := F17_3.other W20 (Or.inr (slot_ne (Or.inr (hw _ (List.mem_of_getElem? (i := 61) rfl))) (Or.inr (hw _ (List.mem_of_getElem? (i := 69) rfl))) (by decide) (t := .long) (t' := (.object "java/lang/Object")) (by decide) (by decide)))
  have F20_3 : Fld Z h20 a1 "com/example/millrace/millrace/api/SinkRecord" "keySchema" "Lcom/example/millrace/millrace/api/Schema;" v4 := F17_4.other W20 (Or.inr (slot_ne (Or.inr (hw _ (List.mem_of_getElem? (i := 63) rfl))) (Or.inr (hw _ (List.mem_of_getElem? (i := 69) rfl))) (by decide) (t := (.object "com/example/millrace/millrace/api/Schema")) (t' := (.object "java/lang/Object")) (by decide) (by decide)))
  have F20_4 : Fld Z h20 a1 "com/example/millrace/millrace/api/SinkRecord" "key" "Ljava/lang/Object;" v5 := F17_5.other W20 (Or.inr (slot_ne (Or.inr (hw _ (List.mem_of_getElem? (i := 65) rfl))) (Or.inr (hw _ (List.mem_of_getElem? (i := 69) rfl))) (by decide) (t := (.object "java/lang/Object")) (t' := (.object "java/lang/Object")) (by decide) (by decide)))
  have F20_5 : Fld Z h20 a1 "com/example/millrace/millrace/api/SinkRecord" "valueSchema" "Lcom/example/millrace/millrace/api/Schema;" v6 := Fw17.other W20 (Or.inr (slot_ne (Or.inr (hw _ (List.mem_of_getElem? (i := 67) rfl))) (Or.inr (hw _ (List.mem_of_getElem? (i := 69) rfl))) (by decide) (t := (.object "com/example/millrace/millrace/api/Schema")) (t' := (.object "java/lang/Object")) (by decide) (by decide)))
  have Fw20 : Fld Z h20 a1 "com/example/millrace/millrace/api/SinkRecord" "value" "Ljava/lang/Object;" v7 := F17_1.same W20
  have K21 : ∀ t, Steps p.tables e below (T20.setTop (mkF m 38 #[.val (.ref a1), .val (.ref a2), .val (.long q3), .second, .val v4, .val v5, .val v6, .val v7] [])) t → Steps p.tables e below (T17.setTop (mkF m 35 #[.val (.ref a1), .val (.ref a2), .val (.long q3), .second, .val v4, .val v5, .val v6, .val v7] [v7, (.ref a1)])) t := fun t k => st20 _ k
  obtain ⟨fs, hr, hrun, hended, hW, hsame⟩ := X20.leave (v := none) (fun _ => rfl) Bd.notSynchronized
  refine ⟨_, _, pre0 _ (K1 _ (K3 _ (K4 _ (K6 _ (K7 _ (K9 _ (K10 _ (K12 _ (K13 _ (K15 _ (K16 _ (K18 _ (K19 _ (K21 _ (X20.returnOut hx Bd.returns (Jvm.hb hby d10_38) hr))))))))))))))), hrun, hended, _, _, rfl, ?_, ⟨_, rfl⟩, hW, hsame.mono (by decide) (by decide)⟩
  show Q10 Z a1 a2 q3 v4 v5 v6 v7 u_topic_a1 u_offset_a1 u_keySchema_a1 u_key_a1 u_valueSchema_a1 u_value_a1 h0 n0 _ T20.heap _
  rw [e20]
  exact ⟨rfl, N20, KP20, E20_0, F20_1, F20_2, F20_3, F20_4, F20_5, Fw20⟩
-- body 12: com/example/millrace/millrace/api/SinkRecord.withData(Ljava/lang/String;Lcom/example/millrace/millrace/api/Schema;Ljava/lang/Object;Lcom/example/millrace/millrace/api/Schema;Ljava/lang/Object;)Lcom/example/millrace/millrace/api/SinkRecord;
theorem d12_0 : decode prog_9_method_2_code 0 = .ok (.new 8, 3) := by decide +kernel
theorem d12_3 : decode prog_9_method_2_code 3 = .ok (.dup, 1) := by decide +kernel
theorem d12_4 : decode prog_9_method_2_code 4 = .ok (.aload_n 1, 1) := by decide +kernel
theorem d12_5 : decode prog_9_method_2_code 5 = .ok (.aload_n 0, 1) := by decide +kernel
theorem d12_6 : decode prog_9_method_2_code 6 = .ok (.getfield 13, 3) := by decide +kernel
theorem d12_9 : decode prog_9_method_2_code 9 = .ok (.aload_n 2, 1) := by decide +kernel
theorem d12_10 : decode prog_9_method_2_code 10 = .ok (.aload_n 3, 1) := by decide +kernel
theorem d12_11 : decode prog_9_method_2_code 11 = .ok (.aload 4, 2) := by decide +kernel
theorem d12_13 : decode prog_9_method_2_code 13 = .ok (.aload 5, 2) := by decide +kernel
theorem d12_15 : decode prog_9_method_2_code 15 = .ok (.invokespecial 31, 3) := by decide +kernel
theorem d12_18 : decode prog_9_method_2_code 18 = .ok (.areturn, 1) := by decide +kernel
theorem pn_12 : plainName "com/example/millrace/millrace/api/SinkRecord" = true := by first | (simp [plainName, overriddenIn]; done) | decide +kernel
theorem pd_9 : parseMethodDescriptor "(Ljava/lang/String;JLcom/example/millrace/millrace/api/Schema;Ljava/lang/Object;Lcom/example/millrace/millrace/api/Schema;Ljava/lang/Object;)V" = some ⟨[(.object "java/lang/String"), .long, (.object "com/example/millrace/millrace/api/Schema"), (.object "java/lang/Object"), (.object "com/example/millrace/millrace/api/Schema"), (.object "java/lang/Object")], none⟩ := by decide +kernel
theorem ef_12 (m : MethodId) (a1 : Addr) (a2 : Addr) (v3 : Value) (hr_v3 : v3.isRef = true) (v4 : Value) (hr_v4 : v4.isRef = true) (v5 : Value) (hr_v5 : v5.isRef = true) (v6 : Value) (hr_v6 : v6.isRef = true) : entryFrame m #[(.ref a1), (.ref a2), v3, v4, v5, v6] 6 = mkF m 0 #[.val (.ref a1), .val (.ref a2), .val v3, .val v4, .val v5, .val v6] [] := by rcases Jvm.RoadKit.ref_cases hr_v3 with rfl | ⟨z, rfl⟩ <;> rcases Jvm.RoadKit.ref_cases hr_v4 with rfl | ⟨z, rfl⟩ <;> rcases Jvm.RoadKit.ref_cases hr_v5 with rfl | ⟨z, rfl⟩ <;> rcases Jvm.RoadKit.ref_cases hr_v6 with rfl | ⟨z, rfl⟩ <;> first | (simp [entryFrame, mkF, argsToLocals, Value.category]; done) | rfl
def Q12 (Z : State) (a1 : Addr) (a2 : Addr) (v3 : Value) (v4 : Value) (v5 : Value) (v6 : Value) (v_offset_a1 : Int64) (h0 : Heap) (n0 : Nat) (v : Option Value) (h : Heap) (L : List Loc) : Prop := ∃ x1 : Addr, v = some (.ref x1) ∧ Fr n0 L ∧ Keep h0 h [] ∧ h0.size ≤ x1 ∧ n0 ≤ x1 ∧ Exa Z h x1 "com/example/millrace/millrace/api/SinkRecord" ∧ Fld Z h x1 "com/example/millrace/millrace/api/SinkRecord" "topic" "Ljava/lang/String;" (.ref a2) ∧ Fld Z h x1 "com/example/millrace/millrace/api/SinkRecord" "offset" "J" (.long v_offset_a1) ∧ Fld Z h x1 "com/example/millrace/millrace/api/SinkRecord" "keySchema" "Lcom/example/millrace/millrace/api/Schema;" v3 ∧ Fld Z h x1 "com/example/millrace/millrace/api/SinkRecord" "key" "Ljava/lang/Object;" v4 ∧ Fld Z h x1 "com/example/millrace/millrace/api/SinkRecord" "valueSchema" "Lcom/example/millrace/millrace/api/Schema;" v5 ∧ Fld Z h x1 "com/example/millrace/millrace/api/SinkRecord" "value" "Ljava/lang/Object;" v6
set_option maxRecDepth 65536 in
set_option maxHeartbeats 40000000 in
theorem rm12 (l : Launch) (Z : State) (a0 : Array Value) (hw : ∀ d ∈ tables_1, d.before a0 Z = true) (ws : List Jvm.Cond) (a1 : Addr) (a2 : Addr) (v3 : Value) (v4 : Value) (v5 : Value) (v6 : Value) (v_offset_a1 : Int64) (h0 : Heap) (n0 : Nat) (Z0 : n0 ≤ h0.size) (hr_v3 : v3.isRef = true) (hr_v4 : v4.isRef = true) (hr_v5 : v5.isRef = true) (hr_v6 : v6.isRef = true) (F_offset_a1 : Fld Z h0 a1 "com/example/millrace/millrace/api/SinkRecord" "offset" "J" (.long v_offset_a1)) :
    MetFree l (⟨"com/example/millrace/millrace/api/SinkRecord", "withData", "(Ljava/lang/String;Lcom/example/millrace/millrace/api/Schema;Ljava/lang/Object;Lcom/example/millrace/millrace/api/Schema;Ljava/lang/Object;)Lcom/example/millrace/millrace/api/SinkRecord;"⟩ : MethodName) (head1 (Jvm.Cond.code (⟨"com/example/millrace/millrace/api/SinkRecord", "withData", "(Ljava/lang/String;Lcom/example/millrace/millrace/api/Schema;Ljava/lang/Object;Lcom/example/millrace/millrace/api/Schema;Ljava/lang/Object;)Lcom/example/millrace/millrace/api/SinkRecord;"⟩ : MethodName) prog_9_method_2_code 6 (some (.object "com/example/millrace/millrace/api/SinkRecord")) :: ws) ({ frames := 3, cells := 1, slots := 6, locals := 44 } : Room)) (fun a U => a = #[(.ref a1), (.ref a2), v3, v4, v5, v6] ∧ Z.Warmed39 U.vm ∧ U.heap = h0) (fun _ _ _ _ _ => True) (fun _ U o U' => ∃ v L, o = .returned v ∧ Q12 Z a1 a2 v3 v4 v5 v6 v_offset_a1 h0 n0 v U'.heap L ∧ FrameEnd U o U' L ({ frames := 3, cells := 1, slots := 6, locals := 44 } : Room).cells ({ frames := 3, cells := 1, slots := 6, locals := 44 } : Room).slots) := by
  refine MetFree.of_bodySF (plainFor_of_name pn_12) hisR ?_
  intro p e s m args below meth c s₁ Bd hml0 hP hK
  obtain ⟨rfl, hZ, hh⟩ := hP
  have hx := Bd.exec
  have hby := Bd.bytes
  have hml : c.maxLocals = 6 := hml0
  have hown : s.vm.findClass "com/example/millrace/millrace/api/SinkRecord" = some m.cls := findClass_of_methodNamed Bd.named
  have hnm := (name_of_methodNamed Bd.named Bd.method).1
  have X0 : Stand p l e ({ frames := 3, cells := 1, slots := 6, locals := 44 } : Room) s m #[(.ref a1), (.ref a2), v3, v4, v5, v6] below meth c s₁ [] 0 0 := Stand.of_body Bd
  have e0 : s₁.heap = h0 := by rw [← hh, Bd.state]; rfl
  have N0 := Fr.nil n0
  have pre0 : ∀ t, Steps p.tables e below (s₁.setTop (mkF m 0 #[.val (.ref a1), .val (.ref a2), .val v3, .val v4, .val v5, .val v6] [])) t → Steps p.tables e below (s₁.setTop (entryFrame m #[(.ref a1), (.ref a2), v3, v4, v5, v6] 6)) t := fun t k => castTop (ef_12 m a1 a2 v3 hr_v3 v4 hr_v4 v5 hr_v5 v6 hr_v6) k
  obtain ⟨T1, h1, X1, e1, E1, A1, D1, -, st1⟩ := newO X0 hx hZ hown (hw _ (List.mem_of_getElem? (i := 75) rfl)) (hw _ (List.mem_of_getElem? (i := 47) rfl)) (hw _ (List.mem_of_getElem? (i := 48) rfl)) e0 (g := (mkF m 0 #[.val (.ref a1), .val (.ref a2), .val v3, .val v4, .val v5, .val v6] [])) rfl (Jvm.hb hby d12_0) (by decide) (by decide)
  obtain ⟨b1, g1⟩ : ∃ z, z = h0.size := ⟨_, rfl⟩
  rw [← g1] at A1 D1 st1
  have KP1 : Keep h0 h1 [] := (Keep.refl h0 []).ext E1
  have F1_0 : Fld Z h1 a1 "com/example/millrace/millrace/api/SinkRecord" "offset" "J" (.long v_offset_a1) := F_offset_a1.ext E1
  have ne1_0 : a1 ≠ b1 := Nat.ne_of_lt (Nat.lt_of_lt_of_le F_offset_a1.lt (Nat.le_of_eq g1.symm))
  have gb_b1 : n0 ≤ b1 := Nat.le_trans Z0 (Nat.le_of_eq g1.symm)
  have sz_b1 : h0.size ≤ b1 := Nat.le_trans (Keep.refl h0 []).1 (Nat.le_of_eq g1.symm)
  have F1_topic : Fld Z h1 b1 "com/example/millrace/millrace/api/SinkRecord" "topic" "Ljava/lang/String;" .null := D1 (Or.inr (hw _ (List.mem_of_getElem? (i := 59) rfl))) (ty := (.object "java/lang/String")) (by decide)
  have F1_offset : Fld Z h1 b1 "com/example/millrace/millrace/api/SinkRecord" "offset" "J" (.long (0 : Int64)) := D1 (Or.inr (hw _ (List.mem_of_getElem? (i := 61) rfl))) (ty := .long) (by decide)
  have F1_keySchema : Fld Z h1 b1 "com/example/millrace/millrace/api/SinkRecord" "keySchema" "Lcom/example/millrace/millrace/api/Schema;" .null := D1 (Or.inr (hw _ (List.mem_of_getElem? (i := 63) rfl))) (ty := (.object "com/example/millrace/millrace/api/Schema")) (by decide)
  have F1_key : Fld Z h1 b1 "com/example/millrace/millrace/api/SinkRecord" "key" "Ljava/lang/Object;" .null := D1 (Or.inr (hw _ (List.mem_of_getElem? (i := 65) rfl))) (ty := (.object "java/lang/Object")) (by decide)
  have F1_valueSchema : Fld Z h1 b1 "com/example/millrace/millrace/api/SinkRecord" "valueSchema" "Lcom/example/millrace/millrace/api/Schema;" .null := D1 (Or.inr (hw _ (List.mem_of_getElem? (i := 67) rfl))) (ty := (.object "com/example/millrace/millrace/api/Schema")) (by decide)
  have F1_value : Fld Z h1 b1 "com/example/millrace/millrace/api/SinkRecord" "value" "Ljava/lang/Object;" .null := D1 (Or.inr (hw _ (List.mem_of_getElem? (i := 69) rfl))) (ty := (.object "java/lang/Object")) (by decide)
  have K2 : ∀ t, Steps p.tables e below (T1.setTop (mkF m 3 #[.val (.ref a1), .val (.ref a2), .val v3, .val v4, .val v5, .val v6] [(.ref b1)])) t → Steps p.tables e below (s₁.setTop (mkF m 0 #[.val (.ref a1), .val (.ref a2), .val v3, .val v4, .val v5, .val v6] [])) t := fun t k => st1 _ k
  have K3 : ∀ t, Steps p.tables e below (T1.setTop (mkF m 6 #[.val (.ref a1), .val (.ref a2), .val v3, .val v4, .val v5, .val v6] [(.ref a1), (.ref a2), (.ref b1), (.ref b1)])) t → Steps p.tables e below (T1.setTop (mkF m 3 #[.val (.ref a1), .val (.ref a2), .val v3, .val v4, .val v5, .val v6] [(.ref b1)])) t := by
    intro t k
    refine XS.dup X1.here hx rfl (Jvm.hb hby d12_3) rfl rfl ?_
    show Steps p.tables e below (T1.setTop (mkF m 4 #[.val (.ref a1), .val (.ref a2), .val v3, .val v4, .val v5, .val v6] [(.ref b1), (.ref b1)])) t
    refine XS.aloadN X1.here hx rfl (Jvm.hb hby d12_4) rfl rfl ?_
    show Steps p.tables e below (T1.setTop (mkF m 5 #[.val (.ref a1), .val (.ref a2), .val v3, .val v4, .val v5, .val v6] [(.ref a2), (.ref b1), (.ref b1)])) t
    refine XS.aloadN X1.here hx rfl (Jvm.hb hby d12_5) rfl rfl ?_
    show Steps p.tables e below (T1.setTop (mkF m 6 #[.val (.ref a1), .val (.ref a2), .val v3, .val v4, .val v5, .val v6] [(.ref a1), (.ref a2), (.ref b1), (.ref b1)])) t
    exact k
  obtain ⟨T4, X4, e4, st4⟩ := getF X1 hx hZ hown (host := "") (Or.inl (hw _ (List.mem_of_getElem? (i := 60) rfl))) Via.refl e1 F1_0 (g := (mkF m 6 #[.val (.ref a1), .val (.ref a2), .val v3, .val v4, .val v5, .val v6] [(.ref a1), (.ref a2), (.ref b1), (.ref b1)])) rfl rfl (Jvm.hb hby d12_6)
  have K5 : ∀ t, Steps p.tables e below (T4.setTop (mkF m 9 #[.val (.ref a1), .val (.ref a2), .val v3, .val v4, .val v5, .val v6] [(.long v_offset_a1), (.ref a2), (.ref b1), (.ref b1)])) t → Steps p.tables e below (T1.setTop (mkF m 6 #[.val (.ref a1), .val (.ref a2), .val v3, .val v4, .val v5, .val v6] [(.ref a1), (.ref a2), (.ref b1), (.ref b1)])) t := fun t k => st4 _ k
  have K6 : ∀ t, Steps p.tables e below (T4.setTop (mkF m 15 #[.val (.ref a1), .val (.ref a2), .val v3, .val v4, .val v5, .val v6] [v6, v5, v4, v3, (.long v_offset_a1), (.ref a2), (.ref b1), (.ref b1)])) t → Steps p.tables e below (T4.setTop (mkF m 9 #[.val (.ref a1), .val (.ref a2), .val v3, .val v4, .val v5, .val v6] [(.long v_offset_a1), (.ref a2), (.ref b1), (.ref b1)])) t := by
    intro t k
    refine XS.aloadN X4.here hx rfl (Jvm.hb hby d12_9) rfl hr_v3 ?_
    show Steps p.tables e below (T4.setTop (mkF m 10 #[.val (.ref a1), .val (.ref a2), .val v3, .val v4, .val v5, .val v6] [v3, (.long v_offset_a1), (.ref a2), (.ref b1), (.ref b1)])) t
    refine XS.aloadN X4.here hx rfl (Jvm.hb hby d12_10) rfl hr_v4 ?_
    show Steps p.tables e below (T4.setTop (mkF m 11 #[.val (.ref a1), .val (.ref a2), .val v3, .val v4, .val v5, .val v6] [v4, v3, (.long v_offset_a1), (.ref a2), (.ref b1), (.ref b1)])) t
    refine XS.aload X4.here hx rfl (Jvm.hb hby d12_11) rfl hr_v5 ?_
    show Steps p.tables e below (T4.setTop (mkF m 13 #[.val (.ref a1), .val (.ref a2), .val v3, .val v4, .val v5, .val v6] [v5, v4, v3, (.long v_offset_a1), (.ref a2), (.ref b1), (.ref b1)])) t
    refine XS.aload X4.here hx rfl (Jvm.hb hby d12_13) rfl hr_v6 ?_
    show Steps p.tables e below (T4.setTop (mkF m 15 #[.val (.ref a1), .val (.ref a2), .val v3, .val v4, .val v5, .val v6] [v6, v5, v4, v3, (.long v_offset_a1), (.ref a2), (.ref b1), (.ref b1)])) t
    exact k
  obtain ⟨_, _, ⟨T7, L7, k7, n7⟩, -, X7, ⟨Lc7, hQ7, l7, y7, z7⟩, st7⟩ := X4.specialBack hx (y := (⟨"com/example/millrace/millrace/api/SinkRecord", "<init>", "(Ljava/lang/String;JLcom/example/millrace/millrace/api/Schema;Ljava/lang/Object;Lcom/example/millrace/millrace/api/Schema;Ljava/lang/Object;)V"⟩ : MethodName)) rfl hown (mvT hZ (hw _ (List.mem_of_getElem? (i := 76) rfl))) (mvT hZ (hw _ (List.mem_of_getElem? (i := 50) rfl))) (mvT hZ (hw _ (List.mem_of_getElem? (i := 51) rfl))) (by decide) (backOf (W := 1) (rm10 l Z a0 hw [] b1 a2 v_offset_a1 v3 v4 v5 v6 .null (.long (0 : Int64)) .null .null .null .null h1 n0 (Nat.le_trans Z0 KP1.1) hr_v3 hr_v4 hr_v5 hr_v6 A1 F1_topic gb_b1 F1_offset F1_keySchema F1_key F1_valueSchema F1_value) hZ (hw _ (List.mem_of_getElem? (i := 51) rfl)) (hw _ (List.mem_of_getElem? (i := 48) rfl)) (by decide) (by decide)) (g := (mkF m 15 #[.val (.ref a1), .val (.ref a2), .val v3, .val v4, .val v5, .val v6] [v6, v5, v4, v3, (.long v_offset_a1), (.ref a2), (.ref b1), (.ref b1)])) rfl (by rw [hml]; rfl) (Steps.refl _) (a := b1) (argsL := [(.ref a2), (.long v_offset_a1), v3, v4, v5, v6]) (rest := [(.ref b1)]) (lenOf pd_9 rfl) rfl (by show 2 * 0 + _ ≤ _; exact Nat.le_of_eq rfl) (Jvm.hb hby d12_15) (fun _ _ => ⟨rfl, e4, (by decide : 1 + 0 ≤ _), (by decide : 6 + 0 ≤ _)⟩)
  dsimp only [Pt.U, Pt.locs, Pt.cells, Pt.slots] at X7 l7 y7 z7 st7 hQ7
  subst l7 y7 z7
  obtain ⟨h7, e7⟩ : ∃ z, T7.heap = z := ⟨_, rfl⟩
  rw [e7] at hQ7
  obtain ⟨rfl, N7q, Kq7, R7_0, R7_1, R7_2, R7_3, R7_4, R7_5, R7_6⟩ := hQ7
  have N7 := Fr.app N0 N7q
  have KP7 : Keep h0 h7 [] := KP1.trans Kq7 (allS (Or.inr sz_b1) all0)
  have F7_0 : Fld Z h7 a1 "com/example/millrace/millrace/api/SinkRecord" "offset" "J" (.long v_offset_a1) := F1_0.keep Kq7 (ninS ne1_0 nin0)
  have K8 : ∀ t, Steps p.tables e below (T7.setTop (mkF m 18 #[.val (.ref a1), .val (.ref a2), .val v3, .val v4, .val v5, .val v6] [(.ref b1)])) t → Steps p.tables e below (T4.setTop (mkF m 15 #[.val (.ref a1), .val (.ref a2), .val v3, .val v4, .val v5, .val v6] [v6, v5, v4, v3, (.long v_offset_a1), (.ref a2), (.ref b1), (.ref b1)])) t := fun t k => st7.trans k
  obtain ⟨fs, hr, hrun, hended, hW, hsame⟩ := X7.leave (v := some (.ref b1)) (fun h => by rw [Bd.returns] at h; cases h) Bd.notSynchronized
  refine ⟨_, _, pre0 _ (K2 _ (K3 _ (K5 _ (K6 _ (K8 _ (retOut X7 hx Bd.returns rfl (Or.inr (Or.inr (Or.inr (Or.inr ⟨rfl, rfl, rfl⟩)))) (Jvm.hb hby d12_18) hr)))))), hrun, hended, _, _, rfl, ?_, ⟨_, rfl⟩, hW, hsame.mono (by decide) (by decide)⟩
  show Q12 Z a1 a2 v3 v4 v5 v6 v_offset_a1 h0 n0 _ T7.heap _
  rw [e7]
  exact ⟨b1, rfl, N7, KP7, sz_b1, gb_b1, R7_0, R7_1, R7_2, R7_3, R7_4, R7_5, R7_6⟩
-- body 13: com/example/millrace/millrace/api/SinkRecord.topic()Ljava/lang/String;
theorem d13_0 : decode prog_9_method_6_code 0 = .ok (.aload_n 0, 1) := by decide +kernel
theorem d13_1 : decode prog_9_method_6_code 1 = .ok (.getfield 7, 3) := by decide +kernel
theorem d13_4 : decode prog_9_method_6_code 4 = .ok (.areturn, 1) := by decide +kernel
theorem pn_13 : plainName "com/example/millrace/millrace/api/SinkRecord" = true := by first | (simp [plainName, overriddenIn]; done) | decide +kernel
theorem ef_13 (m : MethodId) (a1 : Addr) : entryFrame m #[(.ref a1)] 1 = mkF m 0 #[.val (.ref a1)] [] := by first | (simp [entryFrame, mkF, argsToLocals, Value.category]; done) | rfl
def f13 (v_topic_a1 : Addr) : Addr := v_topic_a1
def Q13 (Z : State) (a1 : Addr) (v_topic_a1 : Addr) (h0 : Heap) (n0 : Nat) (v : Option Value) (h : Heap) (L : List Loc) : Prop := v = some (.ref (f13 v_topic_a1)) ∧ Fr n0 L ∧ h = h0
set_option maxRecDepth 65536 in
set_option maxHeartbeats 40000000 in
theorem rm13 (l : Launch) (Z : State) (a0 : Array Value) (hw : ∀ d ∈ tables_1, d.before a0 Z = true) (ws : List Jvm.Cond) (a1 : Addr) (v_topic_a1 : Addr) (h0 : Heap) (n0 : Nat) (Z0 : n0 ≤ h0.size) (F_topic_a1 : Fld Z h0 a1 "com/example/millrace/millrace/api/SinkRecord" "topic" "Ljava/lang/String;" (.ref v_topic_a1)) :
    MetFree l (⟨"com/example/millrace/millrace/api/SinkRecord", "topic", "()Ljava/lang/String;"⟩ : MethodName) (head1 (Jvm.Cond.code (⟨"com/example/millrace/millrace/api/SinkRecord", "topic", "()Ljava/lang/String;"⟩ : MethodName) prog_9_method_6_code 1 (some (.object "java/lang/String")) :: ws) ({ frames := 0, cells := 0, slots := 0, locals := 0 } : Room)) (fun a U => a = #[(.ref a1)] ∧ Z.Warmed39 U.vm ∧ U.heap = h0) (fun _ _ _ _ _ => True) (fun _ U o U' => ∃ v L, o = .returned v ∧ Q13 Z a1 v_topic_a1 h0 n0 v U'.heap L ∧ FrameEnd U o U' L ({ frames := 0, cells := 0, slots := 0, locals := 0 } : Room).cells ({ frames := 0, cells := 0, slots := 0, locals := 0 } : Room).slots) := by
  refine MetFree.of_bodySF (plainFor_of_name pn_13) hisR ?_
  intro p e s m args below meth c s₁ Bd hml0 hP hK
  obtain ⟨rfl, hZ, hh⟩ := hP
  have hx := Bd.exec
  have hby := Bd.bytes
  have hml : c.maxLocals = 1 := hml0
  have hown : s.vm.findClass "com/example/millrace/millrace/api/SinkRecord" = some m.cls := findClass_of_methodNamed Bd.named
  have hnm := (name_of_methodNamed Bd.named Bd.method).1
  have X0 : Stand p l e ({ frames := 0, cells := 0, slots := 0, locals := 0 } : Room) s m #[(.ref a1)] below meth c s₁ [] 0 0 := Stand.of_body Bd
  have e0 : s₁.heap = h0 := by rw [← hh, Bd.state]; rfl
  have N0 := Fr.nil n0
  have pre0 : ∀ t, Steps p.tables e below (s₁.setTop (mkF m 0 #[.val (.ref a1)] [])) t → Steps p.tables e below (s₁.setTop (entryFrame m #[(.ref a1)] 1)) t := fun t k => castTop (ef_13 m a1) k
  have K1 : ∀ t, Steps p.tables e below (s₁.setTop (mkF m 1 #[.val (.ref a1)] [(.ref a1)])) t → Steps p.tables e below (s₁.setTop (mkF m 0 #[.val (.ref a1)] [])) t := by
    intro t k
    refine XS.aloadN X0.here hx rfl (Jvm.hb hby d13_0) rfl rfl ?_
    show Steps p.tables e below (s₁.setTop (mkF m 1 #[.val (.ref a1)] [(.ref a1)])) t
    exact k
  obtain ⟨T2, X2, e2, st2⟩ := getF X0 hx hZ hown (host := "") (Or.inl (hw _ (List.mem_of_getElem? (i := 58) rfl))) Via.refl e0 F_topic_a1 (g := (mkF m 1 #[.val (.ref a1)] [(.ref a1)])) rfl rfl (Jvm.hb hby d13_1)
  have K3 : ∀ t, Steps p.tables e below (T2.setTop (mkF m 4 #[.val (.ref a1)] [(.ref v_topic_a1)])) t → Steps p.tables e below (s₁.setTop (mkF m 1 #[.val (.ref a1)] [(.ref a1)])) t := fun t k => st2 _ k
  obtain ⟨fs, hr, hrun, hended, hW, hsame⟩ := X2.leave (v := some (.ref v_topic_a1)) (fun h => by rw [Bd.returns] at h; cases h) Bd.notSynchronized
  refine ⟨_, _, pre0 _ (K1 _ (K3 _ (retOut X2 hx Bd.returns rfl (Or.inr (Or.inr (Or.inr (Or.inr ⟨rfl, rfl, rfl⟩)))) (Jvm.hb hby d13_4) hr))), hrun, hended, _, _, rfl, ?_, ⟨_, rfl⟩, hW, hsame.mono (by decide) (by decide)⟩
  show Q13 Z a1 v_topic_a1 h0 n0 _ T2.heap _
  rw [e2]
  exact ⟨congrArg (fun z => some (Value.ref z)) (show v_topic_a1 = f13 v_topic_a1 from Eq.symm (rfl)), N0, rfl⟩
-- body 14: com/example/millrace/millrace/api/SinkRecord.offset()J
theorem d14_0 : decode prog_9_method_7_code 0 = .ok (.aload_n 0, 1) := by decide +kernel
theorem d14_1 : decode prog_9_method_7_code 1 = .ok (.getfield 13, 3) := by decide +kernel
theorem d14_4 : decode prog_9_method_7_code 4 = .ok (.lreturn, 1) := by decide +kernel
theorem pn_14 : plainName "com/example/millrace/millrace/api/SinkRecord" = true := by first | (simp [plainName, overriddenIn]; done) | decide +kernel
theorem ef_14 (m : MethodId) (a1 : Addr) : entryFrame m #[(.ref a1)] 1 = mkF m 0 #[.val (.ref a1)] [] := by first | (simp [entryFrame, mkF, argsToLocals, Value.category]; done) | rfl
def f14 (v_offset_a1 : Int64) : Int64 := v_offset_a1
def Q14 (Z : State) (a1 : Addr) (v_offset_a1 : Int64) (h0 : Heap) (n0 : Nat) (v : Option Value) (h : Heap) (L : List Loc) : Prop := v = some (.long (f14 v_offset_a1)) ∧ Fr n0 L ∧ h = h0
set_option maxRecDepth 65536 in
set_option maxHeartbeats 40000000 in
theorem rm14 (l : Launch) (Z : State) (a0 : Array Value) (hw : ∀ d ∈ tables_1, d.before a0 Z = true) (ws : List Jvm.Cond) (a1 : Addr) (v_offset_a1 : Int64) (h0 : Heap) (n0 : Nat) (Z0 : n0 ≤ h0.size) (F_offset_a1 : Fld Z h0 a1 "com/example/millrace/millrace/api/SinkRecord" "offset" "J" (.long v_offset_a1)) :
    MetFree l (⟨"com/example/millrace/millrace/api/SinkRecord", "offset", "()J"⟩ : MethodName) (head1 (Jvm.Cond.code (⟨"com/example/millrace/millrace/api/SinkRecord", "offset", "()J"⟩ : MethodName) prog_9_method_7_code 1 (some .long) :: ws) ({ frames := 0, cells := 0, slots := 0, locals := 0 } : Room)) (fun a U => a = #[(.ref a1)] ∧ Z.Warmed39 U.vm ∧ U.heap = h0) (fun _ _ _ _ _ => True) (fun _ U o U' => ∃ v L, o = .returned v ∧ Q14 Z a1 v_offset_a1 h0 n0 v U'.heap L ∧ FrameEnd U o U' L ({ frames := 0, cells := 0, slots := 0, locals := 0 } : Room).cells ({ frames := 0, cells := 0, slots := 0, locals := 0 } : Room).slots) := by
  refine MetFree.of_bodySF (plainFor_of_name pn_14) hisR ?_
  intro p e s m args below meth c s₁ Bd hml0 hP hK
  obtain ⟨rfl, hZ, hh⟩ := hP
  have hx := Bd.exec
  have hby := Bd.bytes
  have hml : c.maxLocals = 1 := hml0
  have hown : s.vm.findClass "com/example/millrace/millrace/api/SinkRecord" = some m.cls := findClass_of_methodNamed Bd.named
  have hnm := (name_of_methodNamed Bd.named Bd.method).1
  have X0 : Stand p l e ({ frames := 0, cells := 0, slots := 0, locals := 0 } : Room) s m #[(.ref a1)] below meth c s₁ [] 0 0 := Stand.of_body Bd
  have e0 : s₁.heap = h0 := by rw [← hh, Bd.state]; rfl
  have N0 := Fr.nil n0
  have pre0 : ∀ t, Steps p.tables e below (s₁.setTop (mkF m 0 #[.val (.ref a1)] [])) t → Steps p.tables e below (s₁.setTop (entryFrame m #[(.ref a1)] 1)) t := fun t k => castTop (ef_14 m a1) k
  have K1 : ∀ t, Steps p.tables e below (s₁.setTop (mkF m 1 #[.val (.ref a1)] [(.ref a1)])) t → Steps p.tables e below (s₁.setTop (mkF m 0 #[.val (.ref a1)] [])) t := by
    intro t k
    refine XS.aloadN X0.here hx rfl (Jvm.hb hby d14_0) rfl rfl ?_
    show Steps p.tables e below (s₁.setTop (mkF m 1 #[.val (.ref a1)] [(.ref a1)])) t
    exact k
  obtain ⟨T2, X2, e2, st2⟩ := getF X0 hx hZ hown (host := "") (Or.inl (hw _ (List.mem_of_getElem? (i := 60) rfl))) Via.refl e0 F_offset_a1 (g := (mkF m 1 #[.val (.ref a1)] [(.ref a1)])) rfl rfl (Jvm.hb hby d14_1)
  have K3 : ∀ t, Steps p.tables e below (T2.setTop (mkF m 4 #[.val (.ref a1)] [(.long v_offset_a1)])) t → Steps p.tables e below (s₁.setTop (mkF m 1 #[.val (.ref a1)] [(.ref a1)])) t := fun t k => st2 _ k
  obtain ⟨fs, hr, hrun, hended, hW, hsame⟩ := X2.leave (v := some (.long v_offset_a1)) (fun h => by rw [Bd.returns] at h; cases h) Bd.notSynchronized
  refine ⟨_, _, pre0 _ (K1 _ (K3 _ (X2.lreturnOut hx Bd.returns (Jvm.hb hby d14_4) hr))), hrun, hended, _, _, rfl, ?_, ⟨_, rfl⟩, hW, hsame.mono (by decide) (by decide)⟩
  show Q14 Z a1 v_offset_a1 h0 n0 _ T2.heap _
  rw [e2]
  exact ⟨congrArg (fun z => some (Value.long z)) (show v_offset_a1 = f14 v_offset_a1 from Eq.symm (rfl)), N0, rfl⟩
-- body 15: com/example/millrace/millrace/api/SinkRecord.keySchema()Lcom/example/millrace/millrace/api/Schema;
theorem d15_0 : decode prog_9_method_8_code 0 = .ok (.aload_n 0, 1) := by decide +kernel
theorem d15_1 : decode prog_9_method_8_code 1 = .ok (.getfield 17, 3) := by decide +kernel
theorem d15_4 : decode prog_9_method_8_code 4 = .ok (.areturn, 1) := by decide +kernel
theorem pn_15 : plainName "com/example/millrace/millrace/api/SinkRecord" = true := by first | (simp [plainName, overriddenIn]; done) | decide +kernel
theorem ef_15 (m : MethodId) (a1 : Addr) : entryFrame m #[(.ref a1)] 1 = mkF m 0 #[.val (.ref a1)] [] := by first | (simp [entryFrame, mkF, argsToLocals, Value.category]; done) | rfl
def f15 (v_keySchema_a1 : Value) : Value := v_keySchema_a1
def Q15 (Z : State) (a1 : Addr) (v_keySchema_a1 : Value) (h0 : Heap) (n0 : Nat) (v : Option Value) (h : Heap) (L : List Loc) : Prop := v = some (f15 v_keySchema_a1) ∧ Fr n0 L ∧ h = h0
set_option maxRecDepth 65536 in
set_option maxHeartbeats 40000000 in
theorem rm15 (l : Launch) (Z : State) (a0 : Array Value) (hw : ∀ d ∈ tables_1, d.before a0 Z = true) (ws : List Jvm.Cond) (a1 : Addr) (v_keySchema_a1 : Value) (h0 : Heap) (n0 : Nat) (Z0 : n0 ≤ h0.size) (hr_v_keySchema_a1 : v_keySchema_a1.isRef = true) (F_keySchema_a1 : Fld Z h0 a1 "com/example/millrace/millrace/api/SinkRecord" "keySchema" "Lcom/example/millrace/millrace/api/Schema;" v_keySchema_a1) :
    MetFree l (⟨"com/example/millrace/millrace/api/SinkRecord", "keySchema", "()Lcom/example/millrace/millrace/api/Schema;"⟩ : MethodName) (head1 (Jvm.Cond.code (⟨"com/example/millrace/millrace/api/SinkRecord", "keySchema", "()Lcom/example/millrace/millrace/api/Schema;"⟩ : MethodName) prog_9_method_8_code 1 (some (.object "com/example/millrace/millrace/api/Schema")) :: ws) ({ frames := 0, cells := 0, slots := 0, locals := 0 } : Room)) (fun a U => a = #[(.ref a1)] ∧ Z.Warmed39 U.vm ∧ U.heap = h0) (fun _ _ _ _ _ => True) (fun _ U o U' => ∃ v L, o = .returned v ∧ Q15 Z a1 v_keySchema_a1 h0 n0 v U'.heap L ∧ FrameEnd U o U' L ({ frames := 0, cells := 0, slots := 0, locals := 0 } : Room).cells ({ frames := 0, cells := 0, slots := 0, locals := 0 } : Room).slots) := by
  refine MetFree.of_bodySF (plainFor_of_name pn_15) hisR ?_
  intro p e s m args below meth c s₁ Bd hml0 hP hK
  obtain ⟨rfl, hZ, hh⟩ := hP
  have hx := Bd.exec
  have hby := Bd.bytes
  have hml : c.maxLocals = 1 := hml0
  have hown : s.vm.findClass "com/example/millrace/millrace/api/SinkRecord" = some m.cls := findClass_of_methodNamed Bd.named
  have hnm := (name_of_methodNamed Bd.named Bd.method).1
  have X0 : Stand p l e ({ frames := 0, cells := 0, slots := 0, locals := 0 } : Room) s m #[(.ref a1)] below meth c s₁ [] 0 0 := Stand.of_body Bd
  have e0 : s₁.heap = h0 := by rw [← hh, Bd.state]; rfl
  have N0 := Fr.nil n0
  have pre0 : ∀ t, Steps p.tables e below (s₁.setTop (mkF m 0 #[.val (.ref a1)] [])) t → Steps p.tables e below (s₁.setTop (entryFrame m #[(.ref a1)] 1)) t := fun t k => castTop (ef_15 m a1) k
  have K1 : ∀ t, Steps p.tables e below (s₁.setTop (mkF m 1 #[.val (.ref a1)] [(.ref a1)])) t → Steps p.tables e below (s₁.setTop (mkF m 0 #[.val (.ref a1)] [])) t := by
    intro t k
    refine XS.aloadN X0.here hx rfl (Jvm.hb hby d15_0) rfl rfl ?_
    show Steps p.tables e below (s₁.setTop (mkF m 1 #[.val (.ref a1)] [(.ref a1)])) t
    exact k
  obtain ⟨T2, X2, e2, st2⟩ := getF X0 hx hZ hown (host := "") (Or.inl (hw _ (List.mem_of_getElem? (i := 62) rfl))) Via.refl e0 F_keySchema_a1 (g := (mkF m 1 #[.val (.ref a1)] [(.ref a1)])) rfl rfl (Jvm.hb hby d15_1)
  have K3 : ∀ t, Steps p.tables e below (T2.setTop (mkF m 4 #[.val (.ref a1)] [v_keySchema_a1])) t → Steps p.tables e below (s₁.setTop (mkF m 1 #[.val (.ref a1)] [(.ref a1)])) t := fun t k => st2 _ k
  obtain ⟨fs, hr, hrun, hended, hW, hsame⟩ := X2.leave (v := some v_keySchema_a1) (fun h => by rw [Bd.returns] at h; cases h) Bd.notSynchronized
  refine ⟨_, _, pre0 _ (K1 _ (K3 _ (retOut X2 hx Bd.returns (own_stv (P := fun y => narrow (.object "com/example/millrace/millrace/api/Schema") y = y) _ hr_v_keySchema_a1 rfl (fun _ => rfl)) (Or.inr (Or.inr (Or.inr (Or.inr ⟨rfl, rfl, hr_v_keySchema_a1⟩)))) (Jvm.hb hby d15_4) hr))), hrun, hended, _, _, rfl, ?_, ⟨_, rfl⟩, hW, hsame.mono (by decide) (by decide)⟩
  show Q15 Z a1 v_keySchema_a1 h0 n0 _ T2.heap _
  rw [e2]
  exact ⟨congrArg some (show v_keySchema_a1 = f15 v_keySchema_a1 from Eq.symm (rfl)), N0, rfl⟩
-- body 16: com/example/millrace/millrace/api/SinkRecord.key()Ljava/lang/Object;
theorem d16_0 : decode prog_9_method_9_code 0 = .ok (.aload_n 0, 1) := by decide +kernel
theorem d16_1 : decode prog_9_method_9_code 1 = .ok (.getfield 21, 3) := by decide +kernel
theorem d16_4 : decode prog_9_method_9_code 4 = .ok (.areturn, 1) := by decide +kernel
theorem pn_16 : plainName "com/example/millrace/millrace/api/SinkRecord" = true := by first | (simp [plainName, overriddenIn]; done) | decide +kernel
theorem ef_16 (m : MethodId) (a1 : Addr) : entryFrame m #[(.ref a1)] 1 = mkF m 0 #[.val (.ref a1)] [] := by first | (simp [entryFrame, mkF, argsToLocals, Value.category]; done) | rfl
def f16 (v_key_a1 : Value) : Value := v_key_a1
def Q16 (Z : State) (a1 : Addr) (v_key_a1 : Value) (h0 : Heap) (n0 : Nat) (v : Option Value) (h : Heap) (L : List Loc) : Prop := v = some (f16 v_key_a1) ∧ Fr n0 L ∧ h = h0
set_option maxRecDepth 65536 in
set_option maxHeartbeats 40000000 in
theorem rm16 (l : Launch) (Z : State) (a0 : Array Value) (hw : ∀ d ∈ tables_1, d.before a0 Z = true) (ws : List Jvm.Cond) (a1 : Addr) (v_key_a1 : Value) (h0 : Heap) (n0 : Nat) (Z0 : n0 ≤ h0.size) (hr_v_key_a1 : v_key_a1.isRef = true) (F_key_a1 : Fld Z h0 a1 "com/example/millrace/millrace/api/SinkRecord" "key" "Ljava/lang/Object;" v_key_a1) :
    MetFree l (⟨"com/example/millrace/millrace/api/SinkRecord", "key", "()Ljava/lang/Object;"⟩ : MethodName) (head1 (Jvm.Cond.code (⟨"com/example/millrace/millrace/api/SinkRecord", "key", "()Ljava/lang/Object;"⟩ : MethodName) prog_9_method_9_code 1 (some (.object "java/lang/Object")) :: ws) ({ frames := 0, cells := 0, slots := 0, locals := 0 } : Room)) (fun a U => a = #[(.ref a1)] ∧ Z.Warmed39 U.vm ∧ U.heap = h0) (fun _ _ _ _ _ => True) (fun _ U o U' => ∃ v L, o = .returned v ∧ Q16 Z a1 v_key_a1 h0 n0 v U'.heap L ∧ FrameEnd U o U' L ({ frames := 0, cells := 0, slots := 0, locals := 0 } : Room).cells ({ frames := 0, cells := 0, slots := 0, locals := 0 } : Room).slots) := by
  refine MetFree.of_bodySF (plainFor_of_name pn_16) hisR ?_
  intro p e s m args below meth c s₁ Bd hml0 hP hK
  obtain ⟨rfl, hZ, hh⟩ := hP
  have hx := Bd.exec
  have hby := Bd.bytes
  have hml : c.maxLocals = 1 := hml0
  have hown : s.vm.findClass "com/example/millrace/millrace/api/SinkRecord" = some m.cls := findClass_of_methodNamed Bd.named
  have hnm := (name_of_methodNamed Bd.named Bd.method).1
  have X0 : Stand p l e ({ frames := 0, cells := 0, slots := 0, locals := 0 } : Room) s m #[(.ref a1)] below meth c s₁ [] 0 0 := Stand.of_body Bd
  have e0 : s₁.heap = h0 := by rw [← hh, Bd.state]; rfl
  have N0 := Fr.nil n0
  have pre0 : ∀ t, Steps p.tables e below (s₁.setTop (mkF m 0 #[.val (.ref a1)] [])) t → Steps p.tables e below (s₁.setTop (entryFrame m #[(.ref a1)] 1)) t := fun t k => castTop (ef_16 m a1) k
  have K1 : ∀ t, Steps p.tables e below (s₁.setTop (mkF m 1 #[.val (.ref a1)] [(.ref a1)])) t → Steps p.tables e below (s₁.setTop (mkF m 0 #[.val (.ref a1)] [])) t := by
    intro t k
    refine XS.aloadN X0.here hx rfl (Jvm.hb hby d16_0) rfl rfl ?_
    show Steps p.tables e below (s₁.setTop (mkF m 1 #[.val (.ref a1)] [(.ref a1)])) t
    exact k
  obtain ⟨T2, X2, e2, st2⟩ := getF X0 hx hZ hown (host := "") (Or.inl (hw _ (List.mem_of_getElem? (i := 64) rfl))) Via.refl e0 F_key_a1 (g := (mkF m 1 #[.val (.ref a1)] [(.ref a1)])) rfl rfl (Jvm.hb hby d16_1)
  have K3 : ∀ t, Steps p.tables e below (T2.setTop (mkF m 4 #[.val (.ref a1)] [v_key_a1])) t → Steps p.tables e below (s₁.setTop (mkF m 1 #[.val (.ref a1)] [(.ref a1)])) t := fun t k => st2 _ k
  obtain ⟨fs, hr, hrun, hended, hW, hsame⟩ := X2.leave (v := some v_key_a1) (fun h => by rw [Bd.returns] at h; cases h) Bd.notSynchronized
  refine ⟨_, _, pre0 _ (K1 _ (K3 _ (retOut X2 hx Bd.returns (own_stv (P := fun y => narrow (.object "java/lang/Object") y = y) _ hr_v_key_a1 rfl (fun _ => rfl)) (Or.inr (Or.inr (Or.inr (Or.inr ⟨rfl, rfl, hr_v_key_a1⟩)))) (Jvm.hb hby d16_4) hr))), hrun, hended, _, _, rfl, ?_, ⟨_, rfl⟩, hW, hsame.mono (by decide) (by decide)⟩
  show Q16 Z a1 v_key_a1 h0 n0 _ T2.heap _
  rw [e2]
  exact ⟨congrArg some (show v_key_a1 = f16 v_key_a1 from Eq.symm (rfl)), N0, rfl⟩
-- body 17: com/example/millrace/millrace/api/SinkRecord.valueSchema()Lcom/example/millrace/millrace/api/Schema;
theorem d17_0 : decode prog_9_method_10_code 0 = .ok (.aload_n 0, 1) := by decide +kernel
theorem d17_1 : decode prog_9_method_10_code 1 = .ok (.getfield 25, 3) := by decide +kernel
theorem d17_4 : decode prog_9_method_10_code 4 = .ok (.areturn, 1) := by decide +kernel
theorem pn_17 : plainName "com/example/millrace/millrace/api/SinkRecord" = true := by first | (simp [plainName, overriddenIn]; done) | decide +kernel
theorem ef_17 (m : MethodId) (a1 : Addr) : entryFrame m #[(.ref a1)] 1 = mkF m 0 #[.val (.ref a1)] [] := by first | (simp [entryFrame, mkF, argsToLocals, Value.category]; done) | rfl
def f17 (v_valueSchema_a1 : Value) : Value := v_valueSchema_a1
def Q17 (Z : State) (a1 : Addr) (v_valueSchema_a1 : Value) (h0 : Heap) (n0 : Nat) (v : Option Value) (h : Heap) (L : List Loc) : Prop := v = some (f17 v_valueSchema_a1) ∧ Fr n0 L ∧ h = h0
set_option maxRecDepth 65536 in
set_option maxHeartbeats 40000000 in
theorem rm17 (l : Launch) (Z : State) (a0 : Array Value) (hw : ∀ d ∈ tables_1, d.before a0 Z = true) (ws : List Jvm.Cond) (a1 : Addr) (v_valueSchema_a1 : Value) (h0 : Heap) (n0 : Nat) (Z0 : n0 ≤ h0.size) (hr_v_valueSchema_a1 : v_valueSchema_a1.isRef = true) (F_valueSchema_a1 : Fld Z h0 a1 "com/example/millrace/millrace/api/SinkRecord" "valueSchema" "Lcom/example/millrace/millrace/api/Schema;" v_valueSchema_a1) :
    MetFree l (⟨"com/example/millrace/millrace/api/SinkRecord", "valueSchema", "()Lcom/example/millrace/millrace/api/Schema;"⟩ : MethodName) (head1 (Jvm.Cond.code (⟨"com/example/millrace/millrace/api/SinkRecord", "valueSchema", "()Lcom/example/millrace/millrace/api/Schema;"⟩ : MethodName) prog_9_method_10_code 1 (some (.object "com/example/millrace/millrace/api/Schema")) :: ws) ({ frames := 0, cells := 0, slots := 0, locals := 0 } : Room)) (fun a U => a = #[(.ref a1)] ∧ Z.Warmed39 U.vm ∧ U.heap = h0) (fun _ _ _ _ _ => True) (fun _ U o U' => ∃ v L, o = .returned v ∧ Q17 Z a1 v_valueSchema_a1 h0 n0 v U'.heap L ∧ FrameEnd U o U' L ({ frames := 0, cells := 0, slots := 0, locals := 0 } : Room).cells ({ frames := 0, cells := 0, slots := 0, locals := 0 } : Room).slots) := by
  refine MetFree.of_bodySF (plainFor_of_name pn_17) hisR ?_
  intro p e s m args below meth c s₁ Bd hml0 hP hK
  obtain ⟨rfl, hZ, hh⟩ := hP
  have hx := Bd.exec
  have hby := Bd.bytes
  have hml : c.maxLocals = 1 := hml0
  have hown : s.vm.findClass "com/example/millrace/millrace/api/SinkRecord" = some m.cls := findClass_of_methodNamed Bd.named
  have hnm := (name_of_methodNamed Bd.named Bd.method).1
  have X0 : Stand p l e ({ frames := 0, cells := 0, slots := 0, locals := 0 } : Room) s m #[(.ref a1)] below meth c s₁ [] 0 0 := Stand.of_body Bd
  have e0 : s₁.heap = h0 := by rw [← hh, Bd.state]; rfl
  have N0 := Fr.nil n0
  have pre0 : ∀ t, Steps p.tables e below (s₁.setTop (mkF m 0 #[.val (.ref a1)] [])) t → Steps p.tables e below (s₁.setTop (entryFrame m #[(.ref a1)] 1)) t := fun t k => castTop (ef_17 m a1) k
  have K1 : ∀ t, Steps p.tables e below (s₁.setTop (mkF m 1 #[.val (.ref a1)] [(.ref a1)])) t → Steps p.tables e below (s₁.setTop (mkF m 0 #[.val (.ref a1)] [])) t := by
    intro t k
    refine XS.aloadN X0.here hx rfl (Jvm.hb hby d17_0) rfl rfl ?_
    show Steps p.tables e below (s₁.setTop (mkF m 1 #[.val (.ref a1)] [(.ref a1)])) t
    exact k
  obtain ⟨T2, X2, e2, st2⟩ := getF X0 hx hZ hown (host := "") (Or.inl (hw _ (List.mem_of_getElem? (i := 66) rfl))) Via.refl e0 F_valueSchema_a1 (g := (mkF m 1 #[.val (.ref a1)] [(.ref a1)])) rfl rfl (Jvm.hb hby d17_1)
  have K3 : ∀ t, Steps p.tables e below (T2.setTop (mkF m 4 #[.val (.ref a1)] [v_valueSchema_a1])) t → Steps p.tables e below (s₁.setTop (mkF m 1 #[.val (.ref a1)] [(.ref a1)])) t := fun t k => st2 _ k
  obtain ⟨fs, hr, hrun, hended, hW, hsame⟩ := X2.leave (v := some v_valueSchema_a1) (fun h => by rw [Bd.returns] at h; cases h) Bd.notSynchronized
  refine ⟨_, _, pre0 _ (K1 _ (K3 _ (retOut X2 hx Bd.returns (own_stv (P := fun y => narrow (.object "com/example/millrace/millrace/api/Schema") y = y) _ hr_v_valueSchema_a1 rfl (fun _ => rfl)) (Or.inr (Or.inr (Or.inr (Or.inr ⟨rfl, rfl, hr_v_valueSchema_a1⟩)))) (Jvm.hb hby d17_4) hr))), hrun, hended, _, _, rfl, ?_, ⟨_, rfl⟩, hW, hsame.mono (by decide) (by decide)⟩
  show Q17 Z a1 v_valueSchema_a1 h0 n0 _ T2.heap _
  rw [e2]
  exact ⟨congrArg some (show v_valueSchema_a1 = f17 v_valueSchema_a1 from Eq.symm (rfl)), N0, rfl⟩
-- body 18: com/example/millrace/millrace/api/SinkRecord.value()Ljava/lang/Object;
theorem d18_0 : decode prog_9_method_11_code 0 = .ok (.aload_n 0, 1) := by decide +kernel
theorem d18_1 : decode prog_9_method_11_code 1 = .ok (.getfield 28, 3) := by decide +kernel
theorem d18_4 : decode prog_9_method_11_code 4 = .ok (.areturn, 1) := by decide +kernel
theorem pn_18 : plainName "com/example/millrace/millrace/api/SinkRecord" = true := by first | (simp [plainName, overriddenIn]; done) | decide +kernel
theorem ef_18 (m : MethodId) (a1 : Addr) : entryFrame m #[(.ref a1)] 1 = mkF m 0 #[.val (.ref a1)] [] := by first | (simp [entryFrame, mkF, argsToLocals, Value.category]; done) | rfl
def f18 (v_value_a1 : Value) : Value := v_value_a1
def Q18 (Z : State) (a1 : Addr) (v_value_a1 : Value) (h0 : Heap) (n0 : Nat) (v : Option Value) (h : Heap) (L : List Loc) : Prop := v = some (f18 v_value_a1) ∧ Fr n0 L ∧ h = h0
set_option maxRecDepth 65536 in
set_option maxHeartbeats 40000000 in
theorem rm18 (l : Launch) (Z : State) (a0 : Array Value) (hw : ∀ d ∈ tables_1, d.before a0 Z = true) (ws : List Jvm.Cond) (a1 : Addr) (v_value_a1 : Value) (h0 : Heap) (n0 : Nat) (Z0 : n0 ≤ h0.size) (hr_v_value_a1 : v_value_a1.isRef = true) (F_value_a1 : Fld Z h0 a1 "com/example/millrace/millrace/api/SinkRecord" "value" "Ljava/lang/Object;" v_value_a1) :
    MetFree l (⟨"com/example/millrace/millrace/api/SinkRecord", "value", "()Ljava/lang/Object;"⟩ : MethodName) (head1 (Jvm.Cond.code (⟨"com/example/millrace/millrace/api/SinkRecord", "value", "()Ljava/lang/Object;"⟩ : MethodName) prog_9_method_11_code 1 (some (.object "java/lang/Object")) :: ws) ({ frames := 0, cells := 0, slots := 0, locals := 0 } : Room)) (fun a U => a = #[(.ref a1)] ∧ Z.Warmed39 U.vm ∧ U.heap = h0) (fun _ _ _ _ _ => True) (fun _ U o U' => ∃ v L, o = .returned v ∧ Q18 Z a1 v_value_a1 h0 n0 v U'.heap L ∧ FrameEnd U o U' L ({ frames := 0, cells := 0, slots := 0, locals := 0 } : Room).cells ({ frames := 0, cells := 0, slots := 0, locals := 0 } : Room).slots) := by
  refine MetFree.of_bodySF (plainFor_of_name pn_18) hisR ?_
  intro p e s m args below meth c s₁ Bd hml0 hP hK
  obtain ⟨rfl, hZ, hh⟩ := hP
  have hx := Bd.exec
  have hby := Bd.bytes
  have hml : c.maxLocals = 1 := hml0
  have hown : s.vm.findClass "com/example/millrace/millrace/api/SinkRecord" = some m.cls := findClass_of_methodNamed Bd.named
  have hnm := (name_of_methodNamed Bd.named Bd.method).1
  have X0 : Stand p l e ({ frames := 0, cells := 0, slots := 0, locals := 0 } : Room) s m #[(.ref a1)] below meth c s₁ [] 0 0 := Stand.of_body Bd
  have e0 : s₁.heap = h0 := by rw [← hh, Bd.state]; rfl
  have N0 := Fr.nil n0
  have pre0 : ∀ t, Steps p.tables e below (s₁.setTop (mkF m 0 #[.val (.ref a1)] [])) t → Steps p.tables e below (s₁.setTop (entryFrame m #[(.ref a1)] 1)) t := fun t k => castTop (ef_18 m a1) k
  have K1 : ∀ t, Steps p.tables e below (s₁.setTop (mkF m 1 #[.val (.ref a1)] [(.ref a1)])) t → Steps p.tables e below (s₁.setTop (mkF m 0 #[.val (.ref a1)] [])) t := by
    intro t k
    refine XS.aloadN X0.here hx rfl (Jvm.hb hby d18_0) rfl rfl ?_
    show Steps p.tables e below (s₁.setTop (mkF m 1 #[.val (.ref a1)] [(.ref a1)])) t
    exact k
  obtain ⟨T2, X2, e2, st2⟩ := getF X0 hx hZ hown (host := "") (Or.inl (hw _ (List.mem_of_getElem? (i := 68) rfl))) Via.refl e0 F_value_a1 (g := (mkF m 1 #[.val (.ref a1)] [(.ref a1)])) rfl rfl (Jvm.hb hby d18_1)
  have K3 : ∀ t, Steps p.tables e below (T2.setTop (mkF m 4 #[.val (.ref a1)] [v_value_a1])) t → Steps p.tables e below (s₁.setTop (mkF m 1 #[.val (.ref a1)] [(.ref a1)])) t := fun t k => st2 _ k
  obtain ⟨fs, hr, hrun, hended, hW, hsame⟩ := X2.leave (v := some v_value_a1) (fun h => by rw [Bd.returns] at h; cases h) Bd.notSynchronized
  refine ⟨_, _, pre0 _ (K1 _ (K3 _ (retOut X2 hx Bd.returns (own_stv (P := fun y => narrow (.object "java/lang/Object") y = y) _ hr_v_value_a1 rfl (fun _ => rfl)) (Or.inr (Or.inr (Or.inr (Or.inr ⟨rfl, rfl, hr_v_value_a1⟩)))) (Jvm.hb hby d18_4) hr))), hrun, hended, _, _, rfl, ?_, ⟨_, rfl⟩, hW, hsame.mono (by decide) (by decide)⟩
  show Q18 Z a1 v_value_a1 h0 n0 _ T2.heap _
  rw [e2]
  exact ⟨congrArg some (show v_value_a1 = f18 v_value_a1 from Eq.symm (rfl)), N0, rfl⟩
-- body 0: com/example/millrace/millrace/api/SinkRecordWithDataPinLaw.law(JIIIII)Z
theorem pn_0 : plainName "com/example/millrace/millrace/api/SinkRecordWithDataPinLaw" = true := by first | (simp [plainName, overriddenIn]; done) | decide +kernel
theorem pd_12 : parseMethodDescriptor "()J" = some ⟨[], some .long⟩ := by decide +kernel
theorem pd_13 : parseMethodDescriptor "()Lcom/example/millrace/millrace/api/Schema;" = some ⟨[], some (.object "com/example/millrace/millrace/api/Schema")⟩ := by decide +kernel
theorem pd_14 : parseMethodDescriptor "()Ljava/lang/Object;" = some ⟨[], some (.object "java/lang/Object")⟩ := by decide +kernel
theorem pd_11 : parseMethodDescriptor "()Ljava/lang/String;" = some ⟨[], some (.object "java/lang/String")⟩ := by decide +kernel
theorem pd_0 : parseMethodDescriptor "(I)Lcom/example/millrace/millrace/api/Schema;" = some ⟨[.int], some (.object "com/example/millrace/millrace/api/Schema")⟩ := by decide +kernel
theorem pd_8 : parseMethodDescriptor "(II)Ljava/lang/Object;" = some ⟨[.int, .int], some (.object "java/lang/Object")⟩ := by decide +kernel
theorem pd_10 : parseMethodDescriptor "(Ljava/lang/String;Lcom/example/millrace/millrace/api/Schema;Ljava/lang/Object;Lcom/example/millrace/millrace/api/Schema;Ljava/lang/Object;)Lcom/example/millrace/millrace/api/SinkRecord;" = some ⟨[(.object "java/lang/String"), (.object "com/example/millrace/millrace/api/Schema"), (.object "java/lang/Object"), (.object "com/example/millrace/millrace/api/Schema"), (.object "java/lang/Object")], some (.object "com/example/millrace/millrace/api/SinkRecord")⟩ := by decide +kernel
theorem ef_0 (m : MethodId) (q1 : Int64) (p2 : Int32) (p3 : Int32) (p4 : Int32) (p5 : Int32) (p6 : Int32) : entryFrame m #[(.long q1), (.int p2), (.int p3), (.int p4), (.int p5), (.int p6)] maxLocals = mkF m 0 #[.val (.long q1), .second, .val (.int p2), .val (.int p3), .val (.int p4), .val (.int p5), .val (.int p6), .unset, .unset, .unset, .unset, .unset, .unset, .unset, .unset, .unset, .unset, .unset, .unset] [] := by first | (simp [entryFrame, mkF, argsToLocals, Value.category, maxLocals]; done) | rfl
def f0 (q1 : Int64) : Int32 := (if (own_cmp q1 q1) = (0 : Int32) then (1 : Int32) else (0 : Int32))
def Q0 (Z : State) (q1 : Int64) (p2 : Int32) (p3 : Int32) (p4 : Int32) (p5 : Int32) (p6 : Int32) (w_STRING : Addr) (w_OPTIONAL_STRING : Addr) (w_COMPACT_STRINGS : Int32) (w_high : Int32) (w_cache : Addr) (h0 : Heap) (n0 : Nat) (v : Option Value) (h : Heap) (L : List Loc) : Prop := v = some (.int (f0 q1)) ∧ Fr n0 L ∧ Keep h0 h []
set_option maxRecDepth 65536 in
set_option maxHeartbeats 40000000 in
theorem rm0 (l : Launch) (Z : State) (a0 : Array Value) (hw : ∀ d ∈ tables_1, d.before a0 Z = true) (ws : List Jvm.Cond) (q1 : Int64) (p2 : Int32) (p3 : Int32) (p4 : Int32) (p5 : Int32) (p6 : Int32) (w_STRING : Addr) (w_OPTIONAL_STRING : Addr) (w_COMPACT_STRINGS : Int32) (w_high : Int32) (w_cache : Addr) (h0 : Heap) (n0 : Nat) (Z0 : n0 ≤ h0.size) (S_STRING : Sta Z h0 "com/example/millrace/millrace/api/Schema" "STRING" "Lcom/example/millrace/millrace/api/Schema;" (.ref w_STRING)) (S_OPTIONAL_STRING : Sta Z h0 "com/example/millrace/millrace/api/Schema" "OPTIONAL_STRING" "Lcom/example/millrace/millrace/api/Schema;" (.ref w_OPTIONAL_STRING)) (S_COMPACT_STRINGS : Sta Z h0 "java/lang/String" "COMPACT_STRINGS" "Z" (.int w_COMPACT_STRINGS)) (hcs : ¬ (w_COMPACT_STRINGS = 0)) (S_high : Sta Z h0 "java/lang/Integer$IntegerCache" "high" "I" (.int w_high)) (S_cache : Sta Z h0 "java/lang/Integer$IntegerCache" "cache" "[Ljava/lang/Integer;" (.ref w_cache)) (Ra_w_cache : Ra Z h0 w_cache) (hhi : w_high = 127) :
    MetFree l x (head1 (Jvm.Cond.code x code maxLocals ret :: ws) room_1) (fun a U => a = #[(.long q1), (.int p2), (.int p3), (.int p4), (.int p5), (.int p6)] ∧ Z.Warmed39 U.vm ∧ U.heap = h0 ∧ CHv Z EL0 U.vm h0) (fun _ _ _ _ _ => True) (fun _ U o U' => ∃ v L, o = .returned v ∧ Q0 Z q1 p2 p3 p4 p5 p6 w_STRING w_OPTIONAL_STRING w_COMPACT_STRINGS w_high w_cache h0 n0 v U'.heap L ∧ ReturnedEndW U o U' L room_1.cells room_1.slots) := by
  refine MetFree.of_bodySF (plainFor_of_name pn_0) hisR ?_
  intro p e s m args below meth c s₁ Bd hml0 hP hK
  obtain ⟨rfl, hZ, hh, H0⟩ := hP
  have hx := Bd.exec
  have hby := Bd.bytes
  have hml : c.maxLocals = 19 := hml0
  have hown : s.vm.findClass "com/example/millrace/millrace/api/SinkRecordWithDataPinLaw" = some m.cls := findClass_of_methodNamed Bd.named
  have hnm := (name_of_methodNamed Bd.named Bd.method).1
  obtain ⟨vm0, hvm0⟩ : ∃ z, z = s.vm := ⟨_, rfl⟩
  have X0 : Stand p l e room_1 (s.setVm vm0) m #[(.long q1), (.int p2), (.int p3), (.int p4), (.int p5), (.int p6)] below meth c s₁ [] 0 0 := by rw [hvm0]; exact Stand.of_body Bd
  have hS : s.Since vm0 h0.size := by rw [hvm0]; exact own_since s _
  rw [← hvm0] at hZ hown
  have CR0 : CHr Z EL0 s.vm h0 vm0 h0 := by rw [hvm0]; exact CHr.refl H0
  have e0 : s₁.heap = h0 := by rw [← hh, Bd.state]; rfl
  have N0 := Fr.nil n0
  have pre0 : ∀ t, Steps p.tables e below (s₁.setTop (mkF m 0 #[.val (.long q1), .second, .val (.int p2), .val (.int p3), .val (.int p4), .val (.int p5), .val (.int p6), .unset, .unset, .unset, .unset, .unset, .unset, .unset, .unset, .unset, .unset, .unset, .unset] [])) t → Steps p.tables e below (s₁.setTop (entryFrame m #[(.long q1), (.int p2), (.int p3), (.int p4), (.int p5), (.int p6)] maxLocals)) t := fun t k => castTop (ef_0 m q1 p2 p3 p4 p5 p6) k
  have K1 : ∀ t, Steps p.tables e below (s₁.setTop (mkF m 3 #[.val (.long q1), .second, .val (.int p2), .val (.int p3), .val (.int p4), .val (.int p5), .val (.int p6), .unset, .unset, .unset, .unset, .unset, .unset, .unset, .unset, .unset, .unset, .unset, .unset] [(.int ((p3.toUInt32 >>> ((4 : Int32) &&& 31).toUInt32).toInt32))])) t → Steps p.tables e below (s₁.setTop (mkF m 0 #[.val (.long q1), .second, .val (.int p2), .val (.int p3), .val (.int p4), .val (.int p5), .val (.int p6), .unset, .unset, .unset, .unset, .unset, .unset, .unset, .unset, .unset, .unset, .unset, .unset] [])) t := by
    intro t k
    refine XS.iloadN X0.here hx rfl (Jvm.hb hby at_0) rfl ?_
    show Steps p.tables e below (s₁.setTop (mkF m 1 #[.val (.long q1), .second, .val (.int p2), .val (.int p3), .val (.int p4), .val (.int p5), .val (.int p6), .unset, .unset, .unset, .unset, .unset, .unset, .unset, .unset, .unset, .unset, .unset, .unset] [(.int p3)])) t
    refine XS.iconst X0.here hx rfl (Jvm.hb hby at_1) ?_
    show Steps p.tables e below (s₁.setTop (mkF m 2 #[.val (.long q1), .second, .val (.int p2), .val (.int p3), .val (.int p4), .val (.int p5), .val (.int p6), .unset, .unset, .unset, .unset, .unset, .unset, .unset, .unset, .unset, .unset, .unset, .unset] [(.int (4 : Int32)), (.int p3)])) t
    refine XS.iushr X0.here hx rfl (Jvm.hb hby at_2) rfl ?_
    show Steps p.tables e below (s₁.setTop (mkF m 3 #[.val (.long q1), .second, .val (.int p2), .val (.int p3), .val (.int p4), .val (.int p5), .val (.int p6), .unset, .unset, .unset, .unset, .unset, .unset, .unset, .unset, .unset, .unset, .unset, .unset] [(.int ((p3.toUInt32 >>> ((4 : Int32) &&& 31).toUInt32).toInt32))])) t
    exact k
  obtain ⟨_, _, ⟨T2, L2, k2, n2⟩, -, X2, ⟨Lc2, hQ2, l2, y2, z2⟩, st2⟩ := Jvm.LawKit.callS X0 hx (y := (⟨"com/example/millrace/millrace/api/SinkRecordWithDataPinLaw", "schema", "(I)Lcom/example/millrace/millrace/api/Schema;"⟩ : MethodName)) hown (mvT hZ (hw _ (List.mem_of_getElem? (i := 0) rfl))) (mvT hZ (hw _ (List.mem_of_getElem? (i := 1) rfl))) (mvT hZ (hw _ (List.mem_of_getElem? (i := 2) rfl))) (mvT hZ (hw _ (List.mem_of_getElem? (i := 3) rfl))) (by decide) (backOf (W := 0) (rm1 l Z a0 hw [] ((p3.toUInt32 >>> ((4 : Int32) &&& 31).toUInt32).toInt32) w_STRING w_OPTIONAL_STRING h0 n0 Z0 S_STRING S_OPTIONAL_STRING) hZ (hw _ (List.mem_of_getElem? (i := 3) rfl)) (hw _ (List.mem_of_getElem? (i := 2) rfl)) (by decide) (by decide)) (g := (mkF m 3 #[.val (.long q1), .second, .val (.int p2), .val (.int p3), .val (.int p4), .val (.int p5), .val (.int p6), .unset, .unset, .unset, .unset, .unset, .unset, .unset, .unset, .unset, .unset, .unset, .unset] [(.int ((p3.toUInt32 >>> ((4 : Int32) &&& 31).toUInt32).toInt32))])) rfl (by rw [hml]; rfl) (argsL := [(.int ((p3.toUInt32 >>> ((4 : Int32) &&& 31).toUInt32).toInt32))]) (rest := []) (lenOf pd_0 rfl) rfl (by show 2 * 0 + _ ≤ _; exact Nat.le_of_eq rfl) (Jvm.hb hby at_3) (fun _ _ => ⟨rfl, e0, (by decide : 0 + 0 ≤ _), (by decide : 0 + 0 ≤ _)⟩)
  dsimp only [Pt.U, Pt.locs, Pt.cells, Pt.slots] at X2 l2 y2 z2 st2 hQ2
  subst l2 y2 z2
  obtain ⟨d2, rfl, hr_d2, N2q, e2⟩ := hQ2
  have N2 := Fr.app N0 N2q
  have K3 : ∀ t, Steps p.tables e below (T2.setTop (mkF m 6 #[.val (.long q1), .second, .val (.int p2), .val (.int p3), .val (.int p4), .val (.int p5), .val (.int p6), .unset, .unset, .unset, .unset, .unset, .unset, .unset, .unset, .unset, .unset, .unset, .unset] [d2])) t → Steps p.tables e below (s₁.setTop (mkF m 3 #[.val (.long q1), .second, .val (.int p2), .val (.int p3), .val (.int p4), .val (.int p5), .val (.int p6), .unset, .unset, .unset, .unset, .unset, .unset, .unset, .unset, .unset, .unset, .unset, .unset] [(.int ((p3.toUInt32 >>> ((4 : Int32) &&& 31).toUInt32).toInt32))])) t := fun t k => st2 _ k
  have K4 : ∀ t, Steps p.tables e below (T2.setTop (mkF m 12 #[.val (.long q1), .second, .val (.int p2), .val (.int p3), .val (.int p4), .val (.int p5), .val (.int p6), .val d2, .unset, .unset, .unset, .unset, .unset, .unset, .unset, .unset, .unset, .unset, .unset] [(.int ((p3.toUInt32 >>> ((6 : Int32) &&& 31).toUInt32).toInt32))])) t → Steps p.tables e below (T2.setTop (mkF m 6 #[.val (.long q1), .second, .val (.int p2), .val (.int p3), .val (.int p4), .val (.int p5), .val (.int p6), .unset, .unset, .unset, .unset, .unset, .unset, .unset, .unset, .unset, .unset, .unset, .unset] [d2])) t := by
    intro t k
    refine XS.astore X2.here hx rfl (Jvm.hb hby at_6) rfl hr_d2 (l' := #[.val (.long q1), .second, .val (.int p2), .val (.int p3), .val (.int p4), .val (.int p5), .val (.int p6), .val d2, .unset, .unset, .unset, .unset, .unset, .unset, .unset, .unset, .unset, .unset, .unset]) (own_stv (P := fun y => storeLocals #[.val (.long q1), .second, .val (.int p2), .val (.int p3), .val (.int p4), .val (.int p5), .val (.int p6), .unset, .unset, .unset, .unset, .unset, .unset, .unset, .unset, .unset, .unset, .unset, .unset] 7 y = some #[.val (.long q1), .second, .val (.int p2), .val (.int p3), .val (.int p4), .val (.int p5), .val (.int p6), .val y, .unset, .unset, .unset, .unset, .unset, .unset, .unset, .unset, .unset, .unset, .unset]) _ hr_d2 rfl (fun _ => rfl)) ?_
    show Steps p.tables e below (T2.setTop (mkF m 8 #[.val (.long q1), .second, .val (.int p2), .val (.int p3), .val (.int p4), .val (.int p5), .val (.int p6), .val d2, .unset, .unset, .unset, .unset, .unset, .unset, .unset, .unset, .unset, .unset, .unset] [])) t
    refine XS.iloadN X2.here hx rfl (Jvm.hb hby at_8) rfl ?_
    show Steps p.tables e below (T2.setTop (mkF m 9 #[.val (.long q1), .second, .val (.int p2), .val (.int p3), .val (.int p4), .val (.int p5), .val (.int p6), .val d2, .unset, .unset, .unset, .unset, .unset, .unset, .unset, .unset, .unset, .unset, .unset] [(.int p3)])) t
    refine XS.bipush X2.here hx rfl (Jvm.hb hby at_9) ?_
    show Steps p.tables e below (T2.setTop (mkF m 11 #[.val (.long q1), .second, .val (.int p2), .val (.int p3), .val (.int p4), .val (.int p5), .val (.int p6), .val d2, .unset, .unset, .unset, .unset, .unset, .unset, .unset, .unset, .unset, .unset, .unset] [(.int (6 : Int32)), (.int p3)])) t
    refine XS.iushr X2.here hx rfl (Jvm.hb hby at_11) rfl ?_
    show Steps p.tables e below (T2.setTop (mkF m 12 #[.val (.long q1), .second, .val (.int p2), .val (.int p3), .val (.int p4), .val (.int p5), .val (.int p6), .val d2, .unset, .unset, .unset, .unset, .unset, .unset, .unset, .unset, .unset, .unset, .unset] [(.int ((p3.toUInt32 >>> ((6 : Int32) &&& 31).toUInt32).toInt32))])) t
    exact k
  obtain ⟨_, _, ⟨T5, L5, k5, n5⟩, -, X5, ⟨Lc5, hQ5, l5, y5, z5⟩, st5⟩ := Jvm.LawKit.callS X2 hx (y := (⟨"com/example/millrace/millrace/api/SinkRecordWithDataPinLaw", "schema", "(I)Lcom/example/millrace/millrace/api/Schema;"⟩ : MethodName)) hown (mvT hZ (hw _ (List.mem_of_getElem? (i := 0) rfl))) (mvT hZ (hw _ (List.mem_of_getElem? (i := 1) rfl))) (mvT hZ (hw _ (List.mem_of_getElem? (i := 2) rfl))) (mvT hZ (hw _ (List.mem_of_getElem? (i := 3) rfl))) (by decide) (backOf (W := 0) (rm1 l Z a0 hw [] ((p3.toUInt32 >>> ((6 : Int32) &&& 31).toUInt32).toInt32) w_STRING w_OPTIONAL_STRING h0 n0 Z0 S_STRING S_OPTIONAL_STRING) hZ (hw _ (List.mem_of_getElem? (i := 3) rfl)) (hw _ (List.mem_of_getElem? (i := 2) rfl)) (by decide) (by decide)) (g := (mkF m 12 #[.val (.long q1), .second, .val (.int p2), .val (.int p3), .val (.int p4), .val (.int p5), .val (.int p6), .val d2, .unset, .unset, .unset, .unset, .unset, .unset, .unset, .unset, .unset, .unset, .unset] [(.int ((p3.toUInt32 >>> ((6 : Int32) &&& 31).toUInt32).toInt32))])) rfl (by rw [hml]; rfl) (argsL := [(.int ((p3.toUInt32 >>> ((6 : Int32) &&& 31).toUInt32).toInt32))]) (rest := []) (lenOf pd_0 rfl) rfl (by show 2 * 0 + _ ≤ _; exact Nat.le_of_eq rfl) (Jvm.hb hby at_12) (fun _ _ => ⟨rfl, e2, (by decide : 0 + 0 ≤ _), (by decide : 0 + 0 ≤ _)⟩)
  dsimp only [Pt.U, Pt.locs, Pt.cells, Pt.slots] at X5 l5 y5 z5 st5 hQ5
  subst l5 y5 z5
  obtain ⟨d5, rfl, hr_d5, N5q, e5⟩ := hQ5
  have N5 := Fr.app N2 N5q
  have K6 : ∀ t, Steps p.tables e below (T5.setTop (mkF m 15 #[.val (.long q1), .second, .val (.int p2), .val (.int p3), .val (.int p4), .val (.int p5), .val (.int p6), .val d2, .unset, .unset, .unset, .unset, .unset, .unset, .unset, .unset, .unset, .unset, .unset] [d5])) t → Steps p.tables e below (T2.setTop (mkF m 12 #[.val (.long q1), .second, .val (.int p2), .val (.int p3), .val (.int p4), .val (.int p5), .val (.int p6), .val d2, .unset, .unset, .unset, .unset, .unset, .unset, .unset, .unset, .unset, .unset, .unset] [(.int ((p3.toUInt32 >>> ((6 : Int32) &&& 31).toUInt32).toInt32))])) t := fun t k => st5 _ k
  have K7 : ∀ t, Steps p.tables e below (T5.setTop (mkF m 20 #[.val (.long q1), .second, .val (.int p2), .val (.int p3), .val (.int p4), .val (.int p5), .val (.int p6), .val d2, .val d5, .unset, .unset, .unset, .unset, .unset, .unset, .unset, .unset, .unset, .unset] [(.int p6), (.int (1 : Int32))])) t → Steps p.tables e below (T5.setTop (mkF m 15 #[.val (.long q1), .second, .val (.int p2), .val (.int p3), .val (.int p4), .val (.int p5), .val (.int p6), .val d2, .unset, .unset, .unset, .unset, .unset, .unset, .unset, .unset, .unset, .unset, .unset] [d5])) t := by
    intro t k
    refine XS.astore X5.here hx rfl (Jvm.hb hby at_15) rfl hr_d5 (l' := #[.val (.long q1), .second, .val (.int p2), .val (.int p3), .val (.int p4), .val (.int p5), .val (.int p6), .val d2, .val d5, .unset, .unset, .unset, .unset, .unset, .unset, .unset, .unset, .unset, .unset]) (own_stv (P := fun y => storeLocals #[.val (.long q1), .second, .val (.int p2), .val (.int p3), .val (.int p4), .val (.int p5), .val (.int p6), .val d2, .unset, .unset, .unset, .unset, .unset, .unset, .unset, .unset, .unset, .unset, .unset] 8 y = some #[.val (.long q1), .second, .val (.int p2), .val (.int p3), .val (.int p4), .val (.int p5), .val (.int p6), .val d2, .val y, .unset, .unset, .unset, .unset, .unset, .unset, .unset, .unset, .unset, .unset]) _ hr_d5 rfl (fun _ => rfl)) ?_
    show Steps p.tables e below (T5.setTop (mkF m 17 #[.val (.long q1), .second, .val (.int p2), .val (.int p3), .val (.int p4), .val (.int p5), .val (.int p6), .val d2, .val d5, .unset, .unset, .unset, .unset, .unset, .unset, .unset, .unset, .unset, .unset] [])) t
    refine XS.iconst X5.here hx rfl (Jvm.hb hby at_17) ?_
    show Steps p.tables e below (T5.setTop (mkF m 18 #[.val (.long q1), .second, .val (.int p2), .val (.int p3), .val (.int p4), .val (.int p5), .val (.int p6), .val d2, .val d5, .unset, .unset, .unset, .unset, .unset, .unset, .unset, .unset, .unset, .unset] [(.int (1 : Int32))])) t
    refine XS.iload X5.here hx rfl (Jvm.hb hby at_18) rfl ?_
    show Steps p.tables e below (T5.setTop (mkF m 20 #[.val (.long q1), .second, .val (.int p2), .val (.int p3), .val (.int p4), .val (.int p5), .val (.int p6), .val d2, .val d5, .unset, .unset, .unset, .unset, .unset, .unset, .unset, .unset, .unset, .unset] [(.int p6), (.int (1 : Int32))])) t
    exact k
  obtain ⟨_, _, ⟨T8, L8, k8, n8⟩, -, Xq8, hSq8, hgq8, ⟨Lc8, hQ8, l8, y8, z8, CHq8⟩, st8⟩ := callSS X5 hx (y := (⟨"com/example/millrace/millrace/api/SinkRecordWithDataPinLaw", "text", "(II)Ljava/lang/String;"⟩ : MethodName)) hown (mvT hZ (hw _ (List.mem_of_getElem? (i := 4) rfl))) (mvT hZ (hw _ (List.mem_of_getElem? (i := 5) rfl))) (mvT hZ (hw _ (List.mem_of_getElem? (i := 2) rfl))) (mvT hZ (hw _ (List.mem_of_getElem? (i := 6) rfl))) (by decide) (backOfSH (W := 0) (EL := EL0) (rm2 l Z a0 hw [] (1 : Int32) p6 w_COMPACT_STRINGS h0 n0 Z0 S_COMPACT_STRINGS hcs) hZ (hw _ (List.mem_of_getElem? (i := 6) rfl)) (hw _ (List.mem_of_getElem? (i := 2) rfl)) (by decide) (by decide) (ew0 hw) CR0.1) (g := (mkF m 20 #[.val (.long q1), .second, .val (.int p2), .val (.int p3), .val (.int p4), .val (.int p5), .val (.int p6), .val d2, .val d5, .unset, .unset, .unset, .unset, .unset, .unset, .unset, .unset, .unset, .unset] [(.int p6), (.int (1 : Int32))])) rfl (by rw [hml]; rfl) (argsL := [(.int (1 : Int32)), (.int p6)]) (rest := []) (lenOf pd_1 rfl) rfl (by show 2 * 0 + _ ≤ _; exact Nat.le_of_eq rfl) (Jvm.hb hby at_20) (fun _ _ => ⟨rfl, e5, (by decide : 0 + 6 ≤ _), (by decide : 0 + 12 ≤ _)⟩)
  dsimp only [Pt.U, Pt.locs, Pt.cells, Pt.slots] at Xq8 hSq8 hgq8 CHq8 l8 y8 z8 st8 hQ8
  subst l8 y8 z8
  obtain ⟨X8, hS, hZ, hown⟩ := rebS hS (show _ ≤ T5.heap.size from (by rw [e5]; exact (Nat.le_refl h0.size))) Xq8 hSq8 hgq8 hZ hown
  obtain ⟨h8, e8⟩ : ∃ z, T8.heap = z := ⟨_, rfl⟩
  rw [e8] at hQ8
  rw [e8] at CHq8
  obtain ⟨b8_x1, b8_x2, rfl, N8q, Kq8, szq_b8_x1, gb_b8_x1, ne_b8_x1_b8_x2, R8_0, R8_1, R8_2, R8_3⟩ := hQ8
  have N8 := Fr.app N5 N8q
  have KP8 : Keep h0 h8 [] := (Keep.refl h0 []).trans Kq8 all0
  have CR8 : CHr Z EL0 s.vm h0 T8.vm h8 := CR0.trans (CHq8)
  rw [e8] at hS
  have sz_b8_x1 : h0.size ≤ b8_x1 := Nat.le_trans (Keep.refl h0 []).1 szq_b8_x1
  have K9 : ∀ t, Steps p.tables e below (T8.setTop (mkF m 23 #[.val (.long q1), .second, .val (.int p2), .val (.int p3), .val (.int p4), .val (.int p5), .val (.int p6), .val d2, .val d5, .unset, .unset, .unset, .unset, .unset, .unset, .unset, .unset, .unset, .unset] [(.ref b8_x1)])) t → Steps p.tables e below (T5.setTop (mkF m 20 #[.val (.long q1), .second, .val (.int p2), .val (.int p3), .val (.int p4), .val (.int p5), .val (.int p6), .val d2, .val d5, .unset, .unset, .unset, .unset, .unset, .unset, .unset, .unset, .unset, .unset] [(.int p6), (.int (1 : Int32))])) t := fun t k => st8.trans k
  have K10 : ∀ t, Steps p.tables e below (T8.setTop (mkF m 31 #[.val (.long q1), .second, .val (.int p2), .val (.int p3), .val (.int p4), .val (.int p5), .val (.int p6), .val d2, .val d5, .val (.ref b8_x1), .unset, .unset, .unset, .unset, .unset, .unset, .unset, .unset, .unset] [(.int ((p6.toUInt32 >>> ((8 : Int32) &&& 31).toUInt32).toInt32)), (.int (2 : Int32))])) t → Steps p.tables e below (T8.setTop (mkF m 23 #[.val (.long q1), .second, .val (.int p2), .val (.int p3), .val (.int p4), .val (.int p5), .val (.int p6), .val d2, .val d5, .unset, .unset, .unset, .unset, .unset, .unset, .unset, .unset, .unset, .unset] [(.ref b8_x1)])) t := by
    intro t k
    refine XS.astore X8.here hx rfl (Jvm.hb hby at_23) rfl rfl (l' := #[.val (.long q1), .second, .val (.int p2), .val (.int p3), .val (.int p4), .val (.int p5), .val (.int p6), .val d2, .val d5, .val (.ref b8_x1), .unset, .unset, .unset, .unset, .unset, .unset, .unset, .unset, .unset]) rfl ?_
    show Steps p.tables e below (T8.setTop (mkF m 25 #[.val (.long q1), .second, .val (.int p2), .val (.int p3), .val (.int p4), .val (.int p5), .val (.int p6), .val d2, .val d5, .val (.ref b8_x1), .unset, .unset, .unset, .unset, .unset, .unset, .unset, .unset, .unset] [])) t
    refine XS.iconst X8.here hx rfl (Jvm.hb hby at_25) ?_
    show Steps p.tables e below (T8.setTop (mkF m 26 #[.val (.long q1), .second, .val (.int p2), .val (.int p3), .val (.int p4), .val (.int p5), .val (.int p6), .val d2, .val d5, .val (.ref b8_x1), .unset, .unset, .unset, .unset, .unset, .unset, .unset, .unset, .unset] [(.int (2 : Int32))])) t
    refine XS.iload X8.here hx rfl (Jvm.hb hby at_26) rfl ?_
    show Steps p.tables e below (T8.setTop (mkF m 28 #[.val (.long q1), .second, .val (.int p2), .val (.int p3), .val (.int p4), .val (.int p5), .val (.int p6), .val d2, .val d5, .val (.ref b8_x1), .unset, .unset, .unset, .unset, .unset, .unset, .unset, .unset, .unset] [(.int p6), (.int (2 : Int32))])) t
    refine XS.bipush X8.here hx rfl (Jvm.hb hby at_28) ?_
    show Steps p.tables e below (T8.setTop (mkF m 30 #[.val (.long q1), .second, .val (.int p2), .val (.int p3), .val (.int p4), .val (.int p5), .val (.int p6), .val d2, .val d5, .val (.ref b8_x1), .unset, .unset, .unset, .unset, .unset, .unset, .unset, .unset, .unset] [(.int (8 : Int32)), (.int p6), (.int (2 : Int32))])) t
    refine XS.iushr X8.here hx rfl (Jvm.hb hby at_30) rfl ?_
    show Steps p.tables e below (T8.setTop (mkF m 31 #[.val (.long q1), .second, .val (.int p2), .val (.int p3), .val (.int p4), .val (.int p5), .val (.int p6), .val d2, .val d5, .val (.ref b8_x1), .unset, .unset, .unset, .unset, .unset, .unset, .unset, .unset, .unset] [(.int ((p6.toUInt32 >>> ((8 : Int32) &&& 31).toUInt32).toInt32)), (.int (2 : Int32))])) t
    exact k
  obtain ⟨_, _, ⟨T11, L11, k11, n11⟩, -, Xq11, hSq11, hgq11, ⟨Lc11, hQ11, l11, y11, z11, CHq11⟩, st11⟩ := callSS X8 hx (y := (⟨"com/example/millrace/millrace/api/SinkRecordWithDataPinLaw", "text", "(II)Ljava/lang/String;"⟩ : MethodName)) hown (mvT hZ (hw _ (List.mem_of_getElem? (i := 4) rfl))) (mvT hZ (hw _ (List.mem_of_getElem? (i := 5) rfl))) (mvT hZ (hw _ (List.mem_of_getElem? (i := 2) rfl))) (mvT hZ (hw _ (List.mem_of_getElem? (i := 6) rfl))) (by decide) (backOfSH (W := 0) (EL := EL0) (rm2 l Z a0 hw [] (2 : Int32) ((p6.toUInt32 >>> ((8 : Int32) &&& 31).toUInt32).toInt32) w_COMPACT_STRINGS h8 n0 (Nat.le_trans Z0 KP8.1) (S_COMPACT_STRINGS.ext (own_ext KP8)) hcs) hZ (hw _ (List.mem_of_getElem? (i := 6) rfl)) (hw _ (List.mem_of_getElem? (i := 2) rfl)) (by decide) (by decide) (ew0 hw) CR8.1) (g := (mkF m 31 #[.val (.long q1), .second, .val (.int p2), .val (.int p3), .val (.int p4), .val (.int p5), .val (.int p6), .val d2, .val d5, .val (.ref b8_x1), .unset, .unset, .unset, .unset, .unset, .unset, .unset, .unset, .unset] [(.int ((p6.toUInt32 >>> ((8 : Int32) &&& 31).toUInt32).toInt32)), (.int (2 : Int32))])) rfl (by rw [hml]; rfl) (argsL := [(.int (2 : Int32)), (.int ((p6.toUInt32 >>> ((8 : Int32) &&& 31).toUInt32).toInt32))]) (rest := []) (lenOf pd_1 rfl) rfl (by show 2 * 0 + _ ≤ _; exact Nat.le_of_eq rfl) (Jvm.hb hby at_31) (fun _ _ => ⟨rfl, e8, (by decide : 6 + 6 ≤ _), (by decide : 12 + 12 ≤ _)⟩)
  dsimp only [Pt.U, Pt.locs, Pt.cells, Pt.slots] at Xq11 hSq11 hgq11 CHq11 l11 y11 z11 st11 hQ11
  subst l11 y11 z11
  obtain ⟨X11, hS, hZ, hown⟩ := rebS hS (show _ ≤ T8.heap.size from (by rw [e8]; exact (Nat.le_refl _))) Xq11 hSq11 hgq11 hZ hown
  obtain ⟨h11, e11⟩ : ∃ z, T11.heap = z := ⟨_, rfl⟩
  rw [e11] at hQ11
  rw [e11] at CHq11
  obtain ⟨b11_x1, b11_x2, rfl, N11q, Kq11, szq_b11_x1, gb_b11_x1, ne_b11_x1_b11_x2, R11_0, R11_1, R11_2, R11_3⟩ := hQ11
  have N11 := Fr.app N8 N11q
  have KP11 : Keep h0 h11 [] := KP8.trans Kq11 all0
  have E11_6 : Exa Z h11 b8_x1 "java/lang/String" := R8_0.keep Kq11
  have A11_7 : Ia Z h11 b8_x2 .byte (f2_u4 (1 : Int32)) (f2_u5 (1 : Int32) p6) := R8_1.keep Kq11 nin0
  have F11_8 : Fld Z h11 b8_x1 "java/lang/String" "value" "[B" (.ref b8_x2) := R8_2.keep Kq11 nin0
  have F11_9 : Fld Z h11 b8_x1 "java/lang/String" "coder" "B" (.int (0 : Int32)) := R8_3.keep Kq11 nin0
  have CR11 : CHr Z EL0 s.vm h0 T11.vm h11 := CR8.trans (CHq11)
  rw [e11] at hS
  have ne11_x1_2 : b8_x1 ≠ b11_x1 := Nat.ne_of_lt (Nat.lt_of_lt_of_le R8_0.lt szq_b11_x1)
  have ne11_x1_4 : b8_x2 ≠ b11_x1 := Nat.ne_of_lt (Nat.lt_of_lt_of_le R8_1.lt szq_b11_x1)
  have sz_b11_x1 : h0.size ≤ b11_x1 := Nat.le_trans KP8.1 szq_b11_x1
  have K12 : ∀ t, Steps p.tables e below (T11.setTop (mkF m 34 #[.val (.long q1), .second, .val (.int p2), .val (.int p3), .val (.int p4), .val (.int p5), .val (.int p6), .val d2, .val d5, .val (.ref b8_x1), .unset, .unset, .unset, .unset, .unset, .unset, .unset, .unset, .unset] [(.ref b11_x1)])) t → Steps p.tables e below (T8.setTop (mkF m 31 #[.val (.long q1), .second, .val (.int p2), .val (.int p3), .val (.int p4), .val (.int p5), .val (.int p6), .val d2, .val d5, .val (.ref b8_x1), .unset, .unset, .unset, .unset, .unset, .unset, .unset, .unset, .unset] [(.int ((p6.toUInt32 >>> ((8 : Int32) &&& 31).toUInt32).toInt32)), (.int (2 : Int32))])) t := fun t k => st11.trans k
  have K13 : ∀ t, Steps p.tables e below (T11.setTop (mkF m 41 #[.val (.long q1), .second, .val (.int p2), .val (.int p3), .val (.int p4), .val (.int p5), .val (.int p6), .val d2, .val d5, .val (.ref b8_x1), .val (.ref b11_x1), .unset, .unset, .unset, .unset, .unset, .unset, .unset, .unset] [(.int ((p6.toUInt32 >>> ((4 : Int32) &&& 31).toUInt32).toInt32)), (.int (3 : Int32))])) t → Steps p.tables e below (T11.setTop (mkF m 34 #[.val (.long q1), .second, .val (.int p2), .val (.int p3), .val (.int p4), .val (.int p5), .val (.int p6), .val d2, .val d5, .val (.ref b8_x1), .unset, .unset, .unset, .unset, .unset, .unset, .unset, .unset, .unset] [(.ref b11_x1)])) t := by
    intro t k
    refine XS.astore X11.here hx rfl (Jvm.hb hby at_34) rfl rfl (l' := #[.val (.long q1), .second, .val (.int p2), .val (.int p3), .val (.int p4), .val (.int p5), .val (.int p6), .val d2, .val d5, .val (.ref b8_x1), .val (.ref b11_x1), .unset, .unset, .unset, .unset, .unset, .unset, .unset, .unset]) rfl ?_
    show Steps p.tables e below (T11.setTop (mkF m 36 #[.val (.long q1), .second, .val (.int p2), .val (.int p3), .val (.int p4), .val (.int p5), .val (.int p6), .val d2, .val d5, .val (.ref b8_x1), .val (.ref b11_x1), .unset, .unset, .unset, .unset, .unset, .unset, .unset, .unset] [])) t
    refine XS.iconst X11.here hx rfl (Jvm.hb hby at_36) ?_
    show Steps p.tables e below (T11.setTop (mkF m 37 #[.val (.long q1), .second, .val (.int p2), .val (.int p3), .val (.int p4), .val (.int p5), .val (.int p6), .val d2, .val d5, .val (.ref b8_x1), .val (.ref b11_x1), .unset, .unset, .unset, .unset, .unset, .unset, .unset, .unset] [(.int (3 : Int32))])) t
    refine XS.iload X11.here hx rfl (Jvm.hb hby at_37) rfl ?_
    show Steps p.tables e below (T11.setTop (mkF m 39 #[.val (.long q1), .second, .val (.int p2), .val (.int p3), .val (.int p4), .val (.int p5), .val (.int p6), .val d2, .val d5, .val (.ref b8_x1), .val (.ref b11_x1), .unset, .unset, .unset, .unset, .unset, .unset, .unset, .unset] [(.int p6), (.int (3 : Int32))])) t
    refine XS.iconst X11.here hx rfl (Jvm.hb hby at_39) ?_
    show Steps p.tables e below (T11.setTop (mkF m 40 #[.val (.long q1), .second, .val (.int p2), .val (.int p3), .val (.int p4), .val (.int p5), .val (.int p6), .val d2, .val d5, .val (.ref b8_x1), .val (.ref b11_x1), .unset, .unset, .unset, .unset, .unset, .unset, .unset, .unset] [(.int (4 : Int32)), (.int p6), (.int (3 : Int32))])) t
    refine XS.iushr X11.here hx rfl (Jvm.hb hby at_40) rfl ?_
    show Steps p.tables e below (T11.setTop (mkF m 41 #[.val (.long q1), .second, .val (.int p2), .val (.int p3), .val (.int p4), .val (.int p5), .val (.int p6), .val d2, .val d5, .val (.ref b8_x1), .val (.ref b11_x1), .unset, .unset, .unset, .unset, .unset, .unset, .unset, .unset] [(.int ((p6.toUInt32 >>> ((4 : Int32) &&& 31).toUInt32).toInt32)), (.int (3 : Int32))])) t
    exact k
  obtain ⟨_, _, ⟨T14, L14, k14, n14⟩, -, Xq14, hSq14, hgq14, ⟨Lc14, hQ14, l14, y14, z14, CHq14⟩, st14⟩ := callSS X11 hx (y := (⟨"com/example/millrace/millrace/api/SinkRecordWithDataPinLaw", "text", "(II)Ljava/lang/String;"⟩ : MethodName)) hown (mvT hZ (hw _ (List.mem_of_getElem? (i := 4) rfl))) (mvT hZ (hw _ (List.mem_of_getElem? (i := 5) rfl))) (mvT hZ (hw _ (List.mem_of_getElem? (i := 2) rfl))) (mvT hZ (hw _ (List.mem_of_getElem? (i := 6) rfl))) (by decide) (backOfSH (W := 0) (EL := EL0) (rm2 l Z a0 hw [] (3 : Int32) ((p6.toUInt32 >>> ((4 : Int32) &&& 31).toUInt32).toInt32) w_COMPACT_STRINGS h11 n0 (Nat.le_trans Z0 KP11.1) (S_COMPACT_STRINGS.ext (own_ext KP11)) hcs) hZ (hw _ (List.mem_of_getElem? (i := 6) rfl)) (hw _ (List.mem_of_getElem? (i := 2) rfl)) (by decide) (by decide) (ew0 hw) CR11.1) (g := (mkF m 41 #[.val (.long q1), .second, .val (.int p2), .val (.int p3), .val (.int p4), .val (.int p5), .val (.int p6), .val d2, .val d5, .val (.ref b8_x1), .val (.ref b11_x1), .unset, .unset, .unset, .unset, .unset, .unset, .unset, .unset] [(.int ((p6.toUInt32 >>> ((4 : Int32) &&& 31).toUInt32).toInt32)), (.int (3 : Int32))])) rfl (by rw [hml]; rfl) (argsL := [(.int (3 : Int32)), (.int ((p6.toUInt32 >>> ((4 : Int32) &&& 31).toUInt32).toInt32))]) (rest := []) (lenOf pd_1 rfl) rfl (by show 2 * 0 + _ ≤ _; exact Nat.le_of_eq rfl) (Jvm.hb hby at_41) (fun _ _ => ⟨rfl, e11, (by decide : 12 + 6 ≤ _), (by decide : 24 + 12 ≤ _)⟩)
  dsimp only [Pt.U, Pt.locs, Pt.cells, Pt.slots] at Xq14 hSq14 hgq14 CHq14 l14 y14 z14 st14 hQ14
  subst l14 y14 z14
  obtain ⟨X14, hS, hZ, hown⟩ := rebS hS (show _ ≤ T11.heap.size from (by rw [e11]; exact (Nat.le_refl _))) Xq14 hSq14 hgq14 hZ hown
  obtain ⟨h14, e14⟩ : ∃ z, T14.heap = z := ⟨_, rfl⟩
  rw [e14] at hQ14
  rw [e14] at CHq14
  obtain ⟨b14_x1, b14_x2, rfl, N14q, Kq14, szq_b14_x1, gb_b14_x1, ne_b14_x1_b14_x2, R14_0, R14_1, R14_2, R14_3⟩ := hQ14
  have N14 := Fr.app N11 N14q
  have KP14 : Keep h0 h14 [] := KP11.trans Kq14 all0
  have E14_6 : Exa Z h14 b8_x1 "java/lang/String" := E11_6.keep Kq14
  have A14_7 : Ia Z h14 b8_x2 .byte (f2_u4 (1 : Int32)) (f2_u5 (1 : Int32) p6) := A11_7.keep Kq14 nin0
  have F14_8 : Fld Z h14 b8_x1 "java/lang/String" "value" "[B" (.ref b8_x2) := F11_8.keep Kq14 nin0
  have F14_9 : Fld Z h14 b8_x1 "java/lang/String" "coder" "B" (.int (0 : Int32)) := F11_9.keep Kq14 nin0
  have E14_10 : Exa Z h14 b11_x1 "java/lang/String" := R11_0.keep Kq14
  have A14_11 : Ia Z h14 b11_x2 .byte (f2_u4 (2 : Int32)) (f2_u5 (2 : Int32) ((p6.toUInt32 >>> ((8 : Int32) &&& 31).toUInt32).toInt32)) := R11_1.keep Kq14 nin0
  have F14_12 : Fld Z h14 b11_x1 "java/lang/String" "value" "[B" (.ref b11_x2) := R11_2.keep Kq14 nin0
  have F14_13 : Fld Z h14 b11_x1 "java/lang/String" "coder" "B" (.int (0 : Int32)) := R11_3.keep Kq14 nin0
  have CR14 : CHr Z EL0 s.vm h0 T14.vm h14 := CR11.trans (CHq14)
  rw [e14] at hS
  have ne14_x1_8 : b8_x1 ≠ b14_x1 := Nat.ne_of_lt (Nat.lt_of_lt_of_le E11_6.lt szq_b14_x1)
  have ne14_x1_10 : b8_x2 ≠ b14_x1 := Nat.ne_of_lt (Nat.lt_of_lt_of_le A11_7.lt szq_b14_x1)
  have ne14_x1_12 : b11_x1 ≠ b14_x1 := Nat.ne_of_lt (Nat.lt_of_lt_of_le R11_0.lt szq_b14_x1)
  have ne14_x1_14 : b11_x2 ≠ b14_x1 := Nat.ne_of_lt (Nat.lt_of_lt_of_le R11_1.lt szq_b14_x1)
  have sz_b14_x1 : h0.size ≤ b14_x1 := Nat.le_trans KP11.1 szq_b14_x1
  have K15 : ∀ t, Steps p.tables e below (T14.setTop (mkF m 44 #[.val (.long q1), .second, .val (.int p2), .val (.int p3), .val (.int p4), .val (.int p5), .val (.int p6), .val d2, .val d5, .val (.ref b8_x1), .val (.ref b11_x1), .unset, .unset, .unset, .unset, .unset, .unset, .unset, .unset] [(.ref b14_x1)])) t → Steps p.tables e below (T11.setTop (mkF m 41 #[.val (.long q1), .second, .val (.int p2), .val (.int p3), .val (.int p4), .val (.int p5), .val (.int p6), .val d2, .val d5, .val (.ref b8_x1), .val (.ref b11_x1), .unset, .unset, .unset, .unset, .unset, .unset, .unset, .unset] [(.int ((p6.toUInt32 >>> ((4 : Int32) &&& 31).toUInt32).toInt32)), (.int (3 : Int32))])) t := fun t k => st14.trans k
  have K16 : ∀ t, Steps p.tables e below (T14.setTop (mkF m 51 #[.val (.long q1), .second, .val (.int p2), .val (.int p3), .val (.int p4), .val (.int p5), .val (.int p6), .val d2, .val d5, .val (.ref b8_x1), .val (.ref b11_x1), .val (.ref b14_x1), .unset, .unset, .unset, .unset, .unset, .unset, .unset] [(.int p2), (.int ((p3.toUInt32 >>> ((12 : Int32) &&& 31).toUInt32).toInt32))])) t → Steps p.tables e below (T14.setTop (mkF m 44 #[.val (.long q1), .second, .val (.int p2), .val (.int p3), .val (.int p4), .val (.int p5), .val (.int p6), .val d2, .val d5, .val (.ref b8_x1), .val (.ref b11_x1), .unset, .unset, .unset, .unset, .unset, .unset, .unset, .unset] [(.ref b14_x1)])) t := by
    intro t k
    refine XS.astore X14.here hx rfl (Jvm.hb hby at_44) rfl rfl (l' := #[.val (.long q1), .second, .val (.int p2), .val (.int p3), .val (.int p4), .val (.int p5), .val (.int p6), .val d2, .val d5, .val (.ref b8_x1), .val (.ref b11_x1), .val (.ref b14_x1), .unset, .unset, .unset, .unset, .unset, .unset, .unset]) rfl ?_
    show Steps p.tables e below (T14.setTop (mkF m 46 #[.val (.long q1), .second, .val (.int p2), .val (.int p3), .val (.int p4), .val (.int p5), .val (.int p6), .val d2, .val d5, .val (.ref b8_x1), .val (.ref b11_x1), .val (.ref b14_x1), .unset, .unset, .unset, .unset, .unset, .unset, .unset] [])) t
    refine XS.iloadN X14.here hx rfl (Jvm.hb hby at_46) rfl ?_
    show Steps p.tables e below (T14.setTop (mkF m 47 #[.val (.long q1), .second, .val (.int p2), .val (.int p3), .val (.int p4), .val (.int p5), .val (.int p6), .val d2, .val d5, .val (.ref b8_x1), .val (.ref b11_x1), .val (.ref b14_x1), .unset, .unset, .unset, .unset, .unset, .unset, .unset] [(.int p3)])) t
    refine XS.bipush X14.here hx rfl (Jvm.hb hby at_47) ?_
    show Steps p.tables e below (T14.setTop (mkF m 49 #[.val (.long q1), .second, .val (.int p2), .val (.int p3), .val (.int p4), .val (.int p5), .val (.int p6), .val d2, .val d5, .val (.ref b8_x1), .val (.ref b11_x1), .val (.ref b14_x1), .unset, .unset, .unset, .unset, .unset, .unset, .unset] [(.int (12 : Int32)), (.int p3)])) t
    refine XS.iushr X14.here hx rfl (Jvm.hb hby at_49) rfl ?_
    show Steps p.tables e below (T14.setTop (mkF m 50 #[.val (.long q1), .second, .val (.int p2), .val (.int p3), .val (.int p4), .val (.int p5), .val (.int p6), .val d2, .val d5, .val (.ref b8_x1), .val (.ref b11_x1), .val (.ref b14_x1), .unset, .unset, .unset, .unset, .unset, .unset, .unset] [(.int ((p3.toUInt32 >>> ((12 : Int32) &&& 31).toUInt32).toInt32))])) t
    refine XS.iloadN X14.here hx rfl (Jvm.hb hby at_50) rfl ?_
    show Steps p.tables e below (T14.setTop (mkF m 51 #[.val (.long q1), .second, .val (.int p2), .val (.int p3), .val (.int p4), .val (.int p5), .val (.int p6), .val d2, .val d5, .val (.ref b8_x1), .val (.ref b11_x1), .val (.ref b14_x1), .unset, .unset, .unset, .unset, .unset, .unset, .unset] [(.int p2), (.int ((p3.toUInt32 >>> ((12 : Int32) &&& 31).toUInt32).toInt32))])) t
    exact k
  obtain ⟨_, _, ⟨T17, L17, k17, n17⟩, -, Xq17, hSq17, hgq17, ⟨Lc17, hQ17, l17, y17, z17, CHq17⟩, st17⟩ := callSS X14 hx (y := (⟨"com/example/millrace/millrace/api/SinkRecordWithDataPinLaw", "text", "(II)Ljava/lang/String;"⟩ : MethodName)) hown (mvT hZ (hw _ (List.mem_of_getElem? (i := 4) rfl))) (mvT hZ (hw _ (List.mem_of_getElem? (i := 5) rfl))) (mvT hZ (hw _ (List.mem_of_getElem? (i := 2) rfl))) (mvT hZ (hw _ (List.mem_of_getElem? (i := 6) rfl))) (by decide) (backOfSH (W := 0) (EL := EL0) (rm2 l Z a0 hw [] ((p3.toUInt32 >>> ((12 : Int32) &&& 31).toUInt32).toInt32) p2 w_COMPACT_STRINGS h14 n0 (Nat.le_trans Z0 KP14.1) (S_COMPACT_STRINGS.ext (own_ext KP14)) hcs) hZ (hw _ (List.mem_of_getElem? (i := 6) rfl)) (hw _ (List.mem_of_getElem? (i := 2) rfl)) (by decide) (by decide) (ew0 hw) CR14.1) (g := (mkF m 51 #[.val (.long q1), .second, .val (.int p2), .val (.int p3), .val (.int p4), .val (.int p5), .val (.int p6), .val d2, .val d5, .val (.ref b8_x1), .val (.ref b11_x1), .val (.ref b14_x1), .unset, .unset, .unset, .unset, .unset, .unset, .unset] [(.int p2), (.int ((p3.toUInt32 >>> ((12 : Int32) &&& 31).toUInt32).toInt32))])) rfl (by rw [hml]; rfl) (argsL := [(.int ((p3.toUInt32 >>> ((12 : Int32) &&& 31).toUInt32).toInt32)), (.int p2)]) (rest := []) (lenOf pd_1 rfl) rfl (by show 2 * 0 + _ ≤ _; exact Nat.le_of_eq rfl) (Jvm.hb hby at_51) (fun _ _ => ⟨rfl, e14, (by decide : 18 + 6 ≤ _), (by decide : 36 + 12 ≤ _)⟩)
  dsimp only [Pt.U, Pt.locs, Pt.cells, Pt.slots] at Xq17 hSq17 hgq17 CHq17 l17 y17 z17 st17 hQ17
  subst l17 y17 z17
  obtain ⟨X17, hS, hZ, hown⟩ := rebS hS (show _ ≤ T14.heap.size from (by rw [e14]; exact (Nat.le_refl _))) Xq17 hSq17 hgq17 hZ hown
  obtain ⟨h17, e17⟩ : ∃ z, T17.heap = z := ⟨_, rfl⟩
  rw [e17] at hQ17
  rw [e17] at CHq17
  obtain ⟨b17_x1, b17_x2, rfl, N17q, Kq17, szq_b17_x1, gb_b17_x1, ne_b17_x1_b17_x2, R17_0, R17_1, R17_2, R17_3⟩ := hQ17
  have N17 := Fr.app N14 N17q
  have KP17 : Keep h0 h17 [] := KP14.trans Kq17 all0
  have E17_6 : Exa Z h17 b8_x1 "java/lang/String" := E14_6.keep Kq17
  have A17_7 : Ia Z h17 b8_x2 .byte (f2_u4 (1 : Int32)) (f2_u5 (1 : Int32) p6) := A14_7.keep Kq17 nin0
  have F17_8 : Fld Z h17 b8_x1 "java/lang/String" "value" "[B" (.ref b8_x2) := F14_8.keep Kq17 nin0
  have F17_9 : Fld Z h17 b8_x1 "java/lang/String" "coder" "B" (.int (0 : Int32)) := F14_9.keep Kq17 nin0
  have E17_10 : Exa Z h17 b11_x1 "java/lang/String" := E14_10.keep Kq17
  have A17_11 : Ia Z h17 b11_x2 .byte (f2_u4 (2 : Int32)) (f2_u5 (2 : Int32) ((p6.toUInt32 >>> ((8 : Int32) &&& 31).toUInt32).toInt32)) := A14_11.keep Kq17 nin0
  have F17_12 : Fld Z h17 b11_x1 "java/lang/String" "value" "[B" (.ref b11_x2) := F14_12.keep Kq17 nin0
  have F17_13 : Fld Z h17 b11_x1 "java/lang/String" "coder" "B" (.int (0 : Int32)) := F14_13.keep Kq17 nin0
  have E17_14 : Exa Z h17 b14_x1 "java/lang/String" := R14_0.keep Kq17
  have A17_15 : Ia Z h17 b14_x2 .byte (f2_u4 (3 : Int32)) (f2_u5 (3 : Int32) ((p6.toUInt32 >>> ((4 : Int32) &&& 31).toUInt32).toInt32)) := R14_1.keep Kq17 nin0
  have F17_16 : Fld Z h17 b14_x1 "java/lang/String" "value" "[B" (.ref b14_x2) := R14_2.keep Kq17 nin0
  have F17_17 : Fld Z h17 b14_x1 "java/lang/String" "coder" "B" (.int (0 : Int32)) := R14_3.keep Kq17 nin0
  have CR17 : CHr Z EL0 s.vm h0 T17.vm h17 := CR14.trans (CHq17)
  rw [e17] at hS
  have ne17_x1_18 : b8_x1 ≠ b17_x1 := Nat.ne_of_lt (Nat.lt_of_lt_of_le E14_6.lt szq_b17_x1)
  have ne17_x1_20 : b8_x2 ≠ b17_x1 := Nat.ne_of_lt (Nat.lt_of_lt_of_le A14_7.lt szq_b17_x1)
  have ne17_x1_22 : b11_x1 ≠ b17_x1 := Nat.ne_of_lt (Nat.lt_of_lt_of_le E14_10.lt szq_b17_x1)
  have ne17_x1_24 : b11_x2 ≠ b17_x1 := Nat.ne_of_lt (Nat.lt_of_lt_of_le A14_11.lt szq_b17_x1)
  have ne17_x1_26 : b14_x1 ≠ b17_x1 := Nat.ne_of_lt (Nat.lt_of_lt_of_le R14_0.lt szq_b17_x1)
  have ne17_x1_28 : b14_x2 ≠ b17_x1 := Nat.ne_of_lt (Nat.lt_of_lt_of_le R14_1.lt szq_b17_x1)
  have sz_b17_x1 : h0.size ≤ b17_x1 := Nat.le_trans KP14.1 szq_b17_x1
  have K18 : ∀ t, Steps p.tables e below (T17.setTop (mkF m 54 #[.val (.long q1), .second, .val (.int p2), .val (.int p3), .val (.int p4), .val (.int p5), .val (.int p6), .val d2, .val d5, .val (.ref b8_x1), .val (.ref b11_x1), .val (.ref b14_x1), .unset, .unset, .unset, .unset, .unset, .unset, .unset] [(.ref b17_x1)])) t → Steps p.tables e below (T14.setTop (mkF m 51 #[.val (.long q1), .second, .val (.int p2), .val (.int p3), .val (.int p4), .val (.int p5), .val (.int p6), .val d2, .val d5, .val (.ref b8_x1), .val (.ref b11_x1), .val (.ref b14_x1), .unset, .unset, .unset, .unset, .unset, .unset, .unset] [(.int p2), (.int ((p3.toUInt32 >>> ((12 : Int32) &&& 31).toUInt32).toInt32))])) t := fun t k => st17.trans k
  have K19 : ∀ t, Steps p.tables e below (T17.setTop (mkF m 57 #[.val (.long q1), .second, .val (.int p2), .val (.int p3), .val (.int p4), .val (.int p5), .val (.int p6), .val d2, .val d5, .val (.ref b8_x1), .val (.ref b11_x1), .val (.ref b14_x1), .val (.ref b17_x1), .unset, .unset, .unset, .unset, .unset, .unset] [(.int p3)])) t → Steps p.tables e below (T17.setTop (mkF m 54 #[.val (.long q1), .second, .val (.int p2), .val (.int p3), .val (.int p4), .val (.int p5), .val (.int p6), .val d2, .val d5, .val (.ref b8_x1), .val (.ref b11_x1), .val (.ref b14_x1), .unset, .unset, .unset, .unset, .unset, .unset, .unset] [(.ref b17_x1)])) t := by
    intro t k
    refine XS.astore X17.here hx rfl (Jvm.hb hby at_54) rfl rfl (l' := #[.val (.long q1), .second, .val (.int p2), .val (.int p3), .val (.int p4), .val (.int p5), .val (.int p6), .val d2, .val d5, .val (.ref b8_x1), .val (.ref b11_x1), .val (.ref b14_x1), .val (.ref b17_x1), .unset, .unset, .unset, .unset, .unset, .unset]) rfl ?_
    show Steps p.tables e below (T17.setTop (mkF m 56 #[.val (.long q1), .second, .val (.int p2), .val (.int p3), .val (.int p4), .val (.int p5), .val (.int p6), .val d2, .val d5, .val (.ref b8_x1), .val (.ref b11_x1), .val (.ref b14_x1), .val (.ref b17_x1), .unset, .unset, .unset, .unset, .unset, .unset] [])) t
    refine XS.iloadN X17.here hx rfl (Jvm.hb hby at_56) rfl ?_
    show Steps p.tables e below (T17.setTop (mkF m 57 #[.val (.long q1), .second, .val (.int p2), .val (.int p3), .val (.int p4), .val (.int p5), .val (.int p6), .val d2, .val d5, .val (.ref b8_x1), .val (.ref b11_x1), .val (.ref b14_x1), .val (.ref b17_x1), .unset, .unset, .unset, .unset, .unset, .unset] [(.int p3)])) t
    exact k
  obtain ⟨_, _, ⟨T20, L20, k20, n20⟩, -, X20, ⟨Lc20, hQ20, l20, y20, z20⟩, st20⟩ := Jvm.LawKit.callS X17 hx (y := (⟨"com/example/millrace/millrace/api/SinkRecordWithDataPinLaw", "schema", "(I)Lcom/example/millrace/millrace/api/Schema;"⟩ : MethodName)) hown (mvT hZ (hw _ (List.mem_of_getElem? (i := 0) rfl))) (mvT hZ (hw _ (List.mem_of_getElem? (i := 1) rfl))) (mvT hZ (hw _ (List.mem_of_getElem? (i := 2) rfl))) (mvT hZ (hw _ (List.mem_of_getElem? (i := 3) rfl))) (by decide) (backOf (W := 0) (rm1 l Z a0 hw [] p3 w_STRING w_OPTIONAL_STRING h17 n0 (Nat.le_trans Z0 KP17.1) (S_STRING.ext (own_ext KP17)) (S_OPTIONAL_STRING.ext (own_ext KP17))) hZ (hw _ (List.mem_of_getElem? (i := 3) rfl)) (hw _ (List.mem_of_getElem? (i := 2) rfl)) (by decide) (by decide)) (g := (mkF m 57 #[.val (.long q1), .second, .val (.int p2), .val (.int p3), .val (.int p4), .val (.int p5), .val (.int p6), .val d2, .val d5, .val (.ref b8_x1), .val (.ref b11_x1), .val (.ref b14_x1), .val (.ref b17_x1), .unset, .unset, .unset, .unset, .unset, .unset] [(.int p3)])) rfl (by rw [hml]; rfl) (argsL := [(.int p3)]) (rest := []) (lenOf pd_0 rfl) rfl (by show 2 * 0 + _ ≤ _; exact Nat.le_of_eq rfl) (Jvm.hb hby at_57) (fun _ _ => ⟨rfl, e17, (by decide : 24 + 0 ≤ _), (by decide : 48 + 0 ≤ _)⟩)
  dsimp only [Pt.U, Pt.locs, Pt.cells, Pt.slots] at X20 l20 y20 z20 st20 hQ20
  subst l20 y20 z20
  obtain ⟨d20, rfl, hr_d20, N20q, e20⟩ := hQ20
  have N20 := Fr.app N17 N20q
  have K21 : ∀ t, Steps p.tables e below (T20.setTop (mkF m 60 #[.val (.long q1), .second, .val (.int p2), .val (.int p3), .val (.int p4), .val (.int p5), .val (.int p6), .val d2, .val d5, .val (.ref b8_x1), .val (.ref b11_x1), .val (.ref b14_x1), .val (.ref b17_x1), .unset, .unset, .unset, .unset, .unset, .unset] [d20])) t → Steps p.tables e below (T17.setTop (mkF m 57 #[.val (.long q1), .second, .val (.int p2), .val (.int p3), .val (.int p4), .val (.int p5), .val (.int p6), .val d2, .val d5, .val (.ref b8_x1), .val (.ref b11_x1), .val (.ref b14_x1), .val (.ref b17_x1), .unset, .unset, .unset, .unset, .unset, .unset] [(.int p3)])) t := fun t k => st20 _ k
  have K22 : ∀ t, Steps p.tables e below (T20.setTop (mkF m 65 #[.val (.long q1), .second, .val (.int p2), .val (.int p3), .val (.int p4), .val (.int p5), .val (.int p6), .val d2, .val d5, .val (.ref b8_x1), .val (.ref b11_x1), .val (.ref b14_x1), .val (.ref b17_x1), .val d20, .unset, .unset, .unset, .unset, .unset] [(.int ((p3.toUInt32 >>> ((2 : Int32) &&& 31).toUInt32).toInt32))])) t → Steps p.tables e below (T20.setTop (mkF m 60 #[.val (.long q1), .second, .val (.int p2), .val (.int p3), .val (.int p4), .val (.int p5), .val (.int p6), .val d2, .val d5, .val (.ref b8_x1), .val (.ref b11_x1), .val (.ref b14_x1), .val (.ref b17_x1), .unset, .unset, .unset, .unset, .unset, .unset] [d20])) t := by
    intro t k
    refine XS.astore X20.here hx rfl (Jvm.hb hby at_60) rfl hr_d20 (l' := #[.val (.long q1), .second, .val (.int p2), .val (.int p3), .val (.int p4), .val (.int p5), .val (.int p6), .val d2, .val d5, .val (.ref b8_x1), .val (.ref b11_x1), .val (.ref b14_x1), .val (.ref b17_x1), .val d20, .unset, .unset, .unset, .unset, .unset]) (own_stv (P := fun y => storeLocals #[.val (.long q1), .second, .val (.int p2), .val (.int p3), .val (.int p4), .val (.int p5), .val (.int p6), .val d2, .val d5, .val (.ref b8_x1), .val (.ref b11_x1), .val (.ref b14_x1), .val (.ref b17_x1), .unset, .unset, .unset, .unset, .unset, .unset] 13 y = some #[.val (.long q1), .second, .val (.int p2), .val (.int p3), .val (.int p4), .val (.int p5), .val (.int p6), .val d2, .val d5, .val (.ref b8_x1), .val (.ref b11_x1), .val (.ref b14_x1), .val (.ref b17_x1), .val y, .unset, .unset, .unset, .unset, .unset]) _ hr_d20 rfl (fun _ => rfl)) ?_
    show Steps p.tables e below (T20.setTop (mkF m 62 #[.val (.long q1), .second, .val (.int p2), .val (.int p3), .val (.int p4), .val (.int p5), .val (.int p6), .val d2, .val d5, .val (.ref b8_x1), .val (.ref b11_x1), .val (.ref b14_x1), .val (.ref b17_x1), .val d20, .unset, .unset, .unset, .unset, .unset] [])) t
    refine XS.iloadN X20.here hx rfl (Jvm.hb hby at_62) rfl ?_
    show Steps p.tables e below (T20.setTop (mkF m 63 #[.val (.long q1), .second, .val (.int p2), .val (.int p3), .val (.int p4), .val (.int p5), .val (.int p6), .val d2, .val d5, .val (.ref b8_x1), .val (.ref b11_x1), .val (.ref b14_x1), .val (.ref b17_x1), .val d20, .unset, .unset, .unset, .unset, .unset] [(.int p3)])) t
    refine XS.iconst X20.here hx rfl (Jvm.hb hby at_63) ?_
    show Steps p.tables e below (T20.setTop (mkF m 64 #[.val (.long q1), .second, .val (.int p2), .val (.int p3), .val (.int p4), .val (.int p5), .val (.int p6), .val d2, .val d5, .val (.ref b8_x1), .val (.ref b11_x1), .val (.ref b14_x1), .val (.ref b17_x1), .val d20, .unset, .unset, .unset, .unset, .unset] [(.int (2 : Int32)), (.int p3)])) t
    refine XS.iushr X20.here hx rfl (Jvm.hb hby at_64) rfl ?_
    show Steps p.tables e below (T20.setTop (mkF m 65 #[.val (.long q1), .second, .val (.int p2), .val (.int p3), .val (.int p4), .val (.int p5), .val (.int p6), .val d2, .val d5, .val (.ref b8_x1), .val (.ref b11_x1), .val (.ref b14_x1), .val (.ref b17_x1), .val d20, .unset, .unset, .unset, .unset, .unset] [(.int ((p3.toUInt32 >>> ((2 : Int32) &&& 31).toUInt32).toInt32))])) t
    exact k
  obtain ⟨_, _, ⟨T23, L23, k23, n23⟩, -, X23, ⟨Lc23, hQ23, l23, y23, z23⟩, st23⟩ := Jvm.LawKit.callS X20 hx (y := (⟨"com/example/millrace/millrace/api/SinkRecordWithDataPinLaw", "schema", "(I)Lcom/example/millrace/millrace/api/Schema;"⟩ : MethodName)) hown (mvT hZ (hw _ (List.mem_of_getElem? (i := 0) rfl))) (mvT hZ (hw _ (List.mem_of_getElem? (i := 1) rfl))) (mvT hZ (hw _ (List.mem_of_getElem? (i := 2) rfl))) (mvT hZ (hw _ (List.mem_of_getElem? (i := 3) rfl))) (by decide) (backOf (W := 0) (rm1 l Z a0 hw [] ((p3.toUInt32 >>> ((2 : Int32) &&& 31).toUInt32).toInt32) w_STRING w_OPTIONAL_STRING h17 n0 (Nat.le_trans Z0 KP17.1) (S_STRING.ext (own_ext KP17)) (S_OPTIONAL_STRING.ext (own_ext KP17))) hZ (hw _ (List.mem_of_getElem? (i := 3) rfl)) (hw _ (List.mem_of_getElem? (i := 2) rfl)) (by decide) (by decide)) (g := (mkF m 65 #[.val (.long q1), .second, .val (.int p2), .val (.int p3), .val (.int p4), .val (.int p5), .val (.int p6), .val d2, .val d5, .val (.ref b8_x1), .val (.ref b11_x1), .val (.ref b14_x1), .val (.ref b17_x1), .val d20, .unset, .unset, .unset, .unset, .unset] [(.int ((p3.toUInt32 >>> ((2 : Int32) &&& 31).toUInt32).toInt32))])) rfl (by rw [hml]; rfl) (argsL := [(.int ((p3.toUInt32 >>> ((2 : Int32) &&& 31).toUInt32).toInt32))]) (rest := []) (lenOf pd_0 rfl) rfl (by show 2 * 0 + _ ≤ _; exact Nat.le_of_eq rfl) (Jvm.hb hby at_65) (fun _ _ => ⟨rfl, e20, (by decide : 24 + 0 ≤ _), (by decide : 48 + 0 ≤ _)⟩)
  dsimp only [Pt.U, Pt.locs, Pt.cells, Pt.slots] at X23 l23 y23 z23 st23 hQ23
  subst l23 y23 z23
  obtain ⟨d23, rfl, hr_d23, N23q, e23⟩ := hQ23
  have N23 := Fr.app N20 N23q
  have K24 : ∀ t, Steps p.tables e below (T23.setTop (mkF m 68 #[.val (.long q1), .second, .val (.int p2), .val (.int p3), .val (.int p4), .val (.int p5), .val (.int p6), .val d2, .val d5, .val (.ref b8_x1), .val (.ref b11_x1), .val (.ref b14_x1), .val (.ref b17_x1), .val d20, .unset, .unset, .unset, .unset, .unset] [d23])) t → Steps p.tables e below (T20.setTop (mkF m 65 #[.val (.long q1), .second, .val (.int p2), .val (.int p3), .val (.int p4), .val (.int p5), .val (.int p6), .val d2, .val d5, .val (.ref b8_x1), .val (.ref b11_x1), .val (.ref b14_x1), .val (.ref b17_x1), .val d20, .unset, .unset, .unset, .unset, .unset] [(.int ((p3.toUInt32 >>> ((2 : Int32) &&& 31).toUInt32).toInt32))])) t := fun t k => st23 _ k
  have K25 : ∀ t, Steps p.tables e below (T23.setTop (mkF m 76 #[.val (.long q1), .second, .val (.int p2), .val (.int p3), .val (.int p4), .val (.int p5), .val (.int p6), .val d2, .val d5, .val (.ref b8_x1), .val (.ref b11_x1), .val (.ref b14_x1), .val (.ref b17_x1), .val d20, .val d23, .unset, .unset, .unset, .unset] [(.int p4), (.int ((p3.toUInt32 >>> ((8 : Int32) &&& 31).toUInt32).toInt32))])) t → Steps p.tables e below (T23.setTop (mkF m 68 #[.val (.long q1), .second, .val (.int p2), .val (.int p3), .val (.int p4), .val (.int p5), .val (.int p6), .val d2, .val d5, .val (.ref b8_x1), .val (.ref b11_x1), .val (.ref b14_x1), .val (.ref b17_x1), .val d20, .unset, .unset, .unset, .unset, .unset] [d23])) t := by
    intro t k
    refine XS.astore X23.here hx rfl (Jvm.hb hby at_68) rfl hr_d23 (l' := #[.val (.long q1), .second, .val (.int p2), .val (.int p3), .val (.int p4), .val (.int p5), .val (.int p6), .val d2, .val d5, .val (.ref b8_x1), .val (.ref b11_x1), .val (.ref b14_x1), .val (.ref b17_x1), .val d20, .val d23, .unset, .unset, .unset, .unset]) (own_stv (P := fun y => storeLocals #[.val (.long q1), .second, .val (.int p2), .val (.int p3), .val (.int p4), .val (.int p5), .val (.int p6), .val d2, .val d5, .val (.ref b8_x1), .val (.ref b11_x1), .val (.ref b14_x1), .val (.ref b17_x1), .val d20, .unset, .unset, .unset, .unset, .unset] 14 y = some #[.val (.long q1), .second, .val (.int p2), .val (.int p3), .val (.int p4), .val (.int p5), .val (.int p6), .val d2, .val d5, .val (.ref b8_x1), .val (.ref b11_x1), .val (.ref b14_x1), .val (.ref b17_x1), .val d20, .val y, .unset, .unset, .unset, .unset]) _ hr_d23 rfl (fun _ => rfl)) ?_
    show Steps p.tables e below (T23.setTop (mkF m 70 #[.val (.long q1), .second, .val (.int p2), .val (.int p3), .val (.int p4), .val (.int p5), .val (.int p6), .val d2, .val d5, .val (.ref b8_x1), .val (.ref b11_x1), .val (.ref b14_x1), .val (.ref b17_x1), .val d20, .val d23, .unset, .unset, .unset, .unset] [])) t
    refine XS.iloadN X23.here hx rfl (Jvm.hb hby at_70) rfl ?_
    show Steps p.tables e below (T23.setTop (mkF m 71 #[.val (.long q1), .second, .val (.int p2), .val (.int p3), .val (.int p4), .val (.int p5), .val (.int p6), .val d2, .val d5, .val (.ref b8_x1), .val (.ref b11_x1), .val (.ref b14_x1), .val (.ref b17_x1), .val d20, .val d23, .unset, .unset, .unset, .unset] [(.int p3)])) t
    refine XS.bipush X23.here hx rfl (Jvm.hb hby at_71) ?_
    show Steps p.tables e below (T23.setTop (mkF m 73 #[.val (.long q1), .second, .val (.int p2), .val (.int p3), .val (.int p4), .val (.int p5), .val (.int p6), .val d2, .val d5, .val (.ref b8_x1), .val (.ref b11_x1), .val (.ref b14_x1), .val (.ref b17_x1), .val d20, .val d23, .unset, .unset, .unset, .unset] [(.int (8 : Int32)), (.int p3)])) t
    refine XS.iushr X23.here hx rfl (Jvm.hb hby at_73) rfl ?_
    show Steps p.tables e below (T23.setTop (mkF m 74 #[.val (.long q1), .second, .val (.int p2), .val (.int p3), .val (.int p4), .val (.int p5), .val (.int p6), .val d2, .val d5, .val (.ref b8_x1), .val (.ref b11_x1), .val (.ref b14_x1), .val (.ref b17_x1), .val d20, .val d23, .unset, .unset, .unset, .unset] [(.int ((p3.toUInt32 >>> ((8 : Int32) &&& 31).toUInt32).toInt32))])) t
    refine XS.iload X23.here hx rfl (Jvm.hb hby at_74) rfl ?_
    show Steps p.tables e below (T23.setTop (mkF m 76 #[.val (.long q1), .second, .val (.int p2), .val (.int p3), .val (.int p4), .val (.int p5), .val (.int p6), .val d2, .val d5, .val (.ref b8_x1), .val (.ref b11_x1), .val (.ref b14_x1), .val (.ref b17_x1), .val d20, .val d23, .unset, .unset, .unset, .unset] [(.int p4), (.int ((p3.toUInt32 >>> ((8 : Int32) &&& 31).toUInt32).toInt32))])) t
    exact k
  obtain ⟨_, _, ⟨T26, L26, k26, n26⟩, -, Xq26, hSq26, hgq26, ⟨Lc26, hQ26, l26, y26, z26, CHq26⟩, st26⟩ := callSS X23 hx (y := (⟨"com/example/millrace/millrace/api/SinkRecordWithDataPinLaw", "data", "(II)Ljava/lang/Object;"⟩ : MethodName)) hown (mvT hZ (hw _ (List.mem_of_getElem? (i := 43) rfl))) (mvT hZ (hw _ (List.mem_of_getElem? (i := 44) rfl))) (mvT hZ (hw _ (List.mem_of_getElem? (i := 2) rfl))) (mvT hZ (hw _ (List.mem_of_getElem? (i := 45) rfl))) (by decide) (backOfSH (W := 0) (EL := EL0) (rm9 l Z a0 hw [] ((p3.toUInt32 >>> ((8 : Int32) &&& 31).toUInt32).toInt32) p4 w_COMPACT_STRINGS w_high w_cache h17 n0 (Nat.le_trans Z0 KP17.1) (S_COMPACT_STRINGS.ext (own_ext KP17)) hcs (S_high.ext (own_ext KP17)) (S_cache.ext (own_ext KP17)) (Ra_w_cache.ext (own_ext KP17)) hhi) hZ (hw _ (List.mem_of_getElem? (i := 45) rfl)) (hw _ (List.mem_of_getElem? (i := 2) rfl)) (by decide) (by decide) (ew0 hw) CR17.1) (g := (mkF m 76 #[.val (.long q1), .second, .val (.int p2), .val (.int p3), .val (.int p4), .val (.int p5), .val (.int p6), .val d2, .val d5, .val (.ref b8_x1), .val (.ref b11_x1), .val (.ref b14_x1), .val (.ref b17_x1), .val d20, .val d23, .unset, .unset, .unset, .unset] [(.int p4), (.int ((p3.toUInt32 >>> ((8 : Int32) &&& 31).toUInt32).toInt32))])) rfl (by rw [hml]; rfl) (argsL := [(.int ((p3.toUInt32 >>> ((8 : Int32) &&& 31).toUInt32).toInt32)), (.int p4)]) (rest := []) (lenOf pd_8 rfl) rfl (by show 2 * 0 + _ ≤ _; exact Nat.le_of_eq rfl) (Jvm.hb hby at_76) (fun _ _ => ⟨rfl, e23, (by decide : 24 + 6 ≤ _), (by decide : 48 + 12 ≤ _)⟩)
  dsimp only [Pt.U, Pt.locs, Pt.cells, Pt.slots] at Xq26 hSq26 hgq26 CHq26 l26 y26 z26 st26 hQ26
  subst l26 y26 z26
  obtain ⟨X26, hS, hZ, hown⟩ := rebS hS (show _ ≤ T23.heap.size from (by rw [e23]; exact (Nat.le_refl _))) Xq26 hSq26 hgq26 hZ hown
  obtain ⟨h26, e26⟩ : ∃ z, T26.heap = z := ⟨_, rfl⟩
  rw [e26] at hQ26
  rw [e26] at CHq26
  obtain ⟨d26, rfl, hr_d26, N26q, Kq26⟩ := hQ26
  have N26 := Fr.app N23 N26q
  have KP26 : Keep h0 h26 [] := KP17.trans Kq26 all0
  have E26_6 : Exa Z h26 b8_x1 "java/lang/String" := E17_6.keep Kq26
  have A26_7 : Ia Z h26 b8_x2 .byte (f2_u4 (1 : Int32)) (f2_u5 (1 : Int32) p6) := A17_7.keep Kq26 nin0
  have F26_8 : Fld Z h26 b8_x1 "java/lang/String" "value" "[B" (.ref b8_x2) := F17_8.keep Kq26 nin0
  have F26_9 : Fld Z h26 b8_x1 "java/lang/String" "coder" "B" (.int (0 : Int32)) := F17_9.keep Kq26 nin0
  have E26_10 : Exa Z h26 b11_x1 "java/lang/String" := E17_10.keep Kq26
  have A26_11 : Ia Z h26 b11_x2 .byte (f2_u4 (2 : Int32)) (f2_u5 (2 : Int32) ((p6.toUInt32 >>> ((8 : Int32) &&& 31).toUInt32).toInt32)) := A17_11.keep Kq26 nin0
  have F26_12 : Fld Z h26 b11_x1 "java/lang/String" "value" "[B" (.ref b11_x2) := F17_12.keep Kq26 nin0
  have F26_13 : Fld Z h26 b11_x1 "java/lang/String" "coder" "B" (.int (0 : Int32)) := F17_13.keep Kq26 nin0
  have E26_14 : Exa Z h26 b14_x1 "java/lang/String" := E17_14.keep Kq26
  have A26_15 : Ia Z h26 b14_x2 .byte (f2_u4 (3 : Int32)) (f2_u5 (3 : Int32) ((p6.toUInt32 >>> ((4 : Int32) &&& 31).toUInt32).toInt32)) := A17_15.keep Kq26 nin0
  have F26_16 : Fld Z h26 b14_x1 "java/lang/String" "value" "[B" (.ref b14_x2) := F17_16.keep Kq26 nin0
  have F26_17 : Fld Z h26 b14_x1 "java/lang/String" "coder" "B" (.int (0 : Int32)) := F17_17.keep Kq26 nin0
  have E26_18 : Exa Z h26 b17_x1 "java/lang/String" := R17_0.keep Kq26
  have A26_19 : Ia Z h26 b17_x2 .byte (f2_u4 ((p3.toUInt32 >>> ((12 : Int32) &&& 31).toUInt32).toInt32)) (f2_u5 ((p3.toUInt32 >>> ((12 : Int32) &&& 31).toUInt32).toInt32) p2) := R17_1.keep Kq26 nin0
  have F26_20 : Fld Z h26 b17_x1 "java/lang/String" "value" "[B" (.ref b17_x2) := R17_2.keep Kq26 nin0
  have F26_21 : Fld Z h26 b17_x1 "java/lang/String" "coder" "B" (.int (0 : Int32)) := R17_3.keep Kq26 nin0
  have CR26 : CHr Z EL0 s.vm h0 T26.vm h26 := CR17.trans (CHq26)
  rw [e26] at hS
  have K27 : ∀ t, Steps p.tables e below (T26.setTop (mkF m 79 #[.val (.long q1), .second, .val (.int p2), .val (.int p3), .val (.int p4), .val (.int p5), .val (.int p6), .val d2, .val d5, .val (.ref b8_x1), .val (.ref b11_x1), .val (.ref b14_x1), .val (.ref b17_x1), .val d20, .val d23, .unset, .unset, .unset, .unset] [d26])) t → Steps p.tables e below (T23.setTop (mkF m 76 #[.val (.long q1), .second, .val (.int p2), .val (.int p3), .val (.int p4), .val (.int p5), .val (.int p6), .val d2, .val d5, .val (.ref b8_x1), .val (.ref b11_x1), .val (.ref b14_x1), .val (.ref b17_x1), .val d20, .val d23, .unset, .unset, .unset, .unset] [(.int p4), (.int ((p3.toUInt32 >>> ((8 : Int32) &&& 31).toUInt32).toInt32))])) t := fun t k => st26.trans k
  have K28 : ∀ t, Steps p.tables e below (T26.setTop (mkF m 87 #[.val (.long q1), .second, .val (.int p2), .val (.int p3), .val (.int p4), .val (.int p5), .val (.int p6), .val d2, .val d5, .val (.ref b8_x1), .val (.ref b11_x1), .val (.ref b14_x1), .val (.ref b17_x1), .val d20, .val d23, .val d26, .unset, .unset, .unset] [(.int p5), (.int ((p3.toUInt32 >>> ((10 : Int32) &&& 31).toUInt32).toInt32))])) t → Steps p.tables e below (T26.setTop (mkF m 79 #[.val (.long q1), .second, .val (.int p2), .val (.int p3), .val (.int p4), .val (.int p5), .val (.int p6), .val d2, .val d5, .val (.ref b8_x1), .val (.ref b11_x1), .val (.ref b14_x1), .val (.ref b17_x1), .val d20, .val d23, .unset, .unset, .unset, .unset] [d26])) t := by
    intro t k
    refine XS.astore X26.here hx rfl (Jvm.hb hby at_79) rfl hr_d26 (l' := #[.val (.long q1), .second, .val (.int p2), .val (.int p3), .val (.int p4), .val (.int p5), .val (.int p6), .val d2, .val d5, .val (.ref b8_x1), .val (.ref b11_x1), .val (.ref b14_x1), .val (.ref b17_x1), .val d20, .val d23, .val d26, .unset, .unset, .unset]) (own_stv (P := fun y => storeLocals #[.val (.long q1), .second, .val (.int p2), .val (.int p3), .val (.int p4), .val (.int p5), .val (.int p6), .val d2, .val d5, .val (.ref b8_x1), .val (.ref b11_x1), .val (.ref b14_x1), .val (.ref b17_x1), .val d20, .val d23, .unset, .unset, .unset, .unset] 15 y = some #[.val (.long q1), .second, .val (.int p2), .val (.int p3), .val (.int p4), .val (.int p5), .val (.int p6), .val d2, .val d5, .val (.ref b8_x1), .val (.ref b11_x1), .val (.ref b14_x1), .val (.ref b17_x1), .val d20, .val d23, .val y, .unset, .unset, .unset]) _ hr_d26 rfl (fun _ => rfl)) ?_
    show Steps p.tables e below (T26.setTop (mkF m 81 #[.val (.long q1), .second, .val (.int p2), .val (.int p3), .val (.int p4), .val (.int p5), .val (.int p6), .val d2, .val d5, .val (.ref b8_x1), .val (.ref b11_x1), .val (.ref b14_x1), .val (.ref b17_x1), .val d20, .val d23, .val d26, .unset, .unset, .unset] [])) t
    refine XS.iloadN X26.here hx rfl (Jvm.hb hby at_81) rfl ?_
    show Steps p.tables e below (T26.setTop (mkF m 82 #[.val (.long q1), .second, .val (.int p2), .val (.int p3), .val (.int p4), .val (.int p5), .val (.int p6), .val d2, .val d5, .val (.ref b8_x1), .val (.ref b11_x1), .val (.ref b14_x1), .val (.ref b17_x1), .val d20, .val d23, .val d26, .unset, .unset, .unset] [(.int p3)])) t
    refine XS.bipush X26.here hx rfl (Jvm.hb hby at_82) ?_
    show Steps p.tables e below (T26.setTop (mkF m 84 #[.val (.long q1), .second, .val (.int p2), .val (.int p3), .val (.int p4), .val (.int p5), .val (.int p6), .val d2, .val d5, .val (.ref b8_x1), .val (.ref b11_x1), .val (.ref b14_x1), .val (.ref b17_x1), .val d20, .val d23, .val d26, .unset, .unset, .unset] [(.int (10 : Int32)), (.int p3)])) t
    refine XS.iushr X26.here hx rfl (Jvm.hb hby at_84) rfl ?_
    show Steps p.tables e below (T26.setTop (mkF m 85 #[.val (.long q1), .second, .val (.int p2), .val (.int p3), .val (.int p4), .val (.int p5), .val (.int p6), .val d2, .val d5, .val (.ref b8_x1), .val (.ref b11_x1), .val (.ref b14_x1), .val (.ref b17_x1), .val d20, .val d23, .val d26, .unset, .unset, .unset] [(.int ((p3.toUInt32 >>> ((10 : Int32) &&& 31).toUInt32).toInt32))])) t
    refine XS.iload X26.here hx rfl (Jvm.hb hby at_85) rfl ?_
    show Steps p.tables e below (T26.setTop (mkF m 87 #[.val (.long q1), .second, .val (.int p2), .val (.int p3), .val (.int p4), .val (.int p5), .val (.int p6), .val d2, .val d5, .val (.ref b8_x1), .val (.ref b11_x1), .val (.ref b14_x1), .val (.ref b17_x1), .val d20, .val d23, .val d26, .unset, .unset, .unset] [(.int p5), (.int ((p3.toUInt32 >>> ((10 : Int32) &&& 31).toUInt32).toInt32))])) t
    exact k
  obtain ⟨_, _, ⟨T29, L29, k29, n29⟩, -, Xq29, hSq29, hgq29, ⟨Lc29, hQ29, l29, y29, z29, CHq29⟩, st29⟩ := callSS X26 hx (y := (⟨"com/example/millrace/millrace/api/SinkRecordWithDataPinLaw", "data", "(II)Ljava/lang/Object;"⟩ : MethodName)) hown (mvT hZ (hw _ (List.mem_of_getElem? (i := 43) rfl))) (mvT hZ (hw _ (List.mem_of_getElem? (i := 44) rfl))) (mvT hZ (hw _ (List.mem_of_getElem? (i := 2) rfl))) (mvT hZ (hw _ (List.mem_of_getElem? (i := 45) rfl))) (by decide) (backOfSH (W := 0) (EL := EL0) (rm9 l Z a0 hw [] ((p3.toUInt32 >>> ((10 : Int32) &&& 31).toUInt32).toInt32) p5 w_COMPACT_STRINGS w_high w_cache h26 n0 (Nat.le_trans Z0 KP26.1) (S_COMPACT_STRINGS.ext (own_ext KP26)) hcs (S_high.ext (own_ext KP26)) (S_cache.ext (own_ext KP26)) (Ra_w_cache.ext (own_ext KP26)) hhi) hZ (hw _ (List.mem_of_getElem? (i := 45) rfl)) (hw _ (List.mem_of_getElem? (i := 2) rfl)) (by decide) (by decide) (ew0 hw) CR26.1) (g := (mkF m 87 #[.val (.long q1), .second, .val (.int p2), .val (.int p3), .val (.int p4), .val (.int p5), .val (.int p6), .val d2, .val d5, .val (.ref b8_x1), .val (.ref b11_x1), .val (.ref b14_x1), .val (.ref b17_x1), .val d20, .val d23, .val d26, .unset, .unset, .unset] [(.int p5), (.int ((p3.toUInt32 >>> ((10 : Int32) &&& 31).toUInt32).toInt32))])) rfl (by rw [hml]; rfl) (argsL := [(.int ((p3.toUInt32 >>> ((10 : Int32) &&& 31).toUInt32).toInt32)), (.int p5)]) (rest := []) (lenOf pd_8 rfl) rfl (by show 2 * 0 + _ ≤ _; exact Nat.le_of_eq rfl) (Jvm.hb hby at_87) (fun _ _ => ⟨rfl, e26, (by decide : 30 + 6 ≤ _), (by decide : 60 + 12 ≤ _)⟩)
  dsimp only [Pt.U, Pt.locs, Pt.cells, Pt.slots] at Xq29 hSq29 hgq29 CHq29 l29 y29 z29 st29 hQ29
  subst l29 y29 z29
  obtain ⟨X29, hS, hZ, hown⟩ := rebS hS (show _ ≤ T26.heap.size from (by rw [e26]; exact (Nat.le_refl _))) Xq29 hSq29 hgq29 hZ hown
  obtain ⟨h29, e29⟩ : ∃ z, T29.heap = z := ⟨_, rfl⟩
  rw [e29] at hQ29
  rw [e29] at CHq29
  obtain ⟨d29, rfl, hr_d29, N29q, Kq29⟩ := hQ29
  have N29 := Fr.app N26 N29q
  have KP29 : Keep h0 h29 [] := KP26.trans Kq29 all0
  have E29_6 : Exa Z h29 b8_x1 "java/lang/String" := E26_6.keep Kq29
  have A29_7 : Ia Z h29 b8_x2 .byte (f2_u4 (1 : Int32)) (f2_u5 (1 : Int32) p6) := A26_7.keep Kq29 nin0
  have F29_8 : Fld Z h29 b8_x1 "java/lang/String" "value" "[B" (.ref b8_x2) := F26_8.keep Kq29 nin0
  have F29_9 : Fld Z h29 b8_x1 "java/lang/String" "coder" "B" (.int (0 : Int32)) := F26_9.keep Kq29 nin0
  have E29_10 : Exa Z h29 b11_x1 "java/lang/String" := E26_10.keep Kq29
  have A29_11 : Ia Z h29 b11_x2 .byte (f2_u4 (2 : Int32)) (f2_u5 (2 : Int32) ((p6.toUInt32 >>> ((8 : Int32) &&& 31).toUInt32).toInt32)) := A26_11.keep Kq29 nin0
  have F29_12 : Fld Z h29 b11_x1 "java/lang/String" "value" "[B" (.ref b11_x2) := F26_12.keep Kq29 nin0
  have F29_13 : Fld Z h29 b11_x1 "java/lang/String" "coder" "B" (.int (0 : Int32)) := F26_13.keep Kq29 nin0
  have E29_14 : Exa Z h29 b14_x1 "java/lang/String" := E26_14.keep Kq29
  have A29_15 : Ia Z h29 b14_x2 .byte (f2_u4 (3 : Int32)) (f2_u5 (3 : Int32) ((p6.toUInt32 >>> ((4 : Int32) &&& 31).toUInt32).toInt32)) := A26_15.keep Kq29 nin0
  have F29_16 : Fld Z h29 b14_x1 "java/lang/String" "value" "[B" (.ref b14_x2) := F26_16.keep Kq29 nin0
  have F29_17 : Fld Z h29 b14_x1 "java/lang/String" "coder" "B" (.int (0 : Int32)) := F26_17.keep Kq29 nin0
  have E29_18 : Exa Z h29 b17_x1 "java/lang/String" := E26_18.keep Kq29
  have A29_19 : Ia Z h29 b17_x2 .byte (f2_u4 ((p3.toUInt32 >>> ((12 : Int32) &&& 31).toUInt32).toInt32)) (f2_u5 ((p3.toUInt32 >>> ((12 : Int32) &&& 31).toUInt32).toInt32) p2) := A26_19.keep Kq29 nin0
  have F29_20 : Fld Z h29 b17_x1 "java/lang/String" "value" "[B" (.ref b17_x2) := F26_20.keep Kq29 nin0
  have F29_21 : Fld Z h29 b17_x1 "java/lang/String" "coder" "B" (.int (0 : Int32)) := F26_21.keep Kq29 nin0
  have CR29 : CHr Z EL0 s.vm h0 T29.vm h29 := CR26.trans (CHq29)
  rw [e29] at hS
  have K30 : ∀ t, Steps p.tables e below (T29.setTop (mkF m 90 #[.val (.long q1), .second, .val (.int p2), .val (.int p3), .val (.int p4), .val (.int p5), .val (.int p6), .val d2, .val d5, .val (.ref b8_x1), .val (.ref b11_x1), .val (.ref b14_x1), .val (.ref b17_x1), .val d20, .val d23, .val d26, .unset, .unset, .unset] [d29])) t → Steps p.tables e below (T26.setTop (mkF m 87 #[.val (.long q1), .second, .val (.int p2), .val (.int p3), .val (.int p4), .val (.int p5), .val (.int p6), .val d2, .val d5, .val (.ref b8_x1), .val (.ref b11_x1), .val (.ref b14_x1), .val (.ref b17_x1), .val d20, .val d23, .val d26, .unset, .unset, .unset] [(.int p5), (.int ((p3.toUInt32 >>> ((10 : Int32) &&& 31).toUInt32).toInt32))])) t := fun t k => st29.trans k
  have K31 : ∀ t, Steps p.tables e below (T29.setTop (mkF m 92 #[.val (.long q1), .second, .val (.int p2), .val (.int p3), .val (.int p4), .val (.int p5), .val (.int p6), .val d2, .val d5, .val (.ref b8_x1), .val (.ref b11_x1), .val (.ref b14_x1), .val (.ref b17_x1), .val d20, .val d23, .val d26, .val d29, .unset, .unset] [])) t → Steps p.tables e below (T29.setTop (mkF m 90 #[.val (.long q1), .second, .val (.int p2), .val (.int p3), .val (.int p4), .val (.int p5), .val (.int p6), .val d2, .val d5, .val (.ref b8_x1), .val (.ref b11_x1), .val (.ref b14_x1), .val (.ref b17_x1), .val d20, .val d23, .val d26, .unset, .unset, .unset] [d29])) t := by
    intro t k
    refine XS.astore X29.here hx rfl (Jvm.hb hby at_90) rfl hr_d29 (l' := #[.val (.long q1), .second, .val (.int p2), .val (.int p3), .val (.int p4), .val (.int p5), .val (.int p6), .val d2, .val d5, .val (.ref b8_x1), .val (.ref b11_x1), .val (.ref b14_x1), .val (.ref b17_x1), .val d20, .val d23, .val d26, .val d29, .unset, .unset]) (own_stv (P := fun y => storeLocals #[.val (.long q1), .second, .val (.int p2), .val (.int p3), .val (.int p4), .val (.int p5), .val (.int p6), .val d2, .val d5, .val (.ref b8_x1), .val (.ref b11_x1), .val (.ref b14_x1), .val (.ref b17_x1), .val d20, .val d23, .val d26, .unset, .unset, .unset] 16 y = some #[.val (.long q1), .second, .val (.int p2), .val (.int p3), .val (.int p4), .val (.int p5), .val (.int p6), .val d2, .val d5, .val (.ref b8_x1), .val (.ref b11_x1), .val (.ref b14_x1), .val (.ref b17_x1), .val d20, .val d23, .val d26, .val y, .unset, .unset]) _ hr_d29 rfl (fun _ => rfl)) ?_
    show Steps p.tables e below (T29.setTop (mkF m 92 #[.val (.long q1), .second, .val (.int p2), .val (.int p3), .val (.int p4), .val (.int p5), .val (.int p6), .val d2, .val d5, .val (.ref b8_x1), .val (.ref b11_x1), .val (.ref b14_x1), .val (.ref b17_x1), .val d20, .val d23, .val d26, .val d29, .unset, .unset] [])) t
    exact k
  obtain ⟨T32, h32, X32, e32, E32, A32, D32, -, st32⟩ := newO X29 hx hZ hown (hw _ (List.mem_of_getElem? (i := 46) rfl)) (hw _ (List.mem_of_getElem? (i := 47) rfl)) (hw _ (List.mem_of_getElem? (i := 48) rfl)) e29 (g := (mkF m 92 #[.val (.long q1), .second, .val (.int p2), .val (.int p3), .val (.int p4), .val (.int p5), .val (.int p6), .val d2, .val d5, .val (.ref b8_x1), .val (.ref b11_x1), .val (.ref b14_x1), .val (.ref b17_x1), .val d20, .val d23, .val d26, .val d29, .unset, .unset] [])) rfl (Jvm.hb hby at_92) (by decide) (by decide)
  obtain ⟨b32, g32⟩ : ∃ z, z = h29.size := ⟨_, rfl⟩
  rw [← g32] at A32 D32 st32
  have KP32 : Keep h0 h32 [] := KP29.ext E32
  have E32_6 : Exa Z h32 b8_x1 "java/lang/String" := E29_6.ext E32
  have A32_7 : Ia Z h32 b8_x2 .byte (f2_u4 (1 : Int32)) (f2_u5 (1 : Int32) p6) := A29_7.ext E32
  have F32_8 : Fld Z h32 b8_x1 "java/lang/String" "value" "[B" (.ref b8_x2) := F29_8.ext E32
  have F32_9 : Fld Z h32 b8_x1 "java/lang/String" "coder" "B" (.int (0 : Int32)) := F29_9.ext E32
  have E32_10 : Exa Z h32 b11_x1 "java/lang/String" := E29_10.ext E32
  have A32_11 : Ia Z h32 b11_x2 .byte (f2_u4 (2 : Int32)) (f2_u5 (2 : Int32) ((p6.toUInt32 >>> ((8 : Int32) &&& 31).toUInt32).toInt32)) := A29_11.ext E32
  have F32_12 : Fld Z h32 b11_x1 "java/lang/String" "value" "[B" (.ref b11_x2) := F29_12.ext E32
  have F32_13 : Fld Z h32 b11_x1 "java/lang/String" "coder" "B" (.int (0 : Int32)) := F29_13.ext E32
  have E32_14 : Exa Z h32 b14_x1 "java/lang/String" := E29_14.ext E32
  have A32_15 : Ia Z h32 b14_x2 .byte (f2_u4 (3 : Int32)) (f2_u5 (3 : Int32) ((p6.toUInt32 >>> ((4 : Int32) &&& 31).toUInt32).toInt32)) := A29_15.ext E32
  have F32_16 : Fld Z h32 b14_x1 "java/lang/String" "value" "[B" (.ref b14_x2) := F29_16.ext E32
  have F32_17 : Fld Z h32 b14_x1 "java/lang/String" "coder" "B" (.int (0 : Int32)) := F29_17.ext E32
  have E32_18 : Exa Z h32 b17_x1 "java/lang/String" := E29_18.ext E32
  have A32_19 : Ia Z h32 b17_x2 .byte (f2_u4 ((p3.toUInt32 >>> ((12 : Int32) &&& 31).toUInt32).toInt32)) (f2_u5 ((p3.toUInt32 >>> ((12 : Int32) &&& 31).toUInt32).toInt32) p2) := A29_19.ext E32
  have F32_20 : Fld Z h32 b17_x1 "java/lang/String" "value" "[B" (.ref b17_x2) := F29_20.ext E32
  have F32_21 : Fld Z h32 b17_x1 "java/lang/String" "coder" "B" (.int (0 : Int32)) := F29_21.ext E32
  have CR32 : CHr Z EL0 s.vm h0 T29.vm h32 := CR29.trans (CHr.ext E32 CR29.1)
  have SK32 := Nat.le_trans (Nat.le_refl _) E32.1
  have ne32_32 : b8_x1 ≠ b32 := Nat.ne_of_lt (Nat.lt_of_lt_of_le E29_6.lt (Nat.le_of_eq g32.symm))
  have ne32_34 : b8_x2 ≠ b32 := Nat.ne_of_lt (Nat.lt_of_lt_of_le A29_7.lt (Nat.le_of_eq g32.symm))
  have ne32_36 : b11_x1 ≠ b32 := Nat.ne_of_lt (Nat.lt_of_lt_of_le E29_10.lt (Nat.le_of_eq g32.symm))
  have ne32_38 : b11_x2 ≠ b32 := Nat.ne_of_lt (Nat.lt_of_lt_of_le A29_11.lt (Nat.le_of_eq g32.symm))
  have ne32_40 : b14_x1 ≠ b32 := Nat.ne_of_lt (Nat.lt_of_lt_of_le E29_14.lt (Nat.le_of_eq g32.symm))
  have ne32_42 : b14_x2 ≠ b32 := Nat.ne_of_lt (Nat.lt_of_lt_of_le A29_15.lt (Nat.le_of_eq g32.symm))
  have ne32_44 : b17_x1 ≠ b32 := Nat.ne_of_lt (Nat.lt_of_lt_of_le E29_18.lt (Nat.le_of_eq g32.symm))
  have ne32_46 : b17_x2 ≠ b32 := Nat.ne_of_lt (Nat.lt_of_lt_of_le A29_19.lt (Nat.le_of_eq g32.symm))
  have gb_b32 : n0 ≤ b32 := Nat.le_trans (Nat.le_trans Z0 KP29.1) (Nat.le_of_eq g32.symm)
  have sz_b32 : h0.size ≤ b32 := Nat.le_trans KP29.1 (Nat.le_of_eq g32.symm)
  have F32_topic : Fld Z h32 b32 "com/example/millrace/millrace/api/SinkRecord" "topic" "Ljava/lang/String;" .null := D32 (Or.inr (hw _ (List.mem_of_getElem? (i := 59) rfl))) (ty := (.object "java/lang/String")) (by decide)
  have F32_offset : Fld Z h32 b32 "com/example/millrace/millrace/api/SinkRecord" "offset" "J" (.long (0 : Int64)) := D32 (Or.inr (hw _ (List.mem_of_getElem? (i := 61) rfl))) (ty := .long) (by decide)
  have F32_keySchema : Fld Z h32 b32 "com/example/millrace/millrace/api/SinkRecord" "keySchema" "Lcom/example/millrace/millrace/api/Schema;" .null := D32 (Or.inr (hw _ (List.mem_of_getElem? (i := 63) rfl))) (ty := (.object "com/example/millrace/millrace/api/Schema")) (by decide)
  have F32_key : Fld Z h32 b32 "com/example/millrace/millrace/api/SinkRecord" "key" "Ljava/lang/Object;" .null := D32 (Or.inr (hw _ (List.mem_of_getElem? (i := 65) rfl))) (ty := (.object "java/lang/Object")) (by decide)
  have F32_valueSchema : Fld Z h32 b32 "com/example/millrace/millrace/api/SinkRecord" "valueSchema" "Lcom/example/millrace/millrace/api/Schema;" .null := D32 (Or.inr (hw _ (List.mem_of_getElem? (i := 67) rfl))) (ty := (.object "com/example/millrace/millrace/api/Schema")) (by decide)
  have F32_value : Fld Z h32 b32 "com/example/millrace/millrace/api/SinkRecord" "value" "Ljava/lang/Object;" .null := D32 (Or.inr (hw _ (List.mem_of_getElem? (i := 69) rfl))) (ty := (.object "java/lang/Object")) (by decide)
  have K33 : ∀ t, Steps p.tables e below (T32.setTop (mkF m 95 #[.val (.long q1), .second, .val (.int p2), .val (.int p3), .val (.int p4), .val (.int p5), .val (.int p6), .val d2, .val d5, .val (.ref b8_x1), .val (.ref b11_x1), .val (.ref b14_x1), .val (.ref b17_x1), .val d20, .val d23, .val d26, .val d29, .unset, .unset] [(.ref b32)])) t → Steps p.tables e below (T29.setTop (mkF m 92 #[.val (.long q1), .second, .val (.int p2), .val (.int p3), .val (.int p4), .val (.int p5), .val (.int p6), .val d2, .val d5, .val (.ref b8_x1), .val (.ref b11_x1), .val (.ref b14_x1), .val (.ref b17_x1), .val d20, .val d23, .val d26, .val d29, .unset, .unset] [])) t := fun t k => st32 _ k
  have K34 : ∀ t, Steps p.tables e below (T32.setTop (mkF m 107 #[.val (.long q1), .second, .val (.int p2), .val (.int p3), .val (.int p4), .val (.int p5), .val (.int p6), .val d2, .val d5, .val (.ref b8_x1), .val (.ref b11_x1), .val (.ref b14_x1), .val (.ref b17_x1), .val d20, .val d23, .val d26, .val d29, .unset, .unset] [(.ref b11_x1), d5, (.ref b8_x1), d2, (.long q1), (.ref b14_x1), (.ref b32), (.ref b32)])) t → Steps p.tables e below (T32.setTop (mkF m 95 #[.val (.long q1), .second, .val (.int p2), .val (.int p3), .val (.int p4), .val (.int p5), .val (.int p6), .val d2, .val d5, .val (.ref b8_x1), .val (.ref b11_x1), .val (.ref b14_x1), .val (.ref b17_x1), .val d20, .val d23, .val d26, .val d29, .unset, .unset] [(.ref b32)])) t := by
    intro t k
    refine XS.dup X32.here hx rfl (Jvm.hb hby at_95) rfl rfl ?_
    show Steps p.tables e below (T32.setTop (mkF m 96 #[.val (.long q1), .second, .val (.int p2), .val (.int p3), .val (.int p4), .val (.int p5), .val (.int p6), .val d2, .val d5, .val (.ref b8_x1), .val (.ref b11_x1), .val (.ref b14_x1), .val (.ref b17_x1), .val d20, .val d23, .val d26, .val d29, .unset, .unset] [(.ref b32), (.ref b32)])) t
    refine XS.aload X32.here hx rfl (Jvm.hb hby at_96) rfl rfl ?_
    show Steps p.tables e below (T32.setTop (mkF m 98 #[.val (.long q1), .second, .val (.int p2), .val (.int p3), .val (.int p4), .val (.int p5), .val (.int p6), .val d2, .val d5, .val (.ref b8_x1), .val (.ref b11_x1), .val (.ref b14_x1), .val (.ref b17_x1), .val d20, .val d23, .val d26, .val d29, .unset, .unset] [(.ref b14_x1), (.ref b32), (.ref b32)])) t
    refine XS.lloadN X32.here hx rfl (Jvm.hb hby at_98) rfl ?_
    show Steps p.tables e below (T32.setTop (mkF m 99 #[.val (.long q1), .second, .val (.int p2), .val (.int p3), .val (.int p4), .val (.int p5), .val (.int p6), .val d2, .val d5, .val (.ref b8_x1), .val (.ref b11_x1), .val (.ref b14_x1), .val (.ref b17_x1), .val d20, .val d23, .val d26, .val d29, .unset, .unset] [(.long q1), (.ref b14_x1), (.ref b32), (.ref b32)])) t
    refine XS.aload X32.here hx rfl (Jvm.hb hby at_99) rfl hr_d2 ?_
    show Steps p.tables e below (T32.setTop (mkF m 101 #[.val (.long q1), .second, .val (.int p2), .val (.int p3), .val (.int p4), .val (.int p5), .val (.int p6), .val d2, .val d5, .val (.ref b8_x1), .val (.ref b11_x1), .val (.ref b14_x1), .val (.ref b17_x1), .val d20, .val d23, .val d26, .val d29, .unset, .unset] [d2, (.long q1), (.ref b14_x1), (.ref b32), (.ref b32)])) t
    refine XS.aload X32.here hx rfl (Jvm.hb hby at_101) rfl rfl ?_
    show Steps p.tables e below (T32.setTop (mkF m 103 #[.val (.long q1), .second, .val (.int p2), .val (.int p3), .val (.int p4), .val (.int p5), .val (.int p6), .val d2, .val d5, .val (.ref b8_x1), .val (.ref b11_x1), .val (.ref b14_x1), .val (.ref b17_x1), .val d20, .val d23, .val d26, .val d29, .unset, .unset] [(.ref b8_x1), d2, (.long q1), (.ref b14_x1), (.ref b32), (.ref b32)])) t
    refine XS.aload X32.here hx rfl (Jvm.hb hby at_103) rfl hr_d5 ?_
    show Steps p.tables e below (T32.setTop (mkF m 105 #[.val (.long q1), .second, .val (.int p2), .val (.int p3), .val (.int p4), .val (.int p5), .val (.int p6), .val d2, .val d5, .val (.ref b8_x1), .val (.ref b11_x1), .val (.ref b14_x1), .val (.ref b17_x1), .val d20, .val d23, .val d26, .val d29, .unset, .unset] [d5, (.ref b8_x1), d2, (.long q1), (.ref b14_x1), (.ref b32), (.ref b32)])) t
    refine XS.aload X32.here hx rfl (Jvm.hb hby at_105) rfl rfl ?_
    show Steps p.tables e below (T32.setTop (mkF m 107 #[.val (.long q1), .second, .val (.int p2), .val (.int p3), .val (.int p4), .val (.int p5), .val (.int p6), .val d2, .val d5, .val (.ref b8_x1), .val (.ref b11_x1), .val (.ref b14_x1), .val (.ref b17_x1), .val d20, .val d23, .val d26, .val d29, .unset, .unset] [(.ref b11_x1), d5, (.ref b8_x1), d2, (.long q1), (.ref b14_x1), (.ref b32), (.ref b32)])) t
    exact k
  obtain ⟨_, _, ⟨T35, L35, k35, n35⟩, -, X35, ⟨Lc35, hQ35, l35, y35, z35⟩, st35⟩ := X32.specialBack hx (y := (⟨"com/example/millrace/millrace/api/SinkRecord", "<init>", "(Ljava/lang/String;JLcom/example/millrace/millrace/api/Schema;Ljava/lang/Object;Lcom/example/millrace/millrace/api/Schema;Ljava/lang/Object;)V"⟩ : MethodName)) rfl hown (mvT hZ (hw _ (List.mem_of_getElem? (i := 49) rfl))) (mvT hZ (hw _ (List.mem_of_getElem? (i := 50) rfl))) (mvT hZ (hw _ (List.mem_of_getElem? (i := 51) rfl))) (by decide) (backOf (W := 1) (rm10 l Z a0 hw [] b32 b14_x1 q1 d2 (.ref b8_x1) d5 (.ref b11_x1) .null (.long (0 : Int64)) .null .null .null .null h32 n0 (Nat.le_trans Z0 KP32.1) hr_d2 rfl hr_d5 rfl A32 F32_topic gb_b32 F32_offset F32_keySchema F32_key F32_valueSchema F32_value) hZ (hw _ (List.mem_of_getElem? (i := 51) rfl)) (hw _ (List.mem_of_getElem? (i := 48) rfl)) (by decide) (by decide)) (g := (mkF m 107 #[.val (.long q1), .second, .val (.int p2), .val (.int p3), .val (.int p4), .val (.int p5), .val (.int p6), .val d2, .val d5, .val (.ref b8_x1), .val (.ref b11_x1), .val (.ref b14_x1), .val (.ref b17_x1), .val d20, .val d23, .val d26, .val d29, .unset, .unset] [(.ref b11_x1), d5, (.ref b8_x1), d2, (.long q1), (.ref b14_x1), (.ref b32), (.ref b32)])) rfl (by rw [hml]; rfl) (Steps.refl _) (a := b32) (argsL := [(.ref b14_x1), (.long q1), d2, (.ref b8_x1), d5, (.ref b11_x1)]) (rest := [(.ref b32)]) (lenOf pd_9 rfl) rfl (by show 2 * 0 + _ ≤ _; exact Nat.le_of_eq rfl) (Jvm.hb hby at_107) (fun _ _ => ⟨rfl, e32, (by decide : 37 + 0 ≤ _), (by decide : 78 + 0 ≤ _)⟩)
  dsimp only [Pt.U, Pt.locs, Pt.cells, Pt.slots] at X35 l35 y35 z35 st35 hQ35
  subst l35 y35 z35
  obtain ⟨h35, e35⟩ : ∃ z, T35.heap = z := ⟨_, rfl⟩
  rw [e35] at hQ35
  obtain ⟨rfl, N35q, Kq35, R35_0, R35_1, R35_2, R35_3, R35_4, R35_5, R35_6⟩ := hQ35
  have N35 := Fr.app N29 N35q
  have KP35 : Keep h0 h35 [] := KP32.trans Kq35 (allS (Or.inr sz_b32) all0)
  have E35_6 : Exa Z h35 b8_x1 "java/lang/String" := E32_6.keep Kq35
  have A35_7 : Ia Z h35 b8_x2 .byte (f2_u4 (1 : Int32)) (f2_u5 (1 : Int32) p6) := A32_7.keep Kq35 (ninS ne32_34 nin0)
  have F35_8 : Fld Z h35 b8_x1 "java/lang/String" "value" "[B" (.ref b8_x2) := F32_8.keep Kq35 (ninS ne32_32 nin0)
  have F35_9 : Fld Z h35 b8_x1 "java/lang/String" "coder" "B" (.int (0 : Int32)) := F32_9.keep Kq35 (ninS ne32_32 nin0)
  have E35_10 : Exa Z h35 b11_x1 "java/lang/String" := E32_10.keep Kq35
  have A35_11 : Ia Z h35 b11_x2 .byte (f2_u4 (2 : Int32)) (f2_u5 (2 : Int32) ((p6.toUInt32 >>> ((8 : Int32) &&& 31).toUInt32).toInt32)) := A32_11.keep Kq35 (ninS ne32_38 nin0)
  have F35_12 : Fld Z h35 b11_x1 "java/lang/String" "value" "[B" (.ref b11_x2) := F32_12.keep Kq35 (ninS ne32_36 nin0)
  have F35_13 : Fld Z h35 b11_x1 "java/lang/String" "coder" "B" (.int (0 : Int32)) := F32_13.keep Kq35 (ninS ne32_36 nin0)
  have E35_14 : Exa Z h35 b14_x1 "java/lang/String" := E32_14.keep Kq35
  have A35_15 : Ia Z h35 b14_x2 .byte (f2_u4 (3 : Int32)) (f2_u5 (3 : Int32) ((p6.toUInt32 >>> ((4 : Int32) &&& 31).toUInt32).toInt32)) := A32_15.keep Kq35 (ninS ne32_42 nin0)
  have F35_16 : Fld Z h35 b14_x1 "java/lang/String" "value" "[B" (.ref b14_x2) := F32_16.keep Kq35 (ninS ne32_40 nin0)
  have F35_17 : Fld Z h35 b14_x1 "java/lang/String" "coder" "B" (.int (0 : Int32)) := F32_17.keep Kq35 (ninS ne32_40 nin0)
  have E35_18 : Exa Z h35 b17_x1 "java/lang/String" := E32_18.keep Kq35
  have A35_19 : Ia Z h35 b17_x2 .byte (f2_u4 ((p3.toUInt32 >>> ((12 : Int32) &&& 31).toUInt32).toInt32)) (f2_u5 ((p3.toUInt32 >>> ((12 : Int32) &&& 31).toUInt32).toInt32) p2) := A32_19.keep Kq35 (ninS ne32_46 nin0)
  have F35_20 : Fld Z h35 b17_x1 "java/lang/String" "value" "[B" (.ref b17_x2) := F32_20.keep Kq35 (ninS ne32_44 nin0)
  have F35_21 : Fld Z h35 b17_x1 "java/lang/String" "coder" "B" (.int (0 : Int32)) := F32_21.keep Kq35 (ninS ne32_44 nin0)
  have CR35 : CHr Z EL0 s.vm h0 T29.vm h35 := CR32.trans (CHr.keep Kq35 (allS (Safe.exa hZ.alike A32 (by decide) (by decide)) all0) CR32.1)
  have SK35 := Nat.le_trans SK32 Kq35.1
  have K36 : ∀ t, Steps p.tables e below (T35.setTop (mkF m 110 #[.val (.long q1), .second, .val (.int p2), .val (.int p3), .val (.int p4), .val (.int p5), .val (.int p6), .val d2, .val d5, .val (.ref b8_x1), .val (.ref b11_x1), .val (.ref b14_x1), .val (.ref b17_x1), .val d20, .val d23, .val d26, .val d29, .unset, .unset] [(.ref b32)])) t → Steps p.tables e below (T32.setTop (mkF m 107 #[.val (.long q1), .second, .val (.int p2), .val (.int p3), .val (.int p4), .val (.int p5), .val (.int p6), .val d2, .val d5, .val (.ref b8_x1), .val (.ref b11_x1), .val (.ref b14_x1), .val (.ref b17_x1), .val d20, .val d23, .val d26, .val d29, .unset, .unset] [(.ref b11_x1), d5, (.ref b8_x1), d2, (.long q1), (.ref b14_x1), (.ref b32), (.ref b32)])) t := fun t k => st35.trans k
  have K37 : ∀ t, Steps p.tables e below (T35.setTop (mkF m 124 #[.val (.long q1), .second, .val (.int p2), .val (.int p3), .val (.int p4), .val (.int p5), .val (.int p6), .val d2, .val d5, .val (.ref b8_x1), .val (.ref b11_x1), .val (.ref b14_x1), .val (.ref b17_x1), .val d20, .val d23, .val d26, .val d29, .val (.ref b32), .unset] [d29, d23, d26, d20, (.ref b17_x1), (.ref b32)])) t → Steps p.tables e below (T35.setTop (mkF m 110 #[.val (.long q1), .second, .val (.int p2), .val (.int p3), .val (.int p4), .val (.int p5), .val (.int p6), .val d2, .val d5, .val (.ref b8_x1), .val (.ref b11_x1), .val (.ref b14_x1), .val (.ref b17_x1), .val d20, .val d23, .val d26, .val d29, .unset, .unset] [(.ref b32)])) t := by
    intro t k
    refine XS.astore X35.here hx rfl (Jvm.hb hby at_110) rfl rfl (l' := #[.val (.long q1), .second, .val (.int p2), .val (.int p3), .val (.int p4), .val (.int p5), .val (.int p6), .val d2, .val d5, .val (.ref b8_x1), .val (.ref b11_x1), .val (.ref b14_x1), .val (.ref b17_x1), .val d20, .val d23, .val d26, .val d29, .val (.ref b32), .unset]) rfl ?_
    show Steps p.tables e below (T35.setTop (mkF m 112 #[.val (.long q1), .second, .val (.int p2), .val (.int p3), .val (.int p4), .val (.int p5), .val (.int p6), .val d2, .val d5, .val (.ref b8_x1), .val (.ref b11_x1), .val (.ref b14_x1), .val (.ref b17_x1), .val d20, .val d23, .val d26, .val d29, .val (.ref b32), .unset] [])) t
    refine XS.aload X35.here hx rfl (Jvm.hb hby at_112) rfl rfl ?_
    show Steps p.tables e below (T35.setTop (mkF m 114 #[.val (.long q1), .second, .val (.int p2), .val (.int p3), .val (.int p4), .val (.int p5), .val (.int p6), .val d2, .val d5, .val (.ref b8_x1), .val (.ref b11_x1), .val (.ref b14_x1), .val (.ref b17_x1), .val d20, .val d23, .val d26, .val d29, .val (.ref b32), .unset] [(.ref b32)])) t
    refine XS.aload X35.here hx rfl (Jvm.hb hby at_114) rfl rfl ?_
    show Steps p.tables e below (T35.setTop (mkF m 116 #[.val (.long q1), .second, .val (.int p2), .val (.int p3), .val (.int p4), .val (.int p5), .val (.int p6), .val d2, .val d5, .val (.ref b8_x1), .val (.ref b11_x1), .val (.ref b14_x1), .val (.ref b17_x1), .val d20, .val d23, .val d26, .val d29, .val (.ref b32), .unset] [(.ref b17_x1), (.ref b32)])) t
    refine XS.aload X35.here hx rfl (Jvm.hb hby at_116) rfl hr_d20 ?_
    show Steps p.tables e below (T35.setTop (mkF m 118 #[.val (.long q1), .second, .val (.int p2), .val (.int p3), .val (.int p4), .val (.int p5), .val (.int p6), .val d2, .val d5, .val (.ref b8_x1), .val (.ref b11_x1), .val (.ref b14_x1), .val (.ref b17_x1), .val d20, .val d23, .val d26, .val d29, .val (.ref b32), .unset] [d20, (.ref b17_x1), (.ref b32)])) t
    refine XS.aload X35.here hx rfl (Jvm.hb hby at_118) rfl hr_d26 ?_
    show Steps p.tables e below (T35.setTop (mkF m 120 #[.val (.long q1), .second, .val (.int p2), .val (.int p3), .val (.int p4), .val (.int p5), .val (.int p6), .val d2, .val d5, .val (.ref b8_x1), .val (.ref b11_x1), .val (.ref b14_x1), .val (.ref b17_x1), .val d20, .val d23, .val d26, .val d29, .val (.ref b32), .unset] [d26, d20, (.ref b17_x1), (.ref b32)])) t
    refine XS.aload X35.here hx rfl (Jvm.hb hby at_120) rfl hr_d23 ?_
    show Steps p.tables e below (T35.setTop (mkF m 122 #[.val (.long q1), .second, .val (.int p2), .val (.int p3), .val (.int p4), .val (.int p5), .val (.int p6), .val d2, .val d5, .val (.ref b8_x1), .val (.ref b11_x1), .val (.ref b14_x1), .val (.ref b17_x1), .val d20, .val d23, .val d26, .val d29, .val (.ref b32), .unset] [d23, d26, d20, (.ref b17_x1), (.ref b32)])) t
    refine XS.aload X35.here hx rfl (Jvm.hb hby at_122) rfl hr_d29 ?_
    show Steps p.tables e below (T35.setTop (mkF m 124 #[.val (.long q1), .second, .val (.int p2), .val (.int p3), .val (.int p4), .val (.int p5), .val (.int p6), .val d2, .val d5, .val (.ref b8_x1), .val (.ref b11_x1), .val (.ref b14_x1), .val (.ref b17_x1), .val d20, .val d23, .val d26, .val d29, .val (.ref b32), .unset] [d29, d23, d26, d20, (.ref b17_x1), (.ref b32)])) t
    exact k
  obtain ⟨cq38, kq38, q38a, q38b, q38c⟩ := isOf hZ e35 R35_0
  obtain ⟨_, _, ⟨T38, L38, k38, n38⟩, -, X38, ⟨Lc38, hQ38, l38, y38, z38⟩, st38⟩ := X35.virtualBack hx (y := (⟨"com/example/millrace/millrace/api/SinkRecord", "withData", "(Ljava/lang/String;Lcom/example/millrace/millrace/api/Schema;Ljava/lang/Object;Lcom/example/millrace/millrace/api/Schema;Ljava/lang/Object;)Lcom/example/millrace/millrace/api/SinkRecord;"⟩ : MethodName)) (z := (⟨"com/example/millrace/millrace/api/SinkRecord", "withData", "(Ljava/lang/String;Lcom/example/millrace/millrace/api/Schema;Ljava/lang/Object;Lcom/example/millrace/millrace/api/Schema;Ljava/lang/Object;)Lcom/example/millrace/millrace/api/SinkRecord;"⟩ : MethodName)) hown (mvT hZ (hw _ (List.mem_of_getElem? (i := 70) rfl))) (mvT hZ (hw _ (List.mem_of_getElem? (i := 71) rfl))) (notFace_of_selects (args := #[]) (mvT hZ (hw _ (List.mem_of_getElem? (i := 73) rfl)))) (mvT hZ (hw _ (List.mem_of_getElem? (i := 73) rfl))) (mvT hZ (hw _ (List.mem_of_getElem? (i := 72) rfl))) (by decide) (backOf (W := 0) (rm12 l Z a0 hw [] b32 b17_x1 d20 d26 d23 d29 q1 h35 n0 (Nat.le_trans Z0 KP35.1) hr_d20 hr_d26 hr_d23 hr_d29 R35_2) hZ (hw _ (List.mem_of_getElem? (i := 74) rfl)) (hw _ (List.mem_of_getElem? (i := 48) rfl)) (by decide) (by decide)) q38a q38c (g := (mkF m 124 #[.val (.long q1), .second, .val (.int p2), .val (.int p3), .val (.int p4), .val (.int p5), .val (.int p6), .val d2, .val d5, .val (.ref b8_x1), .val (.ref b11_x1), .val (.ref b14_x1), .val (.ref b17_x1), .val d20, .val d23, .val d26, .val d29, .val (.ref b32), .unset] [d29, d23, d26, d20, (.ref b17_x1), (.ref b32)])) rfl (by rw [hml]; rfl) (Steps.refl _) (argsL := [(.ref b17_x1), d20, d26, d23, d29]) (rest := []) (lenOf pd_10 rfl) rfl (by show 2 * 0 + _ ≤ _; exact Nat.le_of_eq rfl) (Jvm.hb hby at_124) (fun _ _ => ⟨rfl, e35, (by decide : 37 + 1 ≤ _), (by decide : 78 + 6 ≤ _)⟩)
  dsimp only [Pt.U, Pt.locs, Pt.cells, Pt.slots] at X38 l38 y38 z38 st38 hQ38
  subst l38 y38 z38
  obtain ⟨h38, e38⟩ : ∃ z, T38.heap = z := ⟨_, rfl⟩
  rw [e38] at hQ38
  obtain ⟨b38_x1, rfl, N38q, Kq38, szq_b38_x1, gb_b38_x1, R38_0, R38_1, R38_2, R38_3, R38_4, R38_5, R38_6⟩ := hQ38
  have N38 := Fr.app N35 N38q
  have KP38 : Keep h0 h38 [] := KP35.trans Kq38 all0
  have E38_6 : Exa Z h38 b8_x1 "java/lang/String" := E35_6.keep Kq38
  have A38_7 : Ia Z h38 b8_x2 .byte (f2_u4 (1 : Int32)) (f2_u5 (1 : Int32) p6) := A35_7.keep Kq38 nin0
  have F38_8 : Fld Z h38 b8_x1 "java/lang/String" "value" "[B" (.ref b8_x2) := F35_8.keep Kq38 nin0
  have F38_9 : Fld Z h38 b8_x1 "java/lang/String" "coder" "B" (.int (0 : Int32)) := F35_9.keep Kq38 nin0
  have E38_10 : Exa Z h38 b11_x1 "java/lang/String" := E35_10.keep Kq38
  have A38_11 : Ia Z h38 b11_x2 .byte (f2_u4 (2 : Int32)) (f2_u5 (2 : Int32) ((p6.toUInt32 >>> ((8 : Int32) &&& 31).toUInt32).toInt32)) := A35_11.keep Kq38 nin0
  have F38_12 : Fld Z h38 b11_x1 "java/lang/String" "value" "[B" (.ref b11_x2) := F35_12.keep Kq38 nin0
  have F38_13 : Fld Z h38 b11_x1 "java/lang/String" "coder" "B" (.int (0 : Int32)) := F35_13.keep Kq38 nin0
  have E38_14 : Exa Z h38 b14_x1 "java/lang/String" := E35_14.keep Kq38
  have A38_15 : Ia Z h38 b14_x2 .byte (f2_u4 (3 : Int32)) (f2_u5 (3 : Int32) ((p6.toUInt32 >>> ((4 : Int32) &&& 31).toUInt32).toInt32)) := A35_15.keep Kq38 nin0
  have F38_16 : Fld Z h38 b14_x1 "java/lang/String" "value" "[B" (.ref b14_x2) := F35_16.keep Kq38 nin0
  have F38_17 : Fld Z h38 b14_x1 "java/lang/String" "coder" "B" (.int (0 : Int32)) := F35_17.keep Kq38 nin0
  have E38_18 : Exa Z h38 b17_x1 "java/lang/String" := E35_18.keep Kq38
  have A38_19 : Ia Z h38 b17_x2 .byte (f2_u4 ((p3.toUInt32 >>> ((12 : Int32) &&& 31).toUInt32).toInt32)) (f2_u5 ((p3.toUInt32 >>> ((12 : Int32) &&& 31).toUInt32).toInt32) p2) := A35_19.keep Kq38 nin0
  have F38_20 : Fld Z h38 b17_x1 "java/lang/String" "value" "[B" (.ref b17_x2) := F35_20.keep Kq38 nin0
  have F38_21 : Fld Z h38 b17_x1 "java/lang/String" "coder" "B" (.int (0 : Int32)) := F35_21.keep Kq38 nin0
  have E38_22 : Exa Z h38 b32 "com/example/millrace/millrace/api/SinkRecord" := R35_0.keep Kq38
  have F38_23 : Fld Z h38 b32 "com/example/millrace/millrace/api/SinkRecord" "topic" "Ljava/lang/String;" (.ref b14_x1) := R35_1.keep Kq38 nin0
  have F38_24 : Fld Z h38 b32 "com/example/millrace/millrace/api/SinkRecord" "offset" "J" (.long q1) := R35_2.keep Kq38 nin0
  have F38_25 : Fld Z h38 b32 "com/example/millrace/millrace/api/SinkRecord" "keySchema" "Lcom/example/millrace/millrace/api/Schema;" d2 := R35_3.keep Kq38 nin0
  have F38_26 : Fld Z h38 b32 "com/example/millrace/millrace/api/SinkRecord" "key" "Ljava/lang/Object;" (.ref b8_x1) := R35_4.keep Kq38 nin0
  have F38_27 : Fld Z h38 b32 "com/example/millrace/millrace/api/SinkRecord" "valueSchema" "Lcom/example/millrace/millrace/api/Schema;" d5 := R35_5.keep Kq38 nin0
  have F38_28 : Fld Z h38 b32 "com/example/millrace/millrace/api/SinkRecord" "value" "Ljava/lang/Object;" (.ref b11_x1) := R35_6.keep Kq38 nin0
  have CR38 : CHr Z EL0 s.vm h0 T29.vm h38 := CR35.trans (CHr.keep Kq38 all0 CR35.1)
  have SK38 := Nat.le_trans SK35 Kq38.1
  have ne38_x1_48 : b8_x1 ≠ b38_x1 := Nat.ne_of_lt (Nat.lt_of_lt_of_le E35_6.lt szq_b38_x1)
  have ne38_x1_50 : b8_x2 ≠ b38_x1 := Nat.ne_of_lt (Nat.lt_of_lt_of_le A35_7.lt szq_b38_x1)
  have ne38_x1_52 : b11_x1 ≠ b38_x1 := Nat.ne_of_lt (Nat.lt_of_lt_of_le E35_10.lt szq_b38_x1)
  have ne38_x1_54 : b11_x2 ≠ b38_x1 := Nat.ne_of_lt (Nat.lt_of_lt_of_le A35_11.lt szq_b38_x1)
  have ne38_x1_56 : b14_x1 ≠ b38_x1 := Nat.ne_of_lt (Nat.lt_of_lt_of_le E35_14.lt szq_b38_x1)
  have ne38_x1_58 : b14_x2 ≠ b38_x1 := Nat.ne_of_lt (Nat.lt_of_lt_of_le A35_15.lt szq_b38_x1)
  have ne38_x1_60 : b17_x1 ≠ b38_x1 := Nat.ne_of_lt (Nat.lt_of_lt_of_le E35_18.lt szq_b38_x1)
  have ne38_x1_62 : b17_x2 ≠ b38_x1 := Nat.ne_of_lt (Nat.lt_of_lt_of_le A35_19.lt szq_b38_x1)
  have ne38_x1_64 : b32 ≠ b38_x1 := Nat.ne_of_lt (Nat.lt_of_lt_of_le R35_0.lt szq_b38_x1)
  have sz_b38_x1 : h0.size ≤ b38_x1 := Nat.le_trans KP35.1 szq_b38_x1
  have K39 : ∀ t, Steps p.tables e below (T38.setTop (mkF m 127 #[.val (.long q1), .second, .val (.int p2), .val (.int p3), .val (.int p4), .val (.int p5), .val (.int p6), .val d2, .val d5, .val (.ref b8_x1), .val (.ref b11_x1), .val (.ref b14_x1), .val (.ref b17_x1), .val d20, .val d23, .val d26, .val d29, .val (.ref b32), .unset] [(.ref b38_x1)])) t → Steps p.tables e below (T35.setTop (mkF m 124 #[.val (.long q1), .second, .val (.int p2), .val (.int p3), .val (.int p4), .val (.int p5), .val (.int p6), .val d2, .val d5, .val (.ref b8_x1), .val (.ref b11_x1), .val (.ref b14_x1), .val (.ref b17_x1), .val d20, .val d23, .val d26, .val d29, .val (.ref b32), .unset] [d29, d23, d26, d20, (.ref b17_x1), (.ref b32)])) t := fun t k => st38.trans k
  have K40 : ∀ t, Steps p.tables e below (T38.setTop (mkF m 138 #[.val (.long q1), .second, .val (.int p2), .val (.int p3), .val (.int p4), .val (.int p5), .val (.int p6), .val d2, .val d5, .val (.ref b8_x1), .val (.ref b11_x1), .val (.ref b14_x1), .val (.ref b17_x1), .val d20, .val d23, .val d26, .val d29, .val (.ref b32), .val (.ref b38_x1)] [(.ref b38_x1)])) t → Steps p.tables e below (T38.setTop (mkF m 127 #[.val (.long q1), .second, .val (.int p2), .val (.int p3), .val (.int p4), .val (.int p5), .val (.int p6), .val d2, .val d5, .val (.ref b8_x1), .val (.ref b11_x1), .val (.ref b14_x1), .val (.ref b17_x1), .val d20, .val d23, .val d26, .val d29, .val (.ref b32), .unset] [(.ref b38_x1)])) t := by
    intro t k
    refine XS.astore X38.here hx rfl (Jvm.hb hby at_127) rfl rfl (l' := #[.val (.long q1), .second, .val (.int p2), .val (.int p3), .val (.int p4), .val (.int p5), .val (.int p6), .val d2, .val d5, .val (.ref b8_x1), .val (.ref b11_x1), .val (.ref b14_x1), .val (.ref b17_x1), .val d20, .val d23, .val d26, .val d29, .val (.ref b32), .val (.ref b38_x1)]) rfl ?_
    show Steps p.tables e below (T38.setTop (mkF m 129 #[.val (.long q1), .second, .val (.int p2), .val (.int p3), .val (.int p4), .val (.int p5), .val (.int p6), .val d2, .val d5, .val (.ref b8_x1), .val (.ref b11_x1), .val (.ref b14_x1), .val (.ref b17_x1), .val d20, .val d23, .val d26, .val d29, .val (.ref b32), .val (.ref b38_x1)] [])) t
    refine XS.aload X38.here hx rfl (Jvm.hb hby at_129) rfl rfl ?_
    show Steps p.tables e below (T38.setTop (mkF m 131 #[.val (.long q1), .second, .val (.int p2), .val (.int p3), .val (.int p4), .val (.int p5), .val (.int p6), .val d2, .val d5, .val (.ref b8_x1), .val (.ref b11_x1), .val (.ref b14_x1), .val (.ref b17_x1), .val d20, .val d23, .val d26, .val d29, .val (.ref b32), .val (.ref b38_x1)] [(.ref b38_x1)])) t
    refine XS.ifnonnullYes X38.here hx rfl (pc0 := 131) (pc' := 136) rfl (Jvm.hb hby at_131) rfl (by decide) (by decide) ?_
    show Steps p.tables e below (T38.setTop (mkF m 136 #[.val (.long q1), .second, .val (.int p2), .val (.int p3), .val (.int p4), .val (.int p5), .val (.int p6), .val d2, .val d5, .val (.ref b8_x1), .val (.ref b11_x1), .val (.ref b14_x1), .val (.ref b17_x1), .val d20, .val d23, .val d26, .val d29, .val (.ref b32), .val (.ref b38_x1)] [])) t
    refine XS.aload X38.here hx rfl (Jvm.hb hby at_136) rfl rfl ?_
    show Steps p.tables e below (T38.setTop (mkF m 138 #[.val (.long q1), .second, .val (.int p2), .val (.int p3), .val (.int p4), .val (.int p5), .val (.int p6), .val d2, .val d5, .val (.ref b8_x1), .val (.ref b11_x1), .val (.ref b14_x1), .val (.ref b17_x1), .val d20, .val d23, .val d26, .val d29, .val (.ref b32), .val (.ref b38_x1)] [(.ref b38_x1)])) t
    exact k
  obtain ⟨cq41, kq41, q41a, q41b, q41c⟩ := isOf hZ e38 R38_0
  obtain ⟨_, _, ⟨T41, L41, k41, n41⟩, -, X41, ⟨Lc41, hQ41, l41, y41, z41⟩, st41⟩ := X38.virtualBack hx (y := (⟨"com/example/millrace/millrace/api/SinkRecord", "topic", "()Ljava/lang/String;"⟩ : MethodName)) (z := (⟨"com/example/millrace/millrace/api/SinkRecord", "topic", "()Ljava/lang/String;"⟩ : MethodName)) hown (mvT hZ (hw _ (List.mem_of_getElem? (i := 77) rfl))) (mvT hZ (hw _ (List.mem_of_getElem? (i := 78) rfl))) (notFace_of_selects (args := #[]) (mvT hZ (hw _ (List.mem_of_getElem? (i := 80) rfl)))) (mvT hZ (hw _ (List.mem_of_getElem? (i := 80) rfl))) (mvT hZ (hw _ (List.mem_of_getElem? (i := 79) rfl))) (by decide) (backOf (W := 0) (rm13 l Z a0 hw [] b38_x1 b17_x1 h38 n0 (Nat.le_trans Z0 KP38.1) R38_1) hZ (hw _ (List.mem_of_getElem? (i := 81) rfl)) (hw _ (List.mem_of_getElem? (i := 48) rfl)) (by decide) (by decide)) q41a q41c (g := (mkF m 138 #[.val (.long q1), .second, .val (.int p2), .val (.int p3), .val (.int p4), .val (.int p5), .val (.int p6), .val d2, .val d5, .val (.ref b8_x1), .val (.ref b11_x1), .val (.ref b14_x1), .val (.ref b17_x1), .val d20, .val d23, .val d26, .val d29, .val (.ref b32), .val (.ref b38_x1)] [(.ref b38_x1)])) rfl (by rw [hml]; rfl) (Steps.refl _) (argsL := []) (rest := []) (lenOf pd_11 rfl) rfl (by show 2 * 0 + _ ≤ _; exact Nat.le_of_eq rfl) (Jvm.hb hby at_138) (fun _ _ => ⟨rfl, e38, (by decide : 38 + 0 ≤ _), (by decide : 84 + 0 ≤ _)⟩)
  dsimp only [Pt.U, Pt.locs, Pt.cells, Pt.slots] at X41 l41 y41 z41 st41 hQ41
  subst l41 y41 z41
  obtain ⟨rfl, N41q, e41⟩ := hQ41
  have N41 := Fr.app N38 N41q
  have K42 : ∀ t, Steps p.tables e below (T41.setTop (mkF m 141 #[.val (.long q1), .second, .val (.int p2), .val (.int p3), .val (.int p4), .val (.int p5), .val (.int p6), .val d2, .val d5, .val (.ref b8_x1), .val (.ref b11_x1), .val (.ref b14_x1), .val (.ref b17_x1), .val d20, .val d23, .val d26, .val d29, .val (.ref b32), .val (.ref b38_x1)] [(.ref b17_x1)])) t → Steps p.tables e below (T38.setTop (mkF m 138 #[.val (.long q1), .second, .val (.int p2), .val (.int p3), .val (.int p4), .val (.int p5), .val (.int p6), .val d2, .val d5, .val (.ref b8_x1), .val (.ref b11_x1), .val (.ref b14_x1), .val (.ref b17_x1), .val d20, .val d23, .val d26, .val d29, .val (.ref b32), .val (.ref b38_x1)] [(.ref b38_x1)])) t := fun t k => st41.trans k
  have K43 : ∀ t, Steps p.tables e below (T41.setTop (mkF m 143 #[.val (.long q1), .second, .val (.int p2), .val (.int p3), .val (.int p4), .val (.int p5), .val (.int p6), .val d2, .val d5, .val (.ref b8_x1), .val (.ref b11_x1), .val (.ref b14_x1), .val (.ref b17_x1), .val d20, .val d23, .val d26, .val d29, .val (.ref b32), .val (.ref b38_x1)] [(.ref b17_x1), (.ref b17_x1)])) t → Steps p.tables e below (T41.setTop (mkF m 141 #[.val (.long q1), .second, .val (.int p2), .val (.int p3), .val (.int p4), .val (.int p5), .val (.int p6), .val d2, .val d5, .val (.ref b8_x1), .val (.ref b11_x1), .val (.ref b14_x1), .val (.ref b17_x1), .val d20, .val d23, .val d26, .val d29, .val (.ref b32), .val (.ref b38_x1)] [(.ref b17_x1)])) t := by
    intro t k
    refine XS.aload X41.here hx rfl (Jvm.hb hby at_141) rfl rfl ?_
    show Steps p.tables e below (T41.setTop (mkF m 143 #[.val (.long q1), .second, .val (.int p2), .val (.int p3), .val (.int p4), .val (.int p5), .val (.int p6), .val d2, .val d5, .val (.ref b8_x1), .val (.ref b11_x1), .val (.ref b14_x1), .val (.ref b17_x1), .val d20, .val d23, .val d26, .val d29, .val (.ref b32), .val (.ref b38_x1)] [(.ref b17_x1), (.ref b17_x1)])) t
    exact k
  have K44 : ∀ t, Steps p.tables e below (T41.setTop (mkF m 146 #[.val (.long q1), .second, .val (.int p2), .val (.int p3), .val (.int p4), .val (.int p5), .val (.int p6), .val d2, .val d5, .val (.ref b8_x1), .val (.ref b11_x1), .val (.ref b14_x1), .val (.ref b17_x1), .val d20, .val d23, .val d26, .val d29, .val (.ref b32), .val (.ref b38_x1)] [])) t → Steps p.tables e below (T41.setTop (mkF m 143 #[.val (.long q1), .second, .val (.int p2), .val (.int p3), .val (.int p4), .val (.int p5), .val (.int p6), .val d2, .val d5, .val (.ref b8_x1), .val (.ref b11_x1), .val (.ref b14_x1), .val (.ref b17_x1), .val d20, .val d23, .val d26, .val d29, .val (.ref b32), .val (.ref b38_x1)] [(.ref b17_x1), (.ref b17_x1)])) t := by
    intro t k
    refine Jvm.RoadKit.acmp (g := (mkF m 143 #[.val (.long q1), .second, .val (.int p2), .val (.int p3), .val (.int p4), .val (.int p5), .val (.int p6), .val d2, .val d5, .val (.ref b8_x1), .val (.ref b11_x1), .val (.ref b14_x1), .val (.ref b17_x1), .val d20, .val d23, .val d26, .val d29, .val (.ref b32), .val (.ref b38_x1)] [(.ref b17_x1), (.ref b17_x1)])) X41 hx rfl rfl rfl (pc0 := 143) (pc' := 146) (same := true) rfl (Jvm.hb hby at_143) rfl (decide_eq_true (congrArg Value.ref rfl)) (by decide) (by decide) ?_
    exact k
  have K45 : ∀ t, Steps p.tables e below (T41.setTop (mkF m 148 #[.val (.long q1), .second, .val (.int p2), .val (.int p3), .val (.int p4), .val (.int p5), .val (.int p6), .val d2, .val d5, .val (.ref b8_x1), .val (.ref b11_x1), .val (.ref b14_x1), .val (.ref b17_x1), .val d20, .val d23, .val d26, .val d29, .val (.ref b32), .val (.ref b38_x1)] [(.ref b38_x1)])) t → Steps p.tables e below (T41.setTop (mkF m 146 #[.val (.long q1), .second, .val (.int p2), .val (.int p3), .val (.int p4), .val (.int p5), .val (.int p6), .val d2, .val d5, .val (.ref b8_x1), .val (.ref b11_x1), .val (.ref b14_x1), .val (.ref b17_x1), .val d20, .val d23, .val d26, .val d29, .val (.ref b32), .val (.ref b38_x1)] [])) t := by
    intro t k
    refine XS.aload X41.here hx rfl (Jvm.hb hby at_146) rfl rfl ?_
    show Steps p.tables e below (T41.setTop (mkF m 148 #[.val (.long q1), .second, .val (.int p2), .val (.int p3), .val (.int p4), .val (.int p5), .val (.int p6), .val d2, .val d5, .val (.ref b8_x1), .val (.ref b11_x1), .val (.ref b14_x1), .val (.ref b17_x1), .val d20, .val d23, .val d26, .val d29, .val (.ref b32), .val (.ref b38_x1)] [(.ref b38_x1)])) t
    exact k
  obtain ⟨cq46, kq46, q46a, q46b, q46c⟩ := isOf hZ e41 R38_0
  obtain ⟨_, _, ⟨T46, L46, k46, n46⟩, -, X46, ⟨Lc46, hQ46, l46, y46, z46⟩, st46⟩ := X41.virtualBack hx (y := (⟨"com/example/millrace/millrace/api/SinkRecord", "offset", "()J"⟩ : MethodName)) (z := (⟨"com/example/millrace/millrace/api/SinkRecord", "offset", "()J"⟩ : MethodName)) hown (mvT hZ (hw _ (List.mem_of_getElem? (i := 82) rfl))) (mvT hZ (hw _ (List.mem_of_getElem? (i := 83) rfl))) (notFace_of_selects (args := #[]) (mvT hZ (hw _ (List.mem_of_getElem? (i := 85) rfl)))) (mvT hZ (hw _ (List.mem_of_getElem? (i := 85) rfl))) (mvT hZ (hw _ (List.mem_of_getElem? (i := 84) rfl))) (by decide) (backOf (W := 0) (rm14 l Z a0 hw [] b38_x1 q1 h38 n0 (Nat.le_trans Z0 KP38.1) R38_2) hZ (hw _ (List.mem_of_getElem? (i := 86) rfl)) (hw _ (List.mem_of_getElem? (i := 48) rfl)) (by decide) (by decide)) q46a q46c (g := (mkF m 148 #[.val (.long q1), .second, .val (.int p2), .val (.int p3), .val (.int p4), .val (.int p5), .val (.int p6), .val d2, .val d5, .val (.ref b8_x1), .val (.ref b11_x1), .val (.ref b14_x1), .val (.ref b17_x1), .val d20, .val d23, .val d26, .val d29, .val (.ref b32), .val (.ref b38_x1)] [(.ref b38_x1)])) rfl (by rw [hml]; rfl) (Steps.refl _) (argsL := []) (rest := []) (lenOf pd_12 rfl) rfl (by show 2 * 0 + _ ≤ _; exact Nat.le_of_eq rfl) (Jvm.hb hby at_148) (fun _ _ => ⟨rfl, e41, (by decide : 38 + 0 ≤ _), (by decide : 84 + 0 ≤ _)⟩)
  dsimp only [Pt.U, Pt.locs, Pt.cells, Pt.slots] at X46 l46 y46 z46 st46 hQ46
  subst l46 y46 z46
  obtain ⟨rfl, N46q, e46⟩ := hQ46
  have N46 := Fr.app N41 N46q
  have K47 : ∀ t, Steps p.tables e below (T46.setTop (mkF m 151 #[.val (.long q1), .second, .val (.int p2), .val (.int p3), .val (.int p4), .val (.int p5), .val (.int p6), .val d2, .val d5, .val (.ref b8_x1), .val (.ref b11_x1), .val (.ref b14_x1), .val (.ref b17_x1), .val d20, .val d23, .val d26, .val d29, .val (.ref b32), .val (.ref b38_x1)] [(.long q1)])) t → Steps p.tables e below (T41.setTop (mkF m 148 #[.val (.long q1), .second, .val (.int p2), .val (.int p3), .val (.int p4), .val (.int p5), .val (.int p6), .val d2, .val d5, .val (.ref b8_x1), .val (.ref b11_x1), .val (.ref b14_x1), .val (.ref b17_x1), .val d20, .val d23, .val d26, .val d29, .val (.ref b32), .val (.ref b38_x1)] [(.ref b38_x1)])) t := fun t k => st46.trans k
  have K48 : ∀ t, Steps p.tables e below (T46.setTop (mkF m 153 #[.val (.long q1), .second, .val (.int p2), .val (.int p3), .val (.int p4), .val (.int p5), .val (.int p6), .val d2, .val d5, .val (.ref b8_x1), .val (.ref b11_x1), .val (.ref b14_x1), .val (.ref b17_x1), .val d20, .val d23, .val d26, .val d29, .val (.ref b32), .val (.ref b38_x1)] [(.int (own_cmp q1 q1))])) t → Steps p.tables e below (T46.setTop (mkF m 151 #[.val (.long q1), .second, .val (.int p2), .val (.int p3), .val (.int p4), .val (.int p5), .val (.int p6), .val d2, .val d5, .val (.ref b8_x1), .val (.ref b11_x1), .val (.ref b14_x1), .val (.ref b17_x1), .val d20, .val d23, .val d26, .val d29, .val (.ref b32), .val (.ref b38_x1)] [(.long q1)])) t := by
    intro t k
    refine XS.lloadN X46.here hx rfl (Jvm.hb hby at_151) rfl ?_
    show Steps p.tables e below (T46.setTop (mkF m 152 #[.val (.long q1), .second, .val (.int p2), .val (.int p3), .val (.int p4), .val (.int p5), .val (.int p6), .val d2, .val d5, .val (.ref b8_x1), .val (.ref b11_x1), .val (.ref b14_x1), .val (.ref b17_x1), .val d20, .val d23, .val d26, .val d29, .val (.ref b32), .val (.ref b38_x1)] [(.long q1), (.long q1)])) t
    refine XS.lcmp X46.here hx rfl (Jvm.hb hby at_152) rfl ?_
    show Steps p.tables e below (T46.setTop (mkF m 153 #[.val (.long q1), .second, .val (.int p2), .val (.int p3), .val (.int p4), .val (.int p5), .val (.int p6), .val d2, .val d5, .val (.ref b8_x1), .val (.ref b11_x1), .val (.ref b14_x1), .val (.ref b17_x1), .val d20, .val d23, .val d26, .val d29, .val (.ref b32), .val (.ref b38_x1)] [(.int (own_cmp q1 q1))])) t
    exact k
  by_cases hc49 : (own_cmp q1 q1) = (0 : Int32)
  · have K50 : ∀ t, Steps p.tables e below (T46.setTop (mkF m 156 #[.val (.long q1), .second, .val (.int p2), .val (.int p3), .val (.int p4), .val (.int p5), .val (.int p6), .val d2, .val d5, .val (.ref b8_x1), .val (.ref b11_x1), .val (.ref b14_x1), .val (.ref b17_x1), .val d20, .val d23, .val d26, .val d29, .val (.ref b32), .val (.ref b38_x1)] [])) t → Steps p.tables e below (T46.setTop (mkF m 153 #[.val (.long q1), .second, .val (.int p2), .val (.int p3), .val (.int p4), .val (.int p5), .val (.int p6), .val d2, .val d5, .val (.ref b8_x1), .val (.ref b11_x1), .val (.ref b14_x1), .val (.ref b17_x1), .val d20, .val d23, .val d26, .val d29, .val (.ref b32), .val (.ref b38_x1)] [(.int (own_cmp q1 q1))])) t := by
      intro t k
      refine XS.ifNo X46.here hx rfl (Jvm.hb hby at_153) rfl ((if0 _ _).trans (teq hc49).2) ?_
      exact k
    have K51 : ∀ t, Steps p.tables e below (T46.setTop (mkF m 158 #[.val (.long q1), .second, .val (.int p2), .val (.int p3), .val (.int p4), .val (.int p5), .val (.int p6), .val d2, .val d5, .val (.ref b8_x1), .val (.ref b11_x1), .val (.ref b14_x1), .val (.ref b17_x1), .val d20, .val d23, .val d26, .val d29, .val (.ref b32), .val (.ref b38_x1)] [(.ref b38_x1)])) t → Steps p.tables e below (T46.setTop (mkF m 156 #[.val (.long q1), .second, .val (.int p2), .val (.int p3), .val (.int p4), .val (.int p5), .val (.int p6), .val d2, .val d5, .val (.ref b8_x1), .val (.ref b11_x1), .val (.ref b14_x1), .val (.ref b17_x1), .val d20, .val d23, .val d26, .val d29, .val (.ref b32), .val (.ref b38_x1)] [])) t := by
      intro t k
      refine XS.aload X46.here hx rfl (Jvm.hb hby at_156) rfl rfl ?_
      show Steps p.tables e below (T46.setTop (mkF m 158 #[.val (.long q1), .second, .val (.int p2), .val (.int p3), .val (.int p4), .val (.int p5), .val (.int p6), .val d2, .val d5, .val (.ref b8_x1), .val (.ref b11_x1), .val (.ref b14_x1), .val (.ref b17_x1), .val d20, .val d23, .val d26, .val d29, .val (.ref b32), .val (.ref b38_x1)] [(.ref b38_x1)])) t
      exact k
    obtain ⟨cq52, kq52, q52a, q52b, q52c⟩ := isOf hZ e46 R38_0
    obtain ⟨_, _, ⟨T52, L52, k52, n52⟩, -, X52, ⟨Lc52, hQ52, l52, y52, z52⟩, st52⟩ := X46.virtualBack hx (y := (⟨"com/example/millrace/millrace/api/SinkRecord", "keySchema", "()Lcom/example/millrace/millrace/api/Schema;"⟩ : MethodName)) (z := (⟨"com/example/millrace/millrace/api/SinkRecord", "keySchema", "()Lcom/example/millrace/millrace/api/Schema;"⟩ : MethodName)) hown (mvT hZ (hw _ (List.mem_of_getElem? (i := 87) rfl))) (mvT hZ (hw _ (List.mem_of_getElem? (i := 88) rfl))) (notFace_of_selects (args := #[]) (mvT hZ (hw _ (List.mem_of_getElem? (i := 90) rfl)))) (mvT hZ (hw _ (List.mem_of_getElem? (i := 90) rfl))) (mvT hZ (hw _ (List.mem_of_getElem? (i := 89) rfl))) (by decide) (backOf (W := 0) (rm15 l Z a0 hw [] b38_x1 d20 h38 n0 (Nat.le_trans Z0 KP38.1) hr_d20 R38_3) hZ (hw _ (List.mem_of_getElem? (i := 91) rfl)) (hw _ (List.mem_of_getElem? (i := 48) rfl)) (by decide) (by decide)) q52a q52c (g := (mkF m 158 #[.val (.long q1), .second, .val (.int p2), .val (.int p3), .val (.int p4), .val (.int p5), .val (.int p6), .val d2, .val d5, .val (.ref b8_x1), .val (.ref b11_x1), .val (.ref b14_x1), .val (.ref b17_x1), .val d20, .val d23, .val d26, .val d29, .val (.ref b32), .val (.ref b38_x1)] [(.ref b38_x1)])) rfl (by rw [hml]; rfl) (Steps.refl _) (argsL := []) (rest := []) (lenOf pd_13 rfl) rfl (by show 2 * 0 + _ ≤ _; exact Nat.le_of_eq rfl) (Jvm.hb hby at_158) (fun _ _ => ⟨rfl, e46, (by decide : 38 + 0 ≤ _), (by decide : 84 + 0 ≤ _)⟩)
    dsimp only [Pt.U, Pt.locs, Pt.cells, Pt.slots] at X52 l52 y52 z52 st52 hQ52
    subst l52 y52 z52
    obtain ⟨rfl, N52q, e52⟩ := hQ52
    have N52 := Fr.app N46 N52q
    have K53 : ∀ t, Steps p.tables e below (T52.setTop (mkF m 161 #[.val (.long q1), .second, .val (.int p2), .val (.int p3), .val (.int p4), .val (.int p5), .val (.int p6), .val d2, .val d5, .val (.ref b8_x1), .val (.ref b11_x1), .val (.ref b14_x1), .val (.ref b17_x1), .val d20, .val d23, .val d26, .val d29, .val (.ref b32), .val (.ref b38_x1)] [d20])) t → Steps p.tables e below (T46.setTop (mkF m 158 #[.val (.long q1), .second, .val (.int p2), .val (.int p3), .val (.int p4), .val (.int p5), .val (.int p6), .val d2, .val d5, .val (.ref b8_x1), .val (.ref b11_x1), .val (.ref b14_x1), .val (.ref b17_x1), .val d20, .val d23, .val d26, .val d29, .val (.ref b32), .val (.ref b38_x1)] [(.ref b38_x1)])) t := fun t k => st52.trans k
    have K54 : ∀ t, Steps p.tables e below (T52.setTop (mkF m 163 #[.val (.long q1), .second, .val (.int p2), .val (.int p3), .val (.int p4), .val (.int p5), .val (.int p6), .val d2, .val d5, .val (.ref b8_x1), .val (.ref b11_x1), .val (.ref b14_x1), .val (.ref b17_x1), .val d20, .val d23, .val d26, .val d29, .val (.ref b32), .val (.ref b38_x1)] [d20, d20])) t → Steps p.tables e below (T52.setTop (mkF m 161 #[.val (.long q1), .second, .val (.int p2), .val (.int p3), .val (.int p4), .val (.int p5), .val (.int p6), .val d2, .val d5, .val (.ref b8_x1), .val (.ref b11_x1), .val (.ref b14_x1), .val (.ref b17_x1), .val d20, .val d23, .val d26, .val d29, .val (.ref b32), .val (.ref b38_x1)] [d20])) t := by
      intro t k
      refine XS.aload X52.here hx rfl (Jvm.hb hby at_161) rfl hr_d20 ?_
      show Steps p.tables e below (T52.setTop (mkF m 163 #[.val (.long q1), .second, .val (.int p2), .val (.int p3), .val (.int p4), .val (.int p5), .val (.int p6), .val d2, .val d5, .val (.ref b8_x1), .val (.ref b11_x1), .val (.ref b14_x1), .val (.ref b17_x1), .val d20, .val d23, .val d26, .val d29, .val (.ref b32), .val (.ref b38_x1)] [d20, d20])) t
      exact k
    have K55 : ∀ t, Steps p.tables e below (T52.setTop (mkF m 166 #[.val (.long q1), .second, .val (.int p2), .val (.int p3), .val (.int p4), .val (.int p5), .val (.int p6), .val d2, .val d5, .val (.ref b8_x1), .val (.ref b11_x1), .val (.ref b14_x1), .val (.ref b17_x1), .val d20, .val d23, .val d26, .val d29, .val (.ref b32), .val (.ref b38_x1)] [])) t → Steps p.tables e below (T52.setTop (mkF m 163 #[.val (.long q1), .second, .val (.int p2), .val (.int p3), .val (.int p4), .val (.int p5), .val (.int p6), .val d2, .val d5, .val (.ref b8_x1), .val (.ref b11_x1), .val (.ref b14_x1), .val (.ref b17_x1), .val d20, .val d23, .val d26, .val d29, .val (.ref b32), .val (.ref b38_x1)] [d20, d20])) t := by
      intro t k
      refine Jvm.RoadKit.acmp (g := (mkF m 163 #[.val (.long q1), .second, .val (.int p2), .val (.int p3), .val (.int p4), .val (.int p5), .val (.int p6), .val d2, .val d5, .val (.ref b8_x1), .val (.ref b11_x1), .val (.ref b14_x1), .val (.ref b17_x1), .val d20, .val d23, .val d26, .val d29, .val (.ref b32), .val (.ref b38_x1)] [d20, d20])) X52 hx rfl hr_d20 hr_d20 (pc0 := 163) (pc' := 166) (same := true) rfl (Jvm.hb hby at_163) rfl (decide_eq_true rfl) (by decide) (by decide) ?_
      exact k
    have K56 : ∀ t, Steps p.tables e below (T52.setTop (mkF m 168 #[.val (.long q1), .second, .val (.int p2), .val (.int p3), .val (.int p4), .val (.int p5), .val (.int p6), .val d2, .val d5, .val (.ref b8_x1), .val (.ref b11_x1), .val (.ref b14_x1), .val (.ref b17_x1), .val d20, .val d23, .val d26, .val d29, .val (.ref b32), .val (.ref b38_x1)] [(.ref b38_x1)])) t → Steps p.tables e below (T52.setTop (mkF m 166 #[.val (.long q1), .second, .val (.int p2), .val (.int p3), .val (.int p4), .val (.int p5), .val (.int p6), .val d2, .val d5, .val (.ref b8_x1), .val (.ref b11_x1), .val (.ref b14_x1), .val (.ref b17_x1), .val d20, .val d23, .val d26, .val d29, .val (.ref b32), .val (.ref b38_x1)] [])) t := by
      intro t k
      refine XS.aload X52.here hx rfl (Jvm.hb hby at_166) rfl rfl ?_
      show Steps p.tables e below (T52.setTop (mkF m 168 #[.val (.long q1), .second, .val (.int p2), .val (.int p3), .val (.int p4), .val (.int p5), .val (.int p6), .val d2, .val d5, .val (.ref b8_x1), .val (.ref b11_x1), .val (.ref b14_x1), .val (.ref b17_x1), .val d20, .val d23, .val d26, .val d29, .val (.ref b32), .val (.ref b38_x1)] [(.ref b38_x1)])) t
      exact k
    obtain ⟨cq57, kq57, q57a, q57b, q57c⟩ := isOf hZ e52 R38_0
    obtain ⟨_, _, ⟨T57, L57, k57, n57⟩, -, X57, ⟨Lc57, hQ57, l57, y57, z57⟩, st57⟩ := X52.virtualBack hx (y := (⟨"com/example/millrace/millrace/api/SinkRecord", "key", "()Ljava/lang/Object;"⟩ : MethodName)) (z := (⟨"com/example/millrace/millrace/api/SinkRecord", "key", "()Ljava/lang/Object;"⟩ : MethodName)) hown (mvT hZ (hw _ (List.mem_of_getElem? (i := 92) rfl))) (mvT hZ (hw _ (List.mem_of_getElem? (i := 93) rfl))) (notFace_of_selects (args := #[]) (mvT hZ (hw _ (List.mem_of_getElem? (i := 95) rfl)))) (mvT hZ (hw _ (List.mem_of_getElem? (i := 95) rfl))) (mvT hZ (hw _ (List.mem_of_getElem? (i := 94) rfl))) (by decide) (backOf (W := 0) (rm16 l Z a0 hw [] b38_x1 d26 h38 n0 (Nat.le_trans Z0 KP38.1) hr_d26 R38_4) hZ (hw _ (List.mem_of_getElem? (i := 96) rfl)) (hw _ (List.mem_of_getElem? (i := 48) rfl)) (by decide) (by decide)) q57a q57c (g := (mkF m 168 #[.val (.long q1), .second, .val (.int p2), .val (.int p3), .val (.int p4), .val (.int p5), .val (.int p6), .val d2, .val d5, .val (.ref b8_x1), .val (.ref b11_x1), .val (.ref b14_x1), .val (.ref b17_x1), .val d20, .val d23, .val d26, .val d29, .val (.ref b32), .val (.ref b38_x1)] [(.ref b38_x1)])) rfl (by rw [hml]; rfl) (Steps.refl _) (argsL := []) (rest := []) (lenOf pd_14 rfl) rfl (by show 2 * 0 + _ ≤ _; exact Nat.le_of_eq rfl) (Jvm.hb hby at_168) (fun _ _ => ⟨rfl, e52, (by decide : 38 + 0 ≤ _), (by decide : 84 + 0 ≤ _)⟩)
    dsimp only [Pt.U, Pt.locs, Pt.cells, Pt.slots] at X57 l57 y57 z57 st57 hQ57
    subst l57 y57 z57
    obtain ⟨rfl, N57q, e57⟩ := hQ57
    have N57 := Fr.app N52 N57q
    have K58 : ∀ t, Steps p.tables e below (T57.setTop (mkF m 171 #[.val (.long q1), .second, .val (.int p2), .val (.int p3), .val (.int p4), .val (.int p5), .val (.int p6), .val d2, .val d5, .val (.ref b8_x1), .val (.ref b11_x1), .val (.ref b14_x1), .val (.ref b17_x1), .val d20, .val d23, .val d26, .val d29, .val (.ref b32), .val (.ref b38_x1)] [d26])) t → Steps p.tables e below (T52.setTop (mkF m 168 #[.val (.long q1), .second, .val (.int p2), .val (.int p3), .val (.int p4), .val (.int p5), .val (.int p6), .val d2, .val d5, .val (.ref b8_x1), .val (.ref b11_x1), .val (.ref b14_x1), .val (.ref b17_x1), .val d20, .val d23, .val d26, .val d29, .val (.ref b32), .val (.ref b38_x1)] [(.ref b38_x1)])) t := fun t k => st57.trans k
    have K59 : ∀ t, Steps p.tables e below (T57.setTop (mkF m 173 #[.val (.long q1), .second, .val (.int p2), .val (.int p3), .val (.int p4), .val (.int p5), .val (.int p6), .val d2, .val d5, .val (.ref b8_x1), .val (.ref b11_x1), .val (.ref b14_x1), .val (.ref b17_x1), .val d20, .val d23, .val d26, .val d29, .val (.ref b32), .val (.ref b38_x1)] [d26, d26])) t → Steps p.tables e below (T57.setTop (mkF m 171 #[.val (.long q1), .second, .val (.int p2), .val (.int p3), .val (.int p4), .val (.int p5), .val (.int p6), .val d2, .val d5, .val (.ref b8_x1), .val (.ref b11_x1), .val (.ref b14_x1), .val (.ref b17_x1), .val d20, .val d23, .val d26, .val d29, .val (.ref b32), .val (.ref b38_x1)] [d26])) t := by
      intro t k
      refine XS.aload X57.here hx rfl (Jvm.hb hby at_171) rfl hr_d26 ?_
      show Steps p.tables e below (T57.setTop (mkF m 173 #[.val (.long q1), .second, .val (.int p2), .val (.int p3), .val (.int p4), .val (.int p5), .val (.int p6), .val d2, .val d5, .val (.ref b8_x1), .val (.ref b11_x1), .val (.ref b14_x1), .val (.ref b17_x1), .val d20, .val d23, .val d26, .val d29, .val (.ref b32), .val (.ref b38_x1)] [d26, d26])) t
      exact k
    have K60 : ∀ t, Steps p.tables e below (T57.setTop (mkF m 176 #[.val (.long q1), .second, .val (.int p2), .val (.int p3), .val (.int p4), .val (.int p5), .val (.int p6), .val d2, .val d5, .val (.ref b8_x1), .val (.ref b11_x1), .val (.ref b14_x1), .val (.ref b17_x1), .val d20, .val d23, .val d26, .val d29, .val (.ref b32), .val (.ref b38_x1)] [])) t → Steps p.tables e below (T57.setTop (mkF m 173 #[.val (.long q1), .second, .val (.int p2), .val (.int p3), .val (.int p4), .val (.int p5), .val (.int p6), .val d2, .val d5, .val (.ref b8_x1), .val (.ref b11_x1), .val (.ref b14_x1), .val (.ref b17_x1), .val d20, .val d23, .val d26, .val d29, .val (.ref b32), .val (.ref b38_x1)] [d26, d26])) t := by
      intro t k
      refine Jvm.RoadKit.acmp (g := (mkF m 173 #[.val (.long q1), .second, .val (.int p2), .val (.int p3), .val (.int p4), .val (.int p5), .val (.int p6), .val d2, .val d5, .val (.ref b8_x1), .val (.ref b11_x1), .val (.ref b14_x1), .val (.ref b17_x1), .val d20, .val d23, .val d26, .val d29, .val (.ref b32), .val (.ref b38_x1)] [d26, d26])) X57 hx rfl hr_d26 hr_d26 (pc0 := 173) (pc' := 176) (same := true) rfl (Jvm.hb hby at_173) rfl (decide_eq_true rfl) (by decide) (by decide) ?_
      exact k
    have K61 : ∀ t, Steps p.tables e below (T57.setTop (mkF m 178 #[.val (.long q1), .second, .val (.int p2), .val (.int p3), .val (.int p4), .val (.int p5), .val (.int p6), .val d2, .val d5, .val (.ref b8_x1), .val (.ref b11_x1), .val (.ref b14_x1), .val (.ref b17_x1), .val d20, .val d23, .val d26, .val d29, .val (.ref b32), .val (.ref b38_x1)] [(.ref b38_x1)])) t → Steps p.tables e below (T57.setTop (mkF m 176 #[.val (.long q1), .second, .val (.int p2), .val (.int p3), .val (.int p4), .val (.int p5), .val (.int p6), .val d2, .val d5, .val (.ref b8_x1), .val (.ref b11_x1), .val (.ref b14_x1), .val (.ref b17_x1), .val d20, .val d23, .val d26, .val d29, .val (.ref b32), .val (.ref b38_x1)] [])) t := by
      intro t k
      refine XS.aload X57.here hx rfl (Jvm.hb hby at_176) rfl rfl ?_
      show Steps p.tables e below (T57.setTop (mkF m 178 #[.val (.long q1), .second, .val (.int p2), .val (.int p3), .val (.int p4), .val (.int p5), .val (.int p6), .val d2, .val d5, .val (.ref b8_x1), .val (.ref b11_x1), .val (.ref b14_x1), .val (.ref b17_x1), .val d20, .val d23, .val d26, .val d29, .val (.ref b32), .val (.ref b38_x1)] [(.ref b38_x1)])) t
      exact k
    obtain ⟨cq62, kq62, q62a, q62b, q62c⟩ := isOf hZ e57 R38_0
    obtain ⟨_, _, ⟨T62, L62, k62, n62⟩, -, X62, ⟨Lc62, hQ62, l62, y62, z62⟩, st62⟩ := X57.virtualBack hx (y := (⟨"com/example/millrace/millrace/api/SinkRecord", "valueSchema", "()Lcom/example/millrace/millrace/api/Schema;"⟩ : MethodName)) (z := (⟨"com/example/millrace/millrace/api/SinkRecord", "valueSchema", "()Lcom/example/millrace/millrace/api/Schema;"⟩ : MethodName)) hown (mvT hZ (hw _ (List.mem_of_getElem? (i := 97) rfl))) (mvT hZ (hw _ (List.mem_of_getElem? (i := 98) rfl))) (notFace_of_selects (args := #[]) (mvT hZ (hw _ (List.mem_of_getElem? (i := 100) rfl)))) (mvT hZ (hw _ (List.mem_of_getElem? (i := 100) rfl))) (mvT hZ (hw _ (List.mem_of_getElem? (i := 99) rfl))) (by decide) (backOf (W := 0) (rm17 l Z a0 hw [] b38_x1 d23 h38 n0 (Nat.le_trans Z0 KP38.1) hr_d23 R38_5) hZ (hw _ (List.mem_of_getElem? (i := 101) rfl)) (hw _ (List.mem_of_getElem? (i := 48) rfl)) (by decide) (by decide)) q62a q62c (g := (mkF m 178 #[.val (.long q1), .second, .val (.int p2), .val (.int p3), .val (.int p4), .val (.int p5), .val (.int p6), .val d2, .val d5, .val (.ref b8_x1), .val (.ref b11_x1), .val (.ref b14_x1), .val (.ref b17_x1), .val d20, .val d23, .val d26, .val d29, .val (.ref b32), .val (.ref b38_x1)] [(.ref b38_x1)])) rfl (by rw [hml]; rfl) (Steps.refl _) (argsL := []) (rest := []) (lenOf pd_13 rfl) rfl (by show 2 * 0 + _ ≤ _; exact Nat.le_of_eq rfl) (Jvm.hb hby at_178) (fun _ _ => ⟨rfl, e57, (by decide : 38 + 0 ≤ _), (by decide : 84 + 0 ≤ _)⟩)
    dsimp only [Pt.U, Pt.locs, Pt.cells, Pt.slots] at X62 l62 y62 z62 st62 hQ62
    subst l62 y62 z62
    obtain ⟨rfl, N62q, e62⟩ := hQ62
    have N62 := Fr.app N57 N62q
    have K63 : ∀ t, Steps p.tables e below (T62.setTop (mkF m 181 #[.val (.long q1), .second, .val (.int p2), .val (.int p3), .val (.int p4), .val (.int p5), .val (.int p6), .val d2, .val d5, .val (.ref b8_x1), .val (.ref b11_x1), .val (.ref b14_x1), .val (.ref b17_x1), .val d20, .val d23, .val d26, .val d29, .val (.ref b32), .val (.ref b38_x1)] [d23])) t → Steps p.tables e below (T57.setTop (mkF m 178 #[.val (.long q1), .second, .val (.int p2), .val (.int p3), .val (.int p4), .val (.int p5), .val (.int p6), .val d2, .val d5, .val (.ref b8_x1), .val (.ref b11_x1), .val (.ref b14_x1), .val (.ref b17_x1), .val d20, .val d23, .val d26, .val d29, .val (.ref b32), .val (.ref b38_x1)] [(.ref b38_x1)])) t := fun t k => st62.trans k
    have K64 : ∀ t, Steps p.tables e below (T62.setTop (mkF m 183 #[.val (.long q1), .second, .val (.int p2), .val (.int p3), .val (.int p4), .val (.int p5), .val (.int p6), .val d2, .val d5, .val (.ref b8_x1), .val (.ref b11_x1), .val (.ref b14_x1), .val (.ref b17_x1), .val d20, .val d23, .val d26, .val d29, .val (.ref b32), .val (.ref b38_x1)] [d23, d23])) t → Steps p.tables e below (T62.setTop (mkF m 181 #[.val (.long q1), .second, .val (.int p2), .val (.int p3), .val (.int p4), .val (.int p5), .val (.int p6), .val d2, .val d5, .val (.ref b8_x1), .val (.ref b11_x1), .val (.ref b14_x1), .val (.ref b17_x1), .val d20, .val d23, .val d26, .val d29, .val (.ref b32), .val (.ref b38_x1)] [d23])) t := by
      intro t k
      refine XS.aload X62.here hx rfl (Jvm.hb hby at_181) rfl hr_d23 ?_
      show Steps p.tables e below (T62.setTop (mkF m 183 #[.val (.long q1), .second, .val (.int p2), .val (.int p3), .val (.int p4), .val (.int p5), .val (.int p6), .val d2, .val d5, .val (.ref b8_x1), .val (.ref b11_x1), .val (.ref b14_x1), .val (.ref b17_x1), .val d20, .val d23, .val d26, .val d29, .val (.ref b32), .val (.ref b38_x1)] [d23, d23])) t
      exact k
    have K65 : ∀ t, Steps p.tables e below (T62.setTop (mkF m 186 #[.val (.long q1), .second, .val (.int p2), .val (.int p3), .val (.int p4), .val (.int p5), .val (.int p6), .val d2, .val d5, .val (.ref b8_x1), .val (.ref b11_x1), .val (.ref b14_x1), .val (.ref b17_x1), .val d20, .val d23, .val d26, .val d29, .val (.ref b32), .val (.ref b38_x1)] [])) t → Steps p.tables e below (T62.setTop (mkF m 183 #[.val (.long q1), .second, .val (.int p2), .val (.int p3), .val (.int p4), .val (.int p5), .val (.int p6), .val d2, .val d5, .val (.ref b8_x1), .val (.ref b11_x1), .val (.ref b14_x1), .val (.ref b17_x1), .val d20, .val d23, .val d26, .val d29, .val (.ref b32), .val (.ref b38_x1)] [d23, d23])) t := by
      intro t k
      refine Jvm.RoadKit.acmp (g := (mkF m 183 #[.val (.long q1), .second, .val (.int p2), .val (.int p3), .val (.int p4), .val (.int p5), .val (.int p6), .val d2, .val d5, .val (.ref b8_x1), .val (.ref b11_x1), .val (.ref b14_x1), .val (.ref b17_x1), .val d20, .val d23, .val d26, .val d29, .val (.ref b32), .val (.ref b38_x1)] [d23, d23])) X62 hx rfl hr_d23 hr_d23 (pc0 := 183) (pc' := 186) (same := true) rfl (Jvm.hb hby at_183) rfl (decide_eq_true rfl) (by decide) (by decide) ?_
      exact k
    have K66 : ∀ t, Steps p.tables e below (T62.setTop (mkF m 188 #[.val (.long q1), .second, .val (.int p2), .val (.int p3), .val (.int p4), .val (.int p5), .val (.int p6), .val d2, .val d5, .val (.ref b8_x1), .val (.ref b11_x1), .val (.ref b14_x1), .val (.ref b17_x1), .val d20, .val d23, .val d26, .val d29, .val (.ref b32), .val (.ref b38_x1)] [(.ref b38_x1)])) t → Steps p.tables e below (T62.setTop (mkF m 186 #[.val (.long q1), .second, .val (.int p2), .val (.int p3), .val (.int p4), .val (.int p5), .val (.int p6), .val d2, .val d5, .val (.ref b8_x1), .val (.ref b11_x1), .val (.ref b14_x1), .val (.ref b17_x1), .val d20, .val d23, .val d26, .val d29, .val (.ref b32), .val (.ref b38_x1)] [])) t := by
      intro t k
      refine XS.aload X62.here hx rfl (Jvm.hb hby at_186) rfl rfl ?_
      show Steps p.tables e below (T62.setTop (mkF m 188 #[.val (.long q1), .second, .val (.int p2), .val (.int p3), .val (.int p4), .val (.int p5), .val (.int p6), .val d2, .val d5, .val (.ref b8_x1), .val (.ref b11_x1), .val (.ref b14_x1), .val (.ref b17_x1), .val d20, .val d23, .val d26, .val d29, .val (.ref b32), .val (.ref b38_x1)] [(.ref b38_x1)])) t
      exact k
    obtain ⟨cq67, kq67, q67a, q67b, q67c⟩ := isOf hZ e62 R38_0
    obtain ⟨_, _, ⟨T67, L67, k67, n67⟩, -, X67, ⟨Lc67, hQ67, l67, y67, z67⟩, st67⟩ := X62.virtualBack hx (y := (⟨"com/example/millrace/millrace/api/SinkRecord", "value", "()Ljava/lang/Object;"⟩ : MethodName)) (z := (⟨"com/example/millrace/millrace/api/SinkRecord", "value", "()Ljava/lang/Object;"⟩ : MethodName)) hown (mvT hZ (hw _ (List.mem_of_getElem? (i := 102) rfl))) (mvT hZ (hw _ (List.mem_of_getElem? (i := 103) rfl))) (notFace_of_selects (args := #[]) (mvT hZ (hw _ (List.mem_of_getElem? (i := 105) rfl)))) (mvT hZ (hw _ (List.mem_of_getElem? (i := 105) rfl))) (mvT hZ (hw _ (List.mem_of_getElem? (i := 104) rfl))) (by decide) (backOf (W := 0) (rm18 l Z a0 hw [] b38_x1 d29 h38 n0 (Nat.le_trans Z0 KP38.1) hr_d29 R38_6) hZ (hw _ (List.mem_of_getElem? (i := 106) rfl)) (hw _ (List.mem_of_getElem? (i := 48) rfl)) (by decide) (by decide)) q67a q67c (g := (mkF m 188 #[.val (.long q1), .second, .val (.int p2), .val (.int p3), .val (.int p4), .val (.int p5), .val (.int p6), .val d2, .val d5, .val (.ref b8_x1), .val (.ref b11_x1), .val (.ref b14_x1), .val (.ref b17_x1), .val d20, .val d23, .val d26, .val d29, .val (.ref b32), .val (.ref b38_x1)] [(.ref b38_x1)])) rfl (by rw [hml]; rfl) (Steps.refl _) (argsL := []) (rest := []) (lenOf pd_14 rfl) rfl (by show 2 * 0 + _ ≤ _; exact Nat.le_of_eq rfl) (Jvm.hb hby at_188) (fun _ _ => ⟨rfl, e62, (by decide : 38 + 0 ≤ _), (by decide : 84 + 0 ≤ _)⟩)
    dsimp only [Pt.U, Pt.locs, Pt.cells, Pt.slots] at X67 l67 y67 z67 st67 hQ67
    subst l67 y67 z67
    obtain ⟨rfl, N67q, e67⟩ := hQ67
    have N67 := Fr.app N62 N67q
    have K68 : ∀ t, Steps p.tables e below (T67.setTop (mkF m 191 #[.val (.long q1), .second, .val (.int p2), .val (.int p3), .val (.int p4), .val (.int p5), .val (.int p6), .val d2, .val d5, .val (.ref b8_x1), .val (.ref b11_x1), .val (.ref b14_x1), .val (.ref b17_x1), .val d20, .val d23, .val d26, .val d29, .val (.ref b32), .val (.ref b38_x1)] [d29])) t → Steps p.tables e below (T62.setTop (mkF m 188 #[.val (.long q1), .second, .val (.int p2), .val (.int p3), .val (.int p4), .val (.int p5), .val (.int p6), .val d2, .val d5, .val (.ref b8_x1), .val (.ref b11_x1), .val (.ref b14_x1), .val (.ref b17_x1), .val d20, .val d23, .val d26, .val d29, .val (.ref b32), .val (.ref b38_x1)] [(.ref b38_x1)])) t := fun t k => st67.trans k
    have K69 : ∀ t, Steps p.tables e below (T67.setTop (mkF m 193 #[.val (.long q1), .second, .val (.int p2), .val (.int p3), .val (.int p4), .val (.int p5), .val (.int p6), .val d2, .val d5, .val (.ref b8_x1), .val (.ref b11_x1), .val (.ref b14_x1), .val (.ref b17_x1), .val d20, .val d23, .val d26, .val d29, .val (.ref b32), .val (.ref b38_x1)] [d29, d29])) t → Steps p.tables e below (T67.setTop (mkF m 191 #[.val (.long q1), .second, .val (.int p2), .val (.int p3), .val (.int p4), .val (.int p5), .val (.int p6), .val d2, .val d5, .val (.ref b8_x1), .val (.ref b11_x1), .val (.ref b14_x1), .val (.ref b17_x1), .val d20, .val d23, .val d26, .val d29, .val (.ref b32), .val (.ref b38_x1)] [d29])) t := by
      intro t k
      refine XS.aload X67.here hx rfl (Jvm.hb hby at_191) rfl hr_d29 ?_
      show Steps p.tables e below (T67.setTop (mkF m 193 #[.val (.long q1), .second, .val (.int p2), .val (.int p3), .val (.int p4), .val (.int p5), .val (.int p6), .val d2, .val d5, .val (.ref b8_x1), .val (.ref b11_x1), .val (.ref b14_x1), .val (.ref b17_x1), .val d20, .val d23, .val d26, .val d29, .val (.ref b32), .val (.ref b38_x1)] [d29, d29])) t
      exact k
    have K70 : ∀ t, Steps p.tables e below (T67.setTop (mkF m 196 #[.val (.long q1), .second, .val (.int p2), .val (.int p3), .val (.int p4), .val (.int p5), .val (.int p6), .val d2, .val d5, .val (.ref b8_x1), .val (.ref b11_x1), .val (.ref b14_x1), .val (.ref b17_x1), .val d20, .val d23, .val d26, .val d29, .val (.ref b32), .val (.ref b38_x1)] [])) t → Steps p.tables e below (T67.setTop (mkF m 193 #[.val (.long q1), .second, .val (.int p2), .val (.int p3), .val (.int p4), .val (.int p5), .val (.int p6), .val d2, .val d5, .val (.ref b8_x1), .val (.ref b11_x1), .val (.ref b14_x1), .val (.ref b17_x1), .val d20, .val d23, .val d26, .val d29, .val (.ref b32), .val (.ref b38_x1)] [d29, d29])) t := by
      intro t k
      refine Jvm.RoadKit.acmp (g := (mkF m 193 #[.val (.long q1), .second, .val (.int p2), .val (.int p3), .val (.int p4), .val (.int p5), .val (.int p6), .val d2, .val d5, .val (.ref b8_x1), .val (.ref b11_x1), .val (.ref b14_x1), .val (.ref b17_x1), .val d20, .val d23, .val d26, .val d29, .val (.ref b32), .val (.ref b38_x1)] [d29, d29])) X67 hx rfl hr_d29 hr_d29 (pc0 := 193) (pc' := 196) (same := true) rfl (Jvm.hb hby at_193) rfl (decide_eq_true rfl) (by decide) (by decide) ?_
      exact k
    have K71 : ∀ t, Steps p.tables e below (T67.setTop (mkF m 201 #[.val (.long q1), .second, .val (.int p2), .val (.int p3), .val (.int p4), .val (.int p5), .val (.int p6), .val d2, .val d5, .val (.ref b8_x1), .val (.ref b11_x1), .val (.ref b14_x1), .val (.ref b17_x1), .val d20, .val d23, .val d26, .val d29, .val (.ref b32), .val (.ref b38_x1)] [(.int (1 : Int32))])) t → Steps p.tables e below (T67.setTop (mkF m 196 #[.val (.long q1), .second, .val (.int p2), .val (.int p3), .val (.int p4), .val (.int p5), .val (.int p6), .val d2, .val d5, .val (.ref b8_x1), .val (.ref b11_x1), .val (.ref b14_x1), .val (.ref b17_x1), .val d20, .val d23, .val d26, .val d29, .val (.ref b32), .val (.ref b38_x1)] [])) t := by
      intro t k
      refine XS.iconst X67.here hx rfl (Jvm.hb hby at_196) ?_
      show Steps p.tables e below (T67.setTop (mkF m 197 #[.val (.long q1), .second, .val (.int p2), .val (.int p3), .val (.int p4), .val (.int p5), .val (.int p6), .val d2, .val d5, .val (.ref b8_x1), .val (.ref b11_x1), .val (.ref b14_x1), .val (.ref b17_x1), .val d20, .val d23, .val d26, .val d29, .val (.ref b32), .val (.ref b38_x1)] [(.int (1 : Int32))])) t
      refine XS.goto X67.here hx rfl (pc0 := 197) (pc' := 201) rfl (Jvm.hb hby at_197) (by decide) (by decide) ?_
      show Steps p.tables e below (T67.setTop (mkF m 201 #[.val (.long q1), .second, .val (.int p2), .val (.int p3), .val (.int p4), .val (.int p5), .val (.int p6), .val d2, .val d5, .val (.ref b8_x1), .val (.ref b11_x1), .val (.ref b14_x1), .val (.ref b17_x1), .val d20, .val d23, .val d26, .val d29, .val (.ref b32), .val (.ref b38_x1)] [(.int (1 : Int32))])) t
      exact k
    obtain ⟨fs, hr, hrun, hended, hRW⟩ := X67.leaveW hS (show _ ≤ T67.heap.size from (by rw [e67]; exact SK38)) (v := some (.int (1 : Int32))) (fun h => by rw [Bd.returns] at h; cases h) Bd.notSynchronized
    refine ⟨_, _, pre0 _ (K1 _ (K3 _ (K4 _ (K6 _ (K7 _ (K9 _ (K10 _ (K12 _ (K13 _ (K15 _ (K16 _ (K18 _ (K19 _ (K21 _ (K22 _ (K24 _ (K25 _ (K27 _ (K28 _ (K30 _ (K31 _ (K33 _ (K34 _ (K36 _ (K37 _ (K39 _ (K40 _ (K42 _ (K43 _ (K44 _ (K45 _ (K47 _ (K48 _ (K50 _ (K51 _ (K53 _ (K54 _ (K55 _ (K56 _ (K58 _ (K59 _ (K60 _ (K61 _ (K63 _ (K64 _ (K65 _ (K66 _ (K68 _ (K69 _ (K70 _ (K71 _ (retN X67 hx (t := .boolean) Bd.returns (by simp) (Jvm.hb hby at_201) hr)))))))))))))))))))))))))))))))))))))))))))))))))))), hrun, hended, _, _, rfl, ?_, hRW.1, hRW.2.1, hRW.2.2.1, hRW.2.2.2.mono (by decide) (by decide)⟩
    show Q0 Z q1 p2 p3 p4 p5 p6 w_STRING w_OPTIONAL_STRING w_COMPACT_STRINGS w_high w_cache h0 n0 _ T67.heap _
    rw [e67]
    exact ⟨congrArg (fun z => some (Value.int z)) (show (1 : Int32) = f0 q1 from Eq.symm (if_pos hc49)), N67, KP38⟩
  · have K72 : ∀ t, Steps p.tables e below (T46.setTop (mkF m 200 #[.val (.long q1), .second, .val (.int p2), .val (.int p3), .val (.int p4), .val (.int p5), .val (.int p6), .val d2, .val d5, .val (.ref b8_x1), .val (.ref b11_x1), .val (.ref b14_x1), .val (.ref b17_x1), .val d20, .val d23, .val d26, .val d29, .val (.ref b32), .val (.ref b38_x1)] [])) t → Steps p.tables e below (T46.setTop (mkF m 153 #[.val (.long q1), .second, .val (.int p2), .val (.int p3), .val (.int p4), .val (.int p5), .val (.int p6), .val d2, .val d5, .val (.ref b8_x1), .val (.ref b11_x1), .val (.ref b14_x1), .val (.ref b17_x1), .val d20, .val d23, .val d26, .val d29, .val (.ref b32), .val (.ref b38_x1)] [(.int (own_cmp q1 q1))])) t := by
      intro t k
      refine XS.ifYes X46.here hx rfl (pc0 := 153) (pc' := 200) rfl (Jvm.hb hby at_153) rfl ((if0 _ _).trans (feq hc49).2) (by decide) (by decide) ?_
      exact k
    have K73 : ∀ t, Steps p.tables e below (T46.setTop (mkF m 201 #[.val (.long q1), .second, .val (.int p2), .val (.int p3), .val (.int p4), .val (.int p5), .val (.int p6), .val d2, .val d5, .val (.ref b8_x1), .val (.ref b11_x1), .val (.ref b14_x1), .val (.ref b17_x1), .val d20, .val d23, .val d26, .val d29, .val (.ref b32), .val (.ref b38_x1)] [(.int (0 : Int32))])) t → Steps p.tables e below (T46.setTop (mkF m 200 #[.val (.long q1), .second, .val (.int p2), .val (.int p3), .val (.int p4), .val (.int p5), .val (.int p6), .val d2, .val d5, .val (.ref b8_x1), .val (.ref b11_x1), .val (.ref b14_x1), .val (.ref b17_x1), .val d20, .val d23, .val d26, .val d29, .val (.ref b32), .val (.ref b38_x1)] [])) t := by
      intro t k
      refine XS.iconst X46.here hx rfl (Jvm.hb hby at_200) ?_
      show Steps p.tables e below (T46.setTop (mkF m 201 #[.val (.long q1), .second, .val (.int p2), .val (.int p3), .val (.int p4), .val (.int p5), .val (.int p6), .val d2, .val d5, .val (.ref b8_x1), .val (.ref b11_x1), .val (.ref b14_x1), .val (.ref b17_x1), .val d20, .val d23, .val d26, .val d29, .val (.ref b32), .val (.ref b38_x1)] [(.int (0 : Int32))])) t
      exact k
    obtain ⟨fs, hr, hrun, hended, hRW⟩ := X46.leaveW hS (show _ ≤ T46.heap.size from (by rw [e46]; exact SK38)) (v := some (.int (0 : Int32))) (fun h => by rw [Bd.returns] at h; cases h) Bd.notSynchronized
    refine ⟨_, _, pre0 _ (K1 _ (K3 _ (K4 _ (K6 _ (K7 _ (K9 _ (K10 _ (K12 _ (K13 _ (K15 _ (K16 _ (K18 _ (K19 _ (K21 _ (K22 _ (K24 _ (K25 _ (K27 _ (K28 _ (K30 _ (K31 _ (K33 _ (K34 _ (K36 _ (K37 _ (K39 _ (K40 _ (K42 _ (K43 _ (K44 _ (K45 _ (K47 _ (K48 _ (K72 _ (K73 _ (retN X46 hx (t := .boolean) Bd.returns (by simp) (Jvm.hb hby at_201) hr)))))))))))))))))))))))))))))))))))), hrun, hended, _, _, rfl, ?_, hRW.1, hRW.2.1, hRW.2.2.1, hRW.2.2.2.mono (by decide) (by decide)⟩
    show Q0 Z q1 p2 p3 p4 p5 p6 w_STRING w_OPTIONAL_STRING w_COMPACT_STRINGS w_high w_cache h0 n0 _ T46.heap _
    rw [e46]
    exact ⟨congrArg (fun z => some (Value.int z)) (show (0 : Int32) = f0 q1 from Eq.symm (if_neg hc49)), N46, KP38⟩
theorem plain (q : Int64) : f0 q = 1 := if_pos ((own_eq0 q q).mpr rfl)
set_option maxRecDepth 65536 in
set_option maxHeartbeats 40000000 in
theorem comes_1 {Post : Tables → Env → Array Value → State → Outcome → State → Prop} (hpost : ∀ tb e args s v u, (limb_1_1.after args s (.returned v) u = true ∧ limb_1_2.after args s (.returned v) u = true ∧ True) → ReturnedEndW s (.returned v) u (Jvm.fieldLocs frame_1_writes args s ++ Jvm.arrayLocs frame_1_arrays args s ++ Jvm.staticLocs frame_1_statics s) 56 1280 → Post tb e args s (.returned v) u) :
    ArmFor flags0 classFile x code maxLocals ret World_1 tables_1 room_1 Calls_1 rest_1 Pre_1 Post := by
  intro l hfl _ _ p e ha hc hk s m args below hf hA hF happ hP
  obtain ⟨hcalls, hrest, hpre⟩ := hP
  obtain ⟨-, -, -, hnamed, -, -, -, hat⟩ := (Spec.applies_iff hf).mp happ
  obtain ⟨hg, hn⟩ := and_e (Cond.before_iff.mp (show (Jvm.Cond.and given_1 narrow_1).before args s = true from hpre))
  obtain ⟨gc, g0⟩ := and_e hg
  obtain ⟨gi0, g1⟩ := and_e g0
  obtain ⟨gi1, g2⟩ := and_e g1
  obtain ⟨gi2, g3⟩ := and_e g2
  obtain ⟨gi3, g4⟩ := and_e g3
  obtain ⟨gi4, g5⟩ := and_e g4
  have gi5 := g5
  obtain ⟨w0, w1, w2, w3, w4, w5, rfl⟩ : ∃ w0 w1 w2 w3 w4 w5 : Value, args = #[w0, w1, w2, w3, w4, w5] := by
    have hs : args.size = 6 := by simpa [Cond.value, given_1] using gc
    obtain ⟨L⟩ := args
    match L, hs with
    | [w0, w1, w2, w3, w4, w5], _ => exact ⟨w0, w1, w2, w3, w4, w5, rfl⟩
  have hw := fun d (hd : d ∈ tables_1) => atoms_spec (ws := Jvm.Cond.code x code maxLocals ret :: tables_1) hat d (List.mem_cons_of_mem _ hd)
  have hfit : Fit s := fun {y c} hc i hi => by
    obtain ⟨ha, rfl⟩ := Array.getElem?_eq_some_iff.mp hc
    have q := List.all_eq_true.mp ((Array.all_eq_true_iff_forall_mem.mp hF) _ (Array.getElem_mem ha)) i (List.mem_range.mpr hi)
    simpa [Array.getElem?_eq_getElem hi] using q
  obtain ⟨i0, ei0⟩ := isL_v gi0
  obtain rfl : w0 = (.long i0) := Option.some.inj ei0
  obtain ⟨i1, ei1⟩ := is_v gi1
  obtain rfl : w1 = (.int i1) := Option.some.inj ei1
  obtain ⟨i2, ei2⟩ := is_v gi2
  obtain rfl : w2 = (.int i2) := Option.some.inj ei2
  obtain ⟨i3, ei3⟩ := is_v gi3
  obtain rfl : w3 = (.int i3) := Option.some.inj ei3
  obtain ⟨i4, ei4⟩ := is_v gi4
  obtain rfl : w4 = (.int i4) := Option.some.inj ei4
  obtain ⟨i5, ei5⟩ := is_v gi5
  obtain rfl : w5 = (.int i5) := Option.some.inj ei5
  obtain ⟨hm0, hn0⟩ := and_e hn
  obtain ⟨w_STRING, ev_STRING⟩ := exa_v hm0
  have E_w_STRING : Exa s s.heap w_STRING "com/example/millrace/millrace/api/Schema" := Exa.start ev_STRING hm0
  have S_STRING : Sta s s.heap "com/example/millrace/millrace/api/Schema" "STRING" "Lcom/example/millrace/millrace/api/Schema;" (.ref w_STRING) := Sta.start ev_STRING (Or.inr ⟨(hw _ (List.mem_of_getElem? (i := 41) rfl)), (hw _ (List.mem_of_getElem? (i := 42) rfl))⟩)
  obtain ⟨w_OPTIONAL_STRING, ev_OPTIONAL_STRING⟩ := exa_v hn0
  have E_w_OPTIONAL_STRING : Exa s s.heap w_OPTIONAL_STRING "com/example/millrace/millrace/api/Schema" := Exa.start ev_OPTIONAL_STRING hn0
  have S_OPTIONAL_STRING : Sta s s.heap "com/example/millrace/millrace/api/Schema" "OPTIONAL_STRING" "Lcom/example/millrace/millrace/api/Schema;" (.ref w_OPTIONAL_STRING) := Sta.start ev_OPTIONAL_STRING (Or.inr ⟨(hw _ (List.mem_of_getElem? (i := 41) rfl)), (hw _ (List.mem_of_getElem? (i := 108) rfl))⟩)
  obtain ⟨ra0, rb0⟩ := and_e (Cond.before_iff.mp (show rest_1_c.before _ s = true from hrest))
  obtain ⟨ra1, rb1⟩ := and_e rb0
  obtain ⟨ra2, rb2⟩ := and_e rb1
  obtain ⟨ra3, rb3⟩ := and_e rb2
  obtain ⟨ra4, rb4⟩ := and_e rb3
  obtain ⟨ra5, rb5⟩ := and_e rb4
  obtain ⟨ra6, rb6⟩ := and_e rb5
  obtain ⟨ra7, rb7⟩ := and_e rb6
  obtain ⟨ra8, rb8⟩ := and_e rb7
  obtain ⟨ra9, rb9⟩ := and_e rb8
  obtain ⟨ra10, rb10⟩ := and_e rb9
  obtain ⟨ra11, rb11⟩ := and_e rb10
  obtain ⟨ra12, rb12⟩ := and_e rb11
  obtain ⟨ra13, rb13⟩ := and_e rb12
  obtain ⟨ra14, rb14⟩ := and_e rb13
  obtain ⟨ra15, rb15⟩ := and_e rb14
  obtain ⟨ra16, rb16⟩ := and_e rb15
  obtain ⟨w_COMPACT_STRINGS, ev_COMPACT_STRINGS⟩ := is_v ra1
  have S_COMPACT_STRINGS : Sta s s.heap "java/lang/String" "COMPACT_STRINGS" "Z" (.int w_COMPACT_STRINGS) := Sta.start ev_COMPACT_STRINGS (Or.inl (Cond.before_iff.mpr ra0))
  have hcs : ¬ (w_COMPACT_STRINGS = 0) := own_nzs ev_COMPACT_STRINGS ra2
  have hcw : Jvm.Lit.compactW.before _ s = true := Cond.before_iff.mpr ra2
  obtain ⟨w_SIOOBE_FORMATTER, ev_SIOOBE_FORMATTER, hr_w_SIOOBE_FORMATTER⟩ := own_isref ra8
  have S_SIOOBE_FORMATTER : Sta s s.heap "jdk/internal/util/Preconditions" "SIOOBE_FORMATTER" "Ljava/util/function/BiFunction;" w_SIOOBE_FORMATTER := Sta.start ev_SIOOBE_FORMATTER (Or.inl (Cond.before_iff.mpr ra7))
  obtain ⟨w_high, ev_high, hv_high⟩ := own_eqs ra12
  have S_high : Sta s s.heap "java/lang/Integer$IntegerCache" "high" "I" (.int w_high) := Sta.start ev_high (Or.inl (Cond.before_iff.mpr ra10))
  obtain ⟨w_cache, ev_cache⟩ := arr_v ra13
  have S_cache : Sta s s.heap "java/lang/Integer$IntegerCache" "cache" "[Ljava/lang/Integer;" (.ref w_cache) := Sta.start ev_cache (Or.inr ⟨(hw _ (List.mem_of_getElem? (i := 129) rfl)), Cond.before_iff.mpr ra11⟩)
  have Ra_w_cache := own_ra hfit ev_cache ra13 ra15
  obtain ⟨n, o, h1, h2, h3, v, L, rfl, ⟨hv, N, -⟩, hq⟩ := rm0 l s _ hw tables_1 i0 i1 i2 i3 i4 i5 w_STRING w_OPTIONAL_STRING w_COMPACT_STRINGS w_high w_cache s.heap s.heap.size (Nat.le_refl _) S_STRING S_OPTIONAL_STRING S_COMPACT_STRINGS hcs S_high S_cache Ra_w_cache hv_high p e ha hc hk s m _ below hf ((Spec.applies_iff_loose hf).mp happ).1 ⟨rfl, State.Warmed39.refl s, rfl, CHv.start (ew0 hw) hcalls.1 hcw (hw _ (List.mem_of_getElem? (i := 26) rfl)) (hw _ (List.mem_of_getElem? (i := 8) rfl))⟩ trivial
  rw [plain i0] at hv
  subst hv
  refine ⟨n, _, h1, h2, h3, hpost _ _ _ _ _ _ ⟨Cond.after_iff.mpr rfl, Cond.after_iff.mpr (eq_i res_at (Term.int_eval (1)) rfl), trivial⟩ ⟨hq.1, hq.2.1, hq.2.2.1, (hq.2.2.2.sift fun y hy => Or.inr (N y hy)).mono (by decide) (by decide)⟩⟩
theorem main_1_1 : Claimed_1_1 := comes_1 fun _ _ _ _ _ _ h hF => ⟨h.1, hF⟩
theorem main_1_2 : Claimed_1_2 := comes_1 fun _ _ _ _ _ _ h hF => ⟨h.2.1, hF⟩
end Jvm.Pilot.@@N@@
namespace Jvm.Pilot.@@N@@
open Jvm Jvm.ClassFile Sem Op Lib Jvm.Free Jvm.Stand Jvm.Pilot.@@N@@.Jvm.D
/-! MADE BY PROGRAM (witnessworld.py) out of the Statement's table words and the real class files: 27 classes; the members and pool entries that the words name. The judged class is class 1, her method 4. -/
namespace start1
open Jvm.ClassFile
def u (s : String) : CpInfo := .utf8 (stringToUtf16 s)
/-- a pool by its gaps: so many unusable entries, then the entry; so many at the end -/
def gap : Nat → List CpInfo → List CpInfo
  | 0, r => r
  | n + 1, r => .unusable :: gap n r
def poolList (es : List (Nat × CpInfo)) (last : Nat) : List CpInfo := es.foldr (fun e r => gap e.1 (e.2 :: r)) (gap last [])
def pool (es : List (Nat × CpInfo)) (last : Nat) : Array CpInfo := ⟨poolList es last⟩
def fileOf (pool : Array CpInfo) (this : Nat) (attrs : Array Attribute := #[]) (ms : Array MethodInfo := #[]) (fl : Nat := 33) (sup : Nat := 0) (ifs : Array Nat := #[]) (fds : Array FieldInfo := #[]) : ClassFile where
  minorVersion := 0
  majorVersion := 65
  constantPool := pool
  accessFlags := fl
  thisClass := this
  superClass := sup
  interfaces := ifs
  fields := fds
  methods := ms
  attributes := attrs
def plain (name : String) (sup : Option ClassId) : Class where
  name := name
  kind := .ordinary
  loader := none
  accessFlags := 33
  super := sup
  interfaces := #[]
  cf := none
  fields := #[]
  methods := #[]
  instanceTypes := #[]
  staticTypes := #[]
  resolved := #[]
  callSites := []
  init := .initialized
  statics := none
  mirror := none

def pool0 : Array CpInfo := pool [(5, u "<init>"), (0, u "()V"), (1, .class_ 10), (1, u "java/lang/Object")] 113

def k0c0 : Code := { maxStack := 0, maxLocals := 1, code := object_method_1_code, exceptionTable := #[], attributes := #[] }
def k0m0 : Method := { name := "<init>", desc := "()V", sig := { parameters := [], returnType := none }, accessFlags := 1, code := some k0c0 }
/-- java/lang/Object -/
def k0 : Class := { plain "java/lang/Object" none with
  accessFlags := 33
  interfaces := #[]
  cf := some (fileOf pool0 8 #[] #[{ accessFlags := 1, nameIndex := 5, descriptorIndex := 6, attributes := #[] }] 33 0 #[] #[])
  fields := #[]
  methods := #[k0m0]
  instanceTypes := #[]
  staticTypes := #[]
  resolved := Array.replicate 124 none
  statics := none }

def pool1 : Array CpInfo := pool [(2, .class_ 4), (1, u "java/lang/Object"), (0, u "<init>"), (0, u "()V"), (0, .fieldref 8 9), (0, .class_ 10), (0, .nameAndType 11 12), (0, u "com/example/millrace/millrace/api/Schema"), (0, u "STRING"), (0, u "Lcom/example/millrace/millrace/api/Schema;"), (0, .fieldref 8 14), (0, .nameAndType 15 12), (0, u "OPTIONAL_STRING"), (0, .class_ 17), (0, u "java/lang/String"), (0, .methodref 16 19), (0, .nameAndType 5 20), (0, u "([C)V"), (0, .methodref 22 23), (0, .class_ 24), (0, .nameAndType 25 26), (0, u "com/example/millrace/millrace/api/SinkRecordWithDataPinLaw"), (0, u "text"), (0, u "(II)Ljava/lang/String;"), (0, .methodref 28 29), (0, .class_ 30), (0, .nameAndType 31 32), (0, u "java/lang/Integer"), (0, u "valueOf"), (0, u "(I)Ljava/lang/Integer;"), (0, .methodref 22 34), (0, .nameAndType 35 36), (0, u "schema"), (0, u "(I)Lcom/example/millrace/millrace/api/Schema;"), (0, .methodref 22 38), (0, .nameAndType 39 40), (0, u "data"), (0, u "(II)Ljava/lang/Object;"), (0, .class_ 42), (0, u "com/example/millrace/millrace/api/SinkRecord"), (0, .methodref 41 44), (0, .nameAndType 5 45), (0, u "(Ljava/lang/String;JLcom/example/millrace/millrace/api/Schema;Ljava/lang/Object;Lcom/example/millrace/millrace/api/Schema;Ljava/lang/Object;)V"), (0, .methodref 41 47), (0, .nameAndType 48 49), (0, u "withData"), (0, u "(Ljava/lang/String;Lcom/example/millrace/millrace/api/Schema;Ljava/lang/Object;Lcom/example/millrace/millrace/api/Schema;Ljava/lang/Object;)Lcom/example/millrace/millrace/api/SinkRecord;"), (0, .methodref 41 51), (0, .nameAndType 52 53), (0, u "topic"), (0, u "()Ljava/lang/String;"), (0, .methodref 41 55), (0, .nameAndType 56 57), (0, u "offset"), (0, u "()J"), (0, .methodref 41 59), (0, .nameAndType 60 61), (0, u "keySchema"), (0, u "()Lcom/example/millrace/millrace/api/Schema;"), (0, .methodref 41 63), (0, .nameAndType 64 65), (0, u "key"), (0, u "()Ljava/lang/Object;"), (0, .methodref 41 67), (0, .nameAndType 68 61), (0, u "valueSchema"), (0, .methodref 41 70), (0, .nameAndType 71 65), (0, u "value"), (3, u "law"), (0, u "(JIIIII)Z")] 2

def k1m0 : Method := { name := "<init>", desc := "()V", sig := { parameters := [], returnType := none }, accessFlags := 1, code := none }
def k1c1 : Code := { maxStack := 2, maxLocals := 2, code := method_2_code, exceptionTable := #[], attributes := #[] }
def k1m1 : Method := { name := "schema", desc := "(I)Lcom/example/millrace/millrace/api/Schema;", sig := { parameters := [.int], returnType := some (.object "com/example/millrace/millrace/api/Schema") }, accessFlags := 10, code := some k1c1 }
def k1c2 : Code := { maxStack := 6, maxLocals := 6, code := method_3_code, exceptionTable := #[], attributes := #[] }
def k1m2 : Method := { name := "text", desc := "(II)Ljava/lang/String;", sig := { parameters := [.int, .int], returnType := some (.object "java/lang/String") }, accessFlags := 10, code := some k1c2 }
def k1c3 : Code := { maxStack := 2, maxLocals := 3, code := method_4_code, exceptionTable := #[], attributes := #[] }
def k1m3 : Method := { name := "data", desc := "(II)Ljava/lang/Object;", sig := { parameters := [.int, .int], returnType := some (.object "java/lang/Object") }, accessFlags := 10, code := some k1c3 }
def k1c4 : Code := { maxStack := 9, maxLocals := 19, code := code, exceptionTable := #[], attributes := #[] }
def k1m4 : Method := { name := "law", desc := "(JIIIII)Z", sig := { parameters := [.long, .int, .int, .int, .int, .int], returnType := some .boolean }, accessFlags := 9, code := some k1c4 }
/-- com/example/millrace/millrace/api/SinkRecordWithDataPinLaw -/
def k1 : Class := { plain "com/example/millrace/millrace/api/SinkRecordWithDataPinLaw" (some 0) with
  accessFlags := 49
  interfaces := #[]
  cf := some (fileOf pool1 22 #[] #[{ accessFlags := 1, nameIndex := 5, descriptorIndex := 6, attributes := #[] }, { accessFlags := 10, nameIndex := 35, descriptorIndex := 36, attributes := #[] }, { accessFlags := 10, nameIndex := 25, descriptorIndex := 26, attributes := #[] }, { accessFlags := 10, nameIndex := 39, descriptorIndex := 40, attributes := #[] }, { accessFlags := 9, nameIndex := 75, descriptorIndex := 76, attributes := #[] }] 49 2 #[] #[])
  fields := #[]
  methods := #[k1m0, k1m1, k1m2, k1m3, k1m4]
  instanceTypes := #[]
  staticTypes := #[]
  resolved := Array.replicate 79 none
  statics := none }

def pool2 : Array CpInfo := pool [(1, .class_ 2), (0, u "java/io/Serializable"), (0, .class_ 4), (0, u "java/lang/Object")] 2

/-- java/io/Serializable -/
def k2 : Class := { plain "java/io/Serializable" (some 0) with
  accessFlags := 1537
  interfaces := #[]
  cf := some (fileOf pool2 1 #[] #[] 1537 3 #[] #[])
  fields := #[]
  methods := #[]
  instanceTypes := #[]
  staticTypes := #[]
  resolved := Array.replicate 7 none
  statics := none }

def pool3 : Array CpInfo := pool [(1, .class_ 2), (0, u "java/lang/Comparable"), (0, .class_ 4), (0, u "java/lang/Object")] 7

/-- java/lang/Comparable -/
def k3 : Class := { plain "java/lang/Comparable" (some 0) with
  accessFlags := 1537
  interfaces := #[]
  cf := some (fileOf pool3 1 #[] #[] 1537 3 #[] #[])
  fields := #[]
  methods := #[]
  instanceTypes := #[]
  staticTypes := #[]
  resolved := Array.replicate 12 none
  statics := none }

def pool4 : Array CpInfo := pool [(2, .class_ 4), (1, u "java/lang/CharSequence"), (42, .class_ 48), (0, u "java/lang/CharSequence$1CodePointIterator"), (10, .class_ 60), (0, u "java/lang/CharSequence$1CharIterator"), (5, .class_ 67), (0, u "java/lang/Object")] 63

/-- java/lang/CharSequence -/
def k4 : Class := { plain "java/lang/CharSequence" (some 0) with
  accessFlags := 1537
  interfaces := #[]
  cf := some (fileOf pool4 2 #[.nestMembers #[47, 59]] #[] 1537 66 #[] #[])
  fields := #[]
  methods := #[]
  instanceTypes := #[]
  staticTypes := #[]
  resolved := Array.replicate 131 none
  statics := none }

def pool5 : Array CpInfo := pool [(1, .class_ 2), (0, u "java/lang/constant/Constable"), (0, .class_ 4), (0, u "java/lang/Object")] 6

/-- java/lang/constant/Constable -/
def k5 : Class := { plain "java/lang/constant/Constable" (some 0) with
  accessFlags := 1537
  interfaces := #[]
  cf := some (fileOf pool5 1 #[] #[] 1537 3 #[] #[])
  fields := #[]
  methods := #[]
  instanceTypes := #[]
  staticTypes := #[]
  resolved := Array.replicate 11 none
  statics := none }

def pool6 : Array CpInfo := pool [(1, .class_ 2), (0, u "java/lang/constant/ConstantDesc"), (0, .class_ 4), (0, u "java/lang/Object")] 32

/-- java/lang/constant/ConstantDesc -/
def k6 : Class := { plain "java/lang/constant/ConstantDesc" (some 0) with
  accessFlags := 1537
  interfaces := #[]
  cf := some (fileOf pool6 1 #[] #[] 1537 3 #[] #[])
  fields := #[]
  methods := #[]
  instanceTypes := #[]
  staticTypes := #[]
  resolved := Array.replicate 37 none
  statics := none }

def pool7 : Array CpInfo := pool [(1, .methodref 2 3), (0, .class_ 4), (0, .nameAndType 5 6), (0, u "java/lang/Object"), (0, u "<init>"), (0, u "()V"), (0, .string 8), (0, u ""), (0, .fieldref 10 11), (0, .class_ 12), (0, .nameAndType 13 14), (0, u "java/lang/String"), (0, u "value"), (0, u "[B"), (0, .fieldref 10 16), (0, .nameAndType 17 18), (0, u "coder"), (0, u "B"), (2, u "hash"), (0, u "I"), (2, u "hashIsZero"), (0, u "Z"), (0, .methodref 10 28), (0, .nameAndType 5 29), (0, u "([CIILjava/lang/Void;)V"), (8, .fieldref 10 39), (0, .nameAndType 40 26), (0, u "COMPACT_STRINGS"), (1, .class_ 44), (1, u "java/lang/StringUTF16"), (0, u "compress"), (1, .methodref 42 48), (0, .nameAndType 49 50), (0, u "coderFromArrayLen"), (0, u "([BI)B"), (126, .methodref 42 178), (0, .nameAndType 45 179), (0, u "([CII)[B"), (395, .class_ 576), (0, u "java/lang/CharSequence"), (22, u "CASE_INSENSITIVE_ORDER"), (0, u "Ljava/util/Comparator;"), (409, u "([C)V"), (90, u "serialPersistentFields"), (0, u "[Ljava/io/ObjectStreamField;"), (0, .class_ 1104), (0, u "java/lang/String$CaseInsensitiveComparator"), (1, .class_ 1107), (0, u "java/io/Serializable"), (0, .class_ 1109), (0, u "java/lang/Comparable"), (0, .class_ 1111), (0, u "java/lang/constant/Constable"), (0, .class_ 1113), (0, u "java/lang/constant/ConstantDesc"), (2, u "serialVersionUID"), (0, u "J"), (3, u "REPL"), (0, u "C"), (2, u "LATIN1"), (1, u "UTF16")] 323

def k7m0 : Method := { name := "<init>", desc := "()V", sig := { parameters := [], returnType := none }, accessFlags := 1, code := none }
def k7c1 : Code := { maxStack := 5, maxLocals := 2, code := jdk_42_method_3_code, exceptionTable := #[], attributes := #[] }
def k7m1 : Method := { name := "<init>", desc := "([C)V", sig := { parameters := [(.array .char)], returnType := none }, accessFlags := 1, code := some k7c1 }
def k7c2 : Code := { maxStack := 4, maxLocals := 6, code := jdk_42_method_149_code, exceptionTable := #[], attributes := #[] }
def k7m2 : Method := { name := "<init>", desc := "([CIILjava/lang/Void;)V", sig := { parameters := [(.array .char), .int, .int, (.object "java/lang/Void")], returnType := none }, accessFlags := 2, code := some k7c2 }
/-- java/lang/String -/
def k7 : Class := { plain "java/lang/String" (some 0) with
  accessFlags := 49
  interfaces := #[2, 3, 4, 5, 6]
  cf := some (fileOf pool7 10 #[.nestMembers #[1103]] #[{ accessFlags := 1, nameIndex := 5, descriptorIndex := 6, attributes := #[] }, { accessFlags := 1, nameIndex := 5, descriptorIndex := 1010, attributes := #[] }, { accessFlags := 2, nameIndex := 5, descriptorIndex := 29, attributes := #[] }] 49 2 #[1106, 1108, 575, 1110, 1112] #[{ accessFlags := 18, nameIndex := 13, descriptorIndex := 14, attributes := #[] }, { accessFlags := 18, nameIndex := 17, descriptorIndex := 18, attributes := #[] }, { accessFlags := 2, nameIndex := 21, descriptorIndex := 22, attributes := #[] }, { accessFlags := 2, nameIndex := 25, descriptorIndex := 26, attributes := #[] }, { accessFlags := 26, nameIndex := 1116, descriptorIndex := 1117, attributes := #[] }, { accessFlags := 24, nameIndex := 40, descriptorIndex := 26, attributes := #[] }, { accessFlags := 26, nameIndex := 1101, descriptorIndex := 1102, attributes := #[] }, { accessFlags := 26, nameIndex := 1121, descriptorIndex := 1122, attributes := #[] }, { accessFlags := 25, nameIndex := 599, descriptorIndex := 600, attributes := #[] }, { accessFlags := 24, nameIndex := 1125, descriptorIndex := 18, attributes := #[] }, { accessFlags := 24, nameIndex := 1127, descriptorIndex := 18, attributes := #[] }])
  fields := #[{ name := "value", type := (.array .byte), accessFlags := 18, slot := 0, constantValue := 0 }, { name := "coder", type := .byte, accessFlags := 18, slot := 1, constantValue := 0 }, { name := "hash", type := .int, accessFlags := 2, slot := 2, constantValue := 0 }, { name := "hashIsZero", type := .boolean, accessFlags := 2, slot := 3, constantValue := 0 }, { name := "serialVersionUID", type := .long, accessFlags := 26, slot := 0, constantValue := 0 }, { name := "COMPACT_STRINGS", type := .boolean, accessFlags := 24, slot := 1, constantValue := 0 }, { name := "serialPersistentFields", type := (.array (.object "java/io/ObjectStreamField")), accessFlags := 26, slot := 2, constantValue := 0 }, { name := "REPL", type := .char, accessFlags := 26, slot := 3, constantValue := 0 }, { name := "CASE_INSENSITIVE_ORDER", type := (.object "java/util/Comparator"), accessFlags := 25, slot := 4, constantValue := 0 }, { name := "LATIN1", type := .byte, accessFlags := 24, slot := 5, constantValue := 0 }, { name := "UTF16", type := .byte, accessFlags := 24, slot := 6, constantValue := 0 }]
  methods := #[k7m0, k7m1, k7m2]
  instanceTypes := #[(.array .byte), .byte, .int, .boolean]
  staticTypes := #[.long, .boolean, (.array (.object "java/io/ObjectStreamField")), .char, (.object "java/util/Comparator"), .byte, .byte]
  resolved := Array.replicate 1451 none
  statics := some 0 }

def pool8 : Array CpInfo := pool [(6, .class_ 8), (1, u "java/lang/Object"), (0, u "<init>"), (0, u "()V"), (1, .class_ 14), (1, u "java/lang/StringUTF16"), (31, u "$assertionsDisabled"), (0, u "Z"), (13, u "HI_BYTE_SHIFT"), (0, u "I"), (2, u "LO_BYTE_SHIFT"), (49, .methodref 12 116), (0, .nameAndType 117 118), (0, u "compress"), (0, u "([CI[BII)I"), (3, u "([CII)[B"), (138, u "coderFromArrayLen"), (0, u "([BI)B"), (106, .class_ 371), (1, u "java/lang/StringUTF16$LinesSpliterator"), (58, u "MAX_LENGTH"), (196, .class_ 628), (0, u "java/lang/StringUTF16$CodePointsSpliterator"), (0, .class_ 630), (0, u "java/lang/StringUTF16$CharsSpliterator")] 4

def k8m0 : Method := { name := "<init>", desc := "()V", sig := { parameters := [], returnType := none }, accessFlags := 0, code := none }
def k8c1 : Code := { maxStack := 2, maxLocals := 2, code := jdk_52_method_15_code, exceptionTable := #[], attributes := #[] }
def k8m1 : Method := { name := "coderFromArrayLen", desc := "([BI)B", sig := { parameters := [(.array .byte), .int], returnType := some .byte }, accessFlags := 8, code := some k8c1 }
def k8c2 : Code := { maxStack := 5, maxLocals := 6, code := jdk_52_method_16_code, exceptionTable := #[], attributes := #[] }
def k8m2 : Method := { name := "compress", desc := "([CII)[B", sig := { parameters := [(.array .char), .int, .int], returnType := some (.array .byte) }, accessFlags := 9, code := some k8c2 }
def k8c3 : Code := { maxStack := 3, maxLocals := 7, code := jdk_52_method_21_code, exceptionTable := #[], attributes := #[] }
def k8m3 : Method := { name := "compress", desc := "([CI[BII)I", sig := { parameters := [(.array .char), .int, (.array .byte), .int, .int], returnType := some .int }, accessFlags := 9, code := some k8c3 }
/-- java/lang/StringUTF16 -/
def k8 : Class := { plain "java/lang/StringUTF16" (some 0) with
  accessFlags := 48
  interfaces := #[]
  cf := some (fileOf pool8 12 #[.nestMembers #[627, 629, 369]] #[{ accessFlags := 0, nameIndex := 9, descriptorIndex := 10, attributes := #[] }, { accessFlags := 8, nameIndex := 261, descriptorIndex := 262, attributes := #[] }, { accessFlags := 9, nameIndex := 117, descriptorIndex := 122, attributes := #[] }, { accessFlags := 9, nameIndex := 117, descriptorIndex := 118, attributes := #[] }] 48 6 #[] #[{ accessFlags := 26, nameIndex := 61, descriptorIndex := 62, attributes := #[] }, { accessFlags := 26, nameIndex := 65, descriptorIndex := 62, attributes := #[] }, { accessFlags := 24, nameIndex := 430, descriptorIndex := 62, attributes := #[] }, { accessFlags := 4120, nameIndex := 46, descriptorIndex := 47, attributes := #[] }])
  fields := #[{ name := "HI_BYTE_SHIFT", type := .int, accessFlags := 26, slot := 0, constantValue := 0 }, { name := "LO_BYTE_SHIFT", type := .int, accessFlags := 26, slot := 1, constantValue := 0 }, { name := "MAX_LENGTH", type := .int, accessFlags := 24, slot := 2, constantValue := 0 }, { name := "$assertionsDisabled", type := .boolean, accessFlags := 4120, slot := 3, constantValue := 0 }]
  methods := #[k8m0, k8m1, k8m2, k8m3]
  instanceTypes := #[]
  staticTypes := #[.int, .int, .int, .boolean]
  resolved := Array.replicate 635 none
  statics := none }

def pool9 : Array CpInfo := pool [(1, .methodref 2 3), (0, .class_ 4), (0, .nameAndType 5 6), (0, u "java/lang/Object"), (0, u "<init>"), (0, u "()V"), (0, .class_ 8), (0, u "java/lang/Record")] 13

def k9c0 : Code := { maxStack := 1, maxLocals := 1, code := jdk_30_method_1_code, exceptionTable := #[], attributes := #[] }
def k9m0 : Method := { name := "<init>", desc := "()V", sig := { parameters := [], returnType := none }, accessFlags := 4, code := some k9c0 }
/-- java/lang/Record -/
def k9 : Class := { plain "java/lang/Record" (some 0) with
  accessFlags := 1057
  interfaces := #[]
  cf := some (fileOf pool9 7 #[] #[{ accessFlags := 4, nameIndex := 5, descriptorIndex := 6, attributes := #[] }] 1057 2 #[] #[])
  fields := #[]
  methods := #[k9m0]
  instanceTypes := #[]
  staticTypes := #[]
  resolved := Array.replicate 22 none
  statics := none }

def pool10 : Array CpInfo := pool [(2, .class_ 4), (1, u "java/lang/Record"), (3, u "type"), (13, .class_ 24), (1, u "com/example/millrace/millrace/api/Schema$Type"), (1, u "Lcom/example/millrace/millrace/api/Schema$Type;"), (46, .class_ 75), (1, u "com/example/millrace/millrace/api/Schema"), (2, u "optional"), (0, u "Z"), (2, u "fields"), (0, u "Ljava/util/List;"), (86, u "STRING"), (6, u "Lcom/example/millrace/millrace/api/Schema;"), (2, u "OPTIONAL_STRING")] 78

/-- com/example/millrace/millrace/api/Schema -/
def k10 : Class := { plain "com/example/millrace/millrace/api/Schema" (some 9) with
  accessFlags := 49
  interfaces := #[]
  cf := some (fileOf pool10 73 #[.nestMembers #[22]] #[] 49 2 #[] #[{ accessFlags := 18, nameIndex := 8, descriptorIndex := 26, attributes := #[] }, { accessFlags := 18, nameIndex := 78, descriptorIndex := 79, attributes := #[] }, { accessFlags := 18, nameIndex := 82, descriptorIndex := 83, attributes := #[] }, { accessFlags := 25, nameIndex := 170, descriptorIndex := 177, attributes := #[] }, { accessFlags := 25, nameIndex := 180, descriptorIndex := 177, attributes := #[] }])
  fields := #[{ name := "type", type := (.object "com/example/millrace/millrace/api/Schema$Type"), accessFlags := 18, slot := 0, constantValue := 0 }, { name := "optional", type := .boolean, accessFlags := 18, slot := 1, constantValue := 0 }, { name := "fields", type := (.object "java/util/List"), accessFlags := 18, slot := 2, constantValue := 0 }, { name := "STRING", type := (.object "com/example/millrace/millrace/api/Schema"), accessFlags := 25, slot := 0, constantValue := 0 }, { name := "OPTIONAL_STRING", type := (.object "com/example/millrace/millrace/api/Schema"), accessFlags := 25, slot := 1, constantValue := 0 }]
  methods := #[]
  instanceTypes := #[(.object "com/example/millrace/millrace/api/Schema$Type"), .boolean, (.object "java/util/List")]
  staticTypes := #[(.object "com/example/millrace/millrace/api/Schema"), (.object "com/example/millrace/millrace/api/Schema")]
  resolved := Array.replicate 259 none
  statics := some 1 }

def pool11 : Array CpInfo := pool [(2, .class_ 4), (1, u "com/example/millrace/millrace/api/ConnectorRecord"), (20, .class_ 26), (0, u "java/lang/Object")] 13

/-- com/example/millrace/millrace/api/ConnectorRecord -/
def k11 : Class := { plain "com/example/millrace/millrace/api/ConnectorRecord" (some 0) with
  accessFlags := 1537
  interfaces := #[]
  cf := some (fileOf pool11 2 #[] #[] 1537 25 #[] #[])
  fields := #[]
  methods := #[]
  instanceTypes := #[]
  staticTypes := #[]
  resolved := Array.replicate 40 none
  statics := none }

def pool12 : Array CpInfo := pool [(1, .methodref 2 3), (0, .class_ 4), (0, .nameAndType 5 6), (0, u "java/lang/Record"), (0, u "<init>"), (0, u "()V"), (0, .fieldref 8 9), (0, .class_ 10), (0, .nameAndType 11 12), (0, u "com/example/millrace/millrace/api/SinkRecord"), (0, u "topic"), (0, u "Ljava/lang/String;"), (0, .fieldref 8 14), (0, .nameAndType 15 16), (0, u "offset"), (0, u "J"), (0, .fieldref 8 18), (0, .nameAndType 19 20), (0, u "keySchema"), (0, u "Lcom/example/millrace/millrace/api/Schema;"), (0, .fieldref 8 22), (0, .nameAndType 23 24), (0, u "key"), (0, u "Ljava/lang/Object;"), (0, .fieldref 8 26), (0, .nameAndType 27 20), (0, u "valueSchema"), (0, .fieldref 8 29), (0, .nameAndType 30 24), (0, u "value"), (0, .methodref 8 32), (0, .nameAndType 5 33), (0, u "(Ljava/lang/String;JLcom/example/millrace/millrace/api/Schema;Ljava/lang/Object;Lcom/example/millrace/millrace/api/Schema;Ljava/lang/Object;)V"), (2, u "withData"), (0, u "(Ljava/lang/String;Lcom/example/millrace/millrace/api/Schema;Ljava/lang/Object;Lcom/example/millrace/millrace/api/Schema;Ljava/lang/Object;)Lcom/example/millrace/millrace/api/SinkRecord;"), (12, .class_ 51), (0, u "com/example/millrace/millrace/api/ConnectorRecord"), (3, u "()Ljava/lang/String;"), (2, u "()J"), (0, u "()Lcom/example/millrace/millrace/api/Schema;"), (0, u "()Ljava/lang/Object;")] 28

def k12c0 : Code := { maxStack := 3, maxLocals := 8, code := prog_9_method_1_code, exceptionTable := #[], attributes := #[] }
def k12m0 : Method := { name := "<init>", desc := "(Ljava/lang/String;JLcom/example/millrace/millrace/api/Schema;Ljava/lang/Object;Lcom/example/millrace/millrace/api/Schema;Ljava/lang/Object;)V", sig := { parameters := [(.object "java/lang/String"), .long, (.object "com/example/millrace/millrace/api/Schema"), (.object "java/lang/Object"), (.object "com/example/millrace/millrace/api/Schema"), (.object "java/lang/Object")], returnType := none }, accessFlags := 1, code := some k12c0 }
def k12c1 : Code := { maxStack := 9, maxLocals := 6, code := prog_9_method_2_code, exceptionTable := #[], attributes := #[] }
def k12m1 : Method := { name := "withData", desc := "(Ljava/lang/String;Lcom/example/millrace/millrace/api/Schema;Ljava/lang/Object;Lcom/example/millrace/millrace/api/Schema;Ljava/lang/Object;)Lcom/example/millrace/millrace/api/SinkRecord;", sig := { parameters := [(.object "java/lang/String"), (.object "com/example/millrace/millrace/api/Schema"), (.object "java/lang/Object"), (.object "com/example/millrace/millrace/api/Schema"), (.object "java/lang/Object")], returnType := some (.object "com/example/millrace/millrace/api/SinkRecord") }, accessFlags := 1, code := some k12c1 }
def k12c2 : Code := { maxStack := 1, maxLocals := 1, code := prog_9_method_6_code, exceptionTable := #[], attributes := #[] }
def k12m2 : Method := { name := "topic", desc := "()Ljava/lang/String;", sig := { parameters := [], returnType := some (.object "java/lang/String") }, accessFlags := 1, code := some k12c2 }
def k12c3 : Code := { maxStack := 2, maxLocals := 1, code := prog_9_method_7_code, exceptionTable := #[], attributes := #[] }
def k12m3 : Method := { name := "offset", desc := "()J", sig := { parameters := [], returnType := some .long }, accessFlags := 1, code := some k12c3 }
def k12c4 : Code := { maxStack := 1, maxLocals := 1, code := prog_9_method_8_code, exceptionTable := #[], attributes := #[] }
def k12m4 : Method := { name := "keySchema", desc := "()Lcom/example/millrace/millrace/api/Schema;", sig := { parameters := [], returnType := some (.object "com/example/millrace/millrace/api/Schema") }, accessFlags := 1, code := some k12c4 }
def k12c5 : Code := { maxStack := 1, maxLocals := 1, code := prog_9_method_9_code, exceptionTable := #[], attributes := #[] }
def k12m5 : Method := { name := "key", desc := "()Ljava/lang/Object;", sig := { parameters := [], returnType := some (.object "java/lang/Object") }, accessFlags := 1, code := some k12c5 }
def k12c6 : Code := { maxStack := 1, maxLocals := 1, code := prog_9_method_10_code, exceptionTable := #[], attributes := #[] }
def k12m6 : Method := { name := "valueSchema", desc := "()Lcom/example/millrace/millrace/api/Schema;", sig := { parameters := [], returnType := some (.object "com/example/millrace/millrace/api/Schema") }, accessFlags := 1, code := some k12c6 }
def k12c7 : Code := { maxStack := 1, maxLocals := 1, code := prog_9_method_11_code, exceptionTable := #[], attributes := #[] }
def k12m7 : Method := { name := "value", desc := "()Ljava/lang/Object;", sig := { parameters := [], returnType := some (.object "java/lang/Object") }, accessFlags := 1, code := some k12c7 }
/-- com/example/millrace/millrace/api/SinkRecord -/
def k12 : Class := { plain "com/example/millrace/millrace/api/SinkRecord" (some 9) with
  accessFlags := 49
  interfaces := #[11]
  cf := some (fileOf pool12 8 #[] #[{ accessFlags := 1, nameIndex := 5, descriptorIndex := 33, attributes := #[] }, { accessFlags := 1, nameIndex := 36, descriptorIndex := 37, attributes := #[] }, { accessFlags := 1, nameIndex := 11, descriptorIndex := 55, attributes := #[] }, { accessFlags := 1, nameIndex := 15, descriptorIndex := 58, attributes := #[] }, { accessFlags := 1, nameIndex := 19, descriptorIndex := 59, attributes := #[] }, { accessFlags := 1, nameIndex := 23, descriptorIndex := 60, attributes := #[] }, { accessFlags := 1, nameIndex := 27, descriptorIndex := 59, attributes := #[] }, { accessFlags := 1, nameIndex := 30, descriptorIndex := 60, attributes := #[] }] 49 2 #[50] #[{ accessFlags := 18, nameIndex := 11, descriptorIndex := 12, attributes := #[] }, { accessFlags := 18, nameIndex := 15, descriptorIndex := 16, attributes := #[] }, { accessFlags := 18, nameIndex := 19, descriptorIndex := 20, attributes := #[] }, { accessFlags := 18, nameIndex := 23, descriptorIndex := 24, attributes := #[] }, { accessFlags := 18, nameIndex := 27, descriptorIndex := 20, attributes := #[] }, { accessFlags := 18, nameIndex := 30, descriptorIndex := 24, attributes := #[] }])
  fields := #[{ name := "topic", type := (.object "java/lang/String"), accessFlags := 18, slot := 0, constantValue := 0 }, { name := "offset", type := .long, accessFlags := 18, slot := 1, constantValue := 0 }, { name := "keySchema", type := (.object "com/example/millrace/millrace/api/Schema"), accessFlags := 18, slot := 2, constantValue := 0 }, { name := "key", type := (.object "java/lang/Object"), accessFlags := 18, slot := 3, constantValue := 0 }, { name := "valueSchema", type := (.object "com/example/millrace/millrace/api/Schema"), accessFlags := 18, slot := 4, constantValue := 0 }, { name := "value", type := (.object "java/lang/Object"), accessFlags := 18, slot := 5, constantValue := 0 }]
  methods := #[k12m0, k12m1, k12m2, k12m3, k12m4, k12m5, k12m6, k12m7]
  instanceTypes := #[(.object "java/lang/String"), .long, (.object "com/example/millrace/millrace/api/Schema"), (.object "java/lang/Object"), (.object "com/example/millrace/millrace/api/Schema"), (.object "java/lang/Object")]
  staticTypes := #[]
  resolved := Array.replicate 89 none
  statics := none }

def pool13 : Array CpInfo := pool [(1, .methodref 2 3), (0, .class_ 4), (0, .nameAndType 5 6), (0, u "java/lang/Object"), (0, u "<init>"), (0, u "()V"), (1, .class_ 10), (1, u "java/lang/Number"), (2, .class_ 14), (0, u "java/io/Serializable"), (0, u "serialVersionUID"), (0, u "J")] 20

def k13c0 : Code := { maxStack := 1, maxLocals := 1, code := jdk_18_method_1_code, exceptionTable := #[], attributes := #[] }
def k13m0 : Method := { name := "<init>", desc := "()V", sig := { parameters := [], returnType := none }, accessFlags := 1, code := some k13c0 }
/-- java/lang/Number -/
def k13 : Class := { plain "java/lang/Number" (some 0) with
  accessFlags := 1057
  interfaces := #[2]
  cf := some (fileOf pool13 8 #[] #[{ accessFlags := 1, nameIndex := 5, descriptorIndex := 6, attributes := #[] }] 1057 2 #[13] #[{ accessFlags := 26, nameIndex := 15, descriptorIndex := 16, attributes := #[] }])
  fields := #[{ name := "serialVersionUID", type := .long, accessFlags := 26, slot := 0, constantValue := 0 }]
  methods := #[k13m0]
  instanceTypes := #[]
  staticTypes := #[.long]
  resolved := Array.replicate 37 none
  statics := none }

def pool14 : Array CpInfo := pool [(1, .class_ 2), (0, u "java/lang/Integer"), (16, u "digits"), (0, u "[C"), (46, u "<init>"), (17, u "DigitOnes"), (0, u "[B"), (2, u "DigitTens"), (10, .nameAndType 67 101), (0, u "()V"), (85, u "valueOf"), (0, u "(I)Ljava/lang/Integer;"), (0, .class_ 190), (0, u "java/lang/Integer$IntegerCache"), (0, .fieldref 189 192), (0, .nameAndType 193 194), (0, u "high"), (0, u "I"), (0, .fieldref 189 196), (0, .nameAndType 197 198), (0, u "cache"), (0, u "[Ljava/lang/Integer;"), (0, .methodref 1 200), (0, .nameAndType 67 201), (0, u "(I)V"), (0, .methodref 203 100), (0, .class_ 204), (0, u "java/lang/Number"), (0, .fieldref 1 206), (0, .nameAndType 207 194), (0, u "value"), (94, u "TYPE"), (0, u "Ljava/lang/Class;"), (0, .class_ 305), (0, u "java/lang/Comparable"), (0, .class_ 307), (0, u "java/lang/constant/Constable"), (0, .class_ 309), (0, u "java/lang/constant/ConstantDesc"), (0, u "MIN_VALUE"), (1, u "MAX_VALUE"), (3, u "SIZE"), (1, u "BYTES"), (1, u "serialVersionUID"), (0, u "J")] 131

def k14c0 : Code := { maxStack := 3, maxLocals := 1, code := jdk_33_method_22_code, exceptionTable := #[], attributes := #[] }
def k14m0 : Method := { name := "valueOf", desc := "(I)Ljava/lang/Integer;", sig := { parameters := [.int], returnType := some (.object "java/lang/Integer") }, accessFlags := 9, code := some k14c0 }
def k14c1 : Code := { maxStack := 2, maxLocals := 2, code := jdk_33_method_23_code, exceptionTable := #[], attributes := #[] }
def k14m1 : Method := { name := "<init>", desc := "(I)V", sig := { parameters := [.int], returnType := none }, accessFlags := 1, code := some k14c1 }
/-- java/lang/Integer -/
def k14 : Class := { plain "java/lang/Integer" (some 13) with
  accessFlags := 49
  interfaces := #[3, 5, 6]
  cf := some (fileOf pool14 1 #[.nestMembers #[189]] #[{ accessFlags := 9, nameIndex := 187, descriptorIndex := 188, attributes := #[] }, { accessFlags := 1, nameIndex := 67, descriptorIndex := 201, attributes := #[] }] 49 203 #[304, 306, 308] #[{ accessFlags := 25, nameIndex := 310, descriptorIndex := 194, attributes := #[] }, { accessFlags := 25, nameIndex := 312, descriptorIndex := 194, attributes := #[] }, { accessFlags := 25, nameIndex := 302, descriptorIndex := 303, attributes := #[] }, { accessFlags := 24, nameIndex := 19, descriptorIndex := 20, attributes := #[] }, { accessFlags := 24, nameIndex := 89, descriptorIndex := 86, attributes := #[] }, { accessFlags := 24, nameIndex := 85, descriptorIndex := 86, attributes := #[] }, { accessFlags := 18, nameIndex := 207, descriptorIndex := 194, attributes := #[] }, { accessFlags := 25, nameIndex := 316, descriptorIndex := 194, attributes := #[] }, { accessFlags := 25, nameIndex := 318, descriptorIndex := 194, attributes := #[] }, { accessFlags := 26, nameIndex := 320, descriptorIndex := 321, attributes := #[] }])
  fields := #[{ name := "MIN_VALUE", type := .int, accessFlags := 25, slot := 0, constantValue := 0 }, { name := "MAX_VALUE", type := .int, accessFlags := 25, slot := 1, constantValue := 0 }, { name := "TYPE", type := (.object "java/lang/Class"), accessFlags := 25, slot := 2, constantValue := 0 }, { name := "digits", type := (.array .char), accessFlags := 24, slot := 3, constantValue := 0 }, { name := "DigitTens", type := (.array .byte), accessFlags := 24, slot := 4, constantValue := 0 }, { name := "DigitOnes", type := (.array .byte), accessFlags := 24, slot := 5, constantValue := 0 }, { name := "value", type := .int, accessFlags := 18, slot := 0, constantValue := 0 }, { name := "SIZE", type := .int, accessFlags := 25, slot := 6, constantValue := 0 }, { name := "BYTES", type := .int, accessFlags := 25, slot := 7, constantValue := 0 }, { name := "serialVersionUID", type := .long, accessFlags := 26, slot := 8, constantValue := 0 }]
  methods := #[k14m0, k14m1]
  instanceTypes := #[.int]
  staticTypes := #[.int, .int, (.object "java/lang/Class"), (.array .char), (.array .byte), (.array .byte), .int, .int, .long]
  resolved := Array.replicate 453 none
  statics := none }

def pool15 : Array CpInfo := pool [(2, .class_ 4), (1, u "java/lang/Object"), (0, u "<init>"), (0, u "()V"), (0, .class_ 8), (0, u "java/lang/Integer"), (7, .class_ 18), (1, u "java/lang/Integer$IntegerCache"), (0, u "$assertionsDisabled"), (0, u "Z"), (26, u "high"), (0, u "I"), (8, u "archivedCache"), (0, u "[Ljava/lang/Integer;"), (12, u "cache"), (0, u "low")] 27

def k15m0 : Method := { name := "<init>", desc := "()V", sig := { parameters := [], returnType := none }, accessFlags := 2, code := none }
/-- java/lang/Integer$IntegerCache -/
def k15 : Class := { plain "java/lang/Integer$IntegerCache" (some 0) with
  accessFlags := 48
  interfaces := #[]
  cf := some (fileOf pool15 16 #[.nestHost 7] #[{ accessFlags := 2, nameIndex := 5, descriptorIndex := 6, attributes := #[] }] 48 2 #[] #[{ accessFlags := 24, nameIndex := 72, descriptorIndex := 48, attributes := #[] }, { accessFlags := 24, nameIndex := 47, descriptorIndex := 48, attributes := #[] }, { accessFlags := 24, nameIndex := 71, descriptorIndex := 58, attributes := #[] }, { accessFlags := 8, nameIndex := 57, descriptorIndex := 58, attributes := #[] }, { accessFlags := 4120, nameIndex := 19, descriptorIndex := 20, attributes := #[] }])
  fields := #[{ name := "low", type := .int, accessFlags := 24, slot := 0, constantValue := 0 }, { name := "high", type := .int, accessFlags := 24, slot := 1, constantValue := 0 }, { name := "cache", type := (.array (.object "java/lang/Integer")), accessFlags := 24, slot := 2, constantValue := 0 }, { name := "archivedCache", type := (.array (.object "java/lang/Integer")), accessFlags := 8, slot := 3, constantValue := 0 }, { name := "$assertionsDisabled", type := .boolean, accessFlags := 4120, slot := 4, constantValue := 0 }]
  methods := #[k15m0]
  instanceTypes := #[]
  staticTypes := #[.int, .int, (.array (.object "java/lang/Integer")), (.array (.object "java/lang/Integer")), .boolean]
  resolved := Array.replicate 100 none
  statics := some 2 }

def pool16 : Array CpInfo := pool [(4, .class_ 6), (1, u "java/lang/Object"), (0, u "<init>"), (0, u "()V"), (5, .class_ 16), (1, u "java/lang/StringLatin1"), (104, u "$assertionsDisabled"), (0, u "Z"), (98, .class_ 223), (1, u "java/lang/StringLatin1$LinesSpliterator"), (166, .class_ 391), (0, u "java/lang/StringLatin1$CharsSpliterator")] 3

def k16m0 : Method := { name := "<init>", desc := "()V", sig := { parameters := [], returnType := none }, accessFlags := 0, code := none }
/-- java/lang/StringLatin1 -/
def k16 : Class := { plain "java/lang/StringLatin1" (some 0) with
  accessFlags := 48
  interfaces := #[]
  cf := some (fileOf pool16 14 #[.nestMembers #[390, 221]] #[{ accessFlags := 0, nameIndex := 7, descriptorIndex := 8, attributes := #[] }] 48 4 #[] #[{ accessFlags := 4120, nameIndex := 121, descriptorIndex := 122, attributes := #[] }])
  fields := #[{ name := "$assertionsDisabled", type := .boolean, accessFlags := 4120, slot := 0, constantValue := 0 }]
  methods := #[k16m0]
  instanceTypes := #[]
  staticTypes := #[.boolean]
  resolved := Array.replicate 395 none
  statics := none }

def pool17 : Array CpInfo := pool [(2, .class_ 4), (1, u "java/lang/Object"), (0, u "<init>"), (0, u "()V"), (17, .class_ 26), (1, u "jdk/internal/util/Preconditions"), (28, .class_ 56), (0, u "jdk/internal/util/Preconditions$4"), (57, .class_ 115), (0, u "jdk/internal/util/Preconditions$1"), (7, u "SIOOBE_FORMATTER"), (0, u "Ljava/util/function/BiFunction;"), (0, .class_ 126), (0, u "jdk/internal/util/Preconditions$2"), (3, u "AIOOBE_FORMATTER"), (0, .class_ 132), (0, u "jdk/internal/util/Preconditions$3"), (3, u "IOOBE_FORMATTER")] 57

def k17m0 : Method := { name := "<init>", desc := "()V", sig := { parameters := [], returnType := none }, accessFlags := 1, code := none }
/-- jdk/internal/util/Preconditions -/
def k17 : Class := { plain "jdk/internal/util/Preconditions" (some 0) with
  accessFlags := 33
  interfaces := #[]
  cf := some (fileOf pool17 24 #[.nestMembers #[55, 131, 125, 114]] #[{ accessFlags := 1, nameIndex := 5, descriptorIndex := 6, attributes := #[] }] 33 2 #[] #[{ accessFlags := 25, nameIndex := 123, descriptorIndex := 124, attributes := #[] }, { accessFlags := 25, nameIndex := 130, descriptorIndex := 124, attributes := #[] }, { accessFlags := 25, nameIndex := 136, descriptorIndex := 124, attributes := #[] }])
  fields := #[{ name := "SIOOBE_FORMATTER", type := (.object "java/util/function/BiFunction"), accessFlags := 25, slot := 0, constantValue := 0 }, { name := "AIOOBE_FORMATTER", type := (.object "java/util/function/BiFunction"), accessFlags := 25, slot := 1, constantValue := 0 }, { name := "IOOBE_FORMATTER", type := (.object "java/util/function/BiFunction"), accessFlags := 25, slot := 2, constantValue := 0 }]
  methods := #[k17m0]
  instanceTypes := #[]
  staticTypes := #[(.object "java/util/function/BiFunction"), (.object "java/util/function/BiFunction"), (.object "java/util/function/BiFunction")]
  resolved := Array.replicate 194 none
  statics := some 3 }

def pool18 : Array CpInfo := pool [(9, u "<init>"), (6, .class_ 18), (1, u "java/lang/Object"), (0, u "()V"), (1, .class_ 23), (1, u "jdk/internal/util/ArraysSupport"), (0, u "LOG2_ARRAY_LONG_INDEX_SCALE"), (0, u "I"), (2, u "U"), (0, u "Ljdk/internal/misc/Unsafe;"), (8, u "BIG_ENDIAN"), (0, u "Z"), (8, u "LOG2_BYTE_BIT_SIZE"), (4, u "LOG2_ARRAY_INT_INDEX_SCALE"), (54, u "JLA"), (0, u "Ljdk/internal/access/JavaLangAccess;"), (11, u "LOG2_ARRAY_BOOLEAN_INDEX_SCALE"), (9, u "LOG2_ARRAY_BYTE_INDEX_SCALE"), (5, u "LOG2_ARRAY_CHAR_INDEX_SCALE"), (5, u "LOG2_ARRAY_SHORT_INDEX_SCALE"), (18, u "LOG2_ARRAY_FLOAT_INDEX_SCALE"), (24, u "LOG2_ARRAY_DOUBLE_INDEX_SCALE"), (89, u "T_BOOLEAN"), (2, u "T_CHAR"), (1, u "T_FLOAT"), (1, u "T_DOUBLE"), (1, u "T_BYTE"), (1, u "T_SHORT"), (1, u "T_INT"), (1, u "T_LONG"), (1, u "SOFT_MAX_ARRAY_LENGTH")] 83

def k18m0 : Method := { name := "<init>", desc := "()V", sig := { parameters := [], returnType := none }, accessFlags := 2, code := none }
/-- jdk/internal/util/ArraysSupport -/
def k18 : Class := { plain "jdk/internal/util/ArraysSupport" (some 0) with
  accessFlags := 33
  interfaces := #[]
  cf := some (fileOf pool18 21 #[] #[{ accessFlags := 2, nameIndex := 9, descriptorIndex := 19, attributes := #[] }] 33 16 #[] #[{ accessFlags := 24, nameIndex := 28, descriptorIndex := 29, attributes := #[] }, { accessFlags := 26, nameIndex := 38, descriptorIndex := 39, attributes := #[] }, { accessFlags := 25, nameIndex := 121, descriptorIndex := 25, attributes := #[] }, { accessFlags := 25, nameIndex := 131, descriptorIndex := 25, attributes := #[] }, { accessFlags := 25, nameIndex := 137, descriptorIndex := 25, attributes := #[] }, { accessFlags := 25, nameIndex := 143, descriptorIndex := 25, attributes := #[] }, { accessFlags := 25, nameIndex := 53, descriptorIndex := 25, attributes := #[] }, { accessFlags := 25, nameIndex := 24, descriptorIndex := 25, attributes := #[] }, { accessFlags := 25, nameIndex := 162, descriptorIndex := 25, attributes := #[] }, { accessFlags := 25, nameIndex := 187, descriptorIndex := 25, attributes := #[] }, { accessFlags := 26, nameIndex := 48, descriptorIndex := 25, attributes := #[] }, { accessFlags := 25, nameIndex := 277, descriptorIndex := 25, attributes := #[] }, { accessFlags := 25, nameIndex := 280, descriptorIndex := 25, attributes := #[] }, { accessFlags := 25, nameIndex := 282, descriptorIndex := 25, attributes := #[] }, { accessFlags := 25, nameIndex := 284, descriptorIndex := 25, attributes := #[] }, { accessFlags := 25, nameIndex := 286, descriptorIndex := 25, attributes := #[] }, { accessFlags := 25, nameIndex := 288, descriptorIndex := 25, attributes := #[] }, { accessFlags := 25, nameIndex := 290, descriptorIndex := 25, attributes := #[] }, { accessFlags := 25, nameIndex := 292, descriptorIndex := 25, attributes := #[] }, { accessFlags := 26, nameIndex := 108, descriptorIndex := 109, attributes := #[] }, { accessFlags := 25, nameIndex := 294, descriptorIndex := 25, attributes := #[] }])
  fields := #[{ name := "U", type := (.object "jdk/internal/misc/Unsafe"), accessFlags := 24, slot := 0, constantValue := 0 }, { name := "BIG_ENDIAN", type := .boolean, accessFlags := 26, slot := 1, constantValue := 0 }, { name := "LOG2_ARRAY_BOOLEAN_INDEX_SCALE", type := .int, accessFlags := 25, slot := 2, constantValue := 0 }, { name := "LOG2_ARRAY_BYTE_INDEX_SCALE", type := .int, accessFlags := 25, slot := 3, constantValue := 0 }, { name := "LOG2_ARRAY_CHAR_INDEX_SCALE", type := .int, accessFlags := 25, slot := 4, constantValue := 0 }, { name := "LOG2_ARRAY_SHORT_INDEX_SCALE", type := .int, accessFlags := 25, slot := 5, constantValue := 0 }, { name := "LOG2_ARRAY_INT_INDEX_SCALE", type := .int, accessFlags := 25, slot := 6, constantValue := 0 }, { name := "LOG2_ARRAY_LONG_INDEX_SCALE", type := .int, accessFlags := 25, slot := 7, constantValue := 0 }, { name := "LOG2_ARRAY_FLOAT_INDEX_SCALE", type := .int, accessFlags := 25, slot := 8, constantValue := 0 }, { name := "LOG2_ARRAY_DOUBLE_INDEX_SCALE", type := .int, accessFlags := 25, slot := 9, constantValue := 0 }, { name := "LOG2_BYTE_BIT_SIZE", type := .int, accessFlags := 26, slot := 10, constantValue := 0 }, { name := "T_BOOLEAN", type := .int, accessFlags := 25, slot := 11, constantValue := 0 }, { name := "T_CHAR", type := .int, accessFlags := 25, slot := 12, constantValue := 0 }, { name := "T_FLOAT", type := .int, accessFlags := 25, slot := 13, constantValue := 0 }, { name := "T_DOUBLE", type := .int, accessFlags := 25, slot := 14, constantValue := 0 }, { name := "T_BYTE", type := .int, accessFlags := 25, slot := 15, constantValue := 0 }, { name := "T_SHORT", type := .int, accessFlags := 25, slot := 16, constantValue := 0 }, { name := "T_INT", type := .int, accessFlags := 25, slot := 17, constantValue := 0 }, { name := "T_LONG", type := .int, accessFlags := 25, slot := 18, constantValue := 0 }, { name := "JLA", type := (.object "jdk/internal/access/JavaLangAccess"), accessFlags := 26, slot := 19, constantValue := 0 }, { name := "SOFT_MAX_ARRAY_LENGTH", type := .int, accessFlags := 25, slot := 20, constantValue := 0 }]
  methods := #[k18m0]
  instanceTypes := #[]
  staticTypes := #[(.object "jdk/internal/misc/Unsafe"), .boolean, .int, .int, .int, .int, .int, .int, .int, .int, .int, .int, .int, .int, .int, .int, .int, .int, .int, (.object "jdk/internal/access/JavaLangAccess"), .int]
  resolved := Array.replicate 378 none
  statics := none }

def pool19 : Array CpInfo := pool [(1, u "java/lang/Cloneable"), (0, .class_ 1), (0, u "java/lang/Object"), (0, .class_ 3)] 3

/-- java/lang/Cloneable -/
def k19 : Class := { plain "java/lang/Cloneable" (some 0) with
  accessFlags := 1537
  interfaces := #[]
  cf := some (fileOf pool19 2 #[] #[] 1537 4 #[] #[])
  fields := #[]
  methods := #[]
  instanceTypes := #[]
  staticTypes := #[]
  resolved := Array.replicate 8 none
  statics := none }

/-- the primitive byte -/
def k20 : Class := { plain "byte" none with kind := .primitive 'B', accessFlags := 0x411 }
/-- [B -/
def k21 : Class := { plain "[B" (some 0) with kind := .array 20 .byte, interfaces := #[19, 2], accessFlags := 1041 }

/-- the primitive char -/
def k22 : Class := { plain "char" none with kind := .primitive 'C', accessFlags := 0x411 }
/-- [C -/
def k23 : Class := { plain "[C" (some 0) with kind := .array 22 .char, interfaces := #[19, 2], accessFlags := 1041 }

/-- the primitive int -/
def k24 : Class := { plain "int" none with kind := .primitive 'I', accessFlags := 0x411 }
/-- [I -/
def k25 : Class := { plain "[I" (some 0) with kind := .array 24 .int, interfaces := #[19, 2], accessFlags := 1041 }

/-- [Ljava/lang/Integer; -/
def k26 : Class := { plain "[Ljava/lang/Integer;" (some 0) with kind := .array 14 (.object "java/lang/Integer"), interfaces := #[19, 2], accessFlags := 1041 }

def heap : Heap := #[{ cls := 7, slots := #[.long 0, .int 1, .null, .int 0, .null, .int 0, .int 0], vm := .statics 7 },
  { cls := 10, slots := #[.ref 261, .ref 262], vm := .statics 10 },
  { cls := 15, slots := #[.int 0, .int 127, .ref 4, .null, .int 0], vm := .statics 15 },
  { cls := 17, slots := #[.null, .null, .null], vm := .statics 17 },
  { cls := 26, slots := #[.ref 5, .ref 6, .ref 7, .ref 8, .ref 9, .ref 10, .ref 11, .ref 12, .ref 13, .ref 14, .ref 15, .ref 16, .ref 17, .ref 18, .ref 19, .ref 20, .ref 21, .ref 22, .ref 23, .ref 24, .ref 25, .ref 26, .ref 27, .ref 28, .ref 29, .ref 30, .ref 31, .ref 32, .ref 33, .ref 34, .ref 35, .ref 36, .ref 37, .ref 38, .ref 39, .ref 40, .ref 41, .ref 42, .ref 43, .ref 44, .ref 45, .ref 46, .ref 47, .ref 48, .ref 49, .ref 50, .ref 51, .ref 52, .ref 53, .ref 54, .ref 55, .ref 56, .ref 57, .ref 58, .ref 59, .ref 60, .ref 61, .ref 62, .ref 63, .ref 64, .ref 65, .ref 66, .ref 67, .ref 68, .ref 69, .ref 70, .ref 71, .ref 72, .ref 73, .ref 74, .ref 75, .ref 76, .ref 77, .ref 78, .ref 79, .ref 80, .ref 81, .ref 82, .ref 83, .ref 84, .ref 85, .ref 86, .ref 87, .ref 88, .ref 89, .ref 90, .ref 91, .ref 92, .ref 93, .ref 94, .ref 95, .ref 96, .ref 97, .ref 98, .ref 99, .ref 100, .ref 101, .ref 102, .ref 103, .ref 104, .ref 105, .ref 106, .ref 107, .ref 108, .ref 109, .ref 110, .ref 111, .ref 112, .ref 113, .ref 114, .ref 115, .ref 116, .ref 117, .ref 118, .ref 119, .ref 120, .ref 121, .ref 122, .ref 123, .ref 124, .ref 125, .ref 126, .ref 127, .ref 128, .ref 129, .ref 130, .ref 131, .ref 132, .ref 133, .ref 134, .ref 135, .ref 136, .ref 137, .ref 138, .ref 139, .ref 140, .ref 141, .ref 142, .ref 143, .ref 144, .ref 145, .ref 146, .ref 147, .ref 148, .ref 149, .ref 150, .ref 151, .ref 152, .ref 153, .ref 154, .ref 155, .ref 156, .ref 157, .ref 158, .ref 159, .ref 160, .ref 161, .ref 162, .ref 163, .ref 164, .ref 165, .ref 166, .ref 167, .ref 168, .ref 169, .ref 170, .ref 171, .ref 172, .ref 173, .ref 174, .ref 175, .ref 176, .ref 177, .ref 178, .ref 179, .ref 180, .ref 181, .ref 182, .ref 183, .ref 184, .ref 185, .ref 186, .ref 187, .ref 188, .ref 189, .ref 190, .ref 191, .ref 192, .ref 193, .ref 194, .ref 195, .ref 196, .ref 197, .ref 198, .ref 199, .ref 200, .ref 201, .ref 202, .ref 203, .ref 204, .ref 205, .ref 206, .ref 207, .ref 208, .ref 209, .ref 210, .ref 211, .ref 212, .ref 213, .ref 214, .ref 215, .ref 216, .ref 217, .ref 218, .ref 219, .ref 220, .ref 221, .ref 222, .ref 223, .ref 224, .ref 225, .ref 226, .ref 227, .ref 228, .ref 229, .ref 230, .ref 231, .ref 232, .ref 233, .ref 234, .ref 235, .ref 236, .ref 237, .ref 238, .ref 239, .ref 240, .ref 241, .ref 242, .ref 243, .ref 244, .ref 245, .ref 246, .ref 247, .ref 248, .ref 249, .ref 250, .ref 251, .ref 252, .ref 253, .ref 254, .ref 255, .ref 256, .ref 257, .ref 258, .ref 259, .ref 260], vm := .none },
  { cls := 14, slots := #[.int (-128)], vm := .none },
  { cls := 14, slots := #[.int (-127)], vm := .none },
  { cls := 14, slots := #[.int (-126)], vm := .none },
  { cls := 14, slots := #[.int (-125)], vm := .none },
  { cls := 14, slots := #[.int (-124)], vm := .none },
  { cls := 14, slots := #[.int (-123)], vm := .none },
  { cls := 14, slots := #[.int (-122)], vm := .none },
  { cls := 14, slots := #[.int (-121)], vm := .none },
  { cls := 14, slots := #[.int (-120)], vm := .none },
  { cls := 14, slots := #[.int (-119)], vm := .none },
  { cls := 14, slots := #[.int (-118)], vm := .none },
  { cls := 14, slots := #[.int (-117)], vm := .none },
  { cls := 14, slots := #[.int (-116)], vm := .none },
  { cls := 14, slots := #[.int (-115)], vm := .none },
  { cls := 14, slots := #[.int (-114)], vm := .none },
  { cls := 14, slots := #[.int (-113)], vm := .none },
  { cls := 14, slots := #[.int (-112)], vm := .none },
  { cls := 14, slots := #[.int (-111)], vm := .none },
  { cls := 14, slots := #[.int (-110)], vm := .none },
  { cls := 14, slots := #[.int (-109)], vm := .none },
  { cls := 14, slots := #[.int (-108)], vm := .none },
  { cls := 14, slots := #[.int (-107)], vm := .none },
  { cls := 14, slots := #[.int (-106)], vm := .none },
  { cls := 14, slots := #[.int (-105)], vm := .none },
  { cls := 14, slots := #[.int (-104)], vm := .none },
  { cls := 14, slots := #[.int (-103)], vm := .none },
  { cls := 14, slots := #[.int (-102)], vm := .none },
  { cls := 14, slots := #[.int (-101)], vm := .none },
  { cls := 14, slots := #[.int (-100)], vm := .none },
  { cls := 14, slots := #[.int (-99)], vm := .none },
  { cls := 14, slots := #[.int (-98)], vm := .none },
  { cls := 14, slots := #[.int (-97)], vm := .none },
  { cls := 14, slots := #[.int (-96)], vm := .none },
  { cls := 14, slots := #[.int (-95)], vm := .none },
  { cls := 14, slots := #[.int (-94)], vm := .none },
  { cls := 14, slots := #[.int (-93)], vm := .none },
  { cls := 14, slots := #[.int (-92)], vm := .none },
  { cls := 14, slots := #[.int (-91)], vm := .none },
  { cls := 14, slots := #[.int (-90)], vm := .none },
  { cls := 14, slots := #[.int (-89)], vm := .none },
  { cls := 14, slots := #[.int (-88)], vm := .none },
  { cls := 14, slots := #[.int (-87)], vm := .none },
  { cls := 14, slots := #[.int (-86)], vm := .none },
  { cls := 14, slots := #[.int (-85)], vm := .none },
  { cls := 14, slots := #[.int (-84)], vm := .none },
  { cls := 14, slots := #[.int (-83)], vm := .none },
  { cls := 14, slots := #[.int (-82)], vm := .none },
  { cls := 14, slots := #[.int (-81)], vm := .none },
  { cls := 14, slots := #[.int (-80)], vm := .none },
  { cls := 14, slots := #[.int (-79)], vm := .none },
  { cls := 14, slots := #[.int (-78)], vm := .none },
  { cls := 14, slots := #[.int (-77)], vm := .none },
  { cls := 14, slots := #[.int (-76)], vm := .none },
  { cls := 14, slots := #[.int (-75)], vm := .none },
  { cls := 14, slots := #[.int (-74)], vm := .none },
  { cls := 14, slots := #[.int (-73)], vm := .none },
  { cls := 14, slots := #[.int (-72)], vm := .none },
  { cls := 14, slots := #[.int (-71)], vm := .none },
  { cls := 14, slots := #[.int (-70)], vm := .none },
  { cls := 14, slots := #[.int (-69)], vm := .none },
  { cls := 14, slots := #[.int (-68)], vm := .none },
  { cls := 14, slots := #[.int (-67)], vm := .none },
  { cls := 14, slots := #[.int (-66)], vm := .none },
  { cls := 14, slots := #[.int (-65)], vm := .none },
  { cls := 14, slots := #[.int (-64)], vm := .none },
  { cls := 14, slots := #[.int (-63)], vm := .none },
  { cls := 14, slots := #[.int (-62)], vm := .none },
  { cls := 14, slots := #[.int (-61)], vm := .none },
  { cls := 14, slots := #[.int (-60)], vm := .none },
  { cls := 14, slots := #[.int (-59)], vm := .none },
  { cls := 14, slots := #[.int (-58)], vm := .none },
  { cls := 14, slots := #[.int (-57)], vm := .none },
  { cls := 14, slots := #[.int (-56)], vm := .none },
  { cls := 14, slots := #[.int (-55)], vm := .none },
  { cls := 14, slots := #[.int (-54)], vm := .none },
  { cls := 14, slots := #[.int (-53)], vm := .none },
  { cls := 14, slots := #[.int (-52)], vm := .none },
  { cls := 14, slots := #[.int (-51)], vm := .none },
  { cls := 14, slots := #[.int (-50)], vm := .none },
  { cls := 14, slots := #[.int (-49)], vm := .none },
  { cls := 14, slots := #[.int (-48)], vm := .none },
  { cls := 14, slots := #[.int (-47)], vm := .none },
  { cls := 14, slots := #[.int (-46)], vm := .none },
  { cls := 14, slots := #[.int (-45)], vm := .none },
  { cls := 14, slots := #[.int (-44)], vm := .none },
  { cls := 14, slots := #[.int (-43)], vm := .none },
  { cls := 14, slots := #[.int (-42)], vm := .none },
  { cls := 14, slots := #[.int (-41)], vm := .none },
  { cls := 14, slots := #[.int (-40)], vm := .none },
  { cls := 14, slots := #[.int (-39)], vm := .none },
  { cls := 14, slots := #[.int (-38)], vm := .none },
  { cls := 14, slots := #[.int (-37)], vm := .none },
  { cls := 14, slots := #[.int (-36)], vm := .none },
  { cls := 14, slots := #[.int (-35)], vm := .none },
  { cls := 14, slots := #[.int (-34)], vm := .none },
  { cls := 14, slots := #[.int (-33)], vm := .none },
  { cls := 14, slots := #[.int (-32)], vm := .none },
  { cls := 14, slots := #[.int (-31)], vm := .none },
  { cls := 14, slots := #[.int (-30)], vm := .none },
  { cls := 14, slots := #[.int (-29)], vm := .none },
  { cls := 14, slots := #[.int (-28)], vm := .none },
  { cls := 14, slots := #[.int (-27)], vm := .none },
  { cls := 14, slots := #[.int (-26)], vm := .none },
  { cls := 14, slots := #[.int (-25)], vm := .none },
  { cls := 14, slots := #[.int (-24)], vm := .none },
  { cls := 14, slots := #[.int (-23)], vm := .none },
  { cls := 14, slots := #[.int (-22)], vm := .none },
  { cls := 14, slots := #[.int (-21)], vm := .none },
  { cls := 14, slots := #[.int (-20)], vm := .none },
  { cls := 14, slots := #[.int (-19)], vm := .none },
  { cls := 14, slots := #[.int (-18)], vm := .none },
  { cls := 14, slots := #[.int (-17)], vm := .none },
  { cls := 14, slots := #[.int (-16)], vm := .none },
  { cls := 14, slots := #[.int (-15)], vm := .none },
  { cls := 14, slots := #[.int (-14)], vm := .none },
  { cls := 14, slots := #[.int (-13)], vm := .none },
  { cls := 14, slots := #[.int (-12)], vm := .none },
  { cls := 14, slots := #[.int (-11)], vm := .none },
  { cls := 14, slots := #[.int (-10)], vm := .none },
  { cls := 14, slots := #[.int (-9)], vm := .none },
  { cls := 14, slots := #[.int (-8)], vm := .none },
  { cls := 14, slots := #[.int (-7)], vm := .none },
  { cls := 14, slots := #[.int (-6)], vm := .none },
  { cls := 14, slots := #[.int (-5)], vm := .none },
  { cls := 14, slots := #[.int (-4)], vm := .none },
  { cls := 14, slots := #[.int (-3)], vm := .none },
  { cls := 14, slots := #[.int (-2)], vm := .none },
  { cls := 14, slots := #[.int (-1)], vm := .none },
  { cls := 14, slots := #[.int (0)], vm := .none },
  { cls := 14, slots := #[.int (1)], vm := .none },
  { cls := 14, slots := #[.int (2)], vm := .none },
  { cls := 14, slots := #[.int (3)], vm := .none },
  { cls := 14, slots := #[.int (4)], vm := .none },
  { cls := 14, slots := #[.int (5)], vm := .none },
  { cls := 14, slots := #[.int (6)], vm := .none },
  { cls := 14, slots := #[.int (7)], vm := .none },
  { cls := 14, slots := #[.int (8)], vm := .none },
  { cls := 14, slots := #[.int (9)], vm := .none },
  { cls := 14, slots := #[.int (10)], vm := .none },
  { cls := 14, slots := #[.int (11)], vm := .none },
  { cls := 14, slots := #[.int (12)], vm := .none },
  { cls := 14, slots := #[.int (13)], vm := .none },
  { cls := 14, slots := #[.int (14)], vm := .none },
  { cls := 14, slots := #[.int (15)], vm := .none },
  { cls := 14, slots := #[.int (16)], vm := .none },
  { cls := 14, slots := #[.int (17)], vm := .none },
  { cls := 14, slots := #[.int (18)], vm := .none },
  { cls := 14, slots := #[.int (19)], vm := .none },
  { cls := 14, slots := #[.int (20)], vm := .none },
  { cls := 14, slots := #[.int (21)], vm := .none },
  { cls := 14, slots := #[.int (22)], vm := .none },
  { cls := 14, slots := #[.int (23)], vm := .none },
  { cls := 14, slots := #[.int (24)], vm := .none },
  { cls := 14, slots := #[.int (25)], vm := .none },
  { cls := 14, slots := #[.int (26)], vm := .none },
  { cls := 14, slots := #[.int (27)], vm := .none },
  { cls := 14, slots := #[.int (28)], vm := .none },
  { cls := 14, slots := #[.int (29)], vm := .none },
  { cls := 14, slots := #[.int (30)], vm := .none },
  { cls := 14, slots := #[.int (31)], vm := .none },
  { cls := 14, slots := #[.int (32)], vm := .none },
  { cls := 14, slots := #[.int (33)], vm := .none },
  { cls := 14, slots := #[.int (34)], vm := .none },
  { cls := 14, slots := #[.int (35)], vm := .none },
  { cls := 14, slots := #[.int (36)], vm := .none },
  { cls := 14, slots := #[.int (37)], vm := .none },
  { cls := 14, slots := #[.int (38)], vm := .none },
  { cls := 14, slots := #[.int (39)], vm := .none },
  { cls := 14, slots := #[.int (40)], vm := .none },
  { cls := 14, slots := #[.int (41)], vm := .none },
  { cls := 14, slots := #[.int (42)], vm := .none },
  { cls := 14, slots := #[.int (43)], vm := .none },
  { cls := 14, slots := #[.int (44)], vm := .none },
  { cls := 14, slots := #[.int (45)], vm := .none },
  { cls := 14, slots := #[.int (46)], vm := .none },
  { cls := 14, slots := #[.int (47)], vm := .none },
  { cls := 14, slots := #[.int (48)], vm := .none },
  { cls := 14, slots := #[.int (49)], vm := .none },
  { cls := 14, slots := #[.int (50)], vm := .none },
  { cls := 14, slots := #[.int (51)], vm := .none },
  { cls := 14, slots := #[.int (52)], vm := .none },
  { cls := 14, slots := #[.int (53)], vm := .none },
  { cls := 14, slots := #[.int (54)], vm := .none },
  { cls := 14, slots := #[.int (55)], vm := .none },
  { cls := 14, slots := #[.int (56)], vm := .none },
  { cls := 14, slots := #[.int (57)], vm := .none },
  { cls := 14, slots := #[.int (58)], vm := .none },
  { cls := 14, slots := #[.int (59)], vm := .none },
  { cls := 14, slots := #[.int (60)], vm := .none },
  { cls := 14, slots := #[.int (61)], vm := .none },
  { cls := 14, slots := #[.int (62)], vm := .none },
  { cls := 14, slots := #[.int (63)], vm := .none },
  { cls := 14, slots := #[.int (64)], vm := .none },
  { cls := 14, slots := #[.int (65)], vm := .none },
  { cls := 14, slots := #[.int (66)], vm := .none },
  { cls := 14, slots := #[.int (67)], vm := .none },
  { cls := 14, slots := #[.int (68)], vm := .none },
  { cls := 14, slots := #[.int (69)], vm := .none },
  { cls := 14, slots := #[.int (70)], vm := .none },
  { cls := 14, slots := #[.int (71)], vm := .none },
  { cls := 14, slots := #[.int (72)], vm := .none },
  { cls := 14, slots := #[.int (73)], vm := .none },
  { cls := 14, slots := #[.int (74)], vm := .none },
  { cls := 14, slots := #[.int (75)], vm := .none },
  { cls := 14, slots := #[.int (76)], vm := .none },
  { cls := 14, slots := #[.int (77)], vm := .none },
  { cls := 14, slots := #[.int (78)], vm := .none },
  { cls := 14, slots := #[.int (79)], vm := .none },
  { cls := 14, slots := #[.int (80)], vm := .none },
  { cls := 14, slots := #[.int (81)], vm := .none },
  { cls := 14, slots := #[.int (82)], vm := .none },
  { cls := 14, slots := #[.int (83)], vm := .none },
  { cls := 14, slots := #[.int (84)], vm := .none },
  { cls := 14, slots := #[.int (85)], vm := .none },
  { cls := 14, slots := #[.int (86)], vm := .none },
  { cls := 14, slots := #[.int (87)], vm := .none },
  { cls := 14, slots := #[.int (88)], vm := .none },
  { cls := 14, slots := #[.int (89)], vm := .none },
  { cls := 14, slots := #[.int (90)], vm := .none },
  { cls := 14, slots := #[.int (91)], vm := .none },
  { cls := 14, slots := #[.int (92)], vm := .none },
  { cls := 14, slots := #[.int (93)], vm := .none },
  { cls := 14, slots := #[.int (94)], vm := .none },
  { cls := 14, slots := #[.int (95)], vm := .none },
  { cls := 14, slots := #[.int (96)], vm := .none },
  { cls := 14, slots := #[.int (97)], vm := .none },
  { cls := 14, slots := #[.int (98)], vm := .none },
  { cls := 14, slots := #[.int (99)], vm := .none },
  { cls := 14, slots := #[.int (100)], vm := .none },
  { cls := 14, slots := #[.int (101)], vm := .none },
  { cls := 14, slots := #[.int (102)], vm := .none },
  { cls := 14, slots := #[.int (103)], vm := .none },
  { cls := 14, slots := #[.int (104)], vm := .none },
  { cls := 14, slots := #[.int (105)], vm := .none },
  { cls := 14, slots := #[.int (106)], vm := .none },
  { cls := 14, slots := #[.int (107)], vm := .none },
  { cls := 14, slots := #[.int (108)], vm := .none },
  { cls := 14, slots := #[.int (109)], vm := .none },
  { cls := 14, slots := #[.int (110)], vm := .none },
  { cls := 14, slots := #[.int (111)], vm := .none },
  { cls := 14, slots := #[.int (112)], vm := .none },
  { cls := 14, slots := #[.int (113)], vm := .none },
  { cls := 14, slots := #[.int (114)], vm := .none },
  { cls := 14, slots := #[.int (115)], vm := .none },
  { cls := 14, slots := #[.int (116)], vm := .none },
  { cls := 14, slots := #[.int (117)], vm := .none },
  { cls := 14, slots := #[.int (118)], vm := .none },
  { cls := 14, slots := #[.int (119)], vm := .none },
  { cls := 14, slots := #[.int (120)], vm := .none },
  { cls := 14, slots := #[.int (121)], vm := .none },
  { cls := 14, slots := #[.int (122)], vm := .none },
  { cls := 14, slots := #[.int (123)], vm := .none },
  { cls := 14, slots := #[.int (124)], vm := .none },
  { cls := 14, slots := #[.int (125)], vm := .none },
  { cls := 14, slots := #[.int (126)], vm := .none },
  { cls := 14, slots := #[.int (127)], vm := .none },
  { cls := 10, slots := #[.null, .int 0, .null], vm := .none },
  { cls := 10, slots := #[.null, .int 0, .null], vm := .none }]
def classes : Array Class := #[k0, k1, k2, k3, k4, k5, k6, k7, k8, k9, k10, k11, k12, k13, k14, k15, k16, k17, k18, k19, k20, k21, k22, k23, k24, k25, k26]
def interned : List (Array UInt16 × Addr) := []
def slotsUsed : Nat := 535
def theMethod : MethodId := ⟨1, 4⟩
def args0 : Array Value := #[.long 5, .int 6, .int 7, .int 8, .int 9, .int 10]
def aboutOver (below : List Frame) : State where
  vm := { classes := classes, interned := interned.toArray }
  heap := heap
  slotsUsed := slotsUsed
  threads := #[{ frames := .invoking theMethod args0 :: below }]
def below0 : List Frame := [.native { method := ⟨0, 0⟩, args := #[] }]
def about1 : State := aboutOver below0
def p0 : Program := .bare "" "" ""
def e0 : Env := launch0.env 0 0 0
theorem w_frames : about1.frames = Frame.invoking theMethod args0 :: below0 := rfl
set_option maxRecDepth 65536 in
theorem w_args : argsFit about1.vm theMethod args0 = true := by decide +kernel
set_option maxRecDepth 65536 in
theorem w_heap : heapFits about1 = true := by decide +kernel
set_option maxRecDepth 65536 in
theorem w_runnable : about1.curStatus? = some .runnable := by decide +kernel
set_option maxRecDepth 65536 in
theorem w_alone : about1.alone = true := by decide +kernel
set_option maxRecDepth 65536 in
theorem w_named : about1.methodNamed? x = some theMethod := by decide +kernel
set_option maxRecDepth 65536 in
theorem w_hears : about1.hears theMethod below0 = true := by decide +kernel
set_option maxRecDepth 65536 in
theorem w_ripe : about1.ripe theMethod args0 below0 = true := by decide +kernel
theorem w_running : about1.status = .running := rfl
set_option maxRecDepth 65536 in
theorem w_room : about1.hasRoom e0.platform room_1 = true :=
  launch0.hasRoom_least _ room_1 (by decide +kernel) (by decide +kernel) (by decide +kernel) (by decide +kernel) (by decide +kernel) (by decide +kernel)
theorem allAtoms_all (ts : List Jvm.Cond) (a : Array Jvm.Value) (st : Jvm.State) : (allAtoms ts).before a st = ts.all (fun c => c.before a st) := by
  induction ts with
  | nil => rfl
  | cons c t ih =>
    show (Jvm.Cond.and c (allAtoms t)).before a st = _
    rw [Jvm.Cond.before_and, ih, List.all_cons]
def words1 : List Jvm.Cond := Jvm.Cond.code x code maxLocals ret :: tables_1
/-- a 'code' word, met by the world's own term for the bytes: nothing is compared byte by byte -/
theorem code_word {y : MethodName} {bytes : ByteArray} {mx : Nat} {rt : Option FieldType} {a : Array Value} {s : State} {m : MethodId} {meth : Method} {c : Code} (h1 : s.methodNamed? y = some m) (h2 : s.vm.method? m = some meth) (h3 : meth.code = some c) (h4 : c.code = bytes)
    (h5 : (c.maxLocals == mx && c.exceptionTable.isEmpty && decide (c.maxStack ≤ mostOperands) && decide (meth.sig.returnType = rt) && !meth.locks && decide (parseMethodDescriptor y.desc = some meth.sig)) = true) : (Jvm.Cond.code y bytes mx rt).before a s = true := by
  simp only [Bool.and_eq_true, beq_iff_eq, Bool.not_eq_true', decide_eq_true_eq] at h5
  obtain ⟨⟨⟨⟨⟨g1, g2⟩, g3⟩, g4⟩, g5⟩, g6⟩ := h5
  simp [Cond.before, Cond.holds, Cond.value, h1, h2, h3, h4, g1, g2, g3, g4, g5, g6]
def isCode : Jvm.Cond → Bool
  | .code _ _ _ _ => true
  | _ => false
theorem all_split {L : List Jvm.Cond} {P : Jvm.Cond → Bool} (h1 : L.all (fun c => isCode c || P c) = true) (h2 : ∀ c ∈ L.filter isCode, P c = true) : L.all P = true := by
  refine List.all_eq_true.mpr fun c hc => ?_
  have h := List.all_eq_true.mp h1 c hc
  rcases Bool.eq_false_or_eq_true (isCode c) with hi | hi
  · exact h2 c (List.mem_filter.mpr ⟨hc, hi⟩)
  · simpa [hi] using h
set_option maxRecDepth 65536 in
theorem w_c0 : (Jvm.Cond.code x code maxLocals ret).before args0 about1 = true := code_word (m := ⟨1, 4⟩) (meth := k1m4) (c := k1c4) (by decide +kernel) rfl rfl rfl (by decide +kernel)
set_option maxRecDepth 65536 in
theorem w_c1 : (Jvm.Cond.code ({ cls := "com/example/millrace/millrace/api/SinkRecordWithDataPinLaw", name := "schema", desc := "(I)Lcom/example/millrace/millrace/api/Schema;" } : Jvm.MethodName) method_2_code (2 : Nat) (Option.some (Jvm.ClassFile.FieldType.object "com/example/millrace/millrace/api/Schema"))).before args0 about1 = true := code_word (m := ⟨1, 1⟩) (meth := k1m1) (c := k1c1) (by decide +kernel) rfl rfl rfl (by decide +kernel)
set_option maxRecDepth 65536 in
theorem w_c2 : (Jvm.Cond.code ({ cls := "com/example/millrace/millrace/api/SinkRecordWithDataPinLaw", name := "text", desc := "(II)Ljava/lang/String;" } : Jvm.MethodName) method_3_code (6 : Nat) (Option.some (Jvm.ClassFile.FieldType.object "java/lang/String"))).before args0 about1 = true := code_word (m := ⟨1, 2⟩) (meth := k1m2) (c := k1c2) (by decide +kernel) rfl rfl rfl (by decide +kernel)
set_option maxRecDepth 65536 in
theorem w_c3 : (Jvm.Cond.code ({ cls := "java/lang/String", name := "<init>", desc := "([C)V" } : Jvm.MethodName) jdk_42_method_3_code (2 : Nat) (Option.none : Option Jvm.ClassFile.FieldType)).before args0 about1 = true := code_word (m := ⟨7, 1⟩) (meth := k7m1) (c := k7c1) (by decide +kernel) rfl rfl rfl (by decide +kernel)
set_option maxRecDepth 65536 in
theorem w_c4 : (Jvm.Cond.code ({ cls := "java/lang/String", name := "<init>", desc := "([CIILjava/lang/Void;)V" } : Jvm.MethodName) jdk_42_method_149_code (6 : Nat) (Option.none : Option Jvm.ClassFile.FieldType)).before args0 about1 = true := code_word (m := ⟨7, 2⟩) (meth := k7m2) (c := k7c2) (by decide +kernel) rfl rfl rfl (by decide +kernel)
set_option maxRecDepth 65536 in
theorem w_c5 : (Jvm.Cond.code ({ cls := "java/lang/Object", name := "<init>", desc := "()V" } : Jvm.MethodName) object_method_1_code (1 : Nat) (Option.none : Option Jvm.ClassFile.FieldType)).before args0 about1 = true := code_word (m := ⟨0, 0⟩) (meth := k0m0) (c := k0c0) (by decide +kernel) rfl rfl rfl (by decide +kernel)
set_option maxRecDepth 65536 in
theorem w_c6 : (Jvm.Cond.code ({ cls := "java/lang/StringUTF16", name := "compress", desc := "([CII)[B" } : Jvm.MethodName) jdk_52_method_16_code (6 : Nat) (Option.some (Jvm.ClassFile.FieldType.array Jvm.ClassFile.FieldType.byte))).before args0 about1 = true := code_word (m := ⟨8, 2⟩) (meth := k8m2) (c := k8c2) (by decide +kernel) rfl rfl rfl (by decide +kernel)
set_option maxRecDepth 65536 in
theorem w_c7 : (Jvm.Cond.code ({ cls := "java/lang/StringUTF16", name := "compress", desc := "([CI[BII)I" } : Jvm.MethodName) jdk_52_method_21_code (7 : Nat) (Option.some Jvm.ClassFile.FieldType.int)).before args0 about1 = true := code_word (m := ⟨8, 3⟩) (meth := k8m3) (c := k8c3) (by decide +kernel) rfl rfl rfl (by decide +kernel)
set_option maxRecDepth 65536 in
theorem w_c8 : (Jvm.Cond.code ({ cls := "java/lang/StringUTF16", name := "coderFromArrayLen", desc := "([BI)B" } : Jvm.MethodName) jdk_52_method_15_code (2 : Nat) (Option.some Jvm.ClassFile.FieldType.byte)).before args0 about1 = true := code_word (m := ⟨8, 1⟩) (meth := k8m1) (c := k8c1) (by decide +kernel) rfl rfl rfl (by decide +kernel)
set_option maxRecDepth 65536 in
theorem w_c9 : (Jvm.Cond.code ({ cls := "com/example/millrace/millrace/api/SinkRecordWithDataPinLaw", name := "data", desc := "(II)Ljava/lang/Object;" } : Jvm.MethodName) method_4_code (3 : Nat) (Option.some (Jvm.ClassFile.FieldType.object "java/lang/Object"))).before args0 about1 = true := code_word (m := ⟨1, 3⟩) (meth := k1m3) (c := k1c3) (by decide +kernel) rfl rfl rfl (by decide +kernel)
set_option maxRecDepth 65536 in
theorem w_c10 : (Jvm.Cond.code ({ cls := "com/example/millrace/millrace/api/SinkRecord", name := "<init>", desc := "(Ljava/lang/String;JLcom/example/millrace/millrace/api/Schema;Ljava/lang/Object;Lcom/example/millrace/millrace/api/Schema;Ljava/lang/Object;)V" } : Jvm.MethodName) prog_9_method_1_code (8 : Nat) (Option.none : Option Jvm.ClassFile.FieldType)).before args0 about1 = true := code_word (m := ⟨12, 0⟩) (meth := k12m0) (c := k12c0) (by decide +kernel) rfl rfl rfl (by decide +kernel)
set_option maxRecDepth 65536 in
theorem w_c11 : (Jvm.Cond.code ({ cls := "java/lang/Record", name := "<init>", desc := "()V" } : Jvm.MethodName) jdk_30_method_1_code (1 : Nat) (Option.none : Option Jvm.ClassFile.FieldType)).before args0 about1 = true := code_word (m := ⟨9, 0⟩) (meth := k9m0) (c := k9c0) (by decide +kernel) rfl rfl rfl (by decide +kernel)
set_option maxRecDepth 65536 in
theorem w_c12 : (Jvm.Cond.code ({ cls := "com/example/millrace/millrace/api/SinkRecord", name := "withData", desc := "(Ljava/lang/String;Lcom/example/millrace/millrace/api/Schema;Ljava/lang/Object;Lcom/example/millrace/millrace/api/Schema;Ljava/lang/Object;)Lcom/example/millrace/millrace/api/SinkRecord;" } : Jvm.MethodName) prog_9_method_2_code (6 : Nat) (Option.some (Jvm.ClassFile.FieldType.object "com/example/millrace/millrace/api/SinkRecord"))).before args0 about1 = true := code_word (m := ⟨12, 1⟩) (meth := k12m1) (c := k12c1) (by decide +kernel) rfl rfl rfl (by decide +kernel)
set_option maxRecDepth 65536 in
theorem w_c13 : (Jvm.Cond.code ({ cls := "com/example/millrace/millrace/api/SinkRecord", name := "topic", desc := "()Ljava/lang/String;" } : Jvm.MethodName) prog_9_method_6_code (1 : Nat) (Option.some (Jvm.ClassFile.FieldType.object "java/lang/String"))).before args0 about1 = true := code_word (m := ⟨12, 2⟩) (meth := k12m2) (c := k12c2) (by decide +kernel) rfl rfl rfl (by decide +kernel)
set_option maxRecDepth 65536 in
theorem w_c14 : (Jvm.Cond.code ({ cls := "com/example/millrace/millrace/api/SinkRecord", name := "offset", desc := "()J" } : Jvm.MethodName) prog_9_method_7_code (1 : Nat) (Option.some Jvm.ClassFile.FieldType.long)).before args0 about1 = true := code_word (m := ⟨12, 3⟩) (meth := k12m3) (c := k12c3) (by decide +kernel) rfl rfl rfl (by decide +kernel)
set_option maxRecDepth 65536 in
theorem w_c15 : (Jvm.Cond.code ({ cls := "com/example/millrace/millrace/api/SinkRecord", name := "keySchema", desc := "()Lcom/example/millrace/millrace/api/Schema;" } : Jvm.MethodName) prog_9_method_8_code (1 : Nat) (Option.some (Jvm.ClassFile.FieldType.object "com/example/millrace/millrace/api/Schema"))).before args0 about1 = true := code_word (m := ⟨12, 4⟩) (meth := k12m4) (c := k12c4) (by decide +kernel) rfl rfl rfl (by decide +kernel)
set_option maxRecDepth 65536 in
theorem w_c16 : (Jvm.Cond.code ({ cls := "com/example/millrace/millrace/api/SinkRecord", name := "key", desc := "()Ljava/lang/Object;" } : Jvm.MethodName) prog_9_method_9_code (1 : Nat) (Option.some (Jvm.ClassFile.FieldType.object "java/lang/Object"))).before args0 about1 = true := code_word (m := ⟨12, 5⟩) (meth := k12m5) (c := k12c5) (by decide +kernel) rfl rfl rfl (by decide +kernel)
set_option maxRecDepth 65536 in
theorem w_c17 : (Jvm.Cond.code ({ cls := "com/example/millrace/millrace/api/SinkRecord", name := "valueSchema", desc := "()Lcom/example/millrace/millrace/api/Schema;" } : Jvm.MethodName) prog_9_method_10_code (1 : Nat) (Option.some (Jvm.ClassFile.FieldType.object "com/example/millrace/millrace/api/Schema"))).before args0 about1 = true := code_word (m := ⟨12, 6⟩) (meth := k12m6) (c := k12c6) (by decide +kernel) rfl rfl rfl (by decide +kernel)
set_option maxRecDepth 65536 in
theorem w_c18 : (Jvm.Cond.code ({ cls := "com/example/millrace/millrace/api/SinkRecord", name := "value", desc := "()Ljava/lang/Object;" } : Jvm.MethodName) prog_9_method_11_code (1 : Nat) (Option.some (Jvm.ClassFile.FieldType.object "java/lang/Object"))).before args0 about1 = true := code_word (m := ⟨12, 7⟩) (meth := k12m7) (c := k12c7) (by decide +kernel) rfl rfl rfl (by decide +kernel)
set_option maxRecDepth 65536 in
theorem w_c19 : (Jvm.Cond.code ({ cls := "java/lang/Integer", name := "valueOf", desc := "(I)Ljava/lang/Integer;" } : Jvm.MethodName) jdk_33_method_22_code (1 : Nat) (Option.some (Jvm.ClassFile.FieldType.object "java/lang/Integer"))).before args0 about1 = true := code_word (m := ⟨14, 0⟩) (meth := k14m0) (c := k14c0) (by decide +kernel) rfl rfl rfl (by decide +kernel)
set_option maxRecDepth 65536 in
theorem w_c20 : (Jvm.Cond.code ({ cls := "java/lang/Integer", name := "<init>", desc := "(I)V" } : Jvm.MethodName) jdk_33_method_23_code (2 : Nat) (Option.none : Option Jvm.ClassFile.FieldType)).before args0 about1 = true := code_word (m := ⟨14, 1⟩) (meth := k14m1) (c := k14c1) (by decide +kernel) rfl rfl rfl (by decide +kernel)
set_option maxRecDepth 65536 in
theorem w_c21 : (Jvm.Cond.code ({ cls := "java/lang/Number", name := "<init>", desc := "()V" } : Jvm.MethodName) jdk_18_method_1_code (1 : Nat) (Option.none : Option Jvm.ClassFile.FieldType)).before args0 about1 = true := code_word (m := ⟨13, 0⟩) (meth := k13m0) (c := k13c0) (by decide +kernel) rfl rfl rfl (by decide +kernel)
def codes1 : List Jvm.Cond := [Jvm.Cond.code x code maxLocals ret, Jvm.Cond.code ({ cls := "com/example/millrace/millrace/api/SinkRecordWithDataPinLaw", name := "schema", desc := "(I)Lcom/example/millrace/millrace/api/Schema;" } : Jvm.MethodName) method_2_code (2 : Nat) (Option.some (Jvm.ClassFile.FieldType.object "com/example/millrace/millrace/api/Schema")), Jvm.Cond.code ({ cls := "com/example/millrace/millrace/api/SinkRecordWithDataPinLaw", name := "text", desc := "(II)Ljava/lang/String;" } : Jvm.MethodName) method_3_code (6 : Nat) (Option.some (Jvm.ClassFile.FieldType.object "java/lang/String")), Jvm.Cond.code ({ cls := "java/lang/String", name := "<init>", desc := "([C)V" } : Jvm.MethodName) jdk_42_method_3_code (2 : Nat) (Option.none : Option Jvm.ClassFile.FieldType), Jvm.Cond.code ({ cls := "java/lang/String", name := "<init>", desc := "([CIILjava/lang/Void;)V" } : Jvm.MethodName) jdk_42_method_149_code (6 : Nat) (Option.none : Option Jvm.ClassFile.FieldType), Jvm.Cond.code ({ cls := "java/lang/Object", name := "<init>", desc := "()V" } : Jvm.MethodName) object_method_1_code (1 : Nat) (Option.none : Option Jvm.ClassFile.FieldType), Jvm.Cond.code ({ cls := "java/lang/StringUTF16", name := "compress", desc := "([CII)[B" } : Jvm.MethodName) jdk_52_method_16_code (6 : Nat) (Option.some (Jvm.ClassFile.FieldType.array Jvm.ClassFile.FieldType.byte)), Jvm.Cond.code ({ cls := "java/lang/StringUTF16", name := "compress", desc := "([CI[BII)I" } : Jvm.MethodName) jdk_52_method_21_code (7 : Nat) (Option.some Jvm.ClassFile.FieldType.int), Jvm.Cond.code ({ cls := "java/lang/StringUTF16", name := "coderFromArrayLen", desc := "([BI)B" } : Jvm.MethodName) jdk_52_method_15_code (2 : Nat) (Option.some Jvm.ClassFile.FieldType.byte), Jvm.Cond.code ({ cls := "com/example/millrace/millrace/api/SinkRecordWithDataPinLaw", name := "data", desc := "(II)Ljava/lang/Object;" } : Jvm.MethodName) method_4_code (3 : Nat) (Option.some (Jvm.ClassFile.FieldType.object "java/lang/Object")), Jvm.Cond.code ({ cls := "com/example/millrace/millrace/api/SinkRecord", name := "<init>", desc := "(Ljava/lang/String;JLcom/example/millrace/millrace/api/Schema;Ljava/lang/Object;Lcom/example/millrace/millrace/api/Schema;Ljava/lang/Object;)V" } : Jvm.MethodName) prog_9_method_1_code (8 : Nat) (Option.none : Option Jvm.ClassFile.FieldType), Jvm.Cond.code ({ cls := "java/lang/Record", name := "<init>", desc := "()V" } : Jvm.MethodName) jdk_30_method_1_code (1 : Nat) (Option.none : Option Jvm.ClassFile.FieldType), Jvm.Cond.code ({ cls := "com/example/millrace/millrace/api/SinkRecord", name := "withData", desc := "(Ljava/lang/String;Lcom/example/millrace/millrace/api/Schema;Ljava/lang/Object;Lcom/example/millrace/millrace/api/Schema;Ljava/lang/Object;)Lcom/example/millrace/millrace/api/SinkRecord;" } : Jvm.MethodName) prog_9_method_2_code (6 : Nat) (Option.some (Jvm.ClassFile.FieldType.object "com/example/millrace/millrace/api/SinkRecord")), Jvm.Cond.code ({ cls := "com/example/millrace/millrace/api/SinkRecord", name := "topic", desc := "()Ljava/lang/String;" } : Jvm.MethodName) prog_9_method_6_code (1 : Nat) (Option.some (Jvm.ClassFile.FieldType.object "java/lang/String")), Jvm.Cond.code ({ cls := "com/example/millrace/millrace/api/SinkRecord", name := "offset", desc := "()J" } : Jvm.MethodName) prog_9_method_7_code (1 : Nat) (Option.some Jvm.ClassFile.FieldType.long), Jvm.Cond.code ({ cls := "com/example/millrace/millrace/api/SinkRecord", name := "keySchema", desc := "()Lcom/example/millrace/millrace/api/Schema;" } : Jvm.MethodName) prog_9_method_8_code (1 : Nat) (Option.some (Jvm.ClassFile.FieldType.object "com/example/millrace/millrace/api/Schema")), Jvm.Cond.code ({ cls := "com/example/millrace/millrace/api/SinkRecord", name := "key", desc := "()Ljava/lang/Object;" } : Jvm.MethodName) prog_9_method_9_code (1 : Nat) (Option.some (Jvm.ClassFile.FieldType.object "java/lang/Object")), Jvm.Cond.code ({ cls := "com/example/millrace/millrace/api/SinkRecord", name := "valueSchema", desc := "()Lcom/example/millrace/millrace/api/Schema;" } : Jvm.MethodName) prog_9_method_10_code (1 : Nat) (Option.some (Jvm.ClassFile.FieldType.object "com/example/millrace/millrace/api/Schema")), Jvm.Cond.code ({ cls := "com/example/millrace/millrace/api/SinkRecord", name := "value", desc := "()Ljava/lang/Object;" } : Jvm.MethodName) prog_9_method_11_code (1 : Nat) (Option.some (Jvm.ClassFile.FieldType.object "java/lang/Object")), Jvm.Cond.code ({ cls := "java/lang/Integer", name := "valueOf", desc := "(I)Ljava/lang/Integer;" } : Jvm.MethodName) jdk_33_method_22_code (1 : Nat) (Option.some (Jvm.ClassFile.FieldType.object "java/lang/Integer")), Jvm.Cond.code ({ cls := "java/lang/Integer", name := "<init>", desc := "(I)V" } : Jvm.MethodName) jdk_33_method_23_code (2 : Nat) (Option.none : Option Jvm.ClassFile.FieldType), Jvm.Cond.code ({ cls := "java/lang/Number", name := "<init>", desc := "()V" } : Jvm.MethodName) jdk_18_method_1_code (1 : Nat) (Option.none : Option Jvm.ClassFile.FieldType)]
set_option maxRecDepth 65536 in
theorem codes_eq : words1.filter isCode = codes1 := rfl
theorem w_codes : ∀ c ∈ words1.filter isCode, c.before args0 about1 = true := by
  rw [codes_eq]
  intro c hc
  simp only [codes1, List.mem_cons, List.not_mem_nil, or_false] at hc
  rcases hc with rfl | rfl | rfl | rfl | rfl | rfl | rfl | rfl | rfl | rfl | rfl | rfl | rfl | rfl | rfl | rfl | rfl | rfl | rfl | rfl | rfl | rfl
  · exact w_c0
  · exact w_c1
  · exact w_c2
  · exact w_c3
  · exact w_c4
  · exact w_c5
  · exact w_c6
  · exact w_c7
  · exact w_c8
  · exact w_c9
  · exact w_c10
  · exact w_c11
  · exact w_c12
  · exact w_c13
  · exact w_c14
  · exact w_c15
  · exact w_c16
  · exact w_c17
  · exact w_c18
  · exact w_c19
  · exact w_c20
  · exact w_c21
set_option maxRecDepth 65536 in
theorem w_t1 : (words1.take 24).all (fun c => isCode c || c.before args0 about1) = true := by decide +kernel
set_option maxRecDepth 65536 in
theorem w_t2 : ((words1.drop 24).take 24).all (fun c => isCode c || c.before args0 about1) = true := by decide +kernel
set_option maxRecDepth 65536 in
theorem w_t3 : (((words1.drop 24).drop 24).take 24).all (fun c => isCode c || c.before args0 about1) = true := by decide +kernel
set_option maxRecDepth 65536 in
theorem w_t4 : ((((words1.drop 24).drop 24).drop 24).take 24).all (fun c => isCode c || c.before args0 about1) = true := by decide +kernel
set_option maxRecDepth 65536 in
theorem w_t5 : (((((words1.drop 24).drop 24).drop 24).drop 24).take 24).all (fun c => isCode c || c.before args0 about1) = true := by decide +kernel
set_option maxRecDepth 65536 in
theorem w_t6 : (((((words1.drop 24).drop 24).drop 24).drop 24).drop 24).all (fun c => isCode c || c.before args0 about1) = true := by decide +kernel
theorem w_tables : (allAtoms (Jvm.Cond.code x code maxLocals ret :: tables_1)).before args0 about1 = true := by
  rw [allAtoms_all]
  show words1.all (fun c => c.before args0 about1) = true
  refine all_split ?_ w_codes
  rw [← List.take_append_drop 24 words1, List.all_append, w_t1, ← List.take_append_drop 24 (words1.drop 24), List.all_append, w_t2, ← List.take_append_drop 24 ((words1.drop 24).drop 24), List.all_append, w_t3, ← List.take_append_drop 24 (((words1.drop 24).drop 24).drop 24), List.all_append, w_t4, ← List.take_append_drop 24 ((((words1.drop 24).drop 24).drop 24).drop 24), List.all_append, w_t5, w_t6]
  rfl
set_option maxRecDepth 65536 in
theorem w_rest : rest_1_c.before args0 about1 = true := by decide +kernel
set_option maxRecDepth 65536 in
theorem w_case : (Jvm.Cond.and given_1 narrow_1).before args0 about1 = true := by decide +kernel
set_option maxRecDepth 65536 in
theorem w_consts : constsHeld consts_1 about1 := Jvm.Lit.constsHeldB_iff.mp (by decide +kernel)
theorem w_applies : (headSpec (Jvm.Cond.code x code maxLocals ret :: tables_1) room_1).applies x e0.platform about1 = true :=
  (Spec.applies_iff w_frames).mpr ⟨w_running, w_runnable, w_alone, w_named, w_hears, w_ripe, w_room, w_tables⟩
theorem atStart : AtStart classFile x code maxLocals ret World_1 tables_1 room_1 Calls_1 rest_1 Pre_1 launch0 p0 e0 about1 theMethod args0 below0 :=
  ⟨lists_1, trivial, launch0.admits_env _ _ _, launch0.least_env, fairChoices_fair.cas, fairChoices_fair.clock, w_frames, w_args, w_heap, w_applies, ⟨w_consts, trivial⟩, w_rest, w_case⟩
end start1
theorem witness_1 : WitnessClaimed_1 := ⟨start1.p0, start1.e0, start1.about1, start1.theMethod, start1.args0, start1.below0, start1.atStart⟩
end Jvm.Pilot.@@N@@
