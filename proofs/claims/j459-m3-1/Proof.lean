import JvmDerived
import JvmDerived.Pilot.@@N@@Statement
import JvmDerived.Pilot.@@N@@Code
set_option linter.unusedVariables false
set_option linter.unusedSimpArgs false
namespace Jvm.RoadKit
open Sem ClassFile Op Lib Jvm.Stand Jvm.Free Jvm.LawKit
section New
variable {p : Program} {l : Launch} {e : Env} {R : Room} {s : State} {m : MethodId} {args : Array Value} {below : List Frame} {meth : Method} {c : Code} {T : State} {locs : List Loc} {cells slots : Nat}
theorem retI (X : Stand p l e R s m args below meth c T locs cells slots) (hx : p.tables.exec = Jvm.exec) {pc : Nat} {Ls : Array Slot} {z : Int32} {rest : List Value} (hret : meth.sig.returnType = some .int) (hd : decode c.code pc = .ok (.ireturn, 1)) {fs : List Frame}
    (hl : ∀ (f : JFrame) (acts : List Action), f.method = m → f.locked = none → f.entered = [] → (doReturn e (T.setTop f) acts (some (.int z))).1 = T.setFrames fs) : Steps p.tables e below (T.setTop (mkF m pc Ls (.int z :: rest))) (T.setFrames fs) := by
  have hm' : T.vm.method? m = some meth := X.method'
  have hn : narrow .int (.int z) = .int z := rfl
  show Steps p.tables e below (T.setTop { method := m, pc := pc, locals := Ls, stack := _ :: rest, locked := none }) _
  jvm_step X.here [X.here.top, hx, hd, hm', hret, hn]
  first | (intro acts; rw [hl _ acts rfl rfl rfl]) | rw [hl _ _ rfl rfl rfl]
  exact Steps.refl _
end New
end Jvm.RoadKit
namespace Jvm.Pilot.@@N@@
open Jvm Jvm.ClassFile Sem Op Lib Jvm.Free Jvm.Stand Jvm.LawKit Jvm.RoadKit Bundle Jvm.Pilot.@@N@@.Jvm.D
def own_cmp (x y : Int64) : Int32 := lcmpW x y
theorem own_lt (x y : Int64) : own_cmp x y < 0 ↔ x < y := by
  unfold own_cmp lcmpW; split <;> (try split) <;> simp_all [Int64.lt_iff_toInt_lt, ← Int64.toInt_inj] <;> omega
theorem own_gt (x y : Int64) : 0 < own_cmp x y ↔ y < x := by
  unfold own_cmp lcmpW; split <;> (try split) <;> simp_all [Int64.lt_iff_toInt_lt, ← Int64.toInt_inj] <;> omega
theorem own_eq0 (x y : Int64) : own_cmp x y = 0 ↔ x = y := by
  unfold own_cmp lcmpW; split <;> (try split) <;> simp_all [Int64.lt_iff_toInt_lt, ← Int64.toInt_inj] <;> omega
theorem own_fld {s : State} {args : Array Value} {t : Term} {x : Addr} {C n d : String} {k : Int32} (ev : t.eval args s none [] s = some (.ref x)) (h : (Jvm.Cond.eq (.field t C n d) (.int k)).value args s none s [] = some true) : Fld s s.heap x C n d (.int k) := by
  have hf := fld_at (C := C) (n := n) (dd := d) ev
  have hk : (Term.int k).eval args s none [] s = some (.int k) := Term.int_eval k
  cases hq : s.fieldOf? x C n d with
  | none => rw [hq] at hf; simp [Cond.value, hf] at h
  | some v =>
    rw [hq] at hf
    cases v <;> simp [Cond.value, hf, hk] at h
    subst h
    exact Fld.start hq
def upd (f : Int32 → Int32) (j v : Int32) : Int32 → Int32 := fun k => if k = j then v else f k
def Ia (Z : State) (h : Heap) (a : Addr) (ty : FieldType) (n : Int32) (f : Int32 → Int32) : Prop := ∃ c : Cell, Arr Z h a c ty ∧ c.slots.size = n.toNatClampNeg ∧ ¬ n < 0 ∧ ∀ j : Int32, ¬ j < 0 → j < n → c.slots[j.toNatClampNeg]? = some (.int (f j))
section OwnIa
variable {Z : State} {h h' : Heap} {a b : Addr} {ty : FieldType} {n j x : Int32} {f : Int32 → Int32} {sl : Nat} {v : Value} {ws : List Addr}
theorem own_ext (K : Keep h h' []) : Ext h h' := ⟨K.1, fun a c q => K.2.1 a c q nin0⟩
theorem Ia.lt (F : Ia Z h a ty n f) : a < h.size := by obtain ⟨c, A, -⟩ := F; exact A.lt
theorem Ia.ext (F : Ia Z h a ty n f) (E : Ext h h') : Ia Z h' a ty n f := by obtain ⟨c, A, r⟩ := F; exact ⟨c, A.ext E, r⟩
theorem Ia.other (F : Ia Z h b ty n f) (W : Wr h h' a sl v) (q : b ≠ a) : Ia Z h' b ty n f := by obtain ⟨c, A, r⟩ := F; exact ⟨c, A.other W q, r⟩
theorem Ia.keep (F : Ia Z h a ty n f) (K : Keep h h' ws) (q : a ∉ ws) : Ia Z h' a ty n f := by obtain ⟨c, A, r⟩ := F; exact ⟨c, ⟨K.2.1 a c A.1 q, A.2⟩, r⟩
theorem Ia.at (F : Ia Z h a ty n f) (q : ¬ j < 0 ∧ j < n) : ∃ c : Cell, Arr Z h a c ty ∧ ¬ (j < 0 ∨ c.slots.size ≤ j.toNatClampNeg) ∧ c.slots[j.toNatClampNeg]? = some (.int (f j)) := by
  obtain ⟨c, A, S, N, G⟩ := F
  exact ⟨c, A, inb_of S q, G j q.1 q.2⟩
theorem Ia.len (F : Ia Z h a ty n f) : ∃ c : Cell, Arr Z h a c ty ∧ c.slots.size = n.toNatClampNeg ∧ ¬ n < 0 := by
  obtain ⟨c, A, S, N, G⟩ := F
  exact ⟨c, A, S, N⟩
theorem Ia.new {k : ClassId} (A : Arr Z h a (newA k ty n) ty) (q : ¬ n < 0) (e : defaultValue ty = .int 0) : Ia Z h a ty n (fun _ => 0) :=
  ⟨_, A, sz_new _ _ _, q, fun j h1 h2 => by
    have hi := inb_of (sz_new k ty n) ⟨h1, h2⟩
    rw [sz_new] at hi
    rw [get_new hi, e]⟩
theorem Ia.set (F : Ia Z h a ty n f) (W : Wr h h' a j.toNatClampNeg (.int x)) (hj : ¬ j < 0) : Ia Z h' a ty n (upd f j x) := by
  obtain ⟨c, A, S, N, G⟩ := F
  refine ⟨_, A.same W, by rw [sz_set]; exact S, N, fun k h1 h2 => ?_⟩
  by_cases e : k = j
  · subst e
    rw [get_hit (inb_of S ⟨h1, h2⟩) rfl]
    exact congrArg (fun z => some (Value.int z)) (if_pos rfl).symm
  · rw [get_miss hj h1 e, G k h1 h2]
    exact congrArg (fun z => some (Value.int z)) (if_neg e).symm
theorem own_nea {C : String} {a0 : Array Value} {k : Nat} (F : Exa Z h a C) (wi : (Jvm.Cond.instantiable C k).before a0 Z = true) (G : Ia Z h b ty n f) : a ≠ b := by
  obtain ⟨c, A, -⟩ := G
  exact ne_arr F wi A
theorem Ia.congr {g : Int32 → Int32} (F : Ia Z h a ty n f) (q : ∀ j : Int32, ¬ j < 0 → j < n → f j = g j) : Ia Z h a ty n g := by
  obtain ⟨c, A, S, N, G⟩ := F
  exact ⟨c, A, S, N, fun k h1 h2 => by rw [← q k h1 h2]; exact G k h1 h2⟩
end OwnIa
theorem own_nat (b : Int32) : b = Int32.ofNat b.toBitVec.toNat := by
  apply Int32.toBitVec_inj.mp
  simp
theorem own_mask (a m : Int32) (k : Nat) (h : m.toBitVec.toNat = k) : ∃ n, n < k + 1 ∧ a &&& m = Int32.ofNat n := by
  refine ⟨(a &&& m).toBitVec.toNat, ?_, own_nat _⟩
  have : (a &&& m).toBitVec.toNat = a.toBitVec.toNat &&& m.toBitVec.toNat := by simp
  rw [this, h]
  exact Nat.lt_succ_of_le Nat.and_le_right
theorem own_ofNat (n : Nat) (h : n < 2147483648) : (Int32.ofNat n).toInt = (n : Int) := Int32.toInt_ofNat_of_lt h
theorem own_rem (n k : Nat) (h : n < 2147483648) (h1 : k < 2147483648) : Int32.ofNat n % Int32.ofNat k = Int32.ofNat (n % k) := by
  apply Int32.toInt_inj.mp
  rw [Int32.toInt_mod, own_ofNat n h, own_ofNat k h1, own_ofNat (n % k) (Nat.lt_of_le_of_lt (Nat.mod_le n k) h)]
  rw [Int.tmod_eq_emod_of_nonneg (by omega)]
  exact (Int.natCast_emod n k).symm
theorem Ia.nn {Z : State} {h : Heap} {a : Addr} {ty : FieldType} {n : Int32} {f : Int32 → Int32} (F : Ia Z h a ty n f) : ¬ n < 0 := by obtain ⟨c, A, S, N, G⟩ := F; exact N
theorem own_inc (i n : Int32) (h : i < n) : (i + 1).toInt = i.toInt + 1 := by
  have h1 := Int32.lt_iff_toInt_lt.mp h
  have r1 := i.le_toInt
  have r2 := n.toInt_lt
  have z1 : (1 : Int32).toInt = 1 := by decide
  rw [Int32.toInt_add, z1]
  exact Int.bmod_eq_of_le (by omega) (by omega)
theorem own_s1 (i n : Int32) (hi : ¬ i < 0) (h : i < n) : ¬ (i + 1) < 0 := fun q => by
  have z0 : (0 : Int32).toInt = 0 := by decide
  have h1 := Int32.lt_iff_toInt_lt.mp q
  have h2 : ¬ (i.toInt < (0 : Int32).toInt) := fun q => hi (Int32.lt_iff_toInt_lt.mpr q)
  rw [own_inc i n h] at h1
  omega
theorem own_s2 (i n : Int32) (h : i < n) : ¬ n < (i + 1) := fun q => by
  have h1 := Int32.lt_iff_toInt_lt.mp q
  have h2 := Int32.lt_iff_toInt_lt.mp h
  rw [own_inc i n h] at h1
  omega
theorem own_s3 (i n : Int32) (k : Nat) (hk : n.toInt - i.toInt < ((k + 1 : Nat) : Int)) (h : i < n) : n.toInt - (i + 1).toInt < (k : Int) := by
  rw [own_inc i n h]
  omega
theorem own_z (i n : Int32) (hj : ¬ n < i) (hk : n.toInt - i.toInt < ((0 : Nat) : Int)) : False := by
  have h2 : ¬ (n.toInt < i.toInt) := fun q => hj (Int32.lt_iff_toInt_lt.mpr q)
  omega
theorem own_clamp (n : Int32) (h : ¬ n < 0) : n.toInt = (n.toNatClampNeg : Int) := by
  have z0 : (0 : Int32).toInt = 0 := by decide
  have h2 : ¬ (n.toInt < (0 : Int32).toInt) := fun q => h (Int32.lt_iff_toInt_lt.mpr q)
  show n.toInt = (n.toInt.toNat : Int)
  omega
theorem own_k0 (n : Int32) (h : ¬ n < 0) : n.toInt - (0 : Int32).toInt < ((n.toNatClampNeg + 1 : Nat) : Int) := by
  have z0 : (0 : Int32).toInt = 0 := by decide
  have := own_clamp n h
  omega
theorem own_tr (i n m : Int32) (h : i < n) (hm : ¬ m < n) : i < m := by
  have h1 := Int32.lt_iff_toInt_lt.mp h
  have h2 : ¬ (m.toInt < n.toInt) := fun q => hm (Int32.lt_iff_toInt_lt.mpr q)
  exact Int32.lt_iff_toInt_lt.mpr (by omega)
def cpy (fs : Int32 → Int32) (sp : Int32) (fd : Int32 → Int32) (dp nn : Int32) : Int32 → Int32 := fun j => if ¬ j < dp ∧ j < dp + nn then fs (sp + (j - dp)) else fd j
section OwnCp
variable {p : Program} {l : Launch} {e : Env} {R : Room} {s : State} {m : MethodId} {args : Array Value} {below : List Frame} {meth : Method} {c : Code} {T : State} {locs : List Loc} {cells slots : Nat} {Z : State} {h : Heap} {a b : Addr}
theorem own_ck (n : Int32) (h : ¬ n < 0) : n.toInt = (n.toNatClampNeg : Int) := nat_of h
theorem own_bk (n : Nat) (h : n < 2147483648) : (Int32.ofNat n).toNatClampNeg = n := by
  have h1 := Int32.toInt_ofNat_of_lt h
  show (Int32.ofNat n).toInt.toNat = n
  rw [h1]
  rfl
theorem own_bj (j : Int32) (h : ¬ j < 0) : Int32.ofNat j.toNatClampNeg = j := by
  apply Int32.toInt_inj.mp
  have h1 := own_ck j h
  have h2 := j.toInt_lt
  rw [Int32.toInt_ofNat_of_lt (by omega)]
  exact h1.symm
theorem own_arv {n : Int32} {f : Int32 → Int32} (F : Ia Z h a .int n f) : ∃ k, Arv Z h a k .int n ((List.range n.toNatClampNeg).map fun i => Value.int (f (Int32.ofNat i))) (.int 0) := by
  obtain ⟨cl, A, S, N, G⟩ := F
  have hn := own_ck n N
  have hlt := n.toInt_lt
  have gd : ∀ i, i < n.toNatClampNeg → ((List.range n.toNatClampNeg).map fun i => Value.int (f (Int32.ofNat i))).getD i (.int 0) = .int (f (Int32.ofNat i)) := fun i hi => by
    rw [List.getD_eq_getElem?_getD, List.getElem?_map, List.getElem?_range hi]
    rfl
  refine ⟨cl.cls, cl, A, rfl, S, N, fun i hi => ?_, fun i hi => ?_⟩
  · rw [S] at hi
    rw [gd i hi]
    have h0 : ¬ Int32.ofNat i < 0 := fun q => by
      have := Int32.lt_iff_toInt_lt.mp q
      rw [Int32.toInt_ofNat_of_lt (by omega)] at this
      have z0 : (0 : Int32).toInt = 0 := by decide
      omega
    have h1 : Int32.ofNat i < n := Int32.lt_iff_toInt_lt.mpr (by rw [Int32.toInt_ofNat_of_lt (by omega)]; omega)
    have := G (Int32.ofNat i) h0 h1
    rw [own_bk i (by omega)] at this
    exact this
  · rw [S] at hi
    rw [gd i hi]
    rfl
theorem own_cp (X : Stand p l e R s m args below meth c T locs cells slots) (hx : p.tables.exec = Jvm.exec) (hZ : Z.Warmed39 s.vm) {a0 : Array Value} {own : String} {index : Nat} (hown : s.vm.findClass own = some m.cls)
    (w1 : (Jvm.Cond.methodLink own index Jvm.Stand.acN).before a0 Z = true) (w2 : (Jvm.Cond.native Jvm.Stand.acN).before a0 Z = true) (w3 : (Jvm.Cond.static Jvm.Stand.acN).before a0 Z = true) (w4 : (Jvm.Cond.initialized "java/lang/System").before a0 Z = true) (eT : T.heap = h)
    {z z' sp dp nn : Int32} {fs fd : Int32 → Int32} (A : Ia Z h a .int z fs) (B : Ia Z h b .int z' fd)
    (h1 : ¬ sp < 0) (h2 : ¬ dp < 0) (h3 : ¬ nn < 0) (h4 : sp.toInt + nn.toInt ≤ z.toInt) (h5 : dp.toInt + nn.toInt ≤ z'.toInt) {n0 : Nat} (N : Fr n0 locs) (ge : n0 ≤ b)
    {g : JFrame} (hg : g.method = m) (hsize : g.locals.size = c.maxLocals) {rest : List Value} (hs : g.stack = .int nn :: .int dp :: .ref b :: .int sp :: .ref a :: rest) (hd : decode c.code g.pc = .ok (.invokestatic index, 3))
    (hf : 1 ≤ R.frames) {W : Nat} (hW : 2 * g.monitorRoom + (rest.map fun v => v.category).sum ≤ W) (hlo : W + (nativeFrameWords "java/lang/System" "arraycopy" 5 + 11) ≤ R.locals) :
    ∃ T' h' L, Stand p l e R s m args below meth c T' L cells slots ∧ T'.heap = h' ∧ Fr n0 L ∧ Keep h h' [b] ∧ Ia Z h' b .int z' (cpy fs sp fd dp nn) ∧
      ∀ target, Steps p.tables e below (T'.setTop { g with pc := g.pc + 3, stack := rest }) target → Steps p.tables e below (T.setTop g) target := by
  have hz := A.nn
  have hz' := B.nn
  obtain ⟨k, A'⟩ := own_arv A
  obtain ⟨k', B'⟩ := own_arv B
  have e1 := own_ck sp h1
  have e2 := own_ck dp h2
  have e3 := own_ck nn h3
  have e4 := own_ck z hz
  have e5 := own_ck z' hz'
  have lt5 := z'.toInt_lt
  have lt4 := z.toInt_lt
  obtain ⟨T', h', L, X', eT', N', K', C', st⟩ := cpA X hx hZ hown w1 w2 w3 w4 eT A' B' (Or.inl ⟨rfl, rfl⟩) h1 h2 h3 (by omega) (by omega) rfl (by rw [List.length_map, List.length_range]; omega) N ge hg hsize hs hd hf hW hlo
  refine ⟨T', h', L, X', eT', N', K', ?_, st⟩
  obtain ⟨cl, Ac, -, S, Nn, H, -⟩ := C'
  refine ⟨cl, Ac, S, Nn, fun j hj hjn => ?_⟩
  have hjn' := Int32.lt_iff_toInt_lt.mp hjn
  have ej := own_ck j hj
  rw [H j.toNatClampNeg (by rw [S]; omega)]
  congr 1
  have len1 : (((List.range z'.toNatClampNeg).map fun i => Value.int (fd (Int32.ofNat i))).take dp.toNatClampNeg).length = dp.toNatClampNeg := by
    rw [List.length_take, List.length_map, List.length_range]; omega
  have len2 : ((List.range nn.toNatClampNeg).map fun i => ((List.range z.toNatClampNeg).map fun i => Value.int (fs (Int32.ofNat i))).getD (sp.toNatClampNeg + i) (.int 0)).length = nn.toNatClampNeg := by
    rw [List.length_map, List.length_range]
  have sdp : (dp + nn).toInt = dp.toInt + nn.toInt := by
    rw [Int32.toInt_add]; exact Int.bmod_eq_of_le (by omega) (by omega)
  rw [List.getD_eq_getElem?_getD]
  unfold cpy
  by_cases q1 : j < dp
  · have q1' := Int32.lt_iff_toInt_lt.mp q1
    rw [if_neg (fun q => q.1 q1), List.append_assoc, List.getElem?_append_left (by rw [len1]; omega), List.getElem?_take_of_lt (by omega), List.getElem?_map, List.getElem?_range (by omega)]
    show Value.int (fd (Int32.ofNat j.toNatClampNeg)) = _
    rw [own_bj j hj]
  · have q1' : ¬ (j.toInt < dp.toInt) := fun q => q1 (Int32.lt_iff_toInt_lt.mpr q)
    by_cases q2 : j < dp + nn
    · have q2' := Int32.lt_iff_toInt_lt.mp q2
      rw [sdp] at q2'
      rw [if_pos ⟨q1, q2⟩, List.append_assoc, List.getElem?_append_right (by rw [len1]; omega), len1, List.getElem?_append_left (by rw [len2]; omega), List.getElem?_map, List.getElem?_range (by omega)]
      show ((List.range z.toNatClampNeg).map fun i => Value.int (fs (Int32.ofNat i))).getD (sp.toNatClampNeg + (j.toNatClampNeg - dp.toNatClampNeg)) (.int 0) = _
      rw [List.getD_eq_getElem?_getD, List.getElem?_map, List.getElem?_range (by omega)]
      show Value.int (fs (Int32.ofNat _)) = _
      congr 2
      apply Int32.toInt_inj.mp
      have s1 : (j - dp).toInt = j.toInt - dp.toInt := by
        rw [Int32.toInt_sub]; exact Int.bmod_eq_of_le (by omega) (by omega)
      have s2 : (sp + (j - dp)).toInt = sp.toInt + (j.toInt - dp.toInt) := by
        rw [Int32.toInt_add, s1]; exact Int.bmod_eq_of_le (by omega) (by omega)
      rw [s2, Int32.toInt_ofNat_of_lt (by omega)]
      omega
    · have q2' : ¬ (j.toInt < dp.toInt + nn.toInt) := fun q => q2 (Int32.lt_iff_toInt_lt.mpr (by rw [sdp]; exact q))
      rw [if_neg (fun q => q2 q.2), List.getElem?_append_right (by rw [List.length_append, len1, len2]; omega), List.length_append, len1, len2, List.getElem?_drop, List.getElem?_map, List.getElem?_range (by omega)]
      show Value.int (fd (Int32.ofNat (dp.toNatClampNeg + nn.toNatClampNeg + (j.toNatClampNeg - (dp.toNatClampNeg + nn.toNatClampNeg))))) = _
      rw [show dp.toNatClampNeg + nn.toNatClampNeg + (j.toNatClampNeg - (dp.toNatClampNeg + nn.toNatClampNeg)) = j.toNatClampNeg from by omega, own_bj j hj]
end OwnCp
theorem own_sel {s : State} {args args' : Array Value} {x y : MethodName} (hc : y.cls = x.cls) (hs : (Jvm.Cond.selects x.cls x x).before args' s = true) (hp : s.PrivateAt y) (hi : (Jvm.Cond.instanceMethod y).before args s = true) (hy : y.cls ≠ "java/lang/invoke/MethodHandle" ∧ y.cls ≠ "java/lang/invoke/VarHandle") : (Jvm.Cond.selects y.cls y y).before args s = true := by
  obtain ⟨c2, r2, m2, -, -, q3, -, kP, hkP, hkPi⟩ := Cond.selects_spec hs
  exact selects_self_of_private (by rw [hc]; exact findClass_of_methodNamed q3) hkP hkPi hp hi hy
theorem own_w (x : Int32) : ∃ n, 1 ≤ n ∧ n ≤ 4 ∧ (1 : Int32) + (x &&& 3) = Int32.ofNat n := by
  obtain ⟨n, hn, e⟩ := own_mask x 3 3 (by decide)
  exact ⟨1 + n, by omega, by omega, by rw [e]; exact (Int32.ofNat_add 1 n).symm⟩
theorem own_c (x : Int32) : ∃ n, 1 ≤ n ∧ n ≤ 16 ∧ (1 : Int32) + (x &&& 15) = Int32.ofNat n := by
  obtain ⟨n, hn, e⟩ := own_mask x 15 15 (by decide)
  exact ⟨1 + n, by omega, by omega, by rw [e]; exact (Int32.ofNat_add 1 n).symm⟩
theorem own_lti (a b : Nat) (ha : a < 1000) (hb : b < 1000) : (Int32.ofNat a < Int32.ofNat b) ↔ a < b := by
  rw [Int32.lt_iff_toInt_lt, own_ofNat a (by omega), own_ofNat b (by omega)]
  omega
theorem own_ofL (n : Nat) (h : n < 1000) : (Int64.ofNat n).toInt = (n : Int) := Int64.toInt_ofNat_of_lt (by omega)
theorem own_ltl (a b : Nat) (ha : a < 1000) (hb : b < 1000) : (Int64.ofNat a < Int64.ofNat b) ↔ a < b := by
  rw [Int64.lt_iff_toInt_lt, own_ofL a ha, own_ofL b hb]
  omega
theorem own_nn (n : Nat) (h : n < 1000) : ¬ Int32.ofNat n < 0 := fun q => by
  have h1 := Int32.lt_iff_toInt_lt.mp q
  rw [own_ofNat n (by omega)] at h1
  have z0 : (0 : Int32).toInt = 0 := by decide
  omega
theorem own_cl (n : Nat) (h : n < 1000) : (Int32.ofNat n).toNatClampNeg = n := by
  show (Int32.ofNat n).toInt.toNat = n
  rw [own_ofNat n (by omega)]
  rfl
theorem own_il (n : Nat) (h : n < 1000) : (Int32.ofNat n).toInt64 = Int64.ofNat n := by
  apply Int64.toInt_inj.mp
  rw [Int32.toInt_toInt64, own_ofNat n (by omega), own_ofL n h]
theorem own_li (n : Nat) (h : n < 1000) : (Int64.ofNat n).toInt32 = Int32.ofNat n := by
  apply Int32.toInt_inj.mp
  rw [Int64.toInt_toInt32, own_ofNat n (by omega), own_ofL n h]
  exact Int.bmod_eq_of_le (by omega) (by omega)
theorem own_mul (a b : Nat) (h : a * b < 1000) (ha : a < 1000) (hb : b < 1000) : Int32.ofNat a * Int32.ofNat b = Int32.ofNat (a * b) := by
  apply Int32.toInt_inj.mp
  rw [Int32.toInt_mul, own_ofNat a (by omega), own_ofNat b (by omega), own_ofNat (a * b) (by omega)]
  have : (a : Int) * (b : Int) = ((a * b : Nat) : Int) := (Int.natCast_mul a b).symm
  rw [this]
  exact Int.bmod_eq_of_le (by omega) (by omega)
theorem own_mulL (a b : Nat) (h : a * b < 1000) (ha : a < 1000) (hb : b < 1000) : Int64.ofNat a * Int64.ofNat b = Int64.ofNat (a * b) := by
  apply Int64.toInt_inj.mp
  rw [Int64.toInt_mul, own_ofL a ha, own_ofL b hb, own_ofL (a * b) h]
  have : (a : Int) * (b : Int) = ((a * b : Nat) : Int) := (Int.natCast_mul a b).symm
  rw [this]
  exact Int.bmod_eq_of_le (by omega) (by omega)
theorem own_addL (a b : Nat) : Int64.ofNat a + Int64.ofNat b = Int64.ofNat (a + b) := (Int64.ofNat_add a b).symm
theorem own_mb (a b : Nat) (ha : a ≤ 32) (hb : b ≤ 4) : a * b ≤ 128 := Nat.mul_le_mul ha hb
theorem own_need (S C W : Nat) (hS : S ≤ 16) (hC : C ≤ 16) (hW : W ≤ 4) : ((Int32.ofNat S).toInt64 + Int64.ofNat C) * (Int32.ofNat W).toInt64 = Int64.ofNat ((S + C) * W) := by
  have h := own_mb (S + C) W (by omega) hW
  rw [own_il S (by omega), own_il W (by omega), own_addL, own_mulL (S + C) W (by omega) (by omega) (by omega)]
theorem own_r1 (C S : Nat) (hC : C ≤ 16) (hS : S ≤ 16) : ¬ (0 : Int32) < own_cmp (Int64.ofNat C) (((2147483639 : Int32) - Int32.ofNat S).toInt64) := by
  rw [own_gt, Int64.lt_iff_toInt_lt, Int32.toInt_toInt64, Int32.toInt_sub, own_ofNat S (by omega), own_ofL C (by omega), show (2147483639 : Int32).toInt = 2147483639 from by decide]
  rw [Int.bmod_eq_of_le (by omega) (by omega)]
  omega
theorem own_r2 (C S W : Nat) (hC : C ≤ 16) (hS : S ≤ 16) (hW : W ≤ 4) : ¬ (0 : Int32) < own_cmp (((Int32.ofNat S).toInt64 + Int64.ofNat C) * (Int32.ofNat W).toInt64) (2147483639 : Int64) := by
  have h := own_mb (S + C) W (by omega) hW
  rw [own_need S C W hS hC hW, own_gt, Int64.lt_iff_toInt_lt, own_ofL _ (by omega), show (2147483639 : Int64).toInt = 2147483639 from by decide]
  omega
theorem own_r3 (C S W N : Nat) (hC : C ≤ 16) (hS : S ≤ 16) (hW : W ≤ 4) (hN : N ≤ 200) : ((0 : Int32) < own_cmp (((Int32.ofNat S).toInt64 + Int64.ofNat C) * (Int32.ofNat W).toInt64) ((Int32.ofNat N).toInt64)) ↔ N < (S + C) * W := by
  have h := own_mb (S + C) W (by omega) hW
  rw [own_need S C W hS hC hW, own_gt, own_il N (by omega), own_ltl N _ (by omega) (by omega)]
theorem own_c4 (W : Nat) (h : W ≤ 4) : (0 : Int32).toInt + (Int32.ofNat W).toInt ≤ (Int32.ofNat W).toInt := by
  have z0 : (0 : Int32).toInt = 0 := by decide
  omega
theorem own_c5 (I W N : Nat) (h : I + W ≤ N) (hN : N ≤ 200) : (Int32.ofNat I).toInt + (Int32.ofNat W).toInt ≤ (Int32.ofNat N).toInt := by
  rw [own_ofNat I (by omega), own_ofNat W (by omega), own_ofNat N (by omega)]
  omega
theorem own_rest (I J C W N : Nat) (hJ : J < C) (h : I + (C - J) * W ≤ N) : I + W ≤ N ∧ (I + W) + (C - (J + 1)) * W ≤ N := by
  have e : C - J = (C - (J + 1)) + 1 := by omega
  rw [e, Nat.add_mul] at h
  omega
theorem own_jlt (J C : Nat) (hJ : J < 1000) (hC : C < 1000) (h : own_cmp (Int64.ofNat J) (Int64.ofNat C) < 0) : J < C := (own_ltl J C hJ hC).mp ((own_lt _ _).mp h)
-- body 1: com/example/nestway/nestway/sparql/AnswerTableGetPinLaw.fill(IIIII)[I
theorem d1_0 : decode method_3_code 0 = .ok (.iload_n 0, 1) := by decide +kernel
theorem d1_1 : decode method_3_code 1 = .ok (.newarray .int, 2) := by decide +kernel
theorem d1_3 : decode method_3_code 3 = .ok (.astore 5, 2) := by decide +kernel
theorem d1_5 : decode method_3_code 5 = .ok (.aload 5, 2) := by decide +kernel
theorem d1_7 : decode method_3_code 7 = .ok (.iconst 0, 1) := by decide +kernel
theorem d1_8 : decode method_3_code 8 = .ok (.iload_n 1, 1) := by decide +kernel
theorem d1_9 : decode method_3_code 9 = .ok (.iastore, 1) := by decide +kernel
theorem d1_10 : decode method_3_code 10 = .ok (.iload_n 0, 1) := by decide +kernel
theorem d1_11 : decode method_3_code 11 = .ok (.iconst 1, 1) := by decide +kernel
theorem d1_12 : decode method_3_code 12 = .ok (.if_icmp .le 8, 3) := by decide +kernel
theorem d1_15 : decode method_3_code 15 = .ok (.aload 5, 2) := by decide +kernel
theorem d1_17 : decode method_3_code 17 = .ok (.iconst 1, 1) := by decide +kernel
theorem d1_18 : decode method_3_code 18 = .ok (.iload_n 2, 1) := by decide +kernel
theorem d1_19 : decode method_3_code 19 = .ok (.iastore, 1) := by decide +kernel
theorem d1_20 : decode method_3_code 20 = .ok (.iload_n 0, 1) := by decide +kernel
theorem d1_21 : decode method_3_code 21 = .ok (.iconst 2, 1) := by decide +kernel
theorem d1_22 : decode method_3_code 22 = .ok (.if_icmp .le 8, 3) := by decide +kernel
theorem d1_25 : decode method_3_code 25 = .ok (.aload 5, 2) := by decide +kernel
theorem d1_27 : decode method_3_code 27 = .ok (.iconst 2, 1) := by decide +kernel
theorem d1_28 : decode method_3_code 28 = .ok (.iload_n 3, 1) := by decide +kernel
theorem d1_29 : decode method_3_code 29 = .ok (.iastore, 1) := by decide +kernel
theorem d1_30 : decode method_3_code 30 = .ok (.iload_n 0, 1) := by decide +kernel
theorem d1_31 : decode method_3_code 31 = .ok (.iconst 3, 1) := by decide +kernel
theorem d1_32 : decode method_3_code 32 = .ok (.if_icmp .le 9, 3) := by decide +kernel
theorem d1_35 : decode method_3_code 35 = .ok (.aload 5, 2) := by decide +kernel
theorem d1_37 : decode method_3_code 37 = .ok (.iconst 3, 1) := by decide +kernel
theorem d1_38 : decode method_3_code 38 = .ok (.iload 4, 2) := by decide +kernel
theorem d1_40 : decode method_3_code 40 = .ok (.iastore, 1) := by decide +kernel
theorem d1_41 : decode method_3_code 41 = .ok (.aload 5, 2) := by decide +kernel
theorem d1_43 : decode method_3_code 43 = .ok (.areturn, 1) := by decide +kernel
theorem pn_1 : plainName "com/example/nestway/nestway/sparql/AnswerTableGetPinLaw" = true := by first | (simp [plainName, overriddenIn]; done) | decide +kernel
theorem ef_1 (m : MethodId) (p1 : Int32) (p2 : Int32) (p3 : Int32) (p4 : Int32) (p5 : Int32) : entryFrame m #[(.int p1), (.int p2), (.int p3), (.int p4), (.int p5)] 6 = mkF m 0 #[.val (.int p1), .val (.int p2), .val (.int p3), .val (.int p4), .val (.int p5), .unset] [] := by first | (simp [entryFrame, mkF, argsToLocals, Value.category]; done) | rfl
def f1_u1 (p2 : Int32) : Int32 → Int32 := (upd (fun _ => 0) (0 : Int32) p2)
def f1_u2 (p2 : Int32) (p3 : Int32) : Int32 → Int32 := (upd (f1_u1 p2) (1 : Int32) p3)
def f1_u3 (p1 : Int32) (p2 : Int32) (p3 : Int32) : Int32 → Int32 := (if (1 : Int32) < p1 then (f1_u2 p2 p3) else (f1_u1 p2))
def f1_u4 (p1 : Int32) (p2 : Int32) (p3 : Int32) (p4 : Int32) : Int32 → Int32 := (upd (f1_u3 p1 p2 p3) (2 : Int32) p4)
def f1_u5 (p1 : Int32) (p2 : Int32) (p3 : Int32) (p4 : Int32) : Int32 → Int32 := (if (2 : Int32) < p1 then (f1_u4 p1 p2 p3 p4) else (f1_u3 p1 p2 p3))
def f1_u6 (p1 : Int32) (p2 : Int32) (p3 : Int32) (p4 : Int32) (p5 : Int32) : Int32 → Int32 := (upd (f1_u5 p1 p2 p3 p4) (3 : Int32) p5)
def f1_u7 (p1 : Int32) (p2 : Int32) (p3 : Int32) (p4 : Int32) (p5 : Int32) : Int32 → Int32 := (if (3 : Int32) < p1 then (f1_u6 p1 p2 p3 p4 p5) else (f1_u5 p1 p2 p3 p4))
def Q1 (Z : State) (p1 : Int32) (p2 : Int32) (p3 : Int32) (p4 : Int32) (p5 : Int32) (h0 : Heap) (n0 : Nat) (v : Option Value) (h : Heap) (L : List Loc) : Prop := ∃ x1 : Addr, v = some (.ref x1) ∧ Fr n0 L ∧ Keep h0 h [] ∧ h0.size ≤ x1 ∧ n0 ≤ x1 ∧ Ia Z h x1 .int p1 (f1_u7 p1 p2 p3 p4 p5)
set_option maxRecDepth 65536 in
set_option maxHeartbeats 40000000 in
theorem rm1 (l : Launch) (Z : State) (a0 : Array Value) (hw : ∀ d ∈ tables_1, d.before a0 Z = true) (ws : List Jvm.Cond) (p1 : Int32) (p2 : Int32) (p3 : Int32) (p4 : Int32) (p5 : Int32) (h0 : Heap) (n0 : Nat) (Z0 : n0 ≤ h0.size) (hn : ¬ p1 < 0) (hc : p1.toNatClampNeg ≤ 4) (hp : 0 < p1) :
    MetFree l (⟨"com/example/nestway/nestway/sparql/AnswerTableGetPinLaw", "fill", "(IIIII)[I"⟩ : MethodName) (head1 (Jvm.Cond.code (⟨"com/example/nestway/nestway/sparql/AnswerTableGetPinLaw", "fill", "(IIIII)[I"⟩ : MethodName) method_3_code 6 (some (.array .int)) :: ws) ({ frames := 0, cells := 1, slots := 4, locals := 0 } : Room)) (fun a U => a = #[(.int p1), (.int p2), (.int p3), (.int p4), (.int p5)] ∧ Z.Warmed39 U.vm ∧ U.heap = h0) (fun _ _ _ _ _ => True) (fun _ U o U' => ∃ v L, o = .returned v ∧ Q1 Z p1 p2 p3 p4 p5 h0 n0 v U'.heap L ∧ FrameEnd U o U' L ({ frames := 0, cells := 1, slots := 4, locals := 0 } : Room).cells ({ frames := 0, cells := 1, slots := 4, locals := 0 } : Room).slots) := by
  refine MetFree.of_bodySF (plainFor_of_name pn_1) hisR ?_
  intro p e s m args below meth c s₁ Bd hml0 hP hK
  obtain ⟨rfl, hZ, hh⟩ := hP
  have hx := Bd.exec
  have hby := Bd.bytes
  have hml : c.maxLocals = 6 := hml0
  have hown : s.vm.findClass "com/example/nestway/nestway/sparql/AnswerTableGetPinLaw" = some m.cls := findClass_of_methodNamed Bd.named
  have hnm := (name_of_methodNamed Bd.named Bd.method).1
  have X0 : Stand p l e ({ frames := 0, cells := 1, slots := 4, locals := 0 } : Room) s m #[(.int p1), (.int p2), (.int p3), (.int p4), (.int p5)] below meth c s₁ [] 0 0 := Stand.of_body Bd
  have e0 : s₁.heap = h0 := by rw [← hh, Bd.state]; rfl
  have N0 := Fr.nil n0
  have pre0 : ∀ t, Steps p.tables e below (s₁.setTop (mkF m 0 #[.val (.int p1), .val (.int p2), .val (.int p3), .val (.int p4), .val (.int p5), .unset] [])) t → Steps p.tables e below (s₁.setTop (entryFrame m #[(.int p1), (.int p2), (.int p3), (.int p4), (.int p5)] 6)) t := fun t k => castTop (ef_1 m p1 p2 p3 p4 p5) k
  have K1 : ∀ t, Steps p.tables e below (s₁.setTop (mkF m 1 #[.val (.int p1), .val (.int p2), .val (.int p3), .val (.int p4), .val (.int p5), .unset] [(.int p1)])) t → Steps p.tables e below (s₁.setTop (mkF m 0 #[.val (.int p1), .val (.int p2), .val (.int p3), .val (.int p4), .val (.int p5), .unset] [])) t := by
    intro t k
    refine XS.iloadN X0.here hx rfl (Jvm.hb hby d1_0) rfl ?_
    show Steps p.tables e below (s₁.setTop (mkF m 1 #[.val (.int p1), .val (.int p2), .val (.int p3), .val (.int p4), .val (.int p5), .unset] [(.int p1)])) t
    exact k
  obtain ⟨T2, h2, k2, X2, e2, E2, A2, st2⟩ := newP X0 hx hZ (hw _ (List.mem_of_getElem? (i := 4) rfl)) e0 (g := (mkF m 1 #[.val (.int p1), .val (.int p2), .val (.int p3), .val (.int p4), .val (.int p5), .unset] [(.int p1)])) rfl (Jvm.hb hby d1_1) rfl hn (cap := 4) hc (by decide) (by decide) (by decide)
  obtain ⟨b2, g2⟩ : ∃ z, z = h0.size := ⟨_, rfl⟩
  rw [← g2] at A2 st2
  have KP2 : Keep h0 h2 [] := (Keep.refl h0 []).ext E2
  have gb_b2 : n0 ≤ b2 := Nat.le_trans Z0 (Nat.le_of_eq g2.symm)
  have sz_b2 : h0.size ≤ b2 := Nat.le_trans (Keep.refl h0 []).1 (Nat.le_of_eq g2.symm)
  have V2 : Ia Z h2 b2 .int p1 (fun _ => 0) := Ia.new A2 hn rfl
  have K3 : ∀ t, Steps p.tables e below (T2.setTop (mkF m 3 #[.val (.int p1), .val (.int p2), .val (.int p3), .val (.int p4), .val (.int p5), .unset] [(.ref b2)])) t → Steps p.tables e below (s₁.setTop (mkF m 1 #[.val (.int p1), .val (.int p2), .val (.int p3), .val (.int p4), .val (.int p5), .unset] [(.int p1)])) t := fun t k => st2 _ k
  have K4 : ∀ t, Steps p.tables e below (T2.setTop (mkF m 9 #[.val (.int p1), .val (.int p2), .val (.int p3), .val (.int p4), .val (.int p5), .val (.ref b2)] [(.int p2), (.int (0 : Int32)), (.ref b2)])) t → Steps p.tables e below (T2.setTop (mkF m 3 #[.val (.int p1), .val (.int p2), .val (.int p3), .val (.int p4), .val (.int p5), .unset] [(.ref b2)])) t := by
    intro t k
    refine XS.astore X2.here hx rfl (Jvm.hb hby d1_3) rfl rfl (l' := #[.val (.int p1), .val (.int p2), .val (.int p3), .val (.int p4), .val (.int p5), .val (.ref b2)]) rfl ?_
    show Steps p.tables e below (T2.setTop (mkF m 5 #[.val (.int p1), .val (.int p2), .val (.int p3), .val (.int p4), .val (.int p5), .val (.ref b2)] [])) t
    refine XS.aload X2.here hx rfl (Jvm.hb hby d1_5) rfl rfl ?_
    show Steps p.tables e below (T2.setTop (mkF m 7 #[.val (.int p1), .val (.int p2), .val (.int p3), .val (.int p4), .val (.int p5), .val (.ref b2)] [(.ref b2)])) t
    refine XS.iconst X2.here hx rfl (Jvm.hb hby d1_7) ?_
    show Steps p.tables e below (T2.setTop (mkF m 8 #[.val (.int p1), .val (.int p2), .val (.int p3), .val (.int p4), .val (.int p5), .val (.ref b2)] [(.int (0 : Int32)), (.ref b2)])) t
    refine XS.iloadN X2.here hx rfl (Jvm.hb hby d1_8) rfl ?_
    show Steps p.tables e below (T2.setTop (mkF m 9 #[.val (.int p1), .val (.int p2), .val (.int p3), .val (.int p4), .val (.int p5), .val (.ref b2)] [(.int p2), (.int (0 : Int32)), (.ref b2)])) t
    exact k
  have hin5 : ¬ (0 : Int32) < 0 ∧ (0 : Int32) < p1 := by exact ⟨by decide, hp⟩
  obtain ⟨cl5, Aq5, hj5, aq5⟩ := Ia.at V2 hin5
  obtain ⟨T5, h5, X5, e5, W5, st5⟩ := stI X2 hx hZ e2 Aq5 (j := (0 : Int32)) hj5 (g := (mkF m 9 #[.val (.int p1), .val (.int p2), .val (.int p3), .val (.int p4), .val (.int p5), .val (.ref b2)] [(.int p2), (.int (0 : Int32)), (.ref b2)])) rfl rfl (Jvm.hb hby d1_9)
  have KP5 : Keep h0 h5 [] := KP2.wr W5 (Or.inr sz_b2)
  have N5 := Fr.snoc X5 N0 gb_b2
  have Aw5 : Ia Z h5 b2 .int p1 (f1_u1 p2) := V2.set W5 hin5.1
  have K6 : ∀ t, Steps p.tables e below (T5.setTop (mkF m 10 #[.val (.int p1), .val (.int p2), .val (.int p3), .val (.int p4), .val (.int p5), .val (.ref b2)] [])) t → Steps p.tables e below (T2.setTop (mkF m 9 #[.val (.int p1), .val (.int p2), .val (.int p3), .val (.int p4), .val (.int p5), .val (.ref b2)] [(.int p2), (.int (0 : Int32)), (.ref b2)])) t := fun t k => st5 _ k
  have K7 : ∀ t, Steps p.tables e below (T5.setTop (mkF m 12 #[.val (.int p1), .val (.int p2), .val (.int p3), .val (.int p4), .val (.int p5), .val (.ref b2)] [(.int (1 : Int32)), (.int p1)])) t → Steps p.tables e below (T5.setTop (mkF m 10 #[.val (.int p1), .val (.int p2), .val (.int p3), .val (.int p4), .val (.int p5), .val (.ref b2)] [])) t := by
    intro t k
    refine XS.iloadN X5.here hx rfl (Jvm.hb hby d1_10) rfl ?_
    show Steps p.tables e below (T5.setTop (mkF m 11 #[.val (.int p1), .val (.int p2), .val (.int p3), .val (.int p4), .val (.int p5), .val (.ref b2)] [(.int p1)])) t
    refine XS.iconst X5.here hx rfl (Jvm.hb hby d1_11) ?_
    show Steps p.tables e below (T5.setTop (mkF m 12 #[.val (.int p1), .val (.int p2), .val (.int p3), .val (.int p4), .val (.int p5), .val (.ref b2)] [(.int (1 : Int32)), (.int p1)])) t
    exact k
  obtain ⟨Tm8, hm8, Lm8, Xm8, em8, Nm8, KPm8, Mm8_1, Km8⟩ : ∃ (T' : State) (h' : Heap) (L' : List Loc), Stand p l e ({ frames := 0, cells := 1, slots := 4, locals := 0 } : Room) s m #[(.int p1), (.int p2), (.int p3), (.int p4), (.int p5)] below meth c T' L' 1 4 ∧ T'.heap = h' ∧ Fr n0 L' ∧ Keep h0 h' [] ∧ Ia Z h' b2 .int p1 (f1_u3 p1 p2 p3) ∧ ∀ t, Steps p.tables e below (T'.setTop (mkF m 20 #[.val (.int p1), .val (.int p2), .val (.int p3), .val (.int p4), .val (.int p5), .val (.ref b2)] [])) t → Steps p.tables e below (T5.setTop (mkF m 12 #[.val (.int p1), .val (.int p2), .val (.int p3), .val (.int p4), .val (.int p5), .val (.ref b2)] [(.int (1 : Int32)), (.int p1)])) t := by
    by_cases hc8 : (1 : Int32) < p1
    · have K9 : ∀ t, Steps p.tables e below (T5.setTop (mkF m 15 #[.val (.int p1), .val (.int p2), .val (.int p3), .val (.int p4), .val (.int p5), .val (.ref b2)] [])) t → Steps p.tables e below (T5.setTop (mkF m 12 #[.val (.int p1), .val (.int p2), .val (.int p3), .val (.int p4), .val (.int p5), .val (.ref b2)] [(.int (1 : Int32)), (.int p1)])) t := by
        intro t k
        refine XS.icmpNo X5.here hx rfl (Jvm.hb hby d1_12) rfl (tlt hc8).2.2.2 ?_
        exact k
      have K10 : ∀ t, Steps p.tables e below (T5.setTop (mkF m 19 #[.val (.int p1), .val (.int p2), .val (.int p3), .val (.int p4), .val (.int p5), .val (.ref b2)] [(.int p3), (.int (1 : Int32)), (.ref b2)])) t → Steps p.tables e below (T5.setTop (mkF m 15 #[.val (.int p1), .val (.int p2), .val (.int p3), .val (.int p4), .val (.int p5), .val (.ref b2)] [])) t := by
        intro t k
        refine XS.aload X5.here hx rfl (Jvm.hb hby d1_15) rfl rfl ?_
        show Steps p.tables e below (T5.setTop (mkF m 17 #[.val (.int p1), .val (.int p2), .val (.int p3), .val (.int p4), .val (.int p5), .val (.ref b2)] [(.ref b2)])) t
        refine XS.iconst X5.here hx rfl (Jvm.hb hby d1_17) ?_
        show Steps p.tables e below (T5.setTop (mkF m 18 #[.val (.int p1), .val (.int p2), .val (.int p3), .val (.int p4), .val (.int p5), .val (.ref b2)] [(.int (1 : Int32)), (.ref b2)])) t
        refine XS.iloadN X5.here hx rfl (Jvm.hb hby d1_18) rfl ?_
        show Steps p.tables e below (T5.setTop (mkF m 19 #[.val (.int p1), .val (.int p2), .val (.int p3), .val (.int p4), .val (.int p5), .val (.ref b2)] [(.int p3), (.int (1 : Int32)), (.ref b2)])) t
        exact k
      have hin11 : ¬ (1 : Int32) < 0 ∧ (1 : Int32) < p1 := by exact ⟨by decide, by assumption⟩
      obtain ⟨cl11, Aq11, hj11, aq11⟩ := Ia.at Aw5 hin11
      obtain ⟨T11, h11, X11, e11, W11, st11⟩ := stI X5 hx hZ e5 Aq11 (j := (1 : Int32)) hj11 (g := (mkF m 19 #[.val (.int p1), .val (.int p2), .val (.int p3), .val (.int p4), .val (.int p5), .val (.ref b2)] [(.int p3), (.int (1 : Int32)), (.ref b2)])) rfl rfl (Jvm.hb hby d1_19)
      have KP11 : Keep h0 h11 [] := KP5.wr W11 (Or.inr sz_b2)
      have N11 := Fr.snoc X11 N5 gb_b2
      have Aw11 : Ia Z h11 b2 .int p1 (f1_u2 p2 p3) := Aw5.set W11 hin11.1
      have K12 : ∀ t, Steps p.tables e below (T11.setTop (mkF m 20 #[.val (.int p1), .val (.int p2), .val (.int p3), .val (.int p4), .val (.int p5), .val (.ref b2)] [])) t → Steps p.tables e below (T5.setTop (mkF m 19 #[.val (.int p1), .val (.int p2), .val (.int p3), .val (.int p4), .val (.int p5), .val (.ref b2)] [(.int p3), (.int (1 : Int32)), (.ref b2)])) t := fun t k => st11 _ k
      refine ⟨T11, _, _, X11, e11, N11, KP11, (by rw [show (f1_u3 p1 p2 p3) = (f1_u2 p2 p3) from if_pos hc8]; exact Aw11), fun t k => ?_⟩
      exact K9 _ (K10 _ (K12 _ (k)))
    · have K13 : ∀ t, Steps p.tables e below (T5.setTop (mkF m 20 #[.val (.int p1), .val (.int p2), .val (.int p3), .val (.int p4), .val (.int p5), .val (.ref b2)] [])) t → Steps p.tables e below (T5.setTop (mkF m 12 #[.val (.int p1), .val (.int p2), .val (.int p3), .val (.int p4), .val (.int p5), .val (.ref b2)] [(.int (1 : Int32)), (.int p1)])) t := by
        intro t k
        refine XS.icmpYes X5.here hx rfl (pc0 := 12) (pc' := 20) rfl (Jvm.hb hby d1_12) rfl (flt hc8).2.2.2 (by decide) (by decide) ?_
        exact k
      refine ⟨T5, _, _, X5, e5, N5, KP5, (by rw [show (f1_u3 p1 p2 p3) = (f1_u1 p2) from if_neg hc8]; exact Aw5), fun t k => ?_⟩
      exact K13 _ (k)
  have K14 : ∀ t, Steps p.tables e below (Tm8.setTop (mkF m 22 #[.val (.int p1), .val (.int p2), .val (.int p3), .val (.int p4), .val (.int p5), .val (.ref b2)] [(.int (2 : Int32)), (.int p1)])) t → Steps p.tables e below (Tm8.setTop (mkF m 20 #[.val (.int p1), .val (.int p2), .val (.int p3), .val (.int p4), .val (.int p5), .val (.ref b2)] [])) t := by
    intro t k
    refine XS.iloadN Xm8.here hx rfl (Jvm.hb hby d1_20) rfl ?_
    show Steps p.tables e below (Tm8.setTop (mkF m 21 #[.val (.int p1), .val (.int p2), .val (.int p3), .val (.int p4), .val (.int p5), .val (.ref b2)] [(.int p1)])) t
    refine XS.iconst Xm8.here hx rfl (Jvm.hb hby d1_21) ?_
    show Steps p.tables e below (Tm8.setTop (mkF m 22 #[.val (.int p1), .val (.int p2), .val (.int p3), .val (.int p4), .val (.int p5), .val (.ref b2)] [(.int (2 : Int32)), (.int p1)])) t
    exact k
  obtain ⟨Tm15, hm15, Lm15, Xm15, em15, Nm15, KPm15, Mm15_1, Km15⟩ : ∃ (T' : State) (h' : Heap) (L' : List Loc), Stand p l e ({ frames := 0, cells := 1, slots := 4, locals := 0 } : Room) s m #[(.int p1), (.int p2), (.int p3), (.int p4), (.int p5)] below meth c T' L' 1 4 ∧ T'.heap = h' ∧ Fr n0 L' ∧ Keep h0 h' [] ∧ Ia Z h' b2 .int p1 (f1_u5 p1 p2 p3 p4) ∧ ∀ t, Steps p.tables e below (T'.setTop (mkF m 30 #[.val (.int p1), .val (.int p2), .val (.int p3), .val (.int p4), .val (.int p5), .val (.ref b2)] [])) t → Steps p.tables e below (Tm8.setTop (mkF m 22 #[.val (.int p1), .val (.int p2), .val (.int p3), .val (.int p4), .val (.int p5), .val (.ref b2)] [(.int (2 : Int32)), (.int p1)])) t := by
    by_cases hc15 : (2 : Int32) < p1
    · have K16 : ∀ t, Steps p.tables e below (Tm8.setTop (mkF m 25 #[.val (.int p1), .val (.int p2), .val (.int p3), .val (.int p4), .val (.int p5), .val (.ref b2)] [])) t → Steps p.tables e below (Tm8.setTop (mkF m 22 #[.val (.int p1), .val (.int p2), .val (.int p3), .val (.int p4), .val (.int p5), .val (.ref b2)] [(.int (2 : Int32)), (.int p1)])) t := by
        intro t k
        refine XS.icmpNo Xm8.here hx rfl (Jvm.hb hby d1_22) rfl (tlt hc15).2.2.2 ?_
        exact k
      have K17 : ∀ t, Steps p.tables e below (Tm8.setTop (mkF m 29 #[.val (.int p1), .val (.int p2), .val (.int p3), .val (.int p4), .val (.int p5), .val (.ref b2)] [(.int p4), (.int (2 : Int32)), (.ref b2)])) t → Steps p.tables e below (Tm8.setTop (mkF m 25 #[.val (.int p1), .val (.int p2), .val (.int p3), .val (.int p4), .val (.int p5), .val (.ref b2)] [])) t := by
        intro t k
        refine XS.aload Xm8.here hx rfl (Jvm.hb hby d1_25) rfl rfl ?_
        show Steps p.tables e below (Tm8.setTop (mkF m 27 #[.val (.int p1), .val (.int p2), .val (.int p3), .val (.int p4), .val (.int p5), .val (.ref b2)] [(.ref b2)])) t
        refine XS.iconst Xm8.here hx rfl (Jvm.hb hby d1_27) ?_
        show Steps p.tables e below (Tm8.setTop (mkF m 28 #[.val (.int p1), .val (.int p2), .val (.int p3), .val (.int p4), .val (.int p5), .val (.ref b2)] [(.int (2 : Int32)), (.ref b2)])) t
        refine XS.iloadN Xm8.here hx rfl (Jvm.hb hby d1_28) rfl ?_
        show Steps p.tables e below (Tm8.setTop (mkF m 29 #[.val (.int p1), .val (.int p2), .val (.int p3), .val (.int p4), .val (.int p5), .val (.ref b2)] [(.int p4), (.int (2 : Int32)), (.ref b2)])) t
        exact k
      have hin18 : ¬ (2 : Int32) < 0 ∧ (2 : Int32) < p1 := by exact ⟨by decide, by assumption⟩
      obtain ⟨cl18, Aq18, hj18, aq18⟩ := Ia.at Mm8_1 hin18
      obtain ⟨T18, h18, X18, e18, W18, st18⟩ := stI Xm8 hx hZ em8 Aq18 (j := (2 : Int32)) hj18 (g := (mkF m 29 #[.val (.int p1), .val (.int p2), .val (.int p3), .val (.int p4), .val (.int p5), .val (.ref b2)] [(.int p4), (.int (2 : Int32)), (.ref b2)])) rfl rfl (Jvm.hb hby d1_29)
      have KP18 : Keep h0 h18 [] := KPm8.wr W18 (Or.inr sz_b2)
      have N18 := Fr.snoc X18 Nm8 gb_b2
      have Aw18 : Ia Z h18 b2 .int p1 (f1_u4 p1 p2 p3 p4) := Mm8_1.set W18 hin18.1
      have K19 : ∀ t, Steps p.tables e below (T18.setTop (mkF m 30 #[.val (.int p1), .val (.int p2), .val (.int p3), .val (.int p4), .val (.int p5), .val (.ref b2)] [])) t → Steps p.tables e below (Tm8.setTop (mkF m 29 #[.val (.int p1), .val (.int p2), .val (.int p3), .val (.int p4), .val (.int p5), .val (.ref b2)] [(.int p4), (.int (2 : Int32)), (.ref b2)])) t := fun t k => st18 _ k
      refine ⟨T18, _, _, X18, e18, N18, KP18, (by rw [show (f1_u5 p1 p2 p3 p4) = (f1_u4 p1 p2 p3 p4) from if_pos hc15]; exact Aw18), fun t k => ?_⟩
      exact K16 _ (K17 _ (K19 _ (k)))
    · have K20 : ∀ t, Steps p.tables e below (Tm8.setTop (mkF m 30 #[.val (.int p1), .val (.int p2), .val (.int p3), .val (.int p4), .val (.int p5), .val (.ref b2)] [])) t → Steps p.tables e below (Tm8.setTop (mkF m 22 #[.val (.int p1), .val (.int p2), .val (.int p3), .val (.int p4), .val (.int p5), .val (.ref b2)] [(.int (2 : Int32)), (.int p1)])) t := by
        intro t k
        refine XS.icmpYes Xm8.here hx rfl (pc0 := 22) (pc' := 30) rfl (Jvm.hb hby d1_22) rfl (flt hc15).2.2.2 (by decide) (by decide) ?_
        exact k
      refine ⟨Tm8, _, _, Xm8, em8, Nm8, KPm8, (by rw [show (f1_u5 p1 p2 p3 p4) = (f1_u3 p1 p2 p3) from if_neg hc15]; exact Mm8_1), fun t k => ?_⟩
      exact K20 _ (k)
  have K21 : ∀ t, Steps p.tables e below (Tm15.setTop (mkF m 32 #[.val (.int p1), .val (.int p2), .val (.int p3), .val (.int p4), .val (.int p5), .val (.ref b2)] [(.int (3 : Int32)), (.int p1)])) t → Steps p.tables e below (Tm15.setTop (mkF m 30 #[.val (.int p1), .val (.int p2), .val (.int p3), .val (.int p4), .val (.int p5), .val (.ref b2)] [])) t := by
    intro t k
    refine XS.iloadN Xm15.here hx rfl (Jvm.hb hby d1_30) rfl ?_
    show Steps p.tables e below (Tm15.setTop (mkF m 31 #[.val (.int p1), .val (.int p2), .val (.int p3), .val (.int p4), .val (.int p5), .val (.ref b2)] [(.int p1)])) t
    refine XS.iconst Xm15.here hx rfl (Jvm.hb hby d1_31) ?_
    show Steps p.tables e below (Tm15.setTop (mkF m 32 #[.val (.int p1), .val (.int p2), .val (.int p3), .val (.int p4), .val (.int p5), .val (.ref b2)] [(.int (3 : Int32)), (.int p1)])) t
    exact k
  obtain ⟨Tm22, hm22, Lm22, Xm22, em22, Nm22, KPm22, Mm22_1, Km22⟩ : ∃ (T' : State) (h' : Heap) (L' : List Loc), Stand p l e ({ frames := 0, cells := 1, slots := 4, locals := 0 } : Room) s m #[(.int p1), (.int p2), (.int p3), (.int p4), (.int p5)] below meth c T' L' 1 4 ∧ T'.heap = h' ∧ Fr n0 L' ∧ Keep h0 h' [] ∧ Ia Z h' b2 .int p1 (f1_u7 p1 p2 p3 p4 p5) ∧ ∀ t, Steps p.tables e below (T'.setTop (mkF m 41 #[.val (.int p1), .val (.int p2), .val (.int p3), .val (.int p4), .val (.int p5), .val (.ref b2)] [])) t → Steps p.tables e below (Tm15.setTop (mkF m 32 #[.val (.int p1), .val (.int p2), .val (.int p3), .val (.int p4), .val (.int p5), .val (.ref b2)] [(.int (3 : Int32)), (.int p1)])) t := by
    by_cases hc22 : (3 : Int32) < p1
    · have K23 : ∀ t, Steps p.tables e below (Tm15.setTop (mkF m 35 #[.val (.int p1), .val (.int p2), .val (.int p3), .val (.int p4), .val (.int p5), .val (.ref b2)] [])) t → Steps p.tables e below (Tm15.setTop (mkF m 32 #[.val (.int p1), .val (.int p2), .val (.int p3), .val (.int p4), .val (.int p5), .val (.ref b2)] [(.int (3 : Int32)), (.int p1)])) t := by
        intro t k
        refine XS.icmpNo Xm15.here hx rfl (Jvm.hb hby d1_32) rfl (tlt hc22).2.2.2 ?_
        exact k
      have K24 : ∀ t, Steps p.tables e below (Tm15.setTop (mkF m 40 #[.val (.int p1), .val (.int p2), .val (.int p3), .val (.int p4), .val (.int p5), .val (.ref b2)] [(.int p5), (.int (3 : Int32)), (.ref b2)])) t → Steps p.tables e below (Tm15.setTop (mkF m 35 #[.val (.int p1), .val (.int p2), .val (.int p3), .val (.int p4), .val (.int p5), .val (.ref b2)] [])) t := by
        intro t k
        refine XS.aload Xm15.here hx rfl (Jvm.hb hby d1_35) rfl rfl ?_
        show Steps p.tables e below (Tm15.setTop (mkF m 37 #[.val (.int p1), .val (.int p2), .val (.int p3), .val (.int p4), .val (.int p5), .val (.ref b2)] [(.ref b2)])) t
        refine XS.iconst Xm15.here hx rfl (Jvm.hb hby d1_37) ?_
        show Steps p.tables e below (Tm15.setTop (mkF m 38 #[.val (.int p1), .val (.int p2), .val (.int p3), .val (.int p4), .val (.int p5), .val (.ref b2)] [(.int (3 : Int32)), (.ref b2)])) t
        refine XS.iload Xm15.here hx rfl (Jvm.hb hby d1_38) rfl ?_
        show Steps p.tables e below (Tm15.setTop (mkF m 40 #[.val (.int p1), .val (.int p2), .val (.int p3), .val (.int p4), .val (.int p5), .val (.ref b2)] [(.int p5), (.int (3 : Int32)), (.ref b2)])) t
        exact k
      have hin25 : ¬ (3 : Int32) < 0 ∧ (3 : Int32) < p1 := by exact ⟨by decide, by assumption⟩
      obtain ⟨cl25, Aq25, hj25, aq25⟩ := Ia.at Mm15_1 hin25
      obtain ⟨T25, h25, X25, e25, W25, st25⟩ := stI Xm15 hx hZ em15 Aq25 (j := (3 : Int32)) hj25 (g := (mkF m 40 #[.val (.int p1), .val (.int p2), .val (.int p3), .val (.int p4), .val (.int p5), .val (.ref b2)] [(.int p5), (.int (3 : Int32)), (.ref b2)])) rfl rfl (Jvm.hb hby d1_40)
      have KP25 : Keep h0 h25 [] := KPm15.wr W25 (Or.inr sz_b2)
      have N25 := Fr.snoc X25 Nm15 gb_b2
      have Aw25 : Ia Z h25 b2 .int p1 (f1_u6 p1 p2 p3 p4 p5) := Mm15_1.set W25 hin25.1
      have K26 : ∀ t, Steps p.tables e below (T25.setTop (mkF m 41 #[.val (.int p1), .val (.int p2), .val (.int p3), .val (.int p4), .val (.int p5), .val (.ref b2)] [])) t → Steps p.tables e below (Tm15.setTop (mkF m 40 #[.val (.int p1), .val (.int p2), .val (.int p3), .val (.int p4), .val (.int p5), .val (.ref b2)] [(.int p5), (.int (3 : Int32)), (.ref b2)])) t := fun t k => st25 _ k
      refine ⟨T25, _, _, X25, e25, N25, KP25, (by rw [show (f1_u7 p1 p2 p3 p4 p5) = (f1_u6 p1 p2 p3 p4 p5) from if_pos hc22]; exact Aw25), fun t k => ?_⟩
      exact K23 _ (K24 _ (K26 _ (k)))
    · have K27 : ∀ t, Steps p.tables e below (Tm15.setTop (mkF m 41 #[.val (.int p1), .val (.int p2), .val (.int p3), .val (.int p4), .val (.int p5), .val (.ref b2)] [])) t → Steps p.tables e below (Tm15.setTop (mkF m 32 #[.val (.int p1), .val (.int p2), .val (.int p3), .val (.int p4), .val (.int p5), .val (.ref b2)] [(.int (3 : Int32)), (.int p1)])) t := by
        intro t k
        refine XS.icmpYes Xm15.here hx rfl (pc0 := 32) (pc' := 41) rfl (Jvm.hb hby d1_32) rfl (flt hc22).2.2.2 (by decide) (by decide) ?_
        exact k
      refine ⟨Tm15, _, _, Xm15, em15, Nm15, KPm15, (by rw [show (f1_u7 p1 p2 p3 p4 p5) = (f1_u5 p1 p2 p3 p4) from if_neg hc22]; exact Mm15_1), fun t k => ?_⟩
      exact K27 _ (k)
  have K28 : ∀ t, Steps p.tables e below (Tm22.setTop (mkF m 43 #[.val (.int p1), .val (.int p2), .val (.int p3), .val (.int p4), .val (.int p5), .val (.ref b2)] [(.ref b2)])) t → Steps p.tables e below (Tm22.setTop (mkF m 41 #[.val (.int p1), .val (.int p2), .val (.int p3), .val (.int p4), .val (.int p5), .val (.ref b2)] [])) t := by
    intro t k
    refine XS.aload Xm22.here hx rfl (Jvm.hb hby d1_41) rfl rfl ?_
    show Steps p.tables e below (Tm22.setTop (mkF m 43 #[.val (.int p1), .val (.int p2), .val (.int p3), .val (.int p4), .val (.int p5), .val (.ref b2)] [(.ref b2)])) t
    exact k
  obtain ⟨fs, hr, hrun, hended, hW, hsame⟩ := Xm22.leave (v := some (.ref b2)) (fun h => by rw [Bd.returns] at h; cases h) Bd.notSynchronized
  refine ⟨_, _, pre0 _ (K1 _ (K3 _ (K4 _ (K6 _ (K7 _ (Km8 _ (K14 _ (Km15 _ (K21 _ (Km22 _ (K28 _ (retOut Xm22 hx Bd.returns rfl (Or.inr (Or.inr (Or.inr (Or.inr ⟨rfl, rfl, rfl⟩)))) (Jvm.hb hby d1_43) hr)))))))))))), hrun, hended, _, _, rfl, ?_, ⟨_, rfl⟩, hW, hsame.mono (by decide) (by decide)⟩
  show Q1 Z p1 p2 p3 p4 p5 h0 n0 _ Tm22.heap _
  rw [em22]
  exact ⟨b2, rfl, Nm22, KPm22, sz_b2, gb_b2, Mm22_1⟩
-- body 2: com/example/nestway/nestway/sparql/AnswerTable.<init>(I)V
theorem d2_0 : decode prog_70_method_1_code 0 = .ok (.aload_n 0, 1) := by decide +kernel
theorem d2_1 : decode prog_70_method_1_code 1 = .ok (.invokespecial 3, 3) := by decide +kernel
theorem d2_4 : decode prog_70_method_1_code 4 = .ok (.aload_n 0, 1) := by decide +kernel
theorem d2_5 : decode prog_70_method_1_code 5 = .ok (.iload_n 1, 1) := by decide +kernel
theorem d2_6 : decode prog_70_method_1_code 6 = .ok (.putfield 9, 3) := by decide +kernel
theorem d2_9 : decode prog_70_method_1_code 9 = .ok (.aload_n 0, 1) := by decide +kernel
theorem d2_10 : decode prog_70_method_1_code 10 = .ok (.iload_n 1, 1) := by decide +kernel
theorem d2_11 : decode prog_70_method_1_code 11 = .ok (.bipush 16, 2) := by decide +kernel
theorem d2_13 : decode prog_70_method_1_code 13 = .ok (.imul, 1) := by decide +kernel
theorem d2_14 : decode prog_70_method_1_code 14 = .ok (.newarray .int, 2) := by decide +kernel
theorem d2_16 : decode prog_70_method_1_code 16 = .ok (.putfield 15, 3) := by decide +kernel
theorem d2_19 : decode prog_70_method_1_code 19 = .ok (.return_, 1) := by decide +kernel
theorem pn_2 : plainName "com/example/nestway/nestway/sparql/AnswerTable" = true := by first | (simp [plainName, overriddenIn]; done) | decide +kernel
theorem ef_2 (m : MethodId) (a1 : Addr) (p2 : Int32) : entryFrame m #[(.ref a1), (.int p2)] 2 = mkF m 0 #[.val (.ref a1), .val (.int p2)] [] := by first | (simp [entryFrame, mkF, argsToLocals, Value.category]; done) | rfl
def Q2 (Z : State) (a1 : Addr) (p2 : Int32) (u_width_a1 : Value) (u_cells_a1 : Value) (u_size_a1 : Value) (h0 : Heap) (n0 : Nat) (v : Option Value) (h : Heap) (L : List Loc) : Prop := ∃ x1 : Addr, v = none ∧ Fr n0 L ∧ Keep h0 h [a1] ∧ h0.size ≤ x1 ∧ n0 ≤ x1 ∧ Exa Z h a1 "com/example/nestway/nestway/sparql/AnswerTable" ∧ Fld Z h a1 "com/example/nestway/nestway/sparql/AnswerTable" "size" "I" u_size_a1 ∧ Fld Z h a1 "com/example/nestway/nestway/sparql/AnswerTable" "width" "I" (.int p2) ∧ Ia Z h x1 .int (p2 * (16 : Int32)) (fun _ => 0) ∧ Fld Z h a1 "com/example/nestway/nestway/sparql/AnswerTable" "cells" "[I" (.ref x1)
set_option maxRecDepth 65536 in
set_option maxHeartbeats 40000000 in
theorem rm2 (l : Launch) (Z : State) (a0 : Array Value) (hw : ∀ d ∈ tables_1, d.before a0 Z = true) (ws : List Jvm.Cond) (a1 : Addr) (p2 : Int32) (u_width_a1 : Value) (u_cells_a1 : Value) (u_size_a1 : Value) (h0 : Heap) (n0 : Nat) (Z0 : n0 ≤ h0.size) (hn : ¬ (p2 * (16 : Int32)) < 0) (hc : (p2 * (16 : Int32)).toNatClampNeg ≤ 64) (E_a1 : Exa Z h0 a1 "com/example/nestway/nestway/sparql/AnswerTable") (F_width_a1 : Fld Z h0 a1 "com/example/nestway/nestway/sparql/AnswerTable" "width" "I" u_width_a1) (g_a1 : n0 ≤ a1) (F_cells_a1 : Fld Z h0 a1 "com/example/nestway/nestway/sparql/AnswerTable" "cells" "[I" u_cells_a1) (F_size_a1 : Fld Z h0 a1 "com/example/nestway/nestway/sparql/AnswerTable" "size" "I" u_size_a1) :
    MetFree l (⟨"com/example/nestway/nestway/sparql/AnswerTable", "<init>", "(I)V"⟩ : MethodName) (head1 (Jvm.Cond.code (⟨"com/example/nestway/nestway/sparql/AnswerTable", "<init>", "(I)V"⟩ : MethodName) prog_70_method_1_code 2 none :: ws) ({ frames := 1, cells := 1, slots := 64, locals := 12 } : Room)) (fun a U => a = #[(.ref a1), (.int p2)] ∧ Z.Warmed39 U.vm ∧ U.heap = h0) (fun _ _ _ _ _ => True) (fun _ U o U' => ∃ v L, o = .returned v ∧ Q2 Z a1 p2 u_width_a1 u_cells_a1 u_size_a1 h0 n0 v U'.heap L ∧ FrameEnd U o U' L ({ frames := 1, cells := 1, slots := 64, locals := 12 } : Room).cells ({ frames := 1, cells := 1, slots := 64, locals := 12 } : Room).slots) := by
  refine MetFree.of_bodySF (plainFor_of_name pn_2) hisR ?_
  intro p e s m args below meth c s₁ Bd hml0 hP hK
  obtain ⟨rfl, hZ, hh⟩ := hP
  have hx := Bd.exec
  have hby := Bd.bytes
  have hml : c.maxLocals = 2 := hml0
  have hown : s.vm.findClass "com/example/nestway/nestway/sparql/AnswerTable" = some m.cls := findClass_of_methodNamed Bd.named
  have hnm := (name_of_methodNamed Bd.named Bd.method).1
  have X0 : Stand p l e ({ frames := 1, cells := 1, slots := 64, locals := 12 } : Room) s m #[(.ref a1), (.int p2)] below meth c s₁ [] 0 0 := Stand.of_body Bd
  have e0 : s₁.heap = h0 := by rw [← hh, Bd.state]; rfl
  have N0 := Fr.nil n0
  have pre0 : ∀ t, Steps p.tables e below (s₁.setTop (mkF m 0 #[.val (.ref a1), .val (.int p2)] [])) t → Steps p.tables e below (s₁.setTop (entryFrame m #[(.ref a1), (.int p2)] 2)) t := fun t k => castTop (ef_2 m a1 p2) k
  have K1 : ∀ t, Steps p.tables e below (s₁.setTop (mkF m 1 #[.val (.ref a1), .val (.int p2)] [(.ref a1)])) t → Steps p.tables e below (s₁.setTop (mkF m 0 #[.val (.ref a1), .val (.int p2)] [])) t := by
    intro t k
    refine XS.aloadN X0.here hx rfl (Jvm.hb hby d2_0) rfl rfl ?_
    show Steps p.tables e below (s₁.setTop (mkF m 1 #[.val (.ref a1), .val (.int p2)] [(.ref a1)])) t
    exact k
  obtain ⟨T2, X2, e2, st2⟩ := initO X0 hx hZ hown (hw _ (List.mem_of_getElem? (i := 11) rfl)) (hw _ (List.mem_of_getElem? (i := 12) rfl)) (hw _ (List.mem_of_getElem? (i := 13) rfl)) e0 (g := (mkF m 1 #[.val (.ref a1), .val (.int p2)] [(.ref a1)])) rfl (by rw [hml]; rfl) rfl (Jvm.hb hby d2_1) (by decide) (W := 0) (by show 2 * 0 + _ ≤ _; exact Nat.le_of_eq rfl) (by decide)
  have K3 : ∀ t, Steps p.tables e below (T2.setTop (mkF m 4 #[.val (.ref a1), .val (.int p2)] [])) t → Steps p.tables e below (s₁.setTop (mkF m 1 #[.val (.ref a1), .val (.int p2)] [(.ref a1)])) t := fun t k => st2 _ k
  have K4 : ∀ t, Steps p.tables e below (T2.setTop (mkF m 6 #[.val (.ref a1), .val (.int p2)] [(.int p2), (.ref a1)])) t → Steps p.tables e below (T2.setTop (mkF m 4 #[.val (.ref a1), .val (.int p2)] [])) t := by
    intro t k
    refine XS.aloadN X2.here hx rfl (Jvm.hb hby d2_4) rfl rfl ?_
    show Steps p.tables e below (T2.setTop (mkF m 5 #[.val (.ref a1), .val (.int p2)] [(.ref a1)])) t
    refine XS.iloadN X2.here hx rfl (Jvm.hb hby d2_5) rfl ?_
    show Steps p.tables e below (T2.setTop (mkF m 6 #[.val (.ref a1), .val (.int p2)] [(.int p2), (.ref a1)])) t
    exact k
  obtain ⟨T5, h5, X5, e5, W5, st5⟩ := putF X2 hx hZ hown (host := "") (Or.inl (hw _ (List.mem_of_getElem? (i := 14) rfl))) Via.refl e2 F_width_a1 E_a1 (Or.inr ⟨(hw _ (List.mem_of_getElem? (i := 15) rfl)), rfl, hnm⟩) (hw _ (List.mem_of_getElem? (i := 6) rfl)) (ty := .int) (by decide) rfl rfl (g := (mkF m 6 #[.val (.ref a1), .val (.int p2)] [(.int p2), (.ref a1)])) rfl rfl (Jvm.hb hby d2_6)
  have KP5 : Keep h0 h5 [a1] := (Keep.refl h0 [a1]).wr W5 (Or.inl (List.mem_of_getElem? (i := 0) rfl))
  have N5 := Fr.snoc X5 N0 g_a1
  have E5_0 : Exa Z h5 a1 "com/example/nestway/nestway/sparql/AnswerTable" := E_a1.wr W5
  have F5_1 : Fld Z h5 a1 "com/example/nestway/nestway/sparql/AnswerTable" "cells" "[I" u_cells_a1 := F_cells_a1.other W5 (Or.inr (slot_ne (Or.inl (hw _ (List.mem_of_getElem? (i := 17) rfl))) (Or.inr (hw _ (List.mem_of_getElem? (i := 15) rfl))) (by decide) (t := (.array .int)) (t' := .int) (by decide) (by decide)))
  have F5_2 : Fld Z h5 a1 "com/example/nestway/nestway/sparql/AnswerTable" "size" "I" u_size_a1 := F_size_a1.other W5 (Or.inr (slot_ne (Or.inl (hw _ (List.mem_of_getElem? (i := 29) rfl))) (Or.inr (hw _ (List.mem_of_getElem? (i := 15) rfl))) (by decide) (t := .int) (t' := .int) (by decide) (by decide)))
  have Fw5 : Fld Z h5 a1 "com/example/nestway/nestway/sparql/AnswerTable" "width" "I" (.int p2) := F_width_a1.same W5
  have K6 : ∀ t, Steps p.tables e below (T5.setTop (mkF m 9 #[.val (.ref a1), .val (.int p2)] [])) t → Steps p.tables e below (T2.setTop (mkF m 6 #[.val (.ref a1), .val (.int p2)] [(.int p2), (.ref a1)])) t := fun t k => st5 _ k
  have K7 : ∀ t, Steps p.tables e below (T5.setTop (mkF m 14 #[.val (.ref a1), .val (.int p2)] [(.int (p2 * (16 : Int32))), (.ref a1)])) t → Steps p.tables e below (T5.setTop (mkF m 9 #[.val (.ref a1), .val (.int p2)] [])) t := by
    intro t k
    refine XS.aloadN X5.here hx rfl (Jvm.hb hby d2_9) rfl rfl ?_
    show Steps p.tables e below (T5.setTop (mkF m 10 #[.val (.ref a1), .val (.int p2)] [(.ref a1)])) t
    refine XS.iloadN X5.here hx rfl (Jvm.hb hby d2_10) rfl ?_
    show Steps p.tables e below (T5.setTop (mkF m 11 #[.val (.ref a1), .val (.int p2)] [(.int p2), (.ref a1)])) t
    refine XS.bipush X5.here hx rfl (Jvm.hb hby d2_11) ?_
    show Steps p.tables e below (T5.setTop (mkF m 13 #[.val (.ref a1), .val (.int p2)] [(.int (16 : Int32)), (.int p2), (.ref a1)])) t
    refine XS.imul X5.here hx rfl (Jvm.hb hby d2_13) rfl ?_
    show Steps p.tables e below (T5.setTop (mkF m 14 #[.val (.ref a1), .val (.int p2)] [(.int (p2 * (16 : Int32))), (.ref a1)])) t
    exact k
  obtain ⟨T8, h8, k8, X8, e8, E8, A8, st8⟩ := newP X5 hx hZ (hw _ (List.mem_of_getElem? (i := 4) rfl)) e5 (g := (mkF m 14 #[.val (.ref a1), .val (.int p2)] [(.int (p2 * (16 : Int32))), (.ref a1)])) rfl (Jvm.hb hby d2_14) rfl hn (cap := 64) hc (by decide) (by decide) (by decide)
  obtain ⟨b8, g8⟩ : ∃ z, z = h5.size := ⟨_, rfl⟩
  rw [← g8] at A8 st8
  have KP8 : Keep h0 h8 [a1] := KP5.ext E8
  have E8_0 : Exa Z h8 a1 "com/example/nestway/nestway/sparql/AnswerTable" := E5_0.ext E8
  have F8_1 : Fld Z h8 a1 "com/example/nestway/nestway/sparql/AnswerTable" "cells" "[I" u_cells_a1 := F5_1.ext E8
  have F8_2 : Fld Z h8 a1 "com/example/nestway/nestway/sparql/AnswerTable" "size" "I" u_size_a1 := F5_2.ext E8
  have F8_3 : Fld Z h8 a1 "com/example/nestway/nestway/sparql/AnswerTable" "width" "I" (.int p2) := Fw5.ext E8
  have ne8_0 : a1 ≠ b8 := Nat.ne_of_lt (Nat.lt_of_lt_of_le E5_0.lt (Nat.le_of_eq g8.symm))
  have gb_b8 : n0 ≤ b8 := Nat.le_trans (Nat.le_trans Z0 KP5.1) (Nat.le_of_eq g8.symm)
  have sz_b8 : h0.size ≤ b8 := Nat.le_trans KP5.1 (Nat.le_of_eq g8.symm)
  have V8 : Ia Z h8 b8 .int (p2 * (16 : Int32)) (fun _ => 0) := Ia.new A8 hn rfl
  have K9 : ∀ t, Steps p.tables e below (T8.setTop (mkF m 16 #[.val (.ref a1), .val (.int p2)] [(.ref b8), (.ref a1)])) t → Steps p.tables e below (T5.setTop (mkF m 14 #[.val (.ref a1), .val (.int p2)] [(.int (p2 * (16 : Int32))), (.ref a1)])) t := fun t k => st8 _ k
  obtain ⟨T10, h10, X10, e10, W10, st10⟩ := putF X8 hx hZ hown (host := "") (Or.inl (hw _ (List.mem_of_getElem? (i := 16) rfl))) Via.refl e8 F8_1 E8_0 (Or.inl (hw _ (List.mem_of_getElem? (i := 17) rfl))) (hw _ (List.mem_of_getElem? (i := 6) rfl)) (ty := (.array .int)) (by decide) rfl rfl (g := (mkF m 16 #[.val (.ref a1), .val (.int p2)] [(.ref b8), (.ref a1)])) rfl rfl (Jvm.hb hby d2_16)
  have KP10 : Keep h0 h10 [a1] := KP8.wr W10 (Or.inl (List.mem_of_getElem? (i := 0) rfl))
  have N10 := Fr.snoc X10 N5 g_a1
  have E10_0 : Exa Z h10 a1 "com/example/nestway/nestway/sparql/AnswerTable" := E8_0.wr W10
  have F10_1 : Fld Z h10 a1 "com/example/nestway/nestway/sparql/AnswerTable" "size" "I" u_size_a1 := F8_2.other W10 (Or.inr (slot_ne (Or.inl (hw _ (List.mem_of_getElem? (i := 29) rfl))) (Or.inl (hw _ (List.mem_of_getElem? (i := 17) rfl))) (by decide) (t := .int) (t' := (.array .int)) (by decide) (by decide)))
  have F10_2 : Fld Z h10 a1 "com/example/nestway/nestway/sparql/AnswerTable" "width" "I" (.int p2) := F8_3.other W10 (Or.inr (slot_ne (Or.inr (hw _ (List.mem_of_getElem? (i := 15) rfl))) (Or.inl (hw _ (List.mem_of_getElem? (i := 17) rfl))) (by decide) (t := .int) (t' := (.array .int)) (by decide) (by decide)))
  have A10_3 : Ia Z h10 b8 .int (p2 * (16 : Int32)) (fun _ => 0) := V8.other W10 (Ne.symm ne8_0)
  have Fw10 : Fld Z h10 a1 "com/example/nestway/nestway/sparql/AnswerTable" "cells" "[I" (.ref b8) := F8_1.same W10
  have K11 : ∀ t, Steps p.tables e below (T10.setTop (mkF m 19 #[.val (.ref a1), .val (.int p2)] [])) t → Steps p.tables e below (T8.setTop (mkF m 16 #[.val (.ref a1), .val (.int p2)] [(.ref b8), (.ref a1)])) t := fun t k => st10 _ k
  obtain ⟨fs, hr, hrun, hended, hW, hsame⟩ := X10.leave (v := none) (fun _ => rfl) Bd.notSynchronized
  refine ⟨_, _, pre0 _ (K1 _ (K3 _ (K4 _ (K6 _ (K7 _ (K9 _ (K11 _ (X10.returnOut hx Bd.returns (Jvm.hb hby d2_19) hr)))))))), hrun, hended, _, _, rfl, ?_, ⟨_, rfl⟩, hW, hsame.mono (by decide) (by decide)⟩
  show Q2 Z a1 p2 u_width_a1 u_cells_a1 u_size_a1 h0 n0 _ T10.heap _
  rw [e10]
  exact ⟨b8, rfl, N10, KP10, sz_b8, gb_b8, E10_0, F10_1, F10_2, A10_3, Fw10⟩
-- body 5: com/example/nestway/nestway/sparql/AnswerTable.room(J)I
theorem d5_0 : decode prog_70_method_8_code 0 = .ok (.lload_n 1, 1) := by decide +kernel
theorem d5_1 : decode prog_70_method_8_code 1 = .ok (.ldc 32, 2) := by decide +kernel
theorem d5_3 : decode prog_70_method_8_code 3 = .ok (.aload_n 0, 1) := by decide +kernel
theorem d5_4 : decode prog_70_method_8_code 4 = .ok (.getfield 19, 3) := by decide +kernel
theorem d5_7 : decode prog_70_method_8_code 7 = .ok (.isub, 1) := by decide +kernel
theorem d5_8 : decode prog_70_method_8_code 8 = .ok (.i2l, 1) := by decide +kernel
theorem d5_9 : decode prog_70_method_8_code 9 = .ok (.lcmp, 1) := by decide +kernel
theorem d5_10 : decode prog_70_method_8_code 10 = .ok (.ifCond .gt 23, 3) := by decide +kernel
theorem d5_13 : decode prog_70_method_8_code 13 = .ok (.aload_n 0, 1) := by decide +kernel
theorem d5_14 : decode prog_70_method_8_code 14 = .ok (.getfield 19, 3) := by decide +kernel
theorem d5_17 : decode prog_70_method_8_code 17 = .ok (.i2l, 1) := by decide +kernel
theorem d5_18 : decode prog_70_method_8_code 18 = .ok (.lload_n 1, 1) := by decide +kernel
theorem d5_19 : decode prog_70_method_8_code 19 = .ok (.ladd, 1) := by decide +kernel
theorem d5_20 : decode prog_70_method_8_code 20 = .ok (.aload_n 0, 1) := by decide +kernel
theorem d5_21 : decode prog_70_method_8_code 21 = .ok (.getfield 9, 3) := by decide +kernel
theorem d5_24 : decode prog_70_method_8_code 24 = .ok (.i2l, 1) := by decide +kernel
theorem d5_25 : decode prog_70_method_8_code 25 = .ok (.lmul, 1) := by decide +kernel
theorem d5_26 : decode prog_70_method_8_code 26 = .ok (.ldc2_w 33, 3) := by decide +kernel
theorem d5_29 : decode prog_70_method_8_code 29 = .ok (.lcmp, 1) := by decide +kernel
theorem d5_30 : decode prog_70_method_8_code 30 = .ok (.ifCond .le 13, 3) := by decide +kernel
theorem d5_43 : decode prog_70_method_8_code 43 = .ok (.aload_n 0, 1) := by decide +kernel
theorem d5_44 : decode prog_70_method_8_code 44 = .ok (.getfield 19, 3) := by decide +kernel
theorem d5_47 : decode prog_70_method_8_code 47 = .ok (.i2l, 1) := by decide +kernel
theorem d5_48 : decode prog_70_method_8_code 48 = .ok (.lload_n 1, 1) := by decide +kernel
theorem d5_49 : decode prog_70_method_8_code 49 = .ok (.ladd, 1) := by decide +kernel
theorem d5_50 : decode prog_70_method_8_code 50 = .ok (.aload_n 0, 1) := by decide +kernel
theorem d5_51 : decode prog_70_method_8_code 51 = .ok (.getfield 9, 3) := by decide +kernel
theorem d5_54 : decode prog_70_method_8_code 54 = .ok (.i2l, 1) := by decide +kernel
theorem d5_55 : decode prog_70_method_8_code 55 = .ok (.lmul, 1) := by decide +kernel
theorem d5_56 : decode prog_70_method_8_code 56 = .ok (.lstore_n 3, 1) := by decide +kernel
theorem d5_57 : decode prog_70_method_8_code 57 = .ok (.lload_n 3, 1) := by decide +kernel
theorem d5_58 : decode prog_70_method_8_code 58 = .ok (.aload_n 0, 1) := by decide +kernel
theorem d5_59 : decode prog_70_method_8_code 59 = .ok (.getfield 15, 3) := by decide +kernel
theorem d5_62 : decode prog_70_method_8_code 62 = .ok (.arraylength, 1) := by decide +kernel
theorem d5_63 : decode prog_70_method_8_code 63 = .ok (.i2l, 1) := by decide +kernel
theorem d5_64 : decode prog_70_method_8_code 64 = .ok (.lcmp, 1) := by decide +kernel
theorem d5_65 : decode prog_70_method_8_code 65 = .ok (.ifCond .le 35, 3) := by decide +kernel
theorem d5_100 : decode prog_70_method_8_code 100 = .ok (.aload_n 0, 1) := by decide +kernel
theorem d5_101 : decode prog_70_method_8_code 101 = .ok (.getfield 19, 3) := by decide +kernel
theorem d5_104 : decode prog_70_method_8_code 104 = .ok (.aload_n 0, 1) := by decide +kernel
theorem d5_105 : decode prog_70_method_8_code 105 = .ok (.getfield 9, 3) := by decide +kernel
theorem d5_108 : decode prog_70_method_8_code 108 = .ok (.imul, 1) := by decide +kernel
theorem d5_109 : decode prog_70_method_8_code 109 = .ok (.istore 5, 2) := by decide +kernel
theorem d5_111 : decode prog_70_method_8_code 111 = .ok (.aload_n 0, 1) := by decide +kernel
theorem d5_112 : decode prog_70_method_8_code 112 = .ok (.dup, 1) := by decide +kernel
theorem d5_113 : decode prog_70_method_8_code 113 = .ok (.getfield 19, 3) := by decide +kernel
theorem d5_116 : decode prog_70_method_8_code 116 = .ok (.lload_n 1, 1) := by decide +kernel
theorem d5_117 : decode prog_70_method_8_code 117 = .ok (.l2i, 1) := by decide +kernel
theorem d5_118 : decode prog_70_method_8_code 118 = .ok (.iadd, 1) := by decide +kernel
theorem d5_119 : decode prog_70_method_8_code 119 = .ok (.putfield 19, 3) := by decide +kernel
theorem d5_122 : decode prog_70_method_8_code 122 = .ok (.iload 5, 2) := by decide +kernel
theorem d5_124 : decode prog_70_method_8_code 124 = .ok (.ireturn, 1) := by decide +kernel
theorem pn_5 : plainName "com/example/nestway/nestway/sparql/AnswerTable" = true := by first | (simp [plainName, overriddenIn]; done) | decide +kernel
theorem ef_5 (m : MethodId) (a1 : Addr) (q2 : Int64) : entryFrame m #[(.ref a1), (.long q2)] 6 = mkF m 0 #[.val (.ref a1), .val (.long q2), .second, .unset, .unset, .unset] [] := by first | (simp [entryFrame, mkF, argsToLocals, Value.category]; done) | rfl
def f5_u1 (q2 : Int64) (v_size_a1 : Int32) (v_width_a1 : Int32) : Int64 := (((v_size_a1.toInt64) + q2) * (v_width_a1.toInt64))
def f5 (v_size_a1 : Int32) (v_width_a1 : Int32) : Int32 := (v_size_a1 * v_width_a1)
def Q5 (Z : State) (a1 : Addr) (q2 : Int64) (v_size_a1 : Int32) (v_width_a1 : Int32) (v_cells_a1 : Addr) (n_v_cells_a1 : Int32) (f_v_cells_a1 : Int32 → Int32) (h0 : Heap) (n0 : Nat) (v : Option Value) (h : Heap) (L : List Loc) : Prop := v = some (.int (f5 v_size_a1 v_width_a1)) ∧ Fr n0 L ∧ Keep h0 h [a1] ∧ Fld Z h a1 "com/example/nestway/nestway/sparql/AnswerTable" "width" "I" (.int v_width_a1) ∧ Fld Z h a1 "com/example/nestway/nestway/sparql/AnswerTable" "cells" "[I" (.ref v_cells_a1) ∧ Exa Z h a1 "com/example/nestway/nestway/sparql/AnswerTable" ∧ Fld Z h a1 "com/example/nestway/nestway/sparql/AnswerTable" "size" "I" (.int (v_size_a1 + (q2.toInt32)))
set_option maxRecDepth 65536 in
set_option maxHeartbeats 40000000 in
theorem rm5 (l : Launch) (Z : State) (a0 : Array Value) (hw : ∀ d ∈ tables_1, d.before a0 Z = true) (ws : List Jvm.Cond) (a1 : Addr) (q2 : Int64) (v_size_a1 : Int32) (v_width_a1 : Int32) (v_cells_a1 : Addr) (n_v_cells_a1 : Int32) (f_v_cells_a1 : Int32 → Int32) (h0 : Heap) (n0 : Nat) (Z0 : n0 ≤ h0.size) (hr1 : ¬ (0 : Int32) < (own_cmp q2 (((2147483639 : Int32) - v_size_a1).toInt64))) (hr2 : ¬ (0 : Int32) < (own_cmp (((v_size_a1.toInt64) + q2) * (v_width_a1.toInt64)) (2147483639 : Int64))) (hr3 : ¬ (0 : Int32) < (own_cmp (((v_size_a1.toInt64) + q2) * (v_width_a1.toInt64)) (n_v_cells_a1.toInt64))) (F_size_a1 : Fld Z h0 a1 "com/example/nestway/nestway/sparql/AnswerTable" "size" "I" (.int v_size_a1)) (F_width_a1 : Fld Z h0 a1 "com/example/nestway/nestway/sparql/AnswerTable" "width" "I" (.int v_width_a1)) (F_cells_a1 : Fld Z h0 a1 "com/example/nestway/nestway/sparql/AnswerTable" "cells" "[I" (.ref v_cells_a1)) (A_v_cells_a1 : Ia Z h0 v_cells_a1 .int n_v_cells_a1 f_v_cells_a1) (E_a1 : Exa Z h0 a1 "com/example/nestway/nestway/sparql/AnswerTable") (g_a1 : n0 ≤ a1) :
    MetFree l (⟨"com/example/nestway/nestway/sparql/AnswerTable", "room", "(J)I"⟩ : MethodName) (head1 (Jvm.Cond.code (⟨"com/example/nestway/nestway/sparql/AnswerTable", "room", "(J)I"⟩ : MethodName) prog_70_method_8_code 6 (some .int) :: ws) ({ frames := 0, cells := 0, slots := 0, locals := 0 } : Room)) (fun a U => a = #[(.ref a1), (.long q2)] ∧ Z.Warmed39 U.vm ∧ U.heap = h0) (fun _ _ _ _ _ => True) (fun _ U o U' => ∃ v L, o = .returned v ∧ Q5 Z a1 q2 v_size_a1 v_width_a1 v_cells_a1 n_v_cells_a1 f_v_cells_a1 h0 n0 v U'.heap L ∧ FrameEnd U o U' L ({ frames := 0, cells := 0, slots := 0, locals := 0 } : Room).cells ({ frames := 0, cells := 0, slots := 0, locals := 0 } : Room).slots) := by
  refine MetFree.of_bodySF (plainFor_of_name pn_5) hisR ?_
  intro p e s m args below meth c s₁ Bd hml0 hP hK
  obtain ⟨rfl, hZ, hh⟩ := hP
  have hx := Bd.exec
  have hby := Bd.bytes
  have hml : c.maxLocals = 6 := hml0
  have hown : s.vm.findClass "com/example/nestway/nestway/sparql/AnswerTable" = some m.cls := findClass_of_methodNamed Bd.named
  have hnm := (name_of_methodNamed Bd.named Bd.method).1
  have X0 : Stand p l e ({ frames := 0, cells := 0, slots := 0, locals := 0 } : Room) s m #[(.ref a1), (.long q2)] below meth c s₁ [] 0 0 := Stand.of_body Bd
  have e0 : s₁.heap = h0 := by rw [← hh, Bd.state]; rfl
  have N0 := Fr.nil n0
  have pre0 : ∀ t, Steps p.tables e below (s₁.setTop (mkF m 0 #[.val (.ref a1), .val (.long q2), .second, .unset, .unset, .unset] [])) t → Steps p.tables e below (s₁.setTop (entryFrame m #[(.ref a1), (.long q2)] 6)) t := fun t k => castTop (ef_5 m a1 q2) k
  have K1 : ∀ t, Steps p.tables e below (s₁.setTop (mkF m 4 #[.val (.ref a1), .val (.long q2), .second, .unset, .unset, .unset] [(.ref a1), (.int (2147483639 : Int32)), (.long q2)])) t → Steps p.tables e below (s₁.setTop (mkF m 0 #[.val (.ref a1), .val (.long q2), .second, .unset, .unset, .unset] [])) t := by
    intro t k
    refine XS.lloadN X0.here hx rfl (Jvm.hb hby d5_0) rfl ?_
    show Steps p.tables e below (s₁.setTop (mkF m 1 #[.val (.ref a1), .val (.long q2), .second, .unset, .unset, .unset] [(.long q2)])) t
    refine X0.ldcInt hx hown (mvT hZ (hw _ (List.mem_of_getElem? (i := 27) rfl))) (g := (mkF m 1 #[.val (.ref a1), .val (.long q2), .second, .unset, .unset, .unset] [(.long q2)])) rfl (Jvm.hb hby d5_1) _ ?_
    show Steps p.tables e below (s₁.setTop (mkF m 3 #[.val (.ref a1), .val (.long q2), .second, .unset, .unset, .unset] [(.int (2147483639 : Int32)), (.long q2)])) t
    refine XS.aloadN X0.here hx rfl (Jvm.hb hby d5_3) rfl rfl ?_
    show Steps p.tables e below (s₁.setTop (mkF m 4 #[.val (.ref a1), .val (.long q2), .second, .unset, .unset, .unset] [(.ref a1), (.int (2147483639 : Int32)), (.long q2)])) t
    exact k
  obtain ⟨T2, X2, e2, st2⟩ := getF X0 hx hZ hown (host := "") (Or.inl (hw _ (List.mem_of_getElem? (i := 28) rfl))) Via.refl e0 F_size_a1 (g := (mkF m 4 #[.val (.ref a1), .val (.long q2), .second, .unset, .unset, .unset] [(.ref a1), (.int (2147483639 : Int32)), (.long q2)])) rfl rfl (Jvm.hb hby d5_4)
  have K3 : ∀ t, Steps p.tables e below (T2.setTop (mkF m 7 #[.val (.ref a1), .val (.long q2), .second, .unset, .unset, .unset] [(.int v_size_a1), (.int (2147483639 : Int32)), (.long q2)])) t → Steps p.tables e below (s₁.setTop (mkF m 4 #[.val (.ref a1), .val (.long q2), .second, .unset, .unset, .unset] [(.ref a1), (.int (2147483639 : Int32)), (.long q2)])) t := fun t k => st2 _ k
  have K4 : ∀ t, Steps p.tables e below (T2.setTop (mkF m 10 #[.val (.ref a1), .val (.long q2), .second, .unset, .unset, .unset] [(.int (own_cmp q2 (((2147483639 : Int32) - v_size_a1).toInt64)))])) t → Steps p.tables e below (T2.setTop (mkF m 7 #[.val (.ref a1), .val (.long q2), .second, .unset, .unset, .unset] [(.int v_size_a1), (.int (2147483639 : Int32)), (.long q2)])) t := by
    intro t k
    refine XS.isub X2.here hx rfl (Jvm.hb hby d5_7) rfl ?_
    show Steps p.tables e below (T2.setTop (mkF m 8 #[.val (.ref a1), .val (.long q2), .second, .unset, .unset, .unset] [(.int ((2147483639 : Int32) - v_size_a1)), (.long q2)])) t
    refine XS.i2l X2.here hx rfl (Jvm.hb hby d5_8) rfl ?_
    show Steps p.tables e below (T2.setTop (mkF m 9 #[.val (.ref a1), .val (.long q2), .second, .unset, .unset, .unset] [(.long (((2147483639 : Int32) - v_size_a1).toInt64)), (.long q2)])) t
    refine XS.lcmp X2.here hx rfl (Jvm.hb hby d5_9) rfl ?_
    show Steps p.tables e below (T2.setTop (mkF m 10 #[.val (.ref a1), .val (.long q2), .second, .unset, .unset, .unset] [(.int (own_cmp q2 (((2147483639 : Int32) - v_size_a1).toInt64)))])) t
    exact k
  have hc5 : ¬ ((0 : Int32) < (own_cmp q2 (((2147483639 : Int32) - v_size_a1).toInt64))) := hr1
  have K6 : ∀ t, Steps p.tables e below (T2.setTop (mkF m 13 #[.val (.ref a1), .val (.long q2), .second, .unset, .unset, .unset] [])) t → Steps p.tables e below (T2.setTop (mkF m 10 #[.val (.ref a1), .val (.long q2), .second, .unset, .unset, .unset] [(.int (own_cmp q2 (((2147483639 : Int32) - v_size_a1).toInt64)))])) t := by
    intro t k
    refine XS.ifNo X2.here hx rfl (Jvm.hb hby d5_10) rfl ((if0 _ _).trans (flt hc5).2.2.1) ?_
    exact k
  have K7 : ∀ t, Steps p.tables e below (T2.setTop (mkF m 14 #[.val (.ref a1), .val (.long q2), .second, .unset, .unset, .unset] [(.ref a1)])) t → Steps p.tables e below (T2.setTop (mkF m 13 #[.val (.ref a1), .val (.long q2), .second, .unset, .unset, .unset] [])) t := by
    intro t k
    refine XS.aloadN X2.here hx rfl (Jvm.hb hby d5_13) rfl rfl ?_
    show Steps p.tables e below (T2.setTop (mkF m 14 #[.val (.ref a1), .val (.long q2), .second, .unset, .unset, .unset] [(.ref a1)])) t
    exact k
  obtain ⟨T8, X8, e8, st8⟩ := getF X2 hx hZ hown (host := "") (Or.inl (hw _ (List.mem_of_getElem? (i := 28) rfl))) Via.refl e2 F_size_a1 (g := (mkF m 14 #[.val (.ref a1), .val (.long q2), .second, .unset, .unset, .unset] [(.ref a1)])) rfl rfl (Jvm.hb hby d5_14)
  have K9 : ∀ t, Steps p.tables e below (T8.setTop (mkF m 17 #[.val (.ref a1), .val (.long q2), .second, .unset, .unset, .unset] [(.int v_size_a1)])) t → Steps p.tables e below (T2.setTop (mkF m 14 #[.val (.ref a1), .val (.long q2), .second, .unset, .unset, .unset] [(.ref a1)])) t := fun t k => st8 _ k
  have K10 : ∀ t, Steps p.tables e below (T8.setTop (mkF m 21 #[.val (.ref a1), .val (.long q2), .second, .unset, .unset, .unset] [(.ref a1), (.long ((v_size_a1.toInt64) + q2))])) t → Steps p.tables e below (T8.setTop (mkF m 17 #[.val (.ref a1), .val (.long q2), .second, .unset, .unset, .unset] [(.int v_size_a1)])) t := by
    intro t k
    refine XS.i2l X8.here hx rfl (Jvm.hb hby d5_17) rfl ?_
    show Steps p.tables e below (T8.setTop (mkF m 18 #[.val (.ref a1), .val (.long q2), .second, .unset, .unset, .unset] [(.long (v_size_a1.toInt64))])) t
    refine XS.lloadN X8.here hx rfl (Jvm.hb hby d5_18) rfl ?_
    show Steps p.tables e below (T8.setTop (mkF m 19 #[.val (.ref a1), .val (.long q2), .second, .unset, .unset, .unset] [(.long q2), (.long (v_size_a1.toInt64))])) t
    refine XS.ladd X8.here hx rfl (Jvm.hb hby d5_19) rfl ?_
    show Steps p.tables e below (T8.setTop (mkF m 20 #[.val (.ref a1), .val (.long q2), .second, .unset, .unset, .unset] [(.long ((v_size_a1.toInt64) + q2))])) t
    refine XS.aloadN X8.here hx rfl (Jvm.hb hby d5_20) rfl rfl ?_
    show Steps p.tables e below (T8.setTop (mkF m 21 #[.val (.ref a1), .val (.long q2), .second, .unset, .unset, .unset] [(.ref a1), (.long ((v_size_a1.toInt64) + q2))])) t
    exact k
  obtain ⟨T11, X11, e11, st11⟩ := getF X8 hx hZ hown (host := "") (Or.inl (hw _ (List.mem_of_getElem? (i := 14) rfl))) Via.refl e8 F_width_a1 (g := (mkF m 21 #[.val (.ref a1), .val (.long q2), .second, .unset, .unset, .unset] [(.ref a1), (.long ((v_size_a1.toInt64) + q2))])) rfl rfl (Jvm.hb hby d5_21)
  have K12 : ∀ t, Steps p.tables e below (T11.setTop (mkF m 24 #[.val (.ref a1), .val (.long q2), .second, .unset, .unset, .unset] [(.int v_width_a1), (.long ((v_size_a1.toInt64) + q2))])) t → Steps p.tables e below (T8.setTop (mkF m 21 #[.val (.ref a1), .val (.long q2), .second, .unset, .unset, .unset] [(.ref a1), (.long ((v_size_a1.toInt64) + q2))])) t := fun t k => st11 _ k
  have K13 : ∀ t, Steps p.tables e below (T11.setTop (mkF m 30 #[.val (.ref a1), .val (.long q2), .second, .unset, .unset, .unset] [(.int (own_cmp (((v_size_a1.toInt64) + q2) * (v_width_a1.toInt64)) (2147483639 : Int64)))])) t → Steps p.tables e below (T11.setTop (mkF m 24 #[.val (.ref a1), .val (.long q2), .second, .unset, .unset, .unset] [(.int v_width_a1), (.long ((v_size_a1.toInt64) + q2))])) t := by
    intro t k
    refine XS.i2l X11.here hx rfl (Jvm.hb hby d5_24) rfl ?_
    show Steps p.tables e below (T11.setTop (mkF m 25 #[.val (.ref a1), .val (.long q2), .second, .unset, .unset, .unset] [(.long (v_width_a1.toInt64)), (.long ((v_size_a1.toInt64) + q2))])) t
    refine XS.lmul X11.here hx rfl (Jvm.hb hby d5_25) rfl ?_
    show Steps p.tables e below (T11.setTop (mkF m 26 #[.val (.ref a1), .val (.long q2), .second, .unset, .unset, .unset] [(.long (((v_size_a1.toInt64) + q2) * (v_width_a1.toInt64)))])) t
    refine X11.ldc2Long hx hown (mvT hZ (hw _ (List.mem_of_getElem? (i := 30) rfl))) (g := (mkF m 26 #[.val (.ref a1), .val (.long q2), .second, .unset, .unset, .unset] [(.long (((v_size_a1.toInt64) + q2) * (v_width_a1.toInt64)))])) rfl (Jvm.hb hby d5_26) _ ?_
    show Steps p.tables e below (T11.setTop (mkF m 29 #[.val (.ref a1), .val (.long q2), .second, .unset, .unset, .unset] [(.long (2147483639 : Int64)), (.long (((v_size_a1.toInt64) + q2) * (v_width_a1.toInt64)))])) t
    refine XS.lcmp X11.here hx rfl (Jvm.hb hby d5_29) rfl ?_
    show Steps p.tables e below (T11.setTop (mkF m 30 #[.val (.ref a1), .val (.long q2), .second, .unset, .unset, .unset] [(.int (own_cmp (((v_size_a1.toInt64) + q2) * (v_width_a1.toInt64)) (2147483639 : Int64)))])) t
    exact k
  have hc14 : ¬ ((0 : Int32) < (own_cmp (((v_size_a1.toInt64) + q2) * (v_width_a1.toInt64)) (2147483639 : Int64))) := hr2
  have K15 : ∀ t, Steps p.tables e below (T11.setTop (mkF m 43 #[.val (.ref a1), .val (.long q2), .second, .unset, .unset, .unset] [])) t → Steps p.tables e below (T11.setTop (mkF m 30 #[.val (.ref a1), .val (.long q2), .second, .unset, .unset, .unset] [(.int (own_cmp (((v_size_a1.toInt64) + q2) * (v_width_a1.toInt64)) (2147483639 : Int64)))])) t := by
    intro t k
    refine XS.ifYes X11.here hx rfl (pc0 := 30) (pc' := 43) rfl (Jvm.hb hby d5_30) rfl ((if0 _ _).trans (flt hc14).2.2.2) (by decide) (by decide) ?_
    exact k
  have K16 : ∀ t, Steps p.tables e below (T11.setTop (mkF m 44 #[.val (.ref a1), .val (.long q2), .second, .unset, .unset, .unset] [(.ref a1)])) t → Steps p.tables e below (T11.setTop (mkF m 43 #[.val (.ref a1), .val (.long q2), .second, .unset, .unset, .unset] [])) t := by
    intro t k
    refine XS.aloadN X11.here hx rfl (Jvm.hb hby d5_43) rfl rfl ?_
    show Steps p.tables e below (T11.setTop (mkF m 44 #[.val (.ref a1), .val (.long q2), .second, .unset, .unset, .unset] [(.ref a1)])) t
    exact k
  obtain ⟨T17, X17, e17, st17⟩ := getF X11 hx hZ hown (host := "") (Or.inl (hw _ (List.mem_of_getElem? (i := 28) rfl))) Via.refl e11 F_size_a1 (g := (mkF m 44 #[.val (.ref a1), .val (.long q2), .second, .unset, .unset, .unset] [(.ref a1)])) rfl rfl (Jvm.hb hby d5_44)
  have K18 : ∀ t, Steps p.tables e below (T17.setTop (mkF m 47 #[.val (.ref a1), .val (.long q2), .second, .unset, .unset, .unset] [(.int v_size_a1)])) t → Steps p.tables e below (T11.setTop (mkF m 44 #[.val (.ref a1), .val (.long q2), .second, .unset, .unset, .unset] [(.ref a1)])) t := fun t k => st17 _ k
  have K19 : ∀ t, Steps p.tables e below (T17.setTop (mkF m 51 #[.val (.ref a1), .val (.long q2), .second, .unset, .unset, .unset] [(.ref a1), (.long ((v_size_a1.toInt64) + q2))])) t → Steps p.tables e below (T17.setTop (mkF m 47 #[.val (.ref a1), .val (.long q2), .second, .unset, .unset, .unset] [(.int v_size_a1)])) t := by
    intro t k
    refine XS.i2l X17.here hx rfl (Jvm.hb hby d5_47) rfl ?_
    show Steps p.tables e below (T17.setTop (mkF m 48 #[.val (.ref a1), .val (.long q2), .second, .unset, .unset, .unset] [(.long (v_size_a1.toInt64))])) t
    refine XS.lloadN X17.here hx rfl (Jvm.hb hby d5_48) rfl ?_
    show Steps p.tables e below (T17.setTop (mkF m 49 #[.val (.ref a1), .val (.long q2), .second, .unset, .unset, .unset] [(.long q2), (.long (v_size_a1.toInt64))])) t
    refine XS.ladd X17.here hx rfl (Jvm.hb hby d5_49) rfl ?_
    show Steps p.tables e below (T17.setTop (mkF m 50 #[.val (.ref a1), .val (.long q2), .second, .unset, .unset, .unset] [(.long ((v_size_a1.toInt64) + q2))])) t
    refine XS.aloadN X17.here hx rfl (Jvm.hb hby d5_50) rfl rfl ?_
    show Steps p.tables e below (T17.setTop (mkF m 51 #[.val (.ref a1), .val (.long q2), .second, .unset, .unset, .unset] [(.ref a1), (.long ((v_size_a1.toInt64) + q2))])) t
    exact k
  obtain ⟨T20, X20, e20, st20⟩ := getF X17 hx hZ hown (host := "") (Or.inl (hw _ (List.mem_of_getElem? (i := 14) rfl))) Via.refl e17 F_width_a1 (g := (mkF m 51 #[.val (.ref a1), .val (.long q2), .second, .unset, .unset, .unset] [(.ref a1), (.long ((v_size_a1.toInt64) + q2))])) rfl rfl (Jvm.hb hby d5_51)
  have K21 : ∀ t, Steps p.tables e below (T20.setTop (mkF m 54 #[.val (.ref a1), .val (.long q2), .second, .unset, .unset, .unset] [(.int v_width_a1), (.long ((v_size_a1.toInt64) + q2))])) t → Steps p.tables e below (T17.setTop (mkF m 51 #[.val (.ref a1), .val (.long q2), .second, .unset, .unset, .unset] [(.ref a1), (.long ((v_size_a1.toInt64) + q2))])) t := fun t k => st20 _ k
  have K22 : ∀ t, Steps p.tables e below (T20.setTop (mkF m 59 #[.val (.ref a1), .val (.long q2), .second, .val (.long (f5_u1 q2 v_size_a1 v_width_a1)), .second, .unset] [(.ref a1), (.long (f5_u1 q2 v_size_a1 v_width_a1))])) t → Steps p.tables e below (T20.setTop (mkF m 54 #[.val (.ref a1), .val (.long q2), .second, .unset, .unset, .unset] [(.int v_width_a1), (.long ((v_size_a1.toInt64) + q2))])) t := by
    intro t k
    refine XS.i2l X20.here hx rfl (Jvm.hb hby d5_54) rfl ?_
    show Steps p.tables e below (T20.setTop (mkF m 55 #[.val (.ref a1), .val (.long q2), .second, .unset, .unset, .unset] [(.long (v_width_a1.toInt64)), (.long ((v_size_a1.toInt64) + q2))])) t
    refine XS.lmul X20.here hx rfl (Jvm.hb hby d5_55) rfl ?_
    show Steps p.tables e below (T20.setTop (mkF m 56 #[.val (.ref a1), .val (.long q2), .second, .unset, .unset, .unset] [(.long (((v_size_a1.toInt64) + q2) * (v_width_a1.toInt64)))])) t
    refine XS.lstoreN X20.here hx rfl (Jvm.hb hby d5_56) rfl (l' := #[.val (.ref a1), .val (.long q2), .second, .val (.long (f5_u1 q2 v_size_a1 v_width_a1)), .second, .unset]) rfl ?_
    show Steps p.tables e below (T20.setTop (mkF m 57 #[.val (.ref a1), .val (.long q2), .second, .val (.long (f5_u1 q2 v_size_a1 v_width_a1)), .second, .unset] [])) t
    refine XS.lloadN X20.here hx rfl (Jvm.hb hby d5_57) rfl ?_
    show Steps p.tables e below (T20.setTop (mkF m 58 #[.val (.ref a1), .val (.long q2), .second, .val (.long (f5_u1 q2 v_size_a1 v_width_a1)), .second, .unset] [(.long (f5_u1 q2 v_size_a1 v_width_a1))])) t
    refine XS.aloadN X20.here hx rfl (Jvm.hb hby d5_58) rfl rfl ?_
    show Steps p.tables e below (T20.setTop (mkF m 59 #[.val (.ref a1), .val (.long q2), .second, .val (.long (f5_u1 q2 v_size_a1 v_width_a1)), .second, .unset] [(.ref a1), (.long (f5_u1 q2 v_size_a1 v_width_a1))])) t
    exact k
  obtain ⟨T23, X23, e23, st23⟩ := getF X20 hx hZ hown (host := "") (Or.inl (hw _ (List.mem_of_getElem? (i := 16) rfl))) Via.refl e20 F_cells_a1 (g := (mkF m 59 #[.val (.ref a1), .val (.long q2), .second, .val (.long (f5_u1 q2 v_size_a1 v_width_a1)), .second, .unset] [(.ref a1), (.long (f5_u1 q2 v_size_a1 v_width_a1))])) rfl rfl (Jvm.hb hby d5_59)
  have K24 : ∀ t, Steps p.tables e below (T23.setTop (mkF m 62 #[.val (.ref a1), .val (.long q2), .second, .val (.long (f5_u1 q2 v_size_a1 v_width_a1)), .second, .unset] [(.ref v_cells_a1), (.long (f5_u1 q2 v_size_a1 v_width_a1))])) t → Steps p.tables e below (T20.setTop (mkF m 59 #[.val (.ref a1), .val (.long q2), .second, .val (.long (f5_u1 q2 v_size_a1 v_width_a1)), .second, .unset] [(.ref a1), (.long (f5_u1 q2 v_size_a1 v_width_a1))])) t := fun t k => st23 _ k
  obtain ⟨cl25, Aq26, sq27, nq28⟩ := Ia.len A_v_cells_a1
  have K29 : ∀ t, Steps p.tables e below (T23.setTop (mkF m 65 #[.val (.ref a1), .val (.long q2), .second, .val (.long (f5_u1 q2 v_size_a1 v_width_a1)), .second, .unset] [(.int (own_cmp (f5_u1 q2 v_size_a1 v_width_a1) (n_v_cells_a1.toInt64)))])) t → Steps p.tables e below (T23.setTop (mkF m 62 #[.val (.ref a1), .val (.long q2), .second, .val (.long (f5_u1 q2 v_size_a1 v_width_a1)), .second, .unset] [(.ref v_cells_a1), (.long (f5_u1 q2 v_size_a1 v_width_a1))])) t := by
    intro t k
    refine X23.arraylength hx (by rw [e23]; exact Aq26.1) (State.isArrayOf_alike hZ.alike Aq26.2.1) (g := (mkF m 62 #[.val (.ref a1), .val (.long q2), .second, .val (.long (f5_u1 q2 v_size_a1 v_width_a1)), .second, .unset] [(.ref v_cells_a1), (.long (f5_u1 q2 v_size_a1 v_width_a1))])) rfl rfl (Jvm.hb hby d5_62) _ ?_
    rw [len_of sq27 nq28]
    show Steps p.tables e below (T23.setTop (mkF m 63 #[.val (.ref a1), .val (.long q2), .second, .val (.long (f5_u1 q2 v_size_a1 v_width_a1)), .second, .unset] [(.int n_v_cells_a1), (.long (f5_u1 q2 v_size_a1 v_width_a1))])) t
    refine XS.i2l X23.here hx rfl (Jvm.hb hby d5_63) rfl ?_
    show Steps p.tables e below (T23.setTop (mkF m 64 #[.val (.ref a1), .val (.long q2), .second, .val (.long (f5_u1 q2 v_size_a1 v_width_a1)), .second, .unset] [(.long (n_v_cells_a1.toInt64)), (.long (f5_u1 q2 v_size_a1 v_width_a1))])) t
    refine XS.lcmp X23.here hx rfl (Jvm.hb hby d5_64) rfl ?_
    show Steps p.tables e below (T23.setTop (mkF m 65 #[.val (.ref a1), .val (.long q2), .second, .val (.long (f5_u1 q2 v_size_a1 v_width_a1)), .second, .unset] [(.int (own_cmp (f5_u1 q2 v_size_a1 v_width_a1) (n_v_cells_a1.toInt64)))])) t
    exact k
  have hc30 : ¬ ((0 : Int32) < (own_cmp (f5_u1 q2 v_size_a1 v_width_a1) (n_v_cells_a1.toInt64))) := hr3
  have K31 : ∀ t, Steps p.tables e below (T23.setTop (mkF m 100 #[.val (.ref a1), .val (.long q2), .second, .val (.long (f5_u1 q2 v_size_a1 v_width_a1)), .second, .unset] [])) t → Steps p.tables e below (T23.setTop (mkF m 65 #[.val (.ref a1), .val (.long q2), .second, .val (.long (f5_u1 q2 v_size_a1 v_width_a1)), .second, .unset] [(.int (own_cmp (f5_u1 q2 v_size_a1 v_width_a1) (n_v_cells_a1.toInt64)))])) t := by
    intro t k
    refine XS.ifYes X23.here hx rfl (pc0 := 65) (pc' := 100) rfl (Jvm.hb hby d5_65) rfl ((if0 _ _).trans (flt hc30).2.2.2) (by decide) (by decide) ?_
    exact k
  have K32 : ∀ t, Steps p.tables e below (T23.setTop (mkF m 101 #[.val (.ref a1), .val (.long q2), .second, .val (.long (f5_u1 q2 v_size_a1 v_width_a1)), .second, .unset] [(.ref a1)])) t → Steps p.tables e below (T23.setTop (mkF m 100 #[.val (.ref a1), .val (.long q2), .second, .val (.long (f5_u1 q2 v_size_a1 v_width_a1)), .second, .unset] [])) t := by
    intro t k
    refine XS.aloadN X23.here hx rfl (Jvm.hb hby d5_100) rfl rfl ?_
    show Steps p.tables e below (T23.setTop (mkF m 101 #[.val (.ref a1), .val (.long q2), .second, .val (.long (f5_u1 q2 v_size_a1 v_width_a1)), .second, .unset] [(.ref a1)])) t
    exact k
  obtain ⟨T33, X33, e33, st33⟩ := getF X23 hx hZ hown (host := "") (Or.inl (hw _ (List.mem_of_getElem? (i := 28) rfl))) Via.refl e23 F_size_a1 (g := (mkF m 101 #[.val (.ref a1), .val (.long q2), .second, .val (.long (f5_u1 q2 v_size_a1 v_width_a1)), .second, .unset] [(.ref a1)])) rfl rfl (Jvm.hb hby d5_101)
  have K34 : ∀ t, Steps p.tables e below (T33.setTop (mkF m 104 #[.val (.ref a1), .val (.long q2), .second, .val (.long (f5_u1 q2 v_size_a1 v_width_a1)), .second, .unset] [(.int v_size_a1)])) t → Steps p.tables e below (T23.setTop (mkF m 101 #[.val (.ref a1), .val (.long q2), .second, .val (.long (f5_u1 q2 v_size_a1 v_width_a1)), .second, .unset] [(.ref a1)])) t := fun t k => st33 _ k
  have K35 : ∀ t, Steps p.tables e below (T33.setTop (mkF m 105 #[.val (.ref a1), .val (.long q2), .second, .val (.long (f5_u1 q2 v_size_a1 v_width_a1)), .second, .unset] [(.ref a1), (.int v_size_a1)])) t → Steps p.tables e below (T33.setTop (mkF m 104 #[.val (.ref a1), .val (.long q2), .second, .val (.long (f5_u1 q2 v_size_a1 v_width_a1)), .second, .unset] [(.int v_size_a1)])) t := by
    intro t k
    refine XS.aloadN X33.here hx rfl (Jvm.hb hby d5_104) rfl rfl ?_
    show Steps p.tables e below (T33.setTop (mkF m 105 #[.val (.ref a1), .val (.long q2), .second, .val (.long (f5_u1 q2 v_size_a1 v_width_a1)), .second, .unset] [(.ref a1), (.int v_size_a1)])) t
    exact k
  obtain ⟨T36, X36, e36, st36⟩ := getF X33 hx hZ hown (host := "") (Or.inl (hw _ (List.mem_of_getElem? (i := 14) rfl))) Via.refl e33 F_width_a1 (g := (mkF m 105 #[.val (.ref a1), .val (.long q2), .second, .val (.long (f5_u1 q2 v_size_a1 v_width_a1)), .second, .unset] [(.ref a1), (.int v_size_a1)])) rfl rfl (Jvm.hb hby d5_105)
  have K37 : ∀ t, Steps p.tables e below (T36.setTop (mkF m 108 #[.val (.ref a1), .val (.long q2), .second, .val (.long (f5_u1 q2 v_size_a1 v_width_a1)), .second, .unset] [(.int v_width_a1), (.int v_size_a1)])) t → Steps p.tables e below (T33.setTop (mkF m 105 #[.val (.ref a1), .val (.long q2), .second, .val (.long (f5_u1 q2 v_size_a1 v_width_a1)), .second, .unset] [(.ref a1), (.int v_size_a1)])) t := fun t k => st36 _ k
  have K38 : ∀ t, Steps p.tables e below (T36.setTop (mkF m 113 #[.val (.ref a1), .val (.long q2), .second, .val (.long (f5_u1 q2 v_size_a1 v_width_a1)), .second, .val (.int (v_size_a1 * v_width_a1))] [(.ref a1), (.ref a1)])) t → Steps p.tables e below (T36.setTop (mkF m 108 #[.val (.ref a1), .val (.long q2), .second, .val (.long (f5_u1 q2 v_size_a1 v_width_a1)), .second, .unset] [(.int v_width_a1), (.int v_size_a1)])) t := by
    intro t k
    refine XS.imul X36.here hx rfl (Jvm.hb hby d5_108) rfl ?_
    show Steps p.tables e below (T36.setTop (mkF m 109 #[.val (.ref a1), .val (.long q2), .second, .val (.long (f5_u1 q2 v_size_a1 v_width_a1)), .second, .unset] [(.int (v_size_a1 * v_width_a1))])) t
    refine XS.istore X36.here hx rfl (Jvm.hb hby d5_109) rfl (l' := #[.val (.ref a1), .val (.long q2), .second, .val (.long (f5_u1 q2 v_size_a1 v_width_a1)), .second, .val (.int (v_size_a1 * v_width_a1))]) rfl ?_
    show Steps p.tables e below (T36.setTop (mkF m 111 #[.val (.ref a1), .val (.long q2), .second, .val (.long (f5_u1 q2 v_size_a1 v_width_a1)), .second, .val (.int (v_size_a1 * v_width_a1))] [])) t
    refine XS.aloadN X36.here hx rfl (Jvm.hb hby d5_111) rfl rfl ?_
    show Steps p.tables e below (T36.setTop (mkF m 112 #[.val (.ref a1), .val (.long q2), .second, .val (.long (f5_u1 q2 v_size_a1 v_width_a1)), .second, .val (.int (v_size_a1 * v_width_a1))] [(.ref a1)])) t
    refine XS.dup X36.here hx rfl (Jvm.hb hby d5_112) rfl rfl ?_
    show Steps p.tables e below (T36.setTop (mkF m 113 #[.val (.ref a1), .val (.long q2), .second, .val (.long (f5_u1 q2 v_size_a1 v_width_a1)), .second, .val (.int (v_size_a1 * v_width_a1))] [(.ref a1), (.ref a1)])) t
    exact k
  obtain ⟨T39, X39, e39, st39⟩ := getF X36 hx hZ hown (host := "") (Or.inl (hw _ (List.mem_of_getElem? (i := 28) rfl))) Via.refl e36 F_size_a1 (g := (mkF m 113 #[.val (.ref a1), .val (.long q2), .second, .val (.long (f5_u1 q2 v_size_a1 v_width_a1)), .second, .val (.int (v_size_a1 * v_width_a1))] [(.ref a1), (.ref a1)])) rfl rfl (Jvm.hb hby d5_113)
  have K40 : ∀ t, Steps p.tables e below (T39.setTop (mkF m 116 #[.val (.ref a1), .val (.long q2), .second, .val (.long (f5_u1 q2 v_size_a1 v_width_a1)), .second, .val (.int (v_size_a1 * v_width_a1))] [(.int v_size_a1), (.ref a1)])) t → Steps p.tables e below (T36.setTop (mkF m 113 #[.val (.ref a1), .val (.long q2), .second, .val (.long (f5_u1 q2 v_size_a1 v_width_a1)), .second, .val (.int (v_size_a1 * v_width_a1))] [(.ref a1), (.ref a1)])) t := fun t k => st39 _ k
  have K41 : ∀ t, Steps p.tables e below (T39.setTop (mkF m 119 #[.val (.ref a1), .val (.long q2), .second, .val (.long (f5_u1 q2 v_size_a1 v_width_a1)), .second, .val (.int (v_size_a1 * v_width_a1))] [(.int (v_size_a1 + (q2.toInt32))), (.ref a1)])) t → Steps p.tables e below (T39.setTop (mkF m 116 #[.val (.ref a1), .val (.long q2), .second, .val (.long (f5_u1 q2 v_size_a1 v_width_a1)), .second, .val (.int (v_size_a1 * v_width_a1))] [(.int v_size_a1), (.ref a1)])) t := by
    intro t k
    refine XS.lloadN X39.here hx rfl (Jvm.hb hby d5_116) rfl ?_
    show Steps p.tables e below (T39.setTop (mkF m 117 #[.val (.ref a1), .val (.long q2), .second, .val (.long (f5_u1 q2 v_size_a1 v_width_a1)), .second, .val (.int (v_size_a1 * v_width_a1))] [(.long q2), (.int v_size_a1), (.ref a1)])) t
    refine XS.l2i X39.here hx rfl (Jvm.hb hby d5_117) rfl ?_
    show Steps p.tables e below (T39.setTop (mkF m 118 #[.val (.ref a1), .val (.long q2), .second, .val (.long (f5_u1 q2 v_size_a1 v_width_a1)), .second, .val (.int (v_size_a1 * v_width_a1))] [(.int (q2.toInt32)), (.int v_size_a1), (.ref a1)])) t
    refine XS.iadd X39.here hx rfl (Jvm.hb hby d5_118) rfl ?_
    show Steps p.tables e below (T39.setTop (mkF m 119 #[.val (.ref a1), .val (.long q2), .second, .val (.long (f5_u1 q2 v_size_a1 v_width_a1)), .second, .val (.int (v_size_a1 * v_width_a1))] [(.int (v_size_a1 + (q2.toInt32))), (.ref a1)])) t
    exact k
  obtain ⟨T42, h42, X42, e42, W42, st42⟩ := putF X39 hx hZ hown (host := "") (Or.inl (hw _ (List.mem_of_getElem? (i := 28) rfl))) Via.refl e39 F_size_a1 E_a1 (Or.inl (hw _ (List.mem_of_getElem? (i := 29) rfl))) (hw _ (List.mem_of_getElem? (i := 6) rfl)) (ty := .int) (by decide) rfl rfl (g := (mkF m 119 #[.val (.ref a1), .val (.long q2), .second, .val (.long (f5_u1 q2 v_size_a1 v_width_a1)), .second, .val (.int (v_size_a1 * v_width_a1))] [(.int (v_size_a1 + (q2.toInt32))), (.ref a1)])) rfl rfl (Jvm.hb hby d5_119)
  have KP42 : Keep h0 h42 [a1] := (Keep.refl h0 [a1]).wr W42 (Or.inl (List.mem_of_getElem? (i := 0) rfl))
  have N42 := Fr.snoc X42 N0 g_a1
  have F42_0 : Fld Z h42 a1 "com/example/nestway/nestway/sparql/AnswerTable" "width" "I" (.int v_width_a1) := F_width_a1.other W42 (Or.inr (slot_ne (Or.inr (hw _ (List.mem_of_getElem? (i := 15) rfl))) (Or.inl (hw _ (List.mem_of_getElem? (i := 29) rfl))) (by decide) (t := .int) (t' := .int) (by decide) (by decide)))
  have F42_1 : Fld Z h42 a1 "com/example/nestway/nestway/sparql/AnswerTable" "cells" "[I" (.ref v_cells_a1) := F_cells_a1.other W42 (Or.inr (slot_ne (Or.inl (hw _ (List.mem_of_getElem? (i := 17) rfl))) (Or.inl (hw _ (List.mem_of_getElem? (i := 29) rfl))) (by decide) (t := (.array .int)) (t' := .int) (by decide) (by decide)))
  have A42_2 : Ia Z h42 v_cells_a1 .int n_v_cells_a1 f_v_cells_a1 := A_v_cells_a1.other W42 (Ne.symm (own_nea E_a1 (hw _ (List.mem_of_getElem? (i := 6) rfl)) A_v_cells_a1))
  have E42_3 : Exa Z h42 a1 "com/example/nestway/nestway/sparql/AnswerTable" := E_a1.wr W42
  have Fw42 : Fld Z h42 a1 "com/example/nestway/nestway/sparql/AnswerTable" "size" "I" (.int (v_size_a1 + (q2.toInt32))) := F_size_a1.same W42
  have K43 : ∀ t, Steps p.tables e below (T42.setTop (mkF m 122 #[.val (.ref a1), .val (.long q2), .second, .val (.long (f5_u1 q2 v_size_a1 v_width_a1)), .second, .val (.int (v_size_a1 * v_width_a1))] [])) t → Steps p.tables e below (T39.setTop (mkF m 119 #[.val (.ref a1), .val (.long q2), .second, .val (.long (f5_u1 q2 v_size_a1 v_width_a1)), .second, .val (.int (v_size_a1 * v_width_a1))] [(.int (v_size_a1 + (q2.toInt32))), (.ref a1)])) t := fun t k => st42 _ k
  have K44 : ∀ t, Steps p.tables e below (T42.setTop (mkF m 124 #[.val (.ref a1), .val (.long q2), .second, .val (.long (f5_u1 q2 v_size_a1 v_width_a1)), .second, .val (.int (v_size_a1 * v_width_a1))] [(.int (v_size_a1 * v_width_a1))])) t → Steps p.tables e below (T42.setTop (mkF m 122 #[.val (.ref a1), .val (.long q2), .second, .val (.long (f5_u1 q2 v_size_a1 v_width_a1)), .second, .val (.int (v_size_a1 * v_width_a1))] [])) t := by
    intro t k
    refine XS.iload X42.here hx rfl (Jvm.hb hby d5_122) rfl ?_
    show Steps p.tables e below (T42.setTop (mkF m 124 #[.val (.ref a1), .val (.long q2), .second, .val (.long (f5_u1 q2 v_size_a1 v_width_a1)), .second, .val (.int (v_size_a1 * v_width_a1))] [(.int (v_size_a1 * v_width_a1))])) t
    exact k
  obtain ⟨fs, hr, hrun, hended, hW, hsame⟩ := X42.leave (v := some (.int (v_size_a1 * v_width_a1))) (fun h => by rw [Bd.returns] at h; cases h) Bd.notSynchronized
  refine ⟨_, _, pre0 _ (K1 _ (K3 _ (K4 _ (K6 _ (K7 _ (K9 _ (K10 _ (K12 _ (K13 _ (K15 _ (K16 _ (K18 _ (K19 _ (K21 _ (K22 _ (K24 _ (K29 _ (K31 _ (K32 _ (K34 _ (K35 _ (K37 _ (K38 _ (K40 _ (K41 _ (K43 _ (K44 _ (retI X42 hx Bd.returns (Jvm.hb hby d5_124) hr)))))))))))))))))))))))))))), hrun, hended, _, _, rfl, ?_, ⟨_, rfl⟩, hW, hsame.mono (by decide) (by decide)⟩
  show Q5 Z a1 q2 v_size_a1 v_width_a1 v_cells_a1 n_v_cells_a1 f_v_cells_a1 h0 n0 _ T42.heap _
  rw [e42]
  exact ⟨congrArg (fun z => some (Value.int z)) (show (v_size_a1 * v_width_a1) = f5 v_size_a1 v_width_a1 from Eq.symm (rfl)), N42, KP42, F42_0, F42_1, E42_3, Fw42⟩
-- body 4: com/example/nestway/nestway/sparql/AnswerTable.add([IJ)V
theorem d4_0 : decode prog_70_method_6_code 0 = .ok (.aload_n 0, 1) := by decide +kernel
theorem d4_1 : decode prog_70_method_6_code 1 = .ok (.lload_n 2, 1) := by decide +kernel
theorem d4_2 : decode prog_70_method_6_code 2 = .ok (.invokevirtual 28, 3) := by decide +kernel
theorem d4_5 : decode prog_70_method_6_code 5 = .ok (.istore 4, 2) := by decide +kernel
theorem d4_7 : decode prog_70_method_6_code 7 = .ok (.lconst 0, 1) := by decide +kernel
theorem d4_8 : decode prog_70_method_6_code 8 = .ok (.lstore 5, 2) := by decide +kernel
theorem d4_10 : decode prog_70_method_6_code 10 = .ok (.lload 5, 2) := by decide +kernel
theorem d4_12 : decode prog_70_method_6_code 12 = .ok (.lload_n 2, 1) := by decide +kernel
theorem d4_13 : decode prog_70_method_6_code 13 = .ok (.lcmp, 1) := by decide +kernel
theorem d4_14 : decode prog_70_method_6_code 14 = .ok (.ifCond .ge 36, 3) := by decide +kernel
theorem d4_17 : decode prog_70_method_6_code 17 = .ok (.aload_n 1, 1) := by decide +kernel
theorem d4_18 : decode prog_70_method_6_code 18 = .ok (.iconst 0, 1) := by decide +kernel
theorem d4_19 : decode prog_70_method_6_code 19 = .ok (.aload_n 0, 1) := by decide +kernel
theorem d4_20 : decode prog_70_method_6_code 20 = .ok (.getfield 15, 3) := by decide +kernel
theorem d4_23 : decode prog_70_method_6_code 23 = .ok (.iload 4, 2) := by decide +kernel
theorem d4_25 : decode prog_70_method_6_code 25 = .ok (.aload_n 0, 1) := by decide +kernel
theorem d4_26 : decode prog_70_method_6_code 26 = .ok (.getfield 9, 3) := by decide +kernel
theorem d4_29 : decode prog_70_method_6_code 29 = .ok (.invokestatic 22, 3) := by decide +kernel
theorem d4_32 : decode prog_70_method_6_code 32 = .ok (.iload 4, 2) := by decide +kernel
theorem d4_34 : decode prog_70_method_6_code 34 = .ok (.aload_n 0, 1) := by decide +kernel
theorem d4_35 : decode prog_70_method_6_code 35 = .ok (.getfield 9, 3) := by decide +kernel
theorem d4_38 : decode prog_70_method_6_code 38 = .ok (.iadd, 1) := by decide +kernel
theorem d4_39 : decode prog_70_method_6_code 39 = .ok (.istore 4, 2) := by decide +kernel
theorem d4_41 : decode prog_70_method_6_code 41 = .ok (.lload 5, 2) := by decide +kernel
theorem d4_43 : decode prog_70_method_6_code 43 = .ok (.lconst 1, 1) := by decide +kernel
theorem d4_44 : decode prog_70_method_6_code 44 = .ok (.ladd, 1) := by decide +kernel
theorem d4_45 : decode prog_70_method_6_code 45 = .ok (.lstore 5, 2) := by decide +kernel
theorem d4_47 : decode prog_70_method_6_code 47 = .ok (.goto (-37), 3) := by decide +kernel
theorem d4_50 : decode prog_70_method_6_code 50 = .ok (.return_, 1) := by decide +kernel
theorem pn_4 : plainName "com/example/nestway/nestway/sparql/AnswerTable" = true := by first | (simp [plainName, overriddenIn]; done) | decide +kernel
theorem pd_4 : parseMethodDescriptor "(J)I" = some ⟨[.long], some .int⟩ := by decide +kernel
theorem ef_4 (m : MethodId) (a1 : Addr) (a2 : Addr) (q3 : Int64) : entryFrame m #[(.ref a1), (.ref a2), (.long q3)] 7 = mkF m 0 #[.val (.ref a1), .val (.ref a2), .val (.long q3), .second, .unset, .unset, .unset] [] := by first | (simp [entryFrame, mkF, argsToLocals, Value.category]; done) | rfl
def f4_u1 (v_width_a1 : Int32) (f_a2 : Int32 → Int32) (i4 : Int32) (g : Int32 → Int32) : Int32 → Int32 := (cpy f_a2 (0 : Int32) g i4 v_width_a1)
def f4_G_g (q3 : Int64) (v_size_a1 : Int32) (v_width_a1 : Int32) (f_v_cells_a1 : Int32 → Int32) (f_a2 : Int32 → Int32) : Nat → (Int32) → (Int64) → (Int32 → Int32) → Int32 → Int32
  | 0, _, _, g => g
  | k + 1, i4, j5, g => (if (own_cmp j5 q3) < (0 : Int32) then (f4_G_g q3 v_size_a1 v_width_a1 f_v_cells_a1 f_a2 k (i4 + v_width_a1) (j5 + (1 : Int64)) (f4_u1 v_width_a1 f_a2 i4 g)) else g)
theorem f4_G_g_succ (q3 : Int64) (v_size_a1 : Int32) (v_width_a1 : Int32) (f_v_cells_a1 : Int32 → Int32) (f_a2 : Int32 → Int32) (k : Nat) (i4 : Int32) (j5 : Int64) (g : Int32 → Int32) : f4_G_g q3 v_size_a1 v_width_a1 f_v_cells_a1 f_a2 (k + 1) i4 j5 g = (if (own_cmp j5 q3) < (0 : Int32) then (f4_G_g q3 v_size_a1 v_width_a1 f_v_cells_a1 f_a2 k (i4 + v_width_a1) (j5 + (1 : Int64)) (f4_u1 v_width_a1 f_a2 i4 g)) else g) := rfl
def f4_G_g0 (q3 : Int64) (v_size_a1 : Int32) (v_width_a1 : Int32) (f_v_cells_a1 : Int32 → Int32) (f_a2 : Int32 → Int32) : Int32 → Int32 := (f4_G_g q3 v_size_a1 v_width_a1 f_v_cells_a1 f_a2 (17) (f5 v_size_a1 v_width_a1) (0 : Int64) f_v_cells_a1)
def Q4 (Z : State) (a1 : Addr) (a2 : Addr) (q3 : Int64) (v_size_a1 : Int32) (v_width_a1 : Int32) (v_cells_a1 : Addr) (n_v_cells_a1 : Int32) (f_v_cells_a1 : Int32 → Int32) (n_a2 : Int32) (f_a2 : Int32 → Int32) (h0 : Heap) (n0 : Nat) (v : Option Value) (h : Heap) (L : List Loc) : Prop := v = none ∧ Fr n0 L ∧ Keep h0 h [a1, v_cells_a1] ∧ Ia Z h v_cells_a1 .int n_v_cells_a1 (f4_G_g0 q3 v_size_a1 v_width_a1 f_v_cells_a1 f_a2) ∧ Fld Z h a1 "com/example/nestway/nestway/sparql/AnswerTable" "width" "I" (.int v_width_a1) ∧ Fld Z h a1 "com/example/nestway/nestway/sparql/AnswerTable" "cells" "[I" (.ref v_cells_a1) ∧ Exa Z h a1 "com/example/nestway/nestway/sparql/AnswerTable" ∧ Fld Z h a1 "com/example/nestway/nestway/sparql/AnswerTable" "size" "I" (.int (v_size_a1 + (q3.toInt32)))
set_option maxRecDepth 65536 in
set_option maxHeartbeats 40000000 in
theorem rm4 (l : Launch) (Z : State) (a0 : Array Value) (hw : ∀ d ∈ tables_1, d.before a0 Z = true) (ws : List Jvm.Cond) (a1 : Addr) (a2 : Addr) (q3 : Int64) (v_size_a1 : Int32) (v_width_a1 : Int32) (v_cells_a1 : Addr) (n_v_cells_a1 : Int32) (f_v_cells_a1 : Int32 → Int32) (n_a2 : Int32) (f_a2 : Int32 → Int32) (h0 : Heap) (n0 : Nat) (Z0 : n0 ≤ h0.size) (hne : a2 ≠ v_cells_a1) (hq : ∃ W C S N : Nat, v_width_a1 = Int32.ofNat W ∧ q3 = Int64.ofNat C ∧ v_size_a1 = Int32.ofNat S ∧ n_v_cells_a1 = Int32.ofNat N ∧ n_a2 = Int32.ofNat W ∧ 1 ≤ W ∧ W ≤ 4 ∧ C ≤ 16 ∧ S ≤ 16 ∧ (S + C) * W ≤ N ∧ N ≤ 200) (E_a1 : Exa Z h0 a1 "com/example/nestway/nestway/sparql/AnswerTable") (F_size_a1 : Fld Z h0 a1 "com/example/nestway/nestway/sparql/AnswerTable" "size" "I" (.int v_size_a1)) (F_width_a1 : Fld Z h0 a1 "com/example/nestway/nestway/sparql/AnswerTable" "width" "I" (.int v_width_a1)) (F_cells_a1 : Fld Z h0 a1 "com/example/nestway/nestway/sparql/AnswerTable" "cells" "[I" (.ref v_cells_a1)) (A_v_cells_a1 : Ia Z h0 v_cells_a1 .int n_v_cells_a1 f_v_cells_a1) (g_a1 : n0 ≤ a1) (A_a2 : Ia Z h0 a2 .int n_a2 f_a2) (g_v_cells_a1 : n0 ≤ v_cells_a1) :
    MetFree l (⟨"com/example/nestway/nestway/sparql/AnswerTable", "add", "([IJ)V"⟩ : MethodName) (head1 (Jvm.Cond.code (⟨"com/example/nestway/nestway/sparql/AnswerTable", "add", "([IJ)V"⟩ : MethodName) prog_70_method_6_code 7 none :: ws) ({ frames := 1, cells := 0, slots := 0, locals := 30 } : Room)) (fun a U => a = #[(.ref a1), (.ref a2), (.long q3)] ∧ Z.Warmed39 U.vm ∧ U.heap = h0) (fun _ _ _ _ _ => True) (fun _ U o U' => ∃ v L, o = .returned v ∧ Q4 Z a1 a2 q3 v_size_a1 v_width_a1 v_cells_a1 n_v_cells_a1 f_v_cells_a1 n_a2 f_a2 h0 n0 v U'.heap L ∧ FrameEnd U o U' L ({ frames := 1, cells := 0, slots := 0, locals := 30 } : Room).cells ({ frames := 1, cells := 0, slots := 0, locals := 30 } : Room).slots) := by
  refine MetFree.of_bodySF (plainFor_of_name pn_4) hisR ?_
  intro p e s m args below meth c s₁ Bd hml0 hP hK
  obtain ⟨rfl, hZ, hh⟩ := hP
  have hx := Bd.exec
  have hby := Bd.bytes
  have hml : c.maxLocals = 7 := hml0
  have hown : s.vm.findClass "com/example/nestway/nestway/sparql/AnswerTable" = some m.cls := findClass_of_methodNamed Bd.named
  have hnm := (name_of_methodNamed Bd.named Bd.method).1
  have X0 : Stand p l e ({ frames := 1, cells := 0, slots := 0, locals := 30 } : Room) s m #[(.ref a1), (.ref a2), (.long q3)] below meth c s₁ [] 0 0 := Stand.of_body Bd
  have e0 : s₁.heap = h0 := by rw [← hh, Bd.state]; rfl
  have N0 := Fr.nil n0
  have pre0 : ∀ t, Steps p.tables e below (s₁.setTop (mkF m 0 #[.val (.ref a1), .val (.ref a2), .val (.long q3), .second, .unset, .unset, .unset] [])) t → Steps p.tables e below (s₁.setTop (entryFrame m #[(.ref a1), (.ref a2), (.long q3)] 7)) t := fun t k => castTop (ef_4 m a1 a2 q3) k
  obtain ⟨W, C, S, N, eW, eC, eS, eN, eA, b1, b2, b3, b4, b5, b6⟩ := hq
  have K1 : ∀ t, Steps p.tables e below (s₁.setTop (mkF m 2 #[.val (.ref a1), .val (.ref a2), .val (.long q3), .second, .unset, .unset, .unset] [(.long q3), (.ref a1)])) t → Steps p.tables e below (s₁.setTop (mkF m 0 #[.val (.ref a1), .val (.ref a2), .val (.long q3), .second, .unset, .unset, .unset] [])) t := by
    intro t k
    refine XS.aloadN X0.here hx rfl (Jvm.hb hby d4_0) rfl rfl ?_
    show Steps p.tables e below (s₁.setTop (mkF m 1 #[.val (.ref a1), .val (.ref a2), .val (.long q3), .second, .unset, .unset, .unset] [(.ref a1)])) t
    refine XS.lloadN X0.here hx rfl (Jvm.hb hby d4_1) rfl ?_
    show Steps p.tables e below (s₁.setTop (mkF m 2 #[.val (.ref a1), .val (.ref a2), .val (.long q3), .second, .unset, .unset, .unset] [(.long q3), (.ref a1)])) t
    exact k
  obtain ⟨cq2, q2, q2'⟩ := E_a1.cell
  obtain ⟨_, _, ⟨T2, L2, k2, n2⟩, -, X2, ⟨Lc2, hQ2, l2, y2, z2⟩, st2⟩ := X0.privateBack hx (y := (⟨"com/example/nestway/nestway/sparql/AnswerTable", "room", "(J)I"⟩ : MethodName)) hown (mvT hZ (hw _ (List.mem_of_getElem? (i := 23) rfl))) (mvT hZ (hw _ (List.mem_of_getElem? (i := 24) rfl))) (own_sel (args' := #[]) (x := (⟨"com/example/nestway/nestway/sparql/AnswerTable", "add", "([IJ)V"⟩ : MethodName)) rfl (mvT hZ (hw _ (List.mem_of_getElem? (i := 21) rfl))) (Cond.privateMethod_at (mvP hZ (hw _ (List.mem_of_getElem? (i := 25) rfl)) (args := #[]))) (mvT hZ (hw _ (List.mem_of_getElem? (i := 24) rfl))) (by decide)) (Cond.privateMethod_at (mvP hZ (hw _ (List.mem_of_getElem? (i := 25) rfl)) (args := #[]))) (mvT hZ (hw _ (List.mem_of_getElem? (i := 26) rfl))) (by decide) (backOf (W := 0) (rm5 l Z a0 hw [] a1 q3 v_size_a1 v_width_a1 v_cells_a1 n_v_cells_a1 f_v_cells_a1 h0 n0 Z0 (by rw [eC, eS]; exact own_r1 C S b3 b4) (by rw [eS, eC, eW]; exact own_r2 C S W b3 b4 b2) (by rw [eS, eC, eW, eN, own_r3 C S W N b3 b4 b2 b6]; omega) F_size_a1 F_width_a1 F_cells_a1 A_v_cells_a1 E_a1 g_a1) hZ (hw _ (List.mem_of_getElem? (i := 26) rfl)) (hw _ (List.mem_of_getElem? (i := 7) rfl)) (by decide) (by decide)) (g := (mkF m 2 #[.val (.ref a1), .val (.ref a2), .val (.long q3), .second, .unset, .unset, .unset] [(.long q3), (.ref a1)])) rfl (by rw [hml]; rfl) (Steps.refl _) (a := a1) (by rw [e0]; exact q2) q2' (argsL := [(.long q3)]) (rest := []) (lenOf pd_4 rfl) rfl (by show 2 * 0 + _ ≤ _; exact Nat.le_of_eq rfl) (Jvm.hb hby d4_2) (fun _ _ => ⟨rfl, e0, (by decide : 0 + 0 ≤ _), (by decide : 0 + 0 ≤ _)⟩)
  dsimp only [Pt.U, Pt.locs, Pt.cells, Pt.slots] at X2 l2 y2 z2 st2 hQ2
  subst l2 y2 z2
  obtain ⟨h2, e2⟩ : ∃ z, T2.heap = z := ⟨_, rfl⟩
  rw [e2] at hQ2
  obtain ⟨rfl, N2q, Kq2, R2_0, R2_1, R2_2, R2_3⟩ := hQ2
  have N2 := Fr.app N0 N2q
  have KP2 : Keep h0 h2 [a1, v_cells_a1] := (Keep.refl h0 [a1, v_cells_a1]).trans Kq2 (allS (Or.inl (List.mem_of_getElem? (i := 0) rfl)) all0)
  have A2_0 : Ia Z h2 v_cells_a1 .int n_v_cells_a1 f_v_cells_a1 := A_v_cells_a1.keep Kq2 (ninS (Ne.symm (own_nea E_a1 (hw _ (List.mem_of_getElem? (i := 6) rfl)) A_v_cells_a1)) nin0)
  have A2_1 : Ia Z h2 a2 .int n_a2 f_a2 := A_a2.keep Kq2 (ninS (Ne.symm (own_nea E_a1 (hw _ (List.mem_of_getElem? (i := 6) rfl)) A_a2)) nin0)
  have K3 : ∀ t, Steps p.tables e below (T2.setTop (mkF m 5 #[.val (.ref a1), .val (.ref a2), .val (.long q3), .second, .unset, .unset, .unset] [(.int (f5 v_size_a1 v_width_a1))])) t → Steps p.tables e below (s₁.setTop (mkF m 2 #[.val (.ref a1), .val (.ref a2), .val (.long q3), .second, .unset, .unset, .unset] [(.long q3), (.ref a1)])) t := fun t k => st2.trans k
  have K4 : ∀ t, Steps p.tables e below (T2.setTop (mkF m 10 #[.val (.ref a1), .val (.ref a2), .val (.long q3), .second, .val (.int (f5 v_size_a1 v_width_a1)), .val (.long (0 : Int64)), .second] [])) t → Steps p.tables e below (T2.setTop (mkF m 5 #[.val (.ref a1), .val (.ref a2), .val (.long q3), .second, .unset, .unset, .unset] [(.int (f5 v_size_a1 v_width_a1))])) t := by
    intro t k
    refine XS.istore X2.here hx rfl (Jvm.hb hby d4_5) rfl (l' := #[.val (.ref a1), .val (.ref a2), .val (.long q3), .second, .val (.int (f5 v_size_a1 v_width_a1)), .unset, .unset]) rfl ?_
    show Steps p.tables e below (T2.setTop (mkF m 7 #[.val (.ref a1), .val (.ref a2), .val (.long q3), .second, .val (.int (f5 v_size_a1 v_width_a1)), .unset, .unset] [])) t
    refine XS.lconst X2.here hx rfl (Jvm.hb hby d4_7) ?_
    show Steps p.tables e below (T2.setTop (mkF m 8 #[.val (.ref a1), .val (.ref a2), .val (.long q3), .second, .val (.int (f5 v_size_a1 v_width_a1)), .unset, .unset] [(.long (0 : Int64))])) t
    refine XS.lstore X2.here hx rfl (Jvm.hb hby d4_8) rfl (l' := #[.val (.ref a1), .val (.ref a2), .val (.long q3), .second, .val (.int (f5 v_size_a1 v_width_a1)), .val (.long (0 : Int64)), .second]) rfl ?_
    show Steps p.tables e below (T2.setTop (mkF m 10 #[.val (.ref a1), .val (.ref a2), .val (.long q3), .second, .val (.int (f5 v_size_a1 v_width_a1)), .val (.long (0 : Int64)), .second] [])) t
    exact k
  have LP : ∀ (k : Nat) (i4 : Int32) (j5 : Int64) (g : Int32 → Int32) (TL : State) (hL : Heap) (LL : List Loc), Stand p l e ({ frames := 1, cells := 0, slots := 0, locals := 30 } : Room) s m #[(.ref a1), (.ref a2), (.long q3)] below meth c TL LL 0 0 → TL.heap = hL → Fr n0 LL → Keep h0 hL [a1, v_cells_a1] → Ia Z hL v_cells_a1 .int n_v_cells_a1 g → Ia Z hL a2 .int n_a2 f_a2 → Fld Z hL a1 "com/example/nestway/nestway/sparql/AnswerTable" "width" "I" (.int v_width_a1) → Fld Z hL a1 "com/example/nestway/nestway/sparql/AnswerTable" "cells" "[I" (.ref v_cells_a1) → Exa Z hL a1 "com/example/nestway/nestway/sparql/AnswerTable" → Fld Z hL a1 "com/example/nestway/nestway/sparql/AnswerTable" "size" "I" (.int (v_size_a1 + (q3.toInt32))) → (∃ I J : Nat, i4 = Int32.ofNat I ∧ j5 = Int64.ofNat J ∧ J ≤ C ∧ C < J + k ∧ I + (C - J) * W ≤ N) → ∃ s₂ o, Steps p.tables e below (TL.setTop (mkF m 10 #[.val (.ref a1), .val (.ref a2), .val (.long q3), .second, .val (.int i4), .val (.long j5), .second] [])) s₂ ∧ s₂.status = .running ∧ Ended s₂ below o ∧ ∃ v L, o = .returned v ∧ (v = none ∧ Fr n0 L ∧ Keep h0 s₂.heap [a1, v_cells_a1] ∧ Ia Z s₂.heap v_cells_a1 .int n_v_cells_a1 (f4_G_g q3 v_size_a1 v_width_a1 f_v_cells_a1 f_a2 k i4 j5 g) ∧ Fld Z s₂.heap a1 "com/example/nestway/nestway/sparql/AnswerTable" "width" "I" (.int v_width_a1) ∧ Fld Z s₂.heap a1 "com/example/nestway/nestway/sparql/AnswerTable" "cells" "[I" (.ref v_cells_a1) ∧ Exa Z s₂.heap a1 "com/example/nestway/nestway/sparql/AnswerTable" ∧ Fld Z s₂.heap a1 "com/example/nestway/nestway/sparql/AnswerTable" "size" "I" (.int (v_size_a1 + (q3.toInt32)))) ∧ FrameEnd s o s₂ L ({ frames := 1, cells := 0, slots := 0, locals := 30 } : Room).cells ({ frames := 1, cells := 0, slots := 0, locals := 30 } : Room).slots := by
    intro k
    induction k with
    | zero =>
      intro i4 j5 g TL hL LL XL eL NL KL hL_0 hL_1 hL_2 hL_3 hL_4 hL_5 hv
      exfalso
      obtain ⟨I, J, -, -, h1, h2, -⟩ := hv
      omega
    | succ k ih =>
      intro i4 j5 g TL hL LL XL eL NL KL hL_0 hL_1 hL_2 hL_3 hL_4 hL_5 hv
      have K501 : ∀ t, Steps p.tables e below (TL.setTop (mkF m 14 #[.val (.ref a1), .val (.ref a2), .val (.long q3), .second, .val (.int i4), .val (.long j5), .second] [(.int (own_cmp j5 q3))])) t → Steps p.tables e below (TL.setTop (mkF m 10 #[.val (.ref a1), .val (.ref a2), .val (.long q3), .second, .val (.int i4), .val (.long j5), .second] [])) t := by
        intro t k
        refine XS.lload XL.here hx rfl (Jvm.hb hby d4_10) rfl ?_
        show Steps p.tables e below (TL.setTop (mkF m 12 #[.val (.ref a1), .val (.ref a2), .val (.long q3), .second, .val (.int i4), .val (.long j5), .second] [(.long j5)])) t
        refine XS.lloadN XL.here hx rfl (Jvm.hb hby d4_12) rfl ?_
        show Steps p.tables e below (TL.setTop (mkF m 13 #[.val (.ref a1), .val (.ref a2), .val (.long q3), .second, .val (.int i4), .val (.long j5), .second] [(.long q3), (.long j5)])) t
        refine XS.lcmp XL.here hx rfl (Jvm.hb hby d4_13) rfl ?_
        show Steps p.tables e below (TL.setTop (mkF m 14 #[.val (.ref a1), .val (.ref a2), .val (.long q3), .second, .val (.int i4), .val (.long j5), .second] [(.int (own_cmp j5 q3))])) t
        exact k
      by_cases hc502 : (own_cmp j5 q3) < (0 : Int32)
      · have K503 : ∀ t, Steps p.tables e below (TL.setTop (mkF m 17 #[.val (.ref a1), .val (.ref a2), .val (.long q3), .second, .val (.int i4), .val (.long j5), .second] [])) t → Steps p.tables e below (TL.setTop (mkF m 14 #[.val (.ref a1), .val (.ref a2), .val (.long q3), .second, .val (.int i4), .val (.long j5), .second] [(.int (own_cmp j5 q3))])) t := by
          intro t k
          refine XS.ifNo XL.here hx rfl (Jvm.hb hby d4_14) rfl ((if0 _ _).trans (tlt hc502).2.1) ?_
          exact k
        have K504 : ∀ t, Steps p.tables e below (TL.setTop (mkF m 20 #[.val (.ref a1), .val (.ref a2), .val (.long q3), .second, .val (.int i4), .val (.long j5), .second] [(.ref a1), (.int (0 : Int32)), (.ref a2)])) t → Steps p.tables e below (TL.setTop (mkF m 17 #[.val (.ref a1), .val (.ref a2), .val (.long q3), .second, .val (.int i4), .val (.long j5), .second] [])) t := by
          intro t k
          refine XS.aloadN XL.here hx rfl (Jvm.hb hby d4_17) rfl rfl ?_
          show Steps p.tables e below (TL.setTop (mkF m 18 #[.val (.ref a1), .val (.ref a2), .val (.long q3), .second, .val (.int i4), .val (.long j5), .second] [(.ref a2)])) t
          refine XS.iconst XL.here hx rfl (Jvm.hb hby d4_18) ?_
          show Steps p.tables e below (TL.setTop (mkF m 19 #[.val (.ref a1), .val (.ref a2), .val (.long q3), .second, .val (.int i4), .val (.long j5), .second] [(.int (0 : Int32)), (.ref a2)])) t
          refine XS.aloadN XL.here hx rfl (Jvm.hb hby d4_19) rfl rfl ?_
          show Steps p.tables e below (TL.setTop (mkF m 20 #[.val (.ref a1), .val (.ref a2), .val (.long q3), .second, .val (.int i4), .val (.long j5), .second] [(.ref a1), (.int (0 : Int32)), (.ref a2)])) t
          exact k
        obtain ⟨T505, X505, e505, st505⟩ := getF XL hx hZ hown (host := "") (Or.inl (hw _ (List.mem_of_getElem? (i := 16) rfl))) Via.refl eL hL_3 (g := (mkF m 20 #[.val (.ref a1), .val (.ref a2), .val (.long q3), .second, .val (.int i4), .val (.long j5), .second] [(.ref a1), (.int (0 : Int32)), (.ref a2)])) rfl rfl (Jvm.hb hby d4_20)
        have K506 : ∀ t, Steps p.tables e below (T505.setTop (mkF m 23 #[.val (.ref a1), .val (.ref a2), .val (.long q3), .second, .val (.int i4), .val (.long j5), .second] [(.ref v_cells_a1), (.int (0 : Int32)), (.ref a2)])) t → Steps p.tables e below (TL.setTop (mkF m 20 #[.val (.ref a1), .val (.ref a2), .val (.long q3), .second, .val (.int i4), .val (.long j5), .second] [(.ref a1), (.int (0 : Int32)), (.ref a2)])) t := fun t k => st505 _ k
        have K507 : ∀ t, Steps p.tables e below (T505.setTop (mkF m 26 #[.val (.ref a1), .val (.ref a2), .val (.long q3), .second, .val (.int i4), .val (.long j5), .second] [(.ref a1), (.int i4), (.ref v_cells_a1), (.int (0 : Int32)), (.ref a2)])) t → Steps p.tables e below (T505.setTop (mkF m 23 #[.val (.ref a1), .val (.ref a2), .val (.long q3), .second, .val (.int i4), .val (.long j5), .second] [(.ref v_cells_a1), (.int (0 : Int32)), (.ref a2)])) t := by
          intro t k
          refine XS.iload X505.here hx rfl (Jvm.hb hby d4_23) rfl ?_
          show Steps p.tables e below (T505.setTop (mkF m 25 #[.val (.ref a1), .val (.ref a2), .val (.long q3), .second, .val (.int i4), .val (.long j5), .second] [(.int i4), (.ref v_cells_a1), (.int (0 : Int32)), (.ref a2)])) t
          refine XS.aloadN X505.here hx rfl (Jvm.hb hby d4_25) rfl rfl ?_
          show Steps p.tables e below (T505.setTop (mkF m 26 #[.val (.ref a1), .val (.ref a2), .val (.long q3), .second, .val (.int i4), .val (.long j5), .second] [(.ref a1), (.int i4), (.ref v_cells_a1), (.int (0 : Int32)), (.ref a2)])) t
          exact k
        obtain ⟨T508, X508, e508, st508⟩ := getF X505 hx hZ hown (host := "") (Or.inl (hw _ (List.mem_of_getElem? (i := 14) rfl))) Via.refl e505 hL_2 (g := (mkF m 26 #[.val (.ref a1), .val (.ref a2), .val (.long q3), .second, .val (.int i4), .val (.long j5), .second] [(.ref a1), (.int i4), (.ref v_cells_a1), (.int (0 : Int32)), (.ref a2)])) rfl rfl (Jvm.hb hby d4_26)
        have K509 : ∀ t, Steps p.tables e below (T508.setTop (mkF m 29 #[.val (.ref a1), .val (.ref a2), .val (.long q3), .second, .val (.int i4), .val (.long j5), .second] [(.int v_width_a1), (.int i4), (.ref v_cells_a1), (.int (0 : Int32)), (.ref a2)])) t → Steps p.tables e below (T505.setTop (mkF m 26 #[.val (.ref a1), .val (.ref a2), .val (.long q3), .second, .val (.int i4), .val (.long j5), .second] [(.ref a1), (.int i4), (.ref v_cells_a1), (.int (0 : Int32)), (.ref a2)])) t := fun t k => st508 _ k
        obtain ⟨T510, h510, L510, X510, e510, N510, Kq510, Ac510, st510⟩ := own_cp X508 hx hZ hown (hw _ (List.mem_of_getElem? (i := 31) rfl)) (hw _ (List.mem_of_getElem? (i := 34) rfl)) (hw _ (List.mem_of_getElem? (i := 32) rfl)) (hw _ (List.mem_of_getElem? (i := 33) rfl)) e508 hL_1 hL_0 (by decide) (by obtain ⟨I, J, rfl, rfl, h1, h2, h3⟩ := hv; exact own_nn I (by omega)) (by rw [eW]; exact own_nn W (by omega)) (by rw [eW, eA]; exact own_c4 W b2) (by obtain ⟨I, J, rfl, rfl, h1, h2, h3⟩ := hv; have hlt := (own_jlt J C (by omega) (by omega) (by rw [← eC]; assumption)); obtain ⟨g1, g2⟩ := own_rest I J C W N hlt h3; rw [eN, eW]; exact own_c5 I W N g1 b6) NL g_v_cells_a1 (g := (mkF m 29 #[.val (.ref a1), .val (.ref a2), .val (.long q3), .second, .val (.int i4), .val (.long j5), .second] [(.int v_width_a1), (.int i4), (.ref v_cells_a1), (.int (0 : Int32)), (.ref a2)])) rfl (by rw [hml]; rfl) (rest := []) rfl (Jvm.hb hby d4_29) (by decide) (W := 0) (by show 2 * 0 + _ ≤ _; exact Nat.le_of_eq rfl) (by decide)
        have KP510 : Keep h0 h510 [a1, v_cells_a1] := KL.trans Kq510 (allS (Or.inl (List.mem_of_getElem? (i := 1) rfl)) all0)
        have A510_0 : Ia Z h510 a2 .int n_a2 f_a2 := hL_1.keep Kq510 (ninS hne nin0)
        have F510_1 : Fld Z h510 a1 "com/example/nestway/nestway/sparql/AnswerTable" "width" "I" (.int v_width_a1) := hL_2.keep Kq510 (ninS (own_nea hL_4 (hw _ (List.mem_of_getElem? (i := 6) rfl)) hL_0) nin0)
        have F510_2 : Fld Z h510 a1 "com/example/nestway/nestway/sparql/AnswerTable" "cells" "[I" (.ref v_cells_a1) := hL_3.keep Kq510 (ninS (own_nea hL_4 (hw _ (List.mem_of_getElem? (i := 6) rfl)) hL_0) nin0)
        have E510_3 : Exa Z h510 a1 "com/example/nestway/nestway/sparql/AnswerTable" := hL_4.keep Kq510
        have F510_4 : Fld Z h510 a1 "com/example/nestway/nestway/sparql/AnswerTable" "size" "I" (.int (v_size_a1 + (q3.toInt32))) := hL_5.keep Kq510 (ninS (own_nea hL_4 (hw _ (List.mem_of_getElem? (i := 6) rfl)) hL_0) nin0)
        have Aw510 : Ia Z h510 v_cells_a1 .int n_v_cells_a1 (f4_u1 v_width_a1 f_a2 i4 g) := Ac510
        have K511 : ∀ t, Steps p.tables e below (T510.setTop (mkF m 32 #[.val (.ref a1), .val (.ref a2), .val (.long q3), .second, .val (.int i4), .val (.long j5), .second] [])) t → Steps p.tables e below (T508.setTop (mkF m 29 #[.val (.ref a1), .val (.ref a2), .val (.long q3), .second, .val (.int i4), .val (.long j5), .second] [(.int v_width_a1), (.int i4), (.ref v_cells_a1), (.int (0 : Int32)), (.ref a2)])) t := fun t k => st510 _ k
        have K512 : ∀ t, Steps p.tables e below (T510.setTop (mkF m 35 #[.val (.ref a1), .val (.ref a2), .val (.long q3), .second, .val (.int i4), .val (.long j5), .second] [(.ref a1), (.int i4)])) t → Steps p.tables e below (T510.setTop (mkF m 32 #[.val (.ref a1), .val (.ref a2), .val (.long q3), .second, .val (.int i4), .val (.long j5), .second] [])) t := by
          intro t k
          refine XS.iload X510.here hx rfl (Jvm.hb hby d4_32) rfl ?_
          show Steps p.tables e below (T510.setTop (mkF m 34 #[.val (.ref a1), .val (.ref a2), .val (.long q3), .second, .val (.int i4), .val (.long j5), .second] [(.int i4)])) t
          refine XS.aloadN X510.here hx rfl (Jvm.hb hby d4_34) rfl rfl ?_
          show Steps p.tables e below (T510.setTop (mkF m 35 #[.val (.ref a1), .val (.ref a2), .val (.long q3), .second, .val (.int i4), .val (.long j5), .second] [(.ref a1), (.int i4)])) t
          exact k
        obtain ⟨T513, X513, e513, st513⟩ := getF X510 hx hZ hown (host := "") (Or.inl (hw _ (List.mem_of_getElem? (i := 14) rfl))) Via.refl e510 F510_1 (g := (mkF m 35 #[.val (.ref a1), .val (.ref a2), .val (.long q3), .second, .val (.int i4), .val (.long j5), .second] [(.ref a1), (.int i4)])) rfl rfl (Jvm.hb hby d4_35)
        have K514 : ∀ t, Steps p.tables e below (T513.setTop (mkF m 38 #[.val (.ref a1), .val (.ref a2), .val (.long q3), .second, .val (.int i4), .val (.long j5), .second] [(.int v_width_a1), (.int i4)])) t → Steps p.tables e below (T510.setTop (mkF m 35 #[.val (.ref a1), .val (.ref a2), .val (.long q3), .second, .val (.int i4), .val (.long j5), .second] [(.ref a1), (.int i4)])) t := fun t k => st513 _ k
        have K515 : ∀ t, Steps p.tables e below (T513.setTop (mkF m 10 #[.val (.ref a1), .val (.ref a2), .val (.long q3), .second, .val (.int (i4 + v_width_a1)), .val (.long (j5 + (1 : Int64))), .second] [])) t → Steps p.tables e below (T513.setTop (mkF m 38 #[.val (.ref a1), .val (.ref a2), .val (.long q3), .second, .val (.int i4), .val (.long j5), .second] [(.int v_width_a1), (.int i4)])) t := by
          intro t k
          refine XS.iadd X513.here hx rfl (Jvm.hb hby d4_38) rfl ?_
          show Steps p.tables e below (T513.setTop (mkF m 39 #[.val (.ref a1), .val (.ref a2), .val (.long q3), .second, .val (.int i4), .val (.long j5), .second] [(.int (i4 + v_width_a1))])) t
          refine XS.istore X513.here hx rfl (Jvm.hb hby d4_39) rfl (l' := #[.val (.ref a1), .val (.ref a2), .val (.long q3), .second, .val (.int (i4 + v_width_a1)), .val (.long j5), .second]) rfl ?_
          show Steps p.tables e below (T513.setTop (mkF m 41 #[.val (.ref a1), .val (.ref a2), .val (.long q3), .second, .val (.int (i4 + v_width_a1)), .val (.long j5), .second] [])) t
          refine XS.lload X513.here hx rfl (Jvm.hb hby d4_41) rfl ?_
          show Steps p.tables e below (T513.setTop (mkF m 43 #[.val (.ref a1), .val (.ref a2), .val (.long q3), .second, .val (.int (i4 + v_width_a1)), .val (.long j5), .second] [(.long j5)])) t
          refine XS.lconst X513.here hx rfl (Jvm.hb hby d4_43) ?_
          show Steps p.tables e below (T513.setTop (mkF m 44 #[.val (.ref a1), .val (.ref a2), .val (.long q3), .second, .val (.int (i4 + v_width_a1)), .val (.long j5), .second] [(.long (1 : Int64)), (.long j5)])) t
          refine XS.ladd X513.here hx rfl (Jvm.hb hby d4_44) rfl ?_
          show Steps p.tables e below (T513.setTop (mkF m 45 #[.val (.ref a1), .val (.ref a2), .val (.long q3), .second, .val (.int (i4 + v_width_a1)), .val (.long j5), .second] [(.long (j5 + (1 : Int64)))])) t
          refine XS.lstore X513.here hx rfl (Jvm.hb hby d4_45) rfl (l' := #[.val (.ref a1), .val (.ref a2), .val (.long q3), .second, .val (.int (i4 + v_width_a1)), .val (.long (j5 + (1 : Int64))), .second]) rfl ?_
          show Steps p.tables e below (T513.setTop (mkF m 47 #[.val (.ref a1), .val (.ref a2), .val (.long q3), .second, .val (.int (i4 + v_width_a1)), .val (.long (j5 + (1 : Int64))), .second] [])) t
          refine XS.goto X513.here hx rfl (pc0 := 47) (pc' := 10) rfl (Jvm.hb hby d4_47) (by decide) (by decide) ?_
          show Steps p.tables e below (T513.setTop (mkF m 10 #[.val (.ref a1), .val (.ref a2), .val (.long q3), .second, .val (.int (i4 + v_width_a1)), .val (.long (j5 + (1 : Int64))), .second] [])) t
          exact k
        obtain ⟨s₂, o, hs, zq1, zq2, v, L, zq3, zq4, zq7⟩ := ih (i4 + v_width_a1) (j5 + (1 : Int64)) (f4_u1 v_width_a1 f_a2 i4 g) T513 _ _ X513 e513 N510 KP510 Aw510 A510_0 F510_1 F510_2 E510_3 F510_4 (by obtain ⟨I, J, rfl, rfl, h1, h2, h3⟩ := hv; have hlt := (own_jlt J C (by omega) (by omega) (by rw [← eC]; assumption)); obtain ⟨g1, g2⟩ := own_rest I J C W N hlt h3; exact ⟨I + W, J + 1, by rw [eW]; exact (Int32.ofNat_add I W).symm, own_addL J 1, by omega, by omega, g2⟩)
        exact ⟨s₂, o, K501 _ (K503 _ (K504 _ (K506 _ (K507 _ (K509 _ (K511 _ (K512 _ (K514 _ (K515 _ (hs)))))))))), zq1, zq2, v, L, zq3, ⟨zq4.1, zq4.2.1, zq4.2.2.1, (by rw [show f4_G_g q3 v_size_a1 v_width_a1 f_v_cells_a1 f_a2 (k + 1) i4 j5 g = (f4_G_g q3 v_size_a1 v_width_a1 f_v_cells_a1 f_a2 k (i4 + v_width_a1) (j5 + (1 : Int64)) (f4_u1 v_width_a1 f_a2 i4 g)) from (f4_G_g_succ q3 v_size_a1 v_width_a1 f_v_cells_a1 f_a2 k i4 j5 g).trans (if_pos hc502)]; exact zq4.2.2.2.1), zq4.2.2.2.2.1, zq4.2.2.2.2.2.1, zq4.2.2.2.2.2.2.1, zq4.2.2.2.2.2.2.2⟩, zq7⟩
      · have K516 : ∀ t, Steps p.tables e below (TL.setTop (mkF m 50 #[.val (.ref a1), .val (.ref a2), .val (.long q3), .second, .val (.int i4), .val (.long j5), .second] [])) t → Steps p.tables e below (TL.setTop (mkF m 14 #[.val (.ref a1), .val (.ref a2), .val (.long q3), .second, .val (.int i4), .val (.long j5), .second] [(.int (own_cmp j5 q3))])) t := by
          intro t k
          refine XS.ifYes XL.here hx rfl (pc0 := 14) (pc' := 50) rfl (Jvm.hb hby d4_14) rfl ((if0 _ _).trans (flt hc502).2.1) (by decide) (by decide) ?_
          exact k
        obtain ⟨fs, hr, hrun, hended, hW, hsame⟩ := XL.leave (v := none) (fun _ => rfl) Bd.notSynchronized
        refine ⟨_, _, (K501 _ (K516 _ (XL.returnOut hx Bd.returns (Jvm.hb hby d4_50) hr))), hrun, hended, _, _, rfl, ?_, ⟨_, rfl⟩, hW, hsame.mono (by decide) (by decide)⟩
        show ((_ : Option Value) = none ∧ Fr n0 _ ∧ Keep h0 TL.heap [a1, v_cells_a1] ∧ Ia Z TL.heap v_cells_a1 .int n_v_cells_a1 (f4_G_g q3 v_size_a1 v_width_a1 f_v_cells_a1 f_a2 (k + 1) i4 j5 g) ∧ Fld Z TL.heap a1 "com/example/nestway/nestway/sparql/AnswerTable" "width" "I" (.int v_width_a1) ∧ Fld Z TL.heap a1 "com/example/nestway/nestway/sparql/AnswerTable" "cells" "[I" (.ref v_cells_a1) ∧ Exa Z TL.heap a1 "com/example/nestway/nestway/sparql/AnswerTable" ∧ Fld Z TL.heap a1 "com/example/nestway/nestway/sparql/AnswerTable" "size" "I" (.int (v_size_a1 + (q3.toInt32))))
        rw [eL]
        exact ⟨rfl, NL, KL, (by rw [show f4_G_g q3 v_size_a1 v_width_a1 f_v_cells_a1 f_a2 (k + 1) i4 j5 g = g from (f4_G_g_succ q3 v_size_a1 v_width_a1 f_v_cells_a1 f_a2 k i4 j5 g).trans (if_neg hc502)]; exact hL_0), hL_2, hL_3, hL_4, hL_5⟩
  obtain ⟨s₂, o, hs, zq1, zq2, v, L, zq3, zq4, zq7⟩ := LP (17) (f5 v_size_a1 v_width_a1) (0 : Int64) f_v_cells_a1 T2 _ _ X2 e2 N2 KP2 A2_0 A2_1 R2_0 R2_1 R2_2 R2_3 ⟨S * W, 0, by rw [eS, eW]; exact own_mul S W (Nat.lt_of_le_of_lt (own_mb S W (by omega) b2) (by decide)) (by omega) (by omega), rfl, by omega, by omega, by rw [Nat.sub_zero, ← Nat.add_mul]; exact b5⟩
  exact ⟨s₂, o, pre0 _ (K1 _ (K3 _ (K4 _ (hs)))), zq1, zq2, v, L, zq3, ⟨zq4.1, zq4.2.1, zq4.2.2.1, (by rw [show f4_G_g0 q3 v_size_a1 v_width_a1 f_v_cells_a1 f_a2 = (f4_G_g q3 v_size_a1 v_width_a1 f_v_cells_a1 f_a2 (17) (f5 v_size_a1 v_width_a1) (0 : Int64) f_v_cells_a1) from rfl]; exact zq4.2.2.2.1), zq4.2.2.2.2.1, zq4.2.2.2.2.2.1, zq4.2.2.2.2.2.2.1, zq4.2.2.2.2.2.2.2⟩, zq7⟩
-- body 8: java/lang/Math.max(JJ)J
theorem d8_0 : decode jdk_29_method_66_code 0 = .ok (.lload_n 0, 1) := by decide +kernel
theorem d8_1 : decode jdk_29_method_66_code 1 = .ok (.lload_n 2, 1) := by decide +kernel
theorem d8_2 : decode jdk_29_method_66_code 2 = .ok (.lcmp, 1) := by decide +kernel
theorem d8_3 : decode jdk_29_method_66_code 3 = .ok (.ifCond .lt 7, 3) := by decide +kernel
theorem d8_6 : decode jdk_29_method_66_code 6 = .ok (.lload_n 0, 1) := by decide +kernel
theorem d8_7 : decode jdk_29_method_66_code 7 = .ok (.goto 4, 3) := by decide +kernel
theorem d8_10 : decode jdk_29_method_66_code 10 = .ok (.lload_n 2, 1) := by decide +kernel
theorem d8_11 : decode jdk_29_method_66_code 11 = .ok (.lreturn, 1) := by decide +kernel
theorem ef_8 (m : MethodId) (q1 : Int64) (q2 : Int64) : entryFrame m #[(.long q1), (.long q2)] 4 = mkF m 0 #[.val (.long q1), .second, .val (.long q2), .second] [] := by first | (simp [entryFrame, mkF, argsToLocals, Value.category]; done) | rfl
def f8 (q1 : Int64) (q2 : Int64) : Int64 := (if (own_cmp q1 q2) < (0 : Int32) then q2 else q1)
def Q8 (Z : State) (q1 : Int64) (q2 : Int64) (h0 : Heap) (n0 : Nat) (v : Option Value) (h : Heap) (L : List Loc) : Prop := v = some (.long (f8 q1 q2)) ∧ Fr n0 L ∧ h = h0
set_option maxRecDepth 65536 in
set_option maxHeartbeats 40000000 in
theorem rm8 (l : Launch) (Z : State) (a0 : Array Value) (hw : ∀ d ∈ tables_1, d.before a0 Z = true) (ws : List Jvm.Cond) (q1 : Int64) (q2 : Int64) (h0 : Heap) (n0 : Nat) (Z0 : n0 ≤ h0.size) :
    MetFree l (⟨"java/lang/Math", "max", "(JJ)J"⟩ : MethodName) (head1 (Jvm.Cond.code (⟨"java/lang/Math", "max", "(JJ)J"⟩ : MethodName) jdk_29_method_66_code 4 (some .long) :: ws) ({ frames := 0, cells := 0, slots := 0, locals := 0 } : Room)) (fun a U => a = #[(.long q1), (.long q2)] ∧ Z.Warmed39 U.vm ∧ U.heap = h0) (fun _ _ _ _ _ => True) (fun _ U o U' => ∃ v L, o = .returned v ∧ Q8 Z q1 q2 h0 n0 v U'.heap L ∧ FrameEnd U o U' L ({ frames := 0, cells := 0, slots := 0, locals := 0 } : Room).cells ({ frames := 0, cells := 0, slots := 0, locals := 0 } : Room).slots) := by
  refine MetFree.of_bodySF (Jvm.Free.JP.mathPlain rfl (by decide +kernel)) hisR ?_
  intro p e s m args below meth c s₁ Bd hml0 hP hK
  obtain ⟨rfl, hZ, hh⟩ := hP
  have hx := Bd.exec
  have hby := Bd.bytes
  have hml : c.maxLocals = 4 := hml0
  have hown : s.vm.findClass "java/lang/Math" = some m.cls := findClass_of_methodNamed Bd.named
  have hnm := (name_of_methodNamed Bd.named Bd.method).1
  have X0 : Stand p l e ({ frames := 0, cells := 0, slots := 0, locals := 0 } : Room) s m #[(.long q1), (.long q2)] below meth c s₁ [] 0 0 := Stand.of_body Bd
  have e0 : s₁.heap = h0 := by rw [← hh, Bd.state]; rfl
  have N0 := Fr.nil n0
  have pre0 : ∀ t, Steps p.tables e below (s₁.setTop (mkF m 0 #[.val (.long q1), .second, .val (.long q2), .second] [])) t → Steps p.tables e below (s₁.setTop (entryFrame m #[(.long q1), (.long q2)] 4)) t := fun t k => castTop (ef_8 m q1 q2) k
  have K1 : ∀ t, Steps p.tables e below (s₁.setTop (mkF m 3 #[.val (.long q1), .second, .val (.long q2), .second] [(.int (own_cmp q1 q2))])) t → Steps p.tables e below (s₁.setTop (mkF m 0 #[.val (.long q1), .second, .val (.long q2), .second] [])) t := by
    intro t k
    refine XS.lloadN X0.here hx rfl (Jvm.hb hby d8_0) rfl ?_
    show Steps p.tables e below (s₁.setTop (mkF m 1 #[.val (.long q1), .second, .val (.long q2), .second] [(.long q1)])) t
    refine XS.lloadN X0.here hx rfl (Jvm.hb hby d8_1) rfl ?_
    show Steps p.tables e below (s₁.setTop (mkF m 2 #[.val (.long q1), .second, .val (.long q2), .second] [(.long q2), (.long q1)])) t
    refine XS.lcmp X0.here hx rfl (Jvm.hb hby d8_2) rfl ?_
    show Steps p.tables e below (s₁.setTop (mkF m 3 #[.val (.long q1), .second, .val (.long q2), .second] [(.int (own_cmp q1 q2))])) t
    exact k
  by_cases hc2 : (own_cmp q1 q2) < (0 : Int32)
  · have K3 : ∀ t, Steps p.tables e below (s₁.setTop (mkF m 10 #[.val (.long q1), .second, .val (.long q2), .second] [])) t → Steps p.tables e below (s₁.setTop (mkF m 3 #[.val (.long q1), .second, .val (.long q2), .second] [(.int (own_cmp q1 q2))])) t := by
      intro t k
      refine XS.ifYes X0.here hx rfl (pc0 := 3) (pc' := 10) rfl (Jvm.hb hby d8_3) rfl ((if0 _ _).trans (tlt hc2).1) (by decide) (by decide) ?_
      exact k
    have K4 : ∀ t, Steps p.tables e below (s₁.setTop (mkF m 11 #[.val (.long q1), .second, .val (.long q2), .second] [(.long q2)])) t → Steps p.tables e below (s₁.setTop (mkF m 10 #[.val (.long q1), .second, .val (.long q2), .second] [])) t := by
      intro t k
      refine XS.lloadN X0.here hx rfl (Jvm.hb hby d8_10) rfl ?_
      show Steps p.tables e below (s₁.setTop (mkF m 11 #[.val (.long q1), .second, .val (.long q2), .second] [(.long q2)])) t
      exact k
    obtain ⟨fs, hr, hrun, hended, hW, hsame⟩ := X0.leave (v := some (.long q2)) (fun h => by rw [Bd.returns] at h; cases h) Bd.notSynchronized
    refine ⟨_, _, pre0 _ (K1 _ (K3 _ (K4 _ (X0.lreturnOut hx Bd.returns (Jvm.hb hby d8_11) hr)))), hrun, hended, _, _, rfl, ?_, ⟨_, rfl⟩, hW, hsame.mono (by decide) (by decide)⟩
    show Q8 Z q1 q2 h0 n0 _ s₁.heap _
    rw [e0]
    exact ⟨congrArg (fun z => some (Value.long z)) (show q2 = f8 q1 q2 from Eq.symm (if_pos hc2)), N0, rfl⟩
  · have K5 : ∀ t, Steps p.tables e below (s₁.setTop (mkF m 6 #[.val (.long q1), .second, .val (.long q2), .second] [])) t → Steps p.tables e below (s₁.setTop (mkF m 3 #[.val (.long q1), .second, .val (.long q2), .second] [(.int (own_cmp q1 q2))])) t := by
      intro t k
      refine XS.ifNo X0.here hx rfl (Jvm.hb hby d8_3) rfl ((if0 _ _).trans (flt hc2).1) ?_
      exact k
    have K6 : ∀ t, Steps p.tables e below (s₁.setTop (mkF m 11 #[.val (.long q1), .second, .val (.long q2), .second] [(.long q1)])) t → Steps p.tables e below (s₁.setTop (mkF m 6 #[.val (.long q1), .second, .val (.long q2), .second] [])) t := by
      intro t k
      refine XS.lloadN X0.here hx rfl (Jvm.hb hby d8_6) rfl ?_
      show Steps p.tables e below (s₁.setTop (mkF m 7 #[.val (.long q1), .second, .val (.long q2), .second] [(.long q1)])) t
      refine XS.goto X0.here hx rfl (pc0 := 7) (pc' := 11) rfl (Jvm.hb hby d8_7) (by decide) (by decide) ?_
      show Steps p.tables e below (s₁.setTop (mkF m 11 #[.val (.long q1), .second, .val (.long q2), .second] [(.long q1)])) t
      exact k
    obtain ⟨fs, hr, hrun, hended, hW, hsame⟩ := X0.leave (v := some (.long q1)) (fun h => by rw [Bd.returns] at h; cases h) Bd.notSynchronized
    refine ⟨_, _, pre0 _ (K1 _ (K5 _ (K6 _ (X0.lreturnOut hx Bd.returns (Jvm.hb hby d8_11) hr)))), hrun, hended, _, _, rfl, ?_, ⟨_, rfl⟩, hW, hsame.mono (by decide) (by decide)⟩
    show Q8 Z q1 q2 h0 n0 _ s₁.heap _
    rw [e0]
    exact ⟨congrArg (fun z => some (Value.long z)) (show q1 = f8 q1 q2 from Eq.symm (if_neg hc2)), N0, rfl⟩
-- body 9: java/lang/Math.min(JJ)J
theorem d9_0 : decode jdk_29_method_70_code 0 = .ok (.lload_n 0, 1) := by decide +kernel
theorem d9_1 : decode jdk_29_method_70_code 1 = .ok (.lload_n 2, 1) := by decide +kernel
theorem d9_2 : decode jdk_29_method_70_code 2 = .ok (.lcmp, 1) := by decide +kernel
theorem d9_3 : decode jdk_29_method_70_code 3 = .ok (.ifCond .gt 7, 3) := by decide +kernel
theorem d9_6 : decode jdk_29_method_70_code 6 = .ok (.lload_n 0, 1) := by decide +kernel
theorem d9_7 : decode jdk_29_method_70_code 7 = .ok (.goto 4, 3) := by decide +kernel
theorem d9_10 : decode jdk_29_method_70_code 10 = .ok (.lload_n 2, 1) := by decide +kernel
theorem d9_11 : decode jdk_29_method_70_code 11 = .ok (.lreturn, 1) := by decide +kernel
theorem ef_9 (m : MethodId) (q1 : Int64) (q2 : Int64) : entryFrame m #[(.long q1), (.long q2)] 4 = mkF m 0 #[.val (.long q1), .second, .val (.long q2), .second] [] := by first | (simp [entryFrame, mkF, argsToLocals, Value.category]; done) | rfl
def f9 (q1 : Int64) (q2 : Int64) : Int64 := (if (0 : Int32) < (own_cmp q1 q2) then q2 else q1)
def Q9 (Z : State) (q1 : Int64) (q2 : Int64) (h0 : Heap) (n0 : Nat) (v : Option Value) (h : Heap) (L : List Loc) : Prop := v = some (.long (f9 q1 q2)) ∧ Fr n0 L ∧ h = h0
set_option maxRecDepth 65536 in
set_option maxHeartbeats 40000000 in
theorem rm9 (l : Launch) (Z : State) (a0 : Array Value) (hw : ∀ d ∈ tables_1, d.before a0 Z = true) (ws : List Jvm.Cond) (q1 : Int64) (q2 : Int64) (h0 : Heap) (n0 : Nat) (Z0 : n0 ≤ h0.size) :
    MetFree l (⟨"java/lang/Math", "min", "(JJ)J"⟩ : MethodName) (head1 (Jvm.Cond.code (⟨"java/lang/Math", "min", "(JJ)J"⟩ : MethodName) jdk_29_method_70_code 4 (some .long) :: ws) ({ frames := 0, cells := 0, slots := 0, locals := 0 } : Room)) (fun a U => a = #[(.long q1), (.long q2)] ∧ Z.Warmed39 U.vm ∧ U.heap = h0) (fun _ _ _ _ _ => True) (fun _ U o U' => ∃ v L, o = .returned v ∧ Q9 Z q1 q2 h0 n0 v U'.heap L ∧ FrameEnd U o U' L ({ frames := 0, cells := 0, slots := 0, locals := 0 } : Room).cells ({ frames := 0, cells := 0, slots := 0, locals := 0 } : Room).slots) := by
  refine MetFree.of_bodySF (Jvm.Free.JP.mathPlain rfl (by decide +kernel)) hisR ?_
  intro p e s m args below meth c s₁ Bd hml0 hP hK
  obtain ⟨rfl, hZ, hh⟩ := hP
  have hx := Bd.exec
  have hby := Bd.bytes
  have hml : c.maxLocals = 4 := hml0
  have hown : s.vm.findClass "java/lang/Math" = some m.cls := findClass_of_methodNamed Bd.named
  have hnm := (name_of_methodNamed Bd.named Bd.method).1
  have X0 : Stand p l e ({ frames := 0, cells := 0, slots := 0, locals := 0 } : Room) s m #[(.long q1), (.long q2)] below meth c s₁ [] 0 0 := Stand.of_body Bd
  have e0 : s₁.heap = h0 := by rw [← hh, Bd.state]; rfl
  have N0 := Fr.nil n0
  have pre0 : ∀ t, Steps p.tables e below (s₁.setTop (mkF m 0 #[.val (.long q1), .second, .val (.long q2), .second] [])) t → Steps p.tables e below (s₁.setTop (entryFrame m #[(.long q1), (.long q2)] 4)) t := fun t k => castTop (ef_9 m q1 q2) k
  have K1 : ∀ t, Steps p.tables e below (s₁.setTop (mkF m 3 #[.val (.long q1), .second, .val (.long q2), .second] [(.int (own_cmp q1 q2))])) t → Steps p.tables e below (s₁.setTop (mkF m 0 #[.val (.long q1), .second, .val (.long q2), .second] [])) t := by
    intro t k
    refine XS.lloadN X0.here hx rfl (Jvm.hb hby d9_0) rfl ?_
    show Steps p.tables e below (s₁.setTop (mkF m 1 #[.val (.long q1), .second, .val (.long q2), .second] [(.long q1)])) t
    refine XS.lloadN X0.here hx rfl (Jvm.hb hby d9_1) rfl ?_
    show Steps p.tables e below (s₁.setTop (mkF m 2 #[.val (.long q1), .second, .val (.long q2), .second] [(.long q2), (.long q1)])) t
    refine XS.lcmp X0.here hx rfl (Jvm.hb hby d9_2) rfl ?_
    show Steps p.tables e below (s₁.setTop (mkF m 3 #[.val (.long q1), .second, .val (.long q2), .second] [(.int (own_cmp q1 q2))])) t
    exact k
  by_cases hc2 : (0 : Int32) < (own_cmp q1 q2)
  · have K3 : ∀ t, Steps p.tables e below (s₁.setTop (mkF m 10 #[.val (.long q1), .second, .val (.long q2), .second] [])) t → Steps p.tables e below (s₁.setTop (mkF m 3 #[.val (.long q1), .second, .val (.long q2), .second] [(.int (own_cmp q1 q2))])) t := by
      intro t k
      refine XS.ifYes X0.here hx rfl (pc0 := 3) (pc' := 10) rfl (Jvm.hb hby d9_3) rfl ((if0 _ _).trans (tlt hc2).2.2.1) (by decide) (by decide) ?_
      exact k
    have K4 : ∀ t, Steps p.tables e below (s₁.setTop (mkF m 11 #[.val (.long q1), .second, .val (.long q2), .second] [(.long q2)])) t → Steps p.tables e below (s₁.setTop (mkF m 10 #[.val (.long q1), .second, .val (.long q2), .second] [])) t := by
      intro t k
      refine XS.lloadN X0.here hx rfl (Jvm.hb hby d9_10) rfl ?_
      show Steps p.tables e below (s₁.setTop (mkF m 11 #[.val (.long q1), .second, .val (.long q2), .second] [(.long q2)])) t
      exact k
    obtain ⟨fs, hr, hrun, hended, hW, hsame⟩ := X0.leave (v := some (.long q2)) (fun h => by rw [Bd.returns] at h; cases h) Bd.notSynchronized
    refine ⟨_, _, pre0 _ (K1 _ (K3 _ (K4 _ (X0.lreturnOut hx Bd.returns (Jvm.hb hby d9_11) hr)))), hrun, hended, _, _, rfl, ?_, ⟨_, rfl⟩, hW, hsame.mono (by decide) (by decide)⟩
    show Q9 Z q1 q2 h0 n0 _ s₁.heap _
    rw [e0]
    exact ⟨congrArg (fun z => some (Value.long z)) (show q2 = f9 q1 q2 from Eq.symm (if_pos hc2)), N0, rfl⟩
  · have K5 : ∀ t, Steps p.tables e below (s₁.setTop (mkF m 6 #[.val (.long q1), .second, .val (.long q2), .second] [])) t → Steps p.tables e below (s₁.setTop (mkF m 3 #[.val (.long q1), .second, .val (.long q2), .second] [(.int (own_cmp q1 q2))])) t := by
      intro t k
      refine XS.ifNo X0.here hx rfl (Jvm.hb hby d9_3) rfl ((if0 _ _).trans (flt hc2).2.2.1) ?_
      exact k
    have K6 : ∀ t, Steps p.tables e below (s₁.setTop (mkF m 11 #[.val (.long q1), .second, .val (.long q2), .second] [(.long q1)])) t → Steps p.tables e below (s₁.setTop (mkF m 6 #[.val (.long q1), .second, .val (.long q2), .second] [])) t := by
      intro t k
      refine XS.lloadN X0.here hx rfl (Jvm.hb hby d9_6) rfl ?_
      show Steps p.tables e below (s₁.setTop (mkF m 7 #[.val (.long q1), .second, .val (.long q2), .second] [(.long q1)])) t
      refine XS.goto X0.here hx rfl (pc0 := 7) (pc' := 11) rfl (Jvm.hb hby d9_7) (by decide) (by decide) ?_
      show Steps p.tables e below (s₁.setTop (mkF m 11 #[.val (.long q1), .second, .val (.long q2), .second] [(.long q1)])) t
      exact k
    obtain ⟨fs, hr, hrun, hended, hW, hsame⟩ := X0.leave (v := some (.long q1)) (fun h => by rw [Bd.returns] at h; cases h) Bd.notSynchronized
    refine ⟨_, _, pre0 _ (K1 _ (K5 _ (K6 _ (X0.lreturnOut hx Bd.returns (Jvm.hb hby d9_11) hr)))), hrun, hended, _, _, rfl, ?_, ⟨_, rfl⟩, hW, hsame.mono (by decide) (by decide)⟩
    show Q9 Z q1 q2 h0 n0 _ s₁.heap _
    rw [e0]
    exact ⟨congrArg (fun z => some (Value.long z)) (show q1 = f9 q1 q2 from Eq.symm (if_neg hc2)), N0, rfl⟩
-- body 11: java/lang/Math.min(II)I
theorem d11_0 : decode jdk_29_method_69_code 0 = .ok (.iload_n 0, 1) := by decide +kernel
theorem d11_1 : decode jdk_29_method_69_code 1 = .ok (.iload_n 1, 1) := by decide +kernel
theorem d11_2 : decode jdk_29_method_69_code 2 = .ok (.if_icmp .gt 7, 3) := by decide +kernel
theorem d11_5 : decode jdk_29_method_69_code 5 = .ok (.iload_n 0, 1) := by decide +kernel
theorem d11_6 : decode jdk_29_method_69_code 6 = .ok (.goto 4, 3) := by decide +kernel
theorem d11_9 : decode jdk_29_method_69_code 9 = .ok (.iload_n 1, 1) := by decide +kernel
theorem d11_10 : decode jdk_29_method_69_code 10 = .ok (.ireturn, 1) := by decide +kernel
theorem ef_11 (m : MethodId) (p1 : Int32) (p2 : Int32) : entryFrame m #[(.int p1), (.int p2)] 2 = mkF m 0 #[.val (.int p1), .val (.int p2)] [] := by first | (simp [entryFrame, mkF, argsToLocals, Value.category]; done) | rfl
def f11 (p1 : Int32) (p2 : Int32) : Int32 := (if p2 < p1 then p2 else p1)
def Q11 (Z : State) (p1 : Int32) (p2 : Int32) (h0 : Heap) (n0 : Nat) (v : Option Value) (h : Heap) (L : List Loc) : Prop := v = some (.int (f11 p1 p2)) ∧ Fr n0 L ∧ h = h0
set_option maxRecDepth 65536 in
set_option maxHeartbeats 40000000 in
theorem rm11 (l : Launch) (Z : State) (a0 : Array Value) (hw : ∀ d ∈ tables_1, d.before a0 Z = true) (ws : List Jvm.Cond) (p1 : Int32) (p2 : Int32) (h0 : Heap) (n0 : Nat) (Z0 : n0 ≤ h0.size) :
    MetFree l (⟨"java/lang/Math", "min", "(II)I"⟩ : MethodName) (head1 (Jvm.Cond.code (⟨"java/lang/Math", "min", "(II)I"⟩ : MethodName) jdk_29_method_69_code 2 (some .int) :: ws) ({ frames := 0, cells := 0, slots := 0, locals := 0 } : Room)) (fun a U => a = #[(.int p1), (.int p2)] ∧ Z.Warmed39 U.vm ∧ U.heap = h0) (fun _ _ _ _ _ => True) (fun _ U o U' => ∃ v L, o = .returned v ∧ Q11 Z p1 p2 h0 n0 v U'.heap L ∧ FrameEnd U o U' L ({ frames := 0, cells := 0, slots := 0, locals := 0 } : Room).cells ({ frames := 0, cells := 0, slots := 0, locals := 0 } : Room).slots) := by
  refine MetFree.of_bodySF (Jvm.Free.JP.mathPlain rfl (by decide +kernel)) hisR ?_
  intro p e s m args below meth c s₁ Bd hml0 hP hK
  obtain ⟨rfl, hZ, hh⟩ := hP
  have hx := Bd.exec
  have hby := Bd.bytes
  have hml : c.maxLocals = 2 := hml0
  have hown : s.vm.findClass "java/lang/Math" = some m.cls := findClass_of_methodNamed Bd.named
  have hnm := (name_of_methodNamed Bd.named Bd.method).1
  have X0 : Stand p l e ({ frames := 0, cells := 0, slots := 0, locals := 0 } : Room) s m #[(.int p1), (.int p2)] below meth c s₁ [] 0 0 := Stand.of_body Bd
  have e0 : s₁.heap = h0 := by rw [← hh, Bd.state]; rfl
  have N0 := Fr.nil n0
  have pre0 : ∀ t, Steps p.tables e below (s₁.setTop (mkF m 0 #[.val (.int p1), .val (.int p2)] [])) t → Steps p.tables e below (s₁.setTop (entryFrame m #[(.int p1), (.int p2)] 2)) t := fun t k => castTop (ef_11 m p1 p2) k
  have K1 : ∀ t, Steps p.tables e below (s₁.setTop (mkF m 2 #[.val (.int p1), .val (.int p2)] [(.int p2), (.int p1)])) t → Steps p.tables e below (s₁.setTop (mkF m 0 #[.val (.int p1), .val (.int p2)] [])) t := by
    intro t k
    refine XS.iloadN X0.here hx rfl (Jvm.hb hby d11_0) rfl ?_
    show Steps p.tables e below (s₁.setTop (mkF m 1 #[.val (.int p1), .val (.int p2)] [(.int p1)])) t
    refine XS.iloadN X0.here hx rfl (Jvm.hb hby d11_1) rfl ?_
    show Steps p.tables e below (s₁.setTop (mkF m 2 #[.val (.int p1), .val (.int p2)] [(.int p2), (.int p1)])) t
    exact k
  by_cases hc2 : p2 < p1
  · have K3 : ∀ t, Steps p.tables e below (s₁.setTop (mkF m 9 #[.val (.int p1), .val (.int p2)] [])) t → Steps p.tables e below (s₁.setTop (mkF m 2 #[.val (.int p1), .val (.int p2)] [(.int p2), (.int p1)])) t := by
      intro t k
      refine XS.icmpYes X0.here hx rfl (pc0 := 2) (pc' := 9) rfl (Jvm.hb hby d11_2) rfl (tlt hc2).2.2.1 (by decide) (by decide) ?_
      exact k
    have K4 : ∀ t, Steps p.tables e below (s₁.setTop (mkF m 10 #[.val (.int p1), .val (.int p2)] [(.int p2)])) t → Steps p.tables e below (s₁.setTop (mkF m 9 #[.val (.int p1), .val (.int p2)] [])) t := by
      intro t k
      refine XS.iloadN X0.here hx rfl (Jvm.hb hby d11_9) rfl ?_
      show Steps p.tables e below (s₁.setTop (mkF m 10 #[.val (.int p1), .val (.int p2)] [(.int p2)])) t
      exact k
    obtain ⟨fs, hr, hrun, hended, hW, hsame⟩ := X0.leave (v := some (.int p2)) (fun h => by rw [Bd.returns] at h; cases h) Bd.notSynchronized
    refine ⟨_, _, pre0 _ (K1 _ (K3 _ (K4 _ (retI X0 hx Bd.returns (Jvm.hb hby d11_10) hr)))), hrun, hended, _, _, rfl, ?_, ⟨_, rfl⟩, hW, hsame.mono (by decide) (by decide)⟩
    show Q11 Z p1 p2 h0 n0 _ s₁.heap _
    rw [e0]
    exact ⟨congrArg (fun z => some (Value.int z)) (show p2 = f11 p1 p2 from Eq.symm (if_pos hc2)), N0, rfl⟩
  · have K5 : ∀ t, Steps p.tables e below (s₁.setTop (mkF m 5 #[.val (.int p1), .val (.int p2)] [])) t → Steps p.tables e below (s₁.setTop (mkF m 2 #[.val (.int p1), .val (.int p2)] [(.int p2), (.int p1)])) t := by
      intro t k
      refine XS.icmpNo X0.here hx rfl (Jvm.hb hby d11_2) rfl (flt hc2).2.2.1 ?_
      exact k
    have K6 : ∀ t, Steps p.tables e below (s₁.setTop (mkF m 10 #[.val (.int p1), .val (.int p2)] [(.int p1)])) t → Steps p.tables e below (s₁.setTop (mkF m 5 #[.val (.int p1), .val (.int p2)] [])) t := by
      intro t k
      refine XS.iloadN X0.here hx rfl (Jvm.hb hby d11_5) rfl ?_
      show Steps p.tables e below (s₁.setTop (mkF m 6 #[.val (.int p1), .val (.int p2)] [(.int p1)])) t
      refine XS.goto X0.here hx rfl (pc0 := 6) (pc' := 10) rfl (Jvm.hb hby d11_6) (by decide) (by decide) ?_
      show Steps p.tables e below (s₁.setTop (mkF m 10 #[.val (.int p1), .val (.int p2)] [(.int p1)])) t
      exact k
    obtain ⟨fs, hr, hrun, hended, hW, hsame⟩ := X0.leave (v := some (.int p1)) (fun h => by rw [Bd.returns] at h; cases h) Bd.notSynchronized
    refine ⟨_, _, pre0 _ (K1 _ (K5 _ (K6 _ (retI X0 hx Bd.returns (Jvm.hb hby d11_10) hr)))), hrun, hended, _, _, rfl, ?_, ⟨_, rfl⟩, hW, hsame.mono (by decide) (by decide)⟩
    show Q11 Z p1 p2 h0 n0 _ s₁.heap _
    rw [e0]
    exact ⟨congrArg (fun z => some (Value.int z)) (show p1 = f11 p1 p2 from Eq.symm (if_neg hc2)), N0, rfl⟩
-- body 10: java/util/Arrays.copyOf([II)[I
theorem d10_0 : decode jdk_65_method_123_code 0 = .ok (.iload_n 1, 1) := by decide +kernel
theorem d10_1 : decode jdk_65_method_123_code 1 = .ok (.aload_n 0, 1) := by decide +kernel
theorem d10_2 : decode jdk_65_method_123_code 2 = .ok (.arraylength, 1) := by decide +kernel
theorem d10_3 : decode jdk_65_method_123_code 3 = .ok (.if_icmp .ne 11, 3) := by decide +kernel
theorem d10_14 : decode jdk_65_method_123_code 14 = .ok (.iload_n 1, 1) := by decide +kernel
theorem d10_15 : decode jdk_65_method_123_code 15 = .ok (.newarray .int, 2) := by decide +kernel
theorem d10_17 : decode jdk_65_method_123_code 17 = .ok (.astore_n 2, 1) := by decide +kernel
theorem d10_18 : decode jdk_65_method_123_code 18 = .ok (.aload_n 0, 1) := by decide +kernel
theorem d10_19 : decode jdk_65_method_123_code 19 = .ok (.iconst 0, 1) := by decide +kernel
theorem d10_20 : decode jdk_65_method_123_code 20 = .ok (.aload_n 2, 1) := by decide +kernel
theorem d10_21 : decode jdk_65_method_123_code 21 = .ok (.iconst 0, 1) := by decide +kernel
theorem d10_22 : decode jdk_65_method_123_code 22 = .ok (.aload_n 0, 1) := by decide +kernel
theorem d10_23 : decode jdk_65_method_123_code 23 = .ok (.arraylength, 1) := by decide +kernel
theorem d10_24 : decode jdk_65_method_123_code 24 = .ok (.iload_n 1, 1) := by decide +kernel
theorem d10_25 : decode jdk_65_method_123_code 25 = .ok (.invokestatic 304, 3) := by decide +kernel
theorem d10_28 : decode jdk_65_method_123_code 28 = .ok (.invokestatic 150, 3) := by decide +kernel
theorem d10_31 : decode jdk_65_method_123_code 31 = .ok (.aload_n 2, 1) := by decide +kernel
theorem d10_32 : decode jdk_65_method_123_code 32 = .ok (.areturn, 1) := by decide +kernel
theorem pn_10 : plainName "java/util/Arrays" = true := by first | (simp [plainName, overriddenIn]; done) | decide +kernel
theorem pd_7 : parseMethodDescriptor "(II)I" = some ⟨[.int, .int], some .int⟩ := by decide +kernel
theorem ef_10 (m : MethodId) (a1 : Addr) (p2 : Int32) : entryFrame m #[(.ref a1), (.int p2)] 3 = mkF m 0 #[.val (.ref a1), .val (.int p2), .unset] [] := by first | (simp [entryFrame, mkF, argsToLocals, Value.category]; done) | rfl
def f10_u1 (p2 : Int32) (n_a1 : Int32) (f_a1 : Int32 → Int32) : Int32 → Int32 := (cpy f_a1 (0 : Int32) (fun _ => 0) (0 : Int32) (f11 n_a1 p2))
def Q10 (Z : State) (a1 : Addr) (p2 : Int32) (n_a1 : Int32) (f_a1 : Int32 → Int32) (h0 : Heap) (n0 : Nat) (v : Option Value) (h : Heap) (L : List Loc) : Prop := ∃ x1 : Addr, v = some (.ref x1) ∧ Fr n0 L ∧ Keep h0 h [] ∧ h0.size ≤ x1 ∧ n0 ≤ x1 ∧ Ia Z h x1 .int p2 (f10_u1 p2 n_a1 f_a1)
theorem own_min (n p : Int32) (hn : ¬ n < 0) (hp : ¬ p < 0) : ¬ f11 n p < 0 ∧ (0 : Int32).toInt + (f11 n p).toInt ≤ n.toInt ∧ (0 : Int32).toInt + (f11 n p).toInt ≤ p.toInt := by
  have z0 : (0 : Int32).toInt = 0 := by decide
  unfold f11
  by_cases q : p < n
  · have := Int32.lt_iff_toInt_lt.mp q
    rw [if_pos q]
    exact ⟨hp, by omega, by omega⟩
  · have : ¬ (p.toInt < n.toInt) := fun z => q (Int32.lt_iff_toInt_lt.mpr z)
    rw [if_neg q]
    exact ⟨hn, by omega, by omega⟩
set_option maxRecDepth 65536 in
set_option maxHeartbeats 40000000 in
theorem rm10 (l : Launch) (Z : State) (a0 : Array Value) (hw : ∀ d ∈ tables_1, d.before a0 Z = true) (ws : List Jvm.Cond) (a1 : Addr) (p2 : Int32) (n_a1 : Int32) (f_a1 : Int32 → Int32) (h0 : Heap) (n0 : Nat) (Z0 : n0 ≤ h0.size) (hne2 : ¬ p2 = n_a1) (hn : ¬ p2 < 0) (hc : p2.toNatClampNeg ≤ 128) (A_a1 : Ia Z h0 a1 .int n_a1 f_a1) :
    MetFree l (⟨"java/util/Arrays", "copyOf", "([II)[I"⟩ : MethodName) (head1 (Jvm.Cond.code (⟨"java/util/Arrays", "copyOf", "([II)[I"⟩ : MethodName) jdk_65_method_123_code 3 (some (.array .int)) :: ws) ({ frames := 1, cells := 1, slots := 128, locals := 30 } : Room)) (fun a U => a = #[(.ref a1), (.int p2)] ∧ Z.Warmed39 U.vm ∧ U.heap = h0) (fun _ _ _ _ _ => True) (fun _ U o U' => ∃ v L, o = .returned v ∧ Q10 Z a1 p2 n_a1 f_a1 h0 n0 v U'.heap L ∧ FrameEnd U o U' L ({ frames := 1, cells := 1, slots := 128, locals := 30 } : Room).cells ({ frames := 1, cells := 1, slots := 128, locals := 30 } : Room).slots) := by
  refine MetFree.of_bodySF (plainFor_of_name pn_10) hisR ?_
  intro p e s m args below meth c s₁ Bd hml0 hP hK
  obtain ⟨rfl, hZ, hh⟩ := hP
  have hx := Bd.exec
  have hby := Bd.bytes
  have hml : c.maxLocals = 3 := hml0
  have hown : s.vm.findClass "java/util/Arrays" = some m.cls := findClass_of_methodNamed Bd.named
  have hnm := (name_of_methodNamed Bd.named Bd.method).1
  have X0 : Stand p l e ({ frames := 1, cells := 1, slots := 128, locals := 30 } : Room) s m #[(.ref a1), (.int p2)] below meth c s₁ [] 0 0 := Stand.of_body Bd
  have e0 : s₁.heap = h0 := by rw [← hh, Bd.state]; rfl
  have N0 := Fr.nil n0
  have pre0 : ∀ t, Steps p.tables e below (s₁.setTop (mkF m 0 #[.val (.ref a1), .val (.int p2), .unset] [])) t → Steps p.tables e below (s₁.setTop (entryFrame m #[(.ref a1), (.int p2)] 3)) t := fun t k => castTop (ef_10 m a1 p2) k
  have K5 : ∀ t, Steps p.tables e below (s₁.setTop (mkF m 2 #[.val (.ref a1), .val (.int p2), .unset] [(.ref a1), (.int p2)])) t → Steps p.tables e below (s₁.setTop (mkF m 0 #[.val (.ref a1), .val (.int p2), .unset] [])) t := by
    intro t k
    refine XS.iloadN X0.here hx rfl (Jvm.hb hby d10_0) rfl ?_
    show Steps p.tables e below (s₁.setTop (mkF m 1 #[.val (.ref a1), .val (.int p2), .unset] [(.int p2)])) t
    refine XS.aloadN X0.here hx rfl (Jvm.hb hby d10_1) rfl rfl ?_
    show Steps p.tables e below (s₁.setTop (mkF m 2 #[.val (.ref a1), .val (.int p2), .unset] [(.ref a1), (.int p2)])) t
    exact k
  obtain ⟨cl1, Aq2, sq3, nq4⟩ := Ia.len A_a1
  have K6 : ∀ t, Steps p.tables e below (s₁.setTop (mkF m 3 #[.val (.ref a1), .val (.int p2), .unset] [(.int n_a1), (.int p2)])) t → Steps p.tables e below (s₁.setTop (mkF m 2 #[.val (.ref a1), .val (.int p2), .unset] [(.ref a1), (.int p2)])) t := by
    intro t k
    refine X0.arraylength hx (by rw [e0]; exact Aq2.1) (State.isArrayOf_alike hZ.alike Aq2.2.1) (g := (mkF m 2 #[.val (.ref a1), .val (.int p2), .unset] [(.ref a1), (.int p2)])) rfl rfl (Jvm.hb hby d10_2) _ ?_
    rw [len_of sq3 nq4]
    show Steps p.tables e below (s₁.setTop (mkF m 3 #[.val (.ref a1), .val (.int p2), .unset] [(.int n_a1), (.int p2)])) t
    exact k
  have hc7 : ¬ (p2 = n_a1) := hne2
  have K8 : ∀ t, Steps p.tables e below (s₁.setTop (mkF m 14 #[.val (.ref a1), .val (.int p2), .unset] [])) t → Steps p.tables e below (s₁.setTop (mkF m 3 #[.val (.ref a1), .val (.int p2), .unset] [(.int n_a1), (.int p2)])) t := by
    intro t k
    refine XS.icmpYes X0.here hx rfl (pc0 := 3) (pc' := 14) rfl (Jvm.hb hby d10_3) rfl (feq hc7).2 (by decide) (by decide) ?_
    exact k
  have K9 : ∀ t, Steps p.tables e below (s₁.setTop (mkF m 15 #[.val (.ref a1), .val (.int p2), .unset] [(.int p2)])) t → Steps p.tables e below (s₁.setTop (mkF m 14 #[.val (.ref a1), .val (.int p2), .unset] [])) t := by
    intro t k
    refine XS.iloadN X0.here hx rfl (Jvm.hb hby d10_14) rfl ?_
    show Steps p.tables e below (s₁.setTop (mkF m 15 #[.val (.ref a1), .val (.int p2), .unset] [(.int p2)])) t
    exact k
  obtain ⟨T10, h10, k10, X10, e10, E10, A10, st10⟩ := newP X0 hx hZ (hw _ (List.mem_of_getElem? (i := 4) rfl)) e0 (g := (mkF m 15 #[.val (.ref a1), .val (.int p2), .unset] [(.int p2)])) rfl (Jvm.hb hby d10_15) rfl hn (cap := 128) hc (by decide) (by decide) (by decide)
  obtain ⟨b10, g10⟩ : ∃ z, z = h0.size := ⟨_, rfl⟩
  rw [← g10] at A10 st10
  have KP10 : Keep h0 h10 [] := (Keep.refl h0 []).ext E10
  have A10_0 : Ia Z h10 a1 .int n_a1 f_a1 := A_a1.ext E10
  have ne10_0 : a1 ≠ b10 := Nat.ne_of_lt (Nat.lt_of_lt_of_le A_a1.lt (Nat.le_of_eq g10.symm))
  have gb_b10 : n0 ≤ b10 := Nat.le_trans Z0 (Nat.le_of_eq g10.symm)
  have sz_b10 : h0.size ≤ b10 := Nat.le_trans (Keep.refl h0 []).1 (Nat.le_of_eq g10.symm)
  have V10 : Ia Z h10 b10 .int p2 (fun _ => 0) := Ia.new A10 hn rfl
  have K11 : ∀ t, Steps p.tables e below (T10.setTop (mkF m 17 #[.val (.ref a1), .val (.int p2), .unset] [(.ref b10)])) t → Steps p.tables e below (s₁.setTop (mkF m 15 #[.val (.ref a1), .val (.int p2), .unset] [(.int p2)])) t := fun t k => st10 _ k
  have K16 : ∀ t, Steps p.tables e below (T10.setTop (mkF m 23 #[.val (.ref a1), .val (.int p2), .val (.ref b10)] [(.ref a1), (.int (0 : Int32)), (.ref b10), (.int (0 : Int32)), (.ref a1)])) t → Steps p.tables e below (T10.setTop (mkF m 17 #[.val (.ref a1), .val (.int p2), .unset] [(.ref b10)])) t := by
    intro t k
    refine XS.astoreN X10.here hx rfl (Jvm.hb hby d10_17) rfl rfl (l' := #[.val (.ref a1), .val (.int p2), .val (.ref b10)]) rfl ?_
    show Steps p.tables e below (T10.setTop (mkF m 18 #[.val (.ref a1), .val (.int p2), .val (.ref b10)] [])) t
    refine XS.aloadN X10.here hx rfl (Jvm.hb hby d10_18) rfl rfl ?_
    show Steps p.tables e below (T10.setTop (mkF m 19 #[.val (.ref a1), .val (.int p2), .val (.ref b10)] [(.ref a1)])) t
    refine XS.iconst X10.here hx rfl (Jvm.hb hby d10_19) ?_
    show Steps p.tables e below (T10.setTop (mkF m 20 #[.val (.ref a1), .val (.int p2), .val (.ref b10)] [(.int (0 : Int32)), (.ref a1)])) t
    refine XS.aloadN X10.here hx rfl (Jvm.hb hby d10_20) rfl rfl ?_
    show Steps p.tables e below (T10.setTop (mkF m 21 #[.val (.ref a1), .val (.int p2), .val (.ref b10)] [(.ref b10), (.int (0 : Int32)), (.ref a1)])) t
    refine XS.iconst X10.here hx rfl (Jvm.hb hby d10_21) ?_
    show Steps p.tables e below (T10.setTop (mkF m 22 #[.val (.ref a1), .val (.int p2), .val (.ref b10)] [(.int (0 : Int32)), (.ref b10), (.int (0 : Int32)), (.ref a1)])) t
    refine XS.aloadN X10.here hx rfl (Jvm.hb hby d10_22) rfl rfl ?_
    show Steps p.tables e below (T10.setTop (mkF m 23 #[.val (.ref a1), .val (.int p2), .val (.ref b10)] [(.ref a1), (.int (0 : Int32)), (.ref b10), (.int (0 : Int32)), (.ref a1)])) t
    exact k
  obtain ⟨cl12, Aq13, sq14, nq15⟩ := Ia.len A10_0
  have K17 : ∀ t, Steps p.tables e below (T10.setTop (mkF m 25 #[.val (.ref a1), .val (.int p2), .val (.ref b10)] [(.int p2), (.int n_a1), (.int (0 : Int32)), (.ref b10), (.int (0 : Int32)), (.ref a1)])) t → Steps p.tables e below (T10.setTop (mkF m 23 #[.val (.ref a1), .val (.int p2), .val (.ref b10)] [(.ref a1), (.int (0 : Int32)), (.ref b10), (.int (0 : Int32)), (.ref a1)])) t := by
    intro t k
    refine X10.arraylength hx (by rw [e10]; exact Aq13.1) (State.isArrayOf_alike hZ.alike Aq13.2.1) (g := (mkF m 23 #[.val (.ref a1), .val (.int p2), .val (.ref b10)] [(.ref a1), (.int (0 : Int32)), (.ref b10), (.int (0 : Int32)), (.ref a1)])) rfl rfl (Jvm.hb hby d10_23) _ ?_
    rw [len_of sq14 nq15]
    show Steps p.tables e below (T10.setTop (mkF m 24 #[.val (.ref a1), .val (.int p2), .val (.ref b10)] [(.int n_a1), (.int (0 : Int32)), (.ref b10), (.int (0 : Int32)), (.ref a1)])) t
    refine XS.iloadN X10.here hx rfl (Jvm.hb hby d10_24) rfl ?_
    show Steps p.tables e below (T10.setTop (mkF m 25 #[.val (.ref a1), .val (.int p2), .val (.ref b10)] [(.int p2), (.int n_a1), (.int (0 : Int32)), (.ref b10), (.int (0 : Int32)), (.ref a1)])) t
    exact k
  obtain ⟨_, _, ⟨T18, L18, k18, n18⟩, -, X18, ⟨Lc18, hQ18, l18, y18, z18⟩, st18⟩ := Jvm.LawKit.callS X10 hx (y := (⟨"java/lang/Math", "min", "(II)I"⟩ : MethodName)) hown (mvT hZ (hw _ (List.mem_of_getElem? (i := 55) rfl))) (mvT hZ (hw _ (List.mem_of_getElem? (i := 56) rfl))) (mvT hZ (hw _ (List.mem_of_getElem? (i := 46) rfl))) (mvT hZ (hw _ (List.mem_of_getElem? (i := 57) rfl))) (by decide) (backOf (W := 4) (rm11 l Z a0 hw [] n_a1 p2 h10 n0 (Nat.le_trans Z0 KP10.1) ) hZ (hw _ (List.mem_of_getElem? (i := 57) rfl)) (hw _ (List.mem_of_getElem? (i := 46) rfl)) (by decide) (by decide)) (g := (mkF m 25 #[.val (.ref a1), .val (.int p2), .val (.ref b10)] [(.int p2), (.int n_a1), (.int (0 : Int32)), (.ref b10), (.int (0 : Int32)), (.ref a1)])) rfl (by rw [hml]; rfl) (argsL := [(.int n_a1), (.int p2)]) (rest := [(.int (0 : Int32)), (.ref b10), (.int (0 : Int32)), (.ref a1)]) (lenOf pd_7 rfl) rfl (by show 2 * 0 + _ ≤ _; exact Nat.le_of_eq rfl) (Jvm.hb hby d10_25) (fun _ _ => ⟨rfl, e10, (by decide : 1 + 0 ≤ _), (by decide : 128 + 0 ≤ _)⟩)
  dsimp only [Pt.U, Pt.locs, Pt.cells, Pt.slots] at X18 l18 y18 z18 st18 hQ18
  subst l18 y18 z18
  obtain ⟨rfl, N18q, e18⟩ := hQ18
  have N18 := Fr.app N0 N18q
  have K19 : ∀ t, Steps p.tables e below (T18.setTop (mkF m 28 #[.val (.ref a1), .val (.int p2), .val (.ref b10)] [(.int (f11 n_a1 p2)), (.int (0 : Int32)), (.ref b10), (.int (0 : Int32)), (.ref a1)])) t → Steps p.tables e below (T10.setTop (mkF m 25 #[.val (.ref a1), .val (.int p2), .val (.ref b10)] [(.int p2), (.int n_a1), (.int (0 : Int32)), (.ref b10), (.int (0 : Int32)), (.ref a1)])) t := fun t k => st18 _ k
  obtain ⟨T20, h20, L20, X20, e20, N20, Kq20, Ac20, st20⟩ := own_cp X18 hx hZ hown (hw _ (List.mem_of_getElem? (i := 58) rfl)) (hw _ (List.mem_of_getElem? (i := 34) rfl)) (hw _ (List.mem_of_getElem? (i := 32) rfl)) (hw _ (List.mem_of_getElem? (i := 33) rfl)) e18 A10_0 V10 (by decide) (by decide) (own_min _ _ A_a1.nn hn).1 (own_min _ _ A_a1.nn hn).2.1 (own_min _ _ A_a1.nn hn).2.2 N18 gb_b10 (g := (mkF m 28 #[.val (.ref a1), .val (.int p2), .val (.ref b10)] [(.int (f11 n_a1 p2)), (.int (0 : Int32)), (.ref b10), (.int (0 : Int32)), (.ref a1)])) rfl (by rw [hml]; rfl) (rest := []) rfl (Jvm.hb hby d10_28) (by decide) (W := 0) (by show 2 * 0 + _ ≤ _; exact Nat.le_of_eq rfl) (by decide)
  have KP20 : Keep h0 h20 [] := KP10.trans Kq20 (allS (Or.inr sz_b10) all0)
  have A20_0 : Ia Z h20 a1 .int n_a1 f_a1 := A10_0.keep Kq20 (ninS ne10_0 nin0)
  have Aw20 : Ia Z h20 b10 .int p2 (f10_u1 p2 n_a1 f_a1) := Ac20
  have K21 : ∀ t, Steps p.tables e below (T20.setTop (mkF m 31 #[.val (.ref a1), .val (.int p2), .val (.ref b10)] [])) t → Steps p.tables e below (T18.setTop (mkF m 28 #[.val (.ref a1), .val (.int p2), .val (.ref b10)] [(.int (f11 n_a1 p2)), (.int (0 : Int32)), (.ref b10), (.int (0 : Int32)), (.ref a1)])) t := fun t k => st20 _ k
  have K22 : ∀ t, Steps p.tables e below (T20.setTop (mkF m 32 #[.val (.ref a1), .val (.int p2), .val (.ref b10)] [(.ref b10)])) t → Steps p.tables e below (T20.setTop (mkF m 31 #[.val (.ref a1), .val (.int p2), .val (.ref b10)] [])) t := by
    intro t k
    refine XS.aloadN X20.here hx rfl (Jvm.hb hby d10_31) rfl rfl ?_
    show Steps p.tables e below (T20.setTop (mkF m 32 #[.val (.ref a1), .val (.int p2), .val (.ref b10)] [(.ref b10)])) t
    exact k
  obtain ⟨fs, hr, hrun, hended, hW, hsame⟩ := X20.leave (v := some (.ref b10)) (fun h => by rw [Bd.returns] at h; cases h) Bd.notSynchronized
  refine ⟨_, _, pre0 _ (K5 _ (K6 _ (K8 _ (K9 _ (K11 _ (K16 _ (K17 _ (K19 _ (K21 _ (K22 _ (retOut X20 hx Bd.returns rfl (Or.inr (Or.inr (Or.inr (Or.inr ⟨rfl, rfl, rfl⟩)))) (Jvm.hb hby d10_32) hr))))))))))), hrun, hended, _, _, rfl, ?_, ⟨_, rfl⟩, hW, hsame.mono (by decide) (by decide)⟩
  show Q10 Z a1 p2 n_a1 f_a1 h0 n0 _ T20.heap _
  rw [e20]
  exact ⟨b10, rfl, N20, KP20, sz_b10, gb_b10, Aw20⟩
-- body 105: com/example/nestway/nestway/sparql/AnswerTable.room(J)I
theorem d105_0 : decode prog_70_method_8_code 0 = .ok (.lload_n 1, 1) := by decide +kernel
theorem d105_1 : decode prog_70_method_8_code 1 = .ok (.ldc 32, 2) := by decide +kernel
theorem d105_3 : decode prog_70_method_8_code 3 = .ok (.aload_n 0, 1) := by decide +kernel
theorem d105_4 : decode prog_70_method_8_code 4 = .ok (.getfield 19, 3) := by decide +kernel
theorem d105_7 : decode prog_70_method_8_code 7 = .ok (.isub, 1) := by decide +kernel
theorem d105_8 : decode prog_70_method_8_code 8 = .ok (.i2l, 1) := by decide +kernel
theorem d105_9 : decode prog_70_method_8_code 9 = .ok (.lcmp, 1) := by decide +kernel
theorem d105_10 : decode prog_70_method_8_code 10 = .ok (.ifCond .gt 23, 3) := by decide +kernel
theorem d105_13 : decode prog_70_method_8_code 13 = .ok (.aload_n 0, 1) := by decide +kernel
theorem d105_14 : decode prog_70_method_8_code 14 = .ok (.getfield 19, 3) := by decide +kernel
theorem d105_17 : decode prog_70_method_8_code 17 = .ok (.i2l, 1) := by decide +kernel
theorem d105_18 : decode prog_70_method_8_code 18 = .ok (.lload_n 1, 1) := by decide +kernel
theorem d105_19 : decode prog_70_method_8_code 19 = .ok (.ladd, 1) := by decide +kernel
theorem d105_20 : decode prog_70_method_8_code 20 = .ok (.aload_n 0, 1) := by decide +kernel
theorem d105_21 : decode prog_70_method_8_code 21 = .ok (.getfield 9, 3) := by decide +kernel
theorem d105_24 : decode prog_70_method_8_code 24 = .ok (.i2l, 1) := by decide +kernel
theorem d105_25 : decode prog_70_method_8_code 25 = .ok (.lmul, 1) := by decide +kernel
theorem d105_26 : decode prog_70_method_8_code 26 = .ok (.ldc2_w 33, 3) := by decide +kernel
theorem d105_29 : decode prog_70_method_8_code 29 = .ok (.lcmp, 1) := by decide +kernel
theorem d105_30 : decode prog_70_method_8_code 30 = .ok (.ifCond .le 13, 3) := by decide +kernel
theorem d105_43 : decode prog_70_method_8_code 43 = .ok (.aload_n 0, 1) := by decide +kernel
theorem d105_44 : decode prog_70_method_8_code 44 = .ok (.getfield 19, 3) := by decide +kernel
theorem d105_47 : decode prog_70_method_8_code 47 = .ok (.i2l, 1) := by decide +kernel
theorem d105_48 : decode prog_70_method_8_code 48 = .ok (.lload_n 1, 1) := by decide +kernel
theorem d105_49 : decode prog_70_method_8_code 49 = .ok (.ladd, 1) := by decide +kernel
theorem d105_50 : decode prog_70_method_8_code 50 = .ok (.aload_n 0, 1) := by decide +kernel
theorem d105_51 : decode prog_70_method_8_code 51 = .ok (.getfield 9, 3) := by decide +kernel
theorem d105_54 : decode prog_70_method_8_code 54 = .ok (.i2l, 1) := by decide +kernel
theorem d105_55 : decode prog_70_method_8_code 55 = .ok (.lmul, 1) := by decide +kernel
theorem d105_56 : decode prog_70_method_8_code 56 = .ok (.lstore_n 3, 1) := by decide +kernel
theorem d105_57 : decode prog_70_method_8_code 57 = .ok (.lload_n 3, 1) := by decide +kernel
theorem d105_58 : decode prog_70_method_8_code 58 = .ok (.aload_n 0, 1) := by decide +kernel
theorem d105_59 : decode prog_70_method_8_code 59 = .ok (.getfield 15, 3) := by decide +kernel
theorem d105_62 : decode prog_70_method_8_code 62 = .ok (.arraylength, 1) := by decide +kernel
theorem d105_63 : decode prog_70_method_8_code 63 = .ok (.i2l, 1) := by decide +kernel
theorem d105_64 : decode prog_70_method_8_code 64 = .ok (.lcmp, 1) := by decide +kernel
theorem d105_65 : decode prog_70_method_8_code 65 = .ok (.ifCond .le 35, 3) := by decide +kernel
theorem d105_68 : decode prog_70_method_8_code 68 = .ok (.aload_n 0, 1) := by decide +kernel
theorem d105_69 : decode prog_70_method_8_code 69 = .ok (.aload_n 0, 1) := by decide +kernel
theorem d105_70 : decode prog_70_method_8_code 70 = .ok (.getfield 15, 3) := by decide +kernel
theorem d105_73 : decode prog_70_method_8_code 73 = .ok (.ldc2_w 33, 3) := by decide +kernel
theorem d105_76 : decode prog_70_method_8_code 76 = .ok (.lload_n 3, 1) := by decide +kernel
theorem d105_77 : decode prog_70_method_8_code 77 = .ok (.ldc2_w 42, 3) := by decide +kernel
theorem d105_80 : decode prog_70_method_8_code 80 = .ok (.aload_n 0, 1) := by decide +kernel
theorem d105_81 : decode prog_70_method_8_code 81 = .ok (.getfield 15, 3) := by decide +kernel
theorem d105_84 : decode prog_70_method_8_code 84 = .ok (.arraylength, 1) := by decide +kernel
theorem d105_85 : decode prog_70_method_8_code 85 = .ok (.i2l, 1) := by decide +kernel
theorem d105_86 : decode prog_70_method_8_code 86 = .ok (.lmul, 1) := by decide +kernel
theorem d105_87 : decode prog_70_method_8_code 87 = .ok (.invokestatic 44, 3) := by decide +kernel
theorem d105_90 : decode prog_70_method_8_code 90 = .ok (.invokestatic 50, 3) := by decide +kernel
theorem d105_93 : decode prog_70_method_8_code 93 = .ok (.l2i, 1) := by decide +kernel
theorem d105_94 : decode prog_70_method_8_code 94 = .ok (.invokestatic 53, 3) := by decide +kernel
theorem d105_97 : decode prog_70_method_8_code 97 = .ok (.putfield 15, 3) := by decide +kernel
theorem d105_100 : decode prog_70_method_8_code 100 = .ok (.aload_n 0, 1) := by decide +kernel
theorem d105_101 : decode prog_70_method_8_code 101 = .ok (.getfield 19, 3) := by decide +kernel
theorem d105_104 : decode prog_70_method_8_code 104 = .ok (.aload_n 0, 1) := by decide +kernel
theorem d105_105 : decode prog_70_method_8_code 105 = .ok (.getfield 9, 3) := by decide +kernel
theorem d105_108 : decode prog_70_method_8_code 108 = .ok (.imul, 1) := by decide +kernel
theorem d105_109 : decode prog_70_method_8_code 109 = .ok (.istore 5, 2) := by decide +kernel
theorem d105_111 : decode prog_70_method_8_code 111 = .ok (.aload_n 0, 1) := by decide +kernel
theorem d105_112 : decode prog_70_method_8_code 112 = .ok (.dup, 1) := by decide +kernel
theorem d105_113 : decode prog_70_method_8_code 113 = .ok (.getfield 19, 3) := by decide +kernel
theorem d105_116 : decode prog_70_method_8_code 116 = .ok (.lload_n 1, 1) := by decide +kernel
theorem d105_117 : decode prog_70_method_8_code 117 = .ok (.l2i, 1) := by decide +kernel
theorem d105_118 : decode prog_70_method_8_code 118 = .ok (.iadd, 1) := by decide +kernel
theorem d105_119 : decode prog_70_method_8_code 119 = .ok (.putfield 19, 3) := by decide +kernel
theorem d105_122 : decode prog_70_method_8_code 122 = .ok (.iload 5, 2) := by decide +kernel
theorem d105_124 : decode prog_70_method_8_code 124 = .ok (.ireturn, 1) := by decide +kernel
theorem pn_105 : plainName "com/example/nestway/nestway/sparql/AnswerTable" = true := by first | (simp [plainName, overriddenIn]; done) | decide +kernel
theorem pd_8 : parseMethodDescriptor "(JJ)J" = some ⟨[.long, .long], some .long⟩ := by decide +kernel
theorem pd_9 : parseMethodDescriptor "([II)[I" = some ⟨[(.array .int), .int], some (.array .int)⟩ := by decide +kernel
theorem ef_105 (m : MethodId) (a1 : Addr) (q2 : Int64) : entryFrame m #[(.ref a1), (.long q2)] 6 = mkF m 0 #[.val (.ref a1), .val (.long q2), .second, .unset, .unset, .unset] [] := by first | (simp [entryFrame, mkF, argsToLocals, Value.category]; done) | rfl
def f105_u1 (q2 : Int64) (v_size_a1 : Int32) (v_width_a1 : Int32) : Int64 := (((v_size_a1.toInt64) + q2) * (v_width_a1.toInt64))
def f105 (v_size_a1 : Int32) (v_width_a1 : Int32) : Int32 := (v_size_a1 * v_width_a1)
def Q105 (Z : State) (a1 : Addr) (q2 : Int64) (v_size_a1 : Int32) (v_width_a1 : Int32) (v_cells_a1 : Addr) (n_v_cells_a1 : Int32) (f_v_cells_a1 : Int32 → Int32) (h0 : Heap) (n0 : Nat) (v : Option Value) (h : Heap) (L : List Loc) : Prop := ∃ x1 : Addr, v = some (.int (f105 v_size_a1 v_width_a1)) ∧ Fr n0 L ∧ Keep h0 h [a1] ∧ h0.size ≤ x1 ∧ n0 ≤ x1 ∧ Fld Z h a1 "com/example/nestway/nestway/sparql/AnswerTable" "width" "I" (.int v_width_a1) ∧ Exa Z h a1 "com/example/nestway/nestway/sparql/AnswerTable" ∧ Ia Z h x1 .int ((f9 (2147483639 : Int64) (f8 (f105_u1 q2 v_size_a1 v_width_a1) ((2 : Int64) * (n_v_cells_a1.toInt64)))).toInt32) (f10_u1 ((f9 (2147483639 : Int64) (f8 (f105_u1 q2 v_size_a1 v_width_a1) ((2 : Int64) * (n_v_cells_a1.toInt64)))).toInt32) n_v_cells_a1 f_v_cells_a1) ∧ Fld Z h a1 "com/example/nestway/nestway/sparql/AnswerTable" "cells" "[I" (.ref x1) ∧ Fld Z h a1 "com/example/nestway/nestway/sparql/AnswerTable" "size" "I" (.int (v_size_a1 + (q2.toInt32)))
theorem own_len (W C S : Nat) (hW : W ≤ 4) (hC : C ≤ 16) (hS : S ≤ 16) : (f9 (2147483639 : Int64) (f8 (((Int32.ofNat S).toInt64 + Int64.ofNat C) * (Int32.ofNat W).toInt64) ((2 : Int64) * ((Int32.ofNat (16 * W)).toInt64)))).toInt32 = Int32.ofNat (32 * W) := by
  have h := own_mb (S + C) W (by omega) hW
  have h2 : (S + C) * W ≤ 32 * W := Nat.mul_le_mul (by omega) (Nat.le_refl W)
  have e2 : (2 : Int64) * ((Int32.ofNat (16 * W)).toInt64) = Int64.ofNat (32 * W) := by
    rw [own_il (16 * W) (by omega), show (2 : Int64) = Int64.ofNat 2 from rfl, own_mulL 2 (16 * W) (by omega) (by omega) (by omega)]
    congr 1; omega
  rw [own_need S C W hS hC hW, e2]
  have m1 : f8 (Int64.ofNat ((S + C) * W)) (Int64.ofNat (32 * W)) = Int64.ofNat (32 * W) := by
    unfold f8
    by_cases q : own_cmp (Int64.ofNat ((S + C) * W)) (Int64.ofNat (32 * W)) < 0
    · exact if_pos q
    · rw [if_neg q]
      have : ¬ ((S + C) * W < 32 * W) := fun z => q ((own_lt _ _).mpr ((own_ltl _ _ (by omega) (by omega)).mpr z))
      congr 1; omega
  rw [m1]
  have m2 : f9 (2147483639 : Int64) (Int64.ofNat (32 * W)) = Int64.ofNat (32 * W) := by
    unfold f9
    refine if_pos ((own_gt _ _).mpr ?_)
    rw [Int64.lt_iff_toInt_lt, own_ofL _ (by omega), show (2147483639 : Int64).toInt = 2147483639 from by decide]
    omega
  rw [m2, own_li _ (by omega)]
set_option maxRecDepth 65536 in
set_option maxHeartbeats 40000000 in
theorem rm105 (l : Launch) (Z : State) (a0 : Array Value) (hw : ∀ d ∈ tables_1, d.before a0 Z = true) (ws : List Jvm.Cond) (a1 : Addr) (q2 : Int64) (v_size_a1 : Int32) (v_width_a1 : Int32) (v_cells_a1 : Addr) (n_v_cells_a1 : Int32) (f_v_cells_a1 : Int32 → Int32) (h0 : Heap) (n0 : Nat) (Z0 : n0 ≤ h0.size) (hr1 : ¬ (0 : Int32) < (own_cmp q2 (((2147483639 : Int32) - v_size_a1).toInt64))) (hr2 : ¬ (0 : Int32) < (own_cmp (((v_size_a1.toInt64) + q2) * (v_width_a1.toInt64)) (2147483639 : Int64))) (hr3 : (0 : Int32) < (own_cmp (((v_size_a1.toInt64) + q2) * (v_width_a1.toInt64)) (n_v_cells_a1.toInt64))) (hq : ∃ W C S : Nat, v_width_a1 = Int32.ofNat W ∧ q2 = Int64.ofNat C ∧ v_size_a1 = Int32.ofNat S ∧ n_v_cells_a1 = Int32.ofNat (16 * W) ∧ 1 ≤ W ∧ W ≤ 4 ∧ C ≤ 16 ∧ S ≤ 16) (F_size_a1 : Fld Z h0 a1 "com/example/nestway/nestway/sparql/AnswerTable" "size" "I" (.int v_size_a1)) (F_width_a1 : Fld Z h0 a1 "com/example/nestway/nestway/sparql/AnswerTable" "width" "I" (.int v_width_a1)) (F_cells_a1 : Fld Z h0 a1 "com/example/nestway/nestway/sparql/AnswerTable" "cells" "[I" (.ref v_cells_a1)) (A_v_cells_a1 : Ia Z h0 v_cells_a1 .int n_v_cells_a1 f_v_cells_a1) (E_a1 : Exa Z h0 a1 "com/example/nestway/nestway/sparql/AnswerTable") (g_a1 : n0 ≤ a1) :
    MetFree l (⟨"com/example/nestway/nestway/sparql/AnswerTable", "room", "(J)I"⟩ : MethodName) (head1 (Jvm.Cond.code (⟨"com/example/nestway/nestway/sparql/AnswerTable", "room", "(J)I"⟩ : MethodName) prog_70_method_8_code 6 (some .int) :: ws) ({ frames := 2, cells := 1, slots := 128, locals := 45 } : Room)) (fun a U => a = #[(.ref a1), (.long q2)] ∧ Z.Warmed39 U.vm ∧ U.heap = h0) (fun _ _ _ _ _ => True) (fun _ U o U' => ∃ v L, o = .returned v ∧ Q105 Z a1 q2 v_size_a1 v_width_a1 v_cells_a1 n_v_cells_a1 f_v_cells_a1 h0 n0 v U'.heap L ∧ FrameEnd U o U' L ({ frames := 2, cells := 1, slots := 128, locals := 45 } : Room).cells ({ frames := 2, cells := 1, slots := 128, locals := 45 } : Room).slots) := by
  refine MetFree.of_bodySF (plainFor_of_name pn_105) hisR ?_
  intro p e s m args below meth c s₁ Bd hml0 hP hK
  obtain ⟨rfl, hZ, hh⟩ := hP
  have hx := Bd.exec
  have hby := Bd.bytes
  have hml : c.maxLocals = 6 := hml0
  have hown : s.vm.findClass "com/example/nestway/nestway/sparql/AnswerTable" = some m.cls := findClass_of_methodNamed Bd.named
  have hnm := (name_of_methodNamed Bd.named Bd.method).1
  have X0 : Stand p l e ({ frames := 2, cells := 1, slots := 128, locals := 45 } : Room) s m #[(.ref a1), (.long q2)] below meth c s₁ [] 0 0 := Stand.of_body Bd
  have e0 : s₁.heap = h0 := by rw [← hh, Bd.state]; rfl
  have N0 := Fr.nil n0
  have pre0 : ∀ t, Steps p.tables e below (s₁.setTop (mkF m 0 #[.val (.ref a1), .val (.long q2), .second, .unset, .unset, .unset] [])) t → Steps p.tables e below (s₁.setTop (entryFrame m #[(.ref a1), (.long q2)] 6)) t := fun t k => castTop (ef_105 m a1 q2) k
  obtain ⟨W, C, S, eW, eC, eS, eN, b1, b2, b3, b4⟩ := hq
  have hlen : (f9 (2147483639 : Int64) (f8 (f105_u1 q2 v_size_a1 v_width_a1) ((2 : Int64) * (n_v_cells_a1.toInt64)))).toInt32 = Int32.ofNat (32 * W) := by rw [eC, eS, eW, eN]; exact own_len W C S b2 b3 b4
  have K1 : ∀ t, Steps p.tables e below (s₁.setTop (mkF m 4 #[.val (.ref a1), .val (.long q2), .second, .unset, .unset, .unset] [(.ref a1), (.int (2147483639 : Int32)), (.long q2)])) t → Steps p.tables e below (s₁.setTop (mkF m 0 #[.val (.ref a1), .val (.long q2), .second, .unset, .unset, .unset] [])) t := by
    intro t k
    refine XS.lloadN X0.here hx rfl (Jvm.hb hby d105_0) rfl ?_
    show Steps p.tables e below (s₁.setTop (mkF m 1 #[.val (.ref a1), .val (.long q2), .second, .unset, .unset, .unset] [(.long q2)])) t
    refine X0.ldcInt hx hown (mvT hZ (hw _ (List.mem_of_getElem? (i := 27) rfl))) (g := (mkF m 1 #[.val (.ref a1), .val (.long q2), .second, .unset, .unset, .unset] [(.long q2)])) rfl (Jvm.hb hby d105_1) _ ?_
    show Steps p.tables e below (s₁.setTop (mkF m 3 #[.val (.ref a1), .val (.long q2), .second, .unset, .unset, .unset] [(.int (2147483639 : Int32)), (.long q2)])) t
    refine XS.aloadN X0.here hx rfl (Jvm.hb hby d105_3) rfl rfl ?_
    show Steps p.tables e below (s₁.setTop (mkF m 4 #[.val (.ref a1), .val (.long q2), .second, .unset, .unset, .unset] [(.ref a1), (.int (2147483639 : Int32)), (.long q2)])) t
    exact k
  obtain ⟨T2, X2, e2, st2⟩ := getF X0 hx hZ hown (host := "") (Or.inl (hw _ (List.mem_of_getElem? (i := 28) rfl))) Via.refl e0 F_size_a1 (g := (mkF m 4 #[.val (.ref a1), .val (.long q2), .second, .unset, .unset, .unset] [(.ref a1), (.int (2147483639 : Int32)), (.long q2)])) rfl rfl (Jvm.hb hby d105_4)
  have K3 : ∀ t, Steps p.tables e below (T2.setTop (mkF m 7 #[.val (.ref a1), .val (.long q2), .second, .unset, .unset, .unset] [(.int v_size_a1), (.int (2147483639 : Int32)), (.long q2)])) t → Steps p.tables e below (s₁.setTop (mkF m 4 #[.val (.ref a1), .val (.long q2), .second, .unset, .unset, .unset] [(.ref a1), (.int (2147483639 : Int32)), (.long q2)])) t := fun t k => st2 _ k
  have K4 : ∀ t, Steps p.tables e below (T2.setTop (mkF m 10 #[.val (.ref a1), .val (.long q2), .second, .unset, .unset, .unset] [(.int (own_cmp q2 (((2147483639 : Int32) - v_size_a1).toInt64)))])) t → Steps p.tables e below (T2.setTop (mkF m 7 #[.val (.ref a1), .val (.long q2), .second, .unset, .unset, .unset] [(.int v_size_a1), (.int (2147483639 : Int32)), (.long q2)])) t := by
    intro t k
    refine XS.isub X2.here hx rfl (Jvm.hb hby d105_7) rfl ?_
    show Steps p.tables e below (T2.setTop (mkF m 8 #[.val (.ref a1), .val (.long q2), .second, .unset, .unset, .unset] [(.int ((2147483639 : Int32) - v_size_a1)), (.long q2)])) t
    refine XS.i2l X2.here hx rfl (Jvm.hb hby d105_8) rfl ?_
    show Steps p.tables e below (T2.setTop (mkF m 9 #[.val (.ref a1), .val (.long q2), .second, .unset, .unset, .unset] [(.long (((2147483639 : Int32) - v_size_a1).toInt64)), (.long q2)])) t
    refine XS.lcmp X2.here hx rfl (Jvm.hb hby d105_9) rfl ?_
    show Steps p.tables e below (T2.setTop (mkF m 10 #[.val (.ref a1), .val (.long q2), .second, .unset, .unset, .unset] [(.int (own_cmp q2 (((2147483639 : Int32) - v_size_a1).toInt64)))])) t
    exact k
  have hc5 : ¬ ((0 : Int32) < (own_cmp q2 (((2147483639 : Int32) - v_size_a1).toInt64))) := hr1
  have K6 : ∀ t, Steps p.tables e below (T2.setTop (mkF m 13 #[.val (.ref a1), .val (.long q2), .second, .unset, .unset, .unset] [])) t → Steps p.tables e below (T2.setTop (mkF m 10 #[.val (.ref a1), .val (.long q2), .second, .unset, .unset, .unset] [(.int (own_cmp q2 (((2147483639 : Int32) - v_size_a1).toInt64)))])) t := by
    intro t k
    refine XS.ifNo X2.here hx rfl (Jvm.hb hby d105_10) rfl ((if0 _ _).trans (flt hc5).2.2.1) ?_
    exact k
  have K7 : ∀ t, Steps p.tables e below (T2.setTop (mkF m 14 #[.val (.ref a1), .val (.long q2), .second, .unset, .unset, .unset] [(.ref a1)])) t → Steps p.tables e below (T2.setTop (mkF m 13 #[.val (.ref a1), .val (.long q2), .second, .unset, .unset, .unset] [])) t := by
    intro t k
    refine XS.aloadN X2.here hx rfl (Jvm.hb hby d105_13) rfl rfl ?_
    show Steps p.tables e below (T2.setTop (mkF m 14 #[.val (.ref a1), .val (.long q2), .second, .unset, .unset, .unset] [(.ref a1)])) t
    exact k
  obtain ⟨T8, X8, e8, st8⟩ := getF X2 hx hZ hown (host := "") (Or.inl (hw _ (List.mem_of_getElem? (i := 28) rfl))) Via.refl e2 F_size_a1 (g := (mkF m 14 #[.val (.ref a1), .val (.long q2), .second, .unset, .unset, .unset] [(.ref a1)])) rfl rfl (Jvm.hb hby d105_14)
  have K9 : ∀ t, Steps p.tables e below (T8.setTop (mkF m 17 #[.val (.ref a1), .val (.long q2), .second, .unset, .unset, .unset] [(.int v_size_a1)])) t → Steps p.tables e below (T2.setTop (mkF m 14 #[.val (.ref a1), .val (.long q2), .second, .unset, .unset, .unset] [(.ref a1)])) t := fun t k => st8 _ k
  have K10 : ∀ t, Steps p.tables e below (T8.setTop (mkF m 21 #[.val (.ref a1), .val (.long q2), .second, .unset, .unset, .unset] [(.ref a1), (.long ((v_size_a1.toInt64) + q2))])) t → Steps p.tables e below (T8.setTop (mkF m 17 #[.val (.ref a1), .val (.long q2), .second, .unset, .unset, .unset] [(.int v_size_a1)])) t := by
    intro t k
    refine XS.i2l X8.here hx rfl (Jvm.hb hby d105_17) rfl ?_
    show Steps p.tables e below (T8.setTop (mkF m 18 #[.val (.ref a1), .val (.long q2), .second, .unset, .unset, .unset] [(.long (v_size_a1.toInt64))])) t
    refine XS.lloadN X8.here hx rfl (Jvm.hb hby d105_18) rfl ?_
    show Steps p.tables e below (T8.setTop (mkF m 19 #[.val (.ref a1), .val (.long q2), .second, .unset, .unset, .unset] [(.long q2), (.long (v_size_a1.toInt64))])) t
    refine XS.ladd X8.here hx rfl (Jvm.hb hby d105_19) rfl ?_
    show Steps p.tables e below (T8.setTop (mkF m 20 #[.val (.ref a1), .val (.long q2), .second, .unset, .unset, .unset] [(.long ((v_size_a1.toInt64) + q2))])) t
    refine XS.aloadN X8.here hx rfl (Jvm.hb hby d105_20) rfl rfl ?_
    show Steps p.tables e below (T8.setTop (mkF m 21 #[.val (.ref a1), .val (.long q2), .second, .unset, .unset, .unset] [(.ref a1), (.long ((v_size_a1.toInt64) + q2))])) t
    exact k
  obtain ⟨T11, X11, e11, st11⟩ := getF X8 hx hZ hown (host := "") (Or.inl (hw _ (List.mem_of_getElem? (i := 14) rfl))) Via.refl e8 F_width_a1 (g := (mkF m 21 #[.val (.ref a1), .val (.long q2), .second, .unset, .unset, .unset] [(.ref a1), (.long ((v_size_a1.toInt64) + q2))])) rfl rfl (Jvm.hb hby d105_21)
  have K12 : ∀ t, Steps p.tables e below (T11.setTop (mkF m 24 #[.val (.ref a1), .val (.long q2), .second, .unset, .unset, .unset] [(.int v_width_a1), (.long ((v_size_a1.toInt64) + q2))])) t → Steps p.tables e below (T8.setTop (mkF m 21 #[.val (.ref a1), .val (.long q2), .second, .unset, .unset, .unset] [(.ref a1), (.long ((v_size_a1.toInt64) + q2))])) t := fun t k => st11 _ k
  have K13 : ∀ t, Steps p.tables e below (T11.setTop (mkF m 30 #[.val (.ref a1), .val (.long q2), .second, .unset, .unset, .unset] [(.int (own_cmp (((v_size_a1.toInt64) + q2) * (v_width_a1.toInt64)) (2147483639 : Int64)))])) t → Steps p.tables e below (T11.setTop (mkF m 24 #[.val (.ref a1), .val (.long q2), .second, .unset, .unset, .unset] [(.int v_width_a1), (.long ((v_size_a1.toInt64) + q2))])) t := by
    intro t k
    refine XS.i2l X11.here hx rfl (Jvm.hb hby d105_24) rfl ?_
    show Steps p.tables e below (T11.setTop (mkF m 25 #[.val (.ref a1), .val (.long q2), .second, .unset, .unset, .unset] [(.long (v_width_a1.toInt64)), (.long ((v_size_a1.toInt64) + q2))])) t
    refine XS.lmul X11.here hx rfl (Jvm.hb hby d105_25) rfl ?_
    show Steps p.tables e below (T11.setTop (mkF m 26 #[.val (.ref a1), .val (.long q2), .second, .unset, .unset, .unset] [(.long (((v_size_a1.toInt64) + q2) * (v_width_a1.toInt64)))])) t
    refine X11.ldc2Long hx hown (mvT hZ (hw _ (List.mem_of_getElem? (i := 30) rfl))) (g := (mkF m 26 #[.val (.ref a1), .val (.long q2), .second, .unset, .unset, .unset] [(.long (((v_size_a1.toInt64) + q2) * (v_width_a1.toInt64)))])) rfl (Jvm.hb hby d105_26) _ ?_
    show Steps p.tables e below (T11.setTop (mkF m 29 #[.val (.ref a1), .val (.long q2), .second, .unset, .unset, .unset] [(.long (2147483639 : Int64)), (.long (((v_size_a1.toInt64) + q2) * (v_width_a1.toInt64)))])) t
    refine XS.lcmp X11.here hx rfl (Jvm.hb hby d105_29) rfl ?_
    show Steps p.tables e below (T11.setTop (mkF m 30 #[.val (.ref a1), .val (.long q2), .second, .unset, .unset, .unset] [(.int (own_cmp (((v_size_a1.toInt64) + q2) * (v_width_a1.toInt64)) (2147483639 : Int64)))])) t
    exact k
  have hc14 : ¬ ((0 : Int32) < (own_cmp (((v_size_a1.toInt64) + q2) * (v_width_a1.toInt64)) (2147483639 : Int64))) := hr2
  have K15 : ∀ t, Steps p.tables e below (T11.setTop (mkF m 43 #[.val (.ref a1), .val (.long q2), .second, .unset, .unset, .unset] [])) t → Steps p.tables e below (T11.setTop (mkF m 30 #[.val (.ref a1), .val (.long q2), .second, .unset, .unset, .unset] [(.int (own_cmp (((v_size_a1.toInt64) + q2) * (v_width_a1.toInt64)) (2147483639 : Int64)))])) t := by
    intro t k
    refine XS.ifYes X11.here hx rfl (pc0 := 30) (pc' := 43) rfl (Jvm.hb hby d105_30) rfl ((if0 _ _).trans (flt hc14).2.2.2) (by decide) (by decide) ?_
    exact k
  have K16 : ∀ t, Steps p.tables e below (T11.setTop (mkF m 44 #[.val (.ref a1), .val (.long q2), .second, .unset, .unset, .unset] [(.ref a1)])) t → Steps p.tables e below (T11.setTop (mkF m 43 #[.val (.ref a1), .val (.long q2), .second, .unset, .unset, .unset] [])) t := by
    intro t k
    refine XS.aloadN X11.here hx rfl (Jvm.hb hby d105_43) rfl rfl ?_
    show Steps p.tables e below (T11.setTop (mkF m 44 #[.val (.ref a1), .val (.long q2), .second, .unset, .unset, .unset] [(.ref a1)])) t
    exact k
  obtain ⟨T17, X17, e17, st17⟩ := getF X11 hx hZ hown (host := "") (Or.inl (hw _ (List.mem_of_getElem? (i := 28) rfl))) Via.refl e11 F_size_a1 (g := (mkF m 44 #[.val (.ref a1), .val (.long q2), .second, .unset, .unset, .unset] [(.ref a1)])) rfl rfl (Jvm.hb hby d105_44)
  have K18 : ∀ t, Steps p.tables e below (T17.setTop (mkF m 47 #[.val (.ref a1), .val (.long q2), .second, .unset, .unset, .unset] [(.int v_size_a1)])) t → Steps p.tables e below (T11.setTop (mkF m 44 #[.val (.ref a1), .val (.long q2), .second, .unset, .unset, .unset] [(.ref a1)])) t := fun t k => st17 _ k
  have K19 : ∀ t, Steps p.tables e below (T17.setTop (mkF m 51 #[.val (.ref a1), .val (.long q2), .second, .unset, .unset, .unset] [(.ref a1), (.long ((v_size_a1.toInt64) + q2))])) t → Steps p.tables e below (T17.setTop (mkF m 47 #[.val (.ref a1), .val (.long q2), .second, .unset, .unset, .unset] [(.int v_size_a1)])) t := by
    intro t k
    refine XS.i2l X17.here hx rfl (Jvm.hb hby d105_47) rfl ?_
    show Steps p.tables e below (T17.setTop (mkF m 48 #[.val (.ref a1), .val (.long q2), .second, .unset, .unset, .unset] [(.long (v_size_a1.toInt64))])) t
    refine XS.lloadN X17.here hx rfl (Jvm.hb hby d105_48) rfl ?_
    show Steps p.tables e below (T17.setTop (mkF m 49 #[.val (.ref a1), .val (.long q2), .second, .unset, .unset, .unset] [(.long q2), (.long (v_size_a1.toInt64))])) t
    refine XS.ladd X17.here hx rfl (Jvm.hb hby d105_49) rfl ?_
    show Steps p.tables e below (T17.setTop (mkF m 50 #[.val (.ref a1), .val (.long q2), .second, .unset, .unset, .unset] [(.long ((v_size_a1.toInt64) + q2))])) t
    refine XS.aloadN X17.here hx rfl (Jvm.hb hby d105_50) rfl rfl ?_
    show Steps p.tables e below (T17.setTop (mkF m 51 #[.val (.ref a1), .val (.long q2), .second, .unset, .unset, .unset] [(.ref a1), (.long ((v_size_a1.toInt64) + q2))])) t
    exact k
  obtain ⟨T20, X20, e20, st20⟩ := getF X17 hx hZ hown (host := "") (Or.inl (hw _ (List.mem_of_getElem? (i := 14) rfl))) Via.refl e17 F_width_a1 (g := (mkF m 51 #[.val (.ref a1), .val (.long q2), .second, .unset, .unset, .unset] [(.ref a1), (.long ((v_size_a1.toInt64) + q2))])) rfl rfl (Jvm.hb hby d105_51)
  have K21 : ∀ t, Steps p.tables e below (T20.setTop (mkF m 54 #[.val (.ref a1), .val (.long q2), .second, .unset, .unset, .unset] [(.int v_width_a1), (.long ((v_size_a1.toInt64) + q2))])) t → Steps p.tables e below (T17.setTop (mkF m 51 #[.val (.ref a1), .val (.long q2), .second, .unset, .unset, .unset] [(.ref a1), (.long ((v_size_a1.toInt64) + q2))])) t := fun t k => st20 _ k
  have K22 : ∀ t, Steps p.tables e below (T20.setTop (mkF m 59 #[.val (.ref a1), .val (.long q2), .second, .val (.long (f105_u1 q2 v_size_a1 v_width_a1)), .second, .unset] [(.ref a1), (.long (f105_u1 q2 v_size_a1 v_width_a1))])) t → Steps p.tables e below (T20.setTop (mkF m 54 #[.val (.ref a1), .val (.long q2), .second, .unset, .unset, .unset] [(.int v_width_a1), (.long ((v_size_a1.toInt64) + q2))])) t := by
    intro t k
    refine XS.i2l X20.here hx rfl (Jvm.hb hby d105_54) rfl ?_
    show Steps p.tables e below (T20.setTop (mkF m 55 #[.val (.ref a1), .val (.long q2), .second, .unset, .unset, .unset] [(.long (v_width_a1.toInt64)), (.long ((v_size_a1.toInt64) + q2))])) t
    refine XS.lmul X20.here hx rfl (Jvm.hb hby d105_55) rfl ?_
    show Steps p.tables e below (T20.setTop (mkF m 56 #[.val (.ref a1), .val (.long q2), .second, .unset, .unset, .unset] [(.long (((v_size_a1.toInt64) + q2) * (v_width_a1.toInt64)))])) t
    refine XS.lstoreN X20.here hx rfl (Jvm.hb hby d105_56) rfl (l' := #[.val (.ref a1), .val (.long q2), .second, .val (.long (f105_u1 q2 v_size_a1 v_width_a1)), .second, .unset]) rfl ?_
    show Steps p.tables e below (T20.setTop (mkF m 57 #[.val (.ref a1), .val (.long q2), .second, .val (.long (f105_u1 q2 v_size_a1 v_width_a1)), .second, .unset] [])) t
    refine XS.lloadN X20.here hx rfl (Jvm.hb hby d105_57) rfl ?_
    show Steps p.tables e below (T20.setTop (mkF m 58 #[.val (.ref a1), .val (.long q2), .second, .val (.long (f105_u1 q2 v_size_a1 v_width_a1)), .second, .unset] [(.long (f105_u1 q2 v_size_a1 v_width_a1))])) t
    refine XS.aloadN X20.here hx rfl (Jvm.hb hby d105_58) rfl rfl ?_
    show Steps p.tables e below (T20.setTop (mkF m 59 #[.val (.ref a1), .val (.long q2), .second, .val (.long (f105_u1 q2 v_size_a1 v_width_a1)), .second, .unset] [(.ref a1), (.long (f105_u1 q2 v_size_a1 v_width_a1))])) t
    exact k
  obtain ⟨T23, X23, e23, st23⟩ := getF X20 hx hZ hown (host := "") (Or.inl (hw _ (List.mem_of_getElem? (i := 16) rfl))) Via.refl e20 F_cells_a1 (g := (mkF m 59 #[.val (.ref a1), .val (.long q2), .second, .val (.long (f105_u1 q2 v_size_a1 v_width_a1)), .second, .unset] [(.ref a1), (.long (f105_u1 q2 v_size_a1 v_width_a1))])) rfl rfl (Jvm.hb hby d105_59)
  have K24 : ∀ t, Steps p.tables e below (T23.setTop (mkF m 62 #[.val (.ref a1), .val (.long q2), .second, .val (.long (f105_u1 q2 v_size_a1 v_width_a1)), .second, .unset] [(.ref v_cells_a1), (.long (f105_u1 q2 v_size_a1 v_width_a1))])) t → Steps p.tables e below (T20.setTop (mkF m 59 #[.val (.ref a1), .val (.long q2), .second, .val (.long (f105_u1 q2 v_size_a1 v_width_a1)), .second, .unset] [(.ref a1), (.long (f105_u1 q2 v_size_a1 v_width_a1))])) t := fun t k => st23 _ k
  obtain ⟨cl25, Aq26, sq27, nq28⟩ := Ia.len A_v_cells_a1
  have K29 : ∀ t, Steps p.tables e below (T23.setTop (mkF m 65 #[.val (.ref a1), .val (.long q2), .second, .val (.long (f105_u1 q2 v_size_a1 v_width_a1)), .second, .unset] [(.int (own_cmp (f105_u1 q2 v_size_a1 v_width_a1) (n_v_cells_a1.toInt64)))])) t → Steps p.tables e below (T23.setTop (mkF m 62 #[.val (.ref a1), .val (.long q2), .second, .val (.long (f105_u1 q2 v_size_a1 v_width_a1)), .second, .unset] [(.ref v_cells_a1), (.long (f105_u1 q2 v_size_a1 v_width_a1))])) t := by
    intro t k
    refine X23.arraylength hx (by rw [e23]; exact Aq26.1) (State.isArrayOf_alike hZ.alike Aq26.2.1) (g := (mkF m 62 #[.val (.ref a1), .val (.long q2), .second, .val (.long (f105_u1 q2 v_size_a1 v_width_a1)), .second, .unset] [(.ref v_cells_a1), (.long (f105_u1 q2 v_size_a1 v_width_a1))])) rfl rfl (Jvm.hb hby d105_62) _ ?_
    rw [len_of sq27 nq28]
    show Steps p.tables e below (T23.setTop (mkF m 63 #[.val (.ref a1), .val (.long q2), .second, .val (.long (f105_u1 q2 v_size_a1 v_width_a1)), .second, .unset] [(.int n_v_cells_a1), (.long (f105_u1 q2 v_size_a1 v_width_a1))])) t
    refine XS.i2l X23.here hx rfl (Jvm.hb hby d105_63) rfl ?_
    show Steps p.tables e below (T23.setTop (mkF m 64 #[.val (.ref a1), .val (.long q2), .second, .val (.long (f105_u1 q2 v_size_a1 v_width_a1)), .second, .unset] [(.long (n_v_cells_a1.toInt64)), (.long (f105_u1 q2 v_size_a1 v_width_a1))])) t
    refine XS.lcmp X23.here hx rfl (Jvm.hb hby d105_64) rfl ?_
    show Steps p.tables e below (T23.setTop (mkF m 65 #[.val (.ref a1), .val (.long q2), .second, .val (.long (f105_u1 q2 v_size_a1 v_width_a1)), .second, .unset] [(.int (own_cmp (f105_u1 q2 v_size_a1 v_width_a1) (n_v_cells_a1.toInt64)))])) t
    exact k
  have hc30 : (0 : Int32) < (own_cmp (f105_u1 q2 v_size_a1 v_width_a1) (n_v_cells_a1.toInt64)) := hr3
  have K31 : ∀ t, Steps p.tables e below (T23.setTop (mkF m 68 #[.val (.ref a1), .val (.long q2), .second, .val (.long (f105_u1 q2 v_size_a1 v_width_a1)), .second, .unset] [])) t → Steps p.tables e below (T23.setTop (mkF m 65 #[.val (.ref a1), .val (.long q2), .second, .val (.long (f105_u1 q2 v_size_a1 v_width_a1)), .second, .unset] [(.int (own_cmp (f105_u1 q2 v_size_a1 v_width_a1) (n_v_cells_a1.toInt64)))])) t := by
    intro t k
    refine XS.ifNo X23.here hx rfl (Jvm.hb hby d105_65) rfl ((if0 _ _).trans (tlt hc30).2.2.2) ?_
    exact k
  have K32 : ∀ t, Steps p.tables e below (T23.setTop (mkF m 70 #[.val (.ref a1), .val (.long q2), .second, .val (.long (f105_u1 q2 v_size_a1 v_width_a1)), .second, .unset] [(.ref a1), (.ref a1)])) t → Steps p.tables e below (T23.setTop (mkF m 68 #[.val (.ref a1), .val (.long q2), .second, .val (.long (f105_u1 q2 v_size_a1 v_width_a1)), .second, .unset] [])) t := by
    intro t k
    refine XS.aloadN X23.here hx rfl (Jvm.hb hby d105_68) rfl rfl ?_
    show Steps p.tables e below (T23.setTop (mkF m 69 #[.val (.ref a1), .val (.long q2), .second, .val (.long (f105_u1 q2 v_size_a1 v_width_a1)), .second, .unset] [(.ref a1)])) t
    refine XS.aloadN X23.here hx rfl (Jvm.hb hby d105_69) rfl rfl ?_
    show Steps p.tables e below (T23.setTop (mkF m 70 #[.val (.ref a1), .val (.long q2), .second, .val (.long (f105_u1 q2 v_size_a1 v_width_a1)), .second, .unset] [(.ref a1), (.ref a1)])) t
    exact k
  obtain ⟨T33, X33, e33, st33⟩ := getF X23 hx hZ hown (host := "") (Or.inl (hw _ (List.mem_of_getElem? (i := 16) rfl))) Via.refl e23 F_cells_a1 (g := (mkF m 70 #[.val (.ref a1), .val (.long q2), .second, .val (.long (f105_u1 q2 v_size_a1 v_width_a1)), .second, .unset] [(.ref a1), (.ref a1)])) rfl rfl (Jvm.hb hby d105_70)
  have K34 : ∀ t, Steps p.tables e below (T33.setTop (mkF m 73 #[.val (.ref a1), .val (.long q2), .second, .val (.long (f105_u1 q2 v_size_a1 v_width_a1)), .second, .unset] [(.ref v_cells_a1), (.ref a1)])) t → Steps p.tables e below (T23.setTop (mkF m 70 #[.val (.ref a1), .val (.long q2), .second, .val (.long (f105_u1 q2 v_size_a1 v_width_a1)), .second, .unset] [(.ref a1), (.ref a1)])) t := fun t k => st33 _ k
  have K35 : ∀ t, Steps p.tables e below (T33.setTop (mkF m 81 #[.val (.ref a1), .val (.long q2), .second, .val (.long (f105_u1 q2 v_size_a1 v_width_a1)), .second, .unset] [(.ref a1), (.long (2 : Int64)), (.long (f105_u1 q2 v_size_a1 v_width_a1)), (.long (2147483639 : Int64)), (.ref v_cells_a1), (.ref a1)])) t → Steps p.tables e below (T33.setTop (mkF m 73 #[.val (.ref a1), .val (.long q2), .second, .val (.long (f105_u1 q2 v_size_a1 v_width_a1)), .second, .unset] [(.ref v_cells_a1), (.ref a1)])) t := by
    intro t k
    refine X33.ldc2Long hx hown (mvT hZ (hw _ (List.mem_of_getElem? (i := 30) rfl))) (g := (mkF m 73 #[.val (.ref a1), .val (.long q2), .second, .val (.long (f105_u1 q2 v_size_a1 v_width_a1)), .second, .unset] [(.ref v_cells_a1), (.ref a1)])) rfl (Jvm.hb hby d105_73) _ ?_
    show Steps p.tables e below (T33.setTop (mkF m 76 #[.val (.ref a1), .val (.long q2), .second, .val (.long (f105_u1 q2 v_size_a1 v_width_a1)), .second, .unset] [(.long (2147483639 : Int64)), (.ref v_cells_a1), (.ref a1)])) t
    refine XS.lloadN X33.here hx rfl (Jvm.hb hby d105_76) rfl ?_
    show Steps p.tables e below (T33.setTop (mkF m 77 #[.val (.ref a1), .val (.long q2), .second, .val (.long (f105_u1 q2 v_size_a1 v_width_a1)), .second, .unset] [(.long (f105_u1 q2 v_size_a1 v_width_a1)), (.long (2147483639 : Int64)), (.ref v_cells_a1), (.ref a1)])) t
    refine X33.ldc2Long hx hown (mvT hZ (hw _ (List.mem_of_getElem? (i := 43) rfl))) (g := (mkF m 77 #[.val (.ref a1), .val (.long q2), .second, .val (.long (f105_u1 q2 v_size_a1 v_width_a1)), .second, .unset] [(.long (f105_u1 q2 v_size_a1 v_width_a1)), (.long (2147483639 : Int64)), (.ref v_cells_a1), (.ref a1)])) rfl (Jvm.hb hby d105_77) _ ?_
    show Steps p.tables e below (T33.setTop (mkF m 80 #[.val (.ref a1), .val (.long q2), .second, .val (.long (f105_u1 q2 v_size_a1 v_width_a1)), .second, .unset] [(.long (2 : Int64)), (.long (f105_u1 q2 v_size_a1 v_width_a1)), (.long (2147483639 : Int64)), (.ref v_cells_a1), (.ref a1)])) t
    refine XS.aloadN X33.here hx rfl (Jvm.hb hby d105_80) rfl rfl ?_
    show Steps p.tables e below (T33.setTop (mkF m 81 #[.val (.ref a1), .val (.long q2), .second, .val (.long (f105_u1 q2 v_size_a1 v_width_a1)), .second, .unset] [(.ref a1), (.long (2 : Int64)), (.long (f105_u1 q2 v_size_a1 v_width_a1)), (.long (2147483639 : Int64)), (.ref v_cells_a1), (.ref a1)])) t
    exact k
  obtain ⟨T36, X36, e36, st36⟩ := getF X33 hx hZ hown (host := "") (Or.inl (hw _ (List.mem_of_getElem? (i := 16) rfl))) Via.refl e33 F_cells_a1 (g := (mkF m 81 #[.val (.ref a1), .val (.long q2), .second, .val (.long (f105_u1 q2 v_size_a1 v_width_a1)), .second, .unset] [(.ref a1), (.long (2 : Int64)), (.long (f105_u1 q2 v_size_a1 v_width_a1)), (.long (2147483639 : Int64)), (.ref v_cells_a1), (.ref a1)])) rfl rfl (Jvm.hb hby d105_81)
  have K37 : ∀ t, Steps p.tables e below (T36.setTop (mkF m 84 #[.val (.ref a1), .val (.long q2), .second, .val (.long (f105_u1 q2 v_size_a1 v_width_a1)), .second, .unset] [(.ref v_cells_a1), (.long (2 : Int64)), (.long (f105_u1 q2 v_size_a1 v_width_a1)), (.long (2147483639 : Int64)), (.ref v_cells_a1), (.ref a1)])) t → Steps p.tables e below (T33.setTop (mkF m 81 #[.val (.ref a1), .val (.long q2), .second, .val (.long (f105_u1 q2 v_size_a1 v_width_a1)), .second, .unset] [(.ref a1), (.long (2 : Int64)), (.long (f105_u1 q2 v_size_a1 v_width_a1)), (.long (2147483639 : Int64)), (.ref v_cells_a1), (.ref a1)])) t := fun t k => st36 _ k
  obtain ⟨cl38, Aq39, sq40, nq41⟩ := Ia.len A_v_cells_a1
  have K42 : ∀ t, Steps p.tables e below (T36.setTop (mkF m 87 #[.val (.ref a1), .val (.long q2), .second, .val (.long (f105_u1 q2 v_size_a1 v_width_a1)), .second, .unset] [(.long ((2 : Int64) * (n_v_cells_a1.toInt64))), (.long (f105_u1 q2 v_size_a1 v_width_a1)), (.long (2147483639 : Int64)), (.ref v_cells_a1), (.ref a1)])) t → Steps p.tables e below (T36.setTop (mkF m 84 #[.val (.ref a1), .val (.long q2), .second, .val (.long (f105_u1 q2 v_size_a1 v_width_a1)), .second, .unset] [(.ref v_cells_a1), (.long (2 : Int64)), (.long (f105_u1 q2 v_size_a1 v_width_a1)), (.long (2147483639 : Int64)), (.ref v_cells_a1), (.ref a1)])) t := by
    intro t k
    refine X36.arraylength hx (by rw [e36]; exact Aq39.1) (State.isArrayOf_alike hZ.alike Aq39.2.1) (g := (mkF m 84 #[.val (.ref a1), .val (.long q2), .second, .val (.long (f105_u1 q2 v_size_a1 v_width_a1)), .second, .unset] [(.ref v_cells_a1), (.long (2 : Int64)), (.long (f105_u1 q2 v_size_a1 v_width_a1)), (.long (2147483639 : Int64)), (.ref v_cells_a1), (.ref a1)])) rfl rfl (Jvm.hb hby d105_84) _ ?_
    rw [len_of sq40 nq41]
    show Steps p.tables e below (T36.setTop (mkF m 85 #[.val (.ref a1), .val (.long q2), .second, .val (.long (f105_u1 q2 v_size_a1 v_width_a1)), .second, .unset] [(.int n_v_cells_a1), (.long (2 : Int64)), (.long (f105_u1 q2 v_size_a1 v_width_a1)), (.long (2147483639 : Int64)), (.ref v_cells_a1), (.ref a1)])) t
    refine XS.i2l X36.here hx rfl (Jvm.hb hby d105_85) rfl ?_
    show Steps p.tables e below (T36.setTop (mkF m 86 #[.val (.ref a1), .val (.long q2), .second, .val (.long (f105_u1 q2 v_size_a1 v_width_a1)), .second, .unset] [(.long (n_v_cells_a1.toInt64)), (.long (2 : Int64)), (.long (f105_u1 q2 v_size_a1 v_width_a1)), (.long (2147483639 : Int64)), (.ref v_cells_a1), (.ref a1)])) t
    refine XS.lmul X36.here hx rfl (Jvm.hb hby d105_86) rfl ?_
    show Steps p.tables e below (T36.setTop (mkF m 87 #[.val (.ref a1), .val (.long q2), .second, .val (.long (f105_u1 q2 v_size_a1 v_width_a1)), .second, .unset] [(.long ((2 : Int64) * (n_v_cells_a1.toInt64))), (.long (f105_u1 q2 v_size_a1 v_width_a1)), (.long (2147483639 : Int64)), (.ref v_cells_a1), (.ref a1)])) t
    exact k
  obtain ⟨_, _, ⟨T43, L43, k43, n43⟩, -, X43, ⟨Lc43, hQ43, l43, y43, z43⟩, st43⟩ := Jvm.LawKit.callS X36 hx (y := (⟨"java/lang/Math", "max", "(JJ)J"⟩ : MethodName)) hown (mvT hZ (hw _ (List.mem_of_getElem? (i := 44) rfl))) (mvT hZ (hw _ (List.mem_of_getElem? (i := 45) rfl))) (mvT hZ (hw _ (List.mem_of_getElem? (i := 46) rfl))) (mvT hZ (hw _ (List.mem_of_getElem? (i := 47) rfl))) (by decide) (backOf (W := 4) (rm8 l Z a0 hw [] (f105_u1 q2 v_size_a1 v_width_a1) ((2 : Int64) * (n_v_cells_a1.toInt64)) h0 n0 Z0 ) hZ (hw _ (List.mem_of_getElem? (i := 47) rfl)) (hw _ (List.mem_of_getElem? (i := 46) rfl)) (by decide) (by decide)) (g := (mkF m 87 #[.val (.ref a1), .val (.long q2), .second, .val (.long (f105_u1 q2 v_size_a1 v_width_a1)), .second, .unset] [(.long ((2 : Int64) * (n_v_cells_a1.toInt64))), (.long (f105_u1 q2 v_size_a1 v_width_a1)), (.long (2147483639 : Int64)), (.ref v_cells_a1), (.ref a1)])) rfl (by rw [hml]; rfl) (argsL := [(.long (f105_u1 q2 v_size_a1 v_width_a1)), (.long ((2 : Int64) * (n_v_cells_a1.toInt64)))]) (rest := [(.long (2147483639 : Int64)), (.ref v_cells_a1), (.ref a1)]) (lenOf pd_8 rfl) rfl (by show 2 * 0 + _ ≤ _; exact Nat.le_of_eq rfl) (Jvm.hb hby d105_87) (fun _ _ => ⟨rfl, e36, (by decide : 0 + 0 ≤ _), (by decide : 0 + 0 ≤ _)⟩)
  dsimp only [Pt.U, Pt.locs, Pt.cells, Pt.slots] at X43 l43 y43 z43 st43 hQ43
  subst l43 y43 z43
  obtain ⟨rfl, N43q, e43⟩ := hQ43
  have N43 := Fr.app N0 N43q
  have K44 : ∀ t, Steps p.tables e below (T43.setTop (mkF m 90 #[.val (.ref a1), .val (.long q2), .second, .val (.long (f105_u1 q2 v_size_a1 v_width_a1)), .second, .unset] [(.long (f8 (f105_u1 q2 v_size_a1 v_width_a1) ((2 : Int64) * (n_v_cells_a1.toInt64)))), (.long (2147483639 : Int64)), (.ref v_cells_a1), (.ref a1)])) t → Steps p.tables e below (T36.setTop (mkF m 87 #[.val (.ref a1), .val (.long q2), .second, .val (.long (f105_u1 q2 v_size_a1 v_width_a1)), .second, .unset] [(.long ((2 : Int64) * (n_v_cells_a1.toInt64))), (.long (f105_u1 q2 v_size_a1 v_width_a1)), (.long (2147483639 : Int64)), (.ref v_cells_a1), (.ref a1)])) t := fun t k => st43 _ k
  obtain ⟨_, _, ⟨T45, L45, k45, n45⟩, -, X45, ⟨Lc45, hQ45, l45, y45, z45⟩, st45⟩ := Jvm.LawKit.callS X43 hx (y := (⟨"java/lang/Math", "min", "(JJ)J"⟩ : MethodName)) hown (mvT hZ (hw _ (List.mem_of_getElem? (i := 48) rfl))) (mvT hZ (hw _ (List.mem_of_getElem? (i := 49) rfl))) (mvT hZ (hw _ (List.mem_of_getElem? (i := 46) rfl))) (mvT hZ (hw _ (List.mem_of_getElem? (i := 50) rfl))) (by decide) (backOf (W := 2) (rm9 l Z a0 hw [] (2147483639 : Int64) (f8 (f105_u1 q2 v_size_a1 v_width_a1) ((2 : Int64) * (n_v_cells_a1.toInt64))) h0 n0 Z0 ) hZ (hw _ (List.mem_of_getElem? (i := 50) rfl)) (hw _ (List.mem_of_getElem? (i := 46) rfl)) (by decide) (by decide)) (g := (mkF m 90 #[.val (.ref a1), .val (.long q2), .second, .val (.long (f105_u1 q2 v_size_a1 v_width_a1)), .second, .unset] [(.long (f8 (f105_u1 q2 v_size_a1 v_width_a1) ((2 : Int64) * (n_v_cells_a1.toInt64)))), (.long (2147483639 : Int64)), (.ref v_cells_a1), (.ref a1)])) rfl (by rw [hml]; rfl) (argsL := [(.long (2147483639 : Int64)), (.long (f8 (f105_u1 q2 v_size_a1 v_width_a1) ((2 : Int64) * (n_v_cells_a1.toInt64))))]) (rest := [(.ref v_cells_a1), (.ref a1)]) (lenOf pd_8 rfl) rfl (by show 2 * 0 + _ ≤ _; exact Nat.le_of_eq rfl) (Jvm.hb hby d105_90) (fun _ _ => ⟨rfl, e43, (by decide : 0 + 0 ≤ _), (by decide : 0 + 0 ≤ _)⟩)
  dsimp only [Pt.U, Pt.locs, Pt.cells, Pt.slots] at X45 l45 y45 z45 st45 hQ45
  subst l45 y45 z45
  obtain ⟨rfl, N45q, e45⟩ := hQ45
  have N45 := Fr.app N43 N45q
  have K46 : ∀ t, Steps p.tables e below (T45.setTop (mkF m 93 #[.val (.ref a1), .val (.long q2), .second, .val (.long (f105_u1 q2 v_size_a1 v_width_a1)), .second, .unset] [(.long (f9 (2147483639 : Int64) (f8 (f105_u1 q2 v_size_a1 v_width_a1) ((2 : Int64) * (n_v_cells_a1.toInt64))))), (.ref v_cells_a1), (.ref a1)])) t → Steps p.tables e below (T43.setTop (mkF m 90 #[.val (.ref a1), .val (.long q2), .second, .val (.long (f105_u1 q2 v_size_a1 v_width_a1)), .second, .unset] [(.long (f8 (f105_u1 q2 v_size_a1 v_width_a1) ((2 : Int64) * (n_v_cells_a1.toInt64)))), (.long (2147483639 : Int64)), (.ref v_cells_a1), (.ref a1)])) t := fun t k => st45 _ k
  have K47 : ∀ t, Steps p.tables e below (T45.setTop (mkF m 94 #[.val (.ref a1), .val (.long q2), .second, .val (.long (f105_u1 q2 v_size_a1 v_width_a1)), .second, .unset] [(.int ((f9 (2147483639 : Int64) (f8 (f105_u1 q2 v_size_a1 v_width_a1) ((2 : Int64) * (n_v_cells_a1.toInt64)))).toInt32)), (.ref v_cells_a1), (.ref a1)])) t → Steps p.tables e below (T45.setTop (mkF m 93 #[.val (.ref a1), .val (.long q2), .second, .val (.long (f105_u1 q2 v_size_a1 v_width_a1)), .second, .unset] [(.long (f9 (2147483639 : Int64) (f8 (f105_u1 q2 v_size_a1 v_width_a1) ((2 : Int64) * (n_v_cells_a1.toInt64))))), (.ref v_cells_a1), (.ref a1)])) t := by
    intro t k
    refine XS.l2i X45.here hx rfl (Jvm.hb hby d105_93) rfl ?_
    show Steps p.tables e below (T45.setTop (mkF m 94 #[.val (.ref a1), .val (.long q2), .second, .val (.long (f105_u1 q2 v_size_a1 v_width_a1)), .second, .unset] [(.int ((f9 (2147483639 : Int64) (f8 (f105_u1 q2 v_size_a1 v_width_a1) ((2 : Int64) * (n_v_cells_a1.toInt64)))).toInt32)), (.ref v_cells_a1), (.ref a1)])) t
    exact k
  obtain ⟨_, _, ⟨T48, L48, k48, n48⟩, -, X48, ⟨Lc48, hQ48, l48, y48, z48⟩, st48⟩ := Jvm.LawKit.callS X45 hx (y := (⟨"java/util/Arrays", "copyOf", "([II)[I"⟩ : MethodName)) hown (mvT hZ (hw _ (List.mem_of_getElem? (i := 51) rfl))) (mvT hZ (hw _ (List.mem_of_getElem? (i := 52) rfl))) (mvT hZ (hw _ (List.mem_of_getElem? (i := 53) rfl))) (mvT hZ (hw _ (List.mem_of_getElem? (i := 54) rfl))) (by decide) (backOf (W := 1) (rm10 l Z a0 hw [] v_cells_a1 ((f9 (2147483639 : Int64) (f8 (f105_u1 q2 v_size_a1 v_width_a1) ((2 : Int64) * (n_v_cells_a1.toInt64)))).toInt32) n_v_cells_a1 f_v_cells_a1 h0 n0 Z0 (by rw [hlen, eN]; intro z; have := congrArg Int32.toInt z; rw [own_ofNat _ (by omega), own_ofNat _ (by omega)] at this; omega) (by rw [hlen]; exact own_nn _ (by omega)) (by rw [hlen, own_cl _ (by omega)]; omega) A_v_cells_a1) hZ (hw _ (List.mem_of_getElem? (i := 54) rfl)) (hw _ (List.mem_of_getElem? (i := 53) rfl)) (by decide) (by decide)) (g := (mkF m 94 #[.val (.ref a1), .val (.long q2), .second, .val (.long (f105_u1 q2 v_size_a1 v_width_a1)), .second, .unset] [(.int ((f9 (2147483639 : Int64) (f8 (f105_u1 q2 v_size_a1 v_width_a1) ((2 : Int64) * (n_v_cells_a1.toInt64)))).toInt32)), (.ref v_cells_a1), (.ref a1)])) rfl (by rw [hml]; rfl) (argsL := [(.ref v_cells_a1), (.int ((f9 (2147483639 : Int64) (f8 (f105_u1 q2 v_size_a1 v_width_a1) ((2 : Int64) * (n_v_cells_a1.toInt64)))).toInt32))]) (rest := [(.ref a1)]) (lenOf pd_9 rfl) rfl (by show 2 * 0 + _ ≤ _; exact Nat.le_of_eq rfl) (Jvm.hb hby d105_94) (fun _ _ => ⟨rfl, e45, (by decide : 0 + 1 ≤ _), (by decide : 0 + 128 ≤ _)⟩)
  dsimp only [Pt.U, Pt.locs, Pt.cells, Pt.slots] at X48 l48 y48 z48 st48 hQ48
  subst l48 y48 z48
  obtain ⟨h48, e48⟩ : ∃ z, T48.heap = z := ⟨_, rfl⟩
  rw [e48] at hQ48
  obtain ⟨b48_x1, rfl, N48q, Kq48, szq_b48_x1, gb_b48_x1, R48_0⟩ := hQ48
  have N48 := Fr.app N45 N48q
  have KP48 : Keep h0 h48 [a1] := (Keep.refl h0 [a1]).trans Kq48 all0
  have F48_0 : Fld Z h48 a1 "com/example/nestway/nestway/sparql/AnswerTable" "size" "I" (.int v_size_a1) := F_size_a1.keep Kq48 nin0
  have F48_1 : Fld Z h48 a1 "com/example/nestway/nestway/sparql/AnswerTable" "width" "I" (.int v_width_a1) := F_width_a1.keep Kq48 nin0
  have F48_2 : Fld Z h48 a1 "com/example/nestway/nestway/sparql/AnswerTable" "cells" "[I" (.ref v_cells_a1) := F_cells_a1.keep Kq48 nin0
  have A48_3 : Ia Z h48 v_cells_a1 .int n_v_cells_a1 f_v_cells_a1 := A_v_cells_a1.keep Kq48 nin0
  have E48_4 : Exa Z h48 a1 "com/example/nestway/nestway/sparql/AnswerTable" := E_a1.keep Kq48
  have ne48_x1_0 : a1 ≠ b48_x1 := Nat.ne_of_lt (Nat.lt_of_lt_of_le F_size_a1.lt szq_b48_x1)
  have ne48_x1_2 : v_cells_a1 ≠ b48_x1 := Nat.ne_of_lt (Nat.lt_of_lt_of_le A_v_cells_a1.lt szq_b48_x1)
  have sz_b48_x1 : h0.size ≤ b48_x1 := Nat.le_trans (Keep.refl h0 [a1]).1 szq_b48_x1
  have K49 : ∀ t, Steps p.tables e below (T48.setTop (mkF m 97 #[.val (.ref a1), .val (.long q2), .second, .val (.long (f105_u1 q2 v_size_a1 v_width_a1)), .second, .unset] [(.ref b48_x1), (.ref a1)])) t → Steps p.tables e below (T45.setTop (mkF m 94 #[.val (.ref a1), .val (.long q2), .second, .val (.long (f105_u1 q2 v_size_a1 v_width_a1)), .second, .unset] [(.int ((f9 (2147483639 : Int64) (f8 (f105_u1 q2 v_size_a1 v_width_a1) ((2 : Int64) * (n_v_cells_a1.toInt64)))).toInt32)), (.ref v_cells_a1), (.ref a1)])) t := fun t k => st48 _ k
  obtain ⟨T50, h50, X50, e50, W50, st50⟩ := putF X48 hx hZ hown (host := "") (Or.inl (hw _ (List.mem_of_getElem? (i := 16) rfl))) Via.refl e48 F48_2 E48_4 (Or.inl (hw _ (List.mem_of_getElem? (i := 17) rfl))) (hw _ (List.mem_of_getElem? (i := 6) rfl)) (ty := (.array .int)) (by decide) rfl rfl (g := (mkF m 97 #[.val (.ref a1), .val (.long q2), .second, .val (.long (f105_u1 q2 v_size_a1 v_width_a1)), .second, .unset] [(.ref b48_x1), (.ref a1)])) rfl rfl (Jvm.hb hby d105_97)
  have KP50 : Keep h0 h50 [a1] := KP48.wr W50 (Or.inl (List.mem_of_getElem? (i := 0) rfl))
  have N50 := Fr.snoc X50 N48 g_a1
  have F50_0 : Fld Z h50 a1 "com/example/nestway/nestway/sparql/AnswerTable" "size" "I" (.int v_size_a1) := F48_0.other W50 (Or.inr (slot_ne (Or.inl (hw _ (List.mem_of_getElem? (i := 29) rfl))) (Or.inl (hw _ (List.mem_of_getElem? (i := 17) rfl))) (by decide) (t := .int) (t' := (.array .int)) (by decide) (by decide)))
  have F50_1 : Fld Z h50 a1 "com/example/nestway/nestway/sparql/AnswerTable" "width" "I" (.int v_width_a1) := F48_1.other W50 (Or.inr (slot_ne (Or.inr (hw _ (List.mem_of_getElem? (i := 15) rfl))) (Or.inl (hw _ (List.mem_of_getElem? (i := 17) rfl))) (by decide) (t := .int) (t' := (.array .int)) (by decide) (by decide)))
  have A50_2 : Ia Z h50 v_cells_a1 .int n_v_cells_a1 f_v_cells_a1 := A48_3.other W50 (Ne.symm (own_nea E48_4 (hw _ (List.mem_of_getElem? (i := 6) rfl)) A48_3))
  have E50_3 : Exa Z h50 a1 "com/example/nestway/nestway/sparql/AnswerTable" := E48_4.wr W50
  have A50_4 : Ia Z h50 b48_x1 .int ((f9 (2147483639 : Int64) (f8 (f105_u1 q2 v_size_a1 v_width_a1) ((2 : Int64) * (n_v_cells_a1.toInt64)))).toInt32) (f10_u1 ((f9 (2147483639 : Int64) (f8 (f105_u1 q2 v_size_a1 v_width_a1) ((2 : Int64) * (n_v_cells_a1.toInt64)))).toInt32) n_v_cells_a1 f_v_cells_a1) := R48_0.other W50 (Ne.symm ne48_x1_0)
  have Fw50 : Fld Z h50 a1 "com/example/nestway/nestway/sparql/AnswerTable" "cells" "[I" (.ref b48_x1) := F48_2.same W50
  have K51 : ∀ t, Steps p.tables e below (T50.setTop (mkF m 100 #[.val (.ref a1), .val (.long q2), .second, .val (.long (f105_u1 q2 v_size_a1 v_width_a1)), .second, .unset] [])) t → Steps p.tables e below (T48.setTop (mkF m 97 #[.val (.ref a1), .val (.long q2), .second, .val (.long (f105_u1 q2 v_size_a1 v_width_a1)), .second, .unset] [(.ref b48_x1), (.ref a1)])) t := fun t k => st50 _ k
  have K52 : ∀ t, Steps p.tables e below (T50.setTop (mkF m 101 #[.val (.ref a1), .val (.long q2), .second, .val (.long (f105_u1 q2 v_size_a1 v_width_a1)), .second, .unset] [(.ref a1)])) t → Steps p.tables e below (T50.setTop (mkF m 100 #[.val (.ref a1), .val (.long q2), .second, .val (.long (f105_u1 q2 v_size_a1 v_width_a1)), .second, .unset] [])) t := by
    intro t k
    refine XS.aloadN X50.here hx rfl (Jvm.hb hby d105_100) rfl rfl ?_
    show Steps p.tables e below (T50.setTop (mkF m 101 #[.val (.ref a1), .val (.long q2), .second, .val (.long (f105_u1 q2 v_size_a1 v_width_a1)), .second, .unset] [(.ref a1)])) t
    exact k
  obtain ⟨T53, X53, e53, st53⟩ := getF X50 hx hZ hown (host := "") (Or.inl (hw _ (List.mem_of_getElem? (i := 28) rfl))) Via.refl e50 F50_0 (g := (mkF m 101 #[.val (.ref a1), .val (.long q2), .second, .val (.long (f105_u1 q2 v_size_a1 v_width_a1)), .second, .unset] [(.ref a1)])) rfl rfl (Jvm.hb hby d105_101)
  have K54 : ∀ t, Steps p.tables e below (T53.setTop (mkF m 104 #[.val (.ref a1), .val (.long q2), .second, .val (.long (f105_u1 q2 v_size_a1 v_width_a1)), .second, .unset] [(.int v_size_a1)])) t → Steps p.tables e below (T50.setTop (mkF m 101 #[.val (.ref a1), .val (.long q2), .second, .val (.long (f105_u1 q2 v_size_a1 v_width_a1)), .second, .unset] [(.ref a1)])) t := fun t k => st53 _ k
  have K55 : ∀ t, Steps p.tables e below (T53.setTop (mkF m 105 #[.val (.ref a1), .val (.long q2), .second, .val (.long (f105_u1 q2 v_size_a1 v_width_a1)), .second, .unset] [(.ref a1), (.int v_size_a1)])) t → Steps p.tables e below (T53.setTop (mkF m 104 #[.val (.ref a1), .val (.long q2), .second, .val (.long (f105_u1 q2 v_size_a1 v_width_a1)), .second, .unset] [(.int v_size_a1)])) t := by
    intro t k
    refine XS.aloadN X53.here hx rfl (Jvm.hb hby d105_104) rfl rfl ?_
    show Steps p.tables e below (T53.setTop (mkF m 105 #[.val (.ref a1), .val (.long q2), .second, .val (.long (f105_u1 q2 v_size_a1 v_width_a1)), .second, .unset] [(.ref a1), (.int v_size_a1)])) t
    exact k
  obtain ⟨T56, X56, e56, st56⟩ := getF X53 hx hZ hown (host := "") (Or.inl (hw _ (List.mem_of_getElem? (i := 14) rfl))) Via.refl e53 F50_1 (g := (mkF m 105 #[.val (.ref a1), .val (.long q2), .second, .val (.long (f105_u1 q2 v_size_a1 v_width_a1)), .second, .unset] [(.ref a1), (.int v_size_a1)])) rfl rfl (Jvm.hb hby d105_105)
  have K57 : ∀ t, Steps p.tables e below (T56.setTop (mkF m 108 #[.val (.ref a1), .val (.long q2), .second, .val (.long (f105_u1 q2 v_size_a1 v_width_a1)), .second, .unset] [(.int v_width_a1), (.int v_size_a1)])) t → Steps p.tables e below (T53.setTop (mkF m 105 #[.val (.ref a1), .val (.long q2), .second, .val (.long (f105_u1 q2 v_size_a1 v_width_a1)), .second, .unset] [(.ref a1), (.int v_size_a1)])) t := fun t k => st56 _ k
  have K58 : ∀ t, Steps p.tables e below (T56.setTop (mkF m 113 #[.val (.ref a1), .val (.long q2), .second, .val (.long (f105_u1 q2 v_size_a1 v_width_a1)), .second, .val (.int (v_size_a1 * v_width_a1))] [(.ref a1), (.ref a1)])) t → Steps p.tables e below (T56.setTop (mkF m 108 #[.val (.ref a1), .val (.long q2), .second, .val (.long (f105_u1 q2 v_size_a1 v_width_a1)), .second, .unset] [(.int v_width_a1), (.int v_size_a1)])) t := by
    intro t k
    refine XS.imul X56.here hx rfl (Jvm.hb hby d105_108) rfl ?_
    show Steps p.tables e below (T56.setTop (mkF m 109 #[.val (.ref a1), .val (.long q2), .second, .val (.long (f105_u1 q2 v_size_a1 v_width_a1)), .second, .unset] [(.int (v_size_a1 * v_width_a1))])) t
    refine XS.istore X56.here hx rfl (Jvm.hb hby d105_109) rfl (l' := #[.val (.ref a1), .val (.long q2), .second, .val (.long (f105_u1 q2 v_size_a1 v_width_a1)), .second, .val (.int (v_size_a1 * v_width_a1))]) rfl ?_
    show Steps p.tables e below (T56.setTop (mkF m 111 #[.val (.ref a1), .val (.long q2), .second, .val (.long (f105_u1 q2 v_size_a1 v_width_a1)), .second, .val (.int (v_size_a1 * v_width_a1))] [])) t
    refine XS.aloadN X56.here hx rfl (Jvm.hb hby d105_111) rfl rfl ?_
    show Steps p.tables e below (T56.setTop (mkF m 112 #[.val (.ref a1), .val (.long q2), .second, .val (.long (f105_u1 q2 v_size_a1 v_width_a1)), .second, .val (.int (v_size_a1 * v_width_a1))] [(.ref a1)])) t
    refine XS.dup X56.here hx rfl (Jvm.hb hby d105_112) rfl rfl ?_
    show Steps p.tables e below (T56.setTop (mkF m 113 #[.val (.ref a1), .val (.long q2), .second, .val (.long (f105_u1 q2 v_size_a1 v_width_a1)), .second, .val (.int (v_size_a1 * v_width_a1))] [(.ref a1), (.ref a1)])) t
    exact k
  obtain ⟨T59, X59, e59, st59⟩ := getF X56 hx hZ hown (host := "") (Or.inl (hw _ (List.mem_of_getElem? (i := 28) rfl))) Via.refl e56 F50_0 (g := (mkF m 113 #[.val (.ref a1), .val (.long q2), .second, .val (.long (f105_u1 q2 v_size_a1 v_width_a1)), .second, .val (.int (v_size_a1 * v_width_a1))] [(.ref a1), (.ref a1)])) rfl rfl (Jvm.hb hby d105_113)
  have K60 : ∀ t, Steps p.tables e below (T59.setTop (mkF m 116 #[.val (.ref a1), .val (.long q2), .second, .val (.long (f105_u1 q2 v_size_a1 v_width_a1)), .second, .val (.int (v_size_a1 * v_width_a1))] [(.int v_size_a1), (.ref a1)])) t → Steps p.tables e below (T56.setTop (mkF m 113 #[.val (.ref a1), .val (.long q2), .second, .val (.long (f105_u1 q2 v_size_a1 v_width_a1)), .second, .val (.int (v_size_a1 * v_width_a1))] [(.ref a1), (.ref a1)])) t := fun t k => st59 _ k
  have K61 : ∀ t, Steps p.tables e below (T59.setTop (mkF m 119 #[.val (.ref a1), .val (.long q2), .second, .val (.long (f105_u1 q2 v_size_a1 v_width_a1)), .second, .val (.int (v_size_a1 * v_width_a1))] [(.int (v_size_a1 + (q2.toInt32))), (.ref a1)])) t → Steps p.tables e below (T59.setTop (mkF m 116 #[.val (.ref a1), .val (.long q2), .second, .val (.long (f105_u1 q2 v_size_a1 v_width_a1)), .second, .val (.int (v_size_a1 * v_width_a1))] [(.int v_size_a1), (.ref a1)])) t := by
    intro t k
    refine XS.lloadN X59.here hx rfl (Jvm.hb hby d105_116) rfl ?_
    show Steps p.tables e below (T59.setTop (mkF m 117 #[.val (.ref a1), .val (.long q2), .second, .val (.long (f105_u1 q2 v_size_a1 v_width_a1)), .second, .val (.int (v_size_a1 * v_width_a1))] [(.long q2), (.int v_size_a1), (.ref a1)])) t
    refine XS.l2i X59.here hx rfl (Jvm.hb hby d105_117) rfl ?_
    show Steps p.tables e below (T59.setTop (mkF m 118 #[.val (.ref a1), .val (.long q2), .second, .val (.long (f105_u1 q2 v_size_a1 v_width_a1)), .second, .val (.int (v_size_a1 * v_width_a1))] [(.int (q2.toInt32)), (.int v_size_a1), (.ref a1)])) t
    refine XS.iadd X59.here hx rfl (Jvm.hb hby d105_118) rfl ?_
    show Steps p.tables e below (T59.setTop (mkF m 119 #[.val (.ref a1), .val (.long q2), .second, .val (.long (f105_u1 q2 v_size_a1 v_width_a1)), .second, .val (.int (v_size_a1 * v_width_a1))] [(.int (v_size_a1 + (q2.toInt32))), (.ref a1)])) t
    exact k
  obtain ⟨T62, h62, X62, e62, W62, st62⟩ := putF X59 hx hZ hown (host := "") (Or.inl (hw _ (List.mem_of_getElem? (i := 28) rfl))) Via.refl e59 F50_0 E50_3 (Or.inl (hw _ (List.mem_of_getElem? (i := 29) rfl))) (hw _ (List.mem_of_getElem? (i := 6) rfl)) (ty := .int) (by decide) rfl rfl (g := (mkF m 119 #[.val (.ref a1), .val (.long q2), .second, .val (.long (f105_u1 q2 v_size_a1 v_width_a1)), .second, .val (.int (v_size_a1 * v_width_a1))] [(.int (v_size_a1 + (q2.toInt32))), (.ref a1)])) rfl rfl (Jvm.hb hby d105_119)
  have KP62 : Keep h0 h62 [a1] := KP50.wr W62 (Or.inl (List.mem_of_getElem? (i := 0) rfl))
  have N62 := Fr.snoc X62 N50 g_a1
  have F62_0 : Fld Z h62 a1 "com/example/nestway/nestway/sparql/AnswerTable" "width" "I" (.int v_width_a1) := F50_1.other W62 (Or.inr (slot_ne (Or.inr (hw _ (List.mem_of_getElem? (i := 15) rfl))) (Or.inl (hw _ (List.mem_of_getElem? (i := 29) rfl))) (by decide) (t := .int) (t' := .int) (by decide) (by decide)))
  have A62_1 : Ia Z h62 v_cells_a1 .int n_v_cells_a1 f_v_cells_a1 := A50_2.other W62 (Ne.symm (own_nea E50_3 (hw _ (List.mem_of_getElem? (i := 6) rfl)) A50_2))
  have E62_2 : Exa Z h62 a1 "com/example/nestway/nestway/sparql/AnswerTable" := E50_3.wr W62
  have A62_3 : Ia Z h62 b48_x1 .int ((f9 (2147483639 : Int64) (f8 (f105_u1 q2 v_size_a1 v_width_a1) ((2 : Int64) * (n_v_cells_a1.toInt64)))).toInt32) (f10_u1 ((f9 (2147483639 : Int64) (f8 (f105_u1 q2 v_size_a1 v_width_a1) ((2 : Int64) * (n_v_cells_a1.toInt64)))).toInt32) n_v_cells_a1 f_v_cells_a1) := A50_4.other W62 (Ne.symm ne48_x1_0)
  have F62_4 : Fld Z h62 a1 "com/example/nestway/nestway/sparql/AnswerTable" "cells" "[I" (.ref b48_x1) := Fw50.other W62 (Or.inr (slot_ne (Or.inl (hw _ (List.mem_of_getElem? (i := 17) rfl))) (Or.inl (hw _ (List.mem_of_getElem? (i := 29) rfl))) (by decide) (t := (.array .int)) (t' := .int) (by decide) (by decide)))
  have Fw62 : Fld Z h62 a1 "com/example/nestway/nestway/sparql/AnswerTable" "size" "I" (.int (v_size_a1 + (q2.toInt32))) := F50_0.same W62
  have K63 : ∀ t, Steps p.tables e below (T62.setTop (mkF m 122 #[.val (.ref a1), .val (.long q2), .second, .val (.long (f105_u1 q2 v_size_a1 v_width_a1)), .second, .val (.int (v_size_a1 * v_width_a1))] [])) t → Steps p.tables e below (T59.setTop (mkF m 119 #[.val (.ref a1), .val (.long q2), .second, .val (.long (f105_u1 q2 v_size_a1 v_width_a1)), .second, .val (.int (v_size_a1 * v_width_a1))] [(.int (v_size_a1 + (q2.toInt32))), (.ref a1)])) t := fun t k => st62 _ k
  have K64 : ∀ t, Steps p.tables e below (T62.setTop (mkF m 124 #[.val (.ref a1), .val (.long q2), .second, .val (.long (f105_u1 q2 v_size_a1 v_width_a1)), .second, .val (.int (v_size_a1 * v_width_a1))] [(.int (v_size_a1 * v_width_a1))])) t → Steps p.tables e below (T62.setTop (mkF m 122 #[.val (.ref a1), .val (.long q2), .second, .val (.long (f105_u1 q2 v_size_a1 v_width_a1)), .second, .val (.int (v_size_a1 * v_width_a1))] [])) t := by
    intro t k
    refine XS.iload X62.here hx rfl (Jvm.hb hby d105_122) rfl ?_
    show Steps p.tables e below (T62.setTop (mkF m 124 #[.val (.ref a1), .val (.long q2), .second, .val (.long (f105_u1 q2 v_size_a1 v_width_a1)), .second, .val (.int (v_size_a1 * v_width_a1))] [(.int (v_size_a1 * v_width_a1))])) t
    exact k
  obtain ⟨fs, hr, hrun, hended, hW, hsame⟩ := X62.leave (v := some (.int (v_size_a1 * v_width_a1))) (fun h => by rw [Bd.returns] at h; cases h) Bd.notSynchronized
  refine ⟨_, _, pre0 _ (K1 _ (K3 _ (K4 _ (K6 _ (K7 _ (K9 _ (K10 _ (K12 _ (K13 _ (K15 _ (K16 _ (K18 _ (K19 _ (K21 _ (K22 _ (K24 _ (K29 _ (K31 _ (K32 _ (K34 _ (K35 _ (K37 _ (K42 _ (K44 _ (K46 _ (K47 _ (K49 _ (K51 _ (K52 _ (K54 _ (K55 _ (K57 _ (K58 _ (K60 _ (K61 _ (K63 _ (K64 _ (retI X62 hx Bd.returns (Jvm.hb hby d105_124) hr)))))))))))))))))))))))))))))))))))))), hrun, hended, _, _, rfl, ?_, ⟨_, rfl⟩, hW, hsame.mono (by decide) (by decide)⟩
  show Q105 Z a1 q2 v_size_a1 v_width_a1 v_cells_a1 n_v_cells_a1 f_v_cells_a1 h0 n0 _ T62.heap _
  rw [e62]
  exact ⟨b48_x1, congrArg (fun z => some (Value.int z)) (show (v_size_a1 * v_width_a1) = f105 v_size_a1 v_width_a1 from Eq.symm (rfl)), N62, KP62, sz_b48_x1, gb_b48_x1, F62_0, E62_2, A62_3, F62_4, Fw62⟩
-- body 104: com/example/nestway/nestway/sparql/AnswerTable.add([IJ)V
theorem d104_0 : decode prog_70_method_6_code 0 = .ok (.aload_n 0, 1) := by decide +kernel
theorem d104_1 : decode prog_70_method_6_code 1 = .ok (.lload_n 2, 1) := by decide +kernel
theorem d104_2 : decode prog_70_method_6_code 2 = .ok (.invokevirtual 28, 3) := by decide +kernel
theorem d104_5 : decode prog_70_method_6_code 5 = .ok (.istore 4, 2) := by decide +kernel
theorem d104_7 : decode prog_70_method_6_code 7 = .ok (.lconst 0, 1) := by decide +kernel
theorem d104_8 : decode prog_70_method_6_code 8 = .ok (.lstore 5, 2) := by decide +kernel
theorem d104_10 : decode prog_70_method_6_code 10 = .ok (.lload 5, 2) := by decide +kernel
theorem d104_12 : decode prog_70_method_6_code 12 = .ok (.lload_n 2, 1) := by decide +kernel
theorem d104_13 : decode prog_70_method_6_code 13 = .ok (.lcmp, 1) := by decide +kernel
theorem d104_14 : decode prog_70_method_6_code 14 = .ok (.ifCond .ge 36, 3) := by decide +kernel
theorem d104_17 : decode prog_70_method_6_code 17 = .ok (.aload_n 1, 1) := by decide +kernel
theorem d104_18 : decode prog_70_method_6_code 18 = .ok (.iconst 0, 1) := by decide +kernel
theorem d104_19 : decode prog_70_method_6_code 19 = .ok (.aload_n 0, 1) := by decide +kernel
theorem d104_20 : decode prog_70_method_6_code 20 = .ok (.getfield 15, 3) := by decide +kernel
theorem d104_23 : decode prog_70_method_6_code 23 = .ok (.iload 4, 2) := by decide +kernel
theorem d104_25 : decode prog_70_method_6_code 25 = .ok (.aload_n 0, 1) := by decide +kernel
theorem d104_26 : decode prog_70_method_6_code 26 = .ok (.getfield 9, 3) := by decide +kernel
theorem d104_29 : decode prog_70_method_6_code 29 = .ok (.invokestatic 22, 3) := by decide +kernel
theorem d104_32 : decode prog_70_method_6_code 32 = .ok (.iload 4, 2) := by decide +kernel
theorem d104_34 : decode prog_70_method_6_code 34 = .ok (.aload_n 0, 1) := by decide +kernel
theorem d104_35 : decode prog_70_method_6_code 35 = .ok (.getfield 9, 3) := by decide +kernel
theorem d104_38 : decode prog_70_method_6_code 38 = .ok (.iadd, 1) := by decide +kernel
theorem d104_39 : decode prog_70_method_6_code 39 = .ok (.istore 4, 2) := by decide +kernel
theorem d104_41 : decode prog_70_method_6_code 41 = .ok (.lload 5, 2) := by decide +kernel
theorem d104_43 : decode prog_70_method_6_code 43 = .ok (.lconst 1, 1) := by decide +kernel
theorem d104_44 : decode prog_70_method_6_code 44 = .ok (.ladd, 1) := by decide +kernel
theorem d104_45 : decode prog_70_method_6_code 45 = .ok (.lstore 5, 2) := by decide +kernel
theorem d104_47 : decode prog_70_method_6_code 47 = .ok (.goto (-37), 3) := by decide +kernel
theorem d104_50 : decode prog_70_method_6_code 50 = .ok (.return_, 1) := by decide +kernel
theorem pn_104 : plainName "com/example/nestway/nestway/sparql/AnswerTable" = true := by first | (simp [plainName, overriddenIn]; done) | decide +kernel
theorem ef_104 (m : MethodId) (a1 : Addr) (a2 : Addr) (q3 : Int64) : entryFrame m #[(.ref a1), (.ref a2), (.long q3)] 7 = mkF m 0 #[.val (.ref a1), .val (.ref a2), .val (.long q3), .second, .unset, .unset, .unset] [] := by first | (simp [entryFrame, mkF, argsToLocals, Value.category]; done) | rfl
def f104_u1 (v_width_a1 : Int32) (f_a2 : Int32 → Int32) (i4 : Int32) (g : Int32 → Int32) : Int32 → Int32 := (cpy f_a2 (0 : Int32) g i4 v_width_a1)
def f104_G_g (q3 : Int64) (v_size_a1 : Int32) (v_width_a1 : Int32) (n_v_cells_a1 : Int32) (f_v_cells_a1 : Int32 → Int32) (f_a2 : Int32 → Int32) : Nat → (Int32) → (Int64) → (Int32 → Int32) → Int32 → Int32
  | 0, _, _, g => g
  | k + 1, i4, j5, g => (if (own_cmp j5 q3) < (0 : Int32) then (f104_G_g q3 v_size_a1 v_width_a1 n_v_cells_a1 f_v_cells_a1 f_a2 k (i4 + v_width_a1) (j5 + (1 : Int64)) (f104_u1 v_width_a1 f_a2 i4 g)) else g)
theorem f104_G_g_succ (q3 : Int64) (v_size_a1 : Int32) (v_width_a1 : Int32) (n_v_cells_a1 : Int32) (f_v_cells_a1 : Int32 → Int32) (f_a2 : Int32 → Int32) (k : Nat) (i4 : Int32) (j5 : Int64) (g : Int32 → Int32) : f104_G_g q3 v_size_a1 v_width_a1 n_v_cells_a1 f_v_cells_a1 f_a2 (k + 1) i4 j5 g = (if (own_cmp j5 q3) < (0 : Int32) then (f104_G_g q3 v_size_a1 v_width_a1 n_v_cells_a1 f_v_cells_a1 f_a2 k (i4 + v_width_a1) (j5 + (1 : Int64)) (f104_u1 v_width_a1 f_a2 i4 g)) else g) := rfl
def f104_G_g0 (q3 : Int64) (v_size_a1 : Int32) (v_width_a1 : Int32) (n_v_cells_a1 : Int32) (f_v_cells_a1 : Int32 → Int32) (f_a2 : Int32 → Int32) : Int32 → Int32 := (f104_G_g q3 v_size_a1 v_width_a1 n_v_cells_a1 f_v_cells_a1 f_a2 (17) (f105 v_size_a1 v_width_a1) (0 : Int64) (f10_u1 ((f9 (2147483639 : Int64) (f8 (f105_u1 q3 v_size_a1 v_width_a1) ((2 : Int64) * (n_v_cells_a1.toInt64)))).toInt32) n_v_cells_a1 f_v_cells_a1))
def Q104 (Z : State) (a1 : Addr) (a2 : Addr) (q3 : Int64) (v_size_a1 : Int32) (v_width_a1 : Int32) (v_cells_a1 : Addr) (n_v_cells_a1 : Int32) (f_v_cells_a1 : Int32 → Int32) (n_a2 : Int32) (f_a2 : Int32 → Int32) (h0 : Heap) (n0 : Nat) (v : Option Value) (h : Heap) (L : List Loc) : Prop := ∃ x1 : Addr, v = none ∧ Fr n0 L ∧ Keep h0 h [a1] ∧ h0.size ≤ x1 ∧ n0 ≤ x1 ∧ Fld Z h a1 "com/example/nestway/nestway/sparql/AnswerTable" "width" "I" (.int v_width_a1) ∧ Exa Z h a1 "com/example/nestway/nestway/sparql/AnswerTable" ∧ Ia Z h x1 .int ((f9 (2147483639 : Int64) (f8 (f105_u1 q3 v_size_a1 v_width_a1) ((2 : Int64) * (n_v_cells_a1.toInt64)))).toInt32) (f104_G_g0 q3 v_size_a1 v_width_a1 n_v_cells_a1 f_v_cells_a1 f_a2) ∧ Fld Z h a1 "com/example/nestway/nestway/sparql/AnswerTable" "cells" "[I" (.ref x1) ∧ Fld Z h a1 "com/example/nestway/nestway/sparql/AnswerTable" "size" "I" (.int (v_size_a1 + (q3.toInt32)))
set_option maxRecDepth 65536 in
set_option maxHeartbeats 40000000 in
theorem rm104 (l : Launch) (Z : State) (a0 : Array Value) (hw : ∀ d ∈ tables_1, d.before a0 Z = true) (ws : List Jvm.Cond) (a1 : Addr) (a2 : Addr) (q3 : Int64) (v_size_a1 : Int32) (v_width_a1 : Int32) (v_cells_a1 : Addr) (n_v_cells_a1 : Int32) (f_v_cells_a1 : Int32 → Int32) (n_a2 : Int32) (f_a2 : Int32 → Int32) (h0 : Heap) (n0 : Nat) (Z0 : n0 ≤ h0.size) (hq : ∃ W C S : Nat, v_width_a1 = Int32.ofNat W ∧ q3 = Int64.ofNat C ∧ v_size_a1 = Int32.ofNat S ∧ n_v_cells_a1 = Int32.ofNat (16 * W) ∧ n_a2 = Int32.ofNat W ∧ 1 ≤ W ∧ W ≤ 4 ∧ C ≤ 16 ∧ S ≤ 16 ∧ 16 < S + C) (E_a1 : Exa Z h0 a1 "com/example/nestway/nestway/sparql/AnswerTable") (F_size_a1 : Fld Z h0 a1 "com/example/nestway/nestway/sparql/AnswerTable" "size" "I" (.int v_size_a1)) (F_width_a1 : Fld Z h0 a1 "com/example/nestway/nestway/sparql/AnswerTable" "width" "I" (.int v_width_a1)) (F_cells_a1 : Fld Z h0 a1 "com/example/nestway/nestway/sparql/AnswerTable" "cells" "[I" (.ref v_cells_a1)) (A_v_cells_a1 : Ia Z h0 v_cells_a1 .int n_v_cells_a1 f_v_cells_a1) (g_a1 : n0 ≤ a1) (A_a2 : Ia Z h0 a2 .int n_a2 f_a2) :
    MetFree l (⟨"com/example/nestway/nestway/sparql/AnswerTable", "add", "([IJ)V"⟩ : MethodName) (head1 (Jvm.Cond.code (⟨"com/example/nestway/nestway/sparql/AnswerTable", "add", "([IJ)V"⟩ : MethodName) prog_70_method_6_code 7 none :: ws) ({ frames := 3, cells := 1, slots := 128, locals := 62 } : Room)) (fun a U => a = #[(.ref a1), (.ref a2), (.long q3)] ∧ Z.Warmed39 U.vm ∧ U.heap = h0) (fun _ _ _ _ _ => True) (fun _ U o U' => ∃ v L, o = .returned v ∧ Q104 Z a1 a2 q3 v_size_a1 v_width_a1 v_cells_a1 n_v_cells_a1 f_v_cells_a1 n_a2 f_a2 h0 n0 v U'.heap L ∧ FrameEnd U o U' L ({ frames := 3, cells := 1, slots := 128, locals := 62 } : Room).cells ({ frames := 3, cells := 1, slots := 128, locals := 62 } : Room).slots) := by
  refine MetFree.of_bodySF (plainFor_of_name pn_104) hisR ?_
  intro p e s m args below meth c s₁ Bd hml0 hP hK
  obtain ⟨rfl, hZ, hh⟩ := hP
  have hx := Bd.exec
  have hby := Bd.bytes
  have hml : c.maxLocals = 7 := hml0
  have hown : s.vm.findClass "com/example/nestway/nestway/sparql/AnswerTable" = some m.cls := findClass_of_methodNamed Bd.named
  have hnm := (name_of_methodNamed Bd.named Bd.method).1
  have X0 : Stand p l e ({ frames := 3, cells := 1, slots := 128, locals := 62 } : Room) s m #[(.ref a1), (.ref a2), (.long q3)] below meth c s₁ [] 0 0 := Stand.of_body Bd
  have e0 : s₁.heap = h0 := by rw [← hh, Bd.state]; rfl
  have N0 := Fr.nil n0
  have pre0 : ∀ t, Steps p.tables e below (s₁.setTop (mkF m 0 #[.val (.ref a1), .val (.ref a2), .val (.long q3), .second, .unset, .unset, .unset] [])) t → Steps p.tables e below (s₁.setTop (entryFrame m #[(.ref a1), (.ref a2), (.long q3)] 7)) t := fun t k => castTop (ef_104 m a1 a2 q3) k
  obtain ⟨W, C, S, eW, eC, eS, eN0, eA, b1, b2, b3, b4, b5⟩ := hq
  obtain ⟨N, hN⟩ : ∃ N, N = 32 * W := ⟨_, rfl⟩
  have b6 : N ≤ 200 := by omega
  have eN : (f9 (2147483639 : Int64) (f8 (f105_u1 q3 v_size_a1 v_width_a1) ((2 : Int64) * (n_v_cells_a1.toInt64)))).toInt32 = Int32.ofNat N := by rw [hN, eC, eS, eW, eN0]; exact own_len W C S b2 b3 b4
  have K1 : ∀ t, Steps p.tables e below (s₁.setTop (mkF m 2 #[.val (.ref a1), .val (.ref a2), .val (.long q3), .second, .unset, .unset, .unset] [(.long q3), (.ref a1)])) t → Steps p.tables e below (s₁.setTop (mkF m 0 #[.val (.ref a1), .val (.ref a2), .val (.long q3), .second, .unset, .unset, .unset] [])) t := by
    intro t k
    refine XS.aloadN X0.here hx rfl (Jvm.hb hby d104_0) rfl rfl ?_
    show Steps p.tables e below (s₁.setTop (mkF m 1 #[.val (.ref a1), .val (.ref a2), .val (.long q3), .second, .unset, .unset, .unset] [(.ref a1)])) t
    refine XS.lloadN X0.here hx rfl (Jvm.hb hby d104_1) rfl ?_
    show Steps p.tables e below (s₁.setTop (mkF m 2 #[.val (.ref a1), .val (.ref a2), .val (.long q3), .second, .unset, .unset, .unset] [(.long q3), (.ref a1)])) t
    exact k
  obtain ⟨cq2, q2, q2'⟩ := E_a1.cell
  obtain ⟨_, _, ⟨T2, L2, k2, n2⟩, -, X2, ⟨Lc2, hQ2, l2, y2, z2⟩, st2⟩ := X0.privateBack hx (y := (⟨"com/example/nestway/nestway/sparql/AnswerTable", "room", "(J)I"⟩ : MethodName)) hown (mvT hZ (hw _ (List.mem_of_getElem? (i := 23) rfl))) (mvT hZ (hw _ (List.mem_of_getElem? (i := 24) rfl))) (own_sel (args' := #[]) (x := (⟨"com/example/nestway/nestway/sparql/AnswerTable", "add", "([IJ)V"⟩ : MethodName)) rfl (mvT hZ (hw _ (List.mem_of_getElem? (i := 21) rfl))) (Cond.privateMethod_at (mvP hZ (hw _ (List.mem_of_getElem? (i := 25) rfl)) (args := #[]))) (mvT hZ (hw _ (List.mem_of_getElem? (i := 24) rfl))) (by decide)) (Cond.privateMethod_at (mvP hZ (hw _ (List.mem_of_getElem? (i := 25) rfl)) (args := #[]))) (mvT hZ (hw _ (List.mem_of_getElem? (i := 26) rfl))) (by decide) (backOf (W := 0) (rm105 l Z a0 hw [] a1 q3 v_size_a1 v_width_a1 v_cells_a1 n_v_cells_a1 f_v_cells_a1 h0 n0 Z0 (by rw [eC, eS]; exact own_r1 C S b3 b4) (by rw [eS, eC, eW]; exact own_r2 C S W b3 b4 b2) (by rw [eS, eC, eW, eN0, own_r3 C S W (16 * W) b3 b4 b2 (by omega)]; exact Nat.mul_lt_mul_of_pos_right b5 (by omega)) ⟨W, C, S, eW, eC, eS, eN0, b1, b2, b3, b4⟩ F_size_a1 F_width_a1 F_cells_a1 A_v_cells_a1 E_a1 g_a1) hZ (hw _ (List.mem_of_getElem? (i := 26) rfl)) (hw _ (List.mem_of_getElem? (i := 7) rfl)) (by decide) (by decide)) (g := (mkF m 2 #[.val (.ref a1), .val (.ref a2), .val (.long q3), .second, .unset, .unset, .unset] [(.long q3), (.ref a1)])) rfl (by rw [hml]; rfl) (Steps.refl _) (a := a1) (by rw [e0]; exact q2) q2' (argsL := [(.long q3)]) (rest := []) (lenOf pd_4 rfl) rfl (by show 2 * 0 + _ ≤ _; exact Nat.le_of_eq rfl) (Jvm.hb hby d104_2) (fun _ _ => ⟨rfl, e0, (by decide : 0 + 1 ≤ _), (by decide : 0 + 128 ≤ _)⟩)
  dsimp only [Pt.U, Pt.locs, Pt.cells, Pt.slots] at X2 l2 y2 z2 st2 hQ2
  subst l2 y2 z2
  obtain ⟨h2, e2⟩ : ∃ z, T2.heap = z := ⟨_, rfl⟩
  rw [e2] at hQ2
  obtain ⟨b2_x1, rfl, N2q, Kq2, szq_b2_x1, gb_b2_x1, R2_0, R2_1, R2_2, R2_3, R2_4⟩ := hQ2
  have N2 := Fr.app N0 N2q
  have KP2 : Keep h0 h2 [a1] := (Keep.refl h0 [a1]).trans Kq2 (allS (Or.inl (List.mem_of_getElem? (i := 0) rfl)) all0)
  have A2_0 : Ia Z h2 v_cells_a1 .int n_v_cells_a1 f_v_cells_a1 := A_v_cells_a1.keep Kq2 (ninS (Ne.symm (own_nea E_a1 (hw _ (List.mem_of_getElem? (i := 6) rfl)) A_v_cells_a1)) nin0)
  have A2_1 : Ia Z h2 a2 .int n_a2 f_a2 := A_a2.keep Kq2 (ninS (Ne.symm (own_nea E_a1 (hw _ (List.mem_of_getElem? (i := 6) rfl)) A_a2)) nin0)
  have ne2_x1_0 : a1 ≠ b2_x1 := Nat.ne_of_lt (Nat.lt_of_lt_of_le E_a1.lt szq_b2_x1)
  have ne2_x1_2 : v_cells_a1 ≠ b2_x1 := Nat.ne_of_lt (Nat.lt_of_lt_of_le A_v_cells_a1.lt szq_b2_x1)
  have ne2_x1_4 : a2 ≠ b2_x1 := Nat.ne_of_lt (Nat.lt_of_lt_of_le A_a2.lt szq_b2_x1)
  have sz_b2_x1 : h0.size ≤ b2_x1 := Nat.le_trans (Keep.refl h0 [a1]).1 szq_b2_x1
  have K3 : ∀ t, Steps p.tables e below (T2.setTop (mkF m 5 #[.val (.ref a1), .val (.ref a2), .val (.long q3), .second, .unset, .unset, .unset] [(.int (f105 v_size_a1 v_width_a1))])) t → Steps p.tables e below (s₁.setTop (mkF m 2 #[.val (.ref a1), .val (.ref a2), .val (.long q3), .second, .unset, .unset, .unset] [(.long q3), (.ref a1)])) t := fun t k => st2.trans k
  have K4 : ∀ t, Steps p.tables e below (T2.setTop (mkF m 10 #[.val (.ref a1), .val (.ref a2), .val (.long q3), .second, .val (.int (f105 v_size_a1 v_width_a1)), .val (.long (0 : Int64)), .second] [])) t → Steps p.tables e below (T2.setTop (mkF m 5 #[.val (.ref a1), .val (.ref a2), .val (.long q3), .second, .unset, .unset, .unset] [(.int (f105 v_size_a1 v_width_a1))])) t := by
    intro t k
    refine XS.istore X2.here hx rfl (Jvm.hb hby d104_5) rfl (l' := #[.val (.ref a1), .val (.ref a2), .val (.long q3), .second, .val (.int (f105 v_size_a1 v_width_a1)), .unset, .unset]) rfl ?_
    show Steps p.tables e below (T2.setTop (mkF m 7 #[.val (.ref a1), .val (.ref a2), .val (.long q3), .second, .val (.int (f105 v_size_a1 v_width_a1)), .unset, .unset] [])) t
    refine XS.lconst X2.here hx rfl (Jvm.hb hby d104_7) ?_
    show Steps p.tables e below (T2.setTop (mkF m 8 #[.val (.ref a1), .val (.ref a2), .val (.long q3), .second, .val (.int (f105 v_size_a1 v_width_a1)), .unset, .unset] [(.long (0 : Int64))])) t
    refine XS.lstore X2.here hx rfl (Jvm.hb hby d104_8) rfl (l' := #[.val (.ref a1), .val (.ref a2), .val (.long q3), .second, .val (.int (f105 v_size_a1 v_width_a1)), .val (.long (0 : Int64)), .second]) rfl ?_
    show Steps p.tables e below (T2.setTop (mkF m 10 #[.val (.ref a1), .val (.ref a2), .val (.long q3), .second, .val (.int (f105 v_size_a1 v_width_a1)), .val (.long (0 : Int64)), .second] [])) t
    exact k
  have LP : ∀ (k : Nat) (i4 : Int32) (j5 : Int64) (g : Int32 → Int32) (TL : State) (hL : Heap) (LL : List Loc), Stand p l e ({ frames := 3, cells := 1, slots := 128, locals := 62 } : Room) s m #[(.ref a1), (.ref a2), (.long q3)] below meth c TL LL 1 128 → TL.heap = hL → Fr n0 LL → Keep h0 hL [a1] → Ia Z hL v_cells_a1 .int n_v_cells_a1 f_v_cells_a1 → Ia Z hL a2 .int n_a2 f_a2 → Fld Z hL a1 "com/example/nestway/nestway/sparql/AnswerTable" "width" "I" (.int v_width_a1) → Exa Z hL a1 "com/example/nestway/nestway/sparql/AnswerTable" → Ia Z hL b2_x1 .int ((f9 (2147483639 : Int64) (f8 (f105_u1 q3 v_size_a1 v_width_a1) ((2 : Int64) * (n_v_cells_a1.toInt64)))).toInt32) g → Fld Z hL a1 "com/example/nestway/nestway/sparql/AnswerTable" "cells" "[I" (.ref b2_x1) → Fld Z hL a1 "com/example/nestway/nestway/sparql/AnswerTable" "size" "I" (.int (v_size_a1 + (q3.toInt32))) → (∃ I J : Nat, i4 = Int32.ofNat I ∧ j5 = Int64.ofNat J ∧ J ≤ C ∧ C < J + k ∧ I + (C - J) * W ≤ N) → ∃ s₂ o, Steps p.tables e below (TL.setTop (mkF m 10 #[.val (.ref a1), .val (.ref a2), .val (.long q3), .second, .val (.int i4), .val (.long j5), .second] [])) s₂ ∧ s₂.status = .running ∧ Ended s₂ below o ∧ ∃ v L, o = .returned v ∧ (v = none ∧ Fr n0 L ∧ Keep h0 s₂.heap [a1] ∧ Fld Z s₂.heap a1 "com/example/nestway/nestway/sparql/AnswerTable" "width" "I" (.int v_width_a1) ∧ Exa Z s₂.heap a1 "com/example/nestway/nestway/sparql/AnswerTable" ∧ Ia Z s₂.heap b2_x1 .int ((f9 (2147483639 : Int64) (f8 (f105_u1 q3 v_size_a1 v_width_a1) ((2 : Int64) * (n_v_cells_a1.toInt64)))).toInt32) (f104_G_g q3 v_size_a1 v_width_a1 n_v_cells_a1 f_v_cells_a1 f_a2 k i4 j5 g) ∧ Fld Z s₂.heap a1 "com/example/nestway/nestway/sparql/AnswerTable" "cells" "[I" (.ref b2_x1) ∧ Fld Z s₂.heap a1 "com/example/nestway/nestway/sparql/AnswerTable" "size" "I" (.int (v_size_a1 + (q3.toInt32)))) ∧ FrameEnd s o s₂ L ({ frames := 3, cells := 1, slots := 128, locals := 62 } : Room).cells ({ frames := 3, cells := 1, slots := 128, locals := 62 } : Room).slots := by
    intro k
    induction k with
    | zero =>
      intro i4 j5 g TL hL LL XL eL NL KL hL_0 hL_1 hL_2 hL_3 hL_4 hL_5 hL_6 hv
      exfalso
      obtain ⟨I, J, -, -, h1, h2, -⟩ := hv
      omega
    | succ k ih =>
      intro i4 j5 g TL hL LL XL eL NL KL hL_0 hL_1 hL_2 hL_3 hL_4 hL_5 hL_6 hv
      have K501 : ∀ t, Steps p.tables e below (TL.setTop (mkF m 14 #[.val (.ref a1), .val (.ref a2), .val (.long q3), .second, .val (.int i4), .val (.long j5), .second] [(.int (own_cmp j5 q3))])) t → Steps p.tables e below (TL.setTop (mkF m 10 #[.val (.ref a1), .val (.ref a2), .val (.long q3), .second, .val (.int i4), .val (.long j5), .second] [])) t := by
        intro t k
        refine XS.lload XL.here hx rfl (Jvm.hb hby d104_10) rfl ?_
        show Steps p.tables e below (TL.setTop (mkF m 12 #[.val (.ref a1), .val (.ref a2), .val (.long q3), .second, .val (.int i4), .val (.long j5), .second] [(.long j5)])) t
        refine XS.lloadN XL.here hx rfl (Jvm.hb hby d104_12) rfl ?_
        show Steps p.tables e below (TL.setTop (mkF m 13 #[.val (.ref a1), .val (.ref a2), .val (.long q3), .second, .val (.int i4), .val (.long j5), .second] [(.long q3), (.long j5)])) t
        refine XS.lcmp XL.here hx rfl (Jvm.hb hby d104_13) rfl ?_
        show Steps p.tables e below (TL.setTop (mkF m 14 #[.val (.ref a1), .val (.ref a2), .val (.long q3), .second, .val (.int i4), .val (.long j5), .second] [(.int (own_cmp j5 q3))])) t
        exact k
      by_cases hc502 : (own_cmp j5 q3) < (0 : Int32)
      · have K503 : ∀ t, Steps p.tables e below (TL.setTop (mkF m 17 #[.val (.ref a1), .val (.ref a2), .val (.long q3), .second, .val (.int i4), .val (.long j5), .second] [])) t → Steps p.tables e below (TL.setTop (mkF m 14 #[.val (.ref a1), .val (.ref a2), .val (.long q3), .second, .val (.int i4), .val (.long j5), .second] [(.int (own_cmp j5 q3))])) t := by
          intro t k
          refine XS.ifNo XL.here hx rfl (Jvm.hb hby d104_14) rfl ((if0 _ _).trans (tlt hc502).2.1) ?_
          exact k
        have K504 : ∀ t, Steps p.tables e below (TL.setTop (mkF m 20 #[.val (.ref a1), .val (.ref a2), .val (.long q3), .second, .val (.int i4), .val (.long j5), .second] [(.ref a1), (.int (0 : Int32)), (.ref a2)])) t → Steps p.tables e below (TL.setTop (mkF m 17 #[.val (.ref a1), .val (.ref a2), .val (.long q3), .second, .val (.int i4), .val (.long j5), .second] [])) t := by
          intro t k
          refine XS.aloadN XL.here hx rfl (Jvm.hb hby d104_17) rfl rfl ?_
          show Steps p.tables e below (TL.setTop (mkF m 18 #[.val (.ref a1), .val (.ref a2), .val (.long q3), .second, .val (.int i4), .val (.long j5), .second] [(.ref a2)])) t
          refine XS.iconst XL.here hx rfl (Jvm.hb hby d104_18) ?_
          show Steps p.tables e below (TL.setTop (mkF m 19 #[.val (.ref a1), .val (.ref a2), .val (.long q3), .second, .val (.int i4), .val (.long j5), .second] [(.int (0 : Int32)), (.ref a2)])) t
          refine XS.aloadN XL.here hx rfl (Jvm.hb hby d104_19) rfl rfl ?_
          show Steps p.tables e below (TL.setTop (mkF m 20 #[.val (.ref a1), .val (.ref a2), .val (.long q3), .second, .val (.int i4), .val (.long j5), .second] [(.ref a1), (.int (0 : Int32)), (.ref a2)])) t
          exact k
        obtain ⟨T505, X505, e505, st505⟩ := getF XL hx hZ hown (host := "") (Or.inl (hw _ (List.mem_of_getElem? (i := 16) rfl))) Via.refl eL hL_5 (g := (mkF m 20 #[.val (.ref a1), .val (.ref a2), .val (.long q3), .second, .val (.int i4), .val (.long j5), .second] [(.ref a1), (.int (0 : Int32)), (.ref a2)])) rfl rfl (Jvm.hb hby d104_20)
        have K506 : ∀ t, Steps p.tables e below (T505.setTop (mkF m 23 #[.val (.ref a1), .val (.ref a2), .val (.long q3), .second, .val (.int i4), .val (.long j5), .second] [(.ref b2_x1), (.int (0 : Int32)), (.ref a2)])) t → Steps p.tables e below (TL.setTop (mkF m 20 #[.val (.ref a1), .val (.ref a2), .val (.long q3), .second, .val (.int i4), .val (.long j5), .second] [(.ref a1), (.int (0 : Int32)), (.ref a2)])) t := fun t k => st505 _ k
        have K507 : ∀ t, Steps p.tables e below (T505.setTop (mkF m 26 #[.val (.ref a1), .val (.ref a2), .val (.long q3), .second, .val (.int i4), .val (.long j5), .second] [(.ref a1), (.int i4), (.ref b2_x1), (.int (0 : Int32)), (.ref a2)])) t → Steps p.tables e below (T505.setTop (mkF m 23 #[.val (.ref a1), .val (.ref a2), .val (.long q3), .second, .val (.int i4), .val (.long j5), .second] [(.ref b2_x1), (.int (0 : Int32)), (.ref a2)])) t := by
          intro t k
          refine XS.iload X505.here hx rfl (Jvm.hb hby d104_23) rfl ?_
          show Steps p.tables e below (T505.setTop (mkF m 25 #[.val (.ref a1), .val (.ref a2), .val (.long q3), .second, .val (.int i4), .val (.long j5), .second] [(.int i4), (.ref b2_x1), (.int (0 : Int32)), (.ref a2)])) t
          refine XS.aloadN X505.here hx rfl (Jvm.hb hby d104_25) rfl rfl ?_
          show Steps p.tables e below (T505.setTop (mkF m 26 #[.val (.ref a1), .val (.ref a2), .val (.long q3), .second, .val (.int i4), .val (.long j5), .second] [(.ref a1), (.int i4), (.ref b2_x1), (.int (0 : Int32)), (.ref a2)])) t
          exact k
        obtain ⟨T508, X508, e508, st508⟩ := getF X505 hx hZ hown (host := "") (Or.inl (hw _ (List.mem_of_getElem? (i := 14) rfl))) Via.refl e505 hL_2 (g := (mkF m 26 #[.val (.ref a1), .val (.ref a2), .val (.long q3), .second, .val (.int i4), .val (.long j5), .second] [(.ref a1), (.int i4), (.ref b2_x1), (.int (0 : Int32)), (.ref a2)])) rfl rfl (Jvm.hb hby d104_26)
        have K509 : ∀ t, Steps p.tables e below (T508.setTop (mkF m 29 #[.val (.ref a1), .val (.ref a2), .val (.long q3), .second, .val (.int i4), .val (.long j5), .second] [(.int v_width_a1), (.int i4), (.ref b2_x1), (.int (0 : Int32)), (.ref a2)])) t → Steps p.tables e below (T505.setTop (mkF m 26 #[.val (.ref a1), .val (.ref a2), .val (.long q3), .second, .val (.int i4), .val (.long j5), .second] [(.ref a1), (.int i4), (.ref b2_x1), (.int (0 : Int32)), (.ref a2)])) t := fun t k => st508 _ k
        obtain ⟨T510, h510, L510, X510, e510, N510, Kq510, Ac510, st510⟩ := own_cp X508 hx hZ hown (hw _ (List.mem_of_getElem? (i := 31) rfl)) (hw _ (List.mem_of_getElem? (i := 34) rfl)) (hw _ (List.mem_of_getElem? (i := 32) rfl)) (hw _ (List.mem_of_getElem? (i := 33) rfl)) e508 hL_1 hL_4 (by decide) (by obtain ⟨I, J, rfl, rfl, h1, h2, h3⟩ := hv; exact own_nn I (by omega)) (by rw [eW]; exact own_nn W (by omega)) (by rw [eW, eA]; exact own_c4 W b2) (by obtain ⟨I, J, rfl, rfl, h1, h2, h3⟩ := hv; have hlt := (own_jlt J C (by omega) (by omega) (by rw [← eC]; assumption)); obtain ⟨g1, g2⟩ := own_rest I J C W N hlt h3; rw [eN, eW]; exact own_c5 I W N g1 b6) NL gb_b2_x1 (g := (mkF m 29 #[.val (.ref a1), .val (.ref a2), .val (.long q3), .second, .val (.int i4), .val (.long j5), .second] [(.int v_width_a1), (.int i4), (.ref b2_x1), (.int (0 : Int32)), (.ref a2)])) rfl (by rw [hml]; rfl) (rest := []) rfl (Jvm.hb hby d104_29) (by decide) (W := 0) (by show 2 * 0 + _ ≤ _; exact Nat.le_of_eq rfl) (by decide)
        have KP510 : Keep h0 h510 [a1] := KL.trans Kq510 (allS (Or.inr sz_b2_x1) all0)
        have A510_0 : Ia Z h510 v_cells_a1 .int n_v_cells_a1 f_v_cells_a1 := hL_0.keep Kq510 (ninS ne2_x1_2 nin0)
        have A510_1 : Ia Z h510 a2 .int n_a2 f_a2 := hL_1.keep Kq510 (ninS ne2_x1_4 nin0)
        have F510_2 : Fld Z h510 a1 "com/example/nestway/nestway/sparql/AnswerTable" "width" "I" (.int v_width_a1) := hL_2.keep Kq510 (ninS ne2_x1_0 nin0)
        have E510_3 : Exa Z h510 a1 "com/example/nestway/nestway/sparql/AnswerTable" := hL_3.keep Kq510
        have F510_4 : Fld Z h510 a1 "com/example/nestway/nestway/sparql/AnswerTable" "cells" "[I" (.ref b2_x1) := hL_5.keep Kq510 (ninS ne2_x1_0 nin0)
        have F510_5 : Fld Z h510 a1 "com/example/nestway/nestway/sparql/AnswerTable" "size" "I" (.int (v_size_a1 + (q3.toInt32))) := hL_6.keep Kq510 (ninS ne2_x1_0 nin0)
        have Aw510 : Ia Z h510 b2_x1 .int ((f9 (2147483639 : Int64) (f8 (f105_u1 q3 v_size_a1 v_width_a1) ((2 : Int64) * (n_v_cells_a1.toInt64)))).toInt32) (f104_u1 v_width_a1 f_a2 i4 g) := Ac510
        have K511 : ∀ t, Steps p.tables e below (T510.setTop (mkF m 32 #[.val (.ref a1), .val (.ref a2), .val (.long q3), .second, .val (.int i4), .val (.long j5), .second] [])) t → Steps p.tables e below (T508.setTop (mkF m 29 #[.val (.ref a1), .val (.ref a2), .val (.long q3), .second, .val (.int i4), .val (.long j5), .second] [(.int v_width_a1), (.int i4), (.ref b2_x1), (.int (0 : Int32)), (.ref a2)])) t := fun t k => st510 _ k
        have K512 : ∀ t, Steps p.tables e below (T510.setTop (mkF m 35 #[.val (.ref a1), .val (.ref a2), .val (.long q3), .second, .val (.int i4), .val (.long j5), .second] [(.ref a1), (.int i4)])) t → Steps p.tables e below (T510.setTop (mkF m 32 #[.val (.ref a1), .val (.ref a2), .val (.long q3), .second, .val (.int i4), .val (.long j5), .second] [])) t := by
          intro t k
          refine XS.iload X510.here hx rfl (Jvm.hb hby d104_32) rfl ?_
          show Steps p.tables e below (T510.setTop (mkF m 34 #[.val (.ref a1), .val (.ref a2), .val (.long q3), .second, .val (.int i4), .val (.long j5), .second] [(.int i4)])) t
          refine XS.aloadN X510.here hx rfl (Jvm.hb hby d104_34) rfl rfl ?_
          show Steps p.tables e below (T510.setTop (mkF m 35 #[.val (.ref a1), .val (.ref a2), .val (.long q3), .second, .val (.int i4), .val (.long j5), .second] [(.ref a1), (.int i4)])) t
          exact k
        obtain ⟨T513, X513, e513, st513⟩ := getF X510 hx hZ hown (host := "") (Or.inl (hw _ (List.mem_of_getElem? (i := 14) rfl))) Via.refl e510 F510_2 (g := (mkF m 35 #[.val (.ref a1), .val (.ref a2), .val (.long q3), .second, .val (.int i4), .val (.long j5), .second] [(.ref a1), (.int i4)])) rfl rfl (Jvm.hb hby d104_35)
        have K514 : ∀ t, Steps p.tables e below (T513.setTop (mkF m 38 #[.val (.ref a1), .val (.ref a2), .val (.long q3), .second, .val (.int i4), .val (.long j5), .second] [(.int v_width_a1), (.int i4)])) t → Steps p.tables e below (T510.setTop (mkF m 35 #[.val (.ref a1), .val (.ref a2), .val (.long q3), .second, .val (.int i4), .val (.long j5), .second] [(.ref a1), (.int i4)])) t := fun t k => st513 _ k
        have K515 : ∀ t, Steps p.tables e below (T513.setTop (mkF m 10 #[.val (.ref a1), .val (.ref a2), .val (.long q3), .second, .val (.int (i4 + v_width_a1)), .val (.long (j5 + (1 : Int64))), .second] [])) t → Steps p.tables e below (T513.setTop (mkF m 38 #[.val (.ref a1), .val (.ref a2), .val (.long q3), .second, .val (.int i4), .val (.long j5), .second] [(.int v_width_a1), (.int i4)])) t := by
          intro t k
          refine XS.iadd X513.here hx rfl (Jvm.hb hby d104_38) rfl ?_
          show Steps p.tables e below (T513.setTop (mkF m 39 #[.val (.ref a1), .val (.ref a2), .val (.long q3), .second, .val (.int i4), .val (.long j5), .second] [(.int (i4 + v_width_a1))])) t
          refine XS.istore X513.here hx rfl (Jvm.hb hby d104_39) rfl (l' := #[.val (.ref a1), .val (.ref a2), .val (.long q3), .second, .val (.int (i4 + v_width_a1)), .val (.long j5), .second]) rfl ?_
          show Steps p.tables e below (T513.setTop (mkF m 41 #[.val (.ref a1), .val (.ref a2), .val (.long q3), .second, .val (.int (i4 + v_width_a1)), .val (.long j5), .second] [])) t
          refine XS.lload X513.here hx rfl (Jvm.hb hby d104_41) rfl ?_
          show Steps p.tables e below (T513.setTop (mkF m 43 #[.val (.ref a1), .val (.ref a2), .val (.long q3), .second, .val (.int (i4 + v_width_a1)), .val (.long j5), .second] [(.long j5)])) t
          refine XS.lconst X513.here hx rfl (Jvm.hb hby d104_43) ?_
          show Steps p.tables e below (T513.setTop (mkF m 44 #[.val (.ref a1), .val (.ref a2), .val (.long q3), .second, .val (.int (i4 + v_width_a1)), .val (.long j5), .second] [(.long (1 : Int64)), (.long j5)])) t
          refine XS.ladd X513.here hx rfl (Jvm.hb hby d104_44) rfl ?_
          show Steps p.tables e below (T513.setTop (mkF m 45 #[.val (.ref a1), .val (.ref a2), .val (.long q3), .second, .val (.int (i4 + v_width_a1)), .val (.long j5), .second] [(.long (j5 + (1 : Int64)))])) t
          refine XS.lstore X513.here hx rfl (Jvm.hb hby d104_45) rfl (l' := #[.val (.ref a1), .val (.ref a2), .val (.long q3), .second, .val (.int (i4 + v_width_a1)), .val (.long (j5 + (1 : Int64))), .second]) rfl ?_
          show Steps p.tables e below (T513.setTop (mkF m 47 #[.val (.ref a1), .val (.ref a2), .val (.long q3), .second, .val (.int (i4 + v_width_a1)), .val (.long (j5 + (1 : Int64))), .second] [])) t
          refine XS.goto X513.here hx rfl (pc0 := 47) (pc' := 10) rfl (Jvm.hb hby d104_47) (by decide) (by decide) ?_
          show Steps p.tables e below (T513.setTop (mkF m 10 #[.val (.ref a1), .val (.ref a2), .val (.long q3), .second, .val (.int (i4 + v_width_a1)), .val (.long (j5 + (1 : Int64))), .second] [])) t
          exact k
        obtain ⟨s₂, o, hs, zq1, zq2, v, L, zq3, zq4, zq7⟩ := ih (i4 + v_width_a1) (j5 + (1 : Int64)) (f104_u1 v_width_a1 f_a2 i4 g) T513 _ _ X513 e513 N510 KP510 A510_0 A510_1 F510_2 E510_3 Aw510 F510_4 F510_5 (by obtain ⟨I, J, rfl, rfl, h1, h2, h3⟩ := hv; have hlt := (own_jlt J C (by omega) (by omega) (by rw [← eC]; assumption)); obtain ⟨g1, g2⟩ := own_rest I J C W N hlt h3; exact ⟨I + W, J + 1, by rw [eW]; exact (Int32.ofNat_add I W).symm, own_addL J 1, by omega, by omega, g2⟩)
        exact ⟨s₂, o, K501 _ (K503 _ (K504 _ (K506 _ (K507 _ (K509 _ (K511 _ (K512 _ (K514 _ (K515 _ (hs)))))))))), zq1, zq2, v, L, zq3, ⟨zq4.1, zq4.2.1, zq4.2.2.1, zq4.2.2.2.1, zq4.2.2.2.2.1, (by rw [show f104_G_g q3 v_size_a1 v_width_a1 n_v_cells_a1 f_v_cells_a1 f_a2 (k + 1) i4 j5 g = (f104_G_g q3 v_size_a1 v_width_a1 n_v_cells_a1 f_v_cells_a1 f_a2 k (i4 + v_width_a1) (j5 + (1 : Int64)) (f104_u1 v_width_a1 f_a2 i4 g)) from (f104_G_g_succ q3 v_size_a1 v_width_a1 n_v_cells_a1 f_v_cells_a1 f_a2 k i4 j5 g).trans (if_pos hc502)]; exact zq4.2.2.2.2.2.1), zq4.2.2.2.2.2.2.1, zq4.2.2.2.2.2.2.2⟩, zq7⟩
      · have K516 : ∀ t, Steps p.tables e below (TL.setTop (mkF m 50 #[.val (.ref a1), .val (.ref a2), .val (.long q3), .second, .val (.int i4), .val (.long j5), .second] [])) t → Steps p.tables e below (TL.setTop (mkF m 14 #[.val (.ref a1), .val (.ref a2), .val (.long q3), .second, .val (.int i4), .val (.long j5), .second] [(.int (own_cmp j5 q3))])) t := by
          intro t k
          refine XS.ifYes XL.here hx rfl (pc0 := 14) (pc' := 50) rfl (Jvm.hb hby d104_14) rfl ((if0 _ _).trans (flt hc502).2.1) (by decide) (by decide) ?_
          exact k
        obtain ⟨fs, hr, hrun, hended, hW, hsame⟩ := XL.leave (v := none) (fun _ => rfl) Bd.notSynchronized
        refine ⟨_, _, (K501 _ (K516 _ (XL.returnOut hx Bd.returns (Jvm.hb hby d104_50) hr))), hrun, hended, _, _, rfl, ?_, ⟨_, rfl⟩, hW, hsame.mono (by decide) (by decide)⟩
        show ((_ : Option Value) = none ∧ Fr n0 _ ∧ Keep h0 TL.heap [a1] ∧ Fld Z TL.heap a1 "com/example/nestway/nestway/sparql/AnswerTable" "width" "I" (.int v_width_a1) ∧ Exa Z TL.heap a1 "com/example/nestway/nestway/sparql/AnswerTable" ∧ Ia Z TL.heap b2_x1 .int ((f9 (2147483639 : Int64) (f8 (f105_u1 q3 v_size_a1 v_width_a1) ((2 : Int64) * (n_v_cells_a1.toInt64)))).toInt32) (f104_G_g q3 v_size_a1 v_width_a1 n_v_cells_a1 f_v_cells_a1 f_a2 (k + 1) i4 j5 g) ∧ Fld Z TL.heap a1 "com/example/nestway/nestway/sparql/AnswerTable" "cells" "[I" (.ref b2_x1) ∧ Fld Z TL.heap a1 "com/example/nestway/nestway/sparql/AnswerTable" "size" "I" (.int (v_size_a1 + (q3.toInt32))))
        rw [eL]
        exact ⟨rfl, NL, KL, hL_2, hL_3, (by rw [show f104_G_g q3 v_size_a1 v_width_a1 n_v_cells_a1 f_v_cells_a1 f_a2 (k + 1) i4 j5 g = g from (f104_G_g_succ q3 v_size_a1 v_width_a1 n_v_cells_a1 f_v_cells_a1 f_a2 k i4 j5 g).trans (if_neg hc502)]; exact hL_4), hL_5, hL_6⟩
  obtain ⟨s₂, o, hs, zq1, zq2, v, L, zq3, zq4, zq7⟩ := LP (17) (f105 v_size_a1 v_width_a1) (0 : Int64) (f10_u1 ((f9 (2147483639 : Int64) (f8 (f105_u1 q3 v_size_a1 v_width_a1) ((2 : Int64) * (n_v_cells_a1.toInt64)))).toInt32) n_v_cells_a1 f_v_cells_a1) T2 _ _ X2 e2 N2 KP2 A2_0 A2_1 R2_0 R2_1 R2_2 R2_3 R2_4 ⟨S * W, 0, by rw [eS, eW]; exact own_mul S W (Nat.lt_of_le_of_lt (own_mb S W (by omega) b2) (by decide)) (by omega) (by omega), rfl, by omega, by omega, by rw [Nat.sub_zero, ← Nat.add_mul, hN]; exact Nat.mul_le_mul (by omega) (Nat.le_refl W)⟩
  exact ⟨s₂, o, pre0 _ (K1 _ (K3 _ (K4 _ (hs)))), zq1, zq2, v, L, zq3, ⟨b2_x1, zq4.1, zq4.2.1, zq4.2.2.1, sz_b2_x1, gb_b2_x1, zq4.2.2.2.1, zq4.2.2.2.2.1, (by rw [show f104_G_g0 q3 v_size_a1 v_width_a1 n_v_cells_a1 f_v_cells_a1 f_a2 = (f104_G_g q3 v_size_a1 v_width_a1 n_v_cells_a1 f_v_cells_a1 f_a2 (17) (f105 v_size_a1 v_width_a1) (0 : Int64) (f10_u1 ((f9 (2147483639 : Int64) (f8 (f105_u1 q3 v_size_a1 v_width_a1) ((2 : Int64) * (n_v_cells_a1.toInt64)))).toInt32) n_v_cells_a1 f_v_cells_a1)) from rfl]; exact zq4.2.2.2.2.2.1), zq4.2.2.2.2.2.2.1, zq4.2.2.2.2.2.2.2⟩, zq7⟩
-- body 6: com/example/nestway/nestway/sparql/AnswerTableGetPinLaw.val(IIIII)I
theorem d6_0 : decode method_2_code 0 = .ok (.iload_n 0, 1) := by decide +kernel
theorem d6_1 : decode method_2_code 1 = .ok (.ifCond .ne 5, 3) := by decide +kernel
theorem d6_4 : decode method_2_code 4 = .ok (.iload_n 1, 1) := by decide +kernel
theorem d6_5 : decode method_2_code 5 = .ok (.ireturn, 1) := by decide +kernel
theorem d6_6 : decode method_2_code 6 = .ok (.iload_n 0, 1) := by decide +kernel
theorem d6_7 : decode method_2_code 7 = .ok (.iconst 1, 1) := by decide +kernel
theorem d6_8 : decode method_2_code 8 = .ok (.if_icmp .ne 5, 3) := by decide +kernel
theorem d6_11 : decode method_2_code 11 = .ok (.iload_n 2, 1) := by decide +kernel
theorem d6_12 : decode method_2_code 12 = .ok (.ireturn, 1) := by decide +kernel
theorem d6_13 : decode method_2_code 13 = .ok (.iload_n 0, 1) := by decide +kernel
theorem d6_14 : decode method_2_code 14 = .ok (.iconst 2, 1) := by decide +kernel
theorem d6_15 : decode method_2_code 15 = .ok (.if_icmp .ne 5, 3) := by decide +kernel
theorem d6_18 : decode method_2_code 18 = .ok (.iload_n 3, 1) := by decide +kernel
theorem d6_19 : decode method_2_code 19 = .ok (.ireturn, 1) := by decide +kernel
theorem d6_20 : decode method_2_code 20 = .ok (.iload 4, 2) := by decide +kernel
theorem d6_22 : decode method_2_code 22 = .ok (.ireturn, 1) := by decide +kernel
theorem pn_6 : plainName "com/example/nestway/nestway/sparql/AnswerTableGetPinLaw" = true := by first | (simp [plainName, overriddenIn]; done) | decide +kernel
theorem ef_6 (m : MethodId) (p1 : Int32) (p2 : Int32) (p3 : Int32) (p4 : Int32) (p5 : Int32) : entryFrame m #[(.int p1), (.int p2), (.int p3), (.int p4), (.int p5)] 5 = mkF m 0 #[.val (.int p1), .val (.int p2), .val (.int p3), .val (.int p4), .val (.int p5)] [] := by first | (simp [entryFrame, mkF, argsToLocals, Value.category]; done) | rfl
def f6 (p1 : Int32) (p2 : Int32) (p3 : Int32) (p4 : Int32) (p5 : Int32) : Int32 := (if p1 = (0 : Int32) then p2 else (if p1 = (1 : Int32) then p3 else (if p1 = (2 : Int32) then p4 else p5)))
def Q6 (Z : State) (p1 : Int32) (p2 : Int32) (p3 : Int32) (p4 : Int32) (p5 : Int32) (h0 : Heap) (n0 : Nat) (v : Option Value) (h : Heap) (L : List Loc) : Prop := v = some (.int (f6 p1 p2 p3 p4 p5)) ∧ Fr n0 L ∧ h = h0
set_option maxRecDepth 65536 in
set_option maxHeartbeats 40000000 in
theorem rm6 (l : Launch) (Z : State) (a0 : Array Value) (hw : ∀ d ∈ tables_1, d.before a0 Z = true) (ws : List Jvm.Cond) (p1 : Int32) (p2 : Int32) (p3 : Int32) (p4 : Int32) (p5 : Int32) (h0 : Heap) (n0 : Nat) (Z0 : n0 ≤ h0.size) :
    MetFree l (⟨"com/example/nestway/nestway/sparql/AnswerTableGetPinLaw", "val", "(IIIII)I"⟩ : MethodName) (head1 (Jvm.Cond.code (⟨"com/example/nestway/nestway/sparql/AnswerTableGetPinLaw", "val", "(IIIII)I"⟩ : MethodName) method_2_code 5 (some .int) :: ws) ({ frames := 0, cells := 0, slots := 0, locals := 0 } : Room)) (fun a U => a = #[(.int p1), (.int p2), (.int p3), (.int p4), (.int p5)] ∧ Z.Warmed39 U.vm ∧ U.heap = h0) (fun _ _ _ _ _ => True) (fun _ U o U' => ∃ v L, o = .returned v ∧ Q6 Z p1 p2 p3 p4 p5 h0 n0 v U'.heap L ∧ FrameEnd U o U' L ({ frames := 0, cells := 0, slots := 0, locals := 0 } : Room).cells ({ frames := 0, cells := 0, slots := 0, locals := 0 } : Room).slots) := by
  refine MetFree.of_bodySF (plainFor_of_name pn_6) hisR ?_
  intro p e s m args below meth c s₁ Bd hml0 hP hK
  obtain ⟨rfl, hZ, hh⟩ := hP
  have hx := Bd.exec
  have hby := Bd.bytes
  have hml : c.maxLocals = 5 := hml0
  have hown : s.vm.findClass "com/example/nestway/nestway/sparql/AnswerTableGetPinLaw" = some m.cls := findClass_of_methodNamed Bd.named
  have hnm := (name_of_methodNamed Bd.named Bd.method).1
  have X0 : Stand p l e ({ frames := 0, cells := 0, slots := 0, locals := 0 } : Room) s m #[(.int p1), (.int p2), (.int p3), (.int p4), (.int p5)] below meth c s₁ [] 0 0 := Stand.of_body Bd
  have e0 : s₁.heap = h0 := by rw [← hh, Bd.state]; rfl
  have N0 := Fr.nil n0
  have pre0 : ∀ t, Steps p.tables e below (s₁.setTop (mkF m 0 #[.val (.int p1), .val (.int p2), .val (.int p3), .val (.int p4), .val (.int p5)] [])) t → Steps p.tables e below (s₁.setTop (entryFrame m #[(.int p1), (.int p2), (.int p3), (.int p4), (.int p5)] 5)) t := fun t k => castTop (ef_6 m p1 p2 p3 p4 p5) k
  have K1 : ∀ t, Steps p.tables e below (s₁.setTop (mkF m 1 #[.val (.int p1), .val (.int p2), .val (.int p3), .val (.int p4), .val (.int p5)] [(.int p1)])) t → Steps p.tables e below (s₁.setTop (mkF m 0 #[.val (.int p1), .val (.int p2), .val (.int p3), .val (.int p4), .val (.int p5)] [])) t := by
    intro t k
    refine XS.iloadN X0.here hx rfl (Jvm.hb hby d6_0) rfl ?_
    show Steps p.tables e below (s₁.setTop (mkF m 1 #[.val (.int p1), .val (.int p2), .val (.int p3), .val (.int p4), .val (.int p5)] [(.int p1)])) t
    exact k
  by_cases hc2 : p1 = (0 : Int32)
  · have K3 : ∀ t, Steps p.tables e below (s₁.setTop (mkF m 4 #[.val (.int p1), .val (.int p2), .val (.int p3), .val (.int p4), .val (.int p5)] [])) t → Steps p.tables e below (s₁.setTop (mkF m 1 #[.val (.int p1), .val (.int p2), .val (.int p3), .val (.int p4), .val (.int p5)] [(.int p1)])) t := by
      intro t k
      refine XS.ifNo X0.here hx rfl (Jvm.hb hby d6_1) rfl ((if0 _ _).trans (teq hc2).2) ?_
      exact k
    have K4 : ∀ t, Steps p.tables e below (s₁.setTop (mkF m 5 #[.val (.int p1), .val (.int p2), .val (.int p3), .val (.int p4), .val (.int p5)] [(.int p2)])) t → Steps p.tables e below (s₁.setTop (mkF m 4 #[.val (.int p1), .val (.int p2), .val (.int p3), .val (.int p4), .val (.int p5)] [])) t := by
      intro t k
      refine XS.iloadN X0.here hx rfl (Jvm.hb hby d6_4) rfl ?_
      show Steps p.tables e below (s₁.setTop (mkF m 5 #[.val (.int p1), .val (.int p2), .val (.int p3), .val (.int p4), .val (.int p5)] [(.int p2)])) t
      exact k
    obtain ⟨fs, hr, hrun, hended, hW, hsame⟩ := X0.leave (v := some (.int p2)) (fun h => by rw [Bd.returns] at h; cases h) Bd.notSynchronized
    refine ⟨_, _, pre0 _ (K1 _ (K3 _ (K4 _ (retI X0 hx Bd.returns (Jvm.hb hby d6_5) hr)))), hrun, hended, _, _, rfl, ?_, ⟨_, rfl⟩, hW, hsame.mono (by decide) (by decide)⟩
    show Q6 Z p1 p2 p3 p4 p5 h0 n0 _ s₁.heap _
    rw [e0]
    exact ⟨congrArg (fun z => some (Value.int z)) (show p2 = f6 p1 p2 p3 p4 p5 from Eq.symm (if_pos hc2)), N0, rfl⟩
  · have K5 : ∀ t, Steps p.tables e below (s₁.setTop (mkF m 6 #[.val (.int p1), .val (.int p2), .val (.int p3), .val (.int p4), .val (.int p5)] [])) t → Steps p.tables e below (s₁.setTop (mkF m 1 #[.val (.int p1), .val (.int p2), .val (.int p3), .val (.int p4), .val (.int p5)] [(.int p1)])) t := by
      intro t k
      refine XS.ifYes X0.here hx rfl (pc0 := 1) (pc' := 6) rfl (Jvm.hb hby d6_1) rfl ((if0 _ _).trans (feq hc2).2) (by decide) (by decide) ?_
      exact k
    have K6 : ∀ t, Steps p.tables e below (s₁.setTop (mkF m 8 #[.val (.int p1), .val (.int p2), .val (.int p3), .val (.int p4), .val (.int p5)] [(.int (1 : Int32)), (.int p1)])) t → Steps p.tables e below (s₁.setTop (mkF m 6 #[.val (.int p1), .val (.int p2), .val (.int p3), .val (.int p4), .val (.int p5)] [])) t := by
      intro t k
      refine XS.iloadN X0.here hx rfl (Jvm.hb hby d6_6) rfl ?_
      show Steps p.tables e below (s₁.setTop (mkF m 7 #[.val (.int p1), .val (.int p2), .val (.int p3), .val (.int p4), .val (.int p5)] [(.int p1)])) t
      refine XS.iconst X0.here hx rfl (Jvm.hb hby d6_7) ?_
      show Steps p.tables e below (s₁.setTop (mkF m 8 #[.val (.int p1), .val (.int p2), .val (.int p3), .val (.int p4), .val (.int p5)] [(.int (1 : Int32)), (.int p1)])) t
      exact k
    by_cases hc7 : p1 = (1 : Int32)
    · have K8 : ∀ t, Steps p.tables e below (s₁.setTop (mkF m 11 #[.val (.int p1), .val (.int p2), .val (.int p3), .val (.int p4), .val (.int p5)] [])) t → Steps p.tables e below (s₁.setTop (mkF m 8 #[.val (.int p1), .val (.int p2), .val (.int p3), .val (.int p4), .val (.int p5)] [(.int (1 : Int32)), (.int p1)])) t := by
        intro t k
        refine XS.icmpNo X0.here hx rfl (Jvm.hb hby d6_8) rfl (teq hc7).2 ?_
        exact k
      have K9 : ∀ t, Steps p.tables e below (s₁.setTop (mkF m 12 #[.val (.int p1), .val (.int p2), .val (.int p3), .val (.int p4), .val (.int p5)] [(.int p3)])) t → Steps p.tables e below (s₁.setTop (mkF m 11 #[.val (.int p1), .val (.int p2), .val (.int p3), .val (.int p4), .val (.int p5)] [])) t := by
        intro t k
        refine XS.iloadN X0.here hx rfl (Jvm.hb hby d6_11) rfl ?_
        show Steps p.tables e below (s₁.setTop (mkF m 12 #[.val (.int p1), .val (.int p2), .val (.int p3), .val (.int p4), .val (.int p5)] [(.int p3)])) t
        exact k
      obtain ⟨fs, hr, hrun, hended, hW, hsame⟩ := X0.leave (v := some (.int p3)) (fun h => by rw [Bd.returns] at h; cases h) Bd.notSynchronized
      refine ⟨_, _, pre0 _ (K1 _ (K5 _ (K6 _ (K8 _ (K9 _ (retI X0 hx Bd.returns (Jvm.hb hby d6_12) hr)))))), hrun, hended, _, _, rfl, ?_, ⟨_, rfl⟩, hW, hsame.mono (by decide) (by decide)⟩
      show Q6 Z p1 p2 p3 p4 p5 h0 n0 _ s₁.heap _
      rw [e0]
      exact ⟨congrArg (fun z => some (Value.int z)) (show p3 = f6 p1 p2 p3 p4 p5 from Eq.symm ((if_neg hc2).trans (if_pos hc7))), N0, rfl⟩
    · have K10 : ∀ t, Steps p.tables e below (s₁.setTop (mkF m 13 #[.val (.int p1), .val (.int p2), .val (.int p3), .val (.int p4), .val (.int p5)] [])) t → Steps p.tables e below (s₁.setTop (mkF m 8 #[.val (.int p1), .val (.int p2), .val (.int p3), .val (.int p4), .val (.int p5)] [(.int (1 : Int32)), (.int p1)])) t := by
        intro t k
        refine XS.icmpYes X0.here hx rfl (pc0 := 8) (pc' := 13) rfl (Jvm.hb hby d6_8) rfl (feq hc7).2 (by decide) (by decide) ?_
        exact k
      have K11 : ∀ t, Steps p.tables e below (s₁.setTop (mkF m 15 #[.val (.int p1), .val (.int p2), .val (.int p3), .val (.int p4), .val (.int p5)] [(.int (2 : Int32)), (.int p1)])) t → Steps p.tables e below (s₁.setTop (mkF m 13 #[.val (.int p1), .val (.int p2), .val (.int p3), .val (.int p4), .val (.int p5)] [])) t := by
        intro t k
        refine XS.iloadN X0.here hx rfl (Jvm.hb hby d6_13) rfl ?_
        show Steps p.tables e below (s₁.setTop (mkF m 14 #[.val (.int p1), .val (.int p2), .val (.int p3), .val (.int p4), .val (.int p5)] [(.int p1)])) t
        refine XS.iconst X0.here hx rfl (Jvm.hb hby d6_14) ?_
        show Steps p.tables e below (s₁.setTop (mkF m 15 #[.val (.int p1), .val (.int p2), .val (.int p3), .val (.int p4), .val (.int p5)] [(.int (2 : Int32)), (.int p1)])) t
        exact k
      by_cases hc12 : p1 = (2 : Int32)
      · have K13 : ∀ t, Steps p.tables e below (s₁.setTop (mkF m 18 #[.val (.int p1), .val (.int p2), .val (.int p3), .val (.int p4), .val (.int p5)] [])) t → Steps p.tables e below (s₁.setTop (mkF m 15 #[.val (.int p1), .val (.int p2), .val (.int p3), .val (.int p4), .val (.int p5)] [(.int (2 : Int32)), (.int p1)])) t := by
          intro t k
          refine XS.icmpNo X0.here hx rfl (Jvm.hb hby d6_15) rfl (teq hc12).2 ?_
          exact k
        have K14 : ∀ t, Steps p.tables e below (s₁.setTop (mkF m 19 #[.val (.int p1), .val (.int p2), .val (.int p3), .val (.int p4), .val (.int p5)] [(.int p4)])) t → Steps p.tables e below (s₁.setTop (mkF m 18 #[.val (.int p1), .val (.int p2), .val (.int p3), .val (.int p4), .val (.int p5)] [])) t := by
          intro t k
          refine XS.iloadN X0.here hx rfl (Jvm.hb hby d6_18) rfl ?_
          show Steps p.tables e below (s₁.setTop (mkF m 19 #[.val (.int p1), .val (.int p2), .val (.int p3), .val (.int p4), .val (.int p5)] [(.int p4)])) t
          exact k
        obtain ⟨fs, hr, hrun, hended, hW, hsame⟩ := X0.leave (v := some (.int p4)) (fun h => by rw [Bd.returns] at h; cases h) Bd.notSynchronized
        refine ⟨_, _, pre0 _ (K1 _ (K5 _ (K6 _ (K10 _ (K11 _ (K13 _ (K14 _ (retI X0 hx Bd.returns (Jvm.hb hby d6_19) hr)))))))), hrun, hended, _, _, rfl, ?_, ⟨_, rfl⟩, hW, hsame.mono (by decide) (by decide)⟩
        show Q6 Z p1 p2 p3 p4 p5 h0 n0 _ s₁.heap _
        rw [e0]
        exact ⟨congrArg (fun z => some (Value.int z)) (show p4 = f6 p1 p2 p3 p4 p5 from Eq.symm ((if_neg hc2).trans ((if_neg hc7).trans (if_pos hc12)))), N0, rfl⟩
      · have K15 : ∀ t, Steps p.tables e below (s₁.setTop (mkF m 20 #[.val (.int p1), .val (.int p2), .val (.int p3), .val (.int p4), .val (.int p5)] [])) t → Steps p.tables e below (s₁.setTop (mkF m 15 #[.val (.int p1), .val (.int p2), .val (.int p3), .val (.int p4), .val (.int p5)] [(.int (2 : Int32)), (.int p1)])) t := by
          intro t k
          refine XS.icmpYes X0.here hx rfl (pc0 := 15) (pc' := 20) rfl (Jvm.hb hby d6_15) rfl (feq hc12).2 (by decide) (by decide) ?_
          exact k
        have K16 : ∀ t, Steps p.tables e below (s₁.setTop (mkF m 22 #[.val (.int p1), .val (.int p2), .val (.int p3), .val (.int p4), .val (.int p5)] [(.int p5)])) t → Steps p.tables e below (s₁.setTop (mkF m 20 #[.val (.int p1), .val (.int p2), .val (.int p3), .val (.int p4), .val (.int p5)] [])) t := by
          intro t k
          refine XS.iload X0.here hx rfl (Jvm.hb hby d6_20) rfl ?_
          show Steps p.tables e below (s₁.setTop (mkF m 22 #[.val (.int p1), .val (.int p2), .val (.int p3), .val (.int p4), .val (.int p5)] [(.int p5)])) t
          exact k
        obtain ⟨fs, hr, hrun, hended, hW, hsame⟩ := X0.leave (v := some (.int p5)) (fun h => by rw [Bd.returns] at h; cases h) Bd.notSynchronized
        refine ⟨_, _, pre0 _ (K1 _ (K5 _ (K6 _ (K10 _ (K11 _ (K15 _ (K16 _ (retI X0 hx Bd.returns (Jvm.hb hby d6_22) hr)))))))), hrun, hended, _, _, rfl, ?_, ⟨_, rfl⟩, hW, hsame.mono (by decide) (by decide)⟩
        show Q6 Z p1 p2 p3 p4 p5 h0 n0 _ s₁.heap _
        rw [e0]
        exact ⟨congrArg (fun z => some (Value.int z)) (show p5 = f6 p1 p2 p3 p4 p5 from Eq.symm ((if_neg hc2).trans ((if_neg hc7).trans (if_neg hc12)))), N0, rfl⟩
-- body 7: com/example/nestway/nestway/sparql/AnswerTable.get(II)I
theorem d7_0 : decode prog_70_method_4_code 0 = .ok (.aload_n 0, 1) := by decide +kernel
theorem d7_1 : decode prog_70_method_4_code 1 = .ok (.getfield 15, 3) := by decide +kernel
theorem d7_4 : decode prog_70_method_4_code 4 = .ok (.iload_n 1, 1) := by decide +kernel
theorem d7_5 : decode prog_70_method_4_code 5 = .ok (.aload_n 0, 1) := by decide +kernel
theorem d7_6 : decode prog_70_method_4_code 6 = .ok (.getfield 9, 3) := by decide +kernel
theorem d7_9 : decode prog_70_method_4_code 9 = .ok (.imul, 1) := by decide +kernel
theorem d7_10 : decode prog_70_method_4_code 10 = .ok (.iload_n 2, 1) := by decide +kernel
theorem d7_11 : decode prog_70_method_4_code 11 = .ok (.iadd, 1) := by decide +kernel
theorem d7_12 : decode prog_70_method_4_code 12 = .ok (.iaload, 1) := by decide +kernel
theorem d7_13 : decode prog_70_method_4_code 13 = .ok (.ireturn, 1) := by decide +kernel
theorem pn_7 : plainName "com/example/nestway/nestway/sparql/AnswerTable" = true := by first | (simp [plainName, overriddenIn]; done) | decide +kernel
theorem ef_7 (m : MethodId) (a1 : Addr) (p2 : Int32) (p3 : Int32) : entryFrame m #[(.ref a1), (.int p2), (.int p3)] 3 = mkF m 0 #[.val (.ref a1), .val (.int p2), .val (.int p3)] [] := by first | (simp [entryFrame, mkF, argsToLocals, Value.category]; done) | rfl
def f7 (p2 : Int32) (p3 : Int32) (v_width_a1 : Int32) (f_v_cells_a1 : Int32 → Int32) : Int32 := (f_v_cells_a1 ((p2 * v_width_a1) + p3))
def Q7 (Z : State) (a1 : Addr) (p2 : Int32) (p3 : Int32) (v_cells_a1 : Addr) (v_width_a1 : Int32) (n_v_cells_a1 : Int32) (f_v_cells_a1 : Int32 → Int32) (h0 : Heap) (n0 : Nat) (v : Option Value) (h : Heap) (L : List Loc) : Prop := v = some (.int (f7 p2 p3 v_width_a1 f_v_cells_a1)) ∧ Fr n0 L ∧ h = h0
set_option maxRecDepth 65536 in
set_option maxHeartbeats 40000000 in
theorem rm7 (l : Launch) (Z : State) (a0 : Array Value) (hw : ∀ d ∈ tables_1, d.before a0 Z = true) (ws : List Jvm.Cond) (a1 : Addr) (p2 : Int32) (p3 : Int32) (v_cells_a1 : Addr) (v_width_a1 : Int32) (n_v_cells_a1 : Int32) (f_v_cells_a1 : Int32 → Int32) (h0 : Heap) (n0 : Nat) (Z0 : n0 ≤ h0.size) (hb : ¬ ((p2 * v_width_a1) + p3) < 0 ∧ ((p2 * v_width_a1) + p3) < n_v_cells_a1) (F_cells_a1 : Fld Z h0 a1 "com/example/nestway/nestway/sparql/AnswerTable" "cells" "[I" (.ref v_cells_a1)) (F_width_a1 : Fld Z h0 a1 "com/example/nestway/nestway/sparql/AnswerTable" "width" "I" (.int v_width_a1)) (A_v_cells_a1 : Ia Z h0 v_cells_a1 .int n_v_cells_a1 f_v_cells_a1) :
    MetFree l (⟨"com/example/nestway/nestway/sparql/AnswerTable", "get", "(II)I"⟩ : MethodName) (head1 (Jvm.Cond.code (⟨"com/example/nestway/nestway/sparql/AnswerTable", "get", "(II)I"⟩ : MethodName) prog_70_method_4_code 3 (some .int) :: ws) ({ frames := 0, cells := 0, slots := 0, locals := 0 } : Room)) (fun a U => a = #[(.ref a1), (.int p2), (.int p3)] ∧ Z.Warmed39 U.vm ∧ U.heap = h0) (fun _ _ _ _ _ => True) (fun _ U o U' => ∃ v L, o = .returned v ∧ Q7 Z a1 p2 p3 v_cells_a1 v_width_a1 n_v_cells_a1 f_v_cells_a1 h0 n0 v U'.heap L ∧ FrameEnd U o U' L ({ frames := 0, cells := 0, slots := 0, locals := 0 } : Room).cells ({ frames := 0, cells := 0, slots := 0, locals := 0 } : Room).slots) := by
  refine MetFree.of_bodySF (plainFor_of_name pn_7) hisR ?_
  intro p e s m args below meth c s₁ Bd hml0 hP hK
  obtain ⟨rfl, hZ, hh⟩ := hP
  have hx := Bd.exec
  have hby := Bd.bytes
  have hml : c.maxLocals = 3 := hml0
  have hown : s.vm.findClass "com/example/nestway/nestway/sparql/AnswerTable" = some m.cls := findClass_of_methodNamed Bd.named
  have hnm := (name_of_methodNamed Bd.named Bd.method).1
  have X0 : Stand p l e ({ frames := 0, cells := 0, slots := 0, locals := 0 } : Room) s m #[(.ref a1), (.int p2), (.int p3)] below meth c s₁ [] 0 0 := Stand.of_body Bd
  have e0 : s₁.heap = h0 := by rw [← hh, Bd.state]; rfl
  have N0 := Fr.nil n0
  have pre0 : ∀ t, Steps p.tables e below (s₁.setTop (mkF m 0 #[.val (.ref a1), .val (.int p2), .val (.int p3)] [])) t → Steps p.tables e below (s₁.setTop (entryFrame m #[(.ref a1), (.int p2), (.int p3)] 3)) t := fun t k => castTop (ef_7 m a1 p2 p3) k
  have K1 : ∀ t, Steps p.tables e below (s₁.setTop (mkF m 1 #[.val (.ref a1), .val (.int p2), .val (.int p3)] [(.ref a1)])) t → Steps p.tables e below (s₁.setTop (mkF m 0 #[.val (.ref a1), .val (.int p2), .val (.int p3)] [])) t := by
    intro t k
    refine XS.aloadN X0.here hx rfl (Jvm.hb hby d7_0) rfl rfl ?_
    show Steps p.tables e below (s₁.setTop (mkF m 1 #[.val (.ref a1), .val (.int p2), .val (.int p3)] [(.ref a1)])) t
    exact k
  obtain ⟨T2, X2, e2, st2⟩ := getF X0 hx hZ hown (host := "") (Or.inl (hw _ (List.mem_of_getElem? (i := 16) rfl))) Via.refl e0 F_cells_a1 (g := (mkF m 1 #[.val (.ref a1), .val (.int p2), .val (.int p3)] [(.ref a1)])) rfl rfl (Jvm.hb hby d7_1)
  have K3 : ∀ t, Steps p.tables e below (T2.setTop (mkF m 4 #[.val (.ref a1), .val (.int p2), .val (.int p3)] [(.ref v_cells_a1)])) t → Steps p.tables e below (s₁.setTop (mkF m 1 #[.val (.ref a1), .val (.int p2), .val (.int p3)] [(.ref a1)])) t := fun t k => st2 _ k
  have K4 : ∀ t, Steps p.tables e below (T2.setTop (mkF m 6 #[.val (.ref a1), .val (.int p2), .val (.int p3)] [(.ref a1), (.int p2), (.ref v_cells_a1)])) t → Steps p.tables e below (T2.setTop (mkF m 4 #[.val (.ref a1), .val (.int p2), .val (.int p3)] [(.ref v_cells_a1)])) t := by
    intro t k
    refine XS.iloadN X2.here hx rfl (Jvm.hb hby d7_4) rfl ?_
    show Steps p.tables e below (T2.setTop (mkF m 5 #[.val (.ref a1), .val (.int p2), .val (.int p3)] [(.int p2), (.ref v_cells_a1)])) t
    refine XS.aloadN X2.here hx rfl (Jvm.hb hby d7_5) rfl rfl ?_
    show Steps p.tables e below (T2.setTop (mkF m 6 #[.val (.ref a1), .val (.int p2), .val (.int p3)] [(.ref a1), (.int p2), (.ref v_cells_a1)])) t
    exact k
  obtain ⟨T5, X5, e5, st5⟩ := getF X2 hx hZ hown (host := "") (Or.inl (hw _ (List.mem_of_getElem? (i := 14) rfl))) Via.refl e2 F_width_a1 (g := (mkF m 6 #[.val (.ref a1), .val (.int p2), .val (.int p3)] [(.ref a1), (.int p2), (.ref v_cells_a1)])) rfl rfl (Jvm.hb hby d7_6)
  have K6 : ∀ t, Steps p.tables e below (T5.setTop (mkF m 9 #[.val (.ref a1), .val (.int p2), .val (.int p3)] [(.int v_width_a1), (.int p2), (.ref v_cells_a1)])) t → Steps p.tables e below (T2.setTop (mkF m 6 #[.val (.ref a1), .val (.int p2), .val (.int p3)] [(.ref a1), (.int p2), (.ref v_cells_a1)])) t := fun t k => st5 _ k
  have K11 : ∀ t, Steps p.tables e below (T5.setTop (mkF m 12 #[.val (.ref a1), .val (.int p2), .val (.int p3)] [(.int ((p2 * v_width_a1) + p3)), (.ref v_cells_a1)])) t → Steps p.tables e below (T5.setTop (mkF m 9 #[.val (.ref a1), .val (.int p2), .val (.int p3)] [(.int v_width_a1), (.int p2), (.ref v_cells_a1)])) t := by
    intro t k
    refine XS.imul X5.here hx rfl (Jvm.hb hby d7_9) rfl ?_
    show Steps p.tables e below (T5.setTop (mkF m 10 #[.val (.ref a1), .val (.int p2), .val (.int p3)] [(.int (p2 * v_width_a1)), (.ref v_cells_a1)])) t
    refine XS.iloadN X5.here hx rfl (Jvm.hb hby d7_10) rfl ?_
    show Steps p.tables e below (T5.setTop (mkF m 11 #[.val (.ref a1), .val (.int p2), .val (.int p3)] [(.int p3), (.int (p2 * v_width_a1)), (.ref v_cells_a1)])) t
    refine XS.iadd X5.here hx rfl (Jvm.hb hby d7_11) rfl ?_
    show Steps p.tables e below (T5.setTop (mkF m 12 #[.val (.ref a1), .val (.int p2), .val (.int p3)] [(.int ((p2 * v_width_a1) + p3)), (.ref v_cells_a1)])) t
    exact k
  have hin7 : ¬ ((p2 * v_width_a1) + p3) < 0 ∧ ((p2 * v_width_a1) + p3) < n_v_cells_a1 := by exact hb
  obtain ⟨cl8, Aq9, hjhin7, aq10⟩ := Ia.at A_v_cells_a1 hin7
  have K12 : ∀ t, Steps p.tables e below (T5.setTop (mkF m 13 #[.val (.ref a1), .val (.int p2), .val (.int p3)] [(.int (f_v_cells_a1 ((p2 * v_width_a1) + p3)))])) t → Steps p.tables e below (T5.setTop (mkF m 12 #[.val (.ref a1), .val (.int p2), .val (.int p3)] [(.int ((p2 * v_width_a1) + p3)), (.ref v_cells_a1)])) t := by
    intro t k
    refine X5.iaload hx (j := ((p2 * v_width_a1) + p3)) (v := .int (f_v_cells_a1 ((p2 * v_width_a1) + p3))) (by rw [e5]; exact Aq9.1) (State.isArrayOf_alike hZ.alike Aq9.2.1) Aq9.2.2 hjhin7 aq10 (g := (mkF m 12 #[.val (.ref a1), .val (.int p2), .val (.int p3)] [(.int ((p2 * v_width_a1) + p3)), (.ref v_cells_a1)])) rfl rfl (Jvm.hb hby d7_12) _ ?_
    show Steps p.tables e below (T5.setTop (mkF m 13 #[.val (.ref a1), .val (.int p2), .val (.int p3)] [(.int (f_v_cells_a1 ((p2 * v_width_a1) + p3)))])) t
    exact k
  obtain ⟨fs, hr, hrun, hended, hW, hsame⟩ := X5.leave (v := some (.int (f_v_cells_a1 ((p2 * v_width_a1) + p3)))) (fun h => by rw [Bd.returns] at h; cases h) Bd.notSynchronized
  refine ⟨_, _, pre0 _ (K1 _ (K3 _ (K4 _ (K6 _ (K11 _ (K12 _ (retI X5 hx Bd.returns (Jvm.hb hby d7_13) hr))))))), hrun, hended, _, _, rfl, ?_, ⟨_, rfl⟩, hW, hsame.mono (by decide) (by decide)⟩
  show Q7 Z a1 p2 p3 v_cells_a1 v_width_a1 n_v_cells_a1 f_v_cells_a1 h0 n0 _ T5.heap _
  rw [e5]
  exact ⟨congrArg (fun z => some (Value.int z)) (show (f_v_cells_a1 ((p2 * v_width_a1) + p3)) = f7 p2 p3 v_width_a1 f_v_cells_a1 from Eq.symm (rfl)), N0, rfl⟩
-- body 0: com/example/nestway/nestway/sparql/AnswerTableGetPinLaw.law(IIIIII)Z
theorem pn_0 : plainName "com/example/nestway/nestway/sparql/AnswerTableGetPinLaw" = true := by first | (simp [plainName, overriddenIn]; done) | decide +kernel
theorem pd_1 : parseMethodDescriptor "(I)V" = some ⟨[.int], none⟩ := by decide +kernel
theorem pd_6 : parseMethodDescriptor "(IIIII)I" = some ⟨[.int, .int, .int, .int, .int], some .int⟩ := by decide +kernel
theorem pd_0 : parseMethodDescriptor "(IIIII)[I" = some ⟨[.int, .int, .int, .int, .int], some (.array .int)⟩ := by decide +kernel
theorem pd_3 : parseMethodDescriptor "([IJ)V" = some ⟨[(.array .int), .long], none⟩ := by decide +kernel
theorem ef_0 (m : MethodId) (p1 : Int32) (p2 : Int32) (p3 : Int32) (p4 : Int32) (p5 : Int32) (p6 : Int32) : entryFrame m #[(.int p1), (.int p2), (.int p3), (.int p4), (.int p5), (.int p6)] maxLocals = mkF m 0 #[.val (.int p1), .val (.int p2), .val (.int p3), .val (.int p4), .val (.int p5), .val (.int p6), .unset, .unset, .unset, .unset, .unset, .unset, .unset, .unset, .unset, .unset] [] := by first | (simp [entryFrame, mkF, argsToLocals, Value.category, maxLocals]; done) | rfl
def f0_u1 (p1 : Int32) : Int32 := ((1 : Int32) + (p1 &&& (3 : Int32)))
def f0_u2 (p6 : Int32) : Int32 := ((1 : Int32) + (p6 &&& (15 : Int32)))
def f0_u3 (p6 : Int32) : Int32 := ((1 : Int32) + (((p6.toUInt32 >>> ((4 : Int32) &&& 31).toUInt32).toInt32) &&& (15 : Int32)))
def f0_u4 (p6 : Int32) : Int32 := ((((p6.toUInt32 >>> ((8 : Int32) &&& 31).toUInt32).toInt32) &&& (63 : Int32)) % ((f0_u2 p6) + (f0_u3 p6)))
def f0_u5 (p1 : Int32) (p6 : Int32) : Int32 := ((((p6.toUInt32 >>> ((14 : Int32) &&& 31).toUInt32).toInt32) &&& (3 : Int32)) % (f0_u1 p1))
def f0_u6 (p1 : Int32) (p2 : Int32) (p3 : Int32) (p4 : Int32) (p5 : Int32) (p6 : Int32) : Int32 := (if (f0_u4 p6) < (f0_u2 p6) then (f6 (f0_u5 p1 p6) p2 p3 p4 p5) else (f6 (f0_u5 p1 p6) p5 p4 p3 p2))
def f0 (p1 : Int32) (p2 : Int32) (p3 : Int32) (p4 : Int32) (p5 : Int32) (p6 : Int32) : Int32 := (if (16 : Int32) < ((f0_u2 p6) + (f0_u3 p6)) then (if (f7 (f0_u4 p6) (f0_u5 p1 p6) (f0_u1 p1) (f104_G_g0 ((f0_u3 p6).toInt64) ((0 : Int32) + (((f0_u2 p6).toInt64).toInt32)) (f0_u1 p1) ((f0_u1 p1) * (16 : Int32)) (f4_G_g0 ((f0_u2 p6).toInt64) (0 : Int32) (f0_u1 p1) (fun _ => 0) (f1_u7 (f0_u1 p1) p2 p3 p4 p5)) (f1_u7 (f0_u1 p1) p5 p4 p3 p2))) = (f0_u6 p1 p2 p3 p4 p5 p6) then (1 : Int32) else (0 : Int32)) else (if (f7 (f0_u4 p6) (f0_u5 p1 p6) (f0_u1 p1) (f4_G_g0 ((f0_u3 p6).toInt64) ((0 : Int32) + (((f0_u2 p6).toInt64).toInt32)) (f0_u1 p1) (f4_G_g0 ((f0_u2 p6).toInt64) (0 : Int32) (f0_u1 p1) (fun _ => 0) (f1_u7 (f0_u1 p1) p2 p3 p4 p5)) (f1_u7 (f0_u1 p1) p5 p4 p3 p2))) = (f0_u6 p1 p2 p3 p4 p5 p6) then (1 : Int32) else (0 : Int32)))
def Q0 (Z : State) (p1 : Int32) (p2 : Int32) (p3 : Int32) (p4 : Int32) (p5 : Int32) (p6 : Int32) (h0 : Heap) (n0 : Nat) (v : Option Value) (h : Heap) (L : List Loc) : Prop := v = some (.int (f0 p1 p2 p3 p4 p5 p6)) ∧ Fr n0 L ∧ Keep h0 h []
theorem own_tot (p : Int32) : (f0_u2 p) + (f0_u3 p) ≠ 0 := by
  obtain ⟨a, a1, a2, ea⟩ := own_c p
  obtain ⟨b, b1, b2, eb⟩ := own_c ((p.toUInt32 >>> ((4 : Int32) &&& 31).toUInt32).toInt32)
  have ea' : f0_u2 p = Int32.ofNat a := ea
  have eb' : f0_u3 p = Int32.ofNat b := eb
  rw [ea', eb', ← Int32.ofNat_add]
  intro h
  have := congrArg Int32.toInt h
  rw [own_ofNat (a + b) (by omega), show (0 : Int32).toInt = 0 from rfl] at this
  omega
theorem own_wz (p : Int32) : f0_u1 p ≠ 0 := by
  obtain ⟨a, a1, a2, ea⟩ := own_w p
  have ea' : f0_u1 p = Int32.ofNat a := ea
  rw [ea']
  intro h
  have := congrArg Int32.toInt h
  rw [own_ofNat a (by omega), show (0 : Int32).toInt = 0 from rfl] at this
  omega
theorem own_fl (p : Int32) : ¬ f0_u1 p < 0 ∧ (f0_u1 p).toNatClampNeg ≤ 4 ∧ 0 < f0_u1 p ∧ ¬ (f0_u1 p * 16) < 0 ∧ (f0_u1 p * 16).toNatClampNeg ≤ 64 := by
  obtain ⟨a, a1, a2, ea⟩ := own_w p
  have ea' : f0_u1 p = Int32.ofNat a := ea
  rw [ea']
  exact (show ∀ k : Fin 5, 1 ≤ k.val → ¬ Int32.ofNat k.val < 0 ∧ (Int32.ofNat k.val).toNatClampNeg ≤ 4 ∧ 0 < Int32.ofNat k.val ∧ ¬ (Int32.ofNat k.val * 16) < 0 ∧ (Int32.ofNat k.val * 16).toNatClampNeg ≤ 64 from by decide) ⟨a, by omega⟩ a1
theorem own_row (p : Int32) (a b : Nat) (ha : f0_u2 p = Int32.ofNat a) (hb : f0_u3 p = Int32.ofNat b) (a1 : 1 ≤ a) (a2 : a ≤ 16) (b1 : 1 ≤ b) (b2 : b ≤ 16) : ∃ r, r < a + b ∧ f0_u4 p = Int32.ofNat r := by
  obtain ⟨n, hn, e⟩ := own_mask ((p.toUInt32 >>> ((8 : Int32) &&& 31).toUInt32).toInt32) 63 63 (by decide)
  refine ⟨n % (a + b), Nat.mod_lt _ (by omega), ?_⟩
  show (((p.toUInt32 >>> ((8 : Int32) &&& 31).toUInt32).toInt32) &&& (63 : Int32)) % ((f0_u2 p) + (f0_u3 p)) = _
  rw [e, ha, hb, ← Int32.ofNat_add]
  exact own_rem n (a + b) (by omega) (by omega)
theorem own_place (q p : Int32) (w : Nat) (hw : f0_u1 q = Int32.ofNat w) (w1 : 1 ≤ w) (w2 : w ≤ 4) : ∃ r, r < w ∧ f0_u5 q p = Int32.ofNat r := by
  obtain ⟨n, hn, e⟩ := own_mask ((p.toUInt32 >>> ((14 : Int32) &&& 31).toUInt32).toInt32) 3 3 (by decide)
  refine ⟨n % w, Nat.mod_lt _ (by omega), ?_⟩
  show (((p.toUInt32 >>> ((14 : Int32) &&& 31).toUInt32).toInt32) &&& (3 : Int32)) % (f0_u1 q) = _
  rw [e, hw]
  exact own_rem n w (by omega) (by omega)
theorem own_idx (r w q N : Nat) (h : r * w + q < N) (hN : N ≤ 200) (hr : r < 100) (hw : w ≤ 4) : ¬ ((Int32.ofNat r * Int32.ofNat w) + Int32.ofNat q) < 0 ∧ ((Int32.ofNat r * Int32.ofNat w) + Int32.ofNat q) < Int32.ofNat N := by
  rw [own_mul r w (by omega) (by omega) (by omega), ← Int32.ofNat_add]
  exact ⟨own_nn _ (by omega), (own_lti _ _ (by omega) (by omega)).mpr h⟩
theorem own_ix (r w q a : Nat) (hr : r < a) (hq : q < w) : r * w + q < a * w := by
  have h1 : r * w + w ≤ a * w := by rw [← Nat.succ_mul]; exact Nat.mul_le_mul hr (Nat.le_refl w)
  omega
theorem own_case (p : Int32) (a b : Nat) (ha : f0_u2 p = Int32.ofNat a) (hb : f0_u3 p = Int32.ofNat b) (a2 : a ≤ 16) (b2 : b ≤ 16) : ((16 : Int32) < f0_u2 p + f0_u3 p) ↔ 16 < a + b := by
  rw [ha, hb, ← Int32.ofNat_add, show (16 : Int32) = Int32.ofNat 16 from rfl]
  exact own_lti _ _ (by omega) (by omega)
theorem own_s0 (a : Nat) (h : a ≤ 16) : (0 : Int32) + ((Int32.ofNat a).toInt64).toInt32 = Int32.ofNat a := by
  rw [own_il a (by omega), own_li a (by omega)]
  exact Int32.zero_add _
set_option maxRecDepth 65536 in
set_option maxHeartbeats 40000000 in
theorem rm0 (l : Launch) (Z : State) (a0 : Array Value) (hw : ∀ d ∈ tables_1, d.before a0 Z = true) (ws : List Jvm.Cond) (p1 : Int32) (p2 : Int32) (p3 : Int32) (p4 : Int32) (p5 : Int32) (p6 : Int32) (h0 : Heap) (n0 : Nat) (Z0 : n0 ≤ h0.size) :
    MetFree l x (head1 (Jvm.Cond.code x code maxLocals ret :: ws) room_1) (fun a U => a = #[(.int p1), (.int p2), (.int p3), (.int p4), (.int p5), (.int p6)] ∧ Z.Warmed39 U.vm ∧ U.heap = h0) (fun _ _ _ _ _ => True) (fun _ U o U' => ∃ v L, o = .returned v ∧ Q0 Z p1 p2 p3 p4 p5 p6 h0 n0 v U'.heap L ∧ FrameEnd U o U' L room_1.cells room_1.slots) := by
  refine MetFree.of_bodySF (plainFor_of_name pn_0) hisR ?_
  intro p e s m args below meth c s₁ Bd hml0 hP hK
  obtain ⟨rfl, hZ, hh⟩ := hP
  have hx := Bd.exec
  have hby := Bd.bytes
  have hml : c.maxLocals = 16 := hml0
  have hown : s.vm.findClass "com/example/nestway/nestway/sparql/AnswerTableGetPinLaw" = some m.cls := findClass_of_methodNamed Bd.named
  have hnm := (name_of_methodNamed Bd.named Bd.method).1
  have X0 : Stand p l e room_1 s m #[(.int p1), (.int p2), (.int p3), (.int p4), (.int p5), (.int p6)] below meth c s₁ [] 0 0 := Stand.of_body Bd
  have e0 : s₁.heap = h0 := by rw [← hh, Bd.state]; rfl
  have N0 := Fr.nil n0
  have pre0 : ∀ t, Steps p.tables e below (s₁.setTop (mkF m 0 #[.val (.int p1), .val (.int p2), .val (.int p3), .val (.int p4), .val (.int p5), .val (.int p6), .unset, .unset, .unset, .unset, .unset, .unset, .unset, .unset, .unset, .unset] [])) t → Steps p.tables e below (s₁.setTop (entryFrame m #[(.int p1), (.int p2), (.int p3), (.int p4), (.int p5), (.int p6)] maxLocals)) t := fun t k => castTop (ef_0 m p1 p2 p3 p4 p5 p6) k
  obtain ⟨W, w1, w2, eW⟩ := own_w p1
  replace eW : f0_u1 p1 = Int32.ofNat W := eW
  obtain ⟨C1, c1, c2, eC⟩ := own_c p6
  replace eC : f0_u2 p6 = Int32.ofNat C1 := eC
  obtain ⟨C2, d1, d2, eD⟩ := own_c ((p6.toUInt32 >>> ((4 : Int32) &&& 31).toUInt32).toInt32)
  replace eD : f0_u3 p6 = Int32.ofNat C2 := eD
  obtain ⟨r, hr, er⟩ := own_row p6 C1 C2 eC eD c1 c2 d1 d2
  obtain ⟨q, hq, eq⟩ := own_place p1 p6 W eW w1 w2
  have hcs := own_case p6 C1 C2 eC eD c2 d2
  have e16 : f0_u1 p1 * 16 = Int32.ofNat (16 * W) := by rw [eW, show (16 : Int32) = Int32.ofNat 16 from rfl, own_mul W 16 (by omega) (by omega) (by omega), Nat.mul_comm]
  have eS : (0 : Int32) + (((f0_u2 p6).toInt64).toInt32) = Int32.ofNat C1 := by rw [eC]; exact own_s0 C1 c2
  have eCL : (f0_u2 p6).toInt64 = Int64.ofNat C1 := by rw [eC]; exact own_il C1 (by omega)
  have eDL : (f0_u3 p6).toInt64 = Int64.ofNat C2 := by rw [eD]; exact own_il C2 (by omega)
  have K1 : ∀ t, Steps p.tables e below (s₁.setTop (mkF m 66 #[.val (.int p1), .val (.int p2), .val (.int p3), .val (.int p4), .val (.int p5), .val (.int p6), .val (.int (f0_u1 p1)), .val (.int (f0_u2 p6)), .val (.int (f0_u3 p6)), .val (.int ((f0_u2 p6) + (f0_u3 p6))), .val (.int (f0_u4 p6)), .val (.int (f0_u5 p1 p6)), .unset, .unset, .unset, .unset] [(.int p5), (.int p4), (.int p3), (.int p2), (.int (f0_u1 p1))])) t → Steps p.tables e below (s₁.setTop (mkF m 0 #[.val (.int p1), .val (.int p2), .val (.int p3), .val (.int p4), .val (.int p5), .val (.int p6), .unset, .unset, .unset, .unset, .unset, .unset, .unset, .unset, .unset, .unset] [])) t := by
    intro t k
    refine XS.iconst X0.here hx rfl (Jvm.hb hby at_0) ?_
    show Steps p.tables e below (s₁.setTop (mkF m 1 #[.val (.int p1), .val (.int p2), .val (.int p3), .val (.int p4), .val (.int p5), .val (.int p6), .unset, .unset, .unset, .unset, .unset, .unset, .unset, .unset, .unset, .unset] [(.int (1 : Int32))])) t
    refine XS.iloadN X0.here hx rfl (Jvm.hb hby at_1) rfl ?_
    show Steps p.tables e below (s₁.setTop (mkF m 2 #[.val (.int p1), .val (.int p2), .val (.int p3), .val (.int p4), .val (.int p5), .val (.int p6), .unset, .unset, .unset, .unset, .unset, .unset, .unset, .unset, .unset, .unset] [(.int p1), (.int (1 : Int32))])) t
    refine XS.iconst X0.here hx rfl (Jvm.hb hby at_2) ?_
    show Steps p.tables e below (s₁.setTop (mkF m 3 #[.val (.int p1), .val (.int p2), .val (.int p3), .val (.int p4), .val (.int p5), .val (.int p6), .unset, .unset, .unset, .unset, .unset, .unset, .unset, .unset, .unset, .unset] [(.int (3 : Int32)), (.int p1), (.int (1 : Int32))])) t
    refine XS.iand X0.here hx rfl (Jvm.hb hby at_3) rfl ?_
    show Steps p.tables e below (s₁.setTop (mkF m 4 #[.val (.int p1), .val (.int p2), .val (.int p3), .val (.int p4), .val (.int p5), .val (.int p6), .unset, .unset, .unset, .unset, .unset, .unset, .unset, .unset, .unset, .unset] [(.int (p1 &&& (3 : Int32))), (.int (1 : Int32))])) t
    refine XS.iadd X0.here hx rfl (Jvm.hb hby at_4) rfl ?_
    show Steps p.tables e below (s₁.setTop (mkF m 5 #[.val (.int p1), .val (.int p2), .val (.int p3), .val (.int p4), .val (.int p5), .val (.int p6), .unset, .unset, .unset, .unset, .unset, .unset, .unset, .unset, .unset, .unset] [(.int ((1 : Int32) + (p1 &&& (3 : Int32))))])) t
    refine XS.istore X0.here hx rfl (Jvm.hb hby at_5) rfl (l' := #[.val (.int p1), .val (.int p2), .val (.int p3), .val (.int p4), .val (.int p5), .val (.int p6), .val (.int (f0_u1 p1)), .unset, .unset, .unset, .unset, .unset, .unset, .unset, .unset, .unset]) rfl ?_
    show Steps p.tables e below (s₁.setTop (mkF m 7 #[.val (.int p1), .val (.int p2), .val (.int p3), .val (.int p4), .val (.int p5), .val (.int p6), .val (.int (f0_u1 p1)), .unset, .unset, .unset, .unset, .unset, .unset, .unset, .unset, .unset] [])) t
    refine XS.iconst X0.here hx rfl (Jvm.hb hby at_7) ?_
    show Steps p.tables e below (s₁.setTop (mkF m 8 #[.val (.int p1), .val (.int p2), .val (.int p3), .val (.int p4), .val (.int p5), .val (.int p6), .val (.int (f0_u1 p1)), .unset, .unset, .unset, .unset, .unset, .unset, .unset, .unset, .unset] [(.int (1 : Int32))])) t
    refine XS.iload X0.here hx rfl (Jvm.hb hby at_8) rfl ?_
    show Steps p.tables e below (s₁.setTop (mkF m 10 #[.val (.int p1), .val (.int p2), .val (.int p3), .val (.int p4), .val (.int p5), .val (.int p6), .val (.int (f0_u1 p1)), .unset, .unset, .unset, .unset, .unset, .unset, .unset, .unset, .unset] [(.int p6), (.int (1 : Int32))])) t
    refine XS.bipush X0.here hx rfl (Jvm.hb hby at_10) ?_
    show Steps p.tables e below (s₁.setTop (mkF m 12 #[.val (.int p1), .val (.int p2), .val (.int p3), .val (.int p4), .val (.int p5), .val (.int p6), .val (.int (f0_u1 p1)), .unset, .unset, .unset, .unset, .unset, .unset, .unset, .unset, .unset] [(.int (15 : Int32)), (.int p6), (.int (1 : Int32))])) t
    refine XS.iand X0.here hx rfl (Jvm.hb hby at_12) rfl ?_
    show Steps p.tables e below (s₁.setTop (mkF m 13 #[.val (.int p1), .val (.int p2), .val (.int p3), .val (.int p4), .val (.int p5), .val (.int p6), .val (.int (f0_u1 p1)), .unset, .unset, .unset, .unset, .unset, .unset, .unset, .unset, .unset] [(.int (p6 &&& (15 : Int32))), (.int (1 : Int32))])) t
    refine XS.iadd X0.here hx rfl (Jvm.hb hby at_13) rfl ?_
    show Steps p.tables e below (s₁.setTop (mkF m 14 #[.val (.int p1), .val (.int p2), .val (.int p3), .val (.int p4), .val (.int p5), .val (.int p6), .val (.int (f0_u1 p1)), .unset, .unset, .unset, .unset, .unset, .unset, .unset, .unset, .unset] [(.int ((1 : Int32) + (p6 &&& (15 : Int32))))])) t
    refine XS.istore X0.here hx rfl (Jvm.hb hby at_14) rfl (l' := #[.val (.int p1), .val (.int p2), .val (.int p3), .val (.int p4), .val (.int p5), .val (.int p6), .val (.int (f0_u1 p1)), .val (.int (f0_u2 p6)), .unset, .unset, .unset, .unset, .unset, .unset, .unset, .unset]) rfl ?_
    show Steps p.tables e below (s₁.setTop (mkF m 16 #[.val (.int p1), .val (.int p2), .val (.int p3), .val (.int p4), .val (.int p5), .val (.int p6), .val (.int (f0_u1 p1)), .val (.int (f0_u2 p6)), .unset, .unset, .unset, .unset, .unset, .unset, .unset, .unset] [])) t
    refine XS.iconst X0.here hx rfl (Jvm.hb hby at_16) ?_
    show Steps p.tables e below (s₁.setTop (mkF m 17 #[.val (.int p1), .val (.int p2), .val (.int p3), .val (.int p4), .val (.int p5), .val (.int p6), .val (.int (f0_u1 p1)), .val (.int (f0_u2 p6)), .unset, .unset, .unset, .unset, .unset, .unset, .unset, .unset] [(.int (1 : Int32))])) t
    refine XS.iload X0.here hx rfl (Jvm.hb hby at_17) rfl ?_
    show Steps p.tables e below (s₁.setTop (mkF m 19 #[.val (.int p1), .val (.int p2), .val (.int p3), .val (.int p4), .val (.int p5), .val (.int p6), .val (.int (f0_u1 p1)), .val (.int (f0_u2 p6)), .unset, .unset, .unset, .unset, .unset, .unset, .unset, .unset] [(.int p6), (.int (1 : Int32))])) t
    refine XS.iconst X0.here hx rfl (Jvm.hb hby at_19) ?_
    show Steps p.tables e below (s₁.setTop (mkF m 20 #[.val (.int p1), .val (.int p2), .val (.int p3), .val (.int p4), .val (.int p5), .val (.int p6), .val (.int (f0_u1 p1)), .val (.int (f0_u2 p6)), .unset, .unset, .unset, .unset, .unset, .unset, .unset, .unset] [(.int (4 : Int32)), (.int p6), (.int (1 : Int32))])) t
    refine XS.iushr X0.here hx rfl (Jvm.hb hby at_20) rfl ?_
    show Steps p.tables e below (s₁.setTop (mkF m 21 #[.val (.int p1), .val (.int p2), .val (.int p3), .val (.int p4), .val (.int p5), .val (.int p6), .val (.int (f0_u1 p1)), .val (.int (f0_u2 p6)), .unset, .unset, .unset, .unset, .unset, .unset, .unset, .unset] [(.int ((p6.toUInt32 >>> ((4 : Int32) &&& 31).toUInt32).toInt32)), (.int (1 : Int32))])) t
    refine XS.bipush X0.here hx rfl (Jvm.hb hby at_21) ?_
    show Steps p.tables e below (s₁.setTop (mkF m 23 #[.val (.int p1), .val (.int p2), .val (.int p3), .val (.int p4), .val (.int p5), .val (.int p6), .val (.int (f0_u1 p1)), .val (.int (f0_u2 p6)), .unset, .unset, .unset, .unset, .unset, .unset, .unset, .unset] [(.int (15 : Int32)), (.int ((p6.toUInt32 >>> ((4 : Int32) &&& 31).toUInt32).toInt32)), (.int (1 : Int32))])) t
    refine XS.iand X0.here hx rfl (Jvm.hb hby at_23) rfl ?_
    show Steps p.tables e below (s₁.setTop (mkF m 24 #[.val (.int p1), .val (.int p2), .val (.int p3), .val (.int p4), .val (.int p5), .val (.int p6), .val (.int (f0_u1 p1)), .val (.int (f0_u2 p6)), .unset, .unset, .unset, .unset, .unset, .unset, .unset, .unset] [(.int (((p6.toUInt32 >>> ((4 : Int32) &&& 31).toUInt32).toInt32) &&& (15 : Int32))), (.int (1 : Int32))])) t
    refine XS.iadd X0.here hx rfl (Jvm.hb hby at_24) rfl ?_
    show Steps p.tables e below (s₁.setTop (mkF m 25 #[.val (.int p1), .val (.int p2), .val (.int p3), .val (.int p4), .val (.int p5), .val (.int p6), .val (.int (f0_u1 p1)), .val (.int (f0_u2 p6)), .unset, .unset, .unset, .unset, .unset, .unset, .unset, .unset] [(.int ((1 : Int32) + (((p6.toUInt32 >>> ((4 : Int32) &&& 31).toUInt32).toInt32) &&& (15 : Int32))))])) t
    refine XS.istore X0.here hx rfl (Jvm.hb hby at_25) rfl (l' := #[.val (.int p1), .val (.int p2), .val (.int p3), .val (.int p4), .val (.int p5), .val (.int p6), .val (.int (f0_u1 p1)), .val (.int (f0_u2 p6)), .val (.int (f0_u3 p6)), .unset, .unset, .unset, .unset, .unset, .unset, .unset]) rfl ?_
    show Steps p.tables e below (s₁.setTop (mkF m 27 #[.val (.int p1), .val (.int p2), .val (.int p3), .val (.int p4), .val (.int p5), .val (.int p6), .val (.int (f0_u1 p1)), .val (.int (f0_u2 p6)), .val (.int (f0_u3 p6)), .unset, .unset, .unset, .unset, .unset, .unset, .unset] [])) t
    refine XS.iload X0.here hx rfl (Jvm.hb hby at_27) rfl ?_
    show Steps p.tables e below (s₁.setTop (mkF m 29 #[.val (.int p1), .val (.int p2), .val (.int p3), .val (.int p4), .val (.int p5), .val (.int p6), .val (.int (f0_u1 p1)), .val (.int (f0_u2 p6)), .val (.int (f0_u3 p6)), .unset, .unset, .unset, .unset, .unset, .unset, .unset] [(.int (f0_u2 p6))])) t
    refine XS.iload X0.here hx rfl (Jvm.hb hby at_29) rfl ?_
    show Steps p.tables e below (s₁.setTop (mkF m 31 #[.val (.int p1), .val (.int p2), .val (.int p3), .val (.int p4), .val (.int p5), .val (.int p6), .val (.int (f0_u1 p1)), .val (.int (f0_u2 p6)), .val (.int (f0_u3 p6)), .unset, .unset, .unset, .unset, .unset, .unset, .unset] [(.int (f0_u3 p6)), (.int (f0_u2 p6))])) t
    refine XS.iadd X0.here hx rfl (Jvm.hb hby at_31) rfl ?_
    show Steps p.tables e below (s₁.setTop (mkF m 32 #[.val (.int p1), .val (.int p2), .val (.int p3), .val (.int p4), .val (.int p5), .val (.int p6), .val (.int (f0_u1 p1)), .val (.int (f0_u2 p6)), .val (.int (f0_u3 p6)), .unset, .unset, .unset, .unset, .unset, .unset, .unset] [(.int ((f0_u2 p6) + (f0_u3 p6)))])) t
    refine XS.istore X0.here hx rfl (Jvm.hb hby at_32) rfl (l' := #[.val (.int p1), .val (.int p2), .val (.int p3), .val (.int p4), .val (.int p5), .val (.int p6), .val (.int (f0_u1 p1)), .val (.int (f0_u2 p6)), .val (.int (f0_u3 p6)), .val (.int ((f0_u2 p6) + (f0_u3 p6))), .unset, .unset, .unset, .unset, .unset, .unset]) rfl ?_
    show Steps p.tables e below (s₁.setTop (mkF m 34 #[.val (.int p1), .val (.int p2), .val (.int p3), .val (.int p4), .val (.int p5), .val (.int p6), .val (.int (f0_u1 p1)), .val (.int (f0_u2 p6)), .val (.int (f0_u3 p6)), .val (.int ((f0_u2 p6) + (f0_u3 p6))), .unset, .unset, .unset, .unset, .unset, .unset] [])) t
    refine XS.iload X0.here hx rfl (Jvm.hb hby at_34) rfl ?_
    show Steps p.tables e below (s₁.setTop (mkF m 36 #[.val (.int p1), .val (.int p2), .val (.int p3), .val (.int p4), .val (.int p5), .val (.int p6), .val (.int (f0_u1 p1)), .val (.int (f0_u2 p6)), .val (.int (f0_u3 p6)), .val (.int ((f0_u2 p6) + (f0_u3 p6))), .unset, .unset, .unset, .unset, .unset, .unset] [(.int p6)])) t
    refine XS.bipush X0.here hx rfl (Jvm.hb hby at_36) ?_
    show Steps p.tables e below (s₁.setTop (mkF m 38 #[.val (.int p1), .val (.int p2), .val (.int p3), .val (.int p4), .val (.int p5), .val (.int p6), .val (.int (f0_u1 p1)), .val (.int (f0_u2 p6)), .val (.int (f0_u3 p6)), .val (.int ((f0_u2 p6) + (f0_u3 p6))), .unset, .unset, .unset, .unset, .unset, .unset] [(.int (8 : Int32)), (.int p6)])) t
    refine XS.iushr X0.here hx rfl (Jvm.hb hby at_38) rfl ?_
    show Steps p.tables e below (s₁.setTop (mkF m 39 #[.val (.int p1), .val (.int p2), .val (.int p3), .val (.int p4), .val (.int p5), .val (.int p6), .val (.int (f0_u1 p1)), .val (.int (f0_u2 p6)), .val (.int (f0_u3 p6)), .val (.int ((f0_u2 p6) + (f0_u3 p6))), .unset, .unset, .unset, .unset, .unset, .unset] [(.int ((p6.toUInt32 >>> ((8 : Int32) &&& 31).toUInt32).toInt32))])) t
    refine XS.bipush X0.here hx rfl (Jvm.hb hby at_39) ?_
    show Steps p.tables e below (s₁.setTop (mkF m 41 #[.val (.int p1), .val (.int p2), .val (.int p3), .val (.int p4), .val (.int p5), .val (.int p6), .val (.int (f0_u1 p1)), .val (.int (f0_u2 p6)), .val (.int (f0_u3 p6)), .val (.int ((f0_u2 p6) + (f0_u3 p6))), .unset, .unset, .unset, .unset, .unset, .unset] [(.int (63 : Int32)), (.int ((p6.toUInt32 >>> ((8 : Int32) &&& 31).toUInt32).toInt32))])) t
    refine XS.iand X0.here hx rfl (Jvm.hb hby at_41) rfl ?_
    show Steps p.tables e below (s₁.setTop (mkF m 42 #[.val (.int p1), .val (.int p2), .val (.int p3), .val (.int p4), .val (.int p5), .val (.int p6), .val (.int (f0_u1 p1)), .val (.int (f0_u2 p6)), .val (.int (f0_u3 p6)), .val (.int ((f0_u2 p6) + (f0_u3 p6))), .unset, .unset, .unset, .unset, .unset, .unset] [(.int (((p6.toUInt32 >>> ((8 : Int32) &&& 31).toUInt32).toInt32) &&& (63 : Int32)))])) t
    refine XS.iload X0.here hx rfl (Jvm.hb hby at_42) rfl ?_
    show Steps p.tables e below (s₁.setTop (mkF m 44 #[.val (.int p1), .val (.int p2), .val (.int p3), .val (.int p4), .val (.int p5), .val (.int p6), .val (.int (f0_u1 p1)), .val (.int (f0_u2 p6)), .val (.int (f0_u3 p6)), .val (.int ((f0_u2 p6) + (f0_u3 p6))), .unset, .unset, .unset, .unset, .unset, .unset] [(.int ((f0_u2 p6) + (f0_u3 p6))), (.int (((p6.toUInt32 >>> ((8 : Int32) &&& 31).toUInt32).toInt32) &&& (63 : Int32)))])) t
    refine iremM X0 hx rfl (Jvm.hb hby at_44) rfl (show ((f0_u2 p6) + (f0_u3 p6)) ≠ (0 : Int32) from own_tot _) ?_
    show Steps p.tables e below (s₁.setTop (mkF m 45 #[.val (.int p1), .val (.int p2), .val (.int p3), .val (.int p4), .val (.int p5), .val (.int p6), .val (.int (f0_u1 p1)), .val (.int (f0_u2 p6)), .val (.int (f0_u3 p6)), .val (.int ((f0_u2 p6) + (f0_u3 p6))), .unset, .unset, .unset, .unset, .unset, .unset] [(.int ((((p6.toUInt32 >>> ((8 : Int32) &&& 31).toUInt32).toInt32) &&& (63 : Int32)) % ((f0_u2 p6) + (f0_u3 p6))))])) t
    refine XS.istore X0.here hx rfl (Jvm.hb hby at_45) rfl (l' := #[.val (.int p1), .val (.int p2), .val (.int p3), .val (.int p4), .val (.int p5), .val (.int p6), .val (.int (f0_u1 p1)), .val (.int (f0_u2 p6)), .val (.int (f0_u3 p6)), .val (.int ((f0_u2 p6) + (f0_u3 p6))), .val (.int (f0_u4 p6)), .unset, .unset, .unset, .unset, .unset]) rfl ?_
    show Steps p.tables e below (s₁.setTop (mkF m 47 #[.val (.int p1), .val (.int p2), .val (.int p3), .val (.int p4), .val (.int p5), .val (.int p6), .val (.int (f0_u1 p1)), .val (.int (f0_u2 p6)), .val (.int (f0_u3 p6)), .val (.int ((f0_u2 p6) + (f0_u3 p6))), .val (.int (f0_u4 p6)), .unset, .unset, .unset, .unset, .unset] [])) t
    refine XS.iload X0.here hx rfl (Jvm.hb hby at_47) rfl ?_
    show Steps p.tables e below (s₁.setTop (mkF m 49 #[.val (.int p1), .val (.int p2), .val (.int p3), .val (.int p4), .val (.int p5), .val (.int p6), .val (.int (f0_u1 p1)), .val (.int (f0_u2 p6)), .val (.int (f0_u3 p6)), .val (.int ((f0_u2 p6) + (f0_u3 p6))), .val (.int (f0_u4 p6)), .unset, .unset, .unset, .unset, .unset] [(.int p6)])) t
    refine XS.bipush X0.here hx rfl (Jvm.hb hby at_49) ?_
    show Steps p.tables e below (s₁.setTop (mkF m 51 #[.val (.int p1), .val (.int p2), .val (.int p3), .val (.int p4), .val (.int p5), .val (.int p6), .val (.int (f0_u1 p1)), .val (.int (f0_u2 p6)), .val (.int (f0_u3 p6)), .val (.int ((f0_u2 p6) + (f0_u3 p6))), .val (.int (f0_u4 p6)), .unset, .unset, .unset, .unset, .unset] [(.int (14 : Int32)), (.int p6)])) t
    refine XS.iushr X0.here hx rfl (Jvm.hb hby at_51) rfl ?_
    show Steps p.tables e below (s₁.setTop (mkF m 52 #[.val (.int p1), .val (.int p2), .val (.int p3), .val (.int p4), .val (.int p5), .val (.int p6), .val (.int (f0_u1 p1)), .val (.int (f0_u2 p6)), .val (.int (f0_u3 p6)), .val (.int ((f0_u2 p6) + (f0_u3 p6))), .val (.int (f0_u4 p6)), .unset, .unset, .unset, .unset, .unset] [(.int ((p6.toUInt32 >>> ((14 : Int32) &&& 31).toUInt32).toInt32))])) t
    refine XS.iconst X0.here hx rfl (Jvm.hb hby at_52) ?_
    show Steps p.tables e below (s₁.setTop (mkF m 53 #[.val (.int p1), .val (.int p2), .val (.int p3), .val (.int p4), .val (.int p5), .val (.int p6), .val (.int (f0_u1 p1)), .val (.int (f0_u2 p6)), .val (.int (f0_u3 p6)), .val (.int ((f0_u2 p6) + (f0_u3 p6))), .val (.int (f0_u4 p6)), .unset, .unset, .unset, .unset, .unset] [(.int (3 : Int32)), (.int ((p6.toUInt32 >>> ((14 : Int32) &&& 31).toUInt32).toInt32))])) t
    refine XS.iand X0.here hx rfl (Jvm.hb hby at_53) rfl ?_
    show Steps p.tables e below (s₁.setTop (mkF m 54 #[.val (.int p1), .val (.int p2), .val (.int p3), .val (.int p4), .val (.int p5), .val (.int p6), .val (.int (f0_u1 p1)), .val (.int (f0_u2 p6)), .val (.int (f0_u3 p6)), .val (.int ((f0_u2 p6) + (f0_u3 p6))), .val (.int (f0_u4 p6)), .unset, .unset, .unset, .unset, .unset] [(.int (((p6.toUInt32 >>> ((14 : Int32) &&& 31).toUInt32).toInt32) &&& (3 : Int32)))])) t
    refine XS.iload X0.here hx rfl (Jvm.hb hby at_54) rfl ?_
    show Steps p.tables e below (s₁.setTop (mkF m 56 #[.val (.int p1), .val (.int p2), .val (.int p3), .val (.int p4), .val (.int p5), .val (.int p6), .val (.int (f0_u1 p1)), .val (.int (f0_u2 p6)), .val (.int (f0_u3 p6)), .val (.int ((f0_u2 p6) + (f0_u3 p6))), .val (.int (f0_u4 p6)), .unset, .unset, .unset, .unset, .unset] [(.int (f0_u1 p1)), (.int (((p6.toUInt32 >>> ((14 : Int32) &&& 31).toUInt32).toInt32) &&& (3 : Int32)))])) t
    refine iremM X0 hx rfl (Jvm.hb hby at_56) rfl (show (f0_u1 p1) ≠ (0 : Int32) from own_wz _) ?_
    show Steps p.tables e below (s₁.setTop (mkF m 57 #[.val (.int p1), .val (.int p2), .val (.int p3), .val (.int p4), .val (.int p5), .val (.int p6), .val (.int (f0_u1 p1)), .val (.int (f0_u2 p6)), .val (.int (f0_u3 p6)), .val (.int ((f0_u2 p6) + (f0_u3 p6))), .val (.int (f0_u4 p6)), .unset, .unset, .unset, .unset, .unset] [(.int ((((p6.toUInt32 >>> ((14 : Int32) &&& 31).toUInt32).toInt32) &&& (3 : Int32)) % (f0_u1 p1)))])) t
    refine XS.istore X0.here hx rfl (Jvm.hb hby at_57) rfl (l' := #[.val (.int p1), .val (.int p2), .val (.int p3), .val (.int p4), .val (.int p5), .val (.int p6), .val (.int (f0_u1 p1)), .val (.int (f0_u2 p6)), .val (.int (f0_u3 p6)), .val (.int ((f0_u2 p6) + (f0_u3 p6))), .val (.int (f0_u4 p6)), .val (.int (f0_u5 p1 p6)), .unset, .unset, .unset, .unset]) rfl ?_
    show Steps p.tables e below (s₁.setTop (mkF m 59 #[.val (.int p1), .val (.int p2), .val (.int p3), .val (.int p4), .val (.int p5), .val (.int p6), .val (.int (f0_u1 p1)), .val (.int (f0_u2 p6)), .val (.int (f0_u3 p6)), .val (.int ((f0_u2 p6) + (f0_u3 p6))), .val (.int (f0_u4 p6)), .val (.int (f0_u5 p1 p6)), .unset, .unset, .unset, .unset] [])) t
    refine XS.iload X0.here hx rfl (Jvm.hb hby at_59) rfl ?_
    show Steps p.tables e below (s₁.setTop (mkF m 61 #[.val (.int p1), .val (.int p2), .val (.int p3), .val (.int p4), .val (.int p5), .val (.int p6), .val (.int (f0_u1 p1)), .val (.int (f0_u2 p6)), .val (.int (f0_u3 p6)), .val (.int ((f0_u2 p6) + (f0_u3 p6))), .val (.int (f0_u4 p6)), .val (.int (f0_u5 p1 p6)), .unset, .unset, .unset, .unset] [(.int (f0_u1 p1))])) t
    refine XS.iloadN X0.here hx rfl (Jvm.hb hby at_61) rfl ?_
    show Steps p.tables e below (s₁.setTop (mkF m 62 #[.val (.int p1), .val (.int p2), .val (.int p3), .val (.int p4), .val (.int p5), .val (.int p6), .val (.int (f0_u1 p1)), .val (.int (f0_u2 p6)), .val (.int (f0_u3 p6)), .val (.int ((f0_u2 p6) + (f0_u3 p6))), .val (.int (f0_u4 p6)), .val (.int (f0_u5 p1 p6)), .unset, .unset, .unset, .unset] [(.int p2), (.int (f0_u1 p1))])) t
    refine XS.iloadN X0.here hx rfl (Jvm.hb hby at_62) rfl ?_
    show Steps p.tables e below (s₁.setTop (mkF m 63 #[.val (.int p1), .val (.int p2), .val (.int p3), .val (.int p4), .val (.int p5), .val (.int p6), .val (.int (f0_u1 p1)), .val (.int (f0_u2 p6)), .val (.int (f0_u3 p6)), .val (.int ((f0_u2 p6) + (f0_u3 p6))), .val (.int (f0_u4 p6)), .val (.int (f0_u5 p1 p6)), .unset, .unset, .unset, .unset] [(.int p3), (.int p2), (.int (f0_u1 p1))])) t
    refine XS.iloadN X0.here hx rfl (Jvm.hb hby at_63) rfl ?_
    show Steps p.tables e below (s₁.setTop (mkF m 64 #[.val (.int p1), .val (.int p2), .val (.int p3), .val (.int p4), .val (.int p5), .val (.int p6), .val (.int (f0_u1 p1)), .val (.int (f0_u2 p6)), .val (.int (f0_u3 p6)), .val (.int ((f0_u2 p6) + (f0_u3 p6))), .val (.int (f0_u4 p6)), .val (.int (f0_u5 p1 p6)), .unset, .unset, .unset, .unset] [(.int p4), (.int p3), (.int p2), (.int (f0_u1 p1))])) t
    refine XS.iload X0.here hx rfl (Jvm.hb hby at_64) rfl ?_
    show Steps p.tables e below (s₁.setTop (mkF m 66 #[.val (.int p1), .val (.int p2), .val (.int p3), .val (.int p4), .val (.int p5), .val (.int p6), .val (.int (f0_u1 p1)), .val (.int (f0_u2 p6)), .val (.int (f0_u3 p6)), .val (.int ((f0_u2 p6) + (f0_u3 p6))), .val (.int (f0_u4 p6)), .val (.int (f0_u5 p1 p6)), .unset, .unset, .unset, .unset] [(.int p5), (.int p4), (.int p3), (.int p2), (.int (f0_u1 p1))])) t
    exact k
  obtain ⟨_, _, ⟨T2, L2, k2, n2⟩, -, X2, ⟨Lc2, hQ2, l2, y2, z2⟩, st2⟩ := Jvm.LawKit.callS X0 hx (y := (⟨"com/example/nestway/nestway/sparql/AnswerTableGetPinLaw", "fill", "(IIIII)[I"⟩ : MethodName)) hown (mvT hZ (hw _ (List.mem_of_getElem? (i := 0) rfl))) (mvT hZ (hw _ (List.mem_of_getElem? (i := 1) rfl))) (mvT hZ (hw _ (List.mem_of_getElem? (i := 2) rfl))) (mvT hZ (hw _ (List.mem_of_getElem? (i := 3) rfl))) (by decide) (backOf (W := 0) (rm1 l Z a0 hw [] (f0_u1 p1) p2 p3 p4 p5 h0 n0 Z0 (own_fl _).1 (own_fl _).2.1 (own_fl _).2.2.1) hZ (hw _ (List.mem_of_getElem? (i := 3) rfl)) (hw _ (List.mem_of_getElem? (i := 2) rfl)) (by decide) (by decide)) (g := (mkF m 66 #[.val (.int p1), .val (.int p2), .val (.int p3), .val (.int p4), .val (.int p5), .val (.int p6), .val (.int (f0_u1 p1)), .val (.int (f0_u2 p6)), .val (.int (f0_u3 p6)), .val (.int ((f0_u2 p6) + (f0_u3 p6))), .val (.int (f0_u4 p6)), .val (.int (f0_u5 p1 p6)), .unset, .unset, .unset, .unset] [(.int p5), (.int p4), (.int p3), (.int p2), (.int (f0_u1 p1))])) rfl (by rw [hml]; rfl) (argsL := [(.int (f0_u1 p1)), (.int p2), (.int p3), (.int p4), (.int p5)]) (rest := []) (lenOf pd_0 rfl) rfl (by show 2 * 0 + _ ≤ _; exact Nat.le_of_eq rfl) (Jvm.hb hby at_66) (fun _ _ => ⟨rfl, e0, (by decide : 0 + 1 ≤ _), (by decide : 0 + 4 ≤ _)⟩)
  dsimp only [Pt.U, Pt.locs, Pt.cells, Pt.slots] at X2 l2 y2 z2 st2 hQ2
  subst l2 y2 z2
  obtain ⟨h2, e2⟩ : ∃ z, T2.heap = z := ⟨_, rfl⟩
  rw [e2] at hQ2
  obtain ⟨b2_x1, rfl, N2q, Kq2, szq_b2_x1, gb_b2_x1, R2_0⟩ := hQ2
  have N2 := Fr.app N0 N2q
  have KP2 : Keep h0 h2 [] := (Keep.refl h0 []).trans Kq2 all0
  have sz_b2_x1 : h0.size ≤ b2_x1 := Nat.le_trans (Keep.refl h0 []).1 szq_b2_x1
  have K3 : ∀ t, Steps p.tables e below (T2.setTop (mkF m 69 #[.val (.int p1), .val (.int p2), .val (.int p3), .val (.int p4), .val (.int p5), .val (.int p6), .val (.int (f0_u1 p1)), .val (.int (f0_u2 p6)), .val (.int (f0_u3 p6)), .val (.int ((f0_u2 p6) + (f0_u3 p6))), .val (.int (f0_u4 p6)), .val (.int (f0_u5 p1 p6)), .unset, .unset, .unset, .unset] [(.ref b2_x1)])) t → Steps p.tables e below (s₁.setTop (mkF m 66 #[.val (.int p1), .val (.int p2), .val (.int p3), .val (.int p4), .val (.int p5), .val (.int p6), .val (.int (f0_u1 p1)), .val (.int (f0_u2 p6)), .val (.int (f0_u3 p6)), .val (.int ((f0_u2 p6) + (f0_u3 p6))), .val (.int (f0_u4 p6)), .val (.int (f0_u5 p1 p6)), .unset, .unset, .unset, .unset] [(.int p5), (.int p4), (.int p3), (.int p2), (.int (f0_u1 p1))])) t := fun t k => st2 _ k
  have K4 : ∀ t, Steps p.tables e below (T2.setTop (mkF m 78 #[.val (.int p1), .val (.int p2), .val (.int p3), .val (.int p4), .val (.int p5), .val (.int p6), .val (.int (f0_u1 p1)), .val (.int (f0_u2 p6)), .val (.int (f0_u3 p6)), .val (.int ((f0_u2 p6) + (f0_u3 p6))), .val (.int (f0_u4 p6)), .val (.int (f0_u5 p1 p6)), .val (.ref b2_x1), .unset, .unset, .unset] [(.int p2), (.int p3), (.int p4), (.int p5), (.int (f0_u1 p1))])) t → Steps p.tables e below (T2.setTop (mkF m 69 #[.val (.int p1), .val (.int p2), .val (.int p3), .val (.int p4), .val (.int p5), .val (.int p6), .val (.int (f0_u1 p1)), .val (.int (f0_u2 p6)), .val (.int (f0_u3 p6)), .val (.int ((f0_u2 p6) + (f0_u3 p6))), .val (.int (f0_u4 p6)), .val (.int (f0_u5 p1 p6)), .unset, .unset, .unset, .unset] [(.ref b2_x1)])) t := by
    intro t k
    refine XS.astore X2.here hx rfl (Jvm.hb hby at_69) rfl rfl (l' := #[.val (.int p1), .val (.int p2), .val (.int p3), .val (.int p4), .val (.int p5), .val (.int p6), .val (.int (f0_u1 p1)), .val (.int (f0_u2 p6)), .val (.int (f0_u3 p6)), .val (.int ((f0_u2 p6) + (f0_u3 p6))), .val (.int (f0_u4 p6)), .val (.int (f0_u5 p1 p6)), .val (.ref b2_x1), .unset, .unset, .unset]) rfl ?_
    show Steps p.tables e below (T2.setTop (mkF m 71 #[.val (.int p1), .val (.int p2), .val (.int p3), .val (.int p4), .val (.int p5), .val (.int p6), .val (.int (f0_u1 p1)), .val (.int (f0_u2 p6)), .val (.int (f0_u3 p6)), .val (.int ((f0_u2 p6) + (f0_u3 p6))), .val (.int (f0_u4 p6)), .val (.int (f0_u5 p1 p6)), .val (.ref b2_x1), .unset, .unset, .unset] [])) t
    refine XS.iload X2.here hx rfl (Jvm.hb hby at_71) rfl ?_
    show Steps p.tables e below (T2.setTop (mkF m 73 #[.val (.int p1), .val (.int p2), .val (.int p3), .val (.int p4), .val (.int p5), .val (.int p6), .val (.int (f0_u1 p1)), .val (.int (f0_u2 p6)), .val (.int (f0_u3 p6)), .val (.int ((f0_u2 p6) + (f0_u3 p6))), .val (.int (f0_u4 p6)), .val (.int (f0_u5 p1 p6)), .val (.ref b2_x1), .unset, .unset, .unset] [(.int (f0_u1 p1))])) t
    refine XS.iload X2.here hx rfl (Jvm.hb hby at_73) rfl ?_
    show Steps p.tables e below (T2.setTop (mkF m 75 #[.val (.int p1), .val (.int p2), .val (.int p3), .val (.int p4), .val (.int p5), .val (.int p6), .val (.int (f0_u1 p1)), .val (.int (f0_u2 p6)), .val (.int (f0_u3 p6)), .val (.int ((f0_u2 p6) + (f0_u3 p6))), .val (.int (f0_u4 p6)), .val (.int (f0_u5 p1 p6)), .val (.ref b2_x1), .unset, .unset, .unset] [(.int p5), (.int (f0_u1 p1))])) t
    refine XS.iloadN X2.here hx rfl (Jvm.hb hby at_75) rfl ?_
    show Steps p.tables e below (T2.setTop (mkF m 76 #[.val (.int p1), .val (.int p2), .val (.int p3), .val (.int p4), .val (.int p5), .val (.int p6), .val (.int (f0_u1 p1)), .val (.int (f0_u2 p6)), .val (.int (f0_u3 p6)), .val (.int ((f0_u2 p6) + (f0_u3 p6))), .val (.int (f0_u4 p6)), .val (.int (f0_u5 p1 p6)), .val (.ref b2_x1), .unset, .unset, .unset] [(.int p4), (.int p5), (.int (f0_u1 p1))])) t
    refine XS.iloadN X2.here hx rfl (Jvm.hb hby at_76) rfl ?_
    show Steps p.tables e below (T2.setTop (mkF m 77 #[.val (.int p1), .val (.int p2), .val (.int p3), .val (.int p4), .val (.int p5), .val (.int p6), .val (.int (f0_u1 p1)), .val (.int (f0_u2 p6)), .val (.int (f0_u3 p6)), .val (.int ((f0_u2 p6) + (f0_u3 p6))), .val (.int (f0_u4 p6)), .val (.int (f0_u5 p1 p6)), .val (.ref b2_x1), .unset, .unset, .unset] [(.int p3), (.int p4), (.int p5), (.int (f0_u1 p1))])) t
    refine XS.iloadN X2.here hx rfl (Jvm.hb hby at_77) rfl ?_
    show Steps p.tables e below (T2.setTop (mkF m 78 #[.val (.int p1), .val (.int p2), .val (.int p3), .val (.int p4), .val (.int p5), .val (.int p6), .val (.int (f0_u1 p1)), .val (.int (f0_u2 p6)), .val (.int (f0_u3 p6)), .val (.int ((f0_u2 p6) + (f0_u3 p6))), .val (.int (f0_u4 p6)), .val (.int (f0_u5 p1 p6)), .val (.ref b2_x1), .unset, .unset, .unset] [(.int p2), (.int p3), (.int p4), (.int p5), (.int (f0_u1 p1))])) t
    exact k
  obtain ⟨_, _, ⟨T5, L5, k5, n5⟩, -, X5, ⟨Lc5, hQ5, l5, y5, z5⟩, st5⟩ := Jvm.LawKit.callS X2 hx (y := (⟨"com/example/nestway/nestway/sparql/AnswerTableGetPinLaw", "fill", "(IIIII)[I"⟩ : MethodName)) hown (mvT hZ (hw _ (List.mem_of_getElem? (i := 0) rfl))) (mvT hZ (hw _ (List.mem_of_getElem? (i := 1) rfl))) (mvT hZ (hw _ (List.mem_of_getElem? (i := 2) rfl))) (mvT hZ (hw _ (List.mem_of_getElem? (i := 3) rfl))) (by decide) (backOf (W := 0) (rm1 l Z a0 hw [] (f0_u1 p1) p5 p4 p3 p2 h2 n0 (Nat.le_trans Z0 KP2.1) (own_fl _).1 (own_fl _).2.1 (own_fl _).2.2.1) hZ (hw _ (List.mem_of_getElem? (i := 3) rfl)) (hw _ (List.mem_of_getElem? (i := 2) rfl)) (by decide) (by decide)) (g := (mkF m 78 #[.val (.int p1), .val (.int p2), .val (.int p3), .val (.int p4), .val (.int p5), .val (.int p6), .val (.int (f0_u1 p1)), .val (.int (f0_u2 p6)), .val (.int (f0_u3 p6)), .val (.int ((f0_u2 p6) + (f0_u3 p6))), .val (.int (f0_u4 p6)), .val (.int (f0_u5 p1 p6)), .val (.ref b2_x1), .unset, .unset, .unset] [(.int p2), (.int p3), (.int p4), (.int p5), (.int (f0_u1 p1))])) rfl (by rw [hml]; rfl) (argsL := [(.int (f0_u1 p1)), (.int p5), (.int p4), (.int p3), (.int p2)]) (rest := []) (lenOf pd_0 rfl) rfl (by show 2 * 0 + _ ≤ _; exact Nat.le_of_eq rfl) (Jvm.hb hby at_78) (fun _ _ => ⟨rfl, e2, (by decide : 1 + 1 ≤ _), (by decide : 4 + 4 ≤ _)⟩)
  dsimp only [Pt.U, Pt.locs, Pt.cells, Pt.slots] at X5 l5 y5 z5 st5 hQ5
  subst l5 y5 z5
  obtain ⟨h5, e5⟩ : ∃ z, T5.heap = z := ⟨_, rfl⟩
  rw [e5] at hQ5
  obtain ⟨b5_x1, rfl, N5q, Kq5, szq_b5_x1, gb_b5_x1, R5_0⟩ := hQ5
  have N5 := Fr.app N2 N5q
  have KP5 : Keep h0 h5 [] := KP2.trans Kq5 all0
  have A5_0 : Ia Z h5 b2_x1 .int (f0_u1 p1) (f1_u7 (f0_u1 p1) p2 p3 p4 p5) := R2_0.keep Kq5 nin0
  have ne5_x1_0 : b2_x1 ≠ b5_x1 := Nat.ne_of_lt (Nat.lt_of_lt_of_le R2_0.lt szq_b5_x1)
  have sz_b5_x1 : h0.size ≤ b5_x1 := Nat.le_trans KP2.1 szq_b5_x1
  have K6 : ∀ t, Steps p.tables e below (T5.setTop (mkF m 81 #[.val (.int p1), .val (.int p2), .val (.int p3), .val (.int p4), .val (.int p5), .val (.int p6), .val (.int (f0_u1 p1)), .val (.int (f0_u2 p6)), .val (.int (f0_u3 p6)), .val (.int ((f0_u2 p6) + (f0_u3 p6))), .val (.int (f0_u4 p6)), .val (.int (f0_u5 p1 p6)), .val (.ref b2_x1), .unset, .unset, .unset] [(.ref b5_x1)])) t → Steps p.tables e below (T2.setTop (mkF m 78 #[.val (.int p1), .val (.int p2), .val (.int p3), .val (.int p4), .val (.int p5), .val (.int p6), .val (.int (f0_u1 p1)), .val (.int (f0_u2 p6)), .val (.int (f0_u3 p6)), .val (.int ((f0_u2 p6) + (f0_u3 p6))), .val (.int (f0_u4 p6)), .val (.int (f0_u5 p1 p6)), .val (.ref b2_x1), .unset, .unset, .unset] [(.int p2), (.int p3), (.int p4), (.int p5), (.int (f0_u1 p1))])) t := fun t k => st5 _ k
  have K7 : ∀ t, Steps p.tables e below (T5.setTop (mkF m 83 #[.val (.int p1), .val (.int p2), .val (.int p3), .val (.int p4), .val (.int p5), .val (.int p6), .val (.int (f0_u1 p1)), .val (.int (f0_u2 p6)), .val (.int (f0_u3 p6)), .val (.int ((f0_u2 p6) + (f0_u3 p6))), .val (.int (f0_u4 p6)), .val (.int (f0_u5 p1 p6)), .val (.ref b2_x1), .val (.ref b5_x1), .unset, .unset] [])) t → Steps p.tables e below (T5.setTop (mkF m 81 #[.val (.int p1), .val (.int p2), .val (.int p3), .val (.int p4), .val (.int p5), .val (.int p6), .val (.int (f0_u1 p1)), .val (.int (f0_u2 p6)), .val (.int (f0_u3 p6)), .val (.int ((f0_u2 p6) + (f0_u3 p6))), .val (.int (f0_u4 p6)), .val (.int (f0_u5 p1 p6)), .val (.ref b2_x1), .unset, .unset, .unset] [(.ref b5_x1)])) t := by
    intro t k
    refine XS.astore X5.here hx rfl (Jvm.hb hby at_81) rfl rfl (l' := #[.val (.int p1), .val (.int p2), .val (.int p3), .val (.int p4), .val (.int p5), .val (.int p6), .val (.int (f0_u1 p1)), .val (.int (f0_u2 p6)), .val (.int (f0_u3 p6)), .val (.int ((f0_u2 p6) + (f0_u3 p6))), .val (.int (f0_u4 p6)), .val (.int (f0_u5 p1 p6)), .val (.ref b2_x1), .val (.ref b5_x1), .unset, .unset]) rfl ?_
    show Steps p.tables e below (T5.setTop (mkF m 83 #[.val (.int p1), .val (.int p2), .val (.int p3), .val (.int p4), .val (.int p5), .val (.int p6), .val (.int (f0_u1 p1)), .val (.int (f0_u2 p6)), .val (.int (f0_u3 p6)), .val (.int ((f0_u2 p6) + (f0_u3 p6))), .val (.int (f0_u4 p6)), .val (.int (f0_u5 p1 p6)), .val (.ref b2_x1), .val (.ref b5_x1), .unset, .unset] [])) t
    exact k
  obtain ⟨T8, h8, X8, e8, E8, A8, D8, -, st8⟩ := newO X5 hx hZ hown (hw _ (List.mem_of_getElem? (i := 5) rfl)) (hw _ (List.mem_of_getElem? (i := 6) rfl)) (hw _ (List.mem_of_getElem? (i := 7) rfl)) e5 (g := (mkF m 83 #[.val (.int p1), .val (.int p2), .val (.int p3), .val (.int p4), .val (.int p5), .val (.int p6), .val (.int (f0_u1 p1)), .val (.int (f0_u2 p6)), .val (.int (f0_u3 p6)), .val (.int ((f0_u2 p6) + (f0_u3 p6))), .val (.int (f0_u4 p6)), .val (.int (f0_u5 p1 p6)), .val (.ref b2_x1), .val (.ref b5_x1), .unset, .unset] [])) rfl (Jvm.hb hby at_83) (by decide) (by decide)
  obtain ⟨b8, g8⟩ : ∃ z, z = h5.size := ⟨_, rfl⟩
  rw [← g8] at A8 D8 st8
  have KP8 : Keep h0 h8 [] := KP5.ext E8
  have A8_0 : Ia Z h8 b2_x1 .int (f0_u1 p1) (f1_u7 (f0_u1 p1) p2 p3 p4 p5) := A5_0.ext E8
  have A8_1 : Ia Z h8 b5_x1 .int (f0_u1 p1) (f1_u7 (f0_u1 p1) p5 p4 p3 p2) := R5_0.ext E8
  have ne8_2 : b2_x1 ≠ b8 := Nat.ne_of_lt (Nat.lt_of_lt_of_le A5_0.lt (Nat.le_of_eq g8.symm))
  have ne8_4 : b5_x1 ≠ b8 := Nat.ne_of_lt (Nat.lt_of_lt_of_le R5_0.lt (Nat.le_of_eq g8.symm))
  have gb_b8 : n0 ≤ b8 := Nat.le_trans (Nat.le_trans Z0 KP5.1) (Nat.le_of_eq g8.symm)
  have sz_b8 : h0.size ≤ b8 := Nat.le_trans KP5.1 (Nat.le_of_eq g8.symm)
  have F8_width : Fld Z h8 b8 "com/example/nestway/nestway/sparql/AnswerTable" "width" "I" (.int (0 : Int32)) := D8 (Or.inr (hw _ (List.mem_of_getElem? (i := 15) rfl))) (ty := .int) (by decide)
  have F8_cells : Fld Z h8 b8 "com/example/nestway/nestway/sparql/AnswerTable" "cells" "[I" .null := D8 (Or.inl (hw _ (List.mem_of_getElem? (i := 17) rfl))) (ty := (.array .int)) (by decide)
  have F8_size : Fld Z h8 b8 "com/example/nestway/nestway/sparql/AnswerTable" "size" "I" (.int (0 : Int32)) := D8 (Or.inl (hw _ (List.mem_of_getElem? (i := 29) rfl))) (ty := .int) (by decide)
  have K9 : ∀ t, Steps p.tables e below (T8.setTop (mkF m 86 #[.val (.int p1), .val (.int p2), .val (.int p3), .val (.int p4), .val (.int p5), .val (.int p6), .val (.int (f0_u1 p1)), .val (.int (f0_u2 p6)), .val (.int (f0_u3 p6)), .val (.int ((f0_u2 p6) + (f0_u3 p6))), .val (.int (f0_u4 p6)), .val (.int (f0_u5 p1 p6)), .val (.ref b2_x1), .val (.ref b5_x1), .unset, .unset] [(.ref b8)])) t → Steps p.tables e below (T5.setTop (mkF m 83 #[.val (.int p1), .val (.int p2), .val (.int p3), .val (.int p4), .val (.int p5), .val (.int p6), .val (.int (f0_u1 p1)), .val (.int (f0_u2 p6)), .val (.int (f0_u3 p6)), .val (.int ((f0_u2 p6) + (f0_u3 p6))), .val (.int (f0_u4 p6)), .val (.int (f0_u5 p1 p6)), .val (.ref b2_x1), .val (.ref b5_x1), .unset, .unset] [])) t := fun t k => st8 _ k
  have K10 : ∀ t, Steps p.tables e below (T8.setTop (mkF m 89 #[.val (.int p1), .val (.int p2), .val (.int p3), .val (.int p4), .val (.int p5), .val (.int p6), .val (.int (f0_u1 p1)), .val (.int (f0_u2 p6)), .val (.int (f0_u3 p6)), .val (.int ((f0_u2 p6) + (f0_u3 p6))), .val (.int (f0_u4 p6)), .val (.int (f0_u5 p1 p6)), .val (.ref b2_x1), .val (.ref b5_x1), .unset, .unset] [(.int (f0_u1 p1)), (.ref b8), (.ref b8)])) t → Steps p.tables e below (T8.setTop (mkF m 86 #[.val (.int p1), .val (.int p2), .val (.int p3), .val (.int p4), .val (.int p5), .val (.int p6), .val (.int (f0_u1 p1)), .val (.int (f0_u2 p6)), .val (.int (f0_u3 p6)), .val (.int ((f0_u2 p6) + (f0_u3 p6))), .val (.int (f0_u4 p6)), .val (.int (f0_u5 p1 p6)), .val (.ref b2_x1), .val (.ref b5_x1), .unset, .unset] [(.ref b8)])) t := by
    intro t k
    refine XS.dup X8.here hx rfl (Jvm.hb hby at_86) rfl rfl ?_
    show Steps p.tables e below (T8.setTop (mkF m 87 #[.val (.int p1), .val (.int p2), .val (.int p3), .val (.int p4), .val (.int p5), .val (.int p6), .val (.int (f0_u1 p1)), .val (.int (f0_u2 p6)), .val (.int (f0_u3 p6)), .val (.int ((f0_u2 p6) + (f0_u3 p6))), .val (.int (f0_u4 p6)), .val (.int (f0_u5 p1 p6)), .val (.ref b2_x1), .val (.ref b5_x1), .unset, .unset] [(.ref b8), (.ref b8)])) t
    refine XS.iload X8.here hx rfl (Jvm.hb hby at_87) rfl ?_
    show Steps p.tables e below (T8.setTop (mkF m 89 #[.val (.int p1), .val (.int p2), .val (.int p3), .val (.int p4), .val (.int p5), .val (.int p6), .val (.int (f0_u1 p1)), .val (.int (f0_u2 p6)), .val (.int (f0_u3 p6)), .val (.int ((f0_u2 p6) + (f0_u3 p6))), .val (.int (f0_u4 p6)), .val (.int (f0_u5 p1 p6)), .val (.ref b2_x1), .val (.ref b5_x1), .unset, .unset] [(.int (f0_u1 p1)), (.ref b8), (.ref b8)])) t
    exact k
  obtain ⟨_, _, ⟨T11, L11, k11, n11⟩, -, X11, ⟨Lc11, hQ11, l11, y11, z11⟩, st11⟩ := X8.specialBack hx (y := (⟨"com/example/nestway/nestway/sparql/AnswerTable", "<init>", "(I)V"⟩ : MethodName)) rfl hown (mvT hZ (hw _ (List.mem_of_getElem? (i := 8) rfl))) (mvT hZ (hw _ (List.mem_of_getElem? (i := 9) rfl))) (mvT hZ (hw _ (List.mem_of_getElem? (i := 10) rfl))) (by decide) (backOf (W := 1) (rm2 l Z a0 hw [] b8 (f0_u1 p1) (.int (0 : Int32)) .null (.int (0 : Int32)) h8 n0 (Nat.le_trans Z0 KP8.1) (own_fl _).2.2.2.1 (own_fl _).2.2.2.2 A8 F8_width gb_b8 F8_cells F8_size) hZ (hw _ (List.mem_of_getElem? (i := 10) rfl)) (hw _ (List.mem_of_getElem? (i := 7) rfl)) (by decide) (by decide)) (g := (mkF m 89 #[.val (.int p1), .val (.int p2), .val (.int p3), .val (.int p4), .val (.int p5), .val (.int p6), .val (.int (f0_u1 p1)), .val (.int (f0_u2 p6)), .val (.int (f0_u3 p6)), .val (.int ((f0_u2 p6) + (f0_u3 p6))), .val (.int (f0_u4 p6)), .val (.int (f0_u5 p1 p6)), .val (.ref b2_x1), .val (.ref b5_x1), .unset, .unset] [(.int (f0_u1 p1)), (.ref b8), (.ref b8)])) rfl (by rw [hml]; rfl) (Steps.refl _) (a := b8) (argsL := [(.int (f0_u1 p1))]) (rest := [(.ref b8)]) (lenOf pd_1 rfl) rfl (by show 2 * 0 + _ ≤ _; exact Nat.le_of_eq rfl) (Jvm.hb hby at_89) (fun _ _ => ⟨rfl, e8, (by decide : 3 + 1 ≤ _), (by decide : 11 + 64 ≤ _)⟩)
  dsimp only [Pt.U, Pt.locs, Pt.cells, Pt.slots] at X11 l11 y11 z11 st11 hQ11
  subst l11 y11 z11
  obtain ⟨h11, e11⟩ : ∃ z, T11.heap = z := ⟨_, rfl⟩
  rw [e11] at hQ11
  obtain ⟨b11_x1, rfl, N11q, Kq11, szq_b11_x1, gb_b11_x1, R11_0, R11_1, R11_2, R11_3, R11_4⟩ := hQ11
  have N11 := Fr.app N5 N11q
  have KP11 : Keep h0 h11 [] := KP8.trans Kq11 (allS (Or.inr sz_b8) all0)
  have A11_0 : Ia Z h11 b2_x1 .int (f0_u1 p1) (f1_u7 (f0_u1 p1) p2 p3 p4 p5) := A8_0.keep Kq11 (ninS ne8_2 nin0)
  have A11_1 : Ia Z h11 b5_x1 .int (f0_u1 p1) (f1_u7 (f0_u1 p1) p5 p4 p3 p2) := A8_1.keep Kq11 (ninS ne8_4 nin0)
  have ne11_x1_6 : b2_x1 ≠ b11_x1 := Nat.ne_of_lt (Nat.lt_of_lt_of_le A8_0.lt szq_b11_x1)
  have ne11_x1_8 : b5_x1 ≠ b11_x1 := Nat.ne_of_lt (Nat.lt_of_lt_of_le A8_1.lt szq_b11_x1)
  have ne11_x1_10 : b8 ≠ b11_x1 := Nat.ne_of_lt (Nat.lt_of_lt_of_le A8.lt szq_b11_x1)
  have sz_b11_x1 : h0.size ≤ b11_x1 := Nat.le_trans KP8.1 szq_b11_x1
  have K12 : ∀ t, Steps p.tables e below (T11.setTop (mkF m 92 #[.val (.int p1), .val (.int p2), .val (.int p3), .val (.int p4), .val (.int p5), .val (.int p6), .val (.int (f0_u1 p1)), .val (.int (f0_u2 p6)), .val (.int (f0_u3 p6)), .val (.int ((f0_u2 p6) + (f0_u3 p6))), .val (.int (f0_u4 p6)), .val (.int (f0_u5 p1 p6)), .val (.ref b2_x1), .val (.ref b5_x1), .unset, .unset] [(.ref b8)])) t → Steps p.tables e below (T8.setTop (mkF m 89 #[.val (.int p1), .val (.int p2), .val (.int p3), .val (.int p4), .val (.int p5), .val (.int p6), .val (.int (f0_u1 p1)), .val (.int (f0_u2 p6)), .val (.int (f0_u3 p6)), .val (.int ((f0_u2 p6) + (f0_u3 p6))), .val (.int (f0_u4 p6)), .val (.int (f0_u5 p1 p6)), .val (.ref b2_x1), .val (.ref b5_x1), .unset, .unset] [(.int (f0_u1 p1)), (.ref b8), (.ref b8)])) t := fun t k => st11.trans k
  have K13 : ∀ t, Steps p.tables e below (T11.setTop (mkF m 101 #[.val (.int p1), .val (.int p2), .val (.int p3), .val (.int p4), .val (.int p5), .val (.int p6), .val (.int (f0_u1 p1)), .val (.int (f0_u2 p6)), .val (.int (f0_u3 p6)), .val (.int ((f0_u2 p6) + (f0_u3 p6))), .val (.int (f0_u4 p6)), .val (.int (f0_u5 p1 p6)), .val (.ref b2_x1), .val (.ref b5_x1), .val (.ref b8), .unset] [(.long ((f0_u2 p6).toInt64)), (.ref b2_x1), (.ref b8)])) t → Steps p.tables e below (T11.setTop (mkF m 92 #[.val (.int p1), .val (.int p2), .val (.int p3), .val (.int p4), .val (.int p5), .val (.int p6), .val (.int (f0_u1 p1)), .val (.int (f0_u2 p6)), .val (.int (f0_u3 p6)), .val (.int ((f0_u2 p6) + (f0_u3 p6))), .val (.int (f0_u4 p6)), .val (.int (f0_u5 p1 p6)), .val (.ref b2_x1), .val (.ref b5_x1), .unset, .unset] [(.ref b8)])) t := by
    intro t k
    refine XS.astore X11.here hx rfl (Jvm.hb hby at_92) rfl rfl (l' := #[.val (.int p1), .val (.int p2), .val (.int p3), .val (.int p4), .val (.int p5), .val (.int p6), .val (.int (f0_u1 p1)), .val (.int (f0_u2 p6)), .val (.int (f0_u3 p6)), .val (.int ((f0_u2 p6) + (f0_u3 p6))), .val (.int (f0_u4 p6)), .val (.int (f0_u5 p1 p6)), .val (.ref b2_x1), .val (.ref b5_x1), .val (.ref b8), .unset]) rfl ?_
    show Steps p.tables e below (T11.setTop (mkF m 94 #[.val (.int p1), .val (.int p2), .val (.int p3), .val (.int p4), .val (.int p5), .val (.int p6), .val (.int (f0_u1 p1)), .val (.int (f0_u2 p6)), .val (.int (f0_u3 p6)), .val (.int ((f0_u2 p6) + (f0_u3 p6))), .val (.int (f0_u4 p6)), .val (.int (f0_u5 p1 p6)), .val (.ref b2_x1), .val (.ref b5_x1), .val (.ref b8), .unset] [])) t
    refine XS.aload X11.here hx rfl (Jvm.hb hby at_94) rfl rfl ?_
    show Steps p.tables e below (T11.setTop (mkF m 96 #[.val (.int p1), .val (.int p2), .val (.int p3), .val (.int p4), .val (.int p5), .val (.int p6), .val (.int (f0_u1 p1)), .val (.int (f0_u2 p6)), .val (.int (f0_u3 p6)), .val (.int ((f0_u2 p6) + (f0_u3 p6))), .val (.int (f0_u4 p6)), .val (.int (f0_u5 p1 p6)), .val (.ref b2_x1), .val (.ref b5_x1), .val (.ref b8), .unset] [(.ref b8)])) t
    refine XS.aload X11.here hx rfl (Jvm.hb hby at_96) rfl rfl ?_
    show Steps p.tables e below (T11.setTop (mkF m 98 #[.val (.int p1), .val (.int p2), .val (.int p3), .val (.int p4), .val (.int p5), .val (.int p6), .val (.int (f0_u1 p1)), .val (.int (f0_u2 p6)), .val (.int (f0_u3 p6)), .val (.int ((f0_u2 p6) + (f0_u3 p6))), .val (.int (f0_u4 p6)), .val (.int (f0_u5 p1 p6)), .val (.ref b2_x1), .val (.ref b5_x1), .val (.ref b8), .unset] [(.ref b2_x1), (.ref b8)])) t
    refine XS.iload X11.here hx rfl (Jvm.hb hby at_98) rfl ?_
    show Steps p.tables e below (T11.setTop (mkF m 100 #[.val (.int p1), .val (.int p2), .val (.int p3), .val (.int p4), .val (.int p5), .val (.int p6), .val (.int (f0_u1 p1)), .val (.int (f0_u2 p6)), .val (.int (f0_u3 p6)), .val (.int ((f0_u2 p6) + (f0_u3 p6))), .val (.int (f0_u4 p6)), .val (.int (f0_u5 p1 p6)), .val (.ref b2_x1), .val (.ref b5_x1), .val (.ref b8), .unset] [(.int (f0_u2 p6)), (.ref b2_x1), (.ref b8)])) t
    refine XS.i2l X11.here hx rfl (Jvm.hb hby at_100) rfl ?_
    show Steps p.tables e below (T11.setTop (mkF m 101 #[.val (.int p1), .val (.int p2), .val (.int p3), .val (.int p4), .val (.int p5), .val (.int p6), .val (.int (f0_u1 p1)), .val (.int (f0_u2 p6)), .val (.int (f0_u3 p6)), .val (.int ((f0_u2 p6) + (f0_u3 p6))), .val (.int (f0_u4 p6)), .val (.int (f0_u5 p1 p6)), .val (.ref b2_x1), .val (.ref b5_x1), .val (.ref b8), .unset] [(.long ((f0_u2 p6).toInt64)), (.ref b2_x1), (.ref b8)])) t
    exact k
  obtain ⟨cq14, kq14, q14a, q14b, q14c⟩ := isOf hZ e11 R11_0
  obtain ⟨_, _, ⟨T14, L14, k14, n14⟩, -, X14, ⟨Lc14, hQ14, l14, y14, z14⟩, st14⟩ := X11.virtualBack hx (y := (⟨"com/example/nestway/nestway/sparql/AnswerTable", "add", "([IJ)V"⟩ : MethodName)) (z := (⟨"com/example/nestway/nestway/sparql/AnswerTable", "add", "([IJ)V"⟩ : MethodName)) hown (mvT hZ (hw _ (List.mem_of_getElem? (i := 18) rfl))) (mvT hZ (hw _ (List.mem_of_getElem? (i := 19) rfl))) (notFace_of_selects (args := #[]) (mvT hZ (hw _ (List.mem_of_getElem? (i := 21) rfl)))) (mvT hZ (hw _ (List.mem_of_getElem? (i := 21) rfl))) (mvT hZ (hw _ (List.mem_of_getElem? (i := 20) rfl))) (by decide) (backOf (W := 0) (rm4 l Z a0 hw [] b8 b2_x1 ((f0_u2 p6).toInt64) (0 : Int32) (f0_u1 p1) b11_x1 ((f0_u1 p1) * (16 : Int32)) (fun _ => 0) (f0_u1 p1) (f1_u7 (f0_u1 p1) p2 p3 p4 p5) h11 n0 (Nat.le_trans Z0 KP11.1) ne11_x1_6 ⟨W, C1, 0, 16 * W, eW, eCL, rfl, e16, eW, w1, w2, c2, by omega, by rw [Nat.zero_add]; exact Nat.mul_le_mul c2 (Nat.le_refl W), by omega⟩ R11_0 R11_1 R11_2 R11_4 R11_3 gb_b8 A11_0 gb_b11_x1) hZ (hw _ (List.mem_of_getElem? (i := 22) rfl)) (hw _ (List.mem_of_getElem? (i := 7) rfl)) (by decide) (by decide)) q14a q14c (g := (mkF m 101 #[.val (.int p1), .val (.int p2), .val (.int p3), .val (.int p4), .val (.int p5), .val (.int p6), .val (.int (f0_u1 p1)), .val (.int (f0_u2 p6)), .val (.int (f0_u3 p6)), .val (.int ((f0_u2 p6) + (f0_u3 p6))), .val (.int (f0_u4 p6)), .val (.int (f0_u5 p1 p6)), .val (.ref b2_x1), .val (.ref b5_x1), .val (.ref b8), .unset] [(.long ((f0_u2 p6).toInt64)), (.ref b2_x1), (.ref b8)])) rfl (by rw [hml]; rfl) (Steps.refl _) (argsL := [(.ref b2_x1), (.long ((f0_u2 p6).toInt64))]) (rest := []) (lenOf pd_3 rfl) rfl (by show 2 * 0 + _ ≤ _; exact Nat.le_of_eq rfl) (Jvm.hb hby at_101) (fun _ _ => ⟨rfl, e11, (by decide : 4 + 0 ≤ _), (by decide : 75 + 0 ≤ _)⟩)
  dsimp only [Pt.U, Pt.locs, Pt.cells, Pt.slots] at X14 l14 y14 z14 st14 hQ14
  subst l14 y14 z14
  obtain ⟨h14, e14⟩ : ∃ z, T14.heap = z := ⟨_, rfl⟩
  rw [e14] at hQ14
  obtain ⟨rfl, N14q, Kq14, R14_0, R14_1, R14_2, R14_3, R14_4⟩ := hQ14
  have N14 := Fr.app N11 N14q
  have KP14 : Keep h0 h14 [] := KP11.trans Kq14 (allS (Or.inr sz_b8) (allS (Or.inr sz_b11_x1) all0))
  have A14_0 : Ia Z h14 b2_x1 .int (f0_u1 p1) (f1_u7 (f0_u1 p1) p2 p3 p4 p5) := A11_0.keep Kq14 (ninS ne8_2 (ninS ne11_x1_6 nin0))
  have A14_1 : Ia Z h14 b5_x1 .int (f0_u1 p1) (f1_u7 (f0_u1 p1) p5 p4 p3 p2) := A11_1.keep Kq14 (ninS ne8_4 (ninS ne11_x1_8 nin0))
  have K15 : ∀ t, Steps p.tables e below (T14.setTop (mkF m 104 #[.val (.int p1), .val (.int p2), .val (.int p3), .val (.int p4), .val (.int p5), .val (.int p6), .val (.int (f0_u1 p1)), .val (.int (f0_u2 p6)), .val (.int (f0_u3 p6)), .val (.int ((f0_u2 p6) + (f0_u3 p6))), .val (.int (f0_u4 p6)), .val (.int (f0_u5 p1 p6)), .val (.ref b2_x1), .val (.ref b5_x1), .val (.ref b8), .unset] [])) t → Steps p.tables e below (T11.setTop (mkF m 101 #[.val (.int p1), .val (.int p2), .val (.int p3), .val (.int p4), .val (.int p5), .val (.int p6), .val (.int (f0_u1 p1)), .val (.int (f0_u2 p6)), .val (.int (f0_u3 p6)), .val (.int ((f0_u2 p6) + (f0_u3 p6))), .val (.int (f0_u4 p6)), .val (.int (f0_u5 p1 p6)), .val (.ref b2_x1), .val (.ref b5_x1), .val (.ref b8), .unset] [(.long ((f0_u2 p6).toInt64)), (.ref b2_x1), (.ref b8)])) t := fun t k => st14.trans k
  have K16 : ∀ t, Steps p.tables e below (T14.setTop (mkF m 111 #[.val (.int p1), .val (.int p2), .val (.int p3), .val (.int p4), .val (.int p5), .val (.int p6), .val (.int (f0_u1 p1)), .val (.int (f0_u2 p6)), .val (.int (f0_u3 p6)), .val (.int ((f0_u2 p6) + (f0_u3 p6))), .val (.int (f0_u4 p6)), .val (.int (f0_u5 p1 p6)), .val (.ref b2_x1), .val (.ref b5_x1), .val (.ref b8), .unset] [(.long ((f0_u3 p6).toInt64)), (.ref b5_x1), (.ref b8)])) t → Steps p.tables e below (T14.setTop (mkF m 104 #[.val (.int p1), .val (.int p2), .val (.int p3), .val (.int p4), .val (.int p5), .val (.int p6), .val (.int (f0_u1 p1)), .val (.int (f0_u2 p6)), .val (.int (f0_u3 p6)), .val (.int ((f0_u2 p6) + (f0_u3 p6))), .val (.int (f0_u4 p6)), .val (.int (f0_u5 p1 p6)), .val (.ref b2_x1), .val (.ref b5_x1), .val (.ref b8), .unset] [])) t := by
    intro t k
    refine XS.aload X14.here hx rfl (Jvm.hb hby at_104) rfl rfl ?_
    show Steps p.tables e below (T14.setTop (mkF m 106 #[.val (.int p1), .val (.int p2), .val (.int p3), .val (.int p4), .val (.int p5), .val (.int p6), .val (.int (f0_u1 p1)), .val (.int (f0_u2 p6)), .val (.int (f0_u3 p6)), .val (.int ((f0_u2 p6) + (f0_u3 p6))), .val (.int (f0_u4 p6)), .val (.int (f0_u5 p1 p6)), .val (.ref b2_x1), .val (.ref b5_x1), .val (.ref b8), .unset] [(.ref b8)])) t
    refine XS.aload X14.here hx rfl (Jvm.hb hby at_106) rfl rfl ?_
    show Steps p.tables e below (T14.setTop (mkF m 108 #[.val (.int p1), .val (.int p2), .val (.int p3), .val (.int p4), .val (.int p5), .val (.int p6), .val (.int (f0_u1 p1)), .val (.int (f0_u2 p6)), .val (.int (f0_u3 p6)), .val (.int ((f0_u2 p6) + (f0_u3 p6))), .val (.int (f0_u4 p6)), .val (.int (f0_u5 p1 p6)), .val (.ref b2_x1), .val (.ref b5_x1), .val (.ref b8), .unset] [(.ref b5_x1), (.ref b8)])) t
    refine XS.iload X14.here hx rfl (Jvm.hb hby at_108) rfl ?_
    show Steps p.tables e below (T14.setTop (mkF m 110 #[.val (.int p1), .val (.int p2), .val (.int p3), .val (.int p4), .val (.int p5), .val (.int p6), .val (.int (f0_u1 p1)), .val (.int (f0_u2 p6)), .val (.int (f0_u3 p6)), .val (.int ((f0_u2 p6) + (f0_u3 p6))), .val (.int (f0_u4 p6)), .val (.int (f0_u5 p1 p6)), .val (.ref b2_x1), .val (.ref b5_x1), .val (.ref b8), .unset] [(.int (f0_u3 p6)), (.ref b5_x1), (.ref b8)])) t
    refine XS.i2l X14.here hx rfl (Jvm.hb hby at_110) rfl ?_
    show Steps p.tables e below (T14.setTop (mkF m 111 #[.val (.int p1), .val (.int p2), .val (.int p3), .val (.int p4), .val (.int p5), .val (.int p6), .val (.int (f0_u1 p1)), .val (.int (f0_u2 p6)), .val (.int (f0_u3 p6)), .val (.int ((f0_u2 p6) + (f0_u3 p6))), .val (.int (f0_u4 p6)), .val (.int (f0_u5 p1 p6)), .val (.ref b2_x1), .val (.ref b5_x1), .val (.ref b8), .unset] [(.long ((f0_u3 p6).toInt64)), (.ref b5_x1), (.ref b8)])) t
    exact k
  by_cases hc17 : (16 : Int32) < ((f0_u2 p6) + (f0_u3 p6))
  · have hcase := hc17
    obtain ⟨cq18, kq18, q18a, q18b, q18c⟩ := isOf hZ e14 R14_3
    obtain ⟨_, _, ⟨T18, L18, k18, n18⟩, -, X18, ⟨Lc18, hQ18, l18, y18, z18⟩, st18⟩ := X14.virtualBack hx (y := (⟨"com/example/nestway/nestway/sparql/AnswerTable", "add", "([IJ)V"⟩ : MethodName)) (z := (⟨"com/example/nestway/nestway/sparql/AnswerTable", "add", "([IJ)V"⟩ : MethodName)) hown (mvT hZ (hw _ (List.mem_of_getElem? (i := 18) rfl))) (mvT hZ (hw _ (List.mem_of_getElem? (i := 19) rfl))) (notFace_of_selects (args := #[]) (mvT hZ (hw _ (List.mem_of_getElem? (i := 21) rfl)))) (mvT hZ (hw _ (List.mem_of_getElem? (i := 21) rfl))) (mvT hZ (hw _ (List.mem_of_getElem? (i := 20) rfl))) (by decide) (backOf (W := 0) (rm104 l Z a0 hw [] b8 b5_x1 ((f0_u3 p6).toInt64) ((0 : Int32) + (((f0_u2 p6).toInt64).toInt32)) (f0_u1 p1) b11_x1 ((f0_u1 p1) * (16 : Int32)) (f4_G_g0 ((f0_u2 p6).toInt64) (0 : Int32) (f0_u1 p1) (fun _ => 0) (f1_u7 (f0_u1 p1) p2 p3 p4 p5)) (f0_u1 p1) (f1_u7 (f0_u1 p1) p5 p4 p3 p2) h14 n0 (Nat.le_trans Z0 KP14.1) ⟨W, C2, C1, eW, eDL, eS, e16, eW, w1, w2, d2, c2, hcs.mp hcase⟩ R14_3 R14_4 R14_1 R14_2 R14_0 gb_b8 A14_1) hZ (hw _ (List.mem_of_getElem? (i := 22) rfl)) (hw _ (List.mem_of_getElem? (i := 7) rfl)) (by decide) (by decide)) q18a q18c (g := (mkF m 111 #[.val (.int p1), .val (.int p2), .val (.int p3), .val (.int p4), .val (.int p5), .val (.int p6), .val (.int (f0_u1 p1)), .val (.int (f0_u2 p6)), .val (.int (f0_u3 p6)), .val (.int ((f0_u2 p6) + (f0_u3 p6))), .val (.int (f0_u4 p6)), .val (.int (f0_u5 p1 p6)), .val (.ref b2_x1), .val (.ref b5_x1), .val (.ref b8), .unset] [(.long ((f0_u3 p6).toInt64)), (.ref b5_x1), (.ref b8)])) rfl (by rw [hml]; rfl) (Steps.refl _) (argsL := [(.ref b5_x1), (.long ((f0_u3 p6).toInt64))]) (rest := []) (lenOf pd_3 rfl) rfl (by show 2 * 0 + _ ≤ _; exact Nat.le_of_eq rfl) (Jvm.hb hby at_111) (fun _ _ => ⟨rfl, e14, (by decide : 4 + 1 ≤ _), (by decide : 75 + 128 ≤ _)⟩)
    dsimp only [Pt.U, Pt.locs, Pt.cells, Pt.slots] at X18 l18 y18 z18 st18 hQ18
    subst l18 y18 z18
    obtain ⟨h18, e18⟩ : ∃ z, T18.heap = z := ⟨_, rfl⟩
    rw [e18] at hQ18
    obtain ⟨b18_x1, rfl, N18q, Kq18, szq_b18_x1, gb_b18_x1, R18_0, R18_1, R18_2, R18_3, R18_4⟩ := hQ18
    have N18 := Fr.app N14 N18q
    have KP18 : Keep h0 h18 [] := KP14.trans Kq18 (allS (Or.inr sz_b8) all0)
    have A18_0 : Ia Z h18 b2_x1 .int (f0_u1 p1) (f1_u7 (f0_u1 p1) p2 p3 p4 p5) := A14_0.keep Kq18 (ninS ne8_2 nin0)
    have A18_1 : Ia Z h18 b5_x1 .int (f0_u1 p1) (f1_u7 (f0_u1 p1) p5 p4 p3 p2) := A14_1.keep Kq18 (ninS ne8_4 nin0)
    have A18_2 : Ia Z h18 b11_x1 .int ((f0_u1 p1) * (16 : Int32)) (f4_G_g0 ((f0_u2 p6).toInt64) (0 : Int32) (f0_u1 p1) (fun _ => 0) (f1_u7 (f0_u1 p1) p2 p3 p4 p5)) := R14_0.keep Kq18 (ninS (Ne.symm ne11_x1_10) nin0)
    have ne18_x1_12 : b2_x1 ≠ b18_x1 := Nat.ne_of_lt (Nat.lt_of_lt_of_le A14_0.lt szq_b18_x1)
    have ne18_x1_14 : b5_x1 ≠ b18_x1 := Nat.ne_of_lt (Nat.lt_of_lt_of_le A14_1.lt szq_b18_x1)
    have ne18_x1_16 : b11_x1 ≠ b18_x1 := Nat.ne_of_lt (Nat.lt_of_lt_of_le R14_0.lt szq_b18_x1)
    have ne18_x1_18 : b8 ≠ b18_x1 := Nat.ne_of_lt (Nat.lt_of_lt_of_le R14_1.lt szq_b18_x1)
    have sz_b18_x1 : h0.size ≤ b18_x1 := Nat.le_trans KP14.1 szq_b18_x1
    have K19 : ∀ t, Steps p.tables e below (T18.setTop (mkF m 114 #[.val (.int p1), .val (.int p2), .val (.int p3), .val (.int p4), .val (.int p5), .val (.int p6), .val (.int (f0_u1 p1)), .val (.int (f0_u2 p6)), .val (.int (f0_u3 p6)), .val (.int ((f0_u2 p6) + (f0_u3 p6))), .val (.int (f0_u4 p6)), .val (.int (f0_u5 p1 p6)), .val (.ref b2_x1), .val (.ref b5_x1), .val (.ref b8), .unset] [])) t → Steps p.tables e below (T14.setTop (mkF m 111 #[.val (.int p1), .val (.int p2), .val (.int p3), .val (.int p4), .val (.int p5), .val (.int p6), .val (.int (f0_u1 p1)), .val (.int (f0_u2 p6)), .val (.int (f0_u3 p6)), .val (.int ((f0_u2 p6) + (f0_u3 p6))), .val (.int (f0_u4 p6)), .val (.int (f0_u5 p1 p6)), .val (.ref b2_x1), .val (.ref b5_x1), .val (.ref b8), .unset] [(.long ((f0_u3 p6).toInt64)), (.ref b5_x1), (.ref b8)])) t := fun t k => st18.trans k
    have K20 : ∀ t, Steps p.tables e below (T18.setTop (mkF m 118 #[.val (.int p1), .val (.int p2), .val (.int p3), .val (.int p4), .val (.int p5), .val (.int p6), .val (.int (f0_u1 p1)), .val (.int (f0_u2 p6)), .val (.int (f0_u3 p6)), .val (.int ((f0_u2 p6) + (f0_u3 p6))), .val (.int (f0_u4 p6)), .val (.int (f0_u5 p1 p6)), .val (.ref b2_x1), .val (.ref b5_x1), .val (.ref b8), .unset] [(.int (f0_u2 p6)), (.int (f0_u4 p6))])) t → Steps p.tables e below (T18.setTop (mkF m 114 #[.val (.int p1), .val (.int p2), .val (.int p3), .val (.int p4), .val (.int p5), .val (.int p6), .val (.int (f0_u1 p1)), .val (.int (f0_u2 p6)), .val (.int (f0_u3 p6)), .val (.int ((f0_u2 p6) + (f0_u3 p6))), .val (.int (f0_u4 p6)), .val (.int (f0_u5 p1 p6)), .val (.ref b2_x1), .val (.ref b5_x1), .val (.ref b8), .unset] [])) t := by
      intro t k
      refine XS.iload X18.here hx rfl (Jvm.hb hby at_114) rfl ?_
      show Steps p.tables e below (T18.setTop (mkF m 116 #[.val (.int p1), .val (.int p2), .val (.int p3), .val (.int p4), .val (.int p5), .val (.int p6), .val (.int (f0_u1 p1)), .val (.int (f0_u2 p6)), .val (.int (f0_u3 p6)), .val (.int ((f0_u2 p6) + (f0_u3 p6))), .val (.int (f0_u4 p6)), .val (.int (f0_u5 p1 p6)), .val (.ref b2_x1), .val (.ref b5_x1), .val (.ref b8), .unset] [(.int (f0_u4 p6))])) t
      refine XS.iload X18.here hx rfl (Jvm.hb hby at_116) rfl ?_
      show Steps p.tables e below (T18.setTop (mkF m 118 #[.val (.int p1), .val (.int p2), .val (.int p3), .val (.int p4), .val (.int p5), .val (.int p6), .val (.int (f0_u1 p1)), .val (.int (f0_u2 p6)), .val (.int (f0_u3 p6)), .val (.int ((f0_u2 p6) + (f0_u3 p6))), .val (.int (f0_u4 p6)), .val (.int (f0_u5 p1 p6)), .val (.ref b2_x1), .val (.ref b5_x1), .val (.ref b8), .unset] [(.int (f0_u2 p6)), (.int (f0_u4 p6))])) t
      exact k
    obtain ⟨Tm21, Lm21, Xm21, em21, Nm21, Km21⟩ : ∃ (T' : State) (L' : List Loc), Stand p l e room_1 s m #[(.int p1), (.int p2), (.int p3), (.int p4), (.int p5), (.int p6)] below meth c T' L' 5 203 ∧ T'.heap = h18 ∧ Fr n0 L' ∧ ∀ t, Steps p.tables e below (T'.setTop (mkF m 148 #[.val (.int p1), .val (.int p2), .val (.int p3), .val (.int p4), .val (.int p5), .val (.int p6), .val (.int (f0_u1 p1)), .val (.int (f0_u2 p6)), .val (.int (f0_u3 p6)), .val (.int ((f0_u2 p6) + (f0_u3 p6))), .val (.int (f0_u4 p6)), .val (.int (f0_u5 p1 p6)), .val (.ref b2_x1), .val (.ref b5_x1), .val (.ref b8), .val (.int (f0_u6 p1 p2 p3 p4 p5 p6))] [])) t → Steps p.tables e below (T18.setTop (mkF m 118 #[.val (.int p1), .val (.int p2), .val (.int p3), .val (.int p4), .val (.int p5), .val (.int p6), .val (.int (f0_u1 p1)), .val (.int (f0_u2 p6)), .val (.int (f0_u3 p6)), .val (.int ((f0_u2 p6) + (f0_u3 p6))), .val (.int (f0_u4 p6)), .val (.int (f0_u5 p1 p6)), .val (.ref b2_x1), .val (.ref b5_x1), .val (.ref b8), .unset] [(.int (f0_u2 p6)), (.int (f0_u4 p6))])) t := by
      by_cases hc21 : (f0_u4 p6) < (f0_u2 p6)
      · have K22 : ∀ t, Steps p.tables e below (T18.setTop (mkF m 121 #[.val (.int p1), .val (.int p2), .val (.int p3), .val (.int p4), .val (.int p5), .val (.int p6), .val (.int (f0_u1 p1)), .val (.int (f0_u2 p6)), .val (.int (f0_u3 p6)), .val (.int ((f0_u2 p6) + (f0_u3 p6))), .val (.int (f0_u4 p6)), .val (.int (f0_u5 p1 p6)), .val (.ref b2_x1), .val (.ref b5_x1), .val (.ref b8), .unset] [])) t → Steps p.tables e below (T18.setTop (mkF m 118 #[.val (.int p1), .val (.int p2), .val (.int p3), .val (.int p4), .val (.int p5), .val (.int p6), .val (.int (f0_u1 p1)), .val (.int (f0_u2 p6)), .val (.int (f0_u3 p6)), .val (.int ((f0_u2 p6) + (f0_u3 p6))), .val (.int (f0_u4 p6)), .val (.int (f0_u5 p1 p6)), .val (.ref b2_x1), .val (.ref b5_x1), .val (.ref b8), .unset] [(.int (f0_u2 p6)), (.int (f0_u4 p6))])) t := by
          intro t k
          refine XS.icmpNo X18.here hx rfl (Jvm.hb hby at_118) rfl (tlt hc21).2.1 ?_
          exact k
        have K23 : ∀ t, Steps p.tables e below (T18.setTop (mkF m 128 #[.val (.int p1), .val (.int p2), .val (.int p3), .val (.int p4), .val (.int p5), .val (.int p6), .val (.int (f0_u1 p1)), .val (.int (f0_u2 p6)), .val (.int (f0_u3 p6)), .val (.int ((f0_u2 p6) + (f0_u3 p6))), .val (.int (f0_u4 p6)), .val (.int (f0_u5 p1 p6)), .val (.ref b2_x1), .val (.ref b5_x1), .val (.ref b8), .unset] [(.int p5), (.int p4), (.int p3), (.int p2), (.int (f0_u5 p1 p6))])) t → Steps p.tables e below (T18.setTop (mkF m 121 #[.val (.int p1), .val (.int p2), .val (.int p3), .val (.int p4), .val (.int p5), .val (.int p6), .val (.int (f0_u1 p1)), .val (.int (f0_u2 p6)), .val (.int (f0_u3 p6)), .val (.int ((f0_u2 p6) + (f0_u3 p6))), .val (.int (f0_u4 p6)), .val (.int (f0_u5 p1 p6)), .val (.ref b2_x1), .val (.ref b5_x1), .val (.ref b8), .unset] [])) t := by
          intro t k
          refine XS.iload X18.here hx rfl (Jvm.hb hby at_121) rfl ?_
          show Steps p.tables e below (T18.setTop (mkF m 123 #[.val (.int p1), .val (.int p2), .val (.int p3), .val (.int p4), .val (.int p5), .val (.int p6), .val (.int (f0_u1 p1)), .val (.int (f0_u2 p6)), .val (.int (f0_u3 p6)), .val (.int ((f0_u2 p6) + (f0_u3 p6))), .val (.int (f0_u4 p6)), .val (.int (f0_u5 p1 p6)), .val (.ref b2_x1), .val (.ref b5_x1), .val (.ref b8), .unset] [(.int (f0_u5 p1 p6))])) t
          refine XS.iloadN X18.here hx rfl (Jvm.hb hby at_123) rfl ?_
          show Steps p.tables e below (T18.setTop (mkF m 124 #[.val (.int p1), .val (.int p2), .val (.int p3), .val (.int p4), .val (.int p5), .val (.int p6), .val (.int (f0_u1 p1)), .val (.int (f0_u2 p6)), .val (.int (f0_u3 p6)), .val (.int ((f0_u2 p6) + (f0_u3 p6))), .val (.int (f0_u4 p6)), .val (.int (f0_u5 p1 p6)), .val (.ref b2_x1), .val (.ref b5_x1), .val (.ref b8), .unset] [(.int p2), (.int (f0_u5 p1 p6))])) t
          refine XS.iloadN X18.here hx rfl (Jvm.hb hby at_124) rfl ?_
          show Steps p.tables e below (T18.setTop (mkF m 125 #[.val (.int p1), .val (.int p2), .val (.int p3), .val (.int p4), .val (.int p5), .val (.int p6), .val (.int (f0_u1 p1)), .val (.int (f0_u2 p6)), .val (.int (f0_u3 p6)), .val (.int ((f0_u2 p6) + (f0_u3 p6))), .val (.int (f0_u4 p6)), .val (.int (f0_u5 p1 p6)), .val (.ref b2_x1), .val (.ref b5_x1), .val (.ref b8), .unset] [(.int p3), (.int p2), (.int (f0_u5 p1 p6))])) t
          refine XS.iloadN X18.here hx rfl (Jvm.hb hby at_125) rfl ?_
          show Steps p.tables e below (T18.setTop (mkF m 126 #[.val (.int p1), .val (.int p2), .val (.int p3), .val (.int p4), .val (.int p5), .val (.int p6), .val (.int (f0_u1 p1)), .val (.int (f0_u2 p6)), .val (.int (f0_u3 p6)), .val (.int ((f0_u2 p6) + (f0_u3 p6))), .val (.int (f0_u4 p6)), .val (.int (f0_u5 p1 p6)), .val (.ref b2_x1), .val (.ref b5_x1), .val (.ref b8), .unset] [(.int p4), (.int p3), (.int p2), (.int (f0_u5 p1 p6))])) t
          refine XS.iload X18.here hx rfl (Jvm.hb hby at_126) rfl ?_
          show Steps p.tables e below (T18.setTop (mkF m 128 #[.val (.int p1), .val (.int p2), .val (.int p3), .val (.int p4), .val (.int p5), .val (.int p6), .val (.int (f0_u1 p1)), .val (.int (f0_u2 p6)), .val (.int (f0_u3 p6)), .val (.int ((f0_u2 p6) + (f0_u3 p6))), .val (.int (f0_u4 p6)), .val (.int (f0_u5 p1 p6)), .val (.ref b2_x1), .val (.ref b5_x1), .val (.ref b8), .unset] [(.int p5), (.int p4), (.int p3), (.int p2), (.int (f0_u5 p1 p6))])) t
          exact k
        obtain ⟨_, _, ⟨T24, L24, k24, n24⟩, -, X24, ⟨Lc24, hQ24, l24, y24, z24⟩, st24⟩ := Jvm.LawKit.callS X18 hx (y := (⟨"com/example/nestway/nestway/sparql/AnswerTableGetPinLaw", "val", "(IIIII)I"⟩ : MethodName)) hown (mvT hZ (hw _ (List.mem_of_getElem? (i := 35) rfl))) (mvT hZ (hw _ (List.mem_of_getElem? (i := 36) rfl))) (mvT hZ (hw _ (List.mem_of_getElem? (i := 2) rfl))) (mvT hZ (hw _ (List.mem_of_getElem? (i := 37) rfl))) (by decide) (backOf (W := 0) (rm6 l Z a0 hw [] (f0_u5 p1 p6) p2 p3 p4 p5 h18 n0 (Nat.le_trans Z0 KP18.1) ) hZ (hw _ (List.mem_of_getElem? (i := 37) rfl)) (hw _ (List.mem_of_getElem? (i := 2) rfl)) (by decide) (by decide)) (g := (mkF m 128 #[.val (.int p1), .val (.int p2), .val (.int p3), .val (.int p4), .val (.int p5), .val (.int p6), .val (.int (f0_u1 p1)), .val (.int (f0_u2 p6)), .val (.int (f0_u3 p6)), .val (.int ((f0_u2 p6) + (f0_u3 p6))), .val (.int (f0_u4 p6)), .val (.int (f0_u5 p1 p6)), .val (.ref b2_x1), .val (.ref b5_x1), .val (.ref b8), .unset] [(.int p5), (.int p4), (.int p3), (.int p2), (.int (f0_u5 p1 p6))])) rfl (by rw [hml]; rfl) (argsL := [(.int (f0_u5 p1 p6)), (.int p2), (.int p3), (.int p4), (.int p5)]) (rest := []) (lenOf pd_6 rfl) rfl (by show 2 * 0 + _ ≤ _; exact Nat.le_of_eq rfl) (Jvm.hb hby at_128) (fun _ _ => ⟨rfl, e18, (by decide : 5 + 0 ≤ _), (by decide : 203 + 0 ≤ _)⟩)
        dsimp only [Pt.U, Pt.locs, Pt.cells, Pt.slots] at X24 l24 y24 z24 st24 hQ24
        subst l24 y24 z24
        obtain ⟨rfl, N24q, e24⟩ := hQ24
        have N24 := Fr.app N18 N24q
        have K25 : ∀ t, Steps p.tables e below (T24.setTop (mkF m 131 #[.val (.int p1), .val (.int p2), .val (.int p3), .val (.int p4), .val (.int p5), .val (.int p6), .val (.int (f0_u1 p1)), .val (.int (f0_u2 p6)), .val (.int (f0_u3 p6)), .val (.int ((f0_u2 p6) + (f0_u3 p6))), .val (.int (f0_u4 p6)), .val (.int (f0_u5 p1 p6)), .val (.ref b2_x1), .val (.ref b5_x1), .val (.ref b8), .unset] [(.int (f6 (f0_u5 p1 p6) p2 p3 p4 p5))])) t → Steps p.tables e below (T18.setTop (mkF m 128 #[.val (.int p1), .val (.int p2), .val (.int p3), .val (.int p4), .val (.int p5), .val (.int p6), .val (.int (f0_u1 p1)), .val (.int (f0_u2 p6)), .val (.int (f0_u3 p6)), .val (.int ((f0_u2 p6) + (f0_u3 p6))), .val (.int (f0_u4 p6)), .val (.int (f0_u5 p1 p6)), .val (.ref b2_x1), .val (.ref b5_x1), .val (.ref b8), .unset] [(.int p5), (.int p4), (.int p3), (.int p2), (.int (f0_u5 p1 p6))])) t := fun t k => st24 _ k
        have K26 : ∀ t, Steps p.tables e below (T24.setTop (mkF m 148 #[.val (.int p1), .val (.int p2), .val (.int p3), .val (.int p4), .val (.int p5), .val (.int p6), .val (.int (f0_u1 p1)), .val (.int (f0_u2 p6)), .val (.int (f0_u3 p6)), .val (.int ((f0_u2 p6) + (f0_u3 p6))), .val (.int (f0_u4 p6)), .val (.int (f0_u5 p1 p6)), .val (.ref b2_x1), .val (.ref b5_x1), .val (.ref b8), .val (.int (f6 (f0_u5 p1 p6) p2 p3 p4 p5))] [])) t → Steps p.tables e below (T24.setTop (mkF m 131 #[.val (.int p1), .val (.int p2), .val (.int p3), .val (.int p4), .val (.int p5), .val (.int p6), .val (.int (f0_u1 p1)), .val (.int (f0_u2 p6)), .val (.int (f0_u3 p6)), .val (.int ((f0_u2 p6) + (f0_u3 p6))), .val (.int (f0_u4 p6)), .val (.int (f0_u5 p1 p6)), .val (.ref b2_x1), .val (.ref b5_x1), .val (.ref b8), .unset] [(.int (f6 (f0_u5 p1 p6) p2 p3 p4 p5))])) t := by
          intro t k
          refine XS.istore X24.here hx rfl (Jvm.hb hby at_131) rfl (l' := #[.val (.int p1), .val (.int p2), .val (.int p3), .val (.int p4), .val (.int p5), .val (.int p6), .val (.int (f0_u1 p1)), .val (.int (f0_u2 p6)), .val (.int (f0_u3 p6)), .val (.int ((f0_u2 p6) + (f0_u3 p6))), .val (.int (f0_u4 p6)), .val (.int (f0_u5 p1 p6)), .val (.ref b2_x1), .val (.ref b5_x1), .val (.ref b8), .val (.int (f6 (f0_u5 p1 p6) p2 p3 p4 p5))]) rfl ?_
          show Steps p.tables e below (T24.setTop (mkF m 133 #[.val (.int p1), .val (.int p2), .val (.int p3), .val (.int p4), .val (.int p5), .val (.int p6), .val (.int (f0_u1 p1)), .val (.int (f0_u2 p6)), .val (.int (f0_u3 p6)), .val (.int ((f0_u2 p6) + (f0_u3 p6))), .val (.int (f0_u4 p6)), .val (.int (f0_u5 p1 p6)), .val (.ref b2_x1), .val (.ref b5_x1), .val (.ref b8), .val (.int (f6 (f0_u5 p1 p6) p2 p3 p4 p5))] [])) t
          refine XS.goto X24.here hx rfl (pc0 := 133) (pc' := 148) rfl (Jvm.hb hby at_133) (by decide) (by decide) ?_
          show Steps p.tables e below (T24.setTop (mkF m 148 #[.val (.int p1), .val (.int p2), .val (.int p3), .val (.int p4), .val (.int p5), .val (.int p6), .val (.int (f0_u1 p1)), .val (.int (f0_u2 p6)), .val (.int (f0_u3 p6)), .val (.int ((f0_u2 p6) + (f0_u3 p6))), .val (.int (f0_u4 p6)), .val (.int (f0_u5 p1 p6)), .val (.ref b2_x1), .val (.ref b5_x1), .val (.ref b8), .val (.int (f6 (f0_u5 p1 p6) p2 p3 p4 p5))] [])) t
          exact k
        refine ⟨T24, _, X24, e24, N24, fun t k => ?_⟩
        rw [show (f0_u6 p1 p2 p3 p4 p5 p6) = (f6 (f0_u5 p1 p6) p2 p3 p4 p5) from if_pos hc21] at k
        exact K22 _ (K23 _ (K25 _ (K26 _ (k))))
      · have K27 : ∀ t, Steps p.tables e below (T18.setTop (mkF m 136 #[.val (.int p1), .val (.int p2), .val (.int p3), .val (.int p4), .val (.int p5), .val (.int p6), .val (.int (f0_u1 p1)), .val (.int (f0_u2 p6)), .val (.int (f0_u3 p6)), .val (.int ((f0_u2 p6) + (f0_u3 p6))), .val (.int (f0_u4 p6)), .val (.int (f0_u5 p1 p6)), .val (.ref b2_x1), .val (.ref b5_x1), .val (.ref b8), .unset] [])) t → Steps p.tables e below (T18.setTop (mkF m 118 #[.val (.int p1), .val (.int p2), .val (.int p3), .val (.int p4), .val (.int p5), .val (.int p6), .val (.int (f0_u1 p1)), .val (.int (f0_u2 p6)), .val (.int (f0_u3 p6)), .val (.int ((f0_u2 p6) + (f0_u3 p6))), .val (.int (f0_u4 p6)), .val (.int (f0_u5 p1 p6)), .val (.ref b2_x1), .val (.ref b5_x1), .val (.ref b8), .unset] [(.int (f0_u2 p6)), (.int (f0_u4 p6))])) t := by
          intro t k
          refine XS.icmpYes X18.here hx rfl (pc0 := 118) (pc' := 136) rfl (Jvm.hb hby at_118) rfl (flt hc21).2.1 (by decide) (by decide) ?_
          exact k
        have K28 : ∀ t, Steps p.tables e below (T18.setTop (mkF m 143 #[.val (.int p1), .val (.int p2), .val (.int p3), .val (.int p4), .val (.int p5), .val (.int p6), .val (.int (f0_u1 p1)), .val (.int (f0_u2 p6)), .val (.int (f0_u3 p6)), .val (.int ((f0_u2 p6) + (f0_u3 p6))), .val (.int (f0_u4 p6)), .val (.int (f0_u5 p1 p6)), .val (.ref b2_x1), .val (.ref b5_x1), .val (.ref b8), .unset] [(.int p2), (.int p3), (.int p4), (.int p5), (.int (f0_u5 p1 p6))])) t → Steps p.tables e below (T18.setTop (mkF m 136 #[.val (.int p1), .val (.int p2), .val (.int p3), .val (.int p4), .val (.int p5), .val (.int p6), .val (.int (f0_u1 p1)), .val (.int (f0_u2 p6)), .val (.int (f0_u3 p6)), .val (.int ((f0_u2 p6) + (f0_u3 p6))), .val (.int (f0_u4 p6)), .val (.int (f0_u5 p1 p6)), .val (.ref b2_x1), .val (.ref b5_x1), .val (.ref b8), .unset] [])) t := by
          intro t k
          refine XS.iload X18.here hx rfl (Jvm.hb hby at_136) rfl ?_
          show Steps p.tables e below (T18.setTop (mkF m 138 #[.val (.int p1), .val (.int p2), .val (.int p3), .val (.int p4), .val (.int p5), .val (.int p6), .val (.int (f0_u1 p1)), .val (.int (f0_u2 p6)), .val (.int (f0_u3 p6)), .val (.int ((f0_u2 p6) + (f0_u3 p6))), .val (.int (f0_u4 p6)), .val (.int (f0_u5 p1 p6)), .val (.ref b2_x1), .val (.ref b5_x1), .val (.ref b8), .unset] [(.int (f0_u5 p1 p6))])) t
          refine XS.iload X18.here hx rfl (Jvm.hb hby at_138) rfl ?_
          show Steps p.tables e below (T18.setTop (mkF m 140 #[.val (.int p1), .val (.int p2), .val (.int p3), .val (.int p4), .val (.int p5), .val (.int p6), .val (.int (f0_u1 p1)), .val (.int (f0_u2 p6)), .val (.int (f0_u3 p6)), .val (.int ((f0_u2 p6) + (f0_u3 p6))), .val (.int (f0_u4 p6)), .val (.int (f0_u5 p1 p6)), .val (.ref b2_x1), .val (.ref b5_x1), .val (.ref b8), .unset] [(.int p5), (.int (f0_u5 p1 p6))])) t
          refine XS.iloadN X18.here hx rfl (Jvm.hb hby at_140) rfl ?_
          show Steps p.tables e below (T18.setTop (mkF m 141 #[.val (.int p1), .val (.int p2), .val (.int p3), .val (.int p4), .val (.int p5), .val (.int p6), .val (.int (f0_u1 p1)), .val (.int (f0_u2 p6)), .val (.int (f0_u3 p6)), .val (.int ((f0_u2 p6) + (f0_u3 p6))), .val (.int (f0_u4 p6)), .val (.int (f0_u5 p1 p6)), .val (.ref b2_x1), .val (.ref b5_x1), .val (.ref b8), .unset] [(.int p4), (.int p5), (.int (f0_u5 p1 p6))])) t
          refine XS.iloadN X18.here hx rfl (Jvm.hb hby at_141) rfl ?_
          show Steps p.tables e below (T18.setTop (mkF m 142 #[.val (.int p1), .val (.int p2), .val (.int p3), .val (.int p4), .val (.int p5), .val (.int p6), .val (.int (f0_u1 p1)), .val (.int (f0_u2 p6)), .val (.int (f0_u3 p6)), .val (.int ((f0_u2 p6) + (f0_u3 p6))), .val (.int (f0_u4 p6)), .val (.int (f0_u5 p1 p6)), .val (.ref b2_x1), .val (.ref b5_x1), .val (.ref b8), .unset] [(.int p3), (.int p4), (.int p5), (.int (f0_u5 p1 p6))])) t
          refine XS.iloadN X18.here hx rfl (Jvm.hb hby at_142) rfl ?_
          show Steps p.tables e below (T18.setTop (mkF m 143 #[.val (.int p1), .val (.int p2), .val (.int p3), .val (.int p4), .val (.int p5), .val (.int p6), .val (.int (f0_u1 p1)), .val (.int (f0_u2 p6)), .val (.int (f0_u3 p6)), .val (.int ((f0_u2 p6) + (f0_u3 p6))), .val (.int (f0_u4 p6)), .val (.int (f0_u5 p1 p6)), .val (.ref b2_x1), .val (.ref b5_x1), .val (.ref b8), .unset] [(.int p2), (.int p3), (.int p4), (.int p5), (.int (f0_u5 p1 p6))])) t
          exact k
        obtain ⟨_, _, ⟨T29, L29, k29, n29⟩, -, X29, ⟨Lc29, hQ29, l29, y29, z29⟩, st29⟩ := Jvm.LawKit.callS X18 hx (y := (⟨"com/example/nestway/nestway/sparql/AnswerTableGetPinLaw", "val", "(IIIII)I"⟩ : MethodName)) hown (mvT hZ (hw _ (List.mem_of_getElem? (i := 35) rfl))) (mvT hZ (hw _ (List.mem_of_getElem? (i := 36) rfl))) (mvT hZ (hw _ (List.mem_of_getElem? (i := 2) rfl))) (mvT hZ (hw _ (List.mem_of_getElem? (i := 37) rfl))) (by decide) (backOf (W := 0) (rm6 l Z a0 hw [] (f0_u5 p1 p6) p5 p4 p3 p2 h18 n0 (Nat.le_trans Z0 KP18.1) ) hZ (hw _ (List.mem_of_getElem? (i := 37) rfl)) (hw _ (List.mem_of_getElem? (i := 2) rfl)) (by decide) (by decide)) (g := (mkF m 143 #[.val (.int p1), .val (.int p2), .val (.int p3), .val (.int p4), .val (.int p5), .val (.int p6), .val (.int (f0_u1 p1)), .val (.int (f0_u2 p6)), .val (.int (f0_u3 p6)), .val (.int ((f0_u2 p6) + (f0_u3 p6))), .val (.int (f0_u4 p6)), .val (.int (f0_u5 p1 p6)), .val (.ref b2_x1), .val (.ref b5_x1), .val (.ref b8), .unset] [(.int p2), (.int p3), (.int p4), (.int p5), (.int (f0_u5 p1 p6))])) rfl (by rw [hml]; rfl) (argsL := [(.int (f0_u5 p1 p6)), (.int p5), (.int p4), (.int p3), (.int p2)]) (rest := []) (lenOf pd_6 rfl) rfl (by show 2 * 0 + _ ≤ _; exact Nat.le_of_eq rfl) (Jvm.hb hby at_143) (fun _ _ => ⟨rfl, e18, (by decide : 5 + 0 ≤ _), (by decide : 203 + 0 ≤ _)⟩)
        dsimp only [Pt.U, Pt.locs, Pt.cells, Pt.slots] at X29 l29 y29 z29 st29 hQ29
        subst l29 y29 z29
        obtain ⟨rfl, N29q, e29⟩ := hQ29
        have N29 := Fr.app N18 N29q
        have K30 : ∀ t, Steps p.tables e below (T29.setTop (mkF m 146 #[.val (.int p1), .val (.int p2), .val (.int p3), .val (.int p4), .val (.int p5), .val (.int p6), .val (.int (f0_u1 p1)), .val (.int (f0_u2 p6)), .val (.int (f0_u3 p6)), .val (.int ((f0_u2 p6) + (f0_u3 p6))), .val (.int (f0_u4 p6)), .val (.int (f0_u5 p1 p6)), .val (.ref b2_x1), .val (.ref b5_x1), .val (.ref b8), .unset] [(.int (f6 (f0_u5 p1 p6) p5 p4 p3 p2))])) t → Steps p.tables e below (T18.setTop (mkF m 143 #[.val (.int p1), .val (.int p2), .val (.int p3), .val (.int p4), .val (.int p5), .val (.int p6), .val (.int (f0_u1 p1)), .val (.int (f0_u2 p6)), .val (.int (f0_u3 p6)), .val (.int ((f0_u2 p6) + (f0_u3 p6))), .val (.int (f0_u4 p6)), .val (.int (f0_u5 p1 p6)), .val (.ref b2_x1), .val (.ref b5_x1), .val (.ref b8), .unset] [(.int p2), (.int p3), (.int p4), (.int p5), (.int (f0_u5 p1 p6))])) t := fun t k => st29 _ k
        have K31 : ∀ t, Steps p.tables e below (T29.setTop (mkF m 148 #[.val (.int p1), .val (.int p2), .val (.int p3), .val (.int p4), .val (.int p5), .val (.int p6), .val (.int (f0_u1 p1)), .val (.int (f0_u2 p6)), .val (.int (f0_u3 p6)), .val (.int ((f0_u2 p6) + (f0_u3 p6))), .val (.int (f0_u4 p6)), .val (.int (f0_u5 p1 p6)), .val (.ref b2_x1), .val (.ref b5_x1), .val (.ref b8), .val (.int (f6 (f0_u5 p1 p6) p5 p4 p3 p2))] [])) t → Steps p.tables e below (T29.setTop (mkF m 146 #[.val (.int p1), .val (.int p2), .val (.int p3), .val (.int p4), .val (.int p5), .val (.int p6), .val (.int (f0_u1 p1)), .val (.int (f0_u2 p6)), .val (.int (f0_u3 p6)), .val (.int ((f0_u2 p6) + (f0_u3 p6))), .val (.int (f0_u4 p6)), .val (.int (f0_u5 p1 p6)), .val (.ref b2_x1), .val (.ref b5_x1), .val (.ref b8), .unset] [(.int (f6 (f0_u5 p1 p6) p5 p4 p3 p2))])) t := by
          intro t k
          refine XS.istore X29.here hx rfl (Jvm.hb hby at_146) rfl (l' := #[.val (.int p1), .val (.int p2), .val (.int p3), .val (.int p4), .val (.int p5), .val (.int p6), .val (.int (f0_u1 p1)), .val (.int (f0_u2 p6)), .val (.int (f0_u3 p6)), .val (.int ((f0_u2 p6) + (f0_u3 p6))), .val (.int (f0_u4 p6)), .val (.int (f0_u5 p1 p6)), .val (.ref b2_x1), .val (.ref b5_x1), .val (.ref b8), .val (.int (f6 (f0_u5 p1 p6) p5 p4 p3 p2))]) rfl ?_
          show Steps p.tables e below (T29.setTop (mkF m 148 #[.val (.int p1), .val (.int p2), .val (.int p3), .val (.int p4), .val (.int p5), .val (.int p6), .val (.int (f0_u1 p1)), .val (.int (f0_u2 p6)), .val (.int (f0_u3 p6)), .val (.int ((f0_u2 p6) + (f0_u3 p6))), .val (.int (f0_u4 p6)), .val (.int (f0_u5 p1 p6)), .val (.ref b2_x1), .val (.ref b5_x1), .val (.ref b8), .val (.int (f6 (f0_u5 p1 p6) p5 p4 p3 p2))] [])) t
          exact k
        refine ⟨T29, _, X29, e29, N29, fun t k => ?_⟩
        rw [show (f0_u6 p1 p2 p3 p4 p5 p6) = (f6 (f0_u5 p1 p6) p5 p4 p3 p2) from if_neg hc21] at k
        exact K27 _ (K28 _ (K30 _ (K31 _ (k))))
    have K32 : ∀ t, Steps p.tables e below (Tm21.setTop (mkF m 154 #[.val (.int p1), .val (.int p2), .val (.int p3), .val (.int p4), .val (.int p5), .val (.int p6), .val (.int (f0_u1 p1)), .val (.int (f0_u2 p6)), .val (.int (f0_u3 p6)), .val (.int ((f0_u2 p6) + (f0_u3 p6))), .val (.int (f0_u4 p6)), .val (.int (f0_u5 p1 p6)), .val (.ref b2_x1), .val (.ref b5_x1), .val (.ref b8), .val (.int (f0_u6 p1 p2 p3 p4 p5 p6))] [(.int (f0_u5 p1 p6)), (.int (f0_u4 p6)), (.ref b8)])) t → Steps p.tables e below (Tm21.setTop (mkF m 148 #[.val (.int p1), .val (.int p2), .val (.int p3), .val (.int p4), .val (.int p5), .val (.int p6), .val (.int (f0_u1 p1)), .val (.int (f0_u2 p6)), .val (.int (f0_u3 p6)), .val (.int ((f0_u2 p6) + (f0_u3 p6))), .val (.int (f0_u4 p6)), .val (.int (f0_u5 p1 p6)), .val (.ref b2_x1), .val (.ref b5_x1), .val (.ref b8), .val (.int (f0_u6 p1 p2 p3 p4 p5 p6))] [])) t := by
      intro t k
      refine XS.aload Xm21.here hx rfl (Jvm.hb hby at_148) rfl rfl ?_
      show Steps p.tables e below (Tm21.setTop (mkF m 150 #[.val (.int p1), .val (.int p2), .val (.int p3), .val (.int p4), .val (.int p5), .val (.int p6), .val (.int (f0_u1 p1)), .val (.int (f0_u2 p6)), .val (.int (f0_u3 p6)), .val (.int ((f0_u2 p6) + (f0_u3 p6))), .val (.int (f0_u4 p6)), .val (.int (f0_u5 p1 p6)), .val (.ref b2_x1), .val (.ref b5_x1), .val (.ref b8), .val (.int (f0_u6 p1 p2 p3 p4 p5 p6))] [(.ref b8)])) t
      refine XS.iload Xm21.here hx rfl (Jvm.hb hby at_150) rfl ?_
      show Steps p.tables e below (Tm21.setTop (mkF m 152 #[.val (.int p1), .val (.int p2), .val (.int p3), .val (.int p4), .val (.int p5), .val (.int p6), .val (.int (f0_u1 p1)), .val (.int (f0_u2 p6)), .val (.int (f0_u3 p6)), .val (.int ((f0_u2 p6) + (f0_u3 p6))), .val (.int (f0_u4 p6)), .val (.int (f0_u5 p1 p6)), .val (.ref b2_x1), .val (.ref b5_x1), .val (.ref b8), .val (.int (f0_u6 p1 p2 p3 p4 p5 p6))] [(.int (f0_u4 p6)), (.ref b8)])) t
      refine XS.iload Xm21.here hx rfl (Jvm.hb hby at_152) rfl ?_
      show Steps p.tables e below (Tm21.setTop (mkF m 154 #[.val (.int p1), .val (.int p2), .val (.int p3), .val (.int p4), .val (.int p5), .val (.int p6), .val (.int (f0_u1 p1)), .val (.int (f0_u2 p6)), .val (.int (f0_u3 p6)), .val (.int ((f0_u2 p6) + (f0_u3 p6))), .val (.int (f0_u4 p6)), .val (.int (f0_u5 p1 p6)), .val (.ref b2_x1), .val (.ref b5_x1), .val (.ref b8), .val (.int (f0_u6 p1 p2 p3 p4 p5 p6))] [(.int (f0_u5 p1 p6)), (.int (f0_u4 p6)), (.ref b8)])) t
      exact k
    obtain ⟨cq33, kq33, q33a, q33b, q33c⟩ := isOf hZ em21 R18_1
    obtain ⟨_, _, ⟨T33, L33, k33, n33⟩, -, X33, ⟨Lc33, hQ33, l33, y33, z33⟩, st33⟩ := Xm21.virtualBack hx (y := (⟨"com/example/nestway/nestway/sparql/AnswerTable", "get", "(II)I"⟩ : MethodName)) (z := (⟨"com/example/nestway/nestway/sparql/AnswerTable", "get", "(II)I"⟩ : MethodName)) hown (mvT hZ (hw _ (List.mem_of_getElem? (i := 38) rfl))) (mvT hZ (hw _ (List.mem_of_getElem? (i := 39) rfl))) (notFace_of_selects (args := #[]) (mvT hZ (hw _ (List.mem_of_getElem? (i := 41) rfl)))) (mvT hZ (hw _ (List.mem_of_getElem? (i := 41) rfl))) (mvT hZ (hw _ (List.mem_of_getElem? (i := 40) rfl))) (by decide) (backOf (W := 0) (rm7 l Z a0 hw [] b8 (f0_u4 p6) (f0_u5 p1 p6) b18_x1 (f0_u1 p1) ((f9 (2147483639 : Int64) (f8 (f105_u1 ((f0_u3 p6).toInt64) ((0 : Int32) + (((f0_u2 p6).toInt64).toInt32)) (f0_u1 p1)) ((2 : Int64) * (((f0_u1 p1) * (16 : Int32)).toInt64)))).toInt32) (f104_G_g0 ((f0_u3 p6).toInt64) ((0 : Int32) + (((f0_u2 p6).toInt64).toInt32)) (f0_u1 p1) ((f0_u1 p1) * (16 : Int32)) (f4_G_g0 ((f0_u2 p6).toInt64) (0 : Int32) (f0_u1 p1) (fun _ => 0) (f1_u7 (f0_u1 p1) p2 p3 p4 p5)) (f1_u7 (f0_u1 p1) p5 p4 p3 p2)) h18 n0 (Nat.le_trans Z0 KP18.1) (by have hl : (f9 (2147483639 : Int64) (f8 (f105_u1 ((f0_u3 p6).toInt64) ((0 : Int32) + (((f0_u2 p6).toInt64).toInt32)) (f0_u1 p1)) ((2 : Int64) * ((f0_u1 p1 * 16).toInt64)))).toInt32 = Int32.ofNat (32 * W) := (by rw [eS, e16, eDL, eW]; exact own_len W C2 C1 w2 d2 c2); rw [er, eq, eW] at *; rw [hl]; exact own_idx r W q (32 * W) (Nat.lt_of_lt_of_le (own_ix r W q (C1 + C2) hr hq) (Nat.mul_le_mul (by omega) (Nat.le_refl W))) (by omega) (by omega) w2) R18_3 R18_0 R18_2) hZ (hw _ (List.mem_of_getElem? (i := 42) rfl)) (hw _ (List.mem_of_getElem? (i := 7) rfl)) (by decide) (by decide)) q33a q33c (g := (mkF m 154 #[.val (.int p1), .val (.int p2), .val (.int p3), .val (.int p4), .val (.int p5), .val (.int p6), .val (.int (f0_u1 p1)), .val (.int (f0_u2 p6)), .val (.int (f0_u3 p6)), .val (.int ((f0_u2 p6) + (f0_u3 p6))), .val (.int (f0_u4 p6)), .val (.int (f0_u5 p1 p6)), .val (.ref b2_x1), .val (.ref b5_x1), .val (.ref b8), .val (.int (f0_u6 p1 p2 p3 p4 p5 p6))] [(.int (f0_u5 p1 p6)), (.int (f0_u4 p6)), (.ref b8)])) rfl (by rw [hml]; rfl) (Steps.refl _) (argsL := [(.int (f0_u4 p6)), (.int (f0_u5 p1 p6))]) (rest := []) (lenOf pd_7 rfl) rfl (by show 2 * 0 + _ ≤ _; exact Nat.le_of_eq rfl) (Jvm.hb hby at_154) (fun _ _ => ⟨rfl, em21, (by decide : 5 + 0 ≤ _), (by decide : 203 + 0 ≤ _)⟩)
    dsimp only [Pt.U, Pt.locs, Pt.cells, Pt.slots] at X33 l33 y33 z33 st33 hQ33
    subst l33 y33 z33
    obtain ⟨rfl, N33q, e33⟩ := hQ33
    have N33 := Fr.app Nm21 N33q
    have K34 : ∀ t, Steps p.tables e below (T33.setTop (mkF m 157 #[.val (.int p1), .val (.int p2), .val (.int p3), .val (.int p4), .val (.int p5), .val (.int p6), .val (.int (f0_u1 p1)), .val (.int (f0_u2 p6)), .val (.int (f0_u3 p6)), .val (.int ((f0_u2 p6) + (f0_u3 p6))), .val (.int (f0_u4 p6)), .val (.int (f0_u5 p1 p6)), .val (.ref b2_x1), .val (.ref b5_x1), .val (.ref b8), .val (.int (f0_u6 p1 p2 p3 p4 p5 p6))] [(.int (f7 (f0_u4 p6) (f0_u5 p1 p6) (f0_u1 p1) (f104_G_g0 ((f0_u3 p6).toInt64) ((0 : Int32) + (((f0_u2 p6).toInt64).toInt32)) (f0_u1 p1) ((f0_u1 p1) * (16 : Int32)) (f4_G_g0 ((f0_u2 p6).toInt64) (0 : Int32) (f0_u1 p1) (fun _ => 0) (f1_u7 (f0_u1 p1) p2 p3 p4 p5)) (f1_u7 (f0_u1 p1) p5 p4 p3 p2))))])) t → Steps p.tables e below (Tm21.setTop (mkF m 154 #[.val (.int p1), .val (.int p2), .val (.int p3), .val (.int p4), .val (.int p5), .val (.int p6), .val (.int (f0_u1 p1)), .val (.int (f0_u2 p6)), .val (.int (f0_u3 p6)), .val (.int ((f0_u2 p6) + (f0_u3 p6))), .val (.int (f0_u4 p6)), .val (.int (f0_u5 p1 p6)), .val (.ref b2_x1), .val (.ref b5_x1), .val (.ref b8), .val (.int (f0_u6 p1 p2 p3 p4 p5 p6))] [(.int (f0_u5 p1 p6)), (.int (f0_u4 p6)), (.ref b8)])) t := fun t k => st33.trans k
    have K35 : ∀ t, Steps p.tables e below (T33.setTop (mkF m 159 #[.val (.int p1), .val (.int p2), .val (.int p3), .val (.int p4), .val (.int p5), .val (.int p6), .val (.int (f0_u1 p1)), .val (.int (f0_u2 p6)), .val (.int (f0_u3 p6)), .val (.int ((f0_u2 p6) + (f0_u3 p6))), .val (.int (f0_u4 p6)), .val (.int (f0_u5 p1 p6)), .val (.ref b2_x1), .val (.ref b5_x1), .val (.ref b8), .val (.int (f0_u6 p1 p2 p3 p4 p5 p6))] [(.int (f0_u6 p1 p2 p3 p4 p5 p6)), (.int (f7 (f0_u4 p6) (f0_u5 p1 p6) (f0_u1 p1) (f104_G_g0 ((f0_u3 p6).toInt64) ((0 : Int32) + (((f0_u2 p6).toInt64).toInt32)) (f0_u1 p1) ((f0_u1 p1) * (16 : Int32)) (f4_G_g0 ((f0_u2 p6).toInt64) (0 : Int32) (f0_u1 p1) (fun _ => 0) (f1_u7 (f0_u1 p1) p2 p3 p4 p5)) (f1_u7 (f0_u1 p1) p5 p4 p3 p2))))])) t → Steps p.tables e below (T33.setTop (mkF m 157 #[.val (.int p1), .val (.int p2), .val (.int p3), .val (.int p4), .val (.int p5), .val (.int p6), .val (.int (f0_u1 p1)), .val (.int (f0_u2 p6)), .val (.int (f0_u3 p6)), .val (.int ((f0_u2 p6) + (f0_u3 p6))), .val (.int (f0_u4 p6)), .val (.int (f0_u5 p1 p6)), .val (.ref b2_x1), .val (.ref b5_x1), .val (.ref b8), .val (.int (f0_u6 p1 p2 p3 p4 p5 p6))] [(.int (f7 (f0_u4 p6) (f0_u5 p1 p6) (f0_u1 p1) (f104_G_g0 ((f0_u3 p6).toInt64) ((0 : Int32) + (((f0_u2 p6).toInt64).toInt32)) (f0_u1 p1) ((f0_u1 p1) * (16 : Int32)) (f4_G_g0 ((f0_u2 p6).toInt64) (0 : Int32) (f0_u1 p1) (fun _ => 0) (f1_u7 (f0_u1 p1) p2 p3 p4 p5)) (f1_u7 (f0_u1 p1) p5 p4 p3 p2))))])) t := by
      intro t k
      refine XS.iload X33.here hx rfl (Jvm.hb hby at_157) rfl ?_
      show Steps p.tables e below (T33.setTop (mkF m 159 #[.val (.int p1), .val (.int p2), .val (.int p3), .val (.int p4), .val (.int p5), .val (.int p6), .val (.int (f0_u1 p1)), .val (.int (f0_u2 p6)), .val (.int (f0_u3 p6)), .val (.int ((f0_u2 p6) + (f0_u3 p6))), .val (.int (f0_u4 p6)), .val (.int (f0_u5 p1 p6)), .val (.ref b2_x1), .val (.ref b5_x1), .val (.ref b8), .val (.int (f0_u6 p1 p2 p3 p4 p5 p6))] [(.int (f0_u6 p1 p2 p3 p4 p5 p6)), (.int (f7 (f0_u4 p6) (f0_u5 p1 p6) (f0_u1 p1) (f104_G_g0 ((f0_u3 p6).toInt64) ((0 : Int32) + (((f0_u2 p6).toInt64).toInt32)) (f0_u1 p1) ((f0_u1 p1) * (16 : Int32)) (f4_G_g0 ((f0_u2 p6).toInt64) (0 : Int32) (f0_u1 p1) (fun _ => 0) (f1_u7 (f0_u1 p1) p2 p3 p4 p5)) (f1_u7 (f0_u1 p1) p5 p4 p3 p2))))])) t
      exact k
    by_cases hc36 : (f7 (f0_u4 p6) (f0_u5 p1 p6) (f0_u1 p1) (f104_G_g0 ((f0_u3 p6).toInt64) ((0 : Int32) + (((f0_u2 p6).toInt64).toInt32)) (f0_u1 p1) ((f0_u1 p1) * (16 : Int32)) (f4_G_g0 ((f0_u2 p6).toInt64) (0 : Int32) (f0_u1 p1) (fun _ => 0) (f1_u7 (f0_u1 p1) p2 p3 p4 p5)) (f1_u7 (f0_u1 p1) p5 p4 p3 p2))) = (f0_u6 p1 p2 p3 p4 p5 p6)
    · have K37 : ∀ t, Steps p.tables e below (T33.setTop (mkF m 162 #[.val (.int p1), .val (.int p2), .val (.int p3), .val (.int p4), .val (.int p5), .val (.int p6), .val (.int (f0_u1 p1)), .val (.int (f0_u2 p6)), .val (.int (f0_u3 p6)), .val (.int ((f0_u2 p6) + (f0_u3 p6))), .val (.int (f0_u4 p6)), .val (.int (f0_u5 p1 p6)), .val (.ref b2_x1), .val (.ref b5_x1), .val (.ref b8), .val (.int (f0_u6 p1 p2 p3 p4 p5 p6))] [])) t → Steps p.tables e below (T33.setTop (mkF m 159 #[.val (.int p1), .val (.int p2), .val (.int p3), .val (.int p4), .val (.int p5), .val (.int p6), .val (.int (f0_u1 p1)), .val (.int (f0_u2 p6)), .val (.int (f0_u3 p6)), .val (.int ((f0_u2 p6) + (f0_u3 p6))), .val (.int (f0_u4 p6)), .val (.int (f0_u5 p1 p6)), .val (.ref b2_x1), .val (.ref b5_x1), .val (.ref b8), .val (.int (f0_u6 p1 p2 p3 p4 p5 p6))] [(.int (f0_u6 p1 p2 p3 p4 p5 p6)), (.int (f7 (f0_u4 p6) (f0_u5 p1 p6) (f0_u1 p1) (f104_G_g0 ((f0_u3 p6).toInt64) ((0 : Int32) + (((f0_u2 p6).toInt64).toInt32)) (f0_u1 p1) ((f0_u1 p1) * (16 : Int32)) (f4_G_g0 ((f0_u2 p6).toInt64) (0 : Int32) (f0_u1 p1) (fun _ => 0) (f1_u7 (f0_u1 p1) p2 p3 p4 p5)) (f1_u7 (f0_u1 p1) p5 p4 p3 p2))))])) t := by
        intro t k
        refine XS.icmpNo X33.here hx rfl (Jvm.hb hby at_159) rfl (teq hc36).2 ?_
        exact k
      have K38 : ∀ t, Steps p.tables e below (T33.setTop (mkF m 167 #[.val (.int p1), .val (.int p2), .val (.int p3), .val (.int p4), .val (.int p5), .val (.int p6), .val (.int (f0_u1 p1)), .val (.int (f0_u2 p6)), .val (.int (f0_u3 p6)), .val (.int ((f0_u2 p6) + (f0_u3 p6))), .val (.int (f0_u4 p6)), .val (.int (f0_u5 p1 p6)), .val (.ref b2_x1), .val (.ref b5_x1), .val (.ref b8), .val (.int (f0_u6 p1 p2 p3 p4 p5 p6))] [(.int (1 : Int32))])) t → Steps p.tables e below (T33.setTop (mkF m 162 #[.val (.int p1), .val (.int p2), .val (.int p3), .val (.int p4), .val (.int p5), .val (.int p6), .val (.int (f0_u1 p1)), .val (.int (f0_u2 p6)), .val (.int (f0_u3 p6)), .val (.int ((f0_u2 p6) + (f0_u3 p6))), .val (.int (f0_u4 p6)), .val (.int (f0_u5 p1 p6)), .val (.ref b2_x1), .val (.ref b5_x1), .val (.ref b8), .val (.int (f0_u6 p1 p2 p3 p4 p5 p6))] [])) t := by
        intro t k
        refine XS.iconst X33.here hx rfl (Jvm.hb hby at_162) ?_
        show Steps p.tables e below (T33.setTop (mkF m 163 #[.val (.int p1), .val (.int p2), .val (.int p3), .val (.int p4), .val (.int p5), .val (.int p6), .val (.int (f0_u1 p1)), .val (.int (f0_u2 p6)), .val (.int (f0_u3 p6)), .val (.int ((f0_u2 p6) + (f0_u3 p6))), .val (.int (f0_u4 p6)), .val (.int (f0_u5 p1 p6)), .val (.ref b2_x1), .val (.ref b5_x1), .val (.ref b8), .val (.int (f0_u6 p1 p2 p3 p4 p5 p6))] [(.int (1 : Int32))])) t
        refine XS.goto X33.here hx rfl (pc0 := 163) (pc' := 167) rfl (Jvm.hb hby at_163) (by decide) (by decide) ?_
        show Steps p.tables e below (T33.setTop (mkF m 167 #[.val (.int p1), .val (.int p2), .val (.int p3), .val (.int p4), .val (.int p5), .val (.int p6), .val (.int (f0_u1 p1)), .val (.int (f0_u2 p6)), .val (.int (f0_u3 p6)), .val (.int ((f0_u2 p6) + (f0_u3 p6))), .val (.int (f0_u4 p6)), .val (.int (f0_u5 p1 p6)), .val (.ref b2_x1), .val (.ref b5_x1), .val (.ref b8), .val (.int (f0_u6 p1 p2 p3 p4 p5 p6))] [(.int (1 : Int32))])) t
        exact k
      obtain ⟨fs, hr, hrun, hended, hW, hsame⟩ := X33.leave (v := some (.int (1 : Int32))) (fun h => by rw [Bd.returns] at h; cases h) Bd.notSynchronized
      refine ⟨_, _, pre0 _ (K1 _ (K3 _ (K4 _ (K6 _ (K7 _ (K9 _ (K10 _ (K12 _ (K13 _ (K15 _ (K16 _ (K19 _ (K20 _ (Km21 _ (K32 _ (K34 _ (K35 _ (K37 _ (K38 _ (retN X33 hx (t := .boolean) Bd.returns (by simp) (Jvm.hb hby at_167) hr)))))))))))))))))))), hrun, hended, _, _, rfl, ?_, ⟨_, rfl⟩, hW, hsame.mono (by decide) (by decide)⟩
      show Q0 Z p1 p2 p3 p4 p5 p6 h0 n0 _ T33.heap _
      rw [e33]
      exact ⟨congrArg (fun z => some (Value.int z)) (show (1 : Int32) = f0 p1 p2 p3 p4 p5 p6 from Eq.symm ((if_pos hc17).trans (if_pos hc36))), N33, KP18⟩
    · have K39 : ∀ t, Steps p.tables e below (T33.setTop (mkF m 166 #[.val (.int p1), .val (.int p2), .val (.int p3), .val (.int p4), .val (.int p5), .val (.int p6), .val (.int (f0_u1 p1)), .val (.int (f0_u2 p6)), .val (.int (f0_u3 p6)), .val (.int ((f0_u2 p6) + (f0_u3 p6))), .val (.int (f0_u4 p6)), .val (.int (f0_u5 p1 p6)), .val (.ref b2_x1), .val (.ref b5_x1), .val (.ref b8), .val (.int (f0_u6 p1 p2 p3 p4 p5 p6))] [])) t → Steps p.tables e below (T33.setTop (mkF m 159 #[.val (.int p1), .val (.int p2), .val (.int p3), .val (.int p4), .val (.int p5), .val (.int p6), .val (.int (f0_u1 p1)), .val (.int (f0_u2 p6)), .val (.int (f0_u3 p6)), .val (.int ((f0_u2 p6) + (f0_u3 p6))), .val (.int (f0_u4 p6)), .val (.int (f0_u5 p1 p6)), .val (.ref b2_x1), .val (.ref b5_x1), .val (.ref b8), .val (.int (f0_u6 p1 p2 p3 p4 p5 p6))] [(.int (f0_u6 p1 p2 p3 p4 p5 p6)), (.int (f7 (f0_u4 p6) (f0_u5 p1 p6) (f0_u1 p1) (f104_G_g0 ((f0_u3 p6).toInt64) ((0 : Int32) + (((f0_u2 p6).toInt64).toInt32)) (f0_u1 p1) ((f0_u1 p1) * (16 : Int32)) (f4_G_g0 ((f0_u2 p6).toInt64) (0 : Int32) (f0_u1 p1) (fun _ => 0) (f1_u7 (f0_u1 p1) p2 p3 p4 p5)) (f1_u7 (f0_u1 p1) p5 p4 p3 p2))))])) t := by
        intro t k
        refine XS.icmpYes X33.here hx rfl (pc0 := 159) (pc' := 166) rfl (Jvm.hb hby at_159) rfl (feq hc36).2 (by decide) (by decide) ?_
        exact k
      have K40 : ∀ t, Steps p.tables e below (T33.setTop (mkF m 167 #[.val (.int p1), .val (.int p2), .val (.int p3), .val (.int p4), .val (.int p5), .val (.int p6), .val (.int (f0_u1 p1)), .val (.int (f0_u2 p6)), .val (.int (f0_u3 p6)), .val (.int ((f0_u2 p6) + (f0_u3 p6))), .val (.int (f0_u4 p6)), .val (.int (f0_u5 p1 p6)), .val (.ref b2_x1), .val (.ref b5_x1), .val (.ref b8), .val (.int (f0_u6 p1 p2 p3 p4 p5 p6))] [(.int (0 : Int32))])) t → Steps p.tables e below (T33.setTop (mkF m 166 #[.val (.int p1), .val (.int p2), .val (.int p3), .val (.int p4), .val (.int p5), .val (.int p6), .val (.int (f0_u1 p1)), .val (.int (f0_u2 p6)), .val (.int (f0_u3 p6)), .val (.int ((f0_u2 p6) + (f0_u3 p6))), .val (.int (f0_u4 p6)), .val (.int (f0_u5 p1 p6)), .val (.ref b2_x1), .val (.ref b5_x1), .val (.ref b8), .val (.int (f0_u6 p1 p2 p3 p4 p5 p6))] [])) t := by
        intro t k
        refine XS.iconst X33.here hx rfl (Jvm.hb hby at_166) ?_
        show Steps p.tables e below (T33.setTop (mkF m 167 #[.val (.int p1), .val (.int p2), .val (.int p3), .val (.int p4), .val (.int p5), .val (.int p6), .val (.int (f0_u1 p1)), .val (.int (f0_u2 p6)), .val (.int (f0_u3 p6)), .val (.int ((f0_u2 p6) + (f0_u3 p6))), .val (.int (f0_u4 p6)), .val (.int (f0_u5 p1 p6)), .val (.ref b2_x1), .val (.ref b5_x1), .val (.ref b8), .val (.int (f0_u6 p1 p2 p3 p4 p5 p6))] [(.int (0 : Int32))])) t
        exact k
      obtain ⟨fs, hr, hrun, hended, hW, hsame⟩ := X33.leave (v := some (.int (0 : Int32))) (fun h => by rw [Bd.returns] at h; cases h) Bd.notSynchronized
      refine ⟨_, _, pre0 _ (K1 _ (K3 _ (K4 _ (K6 _ (K7 _ (K9 _ (K10 _ (K12 _ (K13 _ (K15 _ (K16 _ (K19 _ (K20 _ (Km21 _ (K32 _ (K34 _ (K35 _ (K39 _ (K40 _ (retN X33 hx (t := .boolean) Bd.returns (by simp) (Jvm.hb hby at_167) hr)))))))))))))))))))), hrun, hended, _, _, rfl, ?_, ⟨_, rfl⟩, hW, hsame.mono (by decide) (by decide)⟩
      show Q0 Z p1 p2 p3 p4 p5 p6 h0 n0 _ T33.heap _
      rw [e33]
      exact ⟨congrArg (fun z => some (Value.int z)) (show (0 : Int32) = f0 p1 p2 p3 p4 p5 p6 from Eq.symm ((if_pos hc17).trans (if_neg hc36))), N33, KP18⟩
  · have hcase := hc17
    obtain ⟨cq41, kq41, q41a, q41b, q41c⟩ := isOf hZ e14 R14_3
    obtain ⟨_, _, ⟨T41, L41, k41, n41⟩, -, X41, ⟨Lc41, hQ41, l41, y41, z41⟩, st41⟩ := X14.virtualBack hx (y := (⟨"com/example/nestway/nestway/sparql/AnswerTable", "add", "([IJ)V"⟩ : MethodName)) (z := (⟨"com/example/nestway/nestway/sparql/AnswerTable", "add", "([IJ)V"⟩ : MethodName)) hown (mvT hZ (hw _ (List.mem_of_getElem? (i := 18) rfl))) (mvT hZ (hw _ (List.mem_of_getElem? (i := 19) rfl))) (notFace_of_selects (args := #[]) (mvT hZ (hw _ (List.mem_of_getElem? (i := 21) rfl)))) (mvT hZ (hw _ (List.mem_of_getElem? (i := 21) rfl))) (mvT hZ (hw _ (List.mem_of_getElem? (i := 20) rfl))) (by decide) (backOf (W := 0) (rm4 l Z a0 hw [] b8 b5_x1 ((f0_u3 p6).toInt64) ((0 : Int32) + (((f0_u2 p6).toInt64).toInt32)) (f0_u1 p1) b11_x1 ((f0_u1 p1) * (16 : Int32)) (f4_G_g0 ((f0_u2 p6).toInt64) (0 : Int32) (f0_u1 p1) (fun _ => 0) (f1_u7 (f0_u1 p1) p2 p3 p4 p5)) (f0_u1 p1) (f1_u7 (f0_u1 p1) p5 p4 p3 p2) h14 n0 (Nat.le_trans Z0 KP14.1) ne11_x1_8 ⟨W, C2, C1, 16 * W, eW, eDL, eS, e16, eW, w1, w2, d2, c2, Nat.mul_le_mul (Nat.le_of_not_lt fun z => hcase (hcs.mpr z)) (Nat.le_refl W), by omega⟩ R14_3 R14_4 R14_1 R14_2 R14_0 gb_b8 A14_1 gb_b11_x1) hZ (hw _ (List.mem_of_getElem? (i := 22) rfl)) (hw _ (List.mem_of_getElem? (i := 7) rfl)) (by decide) (by decide)) q41a q41c (g := (mkF m 111 #[.val (.int p1), .val (.int p2), .val (.int p3), .val (.int p4), .val (.int p5), .val (.int p6), .val (.int (f0_u1 p1)), .val (.int (f0_u2 p6)), .val (.int (f0_u3 p6)), .val (.int ((f0_u2 p6) + (f0_u3 p6))), .val (.int (f0_u4 p6)), .val (.int (f0_u5 p1 p6)), .val (.ref b2_x1), .val (.ref b5_x1), .val (.ref b8), .unset] [(.long ((f0_u3 p6).toInt64)), (.ref b5_x1), (.ref b8)])) rfl (by rw [hml]; rfl) (Steps.refl _) (argsL := [(.ref b5_x1), (.long ((f0_u3 p6).toInt64))]) (rest := []) (lenOf pd_3 rfl) rfl (by show 2 * 0 + _ ≤ _; exact Nat.le_of_eq rfl) (Jvm.hb hby at_111) (fun _ _ => ⟨rfl, e14, (by decide : 4 + 0 ≤ _), (by decide : 75 + 0 ≤ _)⟩)
    dsimp only [Pt.U, Pt.locs, Pt.cells, Pt.slots] at X41 l41 y41 z41 st41 hQ41
    subst l41 y41 z41
    obtain ⟨h41, e41⟩ : ∃ z, T41.heap = z := ⟨_, rfl⟩
    rw [e41] at hQ41
    obtain ⟨rfl, N41q, Kq41, R41_0, R41_1, R41_2, R41_3, R41_4⟩ := hQ41
    have N41 := Fr.app N14 N41q
    have KP41 : Keep h0 h41 [] := KP14.trans Kq41 (allS (Or.inr sz_b8) (allS (Or.inr sz_b11_x1) all0))
    have A41_0 : Ia Z h41 b2_x1 .int (f0_u1 p1) (f1_u7 (f0_u1 p1) p2 p3 p4 p5) := A14_0.keep Kq41 (ninS ne8_2 (ninS ne11_x1_6 nin0))
    have A41_1 : Ia Z h41 b5_x1 .int (f0_u1 p1) (f1_u7 (f0_u1 p1) p5 p4 p3 p2) := A14_1.keep Kq41 (ninS ne8_4 (ninS ne11_x1_8 nin0))
    have K42 : ∀ t, Steps p.tables e below (T41.setTop (mkF m 114 #[.val (.int p1), .val (.int p2), .val (.int p3), .val (.int p4), .val (.int p5), .val (.int p6), .val (.int (f0_u1 p1)), .val (.int (f0_u2 p6)), .val (.int (f0_u3 p6)), .val (.int ((f0_u2 p6) + (f0_u3 p6))), .val (.int (f0_u4 p6)), .val (.int (f0_u5 p1 p6)), .val (.ref b2_x1), .val (.ref b5_x1), .val (.ref b8), .unset] [])) t → Steps p.tables e below (T14.setTop (mkF m 111 #[.val (.int p1), .val (.int p2), .val (.int p3), .val (.int p4), .val (.int p5), .val (.int p6), .val (.int (f0_u1 p1)), .val (.int (f0_u2 p6)), .val (.int (f0_u3 p6)), .val (.int ((f0_u2 p6) + (f0_u3 p6))), .val (.int (f0_u4 p6)), .val (.int (f0_u5 p1 p6)), .val (.ref b2_x1), .val (.ref b5_x1), .val (.ref b8), .unset] [(.long ((f0_u3 p6).toInt64)), (.ref b5_x1), (.ref b8)])) t := fun t k => st41.trans k
    have K43 : ∀ t, Steps p.tables e below (T41.setTop (mkF m 118 #[.val (.int p1), .val (.int p2), .val (.int p3), .val (.int p4), .val (.int p5), .val (.int p6), .val (.int (f0_u1 p1)), .val (.int (f0_u2 p6)), .val (.int (f0_u3 p6)), .val (.int ((f0_u2 p6) + (f0_u3 p6))), .val (.int (f0_u4 p6)), .val (.int (f0_u5 p1 p6)), .val (.ref b2_x1), .val (.ref b5_x1), .val (.ref b8), .unset] [(.int (f0_u2 p6)), (.int (f0_u4 p6))])) t → Steps p.tables e below (T41.setTop (mkF m 114 #[.val (.int p1), .val (.int p2), .val (.int p3), .val (.int p4), .val (.int p5), .val (.int p6), .val (.int (f0_u1 p1)), .val (.int (f0_u2 p6)), .val (.int (f0_u3 p6)), .val (.int ((f0_u2 p6) + (f0_u3 p6))), .val (.int (f0_u4 p6)), .val (.int (f0_u5 p1 p6)), .val (.ref b2_x1), .val (.ref b5_x1), .val (.ref b8), .unset] [])) t := by
      intro t k
      refine XS.iload X41.here hx rfl (Jvm.hb hby at_114) rfl ?_
      show Steps p.tables e below (T41.setTop (mkF m 116 #[.val (.int p1), .val (.int p2), .val (.int p3), .val (.int p4), .val (.int p5), .val (.int p6), .val (.int (f0_u1 p1)), .val (.int (f0_u2 p6)), .val (.int (f0_u3 p6)), .val (.int ((f0_u2 p6) + (f0_u3 p6))), .val (.int (f0_u4 p6)), .val (.int (f0_u5 p1 p6)), .val (.ref b2_x1), .val (.ref b5_x1), .val (.ref b8), .unset] [(.int (f0_u4 p6))])) t
      refine XS.iload X41.here hx rfl (Jvm.hb hby at_116) rfl ?_
      show Steps p.tables e below (T41.setTop (mkF m 118 #[.val (.int p1), .val (.int p2), .val (.int p3), .val (.int p4), .val (.int p5), .val (.int p6), .val (.int (f0_u1 p1)), .val (.int (f0_u2 p6)), .val (.int (f0_u3 p6)), .val (.int ((f0_u2 p6) + (f0_u3 p6))), .val (.int (f0_u4 p6)), .val (.int (f0_u5 p1 p6)), .val (.ref b2_x1), .val (.ref b5_x1), .val (.ref b8), .unset] [(.int (f0_u2 p6)), (.int (f0_u4 p6))])) t
      exact k
    obtain ⟨Tm44, Lm44, Xm44, em44, Nm44, Km44⟩ : ∃ (T' : State) (L' : List Loc), Stand p l e room_1 s m #[(.int p1), (.int p2), (.int p3), (.int p4), (.int p5), (.int p6)] below meth c T' L' 4 75 ∧ T'.heap = h41 ∧ Fr n0 L' ∧ ∀ t, Steps p.tables e below (T'.setTop (mkF m 148 #[.val (.int p1), .val (.int p2), .val (.int p3), .val (.int p4), .val (.int p5), .val (.int p6), .val (.int (f0_u1 p1)), .val (.int (f0_u2 p6)), .val (.int (f0_u3 p6)), .val (.int ((f0_u2 p6) + (f0_u3 p6))), .val (.int (f0_u4 p6)), .val (.int (f0_u5 p1 p6)), .val (.ref b2_x1), .val (.ref b5_x1), .val (.ref b8), .val (.int (f0_u6 p1 p2 p3 p4 p5 p6))] [])) t → Steps p.tables e below (T41.setTop (mkF m 118 #[.val (.int p1), .val (.int p2), .val (.int p3), .val (.int p4), .val (.int p5), .val (.int p6), .val (.int (f0_u1 p1)), .val (.int (f0_u2 p6)), .val (.int (f0_u3 p6)), .val (.int ((f0_u2 p6) + (f0_u3 p6))), .val (.int (f0_u4 p6)), .val (.int (f0_u5 p1 p6)), .val (.ref b2_x1), .val (.ref b5_x1), .val (.ref b8), .unset] [(.int (f0_u2 p6)), (.int (f0_u4 p6))])) t := by
      by_cases hc44 : (f0_u4 p6) < (f0_u2 p6)
      · have K45 : ∀ t, Steps p.tables e below (T41.setTop (mkF m 121 #[.val (.int p1), .val (.int p2), .val (.int p3), .val (.int p4), .val (.int p5), .val (.int p6), .val (.int (f0_u1 p1)), .val (.int (f0_u2 p6)), .val (.int (f0_u3 p6)), .val (.int ((f0_u2 p6) + (f0_u3 p6))), .val (.int (f0_u4 p6)), .val (.int (f0_u5 p1 p6)), .val (.ref b2_x1), .val (.ref b5_x1), .val (.ref b8), .unset] [])) t → Steps p.tables e below (T41.setTop (mkF m 118 #[.val (.int p1), .val (.int p2), .val (.int p3), .val (.int p4), .val (.int p5), .val (.int p6), .val (.int (f0_u1 p1)), .val (.int (f0_u2 p6)), .val (.int (f0_u3 p6)), .val (.int ((f0_u2 p6) + (f0_u3 p6))), .val (.int (f0_u4 p6)), .val (.int (f0_u5 p1 p6)), .val (.ref b2_x1), .val (.ref b5_x1), .val (.ref b8), .unset] [(.int (f0_u2 p6)), (.int (f0_u4 p6))])) t := by
          intro t k
          refine XS.icmpNo X41.here hx rfl (Jvm.hb hby at_118) rfl (tlt hc44).2.1 ?_
          exact k
        have K46 : ∀ t, Steps p.tables e below (T41.setTop (mkF m 128 #[.val (.int p1), .val (.int p2), .val (.int p3), .val (.int p4), .val (.int p5), .val (.int p6), .val (.int (f0_u1 p1)), .val (.int (f0_u2 p6)), .val (.int (f0_u3 p6)), .val (.int ((f0_u2 p6) + (f0_u3 p6))), .val (.int (f0_u4 p6)), .val (.int (f0_u5 p1 p6)), .val (.ref b2_x1), .val (.ref b5_x1), .val (.ref b8), .unset] [(.int p5), (.int p4), (.int p3), (.int p2), (.int (f0_u5 p1 p6))])) t → Steps p.tables e below (T41.setTop (mkF m 121 #[.val (.int p1), .val (.int p2), .val (.int p3), .val (.int p4), .val (.int p5), .val (.int p6), .val (.int (f0_u1 p1)), .val (.int (f0_u2 p6)), .val (.int (f0_u3 p6)), .val (.int ((f0_u2 p6) + (f0_u3 p6))), .val (.int (f0_u4 p6)), .val (.int (f0_u5 p1 p6)), .val (.ref b2_x1), .val (.ref b5_x1), .val (.ref b8), .unset] [])) t := by
          intro t k
          refine XS.iload X41.here hx rfl (Jvm.hb hby at_121) rfl ?_
          show Steps p.tables e below (T41.setTop (mkF m 123 #[.val (.int p1), .val (.int p2), .val (.int p3), .val (.int p4), .val (.int p5), .val (.int p6), .val (.int (f0_u1 p1)), .val (.int (f0_u2 p6)), .val (.int (f0_u3 p6)), .val (.int ((f0_u2 p6) + (f0_u3 p6))), .val (.int (f0_u4 p6)), .val (.int (f0_u5 p1 p6)), .val (.ref b2_x1), .val (.ref b5_x1), .val (.ref b8), .unset] [(.int (f0_u5 p1 p6))])) t
          refine XS.iloadN X41.here hx rfl (Jvm.hb hby at_123) rfl ?_
          show Steps p.tables e below (T41.setTop (mkF m 124 #[.val (.int p1), .val (.int p2), .val (.int p3), .val (.int p4), .val (.int p5), .val (.int p6), .val (.int (f0_u1 p1)), .val (.int (f0_u2 p6)), .val (.int (f0_u3 p6)), .val (.int ((f0_u2 p6) + (f0_u3 p6))), .val (.int (f0_u4 p6)), .val (.int (f0_u5 p1 p6)), .val (.ref b2_x1), .val (.ref b5_x1), .val (.ref b8), .unset] [(.int p2), (.int (f0_u5 p1 p6))])) t
          refine XS.iloadN X41.here hx rfl (Jvm.hb hby at_124) rfl ?_
          show Steps p.tables e below (T41.setTop (mkF m 125 #[.val (.int p1), .val (.int p2), .val (.int p3), .val (.int p4), .val (.int p5), .val (.int p6), .val (.int (f0_u1 p1)), .val (.int (f0_u2 p6)), .val (.int (f0_u3 p6)), .val (.int ((f0_u2 p6) + (f0_u3 p6))), .val (.int (f0_u4 p6)), .val (.int (f0_u5 p1 p6)), .val (.ref b2_x1), .val (.ref b5_x1), .val (.ref b8), .unset] [(.int p3), (.int p2), (.int (f0_u5 p1 p6))])) t
          refine XS.iloadN X41.here hx rfl (Jvm.hb hby at_125) rfl ?_
          show Steps p.tables e below (T41.setTop (mkF m 126 #[.val (.int p1), .val (.int p2), .val (.int p3), .val (.int p4), .val (.int p5), .val (.int p6), .val (.int (f0_u1 p1)), .val (.int (f0_u2 p6)), .val (.int (f0_u3 p6)), .val (.int ((f0_u2 p6) + (f0_u3 p6))), .val (.int (f0_u4 p6)), .val (.int (f0_u5 p1 p6)), .val (.ref b2_x1), .val (.ref b5_x1), .val (.ref b8), .unset] [(.int p4), (.int p3), (.int p2), (.int (f0_u5 p1 p6))])) t
          refine XS.iload X41.here hx rfl (Jvm.hb hby at_126) rfl ?_
          show Steps p.tables e below (T41.setTop (mkF m 128 #[.val (.int p1), .val (.int p2), .val (.int p3), .val (.int p4), .val (.int p5), .val (.int p6), .val (.int (f0_u1 p1)), .val (.int (f0_u2 p6)), .val (.int (f0_u3 p6)), .val (.int ((f0_u2 p6) + (f0_u3 p6))), .val (.int (f0_u4 p6)), .val (.int (f0_u5 p1 p6)), .val (.ref b2_x1), .val (.ref b5_x1), .val (.ref b8), .unset] [(.int p5), (.int p4), (.int p3), (.int p2), (.int (f0_u5 p1 p6))])) t
          exact k
        obtain ⟨_, _, ⟨T47, L47, k47, n47⟩, -, X47, ⟨Lc47, hQ47, l47, y47, z47⟩, st47⟩ := Jvm.LawKit.callS X41 hx (y := (⟨"com/example/nestway/nestway/sparql/AnswerTableGetPinLaw", "val", "(IIIII)I"⟩ : MethodName)) hown (mvT hZ (hw _ (List.mem_of_getElem? (i := 35) rfl))) (mvT hZ (hw _ (List.mem_of_getElem? (i := 36) rfl))) (mvT hZ (hw _ (List.mem_of_getElem? (i := 2) rfl))) (mvT hZ (hw _ (List.mem_of_getElem? (i := 37) rfl))) (by decide) (backOf (W := 0) (rm6 l Z a0 hw [] (f0_u5 p1 p6) p2 p3 p4 p5 h41 n0 (Nat.le_trans Z0 KP41.1) ) hZ (hw _ (List.mem_of_getElem? (i := 37) rfl)) (hw _ (List.mem_of_getElem? (i := 2) rfl)) (by decide) (by decide)) (g := (mkF m 128 #[.val (.int p1), .val (.int p2), .val (.int p3), .val (.int p4), .val (.int p5), .val (.int p6), .val (.int (f0_u1 p1)), .val (.int (f0_u2 p6)), .val (.int (f0_u3 p6)), .val (.int ((f0_u2 p6) + (f0_u3 p6))), .val (.int (f0_u4 p6)), .val (.int (f0_u5 p1 p6)), .val (.ref b2_x1), .val (.ref b5_x1), .val (.ref b8), .unset] [(.int p5), (.int p4), (.int p3), (.int p2), (.int (f0_u5 p1 p6))])) rfl (by rw [hml]; rfl) (argsL := [(.int (f0_u5 p1 p6)), (.int p2), (.int p3), (.int p4), (.int p5)]) (rest := []) (lenOf pd_6 rfl) rfl (by show 2 * 0 + _ ≤ _; exact Nat.le_of_eq rfl) (Jvm.hb hby at_128) (fun _ _ => ⟨rfl, e41, (by decide : 4 + 0 ≤ _), (by decide : 75 + 0 ≤ _)⟩)
        dsimp only [Pt.U, Pt.locs, Pt.cells, Pt.slots] at X47 l47 y47 z47 st47 hQ47
        subst l47 y47 z47
        obtain ⟨rfl, N47q, e47⟩ := hQ47
        have N47 := Fr.app N41 N47q
        have K48 : ∀ t, Steps p.tables e below (T47.setTop (mkF m 131 #[.val (.int p1), .val (.int p2), .val (.int p3), .val (.int p4), .val (.int p5), .val (.int p6), .val (.int (f0_u1 p1)), .val (.int (f0_u2 p6)), .val (.int (f0_u3 p6)), .val (.int ((f0_u2 p6) + (f0_u3 p6))), .val (.int (f0_u4 p6)), .val (.int (f0_u5 p1 p6)), .val (.ref b2_x1), .val (.ref b5_x1), .val (.ref b8), .unset] [(.int (f6 (f0_u5 p1 p6) p2 p3 p4 p5))])) t → Steps p.tables e below (T41.setTop (mkF m 128 #[.val (.int p1), .val (.int p2), .val (.int p3), .val (.int p4), .val (.int p5), .val (.int p6), .val (.int (f0_u1 p1)), .val (.int (f0_u2 p6)), .val (.int (f0_u3 p6)), .val (.int ((f0_u2 p6) + (f0_u3 p6))), .val (.int (f0_u4 p6)), .val (.int (f0_u5 p1 p6)), .val (.ref b2_x1), .val (.ref b5_x1), .val (.ref b8), .unset] [(.int p5), (.int p4), (.int p3), (.int p2), (.int (f0_u5 p1 p6))])) t := fun t k => st47 _ k
        have K49 : ∀ t, Steps p.tables e below (T47.setTop (mkF m 148 #[.val (.int p1), .val (.int p2), .val (.int p3), .val (.int p4), .val (.int p5), .val (.int p6), .val (.int (f0_u1 p1)), .val (.int (f0_u2 p6)), .val (.int (f0_u3 p6)), .val (.int ((f0_u2 p6) + (f0_u3 p6))), .val (.int (f0_u4 p6)), .val (.int (f0_u5 p1 p6)), .val (.ref b2_x1), .val (.ref b5_x1), .val (.ref b8), .val (.int (f6 (f0_u5 p1 p6) p2 p3 p4 p5))] [])) t → Steps p.tables e below (T47.setTop (mkF m 131 #[.val (.int p1), .val (.int p2), .val (.int p3), .val (.int p4), .val (.int p5), .val (.int p6), .val (.int (f0_u1 p1)), .val (.int (f0_u2 p6)), .val (.int (f0_u3 p6)), .val (.int ((f0_u2 p6) + (f0_u3 p6))), .val (.int (f0_u4 p6)), .val (.int (f0_u5 p1 p6)), .val (.ref b2_x1), .val (.ref b5_x1), .val (.ref b8), .unset] [(.int (f6 (f0_u5 p1 p6) p2 p3 p4 p5))])) t := by
          intro t k
          refine XS.istore X47.here hx rfl (Jvm.hb hby at_131) rfl (l' := #[.val (.int p1), .val (.int p2), .val (.int p3), .val (.int p4), .val (.int p5), .val (.int p6), .val (.int (f0_u1 p1)), .val (.int (f0_u2 p6)), .val (.int (f0_u3 p6)), .val (.int ((f0_u2 p6) + (f0_u3 p6))), .val (.int (f0_u4 p6)), .val (.int (f0_u5 p1 p6)), .val (.ref b2_x1), .val (.ref b5_x1), .val (.ref b8), .val (.int (f6 (f0_u5 p1 p6) p2 p3 p4 p5))]) rfl ?_
          show Steps p.tables e below (T47.setTop (mkF m 133 #[.val (.int p1), .val (.int p2), .val (.int p3), .val (.int p4), .val (.int p5), .val (.int p6), .val (.int (f0_u1 p1)), .val (.int (f0_u2 p6)), .val (.int (f0_u3 p6)), .val (.int ((f0_u2 p6) + (f0_u3 p6))), .val (.int (f0_u4 p6)), .val (.int (f0_u5 p1 p6)), .val (.ref b2_x1), .val (.ref b5_x1), .val (.ref b8), .val (.int (f6 (f0_u5 p1 p6) p2 p3 p4 p5))] [])) t
          refine XS.goto X47.here hx rfl (pc0 := 133) (pc' := 148) rfl (Jvm.hb hby at_133) (by decide) (by decide) ?_
          show Steps p.tables e below (T47.setTop (mkF m 148 #[.val (.int p1), .val (.int p2), .val (.int p3), .val (.int p4), .val (.int p5), .val (.int p6), .val (.int (f0_u1 p1)), .val (.int (f0_u2 p6)), .val (.int (f0_u3 p6)), .val (.int ((f0_u2 p6) + (f0_u3 p6))), .val (.int (f0_u4 p6)), .val (.int (f0_u5 p1 p6)), .val (.ref b2_x1), .val (.ref b5_x1), .val (.ref b8), .val (.int (f6 (f0_u5 p1 p6) p2 p3 p4 p5))] [])) t
          exact k
        refine ⟨T47, _, X47, e47, N47, fun t k => ?_⟩
        rw [show (f0_u6 p1 p2 p3 p4 p5 p6) = (f6 (f0_u5 p1 p6) p2 p3 p4 p5) from if_pos hc44] at k
        exact K45 _ (K46 _ (K48 _ (K49 _ (k))))
      · have K50 : ∀ t, Steps p.tables e below (T41.setTop (mkF m 136 #[.val (.int p1), .val (.int p2), .val (.int p3), .val (.int p4), .val (.int p5), .val (.int p6), .val (.int (f0_u1 p1)), .val (.int (f0_u2 p6)), .val (.int (f0_u3 p6)), .val (.int ((f0_u2 p6) + (f0_u3 p6))), .val (.int (f0_u4 p6)), .val (.int (f0_u5 p1 p6)), .val (.ref b2_x1), .val (.ref b5_x1), .val (.ref b8), .unset] [])) t → Steps p.tables e below (T41.setTop (mkF m 118 #[.val (.int p1), .val (.int p2), .val (.int p3), .val (.int p4), .val (.int p5), .val (.int p6), .val (.int (f0_u1 p1)), .val (.int (f0_u2 p6)), .val (.int (f0_u3 p6)), .val (.int ((f0_u2 p6) + (f0_u3 p6))), .val (.int (f0_u4 p6)), .val (.int (f0_u5 p1 p6)), .val (.ref b2_x1), .val (.ref b5_x1), .val (.ref b8), .unset] [(.int (f0_u2 p6)), (.int (f0_u4 p6))])) t := by
          intro t k
          refine XS.icmpYes X41.here hx rfl (pc0 := 118) (pc' := 136) rfl (Jvm.hb hby at_118) rfl (flt hc44).2.1 (by decide) (by decide) ?_
          exact k
        have K51 : ∀ t, Steps p.tables e below (T41.setTop (mkF m 143 #[.val (.int p1), .val (.int p2), .val (.int p3), .val (.int p4), .val (.int p5), .val (.int p6), .val (.int (f0_u1 p1)), .val (.int (f0_u2 p6)), .val (.int (f0_u3 p6)), .val (.int ((f0_u2 p6) + (f0_u3 p6))), .val (.int (f0_u4 p6)), .val (.int (f0_u5 p1 p6)), .val (.ref b2_x1), .val (.ref b5_x1), .val (.ref b8), .unset] [(.int p2), (.int p3), (.int p4), (.int p5), (.int (f0_u5 p1 p6))])) t → Steps p.tables e below (T41.setTop (mkF m 136 #[.val (.int p1), .val (.int p2), .val (.int p3), .val (.int p4), .val (.int p5), .val (.int p6), .val (.int (f0_u1 p1)), .val (.int (f0_u2 p6)), .val (.int (f0_u3 p6)), .val (.int ((f0_u2 p6) + (f0_u3 p6))), .val (.int (f0_u4 p6)), .val (.int (f0_u5 p1 p6)), .val (.ref b2_x1), .val (.ref b5_x1), .val (.ref b8), .unset] [])) t := by
          intro t k
          refine XS.iload X41.here hx rfl (Jvm.hb hby at_136) rfl ?_
          show Steps p.tables e below (T41.setTop (mkF m 138 #[.val (.int p1), .val (.int p2), .val (.int p3), .val (.int p4), .val (.int p5), .val (.int p6), .val (.int (f0_u1 p1)), .val (.int (f0_u2 p6)), .val (.int (f0_u3 p6)), .val (.int ((f0_u2 p6) + (f0_u3 p6))), .val (.int (f0_u4 p6)), .val (.int (f0_u5 p1 p6)), .val (.ref b2_x1), .val (.ref b5_x1), .val (.ref b8), .unset] [(.int (f0_u5 p1 p6))])) t
          refine XS.iload X41.here hx rfl (Jvm.hb hby at_138) rfl ?_
          show Steps p.tables e below (T41.setTop (mkF m 140 #[.val (.int p1), .val (.int p2), .val (.int p3), .val (.int p4), .val (.int p5), .val (.int p6), .val (.int (f0_u1 p1)), .val (.int (f0_u2 p6)), .val (.int (f0_u3 p6)), .val (.int ((f0_u2 p6) + (f0_u3 p6))), .val (.int (f0_u4 p6)), .val (.int (f0_u5 p1 p6)), .val (.ref b2_x1), .val (.ref b5_x1), .val (.ref b8), .unset] [(.int p5), (.int (f0_u5 p1 p6))])) t
          refine XS.iloadN X41.here hx rfl (Jvm.hb hby at_140) rfl ?_
          show Steps p.tables e below (T41.setTop (mkF m 141 #[.val (.int p1), .val (.int p2), .val (.int p3), .val (.int p4), .val (.int p5), .val (.int p6), .val (.int (f0_u1 p1)), .val (.int (f0_u2 p6)), .val (.int (f0_u3 p6)), .val (.int ((f0_u2 p6) + (f0_u3 p6))), .val (.int (f0_u4 p6)), .val (.int (f0_u5 p1 p6)), .val (.ref b2_x1), .val (.ref b5_x1), .val (.ref b8), .unset] [(.int p4), (.int p5), (.int (f0_u5 p1 p6))])) t
          refine XS.iloadN X41.here hx rfl (Jvm.hb hby at_141) rfl ?_
          show Steps p.tables e below (T41.setTop (mkF m 142 #[.val (.int p1), .val (.int p2), .val (.int p3), .val (.int p4), .val (.int p5), .val (.int p6), .val (.int (f0_u1 p1)), .val (.int (f0_u2 p6)), .val (.int (f0_u3 p6)), .val (.int ((f0_u2 p6) + (f0_u3 p6))), .val (.int (f0_u4 p6)), .val (.int (f0_u5 p1 p6)), .val (.ref b2_x1), .val (.ref b5_x1), .val (.ref b8), .unset] [(.int p3), (.int p4), (.int p5), (.int (f0_u5 p1 p6))])) t
          refine XS.iloadN X41.here hx rfl (Jvm.hb hby at_142) rfl ?_
          show Steps p.tables e below (T41.setTop (mkF m 143 #[.val (.int p1), .val (.int p2), .val (.int p3), .val (.int p4), .val (.int p5), .val (.int p6), .val (.int (f0_u1 p1)), .val (.int (f0_u2 p6)), .val (.int (f0_u3 p6)), .val (.int ((f0_u2 p6) + (f0_u3 p6))), .val (.int (f0_u4 p6)), .val (.int (f0_u5 p1 p6)), .val (.ref b2_x1), .val (.ref b5_x1), .val (.ref b8), .unset] [(.int p2), (.int p3), (.int p4), (.int p5), (.int (f0_u5 p1 p6))])) t
          exact k
        obtain ⟨_, _, ⟨T52, L52, k52, n52⟩, -, X52, ⟨Lc52, hQ52, l52, y52, z52⟩, st52⟩ := Jvm.LawKit.callS X41 hx (y := (⟨"com/example/nestway/nestway/sparql/AnswerTableGetPinLaw", "val", "(IIIII)I"⟩ : MethodName)) hown (mvT hZ (hw _ (List.mem_of_getElem? (i := 35) rfl))) (mvT hZ (hw _ (List.mem_of_getElem? (i := 36) rfl))) (mvT hZ (hw _ (List.mem_of_getElem? (i := 2) rfl))) (mvT hZ (hw _ (List.mem_of_getElem? (i := 37) rfl))) (by decide) (backOf (W := 0) (rm6 l Z a0 hw [] (f0_u5 p1 p6) p5 p4 p3 p2 h41 n0 (Nat.le_trans Z0 KP41.1) ) hZ (hw _ (List.mem_of_getElem? (i := 37) rfl)) (hw _ (List.mem_of_getElem? (i := 2) rfl)) (by decide) (by decide)) (g := (mkF m 143 #[.val (.int p1), .val (.int p2), .val (.int p3), .val (.int p4), .val (.int p5), .val (.int p6), .val (.int (f0_u1 p1)), .val (.int (f0_u2 p6)), .val (.int (f0_u3 p6)), .val (.int ((f0_u2 p6) + (f0_u3 p6))), .val (.int (f0_u4 p6)), .val (.int (f0_u5 p1 p6)), .val (.ref b2_x1), .val (.ref b5_x1), .val (.ref b8), .unset] [(.int p2), (.int p3), (.int p4), (.int p5), (.int (f0_u5 p1 p6))])) rfl (by rw [hml]; rfl) (argsL := [(.int (f0_u5 p1 p6)), (.int p5), (.int p4), (.int p3), (.int p2)]) (rest := []) (lenOf pd_6 rfl) rfl (by show 2 * 0 + _ ≤ _; exact Nat.le_of_eq rfl) (Jvm.hb hby at_143) (fun _ _ => ⟨rfl, e41, (by decide : 4 + 0 ≤ _), (by decide : 75 + 0 ≤ _)⟩)
        dsimp only [Pt.U, Pt.locs, Pt.cells, Pt.slots] at X52 l52 y52 z52 st52 hQ52
        subst l52 y52 z52
        obtain ⟨rfl, N52q, e52⟩ := hQ52
        have N52 := Fr.app N41 N52q
        have K53 : ∀ t, Steps p.tables e below (T52.setTop (mkF m 146 #[.val (.int p1), .val (.int p2), .val (.int p3), .val (.int p4), .val (.int p5), .val (.int p6), .val (.int (f0_u1 p1)), .val (.int (f0_u2 p6)), .val (.int (f0_u3 p6)), .val (.int ((f0_u2 p6) + (f0_u3 p6))), .val (.int (f0_u4 p6)), .val (.int (f0_u5 p1 p6)), .val (.ref b2_x1), .val (.ref b5_x1), .val (.ref b8), .unset] [(.int (f6 (f0_u5 p1 p6) p5 p4 p3 p2))])) t → Steps p.tables e below (T41.setTop (mkF m 143 #[.val (.int p1), .val (.int p2), .val (.int p3), .val (.int p4), .val (.int p5), .val (.int p6), .val (.int (f0_u1 p1)), .val (.int (f0_u2 p6)), .val (.int (f0_u3 p6)), .val (.int ((f0_u2 p6) + (f0_u3 p6))), .val (.int (f0_u4 p6)), .val (.int (f0_u5 p1 p6)), .val (.ref b2_x1), .val (.ref b5_x1), .val (.ref b8), .unset] [(.int p2), (.int p3), (.int p4), (.int p5), (.int (f0_u5 p1 p6))])) t := fun t k => st52 _ k
        have K54 : ∀ t, Steps p.tables e below (T52.setTop (mkF m 148 #[.val (.int p1), .val (.int p2), .val (.int p3), .val (.int p4), .val (.int p5), .val (.int p6), .val (.int (f0_u1 p1)), .val (.int (f0_u2 p6)), .val (.int (f0_u3 p6)), .val (.int ((f0_u2 p6) + (f0_u3 p6))), .val (.int (f0_u4 p6)), .val (.int (f0_u5 p1 p6)), .val (.ref b2_x1), .val (.ref b5_x1), .val (.ref b8), .val (.int (f6 (f0_u5 p1 p6) p5 p4 p3 p2))] [])) t → Steps p.tables e below (T52.setTop (mkF m 146 #[.val (.int p1), .val (.int p2), .val (.int p3), .val (.int p4), .val (.int p5), .val (.int p6), .val (.int (f0_u1 p1)), .val (.int (f0_u2 p6)), .val (.int (f0_u3 p6)), .val (.int ((f0_u2 p6) + (f0_u3 p6))), .val (.int (f0_u4 p6)), .val (.int (f0_u5 p1 p6)), .val (.ref b2_x1), .val (.ref b5_x1), .val (.ref b8), .unset] [(.int (f6 (f0_u5 p1 p6) p5 p4 p3 p2))])) t := by
          intro t k
          refine XS.istore X52.here hx rfl (Jvm.hb hby at_146) rfl (l' := #[.val (.int p1), .val (.int p2), .val (.int p3), .val (.int p4), .val (.int p5), .val (.int p6), .val (.int (f0_u1 p1)), .val (.int (f0_u2 p6)), .val (.int (f0_u3 p6)), .val (.int ((f0_u2 p6) + (f0_u3 p6))), .val (.int (f0_u4 p6)), .val (.int (f0_u5 p1 p6)), .val (.ref b2_x1), .val (.ref b5_x1), .val (.ref b8), .val (.int (f6 (f0_u5 p1 p6) p5 p4 p3 p2))]) rfl ?_
          show Steps p.tables e below (T52.setTop (mkF m 148 #[.val (.int p1), .val (.int p2), .val (.int p3), .val (.int p4), .val (.int p5), .val (.int p6), .val (.int (f0_u1 p1)), .val (.int (f0_u2 p6)), .val (.int (f0_u3 p6)), .val (.int ((f0_u2 p6) + (f0_u3 p6))), .val (.int (f0_u4 p6)), .val (.int (f0_u5 p1 p6)), .val (.ref b2_x1), .val (.ref b5_x1), .val (.ref b8), .val (.int (f6 (f0_u5 p1 p6) p5 p4 p3 p2))] [])) t
          exact k
        refine ⟨T52, _, X52, e52, N52, fun t k => ?_⟩
        rw [show (f0_u6 p1 p2 p3 p4 p5 p6) = (f6 (f0_u5 p1 p6) p5 p4 p3 p2) from if_neg hc44] at k
        exact K50 _ (K51 _ (K53 _ (K54 _ (k))))
    have K55 : ∀ t, Steps p.tables e below (Tm44.setTop (mkF m 154 #[.val (.int p1), .val (.int p2), .val (.int p3), .val (.int p4), .val (.int p5), .val (.int p6), .val (.int (f0_u1 p1)), .val (.int (f0_u2 p6)), .val (.int (f0_u3 p6)), .val (.int ((f0_u2 p6) + (f0_u3 p6))), .val (.int (f0_u4 p6)), .val (.int (f0_u5 p1 p6)), .val (.ref b2_x1), .val (.ref b5_x1), .val (.ref b8), .val (.int (f0_u6 p1 p2 p3 p4 p5 p6))] [(.int (f0_u5 p1 p6)), (.int (f0_u4 p6)), (.ref b8)])) t → Steps p.tables e below (Tm44.setTop (mkF m 148 #[.val (.int p1), .val (.int p2), .val (.int p3), .val (.int p4), .val (.int p5), .val (.int p6), .val (.int (f0_u1 p1)), .val (.int (f0_u2 p6)), .val (.int (f0_u3 p6)), .val (.int ((f0_u2 p6) + (f0_u3 p6))), .val (.int (f0_u4 p6)), .val (.int (f0_u5 p1 p6)), .val (.ref b2_x1), .val (.ref b5_x1), .val (.ref b8), .val (.int (f0_u6 p1 p2 p3 p4 p5 p6))] [])) t := by
      intro t k
      refine XS.aload Xm44.here hx rfl (Jvm.hb hby at_148) rfl rfl ?_
      show Steps p.tables e below (Tm44.setTop (mkF m 150 #[.val (.int p1), .val (.int p2), .val (.int p3), .val (.int p4), .val (.int p5), .val (.int p6), .val (.int (f0_u1 p1)), .val (.int (f0_u2 p6)), .val (.int (f0_u3 p6)), .val (.int ((f0_u2 p6) + (f0_u3 p6))), .val (.int (f0_u4 p6)), .val (.int (f0_u5 p1 p6)), .val (.ref b2_x1), .val (.ref b5_x1), .val (.ref b8), .val (.int (f0_u6 p1 p2 p3 p4 p5 p6))] [(.ref b8)])) t
      refine XS.iload Xm44.here hx rfl (Jvm.hb hby at_150) rfl ?_
      show Steps p.tables e below (Tm44.setTop (mkF m 152 #[.val (.int p1), .val (.int p2), .val (.int p3), .val (.int p4), .val (.int p5), .val (.int p6), .val (.int (f0_u1 p1)), .val (.int (f0_u2 p6)), .val (.int (f0_u3 p6)), .val (.int ((f0_u2 p6) + (f0_u3 p6))), .val (.int (f0_u4 p6)), .val (.int (f0_u5 p1 p6)), .val (.ref b2_x1), .val (.ref b5_x1), .val (.ref b8), .val (.int (f0_u6 p1 p2 p3 p4 p5 p6))] [(.int (f0_u4 p6)), (.ref b8)])) t
      refine XS.iload Xm44.here hx rfl (Jvm.hb hby at_152) rfl ?_
      show Steps p.tables e below (Tm44.setTop (mkF m 154 #[.val (.int p1), .val (.int p2), .val (.int p3), .val (.int p4), .val (.int p5), .val (.int p6), .val (.int (f0_u1 p1)), .val (.int (f0_u2 p6)), .val (.int (f0_u3 p6)), .val (.int ((f0_u2 p6) + (f0_u3 p6))), .val (.int (f0_u4 p6)), .val (.int (f0_u5 p1 p6)), .val (.ref b2_x1), .val (.ref b5_x1), .val (.ref b8), .val (.int (f0_u6 p1 p2 p3 p4 p5 p6))] [(.int (f0_u5 p1 p6)), (.int (f0_u4 p6)), (.ref b8)])) t
      exact k
    obtain ⟨cq56, kq56, q56a, q56b, q56c⟩ := isOf hZ em44 R41_3
    obtain ⟨_, _, ⟨T56, L56, k56, n56⟩, -, X56, ⟨Lc56, hQ56, l56, y56, z56⟩, st56⟩ := Xm44.virtualBack hx (y := (⟨"com/example/nestway/nestway/sparql/AnswerTable", "get", "(II)I"⟩ : MethodName)) (z := (⟨"com/example/nestway/nestway/sparql/AnswerTable", "get", "(II)I"⟩ : MethodName)) hown (mvT hZ (hw _ (List.mem_of_getElem? (i := 38) rfl))) (mvT hZ (hw _ (List.mem_of_getElem? (i := 39) rfl))) (notFace_of_selects (args := #[]) (mvT hZ (hw _ (List.mem_of_getElem? (i := 41) rfl)))) (mvT hZ (hw _ (List.mem_of_getElem? (i := 41) rfl))) (mvT hZ (hw _ (List.mem_of_getElem? (i := 40) rfl))) (by decide) (backOf (W := 0) (rm7 l Z a0 hw [] b8 (f0_u4 p6) (f0_u5 p1 p6) b11_x1 (f0_u1 p1) ((f0_u1 p1) * (16 : Int32)) (f4_G_g0 ((f0_u3 p6).toInt64) ((0 : Int32) + (((f0_u2 p6).toInt64).toInt32)) (f0_u1 p1) (f4_G_g0 ((f0_u2 p6).toInt64) (0 : Int32) (f0_u1 p1) (fun _ => 0) (f1_u7 (f0_u1 p1) p2 p3 p4 p5)) (f1_u7 (f0_u1 p1) p5 p4 p3 p2)) h41 n0 (Nat.le_trans Z0 KP41.1) (by rw [e16, er, eq, eW]; exact own_idx r W q (16 * W) (Nat.lt_of_lt_of_le (own_ix r W q (C1 + C2) hr hq) (Nat.mul_le_mul (Nat.le_of_not_lt fun z => hcase (hcs.mpr z)) (Nat.le_refl W))) (by omega) (by omega) w2) R41_2 R41_1 R41_0) hZ (hw _ (List.mem_of_getElem? (i := 42) rfl)) (hw _ (List.mem_of_getElem? (i := 7) rfl)) (by decide) (by decide)) q56a q56c (g := (mkF m 154 #[.val (.int p1), .val (.int p2), .val (.int p3), .val (.int p4), .val (.int p5), .val (.int p6), .val (.int (f0_u1 p1)), .val (.int (f0_u2 p6)), .val (.int (f0_u3 p6)), .val (.int ((f0_u2 p6) + (f0_u3 p6))), .val (.int (f0_u4 p6)), .val (.int (f0_u5 p1 p6)), .val (.ref b2_x1), .val (.ref b5_x1), .val (.ref b8), .val (.int (f0_u6 p1 p2 p3 p4 p5 p6))] [(.int (f0_u5 p1 p6)), (.int (f0_u4 p6)), (.ref b8)])) rfl (by rw [hml]; rfl) (Steps.refl _) (argsL := [(.int (f0_u4 p6)), (.int (f0_u5 p1 p6))]) (rest := []) (lenOf pd_7 rfl) rfl (by show 2 * 0 + _ ≤ _; exact Nat.le_of_eq rfl) (Jvm.hb hby at_154) (fun _ _ => ⟨rfl, em44, (by decide : 4 + 0 ≤ _), (by decide : 75 + 0 ≤ _)⟩)
    dsimp only [Pt.U, Pt.locs, Pt.cells, Pt.slots] at X56 l56 y56 z56 st56 hQ56
    subst l56 y56 z56
    obtain ⟨rfl, N56q, e56⟩ := hQ56
    have N56 := Fr.app Nm44 N56q
    have K57 : ∀ t, Steps p.tables e below (T56.setTop (mkF m 157 #[.val (.int p1), .val (.int p2), .val (.int p3), .val (.int p4), .val (.int p5), .val (.int p6), .val (.int (f0_u1 p1)), .val (.int (f0_u2 p6)), .val (.int (f0_u3 p6)), .val (.int ((f0_u2 p6) + (f0_u3 p6))), .val (.int (f0_u4 p6)), .val (.int (f0_u5 p1 p6)), .val (.ref b2_x1), .val (.ref b5_x1), .val (.ref b8), .val (.int (f0_u6 p1 p2 p3 p4 p5 p6))] [(.int (f7 (f0_u4 p6) (f0_u5 p1 p6) (f0_u1 p1) (f4_G_g0 ((f0_u3 p6).toInt64) ((0 : Int32) + (((f0_u2 p6).toInt64).toInt32)) (f0_u1 p1) (f4_G_g0 ((f0_u2 p6).toInt64) (0 : Int32) (f0_u1 p1) (fun _ => 0) (f1_u7 (f0_u1 p1) p2 p3 p4 p5)) (f1_u7 (f0_u1 p1) p5 p4 p3 p2))))])) t → Steps p.tables e below (Tm44.setTop (mkF m 154 #[.val (.int p1), .val (.int p2), .val (.int p3), .val (.int p4), .val (.int p5), .val (.int p6), .val (.int (f0_u1 p1)), .val (.int (f0_u2 p6)), .val (.int (f0_u3 p6)), .val (.int ((f0_u2 p6) + (f0_u3 p6))), .val (.int (f0_u4 p6)), .val (.int (f0_u5 p1 p6)), .val (.ref b2_x1), .val (.ref b5_x1), .val (.ref b8), .val (.int (f0_u6 p1 p2 p3 p4 p5 p6))] [(.int (f0_u5 p1 p6)), (.int (f0_u4 p6)), (.ref b8)])) t := fun t k => st56.trans k
    have K58 : ∀ t, Steps p.tables e below (T56.setTop (mkF m 159 #[.val (.int p1), .val (.int p2), .val (.int p3), .val (.int p4), .val (.int p5), .val (.int p6), .val (.int (f0_u1 p1)), .val (.int (f0_u2 p6)), .val (.int (f0_u3 p6)), .val (.int ((f0_u2 p6) + (f0_u3 p6))), .val (.int (f0_u4 p6)), .val (.int (f0_u5 p1 p6)), .val (.ref b2_x1), .val (.ref b5_x1), .val (.ref b8), .val (.int (f0_u6 p1 p2 p3 p4 p5 p6))] [(.int (f0_u6 p1 p2 p3 p4 p5 p6)), (.int (f7 (f0_u4 p6) (f0_u5 p1 p6) (f0_u1 p1) (f4_G_g0 ((f0_u3 p6).toInt64) ((0 : Int32) + (((f0_u2 p6).toInt64).toInt32)) (f0_u1 p1) (f4_G_g0 ((f0_u2 p6).toInt64) (0 : Int32) (f0_u1 p1) (fun _ => 0) (f1_u7 (f0_u1 p1) p2 p3 p4 p5)) (f1_u7 (f0_u1 p1) p5 p4 p3 p2))))])) t → Steps p.tables e below (T56.setTop (mkF m 157 #[.val (.int p1), .val (.int p2), .val (.int p3), .val (.int p4), .val (.int p5), .val (.int p6), .val (.int (f0_u1 p1)), .val (.int (f0_u2 p6)), .val (.int (f0_u3 p6)), .val (.int ((f0_u2 p6) + (f0_u3 p6))), .val (.int (f0_u4 p6)), .val (.int (f0_u5 p1 p6)), .val (.ref b2_x1), .val (.ref b5_x1), .val (.ref b8), .val (.int (f0_u6 p1 p2 p3 p4 p5 p6))] [(.int (f7 (f0_u4 p6) (f0_u5 p1 p6) (f0_u1 p1) (f4_G_g0 ((f0_u3 p6).toInt64) ((0 : Int32) + (((f0_u2 p6).toInt64).toInt32)) (f0_u1 p1) (f4_G_g0 ((f0_u2 p6).toInt64) (0 : Int32) (f0_u1 p1) (fun _ => 0) (f1_u7 (f0_u1 p1) p2 p3 p4 p5)) (f1_u7 (f0_u1 p1) p5 p4 p3 p2))))])) t := by
      intro t k
      refine XS.iload X56.here hx rfl (Jvm.hb hby at_157) rfl ?_
      show Steps p.tables e below (T56.setTop (mkF m 159 #[.val (.int p1), .val (.int p2), .val (.int p3), .val (.int p4), .val (.int p5), .val (.int p6), .val (.int (f0_u1 p1)), .val (.int (f0_u2 p6)), .val (.int (f0_u3 p6)), .val (.int ((f0_u2 p6) + (f0_u3 p6))), .val (.int (f0_u4 p6)), .val (.int (f0_u5 p1 p6)), .val (.ref b2_x1), .val (.ref b5_x1), .val (.ref b8), .val (.int (f0_u6 p1 p2 p3 p4 p5 p6))] [(.int (f0_u6 p1 p2 p3 p4 p5 p6)), (.int (f7 (f0_u4 p6) (f0_u5 p1 p6) (f0_u1 p1) (f4_G_g0 ((f0_u3 p6).toInt64) ((0 : Int32) + (((f0_u2 p6).toInt64).toInt32)) (f0_u1 p1) (f4_G_g0 ((f0_u2 p6).toInt64) (0 : Int32) (f0_u1 p1) (fun _ => 0) (f1_u7 (f0_u1 p1) p2 p3 p4 p5)) (f1_u7 (f0_u1 p1) p5 p4 p3 p2))))])) t
      exact k
    by_cases hc59 : (f7 (f0_u4 p6) (f0_u5 p1 p6) (f0_u1 p1) (f4_G_g0 ((f0_u3 p6).toInt64) ((0 : Int32) + (((f0_u2 p6).toInt64).toInt32)) (f0_u1 p1) (f4_G_g0 ((f0_u2 p6).toInt64) (0 : Int32) (f0_u1 p1) (fun _ => 0) (f1_u7 (f0_u1 p1) p2 p3 p4 p5)) (f1_u7 (f0_u1 p1) p5 p4 p3 p2))) = (f0_u6 p1 p2 p3 p4 p5 p6)
    · have K60 : ∀ t, Steps p.tables e below (T56.setTop (mkF m 162 #[.val (.int p1), .val (.int p2), .val (.int p3), .val (.int p4), .val (.int p5), .val (.int p6), .val (.int (f0_u1 p1)), .val (.int (f0_u2 p6)), .val (.int (f0_u3 p6)), .val (.int ((f0_u2 p6) + (f0_u3 p6))), .val (.int (f0_u4 p6)), .val (.int (f0_u5 p1 p6)), .val (.ref b2_x1), .val (.ref b5_x1), .val (.ref b8), .val (.int (f0_u6 p1 p2 p3 p4 p5 p6))] [])) t → Steps p.tables e below (T56.setTop (mkF m 159 #[.val (.int p1), .val (.int p2), .val (.int p3), .val (.int p4), .val (.int p5), .val (.int p6), .val (.int (f0_u1 p1)), .val (.int (f0_u2 p6)), .val (.int (f0_u3 p6)), .val (.int ((f0_u2 p6) + (f0_u3 p6))), .val (.int (f0_u4 p6)), .val (.int (f0_u5 p1 p6)), .val (.ref b2_x1), .val (.ref b5_x1), .val (.ref b8), .val (.int (f0_u6 p1 p2 p3 p4 p5 p6))] [(.int (f0_u6 p1 p2 p3 p4 p5 p6)), (.int (f7 (f0_u4 p6) (f0_u5 p1 p6) (f0_u1 p1) (f4_G_g0 ((f0_u3 p6).toInt64) ((0 : Int32) + (((f0_u2 p6).toInt64).toInt32)) (f0_u1 p1) (f4_G_g0 ((f0_u2 p6).toInt64) (0 : Int32) (f0_u1 p1) (fun _ => 0) (f1_u7 (f0_u1 p1) p2 p3 p4 p5)) (f1_u7 (f0_u1 p1) p5 p4 p3 p2))))])) t := by
        intro t k
        refine XS.icmpNo X56.here hx rfl (Jvm.hb hby at_159) rfl (teq hc59).2 ?_
        exact k
      have K61 : ∀ t, Steps p.tables e below (T56.setTop (mkF m 167 #[.val (.int p1), .val (.int p2), .val (.int p3), .val (.int p4), .val (.int p5), .val (.int p6), .val (.int (f0_u1 p1)), .val (.int (f0_u2 p6)), .val (.int (f0_u3 p6)), .val (.int ((f0_u2 p6) + (f0_u3 p6))), .val (.int (f0_u4 p6)), .val (.int (f0_u5 p1 p6)), .val (.ref b2_x1), .val (.ref b5_x1), .val (.ref b8), .val (.int (f0_u6 p1 p2 p3 p4 p5 p6))] [(.int (1 : Int32))])) t → Steps p.tables e below (T56.setTop (mkF m 162 #[.val (.int p1), .val (.int p2), .val (.int p3), .val (.int p4), .val (.int p5), .val (.int p6), .val (.int (f0_u1 p1)), .val (.int (f0_u2 p6)), .val (.int (f0_u3 p6)), .val (.int ((f0_u2 p6) + (f0_u3 p6))), .val (.int (f0_u4 p6)), .val (.int (f0_u5 p1 p6)), .val (.ref b2_x1), .val (.ref b5_x1), .val (.ref b8), .val (.int (f0_u6 p1 p2 p3 p4 p5 p6))] [])) t := by
        intro t k
        refine XS.iconst X56.here hx rfl (Jvm.hb hby at_162) ?_
        show Steps p.tables e below (T56.setTop (mkF m 163 #[.val (.int p1), .val (.int p2), .val (.int p3), .val (.int p4), .val (.int p5), .val (.int p6), .val (.int (f0_u1 p1)), .val (.int (f0_u2 p6)), .val (.int (f0_u3 p6)), .val (.int ((f0_u2 p6) + (f0_u3 p6))), .val (.int (f0_u4 p6)), .val (.int (f0_u5 p1 p6)), .val (.ref b2_x1), .val (.ref b5_x1), .val (.ref b8), .val (.int (f0_u6 p1 p2 p3 p4 p5 p6))] [(.int (1 : Int32))])) t
        refine XS.goto X56.here hx rfl (pc0 := 163) (pc' := 167) rfl (Jvm.hb hby at_163) (by decide) (by decide) ?_
        show Steps p.tables e below (T56.setTop (mkF m 167 #[.val (.int p1), .val (.int p2), .val (.int p3), .val (.int p4), .val (.int p5), .val (.int p6), .val (.int (f0_u1 p1)), .val (.int (f0_u2 p6)), .val (.int (f0_u3 p6)), .val (.int ((f0_u2 p6) + (f0_u3 p6))), .val (.int (f0_u4 p6)), .val (.int (f0_u5 p1 p6)), .val (.ref b2_x1), .val (.ref b5_x1), .val (.ref b8), .val (.int (f0_u6 p1 p2 p3 p4 p5 p6))] [(.int (1 : Int32))])) t
        exact k
      obtain ⟨fs, hr, hrun, hended, hW, hsame⟩ := X56.leave (v := some (.int (1 : Int32))) (fun h => by rw [Bd.returns] at h; cases h) Bd.notSynchronized
      refine ⟨_, _, pre0 _ (K1 _ (K3 _ (K4 _ (K6 _ (K7 _ (K9 _ (K10 _ (K12 _ (K13 _ (K15 _ (K16 _ (K42 _ (K43 _ (Km44 _ (K55 _ (K57 _ (K58 _ (K60 _ (K61 _ (retN X56 hx (t := .boolean) Bd.returns (by simp) (Jvm.hb hby at_167) hr)))))))))))))))))))), hrun, hended, _, _, rfl, ?_, ⟨_, rfl⟩, hW, hsame.mono (by decide) (by decide)⟩
      show Q0 Z p1 p2 p3 p4 p5 p6 h0 n0 _ T56.heap _
      rw [e56]
      exact ⟨congrArg (fun z => some (Value.int z)) (show (1 : Int32) = f0 p1 p2 p3 p4 p5 p6 from Eq.symm ((if_neg hc17).trans (if_pos hc59))), N56, KP41⟩
    · have K62 : ∀ t, Steps p.tables e below (T56.setTop (mkF m 166 #[.val (.int p1), .val (.int p2), .val (.int p3), .val (.int p4), .val (.int p5), .val (.int p6), .val (.int (f0_u1 p1)), .val (.int (f0_u2 p6)), .val (.int (f0_u3 p6)), .val (.int ((f0_u2 p6) + (f0_u3 p6))), .val (.int (f0_u4 p6)), .val (.int (f0_u5 p1 p6)), .val (.ref b2_x1), .val (.ref b5_x1), .val (.ref b8), .val (.int (f0_u6 p1 p2 p3 p4 p5 p6))] [])) t → Steps p.tables e below (T56.setTop (mkF m 159 #[.val (.int p1), .val (.int p2), .val (.int p3), .val (.int p4), .val (.int p5), .val (.int p6), .val (.int (f0_u1 p1)), .val (.int (f0_u2 p6)), .val (.int (f0_u3 p6)), .val (.int ((f0_u2 p6) + (f0_u3 p6))), .val (.int (f0_u4 p6)), .val (.int (f0_u5 p1 p6)), .val (.ref b2_x1), .val (.ref b5_x1), .val (.ref b8), .val (.int (f0_u6 p1 p2 p3 p4 p5 p6))] [(.int (f0_u6 p1 p2 p3 p4 p5 p6)), (.int (f7 (f0_u4 p6) (f0_u5 p1 p6) (f0_u1 p1) (f4_G_g0 ((f0_u3 p6).toInt64) ((0 : Int32) + (((f0_u2 p6).toInt64).toInt32)) (f0_u1 p1) (f4_G_g0 ((f0_u2 p6).toInt64) (0 : Int32) (f0_u1 p1) (fun _ => 0) (f1_u7 (f0_u1 p1) p2 p3 p4 p5)) (f1_u7 (f0_u1 p1) p5 p4 p3 p2))))])) t := by
        intro t k
        refine XS.icmpYes X56.here hx rfl (pc0 := 159) (pc' := 166) rfl (Jvm.hb hby at_159) rfl (feq hc59).2 (by decide) (by decide) ?_
        exact k
      have K63 : ∀ t, Steps p.tables e below (T56.setTop (mkF m 167 #[.val (.int p1), .val (.int p2), .val (.int p3), .val (.int p4), .val (.int p5), .val (.int p6), .val (.int (f0_u1 p1)), .val (.int (f0_u2 p6)), .val (.int (f0_u3 p6)), .val (.int ((f0_u2 p6) + (f0_u3 p6))), .val (.int (f0_u4 p6)), .val (.int (f0_u5 p1 p6)), .val (.ref b2_x1), .val (.ref b5_x1), .val (.ref b8), .val (.int (f0_u6 p1 p2 p3 p4 p5 p6))] [(.int (0 : Int32))])) t → Steps p.tables e below (T56.setTop (mkF m 166 #[.val (.int p1), .val (.int p2), .val (.int p3), .val (.int p4), .val (.int p5), .val (.int p6), .val (.int (f0_u1 p1)), .val (.int (f0_u2 p6)), .val (.int (f0_u3 p6)), .val (.int ((f0_u2 p6) + (f0_u3 p6))), .val (.int (f0_u4 p6)), .val (.int (f0_u5 p1 p6)), .val (.ref b2_x1), .val (.ref b5_x1), .val (.ref b8), .val (.int (f0_u6 p1 p2 p3 p4 p5 p6))] [])) t := by
        intro t k
        refine XS.iconst X56.here hx rfl (Jvm.hb hby at_166) ?_
        show Steps p.tables e below (T56.setTop (mkF m 167 #[.val (.int p1), .val (.int p2), .val (.int p3), .val (.int p4), .val (.int p5), .val (.int p6), .val (.int (f0_u1 p1)), .val (.int (f0_u2 p6)), .val (.int (f0_u3 p6)), .val (.int ((f0_u2 p6) + (f0_u3 p6))), .val (.int (f0_u4 p6)), .val (.int (f0_u5 p1 p6)), .val (.ref b2_x1), .val (.ref b5_x1), .val (.ref b8), .val (.int (f0_u6 p1 p2 p3 p4 p5 p6))] [(.int (0 : Int32))])) t
        exact k
      obtain ⟨fs, hr, hrun, hended, hW, hsame⟩ := X56.leave (v := some (.int (0 : Int32))) (fun h => by rw [Bd.returns] at h; cases h) Bd.notSynchronized
      refine ⟨_, _, pre0 _ (K1 _ (K3 _ (K4 _ (K6 _ (K7 _ (K9 _ (K10 _ (K12 _ (K13 _ (K15 _ (K16 _ (K42 _ (K43 _ (Km44 _ (K55 _ (K57 _ (K58 _ (K62 _ (K63 _ (retN X56 hx (t := .boolean) Bd.returns (by simp) (Jvm.hb hby at_167) hr)))))))))))))))))))), hrun, hended, _, _, rfl, ?_, ⟨_, rfl⟩, hW, hsame.mono (by decide) (by decide)⟩
      show Q0 Z p1 p2 p3 p4 p5 p6 h0 n0 _ T56.heap _
      rw [e56]
      exact ⟨congrArg (fun z => some (Value.int z)) (show (0 : Int32) = f0 p1 p2 p3 p4 p5 p6 from Eq.symm ((if_neg hc17).trans (if_neg hc59))), N56, KP41⟩
theorem own_cpy (fs g : Int32 → Int32) (I W x : Nat) (h : I + W ≤ 500) (hx : x < 500) : cpy fs 0 g (Int32.ofNat I) (Int32.ofNat W) (Int32.ofNat x) = if I ≤ x ∧ x < I + W then fs (Int32.ofNat (x - I)) else g (Int32.ofNat x) := by
  unfold cpy
  have e1 : (Int32.ofNat x < Int32.ofNat I) ↔ x < I := own_lti x I (by omega) (by omega)
  have e2 : (Int32.ofNat x < Int32.ofNat I + Int32.ofNat W) ↔ x < I + W := by rw [← Int32.ofNat_add]; exact own_lti x (I + W) (by omega) (by omega)
  by_cases c : I ≤ x ∧ x < I + W
  · rw [if_pos c, if_pos ⟨fun z => by have := e1.mp z; omega, e2.mpr c.2⟩]
    congr 1
    rw [Int32.zero_add]
    apply Int32.toInt_inj.mp
    rw [Int32.toInt_sub, own_ofNat x (by omega), own_ofNat I (by omega), own_ofNat (x - I) (by omega), Int.bmod_eq_of_le (by omega) (by omega)]
    omega
  · rw [if_neg c, if_neg (fun z => c ⟨Nat.le_of_not_lt fun y => z.1 (e1.mpr y), e2.mp z.2⟩)]
theorem own_G4 (s v : Int32) (f0' : Int32 → Int32) (fs : Int32 → Int32) (C W : Nat) (hW1 : 1 ≤ W) (hW : W ≤ 4) (hC : C ≤ 16) : ∀ (k I J : Nat) (g : Int32 → Int32), J ≤ C → C < J + k → I + (C - J) * W ≤ 200 →
    (∀ t q, t < C - J → q < W → f4_G_g (Int64.ofNat C) s (Int32.ofNat W) f0' fs k (Int32.ofNat I) (Int64.ofNat J) g (Int32.ofNat (I + t * W + q)) = fs (Int32.ofNat q)) ∧ (∀ x, (x < I ∨ I + (C - J) * W ≤ x) → x < 300 → f4_G_g (Int64.ofNat C) s (Int32.ofNat W) f0' fs k (Int32.ofNat I) (Int64.ofNat J) g (Int32.ofNat x) = g (Int32.ofNat x)) := by
  intro k
  induction k with
  | zero => intro I J g h1 h2; omega
  | succ k ih =>
    intro I J g h1 h2 h3
    rw [f4_G_g_succ]
    by_cases c : J < C
    · have hc : own_cmp (Int64.ofNat J) (Int64.ofNat C) < 0 := (own_lt _ _).mpr ((own_ltl J C (by omega) (by omega)).mpr c)
      obtain ⟨r1, r2⟩ := own_rest I J C W 200 c h3
      obtain ⟨i1, i2⟩ := ih (I + W) (J + 1) (f4_u1 (Int32.ofNat W) fs (Int32.ofNat I) g) (by omega) (by omega) r2
      have eI : Int32.ofNat I + Int32.ofNat W = Int32.ofNat (I + W) := (Int32.ofNat_add I W).symm
      have eJ : Int64.ofNat J + 1 = Int64.ofNat (J + 1) := own_addL J 1
      rw [if_pos hc, eI, eJ]
      have e : C - J = (C - (J + 1)) + 1 := by omega
      refine ⟨fun t q ht hq => ?_, fun x hx hx3 => ?_⟩
      · rcases Nat.eq_zero_or_pos t with rfl | tp
        · rw [show I + 0 * W + q = I + q from by rw [Nat.zero_mul]; rfl, i2 (I + q) (Or.inl (by omega)) (by omega)]
          show cpy fs 0 g (Int32.ofNat I) (Int32.ofNat W) (Int32.ofNat (I + q)) = _
          rw [own_cpy fs g I W (I + q) (by omega) (by omega), if_pos (by omega)]
          congr 2; omega
        · obtain ⟨t', rfl⟩ : ∃ t', t = t' + 1 := ⟨t - 1, by omega⟩
          have := i1 t' q (by omega) hq
          rw [show I + (t' + 1) * W + q = I + W + t' * W + q from by rw [Nat.add_mul]; omega]
          exact this
      · have hx' : x < I + W ∨ I + W + (C - (J + 1)) * W ≤ x := by
          rcases hx with hx | hx
          · left; omega
          · right; rw [e, Nat.add_mul] at hx; omega
        rw [i2 x hx' hx3]
        show cpy fs 0 g (Int32.ofNat I) (Int32.ofNat W) (Int32.ofNat x) = _
        rw [own_cpy fs g I W x (by omega) (by omega)]
        refine if_neg ?_
        rcases hx with hx | hx
        · omega
        · rw [e, Nat.add_mul] at hx; omega
    · have hc : ¬ own_cmp (Int64.ofNat J) (Int64.ofNat C) < 0 := fun z => c ((own_ltl J C (by omega) (by omega)).mp ((own_lt _ _).mp z))
      rw [if_neg hc]
      exact ⟨fun t q ht hq => by omega, fun x _ _ => rfl⟩
theorem own_G104 (s n : Int32) (f0' : Int32 → Int32) (fs : Int32 → Int32) (C W : Nat) (hW1 : 1 ≤ W) (hW : W ≤ 4) (hC : C ≤ 16) : ∀ (k I J : Nat) (g : Int32 → Int32), J ≤ C → C < J + k → I + (C - J) * W ≤ 200 →
    (∀ t q, t < C - J → q < W → f104_G_g (Int64.ofNat C) s (Int32.ofNat W) n f0' fs k (Int32.ofNat I) (Int64.ofNat J) g (Int32.ofNat (I + t * W + q)) = fs (Int32.ofNat q)) ∧ (∀ x, (x < I ∨ I + (C - J) * W ≤ x) → x < 300 → f104_G_g (Int64.ofNat C) s (Int32.ofNat W) n f0' fs k (Int32.ofNat I) (Int64.ofNat J) g (Int32.ofNat x) = g (Int32.ofNat x)) := by
  intro k
  induction k with
  | zero => intro I J g h1 h2; omega
  | succ k ih =>
    intro I J g h1 h2 h3
    rw [f104_G_g_succ]
    by_cases c : J < C
    · have hc : own_cmp (Int64.ofNat J) (Int64.ofNat C) < 0 := (own_lt _ _).mpr ((own_ltl J C (by omega) (by omega)).mpr c)
      obtain ⟨r1, r2⟩ := own_rest I J C W 200 c h3
      obtain ⟨i1, i2⟩ := ih (I + W) (J + 1) (f104_u1 (Int32.ofNat W) fs (Int32.ofNat I) g) (by omega) (by omega) r2
      have eI : Int32.ofNat I + Int32.ofNat W = Int32.ofNat (I + W) := (Int32.ofNat_add I W).symm
      have eJ : Int64.ofNat J + 1 = Int64.ofNat (J + 1) := own_addL J 1
      rw [if_pos hc, eI, eJ]
      have e : C - J = (C - (J + 1)) + 1 := by omega
      refine ⟨fun t q ht hq => ?_, fun x hx hx3 => ?_⟩
      · rcases Nat.eq_zero_or_pos t with rfl | tp
        · rw [show I + 0 * W + q = I + q from by rw [Nat.zero_mul]; rfl, i2 (I + q) (Or.inl (by omega)) (by omega)]
          show cpy fs 0 g (Int32.ofNat I) (Int32.ofNat W) (Int32.ofNat (I + q)) = _
          rw [own_cpy fs g I W (I + q) (by omega) (by omega), if_pos (by omega)]
          congr 2; omega
        · obtain ⟨t', rfl⟩ : ∃ t', t = t' + 1 := ⟨t - 1, by omega⟩
          have := i1 t' q (by omega) hq
          rw [show I + (t' + 1) * W + q = I + W + t' * W + q from by rw [Nat.add_mul]; omega]
          exact this
      · have hx' : x < I + W ∨ I + W + (C - (J + 1)) * W ≤ x := by
          rcases hx with hx | hx
          · left; omega
          · right; rw [e, Nat.add_mul] at hx; omega
        rw [i2 x hx' hx3]
        show cpy fs 0 g (Int32.ofNat I) (Int32.ofNat W) (Int32.ofNat x) = _
        rw [own_cpy fs g I W x (by omega) (by omega)]
        refine if_neg ?_
        rcases hx with hx | hx
        · omega
        · rw [e, Nat.add_mul] at hx; omega
    · have hc : ¬ own_cmp (Int64.ofNat J) (Int64.ofNat C) < 0 := fun z => c ((own_ltl J C (by omega) (by omega)).mp ((own_lt _ _).mp z))
      rw [if_neg hc]
      exact ⟨fun t q ht hq => by omega, fun x _ _ => rfl⟩
theorem own_r (w q : Nat) (a b c d : Int32) (hw : w ≤ 4) (hq : q < w) : f1_u7 (Int32.ofNat w) a b c d (Int32.ofNat q) = f6 (Int32.ofNat q) a b c d := by
  have h : (w = 1 ∧ q = 0) ∨ (w = 2 ∧ q = 0) ∨ (w = 2 ∧ q = 1) ∨ (w = 3 ∧ q = 0) ∨ (w = 3 ∧ q = 1) ∨ (w = 3 ∧ q = 2) ∨ (w = 4 ∧ q = 0) ∨ (w = 4 ∧ q = 1) ∨ (w = 4 ∧ q = 2) ∨ (w = 4 ∧ q = 3) := by omega
  rcases h with ⟨rfl, rfl⟩ | ⟨rfl, rfl⟩ | ⟨rfl, rfl⟩ | ⟨rfl, rfl⟩ | ⟨rfl, rfl⟩ | ⟨rfl, rfl⟩ | ⟨rfl, rfl⟩ | ⟨rfl, rfl⟩ | ⟨rfl, rfl⟩ | ⟨rfl, rfl⟩ <;> rfl
theorem own_split (C1 C2 W r q : Nat) (R1 R2 G1 G2 : Int32 → Int32) (hq : q < W) (hr : r < C1 + C2)
    (h1 : ∀ t, t < C1 → G1 (Int32.ofNat (t * W + q)) = R1 (Int32.ofNat q))
    (h2 : ∀ t, t < C2 → G2 (Int32.ofNat (C1 * W + t * W + q)) = R2 (Int32.ofNat q))
    (h3 : ∀ t, t < C1 → G2 (Int32.ofNat (t * W + q)) = G1 (Int32.ofNat (t * W + q))) :
    G2 (Int32.ofNat (r * W + q)) = if r < C1 then R1 (Int32.ofNat q) else R2 (Int32.ofNat q) := by
  by_cases c : r < C1
  · rw [if_pos c, h3 r c, h1 r c]
  · rw [if_neg c]
    have := h2 (r - C1) (by omega)
    rw [← Nat.add_mul, show C1 + (r - C1) = r from by omega] at this
    exact this
theorem plain (a b c d e f : Int32) : f0 a b c d e f = 1 := by
  obtain ⟨W, w1, w2, eW⟩ := own_w a
  replace eW : f0_u1 a = Int32.ofNat W := eW
  obtain ⟨C1, c1, c2, eC⟩ := own_c f
  replace eC : f0_u2 f = Int32.ofNat C1 := eC
  obtain ⟨C2, d1, d2, eD⟩ := own_c ((f.toUInt32 >>> ((4 : Int32) &&& 31).toUInt32).toInt32)
  replace eD : f0_u3 f = Int32.ofNat C2 := eD
  obtain ⟨r, hr, er⟩ := own_row f C1 C2 eC eD c1 c2 d1 d2
  obtain ⟨q, hq, eq⟩ := own_place a f W eW w1 w2
  have hcs := own_case f C1 C2 eC eD c2 d2
  have eCL : (Int32.ofNat C1).toInt64 = Int64.ofNat C1 := own_il C1 (by omega)
  have eDL : (Int32.ofNat C2).toInt64 = Int64.ofNat C2 := own_il C2 (by omega)
  have eS := own_s0 C1 c2
  have e16 : Int32.ofNat W * 16 = Int32.ofNat (16 * W) := by rw [show (16 : Int32) = Int32.ofNat 16 from rfl, own_mul W 16 (by omega) (by omega) (by omega), Nat.mul_comm]
  have hexp : f0_u6 a b c d e f = if r < C1 then f6 (Int32.ofNat q) b c d e else f6 (Int32.ofNat q) e d c b := by
    unfold f0_u6
    rw [er, eC, eq]
    have hl := own_lti r C1 (by omega) (by omega)
    by_cases k : r < C1
    · rw [if_pos k, if_pos (hl.mpr k)]
    · rw [if_neg k, if_neg (fun z => k (hl.mp z))]
  have hix : Int32.ofNat r * Int32.ofNat W + Int32.ofNat q = Int32.ofNat (r * W + q) := by
    have := own_mb r W (by omega) w2
    rw [own_mul r W (by omega) (by omega) (by omega), ← Int32.ofNat_add]
  have m1 := own_mb C1 W (by omega) w2
  have m2 := own_mb C2 W (by omega) w2
  have hm : C1 * W ≤ 16 * W := Nat.mul_le_mul c2 (Nat.le_refl W)
  obtain ⟨G1a, -⟩ := own_G4 0 0 (fun _ => 0) (f1_u7 (Int32.ofNat W) b c d e) C1 W w1 w2 c2 17 0 0 (fun _ => 0) (by omega) (by omega) (by rw [Nat.sub_zero, Nat.zero_add]; omega)
  have hG1 : ∀ t, t < C1 → f4_G_g0 (Int64.ofNat C1) 0 (Int32.ofNat W) (fun _ => 0) (f1_u7 (Int32.ofNat W) b c d e) (Int32.ofNat (t * W + q)) = f1_u7 (Int32.ofNat W) b c d e (Int32.ofNat q) := by
    intro t ht
    have := G1a t q (by omega) hq
    rw [Nat.zero_add] at this
    have e0 : f5 0 (Int32.ofNat W) = Int32.ofNat 0 := Int32.zero_mul
    show f4_G_g (Int64.ofNat C1) 0 (Int32.ofNat W) (fun _ => 0) (f1_u7 (Int32.ofNat W) b c d e) 17 (f5 0 (Int32.ofNat W)) 0 (fun _ => 0) _ = _
    rw [e0]
    exact this
  unfold f0 f7
  rw [hexp, er, eq, eW, eC, eD, eCL, eDL, hix]
  rw [show (0 : Int32) + (Int64.ofNat C1).toInt32 = Int32.ofNat C1 from by rw [← eCL]; exact eS, e16]
  generalize hG : f4_G_g0 (Int64.ofNat C1) 0 (Int32.ofNat W) (fun _ => 0) (f1_u7 (Int32.ofNat W) b c d e) = G1 at *
  have e5 : f5 (Int32.ofNat C1) (Int32.ofNat W) = Int32.ofNat (C1 * W) := own_mul C1 W (by omega) (by omega) (by omega)
  rw [eC, eD] at hcs
  by_cases k : (16 : Int32) < Int32.ofNat C1 + Int32.ofNat C2
  · rw [if_pos k]
    refine if_pos ?_
    have hl := own_len W C2 C1 w2 d2 c2
    have hinit : ∀ x, x < 16 * W → f10_u1 ((f9 (2147483639 : Int64) (f8 (f105_u1 (Int64.ofNat C2) (Int32.ofNat C1) (Int32.ofNat W)) ((2 : Int64) * ((Int32.ofNat (16 * W)).toInt64)))).toInt32) (Int32.ofNat (16 * W)) G1 (Int32.ofNat x) = G1 (Int32.ofNat x) := by
      intro x hx
      have hl' : (f9 (2147483639 : Int64) (f8 (f105_u1 (Int64.ofNat C2) (Int32.ofNat C1) (Int32.ofNat W)) ((2 : Int64) * ((Int32.ofNat (16 * W)).toInt64)))).toInt32 = Int32.ofNat (32 * W) := hl
      rw [hl']
      have h11 : f11 (Int32.ofNat (16 * W)) (Int32.ofNat (32 * W)) = Int32.ofNat (16 * W) := if_neg (fun z => by have := (own_lti _ _ (by omega) (by omega)).mp z; omega)
      unfold f10_u1
      rw [h11]
      exact (own_cpy G1 (fun _ => 0) 0 (16 * W) x (by omega) (by omega)).trans (if_pos (by omega))
    obtain ⟨ga, gb⟩ := own_G104 (Int32.ofNat C1) (Int32.ofNat (16 * W)) G1 (f1_u7 (Int32.ofNat W) e d c b) C2 W w1 w2 d2 17 (C1 * W) 0 (f10_u1 ((f9 (2147483639 : Int64) (f8 (f105_u1 (Int64.ofNat C2) (Int32.ofNat C1) (Int32.ofNat W)) ((2 : Int64) * ((Int32.ofNat (16 * W)).toInt64)))).toInt32) (Int32.ofNat (16 * W)) G1) (by omega) (by omega) (by rw [Nat.sub_zero]; omega)
    have hs := own_split C1 C2 W r q (f1_u7 (Int32.ofNat W) b c d e) (f1_u7 (Int32.ofNat W) e d c b) G1 (f104_G_g0 (Int64.ofNat C2) (Int32.ofNat C1) (Int32.ofNat W) (Int32.ofNat (16 * W)) G1 (f1_u7 (Int32.ofNat W) e d c b)) hq hr hG1
      (fun t ht => by
        show f104_G_g _ _ _ _ _ _ 17 (f105 (Int32.ofNat C1) (Int32.ofNat W)) 0 _ _ = _
        rw [show f105 (Int32.ofNat C1) (Int32.ofNat W) = Int32.ofNat (C1 * W) from e5]
        exact ga t q (by omega) hq)
      (fun t ht => by
        have hlt := own_ix t W q C1 ht hq
        show f104_G_g _ _ _ _ _ _ 17 (f105 (Int32.ofNat C1) (Int32.ofNat W)) 0 _ _ = _
        rw [show f105 (Int32.ofNat C1) (Int32.ofNat W) = Int32.ofNat (C1 * W) from e5]
        exact (gb _ (Or.inl hlt) (by omega)).trans (hinit _ (by omega)))
    rw [hs, own_r W q b c d e w2 hq, own_r W q e d c b w2 hq]
  · rw [if_neg k]
    refine if_pos ?_
    obtain ⟨ga, gb⟩ := own_G4 (Int32.ofNat C1) 0 G1 (f1_u7 (Int32.ofNat W) e d c b) C2 W w1 w2 d2 17 (C1 * W) 0 G1 (by omega) (by omega) (by rw [Nat.sub_zero]; omega)
    have hs := own_split C1 C2 W r q (f1_u7 (Int32.ofNat W) b c d e) (f1_u7 (Int32.ofNat W) e d c b) G1 (f4_G_g0 (Int64.ofNat C2) (Int32.ofNat C1) (Int32.ofNat W) G1 (f1_u7 (Int32.ofNat W) e d c b)) hq hr hG1
      (fun t ht => by
        show f4_G_g _ _ _ _ _ 17 (f5 (Int32.ofNat C1) (Int32.ofNat W)) 0 _ _ = _
        rw [e5]
        exact ga t q (by omega) hq)
      (fun t ht => by
        have hlt := own_ix t W q C1 ht hq
        show f4_G_g _ _ _ _ _ 17 (f5 (Int32.ofNat C1) (Int32.ofNat W)) 0 _ _ = _
        rw [e5]
        exact gb _ (Or.inl hlt) (by omega))
    rw [hs, own_r W q b c d e w2 hq, own_r W q e d c b w2 hq]
set_option maxRecDepth 65536 in
set_option maxHeartbeats 40000000 in
theorem comes_1 {Post : Tables → Env → Array Value → State → Outcome → State → Prop} (hpost : ∀ tb e args s v u, (limb_1_1.after args s (.returned v) u = true ∧ limb_1_2.after args s (.returned v) u = true ∧ True) → FrameEnd s (.returned v) u (Jvm.fieldLocs frame_1_writes args s ++ Jvm.arrayLocs frame_1_arrays args s ++ Jvm.staticLocs frame_1_statics s) 24 512 → Post tb e args s (.returned v) u) :
    ArmFor flags0 classFile x code maxLocals ret World_1 tables_1 room_1 Calls_1 rest_1 Pre_1 Post := by
  intro l hfl _ _ p e ha hc hk s m args below hf hA hF happ hP
  obtain ⟨hcalls, hrest, hpre⟩ := hP
  obtain ⟨-, -, -, hnamed, -, -, -, hat⟩ := (Spec.applies_iff hf).mp happ
  obtain ⟨hg, hn⟩ := and_e (Cond.before_iff.mp (show (Jvm.Cond.and given_1 narrow_1).before args s = true from hpre))
  obtain ⟨gc, g0⟩ := and_e hg
  obtain ⟨gi0, g1⟩ := and_e g0
  obtain ⟨gi1, g2⟩ := and_e g1
  obtain ⟨gi2, g3⟩ := and_e g2
  obtain ⟨gi3, g4⟩ := and_e g3
  obtain ⟨gi4, g5⟩ := and_e g4
  have gi5 := g5
  obtain ⟨w0, w1, w2, w3, w4, w5, rfl⟩ : ∃ w0 w1 w2 w3 w4 w5 : Value, args = #[w0, w1, w2, w3, w4, w5] := by
    have hs : args.size = 6 := by simpa [Cond.value, given_1] using gc
    obtain ⟨L⟩ := args
    match L, hs with
    | [w0, w1, w2, w3, w4, w5], _ => exact ⟨w0, w1, w2, w3, w4, w5, rfl⟩
  have hw := fun d (hd : d ∈ tables_1) => atoms_spec (ws := Jvm.Cond.code x code maxLocals ret :: tables_1) hat d (List.mem_cons_of_mem _ hd)
  have hfit : Fit s := fun {y c} hc i hi => by
    obtain ⟨ha, rfl⟩ := Array.getElem?_eq_some_iff.mp hc
    have q := List.all_eq_true.mp ((Array.all_eq_true_iff_forall_mem.mp hF) _ (Array.getElem_mem ha)) i (List.mem_range.mpr hi)
    simpa [Array.getElem?_eq_getElem hi] using q
  obtain ⟨i0, ei0⟩ := is_v gi0
  obtain rfl : w0 = (.int i0) := Option.some.inj ei0
  obtain ⟨i1, ei1⟩ := is_v gi1
  obtain rfl : w1 = (.int i1) := Option.some.inj ei1
  obtain ⟨i2, ei2⟩ := is_v gi2
  obtain rfl : w2 = (.int i2) := Option.some.inj ei2
  obtain ⟨i3, ei3⟩ := is_v gi3
  obtain rfl : w3 = (.int i3) := Option.some.inj ei3
  obtain ⟨i4, ei4⟩ := is_v gi4
  obtain rfl : w4 = (.int i4) := Option.some.inj ei4
  obtain ⟨i5, ei5⟩ := is_v gi5
  obtain rfl : w5 = (.int i5) := Option.some.inj ei5
  obtain ⟨n, o, h1, h2, h3, v, L, rfl, ⟨hv, N, -⟩, hq⟩ := rm0 l s _ hw tables_1 i0 i1 i2 i3 i4 i5 s.heap s.heap.size (Nat.le_refl _)  p e ha hc hk s m _ below hf ((Spec.applies_iff_loose hf).mp happ).1 ⟨rfl, State.Warmed39.refl s, rfl⟩ trivial
  rw [plain i0 i1 i2 i3 i4 i5] at hv
  subst hv
  refine ⟨n, _, h1, h2, h3, hpost _ _ _ _ _ _ ⟨Cond.after_iff.mpr rfl, Cond.after_iff.mpr (eq_i res_at (Term.int_eval (1)) rfl), trivial⟩ ⟨hq.1, hq.2.1, (hq.2.2.sift fun y hy => Or.inr (N y hy)).mono (by decide) (by decide)⟩⟩
theorem main_1_1 : Claimed_1_1 := comes_1 fun _ _ _ _ _ _ h hF => ⟨h.1, hF⟩
theorem main_1_2 : Claimed_1_2 := comes_1 fun _ _ _ _ _ _ h hF => ⟨h.2.1, hF⟩
end Jvm.Pilot.@@N@@
namespace Jvm.Pilot.@@N@@
open Jvm Jvm.ClassFile Sem Op Lib Jvm.Free Jvm.Stand Jvm.Pilot.@@N@@.Jvm.D
/-! MADE BY PROGRAM (witnessworld.py) out of the Statement's table words and the real class files: 12 classes; the members and pool entries that the words name. The judged class is class 1, her method 3. -/
namespace start1
open Jvm.ClassFile
def u (s : String) : CpInfo := .utf8 (stringToUtf16 s)
/-- a pool by its gaps: so many unusable entries, then the entry; so many at the end -/
def gap : Nat → List CpInfo → List CpInfo
  | 0, r => r
  | n + 1, r => .unusable :: gap n r
def poolList (es : List (Nat × CpInfo)) (last : Nat) : List CpInfo := es.foldr (fun e r => gap e.1 (e.2 :: r)) (gap last [])
def pool (es : List (Nat × CpInfo)) (last : Nat) : Array CpInfo := ⟨poolList es last⟩
def fileOf (pool : Array CpInfo) (this : Nat) (attrs : Array Attribute := #[]) (ms : Array MethodInfo := #[]) (fl : Nat := 33) (sup : Nat := 0) (ifs : Array Nat := #[]) (fds : Array FieldInfo := #[]) : ClassFile where
  minorVersion := 0
  majorVersion := 65
  constantPool := pool
  accessFlags := fl
  thisClass := this
  superClass := sup
  interfaces := ifs
  fields := fds
  methods := ms
  attributes := attrs
def plain (name : String) (sup : Option ClassId) : Class where
  name := name
  kind := .ordinary
  loader := none
  accessFlags := 33
  super := sup
  interfaces := #[]
  cf := none
  fields := #[]
  methods := #[]
  instanceTypes := #[]
  staticTypes := #[]
  resolved := #[]
  callSites := []
  init := .initialized
  statics := none
  mirror := none

def pool0 : Array CpInfo := pool [(5, u "<init>"), (0, u "()V"), (1, .class_ 10), (1, u "java/lang/Object")] 113

def k0c0 : Code := { maxStack := 0, maxLocals := 1, code := object_method_1_code, exceptionTable := #[], attributes := #[] }
def k0m0 : Method := { name := "<init>", desc := "()V", sig := { parameters := [], returnType := none }, accessFlags := 1, code := some k0c0 }
/-- java/lang/Object -/
def k0 : Class := { plain "java/lang/Object" none with
  accessFlags := 33
  interfaces := #[]
  cf := some (fileOf pool0 8 #[] #[{ accessFlags := 1, nameIndex := 5, descriptorIndex := 6, attributes := #[] }] 33 0 #[] #[])
  fields := #[]
  methods := #[k0m0]
  instanceTypes := #[]
  staticTypes := #[]
  resolved := Array.replicate 124 none
  statics := none }

def pool1 : Array CpInfo := pool [(2, .class_ 4), (1, u "java/lang/Object"), (0, u "<init>"), (0, u "()V"), (0, .methodref 8 9), (0, .class_ 10), (0, .nameAndType 11 12), (0, u "com/example/nestway/nestway/sparql/AnswerTableGetPinLaw"), (0, u "fill"), (0, u "(IIIII)[I"), (0, .class_ 14), (0, u "com/example/nestway/nestway/sparql/AnswerTable"), (0, .methodref 13 16), (0, .nameAndType 5 17), (0, u "(I)V"), (0, .methodref 13 19), (0, .nameAndType 20 21), (0, u "add"), (0, u "([IJ)V"), (0, .methodref 8 23), (0, .nameAndType 24 25), (0, u "val"), (0, u "(IIIII)I"), (0, .methodref 13 27), (0, .nameAndType 28 29), (0, u "get"), (0, u "(II)I"), (5, u "law"), (0, u "(IIIIII)Z")] 2

def k1m0 : Method := { name := "<init>", desc := "()V", sig := { parameters := [], returnType := none }, accessFlags := 1, code := none }
def k1c1 : Code := { maxStack := 2, maxLocals := 5, code := method_2_code, exceptionTable := #[], attributes := #[] }
def k1m1 : Method := { name := "val", desc := "(IIIII)I", sig := { parameters := [.int, .int, .int, .int, .int], returnType := some .int }, accessFlags := 10, code := some k1c1 }
def k1c2 : Code := { maxStack := 3, maxLocals := 6, code := method_3_code, exceptionTable := #[], attributes := #[] }
def k1m2 : Method := { name := "fill", desc := "(IIIII)[I", sig := { parameters := [.int, .int, .int, .int, .int], returnType := some (.array .int) }, accessFlags := 10, code := some k1c2 }
def k1c3 : Code := { maxStack := 5, maxLocals := 16, code := code, exceptionTable := #[], attributes := #[] }
def k1m3 : Method := { name := "law", desc := "(IIIIII)Z", sig := { parameters := [.int, .int, .int, .int, .int, .int], returnType := some .boolean }, accessFlags := 9, code := some k1c3 }
/-- com/example/nestway/nestway/sparql/AnswerTableGetPinLaw -/
def k1 : Class := { plain "com/example/nestway/nestway/sparql/AnswerTableGetPinLaw" (some 0) with
  accessFlags := 49
  interfaces := #[]
  cf := some (fileOf pool1 8 #[] #[{ accessFlags := 1, nameIndex := 5, descriptorIndex := 6, attributes := #[] }, { accessFlags := 10, nameIndex := 24, descriptorIndex := 25, attributes := #[] }, { accessFlags := 10, nameIndex := 11, descriptorIndex := 12, attributes := #[] }, { accessFlags := 9, nameIndex := 35, descriptorIndex := 36, attributes := #[] }] 49 2 #[] #[])
  fields := #[]
  methods := #[k1m0, k1m1, k1m2, k1m3]
  instanceTypes := #[]
  staticTypes := #[]
  resolved := Array.replicate 39 none
  statics := none }

def pool2 : Array CpInfo := pool [(3, .methodref 4 5), (0, .class_ 6), (0, .nameAndType 7 8), (0, u "java/lang/Object"), (0, u "<init>"), (0, u "()V"), (0, .fieldref 10 11), (0, .class_ 12), (0, .nameAndType 13 14), (0, u "com/example/nestway/nestway/sparql/AnswerTable"), (0, u "width"), (0, u "I"), (0, .fieldref 10 16), (0, .nameAndType 17 18), (0, u "cells"), (0, u "[I"), (0, .fieldref 10 20), (0, .nameAndType 21 14), (0, u "size"), (0, .methodref 23 24), (0, .class_ 25), (0, .nameAndType 26 27), (0, u "java/lang/System"), (0, u "arraycopy"), (0, u "(Ljava/lang/Object;ILjava/lang/Object;II)V"), (0, .methodref 10 29), (0, .nameAndType 30 31), (0, u "room"), (0, u "(J)I"), (0, .integer 2147483639), (0, .long 2147483639), (8, .long 2), (1, .methodref 45 46), (0, .class_ 47), (0, .nameAndType 48 49), (0, u "java/lang/Math"), (0, u "max"), (0, u "(JJ)J"), (0, .methodref 45 51), (0, .nameAndType 52 49), (0, u "min"), (0, .methodref 54 55), (0, .class_ 56), (0, .nameAndType 57 58), (0, u "java/util/Arrays"), (0, u "copyOf"), (0, u "([II)[I"), (0, u "MAX_CELLS"), (1, u "(I)V"), (3, u "get"), (0, u "(II)I"), (2, u "add"), (0, u "([IJ)V")] 5

def k2c0 : Code := { maxStack := 3, maxLocals := 2, code := prog_70_method_1_code, exceptionTable := #[], attributes := #[] }
def k2m0 : Method := { name := "<init>", desc := "(I)V", sig := { parameters := [.int], returnType := none }, accessFlags := 0, code := some k2c0 }
def k2c1 : Code := { maxStack := 3, maxLocals := 3, code := prog_70_method_4_code, exceptionTable := #[], attributes := #[] }
def k2m1 : Method := { name := "get", desc := "(II)I", sig := { parameters := [.int, .int], returnType := some .int }, accessFlags := 0, code := some k2c1 }
def k2c2 : Code := { maxStack := 5, maxLocals := 7, code := prog_70_method_6_code, exceptionTable := #[], attributes := #[] }
def k2m2 : Method := { name := "add", desc := "([IJ)V", sig := { parameters := [(.array .int), .long], returnType := none }, accessFlags := 0, code := some k2c2 }
def k2c3 : Code := { maxStack := 10, maxLocals := 6, code := prog_70_method_8_code, exceptionTable := #[], attributes := #[] }
def k2m3 : Method := { name := "room", desc := "(J)I", sig := { parameters := [.long], returnType := some .int }, accessFlags := 2, code := some k2c3 }
/-- com/example/nestway/nestway/sparql/AnswerTable -/
def k2 : Class := { plain "com/example/nestway/nestway/sparql/AnswerTable" (some 0) with
  accessFlags := 48
  interfaces := #[]
  cf := some (fileOf pool2 10 #[] #[{ accessFlags := 0, nameIndex := 7, descriptorIndex := 61, attributes := #[] }, { accessFlags := 0, nameIndex := 65, descriptorIndex := 66, attributes := #[] }, { accessFlags := 0, nameIndex := 69, descriptorIndex := 70, attributes := #[] }, { accessFlags := 2, nameIndex := 30, descriptorIndex := 31, attributes := #[] }] 48 4 #[] #[{ accessFlags := 26, nameIndex := 59, descriptorIndex := 14, attributes := #[] }, { accessFlags := 18, nameIndex := 13, descriptorIndex := 14, attributes := #[] }, { accessFlags := 2, nameIndex := 17, descriptorIndex := 18, attributes := #[] }, { accessFlags := 2, nameIndex := 21, descriptorIndex := 14, attributes := #[] }])
  fields := #[{ name := "MAX_CELLS", type := .int, accessFlags := 26, slot := 0, constantValue := 0 }, { name := "width", type := .int, accessFlags := 18, slot := 0, constantValue := 0 }, { name := "cells", type := (.array .int), accessFlags := 2, slot := 1, constantValue := 0 }, { name := "size", type := .int, accessFlags := 2, slot := 2, constantValue := 0 }]
  methods := #[k2m0, k2m1, k2m2, k2m3]
  instanceTypes := #[.int, (.array .int), .int]
  staticTypes := #[.int]
  resolved := Array.replicate 76 none
  statics := none }

def pool3 : Array CpInfo := pool [(2, .class_ 4), (1, u "java/lang/Object"), (0, u "<init>"), (0, u "()V"), (1, .class_ 10), (1, u "java/lang/System"), (0, u "allowSecurityManager"), (0, u "I"), (16, u "cons"), (0, u "Ljava/io/Console;"), (77, .class_ 110), (1, u "java/lang/System$CallersHolder"), (43, u "initialErrStream"), (0, u "Ljava/io/PrintStream;"), (19, u "security"), (0, u "Ljava/lang/SecurityManager;"), (31, .class_ 209), (0, u "java/lang/System$1"), (7, u "props"), (0, u "Ljava/util/Properties;"), (2, u "lineSeparator"), (0, u "Ljava/lang/String;"), (96, .class_ 321), (1, u "java/lang/System$LoggerFinder"), (5, .class_ 328), (0, u "java/lang/System$Logger"), (67, u "err"), (2, u "out"), (91, u "notSupportedJnuEncoding"), (15, u "in"), (17, u "initialIn"), (0, u "Ljava/io/InputStream;"), (35, u "bootLayer"), (0, u "Ljava/lang/ModuleLayer;"), (99, .class_ 664), (0, u "java/lang/System$2"), (9, u "NEVER"), (2, u "MAYBE"), (49, u "arraycopy"), (0, u "(Ljava/lang/Object;ILjava/lang/Object;II)V"), (72, .class_ 802), (0, u "java/lang/System$Logger$Level")] 31

def k3m0 : Method := { name := "<init>", desc := "()V", sig := { parameters := [], returnType := none }, accessFlags := 2, code := none }
def k3m1 : Method := { name := "arraycopy", desc := "(Ljava/lang/Object;ILjava/lang/Object;II)V", sig := { parameters := [(.object "java/lang/Object"), .int, (.object "java/lang/Object"), .int, .int], returnType := none }, accessFlags := 265, code := none }
/-- java/lang/System -/
def k3 : Class := { plain "java/lang/System" (some 0) with
  accessFlags := 49
  interfaces := #[]
  cf := some (fileOf pool3 8 #[.nestMembers #[319, 327, 801, 108, 663, 208]] #[{ accessFlags := 2, nameIndex := 5, descriptorIndex := 6, attributes := #[] }, { accessFlags := 265, nameIndex := 727, descriptorIndex := 728, attributes := #[] }] 49 2 #[] #[{ accessFlags := 25, nameIndex := 507, descriptorIndex := 526, attributes := #[] }, { accessFlags := 25, nameIndex := 399, descriptorIndex := 155, attributes := #[] }, { accessFlags := 25, nameIndex := 396, descriptorIndex := 155, attributes := #[] }, { accessFlags := 10, nameIndex := 525, descriptorIndex := 526, attributes := #[] }, { accessFlags := 26, nameIndex := 674, descriptorIndex := 12, attributes := #[] }, { accessFlags := 26, nameIndex := 677, descriptorIndex := 12, attributes := #[] }, { accessFlags := 10, nameIndex := 11, descriptorIndex := 12, attributes := #[] }, { accessFlags := 74, nameIndex := 175, descriptorIndex := 176, attributes := #[] }, { accessFlags := 10, nameIndex := 491, descriptorIndex := 222, attributes := #[] }, { accessFlags := 74, nameIndex := 29, descriptorIndex := 30, attributes := #[] }, { accessFlags := 74, nameIndex := 154, descriptorIndex := 155, attributes := #[] }, { accessFlags := 10, nameIndex := 217, descriptorIndex := 218, attributes := #[] }, { accessFlags := 10, nameIndex := 221, descriptorIndex := 222, attributes := #[] }, { accessFlags := 8, nameIndex := 562, descriptorIndex := 563, attributes := #[] }])
  fields := #[{ name := "in", type := (.object "java/io/InputStream"), accessFlags := 25, slot := 0, constantValue := 0 }, { name := "out", type := (.object "java/io/PrintStream"), accessFlags := 25, slot := 1, constantValue := 0 }, { name := "err", type := (.object "java/io/PrintStream"), accessFlags := 25, slot := 2, constantValue := 0 }, { name := "initialIn", type := (.object "java/io/InputStream"), accessFlags := 10, slot := 3, constantValue := 0 }, { name := "NEVER", type := .int, accessFlags := 26, slot := 4, constantValue := 0 }, { name := "MAYBE", type := .int, accessFlags := 26, slot := 5, constantValue := 0 }, { name := "allowSecurityManager", type := .int, accessFlags := 10, slot := 6, constantValue := 0 }, { name := "security", type := (.object "java/lang/SecurityManager"), accessFlags := 74, slot := 7, constantValue := 0 }, { name := "notSupportedJnuEncoding", type := (.object "java/lang/String"), accessFlags := 10, slot := 8, constantValue := 0 }, { name := "cons", type := (.object "java/io/Console"), accessFlags := 74, slot := 9, constantValue := 0 }, { name := "initialErrStream", type := (.object "java/io/PrintStream"), accessFlags := 74, slot := 10, constantValue := 0 }, { name := "props", type := (.object "java/util/Properties"), accessFlags := 10, slot := 11, constantValue := 0 }, { name := "lineSeparator", type := (.object "java/lang/String"), accessFlags := 10, slot := 12, constantValue := 0 }, { name := "bootLayer", type := (.object "java/lang/ModuleLayer"), accessFlags := 8, slot := 13, constantValue := 0 }]
  methods := #[k3m0, k3m1]
  instanceTypes := #[]
  staticTypes := #[(.object "java/io/InputStream"), (.object "java/io/PrintStream"), (.object "java/io/PrintStream"), (.object "java/io/InputStream"), .int, .int, .int, (.object "java/lang/SecurityManager"), (.object "java/lang/String"), (.object "java/io/Console"), (.object "java/io/PrintStream"), (.object "java/util/Properties"), (.object "java/lang/String"), (.object "java/lang/ModuleLayer")]
  resolved := Array.replicate 834 none
  statics := none }

def pool4 : Array CpInfo := pool [(1, .class_ 2), (0, u "java/lang/Math"), (1, .class_ 6), (1, u "java/lang/Object"), (0, u "<init>"), (0, u "()V"), (89, .class_ 100), (1, u "java/lang/Math$RandomNumberGeneratorHolder"), (20, u "(JJ)J"), (50, u "negativeZeroFloatBits"), (0, u "J"), (2, u "negativeZeroDoubleBits"), (21, u "max"), (2, u "min"), (43, u "$assertionsDisabled"), (0, u "Z"), (88, u "(II)I"), (2, u "twoToTheDoubleScaleDown"), (0, u "D"), (4, u "twoToTheDoubleScaleUp"), (9, u "E"), (3, u "PI"), (2, u "TAU"), (2, u "DEGREES_TO_RADIANS"), (0, u "RADIANS_TO_DEGREES")] 94

def k4m0 : Method := { name := "<init>", desc := "()V", sig := { parameters := [], returnType := none }, accessFlags := 2, code := none }
def k4c1 : Code := { maxStack := 4, maxLocals := 4, code := jdk_29_method_66_code, exceptionTable := #[], attributes := #[] }
def k4m1 : Method := { name := "max", desc := "(JJ)J", sig := { parameters := [.long, .long], returnType := some .long }, accessFlags := 9, code := some k4c1 }
def k4c2 : Code := { maxStack := 2, maxLocals := 2, code := jdk_29_method_69_code, exceptionTable := #[], attributes := #[] }
def k4m2 : Method := { name := "min", desc := "(II)I", sig := { parameters := [.int, .int], returnType := some .int }, accessFlags := 9, code := some k4c2 }
def k4c3 : Code := { maxStack := 4, maxLocals := 4, code := jdk_29_method_70_code, exceptionTable := #[], attributes := #[] }
def k4m3 : Method := { name := "min", desc := "(JJ)J", sig := { parameters := [.long, .long], returnType := some .long }, accessFlags := 9, code := some k4c3 }
/-- java/lang/Math -/
def k4 : Class := { plain "java/lang/Math" (some 0) with
  accessFlags := 49
  interfaces := #[]
  cf := some (fileOf pool4 1 #[.nestMembers #[98]] #[{ accessFlags := 2, nameIndex := 7, descriptorIndex := 8, attributes := #[] }, { accessFlags := 9, nameIndex := 198, descriptorIndex := 121, attributes := #[] }, { accessFlags := 9, nameIndex := 201, descriptorIndex := 335, attributes := #[] }, { accessFlags := 9, nameIndex := 201, descriptorIndex := 121, attributes := #[] }] 49 4 #[] #[{ accessFlags := 25, nameIndex := 354, descriptorIndex := 339, attributes := #[] }, { accessFlags := 25, nameIndex := 358, descriptorIndex := 339, attributes := #[] }, { accessFlags := 25, nameIndex := 361, descriptorIndex := 339, attributes := #[] }, { accessFlags := 26, nameIndex := 364, descriptorIndex := 339, attributes := #[] }, { accessFlags := 26, nameIndex := 365, descriptorIndex := 339, attributes := #[] }, { accessFlags := 26, nameIndex := 172, descriptorIndex := 173, attributes := #[] }, { accessFlags := 26, nameIndex := 176, descriptorIndex := 173, attributes := #[] }, { accessFlags := 8, nameIndex := 344, descriptorIndex := 339, attributes := #[] }, { accessFlags := 8, nameIndex := 338, descriptorIndex := 339, attributes := #[] }, { accessFlags := 4120, nameIndex := 245, descriptorIndex := 246, attributes := #[] }])
  fields := #[{ name := "E", type := .double, accessFlags := 25, slot := 0, constantValue := 0 }, { name := "PI", type := .double, accessFlags := 25, slot := 1, constantValue := 0 }, { name := "TAU", type := .double, accessFlags := 25, slot := 2, constantValue := 0 }, { name := "DEGREES_TO_RADIANS", type := .double, accessFlags := 26, slot := 3, constantValue := 0 }, { name := "RADIANS_TO_DEGREES", type := .double, accessFlags := 26, slot := 4, constantValue := 0 }, { name := "negativeZeroFloatBits", type := .long, accessFlags := 26, slot := 5, constantValue := 0 }, { name := "negativeZeroDoubleBits", type := .long, accessFlags := 26, slot := 6, constantValue := 0 }, { name := "twoToTheDoubleScaleUp", type := .double, accessFlags := 8, slot := 7, constantValue := 0 }, { name := "twoToTheDoubleScaleDown", type := .double, accessFlags := 8, slot := 8, constantValue := 0 }, { name := "$assertionsDisabled", type := .boolean, accessFlags := 4120, slot := 9, constantValue := 0 }]
  methods := #[k4m0, k4m1, k4m2, k4m3]
  instanceTypes := #[]
  staticTypes := #[.double, .double, .double, .double, .double, .long, .long, .double, .double, .boolean]
  resolved := Array.replicate 460 none
  statics := none }

def pool5 : Array CpInfo := pool [(2, .class_ 4), (1, u "java/lang/Object"), (0, u "<init>"), (0, u "()V"), (7, .class_ 16), (1, u "java/util/Arrays"), (57, .class_ 76), (1, u "java/util/Arrays$NaturalOrder"), (36, .class_ 115), (1, u "java/util/Arrays$LegacyMergeSort"), (1, u "Z"), (32, .methodref 151 152), (0, .class_ 153), (0, .nameAndType 154 155), (0, u "java/lang/System"), (0, u "arraycopy"), (0, u "(Ljava/lang/Object;ILjava/lang/Object;II)V"), (146, u "copyOf"), (1, .methodref 305 306), (0, .class_ 307), (0, .nameAndType 308 309), (0, u "java/lang/Math"), (0, u "min"), (0, u "(II)I"), (65, .class_ 376), (0, u "java/util/Arrays$ArrayList"), (68, u "$assertionsDisabled"), (269, u "MIN_ARRAY_SORT_GRAN"), (0, u "I"), (2, u "INSERTIONSORT_THRESHOLD"), (151, u "([II)[I"), (103, .class_ 976), (0, u "java/util/Arrays$ArrayItr")] 52

def k5m0 : Method := { name := "<init>", desc := "()V", sig := { parameters := [], returnType := none }, accessFlags := 2, code := none }
def k5c1 : Code := { maxStack := 6, maxLocals := 3, code := jdk_65_method_123_code, exceptionTable := #[], attributes := #[] }
def k5m1 : Method := { name := "copyOf", desc := "([II)[I", sig := { parameters := [(.array .int), .int], returnType := some (.array .int) }, accessFlags := 9, code := some k5c1 }
/-- java/util/Arrays -/
def k5 : Class := { plain "java/util/Arrays" (some 0) with
  accessFlags := 49
  interfaces := #[]
  cf := some (fileOf pool5 14 #[.nestMembers #[975, 375, 113, 74]] #[{ accessFlags := 2, nameIndex := 5, descriptorIndex := 6, attributes := #[] }, { accessFlags := 9, nameIndex := 302, descriptorIndex := 871, attributes := #[] }] 49 2 #[] #[{ accessFlags := 26, nameIndex := 715, descriptorIndex := 716, attributes := #[] }, { accessFlags := 26, nameIndex := 719, descriptorIndex := 716, attributes := #[] }, { accessFlags := 4120, nameIndex := 445, descriptorIndex := 117, attributes := #[] }])
  fields := #[{ name := "MIN_ARRAY_SORT_GRAN", type := .int, accessFlags := 26, slot := 0, constantValue := 0 }, { name := "INSERTIONSORT_THRESHOLD", type := .int, accessFlags := 26, slot := 1, constantValue := 0 }, { name := "$assertionsDisabled", type := .boolean, accessFlags := 4120, slot := 2, constantValue := 0 }]
  methods := #[k5m0, k5m1]
  instanceTypes := #[]
  staticTypes := #[.int, .int, .boolean]
  resolved := Array.replicate 1029 none
  statics := none }

def pool6 : Array CpInfo := pool [(1, u "java/lang/Cloneable"), (0, .class_ 1), (0, u "java/lang/Object"), (0, .class_ 3)] 3

/-- java/lang/Cloneable -/
def k6 : Class := { plain "java/lang/Cloneable" (some 0) with
  accessFlags := 1537
  interfaces := #[]
  cf := some (fileOf pool6 2 #[] #[] 1537 4 #[] #[])
  fields := #[]
  methods := #[]
  instanceTypes := #[]
  staticTypes := #[]
  resolved := Array.replicate 8 none
  statics := none }

def pool7 : Array CpInfo := pool [(1, u "java/io/Serializable"), (0, .class_ 1), (0, u "java/lang/Object"), (0, .class_ 3)] 3

/-- java/io/Serializable -/
def k7 : Class := { plain "java/io/Serializable" (some 0) with
  accessFlags := 1537
  interfaces := #[]
  cf := some (fileOf pool7 2 #[] #[] 1537 4 #[] #[])
  fields := #[]
  methods := #[]
  instanceTypes := #[]
  staticTypes := #[]
  resolved := Array.replicate 8 none
  statics := none }

/-- the primitive byte -/
def k8 : Class := { plain "byte" none with kind := .primitive 'B', accessFlags := 0x411 }
/-- [B -/
def k9 : Class := { plain "[B" (some 0) with kind := .array 8 .byte, interfaces := #[6, 7], accessFlags := 1041 }

/-- the primitive int -/
def k10 : Class := { plain "int" none with kind := .primitive 'I', accessFlags := 0x411 }
/-- [I -/
def k11 : Class := { plain "[I" (some 0) with kind := .array 10 .int, interfaces := #[6, 7], accessFlags := 1041 }

def heap : Heap := #[]
def classes : Array Class := #[k0, k1, k2, k3, k4, k5, k6, k7, k8, k9, k10, k11]
def interned : List (Array UInt16 × Addr) := []
def slotsUsed : Nat := 0
def theMethod : MethodId := ⟨1, 3⟩
def args0 : Array Value := #[.int 5, .int 6, .int 7, .int 8, .int 9, .int 10]
def aboutOver (below : List Frame) : State where
  vm := { classes := classes, interned := interned.toArray }
  heap := heap
  slotsUsed := slotsUsed
  threads := #[{ frames := .invoking theMethod args0 :: below }]
def below0 : List Frame := [.native { method := ⟨0, 0⟩, args := #[] }]
def about1 : State := aboutOver below0
def p0 : Program := .bare "" "" ""
def e0 : Env := launch0.env 0 0 0
theorem w_frames : about1.frames = Frame.invoking theMethod args0 :: below0 := rfl
set_option maxRecDepth 65536 in
theorem w_args : argsFit about1.vm theMethod args0 = true := by decide +kernel
set_option maxRecDepth 65536 in
theorem w_heap : heapFits about1 = true := by decide +kernel
set_option maxRecDepth 65536 in
theorem w_runnable : about1.curStatus? = some .runnable := by decide +kernel
set_option maxRecDepth 65536 in
theorem w_alone : about1.alone = true := by decide +kernel
set_option maxRecDepth 65536 in
theorem w_named : about1.methodNamed? x = some theMethod := by decide +kernel
set_option maxRecDepth 65536 in
theorem w_hears : about1.hears theMethod below0 = true := by decide +kernel
set_option maxRecDepth 65536 in
theorem w_ripe : about1.ripe theMethod args0 below0 = true := by decide +kernel
theorem w_running : about1.status = .running := rfl
set_option maxRecDepth 65536 in
theorem w_room : about1.hasRoom e0.platform room_1 = true :=
  launch0.hasRoom_least _ room_1 (by decide +kernel) (by decide +kernel) (by decide +kernel) (by decide +kernel) (by decide +kernel) (by decide +kernel)
theorem allAtoms_all (ts : List Jvm.Cond) (a : Array Jvm.Value) (st : Jvm.State) : (allAtoms ts).before a st = ts.all (fun c => c.before a st) := by
  induction ts with
  | nil => rfl
  | cons c t ih =>
    show (Jvm.Cond.and c (allAtoms t)).before a st = _
    rw [Jvm.Cond.before_and, ih, List.all_cons]
def words1 : List Jvm.Cond := Jvm.Cond.code x code maxLocals ret :: tables_1
/-- a 'code' word, met by the world's own term for the bytes: nothing is compared byte by byte -/
theorem code_word {y : MethodName} {bytes : ByteArray} {mx : Nat} {rt : Option FieldType} {a : Array Value} {s : State} {m : MethodId} {meth : Method} {c : Code} (h1 : s.methodNamed? y = some m) (h2 : s.vm.method? m = some meth) (h3 : meth.code = some c) (h4 : c.code = bytes)
    (h5 : (c.maxLocals == mx && c.exceptionTable.isEmpty && decide (c.maxStack ≤ mostOperands) && decide (meth.sig.returnType = rt) && !meth.locks && decide (parseMethodDescriptor y.desc = some meth.sig)) = true) : (Jvm.Cond.code y bytes mx rt).before a s = true := by
  simp only [Bool.and_eq_true, beq_iff_eq, Bool.not_eq_true', decide_eq_true_eq] at h5
  obtain ⟨⟨⟨⟨⟨g1, g2⟩, g3⟩, g4⟩, g5⟩, g6⟩ := h5
  simp [Cond.before, Cond.holds, Cond.value, h1, h2, h3, h4, g1, g2, g3, g4, g5, g6]
def isCode : Jvm.Cond → Bool
  | .code _ _ _ _ => true
  | _ => false
theorem all_split {L : List Jvm.Cond} {P : Jvm.Cond → Bool} (h1 : L.all (fun c => isCode c || P c) = true) (h2 : ∀ c ∈ L.filter isCode, P c = true) : L.all P = true := by
  refine List.all_eq_true.mpr fun c hc => ?_
  have h := List.all_eq_true.mp h1 c hc
  rcases Bool.eq_false_or_eq_true (isCode c) with hi | hi
  · exact h2 c (List.mem_filter.mpr ⟨hc, hi⟩)
  · simpa [hi] using h
set_option maxRecDepth 65536 in
theorem w_c0 : (Jvm.Cond.code x code maxLocals ret).before args0 about1 = true := code_word (m := ⟨1, 3⟩) (meth := k1m3) (c := k1c3) (by decide +kernel) rfl rfl rfl (by decide +kernel)
set_option maxRecDepth 65536 in
theorem w_c1 : (Jvm.Cond.code ({ cls := "com/example/nestway/nestway/sparql/AnswerTableGetPinLaw", name := "fill", desc := "(IIIII)[I" } : Jvm.MethodName) method_3_code (6 : Nat) (Option.some (Jvm.ClassFile.FieldType.array Jvm.ClassFile.FieldType.int))).before args0 about1 = true := code_word (m := ⟨1, 2⟩) (meth := k1m2) (c := k1c2) (by decide +kernel) rfl rfl rfl (by decide +kernel)
set_option maxRecDepth 65536 in
theorem w_c2 : (Jvm.Cond.code ({ cls := "com/example/nestway/nestway/sparql/AnswerTable", name := "<init>", desc := "(I)V" } : Jvm.MethodName) prog_70_method_1_code (2 : Nat) (Option.none : Option Jvm.ClassFile.FieldType)).before args0 about1 = true := code_word (m := ⟨2, 0⟩) (meth := k2m0) (c := k2c0) (by decide +kernel) rfl rfl rfl (by decide +kernel)
set_option maxRecDepth 65536 in
theorem w_c3 : (Jvm.Cond.code ({ cls := "java/lang/Object", name := "<init>", desc := "()V" } : Jvm.MethodName) object_method_1_code (1 : Nat) (Option.none : Option Jvm.ClassFile.FieldType)).before args0 about1 = true := code_word (m := ⟨0, 0⟩) (meth := k0m0) (c := k0c0) (by decide +kernel) rfl rfl rfl (by decide +kernel)
set_option maxRecDepth 65536 in
theorem w_c4 : (Jvm.Cond.code ({ cls := "com/example/nestway/nestway/sparql/AnswerTable", name := "add", desc := "([IJ)V" } : Jvm.MethodName) prog_70_method_6_code (7 : Nat) (Option.none : Option Jvm.ClassFile.FieldType)).before args0 about1 = true := code_word (m := ⟨2, 2⟩) (meth := k2m2) (c := k2c2) (by decide +kernel) rfl rfl rfl (by decide +kernel)
set_option maxRecDepth 65536 in
theorem w_c5 : (Jvm.Cond.code ({ cls := "com/example/nestway/nestway/sparql/AnswerTable", name := "room", desc := "(J)I" } : Jvm.MethodName) prog_70_method_8_code (6 : Nat) (Option.some Jvm.ClassFile.FieldType.int)).before args0 about1 = true := code_word (m := ⟨2, 3⟩) (meth := k2m3) (c := k2c3) (by decide +kernel) rfl rfl rfl (by decide +kernel)
set_option maxRecDepth 65536 in
theorem w_c6 : (Jvm.Cond.code ({ cls := "com/example/nestway/nestway/sparql/AnswerTableGetPinLaw", name := "val", desc := "(IIIII)I" } : Jvm.MethodName) method_2_code (5 : Nat) (Option.some Jvm.ClassFile.FieldType.int)).before args0 about1 = true := code_word (m := ⟨1, 1⟩) (meth := k1m1) (c := k1c1) (by decide +kernel) rfl rfl rfl (by decide +kernel)
set_option maxRecDepth 65536 in
theorem w_c7 : (Jvm.Cond.code ({ cls := "com/example/nestway/nestway/sparql/AnswerTable", name := "get", desc := "(II)I" } : Jvm.MethodName) prog_70_method_4_code (3 : Nat) (Option.some Jvm.ClassFile.FieldType.int)).before args0 about1 = true := code_word (m := ⟨2, 1⟩) (meth := k2m1) (c := k2c1) (by decide +kernel) rfl rfl rfl (by decide +kernel)
set_option maxRecDepth 65536 in
theorem w_c8 : (Jvm.Cond.code ({ cls := "java/lang/Math", name := "max", desc := "(JJ)J" } : Jvm.MethodName) jdk_29_method_66_code (4 : Nat) (Option.some Jvm.ClassFile.FieldType.long)).before args0 about1 = true := code_word (m := ⟨4, 1⟩) (meth := k4m1) (c := k4c1) (by decide +kernel) rfl rfl rfl (by decide +kernel)
set_option maxRecDepth 65536 in
theorem w_c9 : (Jvm.Cond.code ({ cls := "java/lang/Math", name := "min", desc := "(JJ)J" } : Jvm.MethodName) jdk_29_method_70_code (4 : Nat) (Option.some Jvm.ClassFile.FieldType.long)).before args0 about1 = true := code_word (m := ⟨4, 3⟩) (meth := k4m3) (c := k4c3) (by decide +kernel) rfl rfl rfl (by decide +kernel)
set_option maxRecDepth 65536 in
theorem w_c10 : (Jvm.Cond.code ({ cls := "java/util/Arrays", name := "copyOf", desc := "([II)[I" } : Jvm.MethodName) jdk_65_method_123_code (3 : Nat) (Option.some (Jvm.ClassFile.FieldType.array Jvm.ClassFile.FieldType.int))).before args0 about1 = true := code_word (m := ⟨5, 1⟩) (meth := k5m1) (c := k5c1) (by decide +kernel) rfl rfl rfl (by decide +kernel)
set_option maxRecDepth 65536 in
theorem w_c11 : (Jvm.Cond.code ({ cls := "java/lang/Math", name := "min", desc := "(II)I" } : Jvm.MethodName) jdk_29_method_69_code (2 : Nat) (Option.some Jvm.ClassFile.FieldType.int)).before args0 about1 = true := code_word (m := ⟨4, 2⟩) (meth := k4m2) (c := k4c2) (by decide +kernel) rfl rfl rfl (by decide +kernel)
def codes1 : List Jvm.Cond := [Jvm.Cond.code x code maxLocals ret, Jvm.Cond.code ({ cls := "com/example/nestway/nestway/sparql/AnswerTableGetPinLaw", name := "fill", desc := "(IIIII)[I" } : Jvm.MethodName) method_3_code (6 : Nat) (Option.some (Jvm.ClassFile.FieldType.array Jvm.ClassFile.FieldType.int)), Jvm.Cond.code ({ cls := "com/example/nestway/nestway/sparql/AnswerTable", name := "<init>", desc := "(I)V" } : Jvm.MethodName) prog_70_method_1_code (2 : Nat) (Option.none : Option Jvm.ClassFile.FieldType), Jvm.Cond.code ({ cls := "java/lang/Object", name := "<init>", desc := "()V" } : Jvm.MethodName) object_method_1_code (1 : Nat) (Option.none : Option Jvm.ClassFile.FieldType), Jvm.Cond.code ({ cls := "com/example/nestway/nestway/sparql/AnswerTable", name := "add", desc := "([IJ)V" } : Jvm.MethodName) prog_70_method_6_code (7 : Nat) (Option.none : Option Jvm.ClassFile.FieldType), Jvm.Cond.code ({ cls := "com/example/nestway/nestway/sparql/AnswerTable", name := "room", desc := "(J)I" } : Jvm.MethodName) prog_70_method_8_code (6 : Nat) (Option.some Jvm.ClassFile.FieldType.int), Jvm.Cond.code ({ cls := "com/example/nestway/nestway/sparql/AnswerTableGetPinLaw", name := "val", desc := "(IIIII)I" } : Jvm.MethodName) method_2_code (5 : Nat) (Option.some Jvm.ClassFile.FieldType.int), Jvm.Cond.code ({ cls := "com/example/nestway/nestway/sparql/AnswerTable", name := "get", desc := "(II)I" } : Jvm.MethodName) prog_70_method_4_code (3 : Nat) (Option.some Jvm.ClassFile.FieldType.int), Jvm.Cond.code ({ cls := "java/lang/Math", name := "max", desc := "(JJ)J" } : Jvm.MethodName) jdk_29_method_66_code (4 : Nat) (Option.some Jvm.ClassFile.FieldType.long), Jvm.Cond.code ({ cls := "java/lang/Math", name := "min", desc := "(JJ)J" } : Jvm.MethodName) jdk_29_method_70_code (4 : Nat) (Option.some Jvm.ClassFile.FieldType.long), Jvm.Cond.code ({ cls := "java/util/Arrays", name := "copyOf", desc := "([II)[I" } : Jvm.MethodName) jdk_65_method_123_code (3 : Nat) (Option.some (Jvm.ClassFile.FieldType.array Jvm.ClassFile.FieldType.int)), Jvm.Cond.code ({ cls := "java/lang/Math", name := "min", desc := "(II)I" } : Jvm.MethodName) jdk_29_method_69_code (2 : Nat) (Option.some Jvm.ClassFile.FieldType.int)]
set_option maxRecDepth 65536 in
theorem codes_eq : words1.filter isCode = codes1 := rfl
theorem w_codes : ∀ c ∈ words1.filter isCode, c.before args0 about1 = true := by
  rw [codes_eq]
  intro c hc
  simp only [codes1, List.mem_cons, List.not_mem_nil, or_false] at hc
  rcases hc with rfl | rfl | rfl | rfl | rfl | rfl | rfl | rfl | rfl | rfl | rfl | rfl
  · exact w_c0
  · exact w_c1
  · exact w_c2
  · exact w_c3
  · exact w_c4
  · exact w_c5
  · exact w_c6
  · exact w_c7
  · exact w_c8
  · exact w_c9
  · exact w_c10
  · exact w_c11
set_option maxRecDepth 65536 in
theorem w_t1 : (words1.take 24).all (fun c => isCode c || c.before args0 about1) = true := by decide +kernel
set_option maxRecDepth 65536 in
theorem w_t2 : ((words1.drop 24).take 24).all (fun c => isCode c || c.before args0 about1) = true := by decide +kernel
set_option maxRecDepth 65536 in
theorem w_t3 : ((words1.drop 24).drop 24).all (fun c => isCode c || c.before args0 about1) = true := by decide +kernel
theorem w_tables : (allAtoms (Jvm.Cond.code x code maxLocals ret :: tables_1)).before args0 about1 = true := by
  rw [allAtoms_all]
  show words1.all (fun c => c.before args0 about1) = true
  refine all_split ?_ w_codes
  rw [← List.take_append_drop 24 words1, List.all_append, w_t1, ← List.take_append_drop 24 (words1.drop 24), List.all_append, w_t2, w_t3]
  rfl
set_option maxRecDepth 65536 in
theorem w_case : (Jvm.Cond.and given_1 narrow_1).before args0 about1 = true := by decide +kernel
theorem w_applies : (headSpec (Jvm.Cond.code x code maxLocals ret :: tables_1) room_1).applies x e0.platform about1 = true :=
  (Spec.applies_iff w_frames).mpr ⟨w_running, w_runnable, w_alone, w_named, w_hears, w_ripe, w_room, w_tables⟩
theorem atStart : AtStart classFile x code maxLocals ret World_1 tables_1 room_1 Calls_1 rest_1 Pre_1 launch0 p0 e0 about1 theMethod args0 below0 :=
  ⟨lists_1, trivial, launch0.admits_env _ _ _, launch0.least_env, fairChoices_fair.cas, fairChoices_fair.clock, w_frames, w_args, w_heap, w_applies, trivial, trivial, w_case⟩
end start1
theorem witness_1 : WitnessClaimed_1 := ⟨start1.p0, start1.e0, start1.about1, start1.theMethod, start1.args0, start1.below0, start1.atStart⟩
end Jvm.Pilot.@@N@@
