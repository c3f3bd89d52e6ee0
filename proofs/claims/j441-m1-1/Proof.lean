import JvmDerived
import JvmDerived.Pilot.@@N@@Statement
import JvmDerived.Pilot.@@N@@Code
set_option linter.unusedVariables false
set_option linter.unusedSimpArgs false
namespace Jvm.RoadKit
open Sem ClassFile Op Lib Jvm.Stand Jvm.Free Jvm.LawKit
section New
variable {p : Program} {l : Launch} {e : Env} {R : Room} {s : State} {m : MethodId} {args : Array Value} {below : List Frame} {meth : Method} {c : Code} {T : State} {locs : List Loc} {cells slots : Nat}
theorem retI (X : Stand p l e R s m args below meth c T locs cells slots) (hx : p.tables.exec = Jvm.exec) {pc : Nat} {Ls : Array Slot} {z : Int32} {rest : List Value} (hret : meth.sig.returnType = some .int) (hd : decode c.code pc = .ok (.ireturn, 1)) {fs : List Frame}
    (hl : ∀ (f : JFrame) (acts : List Action), f.method = m → f.locked = none → f.entered = [] → (doReturn e (T.setTop f) acts (some (.int z))).1 = T.setFrames fs) : Steps p.tables e below (T.setTop (mkF m pc Ls (.int z :: rest))) (T.setFrames fs) := by
  have hm' : T.vm.method? m = some meth := X.method'
  have hn : narrow .int (.int z) = .int z := rfl
  show Steps p.tables e below (T.setTop { method := m, pc := pc, locals := Ls, stack := _ :: rest, locked := none }) _
  jvm_step X.here [X.here.top, hx, hd, hm', hret, hn]
  first | (intro acts; rw [hl _ acts rfl rfl rfl]) | rw [hl _ _ rfl rfl rfl]
  exact Steps.refl _
end New
end Jvm.RoadKit
namespace Jvm.Pilot.@@N@@
open Jvm Jvm.ClassFile Sem Op Lib Jvm.Free Jvm.Stand Jvm.LawKit Jvm.RoadKit Bundle Jvm.Pilot.@@N@@.Jvm.D
theorem own_fld {s : State} {args : Array Value} {t : Term} {x : Addr} {C n d : String} {k : Int32} (ev : t.eval args s none [] s = some (.ref x)) (h : (Jvm.Cond.eq (.field t C n d) (.int k)).value args s none s [] = some true) : Fld s s.heap x C n d (.int k) := by
  have hf := fld_at (C := C) (n := n) (dd := d) ev
  have hk : (Term.int k).eval args s none [] s = some (.int k) := Term.int_eval k
  cases hq : s.fieldOf? x C n d with
  | none => rw [hq] at hf; simp [Cond.value, hf] at h
  | some v =>
    rw [hq] at hf
    cases v <;> simp [Cond.value, hf, hk] at h
    subst h
    exact Fld.start hq
def upd (f : Int32 → Int32) (j v : Int32) : Int32 → Int32 := fun k => if k = j then v else f k
def Ia (Z : State) (h : Heap) (a : Addr) (ty : FieldType) (n : Int32) (f : Int32 → Int32) : Prop := ∃ c : Cell, Arr Z h a c ty ∧ c.slots.size = n.toNatClampNeg ∧ ¬ n < 0 ∧ ∀ j : Int32, ¬ j < 0 → j < n → c.slots[j.toNatClampNeg]? = some (.int (f j))
section OwnIa
variable {Z : State} {h h' : Heap} {a b : Addr} {ty : FieldType} {n j x : Int32} {f : Int32 → Int32} {sl : Nat} {v : Value} {ws : List Addr}
theorem own_ext (K : Keep h h' []) : Ext h h' := ⟨K.1, fun a c q => K.2.1 a c q nin0⟩
theorem Ia.lt (F : Ia Z h a ty n f) : a < h.size := by obtain ⟨c, A, -⟩ := F; exact A.lt
theorem Ia.ext (F : Ia Z h a ty n f) (E : Ext h h') : Ia Z h' a ty n f := by obtain ⟨c, A, r⟩ := F; exact ⟨c, A.ext E, r⟩
theorem Ia.other (F : Ia Z h b ty n f) (W : Wr h h' a sl v) (q : b ≠ a) : Ia Z h' b ty n f := by obtain ⟨c, A, r⟩ := F; exact ⟨c, A.other W q, r⟩
theorem Ia.keep (F : Ia Z h a ty n f) (K : Keep h h' ws) (q : a ∉ ws) : Ia Z h' a ty n f := by obtain ⟨c, A, r⟩ := F; exact ⟨c, ⟨K.2.1 a c A.1 q, A.2⟩, r⟩
theorem Ia.at (F : Ia Z h a ty n f) (q : ¬ j < 0 ∧ j < n) : ∃ c : Cell, Arr Z h a c ty ∧ ¬ (j < 0 ∨ c.slots.size ≤ j.toNatClampNeg) ∧ c.slots[j.toNatClampNeg]? = some (.int (f j)) := by
  obtain ⟨c, A, S, N, G⟩ := F
  exact ⟨c, A, inb_of S q, G j q.1 q.2⟩
theorem Ia.len (F : Ia Z h a ty n f) : ∃ c : Cell, Arr Z h a c ty ∧ c.slots.size = n.toNatClampNeg ∧ ¬ n < 0 := by
  obtain ⟨c, A, S, N, G⟩ := F
  exact ⟨c, A, S, N⟩
theorem Ia.new {k : ClassId} (A : Arr Z h a (newA k ty n) ty) (q : ¬ n < 0) (e : defaultValue ty = .int 0) : Ia Z h a ty n (fun _ => 0) :=
  ⟨_, A, sz_new _ _ _, q, fun j h1 h2 => by
    have hi := inb_of (sz_new k ty n) ⟨h1, h2⟩
    rw [sz_new] at hi
    rw [get_new hi, e]⟩
theorem Ia.set (F : Ia Z h a ty n f) (W : Wr h h' a j.toNatClampNeg (.int x)) (hj : ¬ j < 0) : Ia Z h' a ty n (upd f j x) := by
  obtain ⟨c, A, S, N, G⟩ := F
  refine ⟨_, A.same W, by rw [sz_set]; exact S, N, fun k h1 h2 => ?_⟩
  by_cases e : k = j
  · subst e
    rw [get_hit (inb_of S ⟨h1, h2⟩) rfl]
    exact congrArg (fun z => some (Value.int z)) (if_pos rfl).symm
  · rw [get_miss hj h1 e, G k h1 h2]
    exact congrArg (fun z => some (Value.int z)) (if_neg e).symm
theorem own_nea {C : String} {a0 : Array Value} {k : Nat} (F : Exa Z h a C) (wi : (Jvm.Cond.instantiable C k).before a0 Z = true) (G : Ia Z h b ty n f) : a ≠ b := by
  obtain ⟨c, A, -⟩ := G
  exact ne_arr F wi A
theorem Ia.congr {g : Int32 → Int32} (F : Ia Z h a ty n f) (q : ∀ j : Int32, ¬ j < 0 → j < n → f j = g j) : Ia Z h a ty n g := by
  obtain ⟨c, A, S, N, G⟩ := F
  exact ⟨c, A, S, N, fun k h1 h2 => by rw [← q k h1 h2]; exact G k h1 h2⟩
end OwnIa
theorem own_nat (b : Int32) : b = Int32.ofNat b.toBitVec.toNat := by
  apply Int32.toBitVec_inj.mp
  simp
theorem own_mask (a m : Int32) (k : Nat) (h : m.toBitVec.toNat = k) : ∃ n, n < k + 1 ∧ a &&& m = Int32.ofNat n := by
  refine ⟨(a &&& m).toBitVec.toNat, ?_, own_nat _⟩
  have : (a &&& m).toBitVec.toNat = a.toBitVec.toNat &&& m.toBitVec.toNat := by simp
  rw [this, h]
  exact Nat.lt_succ_of_le Nat.and_le_right
theorem own_ofNat (n : Nat) (h : n < 2147483648) : (Int32.ofNat n).toInt = (n : Int) := Int32.toInt_ofNat_of_lt h
theorem own_rem (n k : Nat) (h : n < 2147483648) (h1 : k < 2147483648) : Int32.ofNat n % Int32.ofNat k = Int32.ofNat (n % k) := by
  apply Int32.toInt_inj.mp
  rw [Int32.toInt_mod, own_ofNat n h, own_ofNat k h1, own_ofNat (n % k) (Nat.lt_of_le_of_lt (Nat.mod_le n k) h)]
  rw [Int.tmod_eq_emod_of_nonneg (by omega)]
  exact (Int.natCast_emod n k).symm
theorem Ia.nn {Z : State} {h : Heap} {a : Addr} {ty : FieldType} {n : Int32} {f : Int32 → Int32} (F : Ia Z h a ty n f) : ¬ n < 0 := by obtain ⟨c, A, S, N, G⟩ := F; exact N
theorem own_inc (i n : Int32) (h : i < n) : (i + 1).toInt = i.toInt + 1 := by
  have h1 := Int32.lt_iff_toInt_lt.mp h
  have r1 := i.le_toInt
  have r2 := n.toInt_lt
  have z1 : (1 : Int32).toInt = 1 := by decide
  rw [Int32.toInt_add, z1]
  exact Int.bmod_eq_of_le (by omega) (by omega)
theorem own_s1 (i n : Int32) (hi : ¬ i < 0) (h : i < n) : ¬ (i + 1) < 0 := fun q => by
  have z0 : (0 : Int32).toInt = 0 := by decide
  have h1 := Int32.lt_iff_toInt_lt.mp q
  have h2 : ¬ (i.toInt < (0 : Int32).toInt) := fun q => hi (Int32.lt_iff_toInt_lt.mpr q)
  rw [own_inc i n h] at h1
  omega
theorem own_s2 (i n : Int32) (h : i < n) : ¬ n < (i + 1) := fun q => by
  have h1 := Int32.lt_iff_toInt_lt.mp q
  have h2 := Int32.lt_iff_toInt_lt.mp h
  rw [own_inc i n h] at h1
  omega
theorem own_s3 (i n : Int32) (k : Nat) (hk : n.toInt - i.toInt < ((k + 1 : Nat) : Int)) (h : i < n) : n.toInt - (i + 1).toInt < (k : Int) := by
  rw [own_inc i n h]
  omega
theorem own_z (i n : Int32) (hj : ¬ n < i) (hk : n.toInt - i.toInt < ((0 : Nat) : Int)) : False := by
  have h2 : ¬ (n.toInt < i.toInt) := fun q => hj (Int32.lt_iff_toInt_lt.mpr q)
  omega
theorem own_clamp (n : Int32) (h : ¬ n < 0) : n.toInt = (n.toNatClampNeg : Int) := by
  have z0 : (0 : Int32).toInt = 0 := by decide
  have h2 : ¬ (n.toInt < (0 : Int32).toInt) := fun q => h (Int32.lt_iff_toInt_lt.mpr q)
  show n.toInt = (n.toInt.toNat : Int)
  omega
theorem own_k0 (n : Int32) (h : ¬ n < 0) : n.toInt - (0 : Int32).toInt < ((n.toNatClampNeg + 1 : Nat) : Int) := by
  have z0 : (0 : Int32).toInt = 0 := by decide
  have := own_clamp n h
  omega
theorem own_tr (i n m : Int32) (h : i < n) (hm : ¬ m < n) : i < m := by
  have h1 := Int32.lt_iff_toInt_lt.mp h
  have h2 : ¬ (m.toInt < n.toInt) := fun q => hm (Int32.lt_iff_toInt_lt.mpr q)
  exact Int32.lt_iff_toInt_lt.mpr (by omega)
theorem own_pj (p j : Int32) (hs : ¬ p < 0) (hb : p.toInt ≤ 100) (hj : 0 ≤ j.toInt ∧ j.toInt ≤ 10) : (p + j).toInt = p.toInt + j.toInt := by
  have z0 : (0 : Int32).toInt = 0 := by decide
  have h2 : ¬ (p.toInt < (0 : Int32).toInt) := fun q => hs (Int32.lt_iff_toInt_lt.mpr q)
  rw [Int32.toInt_add]
  exact Int.bmod_eq_of_le (by omega) (by omega)
theorem own_pn (p j : Int32) (hs : ¬ p < 0) (hb : p.toInt ≤ 100) (hj : 0 ≤ j.toInt ∧ j.toInt ≤ 10) : ¬ (p + j) < 0 := fun q => by
  have z0 : (0 : Int32).toInt = 0 := by decide
  have h2 : ¬ (p.toInt < (0 : Int32).toInt) := fun q => hs (Int32.lt_iff_toInt_lt.mpr q)
  have h1 := Int32.lt_iff_toInt_lt.mp q
  rw [own_pj p j hs hb hj] at h1
  omega
theorem own_vj (p q n j m : Int32) (hs : ¬ p < 0) (hb : p.toInt ≤ 100) (hq : p.toInt + q.toInt ≤ n.toInt) (hj : (0 ≤ j.toInt ∧ j.toInt ≤ 10) ∧ m.toInt = j.toInt + 1) (h : ¬ q < m) : ¬ (p + j) < 0 ∧ (p + j) < n := by
  refine ⟨own_pn p j hs hb hj.1, Int32.lt_iff_toInt_lt.mpr ?_⟩
  have h2 : ¬ (q.toInt < m.toInt) := fun q => h (Int32.lt_iff_toInt_lt.mpr q)
  rw [own_pj p j hs hb hj.1]
  omega
theorem own_v0 (p q n : Int32) (hs : ¬ p < 0) (hq : p.toInt + q.toInt ≤ n.toInt) (h : ¬ q < 1) : ¬ p < 0 ∧ p < n := by
  refine ⟨hs, Int32.lt_iff_toInt_lt.mpr ?_⟩
  have z1 : (1 : Int32).toInt = 1 := by decide
  have h2 : ¬ (q.toInt < (1 : Int32).toInt) := fun q => h (Int32.lt_iff_toInt_lt.mpr q)
  omega
theorem own_t1 (x i n : Int32) (hi : ¬ (x + i) < 0) (h : (x + i) < n) : ¬ (x + (i + 1)) < 0 := by
  rw [← Int32.add_assoc]; exact own_s1 _ n hi h
theorem own_t2 (x i n : Int32) (h : (x + i) < n) : ¬ n < (x + (i + 1)) := by
  rw [← Int32.add_assoc]; exact own_s2 _ n h
theorem own_t3 (x i n : Int32) (k : Nat) (hk : n.toInt - (x + i).toInt < ((k + 1 : Nat) : Int)) (h : (x + i) < n) : n.toInt - (x + (i + 1)).toInt < (k : Int) := by
  rw [← Int32.add_assoc]; exact own_s3 _ n k hk h
theorem own_start (x : Int32) : ∃ n, n < 6 ∧ (x &&& 7) % 6 = Int32.ofNat n := by
  obtain ⟨n, hn, e⟩ := own_mask x 7 7 (by decide)
  exact ⟨n % 6, Nat.mod_lt _ (by decide), by rw [e]; exact own_rem n 6 (by omega) (by decide)⟩
theorem own_end (x y : Int32) : ∃ n m, n < 6 ∧ n ≤ m ∧ m < 6 ∧ (x &&& 7) % 6 = Int32.ofNat n ∧ (x &&& 7) % 6 + (y &&& 7) % (6 - (x &&& 7) % 6) = Int32.ofNat m := by
  obtain ⟨n, hn, e⟩ := own_start x
  obtain ⟨k, hk, e'⟩ := own_mask y 7 7 (by decide)
  have h7 : (6 : Int32) - Int32.ofNat n = Int32.ofNat (6 - n) := (show ∀ k : Fin 6, (6 : Int32) - Int32.ofNat k.val = Int32.ofNat (6 - k.val) from by decide) ⟨n, hn⟩
  have hm : k % (6 - n) < 6 - n := Nat.mod_lt _ (by omega)
  refine ⟨n, n + k % (6 - n), hn, by omega, by omega, e, ?_⟩
  rw [e, e', h7, own_rem k (6 - n) (by omega) (by omega)]
  exact (Int32.ofNat_add n _).symm
theorem own_nz (x : Int32) : (6 : Int32) - (x &&& 7) % 6 ≠ 0 := by
  obtain ⟨n, hn, e⟩ := own_start x
  rw [e]
  exact (show ∀ k : Fin 6, (6 : Int32) - Int32.ofNat k.val ≠ 0 from by decide) ⟨n, hn⟩
theorem own_a0 (x : Int32) : ¬ (x &&& 7) % 6 < 0 := by
  obtain ⟨n, hn, e⟩ := own_start x
  rw [e]
  exact (show ∀ k : Fin 6, ¬ Int32.ofNat k.val < 0 from by decide) ⟨n, hn⟩
theorem own_a1 (x : Int32) : ((x &&& 7) % 6).toInt ≤ 100 := by
  obtain ⟨n, hn, e⟩ := own_start x
  rw [e, own_ofNat n (by omega)]
  omega
-- body 1: com/example/clapboard/clapboard/parse/TextCursorReadNumberPinLaw.pick(IJI)C
theorem d1_0 : decode method_3_code 0 = .ok (.iload_n 0, 1) := by decide +kernel
theorem d1_1 : decode method_3_code 1 = .ok (.iload_n 3, 1) := by decide +kernel
theorem d1_2 : decode method_3_code 2 = .ok (.iushr, 1) := by decide +kernel
theorem d1_3 : decode method_3_code 3 = .ok (.iconst 1, 1) := by decide +kernel
theorem d1_4 : decode method_3_code 4 = .ok (.iand, 1) := by decide +kernel
theorem d1_5 : decode method_3_code 5 = .ok (.ifCond .eq 21, 3) := by decide +kernel
theorem d1_8 : decode method_3_code 8 = .ok (.bipush 48, 2) := by decide +kernel
theorem d1_10 : decode method_3_code 10 = .ok (.iload_n 0, 1) := by decide +kernel
theorem d1_11 : decode method_3_code 11 = .ok (.iconst 5, 1) := by decide +kernel
theorem d1_12 : decode method_3_code 12 = .ok (.iconst 4, 1) := by decide +kernel
theorem d1_13 : decode method_3_code 13 = .ok (.iload_n 3, 1) := by decide +kernel
theorem d1_14 : decode method_3_code 14 = .ok (.imul, 1) := by decide +kernel
theorem d1_15 : decode method_3_code 15 = .ok (.iadd, 1) := by decide +kernel
theorem d1_16 : decode method_3_code 16 = .ok (.iushr, 1) := by decide +kernel
theorem d1_17 : decode method_3_code 17 = .ok (.bipush 15, 2) := by decide +kernel
theorem d1_19 : decode method_3_code 19 = .ok (.iand, 1) := by decide +kernel
theorem d1_20 : decode method_3_code 20 = .ok (.bipush 10, 2) := by decide +kernel
theorem d1_22 : decode method_3_code 22 = .ok (.irem, 1) := by decide +kernel
theorem d1_23 : decode method_3_code 23 = .ok (.iadd, 1) := by decide +kernel
theorem d1_24 : decode method_3_code 24 = .ok (.i2c, 1) := by decide +kernel
theorem d1_25 : decode method_3_code 25 = .ok (.ireturn, 1) := by decide +kernel
theorem d1_26 : decode method_3_code 26 = .ok (.lload_n 1, 1) := by decide +kernel
theorem d1_27 : decode method_3_code 27 = .ok (.bipush 12, 2) := by decide +kernel
theorem d1_29 : decode method_3_code 29 = .ok (.iload_n 3, 1) := by decide +kernel
theorem d1_30 : decode method_3_code 30 = .ok (.imul, 1) := by decide +kernel
theorem d1_31 : decode method_3_code 31 = .ok (.lushr, 1) := by decide +kernel
theorem d1_32 : decode method_3_code 32 = .ok (.ldc2_w 33, 3) := by decide +kernel
theorem d1_35 : decode method_3_code 35 = .ok (.land, 1) := by decide +kernel
theorem d1_36 : decode method_3_code 36 = .ok (.l2i, 1) := by decide +kernel
theorem d1_37 : decode method_3_code 37 = .ok (.i2c, 1) := by decide +kernel
theorem d1_38 : decode method_3_code 38 = .ok (.ireturn, 1) := by decide +kernel
theorem pn_1 : plainName "com/example/clapboard/clapboard/parse/TextCursorReadNumberPinLaw" = true := by first | (simp [plainName, overriddenIn]; done) | decide +kernel
theorem ef_1 (m : MethodId) (p1 : Int32) (q2 : Int64) (p3 : Int32) : entryFrame m #[(.int p1), (.long q2), (.int p3)] 4 = mkF m 0 #[.val (.int p1), .val (.long q2), .second, .val (.int p3)] [] := by first | (simp [entryFrame, mkF, argsToLocals, Value.category]; done) | rfl
def f1 (p1 : Int32) (q2 : Int64) (p3 : Int32) : Int32 := (if (((p1.toUInt32 >>> (p3 &&& 31).toUInt32).toInt32) &&& (1 : Int32)) = (0 : Int32) then (nar .char (((((q2.toUInt64 >>> (((12 : Int32) * p3) &&& 0x3f).toInt64.toUInt64).toInt64) &&& (4095 : Int64)).toInt32).toUInt32.toUInt16.toUInt32.toInt32)) else (nar .char (((48 : Int32) + ((((p1.toUInt32 >>> (((5 : Int32) + ((4 : Int32) * p3)) &&& 31).toUInt32).toInt32) &&& (15 : Int32)) % (10 : Int32))).toUInt32.toUInt16.toUInt32.toInt32)))
def Q1 (Z : State) (p1 : Int32) (q2 : Int64) (p3 : Int32) (h0 : Heap) (n0 : Nat) (v : Option Value) (h : Heap) (L : List Loc) : Prop := v = some (.int (f1 p1 q2 p3)) ∧ Fr n0 L ∧ h = h0
set_option maxRecDepth 65536 in
set_option maxHeartbeats 40000000 in
theorem rm1 (l : Launch) (Z : State) (a0 : Array Value) (hw : ∀ d ∈ tables_1, d.before a0 Z = true) (ws : List Jvm.Cond) (p1 : Int32) (q2 : Int64) (p3 : Int32) (h0 : Heap) (n0 : Nat) (Z0 : n0 ≤ h0.size) :
    MetFree l (⟨"com/example/clapboard/clapboard/parse/TextCursorReadNumberPinLaw", "pick", "(IJI)C"⟩ : MethodName) (head1 (Jvm.Cond.code (⟨"com/example/clapboard/clapboard/parse/TextCursorReadNumberPinLaw", "pick", "(IJI)C"⟩ : MethodName) method_3_code 4 (some .char) :: ws) ({ frames := 0, cells := 0, slots := 0, locals := 0 } : Room)) (fun a U => a = #[(.int p1), (.long q2), (.int p3)] ∧ Z.Warmed39 U.vm ∧ U.heap = h0) (fun _ _ _ _ _ => True) (fun _ U o U' => ∃ v L, o = .returned v ∧ Q1 Z p1 q2 p3 h0 n0 v U'.heap L ∧ FrameEnd U o U' L ({ frames := 0, cells := 0, slots := 0, locals := 0 } : Room).cells ({ frames := 0, cells := 0, slots := 0, locals := 0 } : Room).slots) := by
  refine MetFree.of_bodySF (plainFor_of_name pn_1) hisR ?_
  intro p e s m args below meth c s₁ Bd hml0 hP hK
  obtain ⟨rfl, hZ, hh⟩ := hP
  have hx := Bd.exec
  have hby := Bd.bytes
  have hml : c.maxLocals = 4 := hml0
  have hown : s.vm.findClass "com/example/clapboard/clapboard/parse/TextCursorReadNumberPinLaw" = some m.cls := findClass_of_methodNamed Bd.named
  have hnm := (name_of_methodNamed Bd.named Bd.method).1
  have X0 : Stand p l e ({ frames := 0, cells := 0, slots := 0, locals := 0 } : Room) s m #[(.int p1), (.long q2), (.int p3)] below meth c s₁ [] 0 0 := Stand.of_body Bd
  have e0 : s₁.heap = h0 := by rw [← hh, Bd.state]; rfl
  have N0 := Fr.nil n0
  have pre0 : ∀ t, Steps p.tables e below (s₁.setTop (mkF m 0 #[.val (.int p1), .val (.long q2), .second, .val (.int p3)] [])) t → Steps p.tables e below (s₁.setTop (entryFrame m #[(.int p1), (.long q2), (.int p3)] 4)) t := fun t k => castTop (ef_1 m p1 q2 p3) k
  have K1 : ∀ t, Steps p.tables e below (s₁.setTop (mkF m 5 #[.val (.int p1), .val (.long q2), .second, .val (.int p3)] [(.int (((p1.toUInt32 >>> (p3 &&& 31).toUInt32).toInt32) &&& (1 : Int32)))])) t → Steps p.tables e below (s₁.setTop (mkF m 0 #[.val (.int p1), .val (.long q2), .second, .val (.int p3)] [])) t := by
    intro t k
    refine XS.iloadN X0.here hx rfl (Jvm.hb hby d1_0) rfl ?_
    show Steps p.tables e below (s₁.setTop (mkF m 1 #[.val (.int p1), .val (.long q2), .second, .val (.int p3)] [(.int p1)])) t
    refine XS.iloadN X0.here hx rfl (Jvm.hb hby d1_1) rfl ?_
    show Steps p.tables e below (s₁.setTop (mkF m 2 #[.val (.int p1), .val (.long q2), .second, .val (.int p3)] [(.int p3), (.int p1)])) t
    refine XS.iushr X0.here hx rfl (Jvm.hb hby d1_2) rfl ?_
    show Steps p.tables e below (s₁.setTop (mkF m 3 #[.val (.int p1), .val (.long q2), .second, .val (.int p3)] [(.int ((p1.toUInt32 >>> (p3 &&& 31).toUInt32).toInt32))])) t
    refine XS.iconst X0.here hx rfl (Jvm.hb hby d1_3) ?_
    show Steps p.tables e below (s₁.setTop (mkF m 4 #[.val (.int p1), .val (.long q2), .second, .val (.int p3)] [(.int (1 : Int32)), (.int ((p1.toUInt32 >>> (p3 &&& 31).toUInt32).toInt32))])) t
    refine XS.iand X0.here hx rfl (Jvm.hb hby d1_4) rfl ?_
    show Steps p.tables e below (s₁.setTop (mkF m 5 #[.val (.int p1), .val (.long q2), .second, .val (.int p3)] [(.int (((p1.toUInt32 >>> (p3 &&& 31).toUInt32).toInt32) &&& (1 : Int32)))])) t
    exact k
  by_cases hc2 : (((p1.toUInt32 >>> (p3 &&& 31).toUInt32).toInt32) &&& (1 : Int32)) = (0 : Int32)
  · have K3 : ∀ t, Steps p.tables e below (s₁.setTop (mkF m 26 #[.val (.int p1), .val (.long q2), .second, .val (.int p3)] [])) t → Steps p.tables e below (s₁.setTop (mkF m 5 #[.val (.int p1), .val (.long q2), .second, .val (.int p3)] [(.int (((p1.toUInt32 >>> (p3 &&& 31).toUInt32).toInt32) &&& (1 : Int32)))])) t := by
      intro t k
      refine XS.ifYes X0.here hx rfl (pc0 := 5) (pc' := 26) rfl (Jvm.hb hby d1_5) rfl ((if0 _ _).trans (teq hc2).1) (by decide) (by decide) ?_
      exact k
    have K4 : ∀ t, Steps p.tables e below (s₁.setTop (mkF m 38 #[.val (.int p1), .val (.long q2), .second, .val (.int p3)] [(.int (((((q2.toUInt64 >>> (((12 : Int32) * p3) &&& 0x3f).toInt64.toUInt64).toInt64) &&& (4095 : Int64)).toInt32).toUInt32.toUInt16.toUInt32.toInt32))])) t → Steps p.tables e below (s₁.setTop (mkF m 26 #[.val (.int p1), .val (.long q2), .second, .val (.int p3)] [])) t := by
      intro t k
      refine XS.lloadN X0.here hx rfl (Jvm.hb hby d1_26) rfl ?_
      show Steps p.tables e below (s₁.setTop (mkF m 27 #[.val (.int p1), .val (.long q2), .second, .val (.int p3)] [(.long q2)])) t
      refine XS.bipush X0.here hx rfl (Jvm.hb hby d1_27) ?_
      show Steps p.tables e below (s₁.setTop (mkF m 29 #[.val (.int p1), .val (.long q2), .second, .val (.int p3)] [(.int (12 : Int32)), (.long q2)])) t
      refine XS.iloadN X0.here hx rfl (Jvm.hb hby d1_29) rfl ?_
      show Steps p.tables e below (s₁.setTop (mkF m 30 #[.val (.int p1), .val (.long q2), .second, .val (.int p3)] [(.int p3), (.int (12 : Int32)), (.long q2)])) t
      refine XS.imul X0.here hx rfl (Jvm.hb hby d1_30) rfl ?_
      show Steps p.tables e below (s₁.setTop (mkF m 31 #[.val (.int p1), .val (.long q2), .second, .val (.int p3)] [(.int ((12 : Int32) * p3)), (.long q2)])) t
      refine XS.lushr X0.here hx rfl (Jvm.hb hby d1_31) rfl ?_
      show Steps p.tables e below (s₁.setTop (mkF m 32 #[.val (.int p1), .val (.long q2), .second, .val (.int p3)] [(.long ((q2.toUInt64 >>> (((12 : Int32) * p3) &&& 0x3f).toInt64.toUInt64).toInt64))])) t
      refine X0.ldc2Long hx hown (mvT hZ (hw _ (List.mem_of_getElem? (i := 5) rfl))) (g := (mkF m 32 #[.val (.int p1), .val (.long q2), .second, .val (.int p3)] [(.long ((q2.toUInt64 >>> (((12 : Int32) * p3) &&& 0x3f).toInt64.toUInt64).toInt64))])) rfl (Jvm.hb hby d1_32) _ ?_
      show Steps p.tables e below (s₁.setTop (mkF m 35 #[.val (.int p1), .val (.long q2), .second, .val (.int p3)] [(.long (4095 : Int64)), (.long ((q2.toUInt64 >>> (((12 : Int32) * p3) &&& 0x3f).toInt64.toUInt64).toInt64))])) t
      refine XS.land X0.here hx rfl (Jvm.hb hby d1_35) rfl ?_
      show Steps p.tables e below (s₁.setTop (mkF m 36 #[.val (.int p1), .val (.long q2), .second, .val (.int p3)] [(.long (((q2.toUInt64 >>> (((12 : Int32) * p3) &&& 0x3f).toInt64.toUInt64).toInt64) &&& (4095 : Int64)))])) t
      refine XS.l2i X0.here hx rfl (Jvm.hb hby d1_36) rfl ?_
      show Steps p.tables e below (s₁.setTop (mkF m 37 #[.val (.int p1), .val (.long q2), .second, .val (.int p3)] [(.int ((((q2.toUInt64 >>> (((12 : Int32) * p3) &&& 0x3f).toInt64.toUInt64).toInt64) &&& (4095 : Int64)).toInt32))])) t
      refine XS.i2c X0.here hx rfl (Jvm.hb hby d1_37) rfl ?_
      show Steps p.tables e below (s₁.setTop (mkF m 38 #[.val (.int p1), .val (.long q2), .second, .val (.int p3)] [(.int (((((q2.toUInt64 >>> (((12 : Int32) * p3) &&& 0x3f).toInt64.toUInt64).toInt64) &&& (4095 : Int64)).toInt32).toUInt32.toUInt16.toUInt32.toInt32))])) t
      exact k
    obtain ⟨fs, hr, hrun, hended, hW, hsame⟩ := X0.leave (v := some (.int (nar .char (((((q2.toUInt64 >>> (((12 : Int32) * p3) &&& 0x3f).toInt64.toUInt64).toInt64) &&& (4095 : Int64)).toInt32).toUInt32.toUInt16.toUInt32.toInt32)))) (fun h => by rw [Bd.returns] at h; cases h) Bd.notSynchronized
    refine ⟨_, _, pre0 _ (K1 _ (K3 _ (K4 _ (retN X0 hx (t := .char) Bd.returns (by simp) (Jvm.hb hby d1_38) hr)))), hrun, hended, _, _, rfl, ?_, ⟨_, rfl⟩, hW, hsame.mono (by decide) (by decide)⟩
    show Q1 Z p1 q2 p3 h0 n0 _ s₁.heap _
    rw [e0]
    exact ⟨congrArg (fun z => some (Value.int z)) (show (nar .char (((((q2.toUInt64 >>> (((12 : Int32) * p3) &&& 0x3f).toInt64.toUInt64).toInt64) &&& (4095 : Int64)).toInt32).toUInt32.toUInt16.toUInt32.toInt32)) = f1 p1 q2 p3 from Eq.symm (if_pos hc2)), N0, rfl⟩
  · have K5 : ∀ t, Steps p.tables e below (s₁.setTop (mkF m 8 #[.val (.int p1), .val (.long q2), .second, .val (.int p3)] [])) t → Steps p.tables e below (s₁.setTop (mkF m 5 #[.val (.int p1), .val (.long q2), .second, .val (.int p3)] [(.int (((p1.toUInt32 >>> (p3 &&& 31).toUInt32).toInt32) &&& (1 : Int32)))])) t := by
      intro t k
      refine XS.ifNo X0.here hx rfl (Jvm.hb hby d1_5) rfl ((if0 _ _).trans (feq hc2).1) ?_
      exact k
    have K6 : ∀ t, Steps p.tables e below (s₁.setTop (mkF m 25 #[.val (.int p1), .val (.long q2), .second, .val (.int p3)] [(.int (((48 : Int32) + ((((p1.toUInt32 >>> (((5 : Int32) + ((4 : Int32) * p3)) &&& 31).toUInt32).toInt32) &&& (15 : Int32)) % (10 : Int32))).toUInt32.toUInt16.toUInt32.toInt32))])) t → Steps p.tables e below (s₁.setTop (mkF m 8 #[.val (.int p1), .val (.long q2), .second, .val (.int p3)] [])) t := by
      intro t k
      refine XS.bipush X0.here hx rfl (Jvm.hb hby d1_8) ?_
      show Steps p.tables e below (s₁.setTop (mkF m 10 #[.val (.int p1), .val (.long q2), .second, .val (.int p3)] [(.int (48 : Int32))])) t
      refine XS.iloadN X0.here hx rfl (Jvm.hb hby d1_10) rfl ?_
      show Steps p.tables e below (s₁.setTop (mkF m 11 #[.val (.int p1), .val (.long q2), .second, .val (.int p3)] [(.int p1), (.int (48 : Int32))])) t
      refine XS.iconst X0.here hx rfl (Jvm.hb hby d1_11) ?_
      show Steps p.tables e below (s₁.setTop (mkF m 12 #[.val (.int p1), .val (.long q2), .second, .val (.int p3)] [(.int (5 : Int32)), (.int p1), (.int (48 : Int32))])) t
      refine XS.iconst X0.here hx rfl (Jvm.hb hby d1_12) ?_
      show Steps p.tables e below (s₁.setTop (mkF m 13 #[.val (.int p1), .val (.long q2), .second, .val (.int p3)] [(.int (4 : Int32)), (.int (5 : Int32)), (.int p1), (.int (48 : Int32))])) t
      refine XS.iloadN X0.here hx rfl (Jvm.hb hby d1_13) rfl ?_
      show Steps p.tables e below (s₁.setTop (mkF m 14 #[.val (.int p1), .val (.long q2), .second, .val (.int p3)] [(.int p3), (.int (4 : Int32)), (.int (5 : Int32)), (.int p1), (.int (48 : Int32))])) t
      refine XS.imul X0.here hx rfl (Jvm.hb hby d1_14) rfl ?_
      show Steps p.tables e below (s₁.setTop (mkF m 15 #[.val (.int p1), .val (.long q2), .second, .val (.int p3)] [(.int ((4 : Int32) * p3)), (.int (5 : Int32)), (.int p1), (.int (48 : Int32))])) t
      refine XS.iadd X0.here hx rfl (Jvm.hb hby d1_15) rfl ?_
      show Steps p.tables e below (s₁.setTop (mkF m 16 #[.val (.int p1), .val (.long q2), .second, .val (.int p3)] [(.int ((5 : Int32) + ((4 : Int32) * p3))), (.int p1), (.int (48 : Int32))])) t
      refine XS.iushr X0.here hx rfl (Jvm.hb hby d1_16) rfl ?_
      show Steps p.tables e below (s₁.setTop (mkF m 17 #[.val (.int p1), .val (.long q2), .second, .val (.int p3)] [(.int ((p1.toUInt32 >>> (((5 : Int32) + ((4 : Int32) * p3)) &&& 31).toUInt32).toInt32)), (.int (48 : Int32))])) t
      refine XS.bipush X0.here hx rfl (Jvm.hb hby d1_17) ?_
      show Steps p.tables e below (s₁.setTop (mkF m 19 #[.val (.int p1), .val (.long q2), .second, .val (.int p3)] [(.int (15 : Int32)), (.int ((p1.toUInt32 >>> (((5 : Int32) + ((4 : Int32) * p3)) &&& 31).toUInt32).toInt32)), (.int (48 : Int32))])) t
      refine XS.iand X0.here hx rfl (Jvm.hb hby d1_19) rfl ?_
      show Steps p.tables e below (s₁.setTop (mkF m 20 #[.val (.int p1), .val (.long q2), .second, .val (.int p3)] [(.int (((p1.toUInt32 >>> (((5 : Int32) + ((4 : Int32) * p3)) &&& 31).toUInt32).toInt32) &&& (15 : Int32))), (.int (48 : Int32))])) t
      refine XS.bipush X0.here hx rfl (Jvm.hb hby d1_20) ?_
      show Steps p.tables e below (s₁.setTop (mkF m 22 #[.val (.int p1), .val (.long q2), .second, .val (.int p3)] [(.int (10 : Int32)), (.int (((p1.toUInt32 >>> (((5 : Int32) + ((4 : Int32) * p3)) &&& 31).toUInt32).toInt32) &&& (15 : Int32))), (.int (48 : Int32))])) t
      refine iremM X0 hx rfl (Jvm.hb hby d1_22) rfl (show (10 : Int32) ≠ (0 : Int32) from (by decide)) ?_
      show Steps p.tables e below (s₁.setTop (mkF m 23 #[.val (.int p1), .val (.long q2), .second, .val (.int p3)] [(.int ((((p1.toUInt32 >>> (((5 : Int32) + ((4 : Int32) * p3)) &&& 31).toUInt32).toInt32) &&& (15 : Int32)) % (10 : Int32))), (.int (48 : Int32))])) t
      refine XS.iadd X0.here hx rfl (Jvm.hb hby d1_23) rfl ?_
      show Steps p.tables e below (s₁.setTop (mkF m 24 #[.val (.int p1), .val (.long q2), .second, .val (.int p3)] [(.int ((48 : Int32) + ((((p1.toUInt32 >>> (((5 : Int32) + ((4 : Int32) * p3)) &&& 31).toUInt32).toInt32) &&& (15 : Int32)) % (10 : Int32))))])) t
      refine XS.i2c X0.here hx rfl (Jvm.hb hby d1_24) rfl ?_
      show Steps p.tables e below (s₁.setTop (mkF m 25 #[.val (.int p1), .val (.long q2), .second, .val (.int p3)] [(.int (((48 : Int32) + ((((p1.toUInt32 >>> (((5 : Int32) + ((4 : Int32) * p3)) &&& 31).toUInt32).toInt32) &&& (15 : Int32)) % (10 : Int32))).toUInt32.toUInt16.toUInt32.toInt32))])) t
      exact k
    obtain ⟨fs, hr, hrun, hended, hW, hsame⟩ := X0.leave (v := some (.int (nar .char (((48 : Int32) + ((((p1.toUInt32 >>> (((5 : Int32) + ((4 : Int32) * p3)) &&& 31).toUInt32).toInt32) &&& (15 : Int32)) % (10 : Int32))).toUInt32.toUInt16.toUInt32.toInt32)))) (fun h => by rw [Bd.returns] at h; cases h) Bd.notSynchronized
    refine ⟨_, _, pre0 _ (K1 _ (K5 _ (K6 _ (retN X0 hx (t := .char) Bd.returns (by simp) (Jvm.hb hby d1_25) hr)))), hrun, hended, _, _, rfl, ?_, ⟨_, rfl⟩, hW, hsame.mono (by decide) (by decide)⟩
    show Q1 Z p1 q2 p3 h0 n0 _ s₁.heap _
    rw [e0]
    exact ⟨congrArg (fun z => some (Value.int z)) (show (nar .char (((48 : Int32) + ((((p1.toUInt32 >>> (((5 : Int32) + ((4 : Int32) * p3)) &&& 31).toUInt32).toInt32) &&& (15 : Int32)) % (10 : Int32))).toUInt32.toUInt16.toUInt32.toInt32)) = f1 p1 q2 p3 from Eq.symm (if_neg hc2)), N0, rfl⟩
-- body 3: com/example/clapboard/clapboard/parse/TextCursorReadNumberPinLaw.isD([CII)Z
theorem d3_0 : decode method_4_code 0 = .ok (.iload_n 1, 1) := by decide +kernel
theorem d3_1 : decode method_4_code 1 = .ok (.iload_n 2, 1) := by decide +kernel
theorem d3_2 : decode method_4_code 2 = .ok (.if_icmp .ge 23, 3) := by decide +kernel
theorem d3_5 : decode method_4_code 5 = .ok (.aload_n 0, 1) := by decide +kernel
theorem d3_6 : decode method_4_code 6 = .ok (.iload_n 1, 1) := by decide +kernel
theorem d3_7 : decode method_4_code 7 = .ok (.caload, 1) := by decide +kernel
theorem d3_8 : decode method_4_code 8 = .ok (.bipush 48, 2) := by decide +kernel
theorem d3_10 : decode method_4_code 10 = .ok (.if_icmp .lt 15, 3) := by decide +kernel
theorem d3_13 : decode method_4_code 13 = .ok (.aload_n 0, 1) := by decide +kernel
theorem d3_14 : decode method_4_code 14 = .ok (.iload_n 1, 1) := by decide +kernel
theorem d3_15 : decode method_4_code 15 = .ok (.caload, 1) := by decide +kernel
theorem d3_16 : decode method_4_code 16 = .ok (.bipush 57, 2) := by decide +kernel
theorem d3_18 : decode method_4_code 18 = .ok (.if_icmp .gt 7, 3) := by decide +kernel
theorem d3_21 : decode method_4_code 21 = .ok (.iconst 1, 1) := by decide +kernel
theorem d3_22 : decode method_4_code 22 = .ok (.goto 4, 3) := by decide +kernel
theorem d3_25 : decode method_4_code 25 = .ok (.iconst 0, 1) := by decide +kernel
theorem d3_26 : decode method_4_code 26 = .ok (.ireturn, 1) := by decide +kernel
theorem pn_3 : plainName "com/example/clapboard/clapboard/parse/TextCursorReadNumberPinLaw" = true := by first | (simp [plainName, overriddenIn]; done) | decide +kernel
theorem ef_3 (m : MethodId) (a1 : Addr) (p2 : Int32) (p3 : Int32) : entryFrame m #[(.ref a1), (.int p2), (.int p3)] 3 = mkF m 0 #[.val (.ref a1), .val (.int p2), .val (.int p3)] [] := by first | (simp [entryFrame, mkF, argsToLocals, Value.category]; done) | rfl
def f3 (p2 : Int32) (p3 : Int32) (f_a1 : Int32 → Int32) : Int32 := (if p2 < p3 then (if (f_a1 p2) < (48 : Int32) then (0 : Int32) else (if (57 : Int32) < (f_a1 p2) then (0 : Int32) else (1 : Int32))) else (0 : Int32))
def Q3 (Z : State) (a1 : Addr) (p2 : Int32) (p3 : Int32) (n_a1 : Int32) (f_a1 : Int32 → Int32) (h0 : Heap) (n0 : Nat) (v : Option Value) (h : Heap) (L : List Loc) : Prop := v = some (.int (f3 p2 p3 f_a1)) ∧ Fr n0 L ∧ h = h0
set_option maxRecDepth 65536 in
set_option maxHeartbeats 40000000 in
theorem rm3 (l : Launch) (Z : State) (a0 : Array Value) (hw : ∀ d ∈ tables_1, d.before a0 Z = true) (ws : List Jvm.Cond) (a1 : Addr) (p2 : Int32) (p3 : Int32) (n_a1 : Int32) (f_a1 : Int32 → Int32) (h0 : Heap) (n0 : Nat) (Z0 : n0 ≤ h0.size) (hs : ¬ p2 < 0) (he : ¬ n_a1 < p3) (A_a1 : Ia Z h0 a1 .char n_a1 f_a1) :
    MetFree l (⟨"com/example/clapboard/clapboard/parse/TextCursorReadNumberPinLaw", "isD", "([CII)Z"⟩ : MethodName) (head1 (Jvm.Cond.code (⟨"com/example/clapboard/clapboard/parse/TextCursorReadNumberPinLaw", "isD", "([CII)Z"⟩ : MethodName) method_4_code 3 (some .boolean) :: ws) ({ frames := 0, cells := 0, slots := 0, locals := 0 } : Room)) (fun a U => a = #[(.ref a1), (.int p2), (.int p3)] ∧ Z.Warmed39 U.vm ∧ U.heap = h0) (fun _ _ _ _ _ => True) (fun _ U o U' => ∃ v L, o = .returned v ∧ Q3 Z a1 p2 p3 n_a1 f_a1 h0 n0 v U'.heap L ∧ FrameEnd U o U' L ({ frames := 0, cells := 0, slots := 0, locals := 0 } : Room).cells ({ frames := 0, cells := 0, slots := 0, locals := 0 } : Room).slots) := by
  refine MetFree.of_bodySF (plainFor_of_name pn_3) hisR ?_
  intro p e s m args below meth c s₁ Bd hml0 hP hK
  obtain ⟨rfl, hZ, hh⟩ := hP
  have hx := Bd.exec
  have hby := Bd.bytes
  have hml : c.maxLocals = 3 := hml0
  have hown : s.vm.findClass "com/example/clapboard/clapboard/parse/TextCursorReadNumberPinLaw" = some m.cls := findClass_of_methodNamed Bd.named
  have hnm := (name_of_methodNamed Bd.named Bd.method).1
  have X0 : Stand p l e ({ frames := 0, cells := 0, slots := 0, locals := 0 } : Room) s m #[(.ref a1), (.int p2), (.int p3)] below meth c s₁ [] 0 0 := Stand.of_body Bd
  have e0 : s₁.heap = h0 := by rw [← hh, Bd.state]; rfl
  have N0 := Fr.nil n0
  have pre0 : ∀ t, Steps p.tables e below (s₁.setTop (mkF m 0 #[.val (.ref a1), .val (.int p2), .val (.int p3)] [])) t → Steps p.tables e below (s₁.setTop (entryFrame m #[(.ref a1), (.int p2), (.int p3)] 3)) t := fun t k => castTop (ef_3 m a1 p2 p3) k
  have K1 : ∀ t, Steps p.tables e below (s₁.setTop (mkF m 2 #[.val (.ref a1), .val (.int p2), .val (.int p3)] [(.int p3), (.int p2)])) t → Steps p.tables e below (s₁.setTop (mkF m 0 #[.val (.ref a1), .val (.int p2), .val (.int p3)] [])) t := by
    intro t k
    refine XS.iloadN X0.here hx rfl (Jvm.hb hby d3_0) rfl ?_
    show Steps p.tables e below (s₁.setTop (mkF m 1 #[.val (.ref a1), .val (.int p2), .val (.int p3)] [(.int p2)])) t
    refine XS.iloadN X0.here hx rfl (Jvm.hb hby d3_1) rfl ?_
    show Steps p.tables e below (s₁.setTop (mkF m 2 #[.val (.ref a1), .val (.int p2), .val (.int p3)] [(.int p3), (.int p2)])) t
    exact k
  by_cases hc2 : p2 < p3
  · have K3 : ∀ t, Steps p.tables e below (s₁.setTop (mkF m 5 #[.val (.ref a1), .val (.int p2), .val (.int p3)] [])) t → Steps p.tables e below (s₁.setTop (mkF m 2 #[.val (.ref a1), .val (.int p2), .val (.int p3)] [(.int p3), (.int p2)])) t := by
      intro t k
      refine XS.icmpNo X0.here hx rfl (Jvm.hb hby d3_2) rfl (tlt hc2).2.1 ?_
      exact k
    have K8 : ∀ t, Steps p.tables e below (s₁.setTop (mkF m 7 #[.val (.ref a1), .val (.int p2), .val (.int p3)] [(.int p2), (.ref a1)])) t → Steps p.tables e below (s₁.setTop (mkF m 5 #[.val (.ref a1), .val (.int p2), .val (.int p3)] [])) t := by
      intro t k
      refine XS.aloadN X0.here hx rfl (Jvm.hb hby d3_5) rfl rfl ?_
      show Steps p.tables e below (s₁.setTop (mkF m 6 #[.val (.ref a1), .val (.int p2), .val (.int p3)] [(.ref a1)])) t
      refine XS.iloadN X0.here hx rfl (Jvm.hb hby d3_6) rfl ?_
      show Steps p.tables e below (s₁.setTop (mkF m 7 #[.val (.ref a1), .val (.int p2), .val (.int p3)] [(.int p2), (.ref a1)])) t
      exact k
    have hin4 : ¬ p2 < 0 ∧ p2 < n_a1 := by exact ⟨hs, own_tr _ _ _ (by assumption) he⟩
    obtain ⟨cl5, Aq6, hjhin4, aq7⟩ := Ia.at A_a1 hin4
    have K9 : ∀ t, Steps p.tables e below (s₁.setTop (mkF m 10 #[.val (.ref a1), .val (.int p2), .val (.int p3)] [(.int (48 : Int32)), (.int (f_a1 p2))])) t → Steps p.tables e below (s₁.setTop (mkF m 7 #[.val (.ref a1), .val (.int p2), .val (.int p3)] [(.int p2), (.ref a1)])) t := by
      intro t k
      refine X0.caload hx (j := p2) (v := .int (f_a1 p2)) (by rw [e0]; exact Aq6.1) (State.isArrayOf_alike hZ.alike Aq6.2.1) Aq6.2.2 hjhin4 aq7 (g := (mkF m 7 #[.val (.ref a1), .val (.int p2), .val (.int p3)] [(.int p2), (.ref a1)])) rfl rfl (Jvm.hb hby d3_7) _ ?_
      show Steps p.tables e below (s₁.setTop (mkF m 8 #[.val (.ref a1), .val (.int p2), .val (.int p3)] [(.int (f_a1 p2))])) t
      refine XS.bipush X0.here hx rfl (Jvm.hb hby d3_8) ?_
      show Steps p.tables e below (s₁.setTop (mkF m 10 #[.val (.ref a1), .val (.int p2), .val (.int p3)] [(.int (48 : Int32)), (.int (f_a1 p2))])) t
      exact k
    by_cases hc10 : (f_a1 p2) < (48 : Int32)
    · have K11 : ∀ t, Steps p.tables e below (s₁.setTop (mkF m 25 #[.val (.ref a1), .val (.int p2), .val (.int p3)] [])) t → Steps p.tables e below (s₁.setTop (mkF m 10 #[.val (.ref a1), .val (.int p2), .val (.int p3)] [(.int (48 : Int32)), (.int (f_a1 p2))])) t := by
        intro t k
        refine XS.icmpYes X0.here hx rfl (pc0 := 10) (pc' := 25) rfl (Jvm.hb hby d3_10) rfl (tlt hc10).1 (by decide) (by decide) ?_
        exact k
      have K12 : ∀ t, Steps p.tables e below (s₁.setTop (mkF m 26 #[.val (.ref a1), .val (.int p2), .val (.int p3)] [(.int (0 : Int32))])) t → Steps p.tables e below (s₁.setTop (mkF m 25 #[.val (.ref a1), .val (.int p2), .val (.int p3)] [])) t := by
        intro t k
        refine XS.iconst X0.here hx rfl (Jvm.hb hby d3_25) ?_
        show Steps p.tables e below (s₁.setTop (mkF m 26 #[.val (.ref a1), .val (.int p2), .val (.int p3)] [(.int (0 : Int32))])) t
        exact k
      obtain ⟨fs, hr, hrun, hended, hW, hsame⟩ := X0.leave (v := some (.int (0 : Int32))) (fun h => by rw [Bd.returns] at h; cases h) Bd.notSynchronized
      refine ⟨_, _, pre0 _ (K1 _ (K3 _ (K8 _ (K9 _ (K11 _ (K12 _ (retN X0 hx (t := .boolean) Bd.returns (by simp) (Jvm.hb hby d3_26) hr))))))), hrun, hended, _, _, rfl, ?_, ⟨_, rfl⟩, hW, hsame.mono (by decide) (by decide)⟩
      show Q3 Z a1 p2 p3 n_a1 f_a1 h0 n0 _ s₁.heap _
      rw [e0]
      exact ⟨congrArg (fun z => some (Value.int z)) (show (0 : Int32) = f3 p2 p3 f_a1 from Eq.symm ((if_pos hc2).trans (if_pos hc10))), N0, rfl⟩
    · have K13 : ∀ t, Steps p.tables e below (s₁.setTop (mkF m 13 #[.val (.ref a1), .val (.int p2), .val (.int p3)] [])) t → Steps p.tables e below (s₁.setTop (mkF m 10 #[.val (.ref a1), .val (.int p2), .val (.int p3)] [(.int (48 : Int32)), (.int (f_a1 p2))])) t := by
        intro t k
        refine XS.icmpNo X0.here hx rfl (Jvm.hb hby d3_10) rfl (flt hc10).1 ?_
        exact k
      have K18 : ∀ t, Steps p.tables e below (s₁.setTop (mkF m 15 #[.val (.ref a1), .val (.int p2), .val (.int p3)] [(.int p2), (.ref a1)])) t → Steps p.tables e below (s₁.setTop (mkF m 13 #[.val (.ref a1), .val (.int p2), .val (.int p3)] [])) t := by
        intro t k
        refine XS.aloadN X0.here hx rfl (Jvm.hb hby d3_13) rfl rfl ?_
        show Steps p.tables e below (s₁.setTop (mkF m 14 #[.val (.ref a1), .val (.int p2), .val (.int p3)] [(.ref a1)])) t
        refine XS.iloadN X0.here hx rfl (Jvm.hb hby d3_14) rfl ?_
        show Steps p.tables e below (s₁.setTop (mkF m 15 #[.val (.ref a1), .val (.int p2), .val (.int p3)] [(.int p2), (.ref a1)])) t
        exact k
      have hin14 : ¬ p2 < 0 ∧ p2 < n_a1 := by exact ⟨hs, own_tr _ _ _ (by assumption) he⟩
      obtain ⟨cl15, Aq16, hjhin14, aq17⟩ := Ia.at A_a1 hin14
      have K19 : ∀ t, Steps p.tables e below (s₁.setTop (mkF m 18 #[.val (.ref a1), .val (.int p2), .val (.int p3)] [(.int (57 : Int32)), (.int (f_a1 p2))])) t → Steps p.tables e below (s₁.setTop (mkF m 15 #[.val (.ref a1), .val (.int p2), .val (.int p3)] [(.int p2), (.ref a1)])) t := by
        intro t k
        refine X0.caload hx (j := p2) (v := .int (f_a1 p2)) (by rw [e0]; exact Aq16.1) (State.isArrayOf_alike hZ.alike Aq16.2.1) Aq16.2.2 hjhin14 aq17 (g := (mkF m 15 #[.val (.ref a1), .val (.int p2), .val (.int p3)] [(.int p2), (.ref a1)])) rfl rfl (Jvm.hb hby d3_15) _ ?_
        show Steps p.tables e below (s₁.setTop (mkF m 16 #[.val (.ref a1), .val (.int p2), .val (.int p3)] [(.int (f_a1 p2))])) t
        refine XS.bipush X0.here hx rfl (Jvm.hb hby d3_16) ?_
        show Steps p.tables e below (s₁.setTop (mkF m 18 #[.val (.ref a1), .val (.int p2), .val (.int p3)] [(.int (57 : Int32)), (.int (f_a1 p2))])) t
        exact k
      by_cases hc20 : (57 : Int32) < (f_a1 p2)
      · have K21 : ∀ t, Steps p.tables e below (s₁.setTop (mkF m 25 #[.val (.ref a1), .val (.int p2), .val (.int p3)] [])) t → Steps p.tables e below (s₁.setTop (mkF m 18 #[.val (.ref a1), .val (.int p2), .val (.int p3)] [(.int (57 : Int32)), (.int (f_a1 p2))])) t := by
          intro t k
          refine XS.icmpYes X0.here hx rfl (pc0 := 18) (pc' := 25) rfl (Jvm.hb hby d3_18) rfl (tlt hc20).2.2.1 (by decide) (by decide) ?_
          exact k
        have K22 : ∀ t, Steps p.tables e below (s₁.setTop (mkF m 26 #[.val (.ref a1), .val (.int p2), .val (.int p3)] [(.int (0 : Int32))])) t → Steps p.tables e below (s₁.setTop (mkF m 25 #[.val (.ref a1), .val (.int p2), .val (.int p3)] [])) t := by
          intro t k
          refine XS.iconst X0.here hx rfl (Jvm.hb hby d3_25) ?_
          show Steps p.tables e below (s₁.setTop (mkF m 26 #[.val (.ref a1), .val (.int p2), .val (.int p3)] [(.int (0 : Int32))])) t
          exact k
        obtain ⟨fs, hr, hrun, hended, hW, hsame⟩ := X0.leave (v := some (.int (0 : Int32))) (fun h => by rw [Bd.returns] at h; cases h) Bd.notSynchronized
        refine ⟨_, _, pre0 _ (K1 _ (K3 _ (K8 _ (K9 _ (K13 _ (K18 _ (K19 _ (K21 _ (K22 _ (retN X0 hx (t := .boolean) Bd.returns (by simp) (Jvm.hb hby d3_26) hr)))))))))), hrun, hended, _, _, rfl, ?_, ⟨_, rfl⟩, hW, hsame.mono (by decide) (by decide)⟩
        show Q3 Z a1 p2 p3 n_a1 f_a1 h0 n0 _ s₁.heap _
        rw [e0]
        exact ⟨congrArg (fun z => some (Value.int z)) (show (0 : Int32) = f3 p2 p3 f_a1 from Eq.symm ((if_pos hc2).trans ((if_neg hc10).trans (if_pos hc20)))), N0, rfl⟩
      · have K23 : ∀ t, Steps p.tables e below (s₁.setTop (mkF m 21 #[.val (.ref a1), .val (.int p2), .val (.int p3)] [])) t → Steps p.tables e below (s₁.setTop (mkF m 18 #[.val (.ref a1), .val (.int p2), .val (.int p3)] [(.int (57 : Int32)), (.int (f_a1 p2))])) t := by
          intro t k
          refine XS.icmpNo X0.here hx rfl (Jvm.hb hby d3_18) rfl (flt hc20).2.2.1 ?_
          exact k
        have K24 : ∀ t, Steps p.tables e below (s₁.setTop (mkF m 26 #[.val (.ref a1), .val (.int p2), .val (.int p3)] [(.int (1 : Int32))])) t → Steps p.tables e below (s₁.setTop (mkF m 21 #[.val (.ref a1), .val (.int p2), .val (.int p3)] [])) t := by
          intro t k
          refine XS.iconst X0.here hx rfl (Jvm.hb hby d3_21) ?_
          show Steps p.tables e below (s₁.setTop (mkF m 22 #[.val (.ref a1), .val (.int p2), .val (.int p3)] [(.int (1 : Int32))])) t
          refine XS.goto X0.here hx rfl (pc0 := 22) (pc' := 26) rfl (Jvm.hb hby d3_22) (by decide) (by decide) ?_
          show Steps p.tables e below (s₁.setTop (mkF m 26 #[.val (.ref a1), .val (.int p2), .val (.int p3)] [(.int (1 : Int32))])) t
          exact k
        obtain ⟨fs, hr, hrun, hended, hW, hsame⟩ := X0.leave (v := some (.int (1 : Int32))) (fun h => by rw [Bd.returns] at h; cases h) Bd.notSynchronized
        refine ⟨_, _, pre0 _ (K1 _ (K3 _ (K8 _ (K9 _ (K13 _ (K18 _ (K19 _ (K23 _ (K24 _ (retN X0 hx (t := .boolean) Bd.returns (by simp) (Jvm.hb hby d3_26) hr)))))))))), hrun, hended, _, _, rfl, ?_, ⟨_, rfl⟩, hW, hsame.mono (by decide) (by decide)⟩
        show Q3 Z a1 p2 p3 n_a1 f_a1 h0 n0 _ s₁.heap _
        rw [e0]
        exact ⟨congrArg (fun z => some (Value.int z)) (show (1 : Int32) = f3 p2 p3 f_a1 from Eq.symm ((if_pos hc2).trans ((if_neg hc10).trans (if_neg hc20)))), N0, rfl⟩
  · have K25 : ∀ t, Steps p.tables e below (s₁.setTop (mkF m 25 #[.val (.ref a1), .val (.int p2), .val (.int p3)] [])) t → Steps p.tables e below (s₁.setTop (mkF m 2 #[.val (.ref a1), .val (.int p2), .val (.int p3)] [(.int p3), (.int p2)])) t := by
      intro t k
      refine XS.icmpYes X0.here hx rfl (pc0 := 2) (pc' := 25) rfl (Jvm.hb hby d3_2) rfl (flt hc2).2.1 (by decide) (by decide) ?_
      exact k
    have K26 : ∀ t, Steps p.tables e below (s₁.setTop (mkF m 26 #[.val (.ref a1), .val (.int p2), .val (.int p3)] [(.int (0 : Int32))])) t → Steps p.tables e below (s₁.setTop (mkF m 25 #[.val (.ref a1), .val (.int p2), .val (.int p3)] [])) t := by
      intro t k
      refine XS.iconst X0.here hx rfl (Jvm.hb hby d3_25) ?_
      show Steps p.tables e below (s₁.setTop (mkF m 26 #[.val (.ref a1), .val (.int p2), .val (.int p3)] [(.int (0 : Int32))])) t
      exact k
    obtain ⟨fs, hr, hrun, hended, hW, hsame⟩ := X0.leave (v := some (.int (0 : Int32))) (fun h => by rw [Bd.returns] at h; cases h) Bd.notSynchronized
    refine ⟨_, _, pre0 _ (K1 _ (K25 _ (K26 _ (retN X0 hx (t := .boolean) Bd.returns (by simp) (Jvm.hb hby d3_26) hr)))), hrun, hended, _, _, rfl, ?_, ⟨_, rfl⟩, hW, hsame.mono (by decide) (by decide)⟩
    show Q3 Z a1 p2 p3 n_a1 f_a1 h0 n0 _ s₁.heap _
    rw [e0]
    exact ⟨congrArg (fun z => some (Value.int z)) (show (0 : Int32) = f3 p2 p3 f_a1 from Eq.symm (if_neg hc2)), N0, rfl⟩
-- body 2: com/example/clapboard/clapboard/parse/TextCursorReadNumberPinLaw.run([CII)I
theorem d2_0 : decode method_5_code 0 = .ok (.aload_n 0, 1) := by decide +kernel
theorem d2_1 : decode method_5_code 1 = .ok (.iload_n 1, 1) := by decide +kernel
theorem d2_2 : decode method_5_code 2 = .ok (.iload_n 2, 1) := by decide +kernel
theorem d2_3 : decode method_5_code 3 = .ok (.invokestatic 35, 3) := by decide +kernel
theorem d2_6 : decode method_5_code 6 = .ok (.ifCond .ne 5, 3) := by decide +kernel
theorem d2_9 : decode method_5_code 9 = .ok (.iconst 0, 1) := by decide +kernel
theorem d2_10 : decode method_5_code 10 = .ok (.ireturn, 1) := by decide +kernel
theorem d2_11 : decode method_5_code 11 = .ok (.aload_n 0, 1) := by decide +kernel
theorem d2_12 : decode method_5_code 12 = .ok (.iload_n 1, 1) := by decide +kernel
theorem d2_13 : decode method_5_code 13 = .ok (.iconst 1, 1) := by decide +kernel
theorem d2_14 : decode method_5_code 14 = .ok (.iadd, 1) := by decide +kernel
theorem d2_15 : decode method_5_code 15 = .ok (.iload_n 2, 1) := by decide +kernel
theorem d2_16 : decode method_5_code 16 = .ok (.invokestatic 35, 3) := by decide +kernel
theorem d2_19 : decode method_5_code 19 = .ok (.ifCond .ne 5, 3) := by decide +kernel
theorem d2_22 : decode method_5_code 22 = .ok (.iconst 1, 1) := by decide +kernel
theorem d2_23 : decode method_5_code 23 = .ok (.ireturn, 1) := by decide +kernel
theorem d2_24 : decode method_5_code 24 = .ok (.aload_n 0, 1) := by decide +kernel
theorem d2_25 : decode method_5_code 25 = .ok (.iload_n 1, 1) := by decide +kernel
theorem d2_26 : decode method_5_code 26 = .ok (.iconst 2, 1) := by decide +kernel
theorem d2_27 : decode method_5_code 27 = .ok (.iadd, 1) := by decide +kernel
theorem d2_28 : decode method_5_code 28 = .ok (.iload_n 2, 1) := by decide +kernel
theorem d2_29 : decode method_5_code 29 = .ok (.invokestatic 35, 3) := by decide +kernel
theorem d2_32 : decode method_5_code 32 = .ok (.ifCond .ne 5, 3) := by decide +kernel
theorem d2_35 : decode method_5_code 35 = .ok (.iconst 2, 1) := by decide +kernel
theorem d2_36 : decode method_5_code 36 = .ok (.ireturn, 1) := by decide +kernel
theorem d2_37 : decode method_5_code 37 = .ok (.aload_n 0, 1) := by decide +kernel
theorem d2_38 : decode method_5_code 38 = .ok (.iload_n 1, 1) := by decide +kernel
theorem d2_39 : decode method_5_code 39 = .ok (.iconst 3, 1) := by decide +kernel
theorem d2_40 : decode method_5_code 40 = .ok (.iadd, 1) := by decide +kernel
theorem d2_41 : decode method_5_code 41 = .ok (.iload_n 2, 1) := by decide +kernel
theorem d2_42 : decode method_5_code 42 = .ok (.invokestatic 35, 3) := by decide +kernel
theorem d2_45 : decode method_5_code 45 = .ok (.ifCond .ne 5, 3) := by decide +kernel
theorem d2_48 : decode method_5_code 48 = .ok (.iconst 3, 1) := by decide +kernel
theorem d2_49 : decode method_5_code 49 = .ok (.ireturn, 1) := by decide +kernel
theorem d2_50 : decode method_5_code 50 = .ok (.aload_n 0, 1) := by decide +kernel
theorem d2_51 : decode method_5_code 51 = .ok (.iload_n 1, 1) := by decide +kernel
theorem d2_52 : decode method_5_code 52 = .ok (.iconst 4, 1) := by decide +kernel
theorem d2_53 : decode method_5_code 53 = .ok (.iadd, 1) := by decide +kernel
theorem d2_54 : decode method_5_code 54 = .ok (.iload_n 2, 1) := by decide +kernel
theorem d2_55 : decode method_5_code 55 = .ok (.invokestatic 35, 3) := by decide +kernel
theorem d2_58 : decode method_5_code 58 = .ok (.ifCond .ne 5, 3) := by decide +kernel
theorem d2_61 : decode method_5_code 61 = .ok (.iconst 4, 1) := by decide +kernel
theorem d2_62 : decode method_5_code 62 = .ok (.ireturn, 1) := by decide +kernel
theorem d2_63 : decode method_5_code 63 = .ok (.iconst 5, 1) := by decide +kernel
theorem d2_64 : decode method_5_code 64 = .ok (.ireturn, 1) := by decide +kernel
theorem pn_2 : plainName "com/example/clapboard/clapboard/parse/TextCursorReadNumberPinLaw" = true := by first | (simp [plainName, overriddenIn]; done) | decide +kernel
theorem pd_2 : parseMethodDescriptor "([CII)Z" = some ⟨[(.array .char), .int, .int], some .boolean⟩ := by decide +kernel
theorem ef_2 (m : MethodId) (a1 : Addr) (p2 : Int32) (p3 : Int32) : entryFrame m #[(.ref a1), (.int p2), (.int p3)] 3 = mkF m 0 #[.val (.ref a1), .val (.int p2), .val (.int p3)] [] := by first | (simp [entryFrame, mkF, argsToLocals, Value.category]; done) | rfl
def f2 (p2 : Int32) (p3 : Int32) (f_a1 : Int32 → Int32) : Int32 := (if (f3 p2 p3 f_a1) = (0 : Int32) then (0 : Int32) else (if (f3 (p2 + (1 : Int32)) p3 f_a1) = (0 : Int32) then (1 : Int32) else (if (f3 (p2 + (2 : Int32)) p3 f_a1) = (0 : Int32) then (2 : Int32) else (if (f3 (p2 + (3 : Int32)) p3 f_a1) = (0 : Int32) then (3 : Int32) else (if (f3 (p2 + (4 : Int32)) p3 f_a1) = (0 : Int32) then (4 : Int32) else (5 : Int32))))))
def Q2 (Z : State) (a1 : Addr) (p2 : Int32) (p3 : Int32) (n_a1 : Int32) (f_a1 : Int32 → Int32) (h0 : Heap) (n0 : Nat) (v : Option Value) (h : Heap) (L : List Loc) : Prop := v = some (.int (f2 p2 p3 f_a1)) ∧ Fr n0 L ∧ h = h0
set_option maxRecDepth 65536 in
set_option maxHeartbeats 40000000 in
theorem rm2 (l : Launch) (Z : State) (a0 : Array Value) (hw : ∀ d ∈ tables_1, d.before a0 Z = true) (ws : List Jvm.Cond) (a1 : Addr) (p2 : Int32) (p3 : Int32) (n_a1 : Int32) (f_a1 : Int32 → Int32) (h0 : Heap) (n0 : Nat) (Z0 : n0 ≤ h0.size) (hs : ¬ p2 < 0) (he : ¬ n_a1 < p3) (hb : p2.toInt ≤ 100) (A_a1 : Ia Z h0 a1 .char n_a1 f_a1) :
    MetFree l (⟨"com/example/clapboard/clapboard/parse/TextCursorReadNumberPinLaw", "run", "([CII)I"⟩ : MethodName) (head1 (Jvm.Cond.code (⟨"com/example/clapboard/clapboard/parse/TextCursorReadNumberPinLaw", "run", "([CII)I"⟩ : MethodName) method_5_code 3 (some .int) :: ws) ({ frames := 1, cells := 0, slots := 0, locals := 14 } : Room)) (fun a U => a = #[(.ref a1), (.int p2), (.int p3)] ∧ Z.Warmed39 U.vm ∧ U.heap = h0) (fun _ _ _ _ _ => True) (fun _ U o U' => ∃ v L, o = .returned v ∧ Q2 Z a1 p2 p3 n_a1 f_a1 h0 n0 v U'.heap L ∧ FrameEnd U o U' L ({ frames := 1, cells := 0, slots := 0, locals := 14 } : Room).cells ({ frames := 1, cells := 0, slots := 0, locals := 14 } : Room).slots) := by
  refine MetFree.of_bodySF (plainFor_of_name pn_2) hisR ?_
  intro p e s m args below meth c s₁ Bd hml0 hP hK
  obtain ⟨rfl, hZ, hh⟩ := hP
  have hx := Bd.exec
  have hby := Bd.bytes
  have hml : c.maxLocals = 3 := hml0
  have hown : s.vm.findClass "com/example/clapboard/clapboard/parse/TextCursorReadNumberPinLaw" = some m.cls := findClass_of_methodNamed Bd.named
  have hnm := (name_of_methodNamed Bd.named Bd.method).1
  have X0 : Stand p l e ({ frames := 1, cells := 0, slots := 0, locals := 14 } : Room) s m #[(.ref a1), (.int p2), (.int p3)] below meth c s₁ [] 0 0 := Stand.of_body Bd
  have e0 : s₁.heap = h0 := by rw [← hh, Bd.state]; rfl
  have N0 := Fr.nil n0
  have pre0 : ∀ t, Steps p.tables e below (s₁.setTop (mkF m 0 #[.val (.ref a1), .val (.int p2), .val (.int p3)] [])) t → Steps p.tables e below (s₁.setTop (entryFrame m #[(.ref a1), (.int p2), (.int p3)] 3)) t := fun t k => castTop (ef_2 m a1 p2 p3) k
  have K1 : ∀ t, Steps p.tables e below (s₁.setTop (mkF m 3 #[.val (.ref a1), .val (.int p2), .val (.int p3)] [(.int p3), (.int p2), (.ref a1)])) t → Steps p.tables e below (s₁.setTop (mkF m 0 #[.val (.ref a1), .val (.int p2), .val (.int p3)] [])) t := by
    intro t k
    refine XS.aloadN X0.here hx rfl (Jvm.hb hby d2_0) rfl rfl ?_
    show Steps p.tables e below (s₁.setTop (mkF m 1 #[.val (.ref a1), .val (.int p2), .val (.int p3)] [(.ref a1)])) t
    refine XS.iloadN X0.here hx rfl (Jvm.hb hby d2_1) rfl ?_
    show Steps p.tables e below (s₁.setTop (mkF m 2 #[.val (.ref a1), .val (.int p2), .val (.int p3)] [(.int p2), (.ref a1)])) t
    refine XS.iloadN X0.here hx rfl (Jvm.hb hby d2_2) rfl ?_
    show Steps p.tables e below (s₁.setTop (mkF m 3 #[.val (.ref a1), .val (.int p2), .val (.int p3)] [(.int p3), (.int p2), (.ref a1)])) t
    exact k
  obtain ⟨_, _, ⟨T2, L2, k2, n2⟩, -, X2, ⟨Lc2, hQ2, l2, y2, z2⟩, st2⟩ := Jvm.LawKit.callS X0 hx (y := (⟨"com/example/clapboard/clapboard/parse/TextCursorReadNumberPinLaw", "isD", "([CII)Z"⟩ : MethodName)) hown (mvT hZ (hw _ (List.mem_of_getElem? (i := 9) rfl))) (mvT hZ (hw _ (List.mem_of_getElem? (i := 10) rfl))) (mvT hZ (hw _ (List.mem_of_getElem? (i := 3) rfl))) (mvT hZ (hw _ (List.mem_of_getElem? (i := 11) rfl))) (by decide) (backOf (W := 0) (rm3 l Z a0 hw [] a1 p2 p3 n_a1 f_a1 h0 n0 Z0 hs he A_a1) hZ (hw _ (List.mem_of_getElem? (i := 11) rfl)) (hw _ (List.mem_of_getElem? (i := 3) rfl)) (by decide) (by decide)) (g := (mkF m 3 #[.val (.ref a1), .val (.int p2), .val (.int p3)] [(.int p3), (.int p2), (.ref a1)])) rfl (by rw [hml]; rfl) (argsL := [(.ref a1), (.int p2), (.int p3)]) (rest := []) (lenOf pd_2 rfl) rfl (by show 2 * 0 + _ ≤ _; exact Nat.le_of_eq rfl) (Jvm.hb hby d2_3) (fun _ _ => ⟨rfl, e0, (by decide : 0 + 0 ≤ _), (by decide : 0 + 0 ≤ _)⟩)
  dsimp only [Pt.U, Pt.locs, Pt.cells, Pt.slots] at X2 l2 y2 z2 st2 hQ2
  subst l2 y2 z2
  obtain ⟨rfl, N2q, e2⟩ := hQ2
  have N2 := Fr.app N0 N2q
  have K3 : ∀ t, Steps p.tables e below (T2.setTop (mkF m 6 #[.val (.ref a1), .val (.int p2), .val (.int p3)] [(.int (f3 p2 p3 f_a1))])) t → Steps p.tables e below (s₁.setTop (mkF m 3 #[.val (.ref a1), .val (.int p2), .val (.int p3)] [(.int p3), (.int p2), (.ref a1)])) t := fun t k => st2 _ k
  by_cases hc4 : (f3 p2 p3 f_a1) = (0 : Int32)
  · have K5 : ∀ t, Steps p.tables e below (T2.setTop (mkF m 9 #[.val (.ref a1), .val (.int p2), .val (.int p3)] [])) t → Steps p.tables e below (T2.setTop (mkF m 6 #[.val (.ref a1), .val (.int p2), .val (.int p3)] [(.int (f3 p2 p3 f_a1))])) t := by
      intro t k
      refine XS.ifNo X2.here hx rfl (Jvm.hb hby d2_6) rfl ((if0 _ _).trans (teq hc4).2) ?_
      exact k
    have K6 : ∀ t, Steps p.tables e below (T2.setTop (mkF m 10 #[.val (.ref a1), .val (.int p2), .val (.int p3)] [(.int (0 : Int32))])) t → Steps p.tables e below (T2.setTop (mkF m 9 #[.val (.ref a1), .val (.int p2), .val (.int p3)] [])) t := by
      intro t k
      refine XS.iconst X2.here hx rfl (Jvm.hb hby d2_9) ?_
      show Steps p.tables e below (T2.setTop (mkF m 10 #[.val (.ref a1), .val (.int p2), .val (.int p3)] [(.int (0 : Int32))])) t
      exact k
    obtain ⟨fs, hr, hrun, hended, hW, hsame⟩ := X2.leave (v := some (.int (0 : Int32))) (fun h => by rw [Bd.returns] at h; cases h) Bd.notSynchronized
    refine ⟨_, _, pre0 _ (K1 _ (K3 _ (K5 _ (K6 _ (retI X2 hx Bd.returns (Jvm.hb hby d2_10) hr))))), hrun, hended, _, _, rfl, ?_, ⟨_, rfl⟩, hW, hsame.mono (by decide) (by decide)⟩
    show Q2 Z a1 p2 p3 n_a1 f_a1 h0 n0 _ T2.heap _
    rw [e2]
    exact ⟨congrArg (fun z => some (Value.int z)) (show (0 : Int32) = f2 p2 p3 f_a1 from Eq.symm (if_pos hc4)), N2, rfl⟩
  · have K7 : ∀ t, Steps p.tables e below (T2.setTop (mkF m 11 #[.val (.ref a1), .val (.int p2), .val (.int p3)] [])) t → Steps p.tables e below (T2.setTop (mkF m 6 #[.val (.ref a1), .val (.int p2), .val (.int p3)] [(.int (f3 p2 p3 f_a1))])) t := by
      intro t k
      refine XS.ifYes X2.here hx rfl (pc0 := 6) (pc' := 11) rfl (Jvm.hb hby d2_6) rfl ((if0 _ _).trans (feq hc4).2) (by decide) (by decide) ?_
      exact k
    have K8 : ∀ t, Steps p.tables e below (T2.setTop (mkF m 16 #[.val (.ref a1), .val (.int p2), .val (.int p3)] [(.int p3), (.int (p2 + (1 : Int32))), (.ref a1)])) t → Steps p.tables e below (T2.setTop (mkF m 11 #[.val (.ref a1), .val (.int p2), .val (.int p3)] [])) t := by
      intro t k
      refine XS.aloadN X2.here hx rfl (Jvm.hb hby d2_11) rfl rfl ?_
      show Steps p.tables e below (T2.setTop (mkF m 12 #[.val (.ref a1), .val (.int p2), .val (.int p3)] [(.ref a1)])) t
      refine XS.iloadN X2.here hx rfl (Jvm.hb hby d2_12) rfl ?_
      show Steps p.tables e below (T2.setTop (mkF m 13 #[.val (.ref a1), .val (.int p2), .val (.int p3)] [(.int p2), (.ref a1)])) t
      refine XS.iconst X2.here hx rfl (Jvm.hb hby d2_13) ?_
      show Steps p.tables e below (T2.setTop (mkF m 14 #[.val (.ref a1), .val (.int p2), .val (.int p3)] [(.int (1 : Int32)), (.int p2), (.ref a1)])) t
      refine XS.iadd X2.here hx rfl (Jvm.hb hby d2_14) rfl ?_
      show Steps p.tables e below (T2.setTop (mkF m 15 #[.val (.ref a1), .val (.int p2), .val (.int p3)] [(.int (p2 + (1 : Int32))), (.ref a1)])) t
      refine XS.iloadN X2.here hx rfl (Jvm.hb hby d2_15) rfl ?_
      show Steps p.tables e below (T2.setTop (mkF m 16 #[.val (.ref a1), .val (.int p2), .val (.int p3)] [(.int p3), (.int (p2 + (1 : Int32))), (.ref a1)])) t
      exact k
    obtain ⟨_, _, ⟨T9, L9, k9, n9⟩, -, X9, ⟨Lc9, hQ9, l9, y9, z9⟩, st9⟩ := Jvm.LawKit.callS X2 hx (y := (⟨"com/example/clapboard/clapboard/parse/TextCursorReadNumberPinLaw", "isD", "([CII)Z"⟩ : MethodName)) hown (mvT hZ (hw _ (List.mem_of_getElem? (i := 9) rfl))) (mvT hZ (hw _ (List.mem_of_getElem? (i := 10) rfl))) (mvT hZ (hw _ (List.mem_of_getElem? (i := 3) rfl))) (mvT hZ (hw _ (List.mem_of_getElem? (i := 11) rfl))) (by decide) (backOf (W := 0) (rm3 l Z a0 hw [] a1 (p2 + (1 : Int32)) p3 n_a1 f_a1 h0 n0 Z0 (own_pn _ _ hs hb (by decide)) he A_a1) hZ (hw _ (List.mem_of_getElem? (i := 11) rfl)) (hw _ (List.mem_of_getElem? (i := 3) rfl)) (by decide) (by decide)) (g := (mkF m 16 #[.val (.ref a1), .val (.int p2), .val (.int p3)] [(.int p3), (.int (p2 + (1 : Int32))), (.ref a1)])) rfl (by rw [hml]; rfl) (argsL := [(.ref a1), (.int (p2 + (1 : Int32))), (.int p3)]) (rest := []) (lenOf pd_2 rfl) rfl (by show 2 * 0 + _ ≤ _; exact Nat.le_of_eq rfl) (Jvm.hb hby d2_16) (fun _ _ => ⟨rfl, e2, (by decide : 0 + 0 ≤ _), (by decide : 0 + 0 ≤ _)⟩)
    dsimp only [Pt.U, Pt.locs, Pt.cells, Pt.slots] at X9 l9 y9 z9 st9 hQ9
    subst l9 y9 z9
    obtain ⟨rfl, N9q, e9⟩ := hQ9
    have N9 := Fr.app N2 N9q
    have K10 : ∀ t, Steps p.tables e below (T9.setTop (mkF m 19 #[.val (.ref a1), .val (.int p2), .val (.int p3)] [(.int (f3 (p2 + (1 : Int32)) p3 f_a1))])) t → Steps p.tables e below (T2.setTop (mkF m 16 #[.val (.ref a1), .val (.int p2), .val (.int p3)] [(.int p3), (.int (p2 + (1 : Int32))), (.ref a1)])) t := fun t k => st9 _ k
    by_cases hc11 : (f3 (p2 + (1 : Int32)) p3 f_a1) = (0 : Int32)
    · have K12 : ∀ t, Steps p.tables e below (T9.setTop (mkF m 22 #[.val (.ref a1), .val (.int p2), .val (.int p3)] [])) t → Steps p.tables e below (T9.setTop (mkF m 19 #[.val (.ref a1), .val (.int p2), .val (.int p3)] [(.int (f3 (p2 + (1 : Int32)) p3 f_a1))])) t := by
        intro t k
        refine XS.ifNo X9.here hx rfl (Jvm.hb hby d2_19) rfl ((if0 _ _).trans (teq hc11).2) ?_
        exact k
      have K13 : ∀ t, Steps p.tables e below (T9.setTop (mkF m 23 #[.val (.ref a1), .val (.int p2), .val (.int p3)] [(.int (1 : Int32))])) t → Steps p.tables e below (T9.setTop (mkF m 22 #[.val (.ref a1), .val (.int p2), .val (.int p3)] [])) t := by
        intro t k
        refine XS.iconst X9.here hx rfl (Jvm.hb hby d2_22) ?_
        show Steps p.tables e below (T9.setTop (mkF m 23 #[.val (.ref a1), .val (.int p2), .val (.int p3)] [(.int (1 : Int32))])) t
        exact k
      obtain ⟨fs, hr, hrun, hended, hW, hsame⟩ := X9.leave (v := some (.int (1 : Int32))) (fun h => by rw [Bd.returns] at h; cases h) Bd.notSynchronized
      refine ⟨_, _, pre0 _ (K1 _ (K3 _ (K7 _ (K8 _ (K10 _ (K12 _ (K13 _ (retI X9 hx Bd.returns (Jvm.hb hby d2_23) hr)))))))), hrun, hended, _, _, rfl, ?_, ⟨_, rfl⟩, hW, hsame.mono (by decide) (by decide)⟩
      show Q2 Z a1 p2 p3 n_a1 f_a1 h0 n0 _ T9.heap _
      rw [e9]
      exact ⟨congrArg (fun z => some (Value.int z)) (show (1 : Int32) = f2 p2 p3 f_a1 from Eq.symm ((if_neg hc4).trans (if_pos hc11))), N9, rfl⟩
    · have K14 : ∀ t, Steps p.tables e below (T9.setTop (mkF m 24 #[.val (.ref a1), .val (.int p2), .val (.int p3)] [])) t → Steps p.tables e below (T9.setTop (mkF m 19 #[.val (.ref a1), .val (.int p2), .val (.int p3)] [(.int (f3 (p2 + (1 : Int32)) p3 f_a1))])) t := by
        intro t k
        refine XS.ifYes X9.here hx rfl (pc0 := 19) (pc' := 24) rfl (Jvm.hb hby d2_19) rfl ((if0 _ _).trans (feq hc11).2) (by decide) (by decide) ?_
        exact k
      have K15 : ∀ t, Steps p.tables e below (T9.setTop (mkF m 29 #[.val (.ref a1), .val (.int p2), .val (.int p3)] [(.int p3), (.int (p2 + (2 : Int32))), (.ref a1)])) t → Steps p.tables e below (T9.setTop (mkF m 24 #[.val (.ref a1), .val (.int p2), .val (.int p3)] [])) t := by
        intro t k
        refine XS.aloadN X9.here hx rfl (Jvm.hb hby d2_24) rfl rfl ?_
        show Steps p.tables e below (T9.setTop (mkF m 25 #[.val (.ref a1), .val (.int p2), .val (.int p3)] [(.ref a1)])) t
        refine XS.iloadN X9.here hx rfl (Jvm.hb hby d2_25) rfl ?_
        show Steps p.tables e below (T9.setTop (mkF m 26 #[.val (.ref a1), .val (.int p2), .val (.int p3)] [(.int p2), (.ref a1)])) t
        refine XS.iconst X9.here hx rfl (Jvm.hb hby d2_26) ?_
        show Steps p.tables e below (T9.setTop (mkF m 27 #[.val (.ref a1), .val (.int p2), .val (.int p3)] [(.int (2 : Int32)), (.int p2), (.ref a1)])) t
        refine XS.iadd X9.here hx rfl (Jvm.hb hby d2_27) rfl ?_
        show Steps p.tables e below (T9.setTop (mkF m 28 #[.val (.ref a1), .val (.int p2), .val (.int p3)] [(.int (p2 + (2 : Int32))), (.ref a1)])) t
        refine XS.iloadN X9.here hx rfl (Jvm.hb hby d2_28) rfl ?_
        show Steps p.tables e below (T9.setTop (mkF m 29 #[.val (.ref a1), .val (.int p2), .val (.int p3)] [(.int p3), (.int (p2 + (2 : Int32))), (.ref a1)])) t
        exact k
      obtain ⟨_, _, ⟨T16, L16, k16, n16⟩, -, X16, ⟨Lc16, hQ16, l16, y16, z16⟩, st16⟩ := Jvm.LawKit.callS X9 hx (y := (⟨"com/example/clapboard/clapboard/parse/TextCursorReadNumberPinLaw", "isD", "([CII)Z"⟩ : MethodName)) hown (mvT hZ (hw _ (List.mem_of_getElem? (i := 9) rfl))) (mvT hZ (hw _ (List.mem_of_getElem? (i := 10) rfl))) (mvT hZ (hw _ (List.mem_of_getElem? (i := 3) rfl))) (mvT hZ (hw _ (List.mem_of_getElem? (i := 11) rfl))) (by decide) (backOf (W := 0) (rm3 l Z a0 hw [] a1 (p2 + (2 : Int32)) p3 n_a1 f_a1 h0 n0 Z0 (own_pn _ _ hs hb (by decide)) he A_a1) hZ (hw _ (List.mem_of_getElem? (i := 11) rfl)) (hw _ (List.mem_of_getElem? (i := 3) rfl)) (by decide) (by decide)) (g := (mkF m 29 #[.val (.ref a1), .val (.int p2), .val (.int p3)] [(.int p3), (.int (p2 + (2 : Int32))), (.ref a1)])) rfl (by rw [hml]; rfl) (argsL := [(.ref a1), (.int (p2 + (2 : Int32))), (.int p3)]) (rest := []) (lenOf pd_2 rfl) rfl (by show 2 * 0 + _ ≤ _; exact Nat.le_of_eq rfl) (Jvm.hb hby d2_29) (fun _ _ => ⟨rfl, e9, (by decide : 0 + 0 ≤ _), (by decide : 0 + 0 ≤ _)⟩)
      dsimp only [Pt.U, Pt.locs, Pt.cells, Pt.slots] at X16 l16 y16 z16 st16 hQ16
      subst l16 y16 z16
      obtain ⟨rfl, N16q, e16⟩ := hQ16
      have N16 := Fr.app N9 N16q
      have K17 : ∀ t, Steps p.tables e below (T16.setTop (mkF m 32 #[.val (.ref a1), .val (.int p2), .val (.int p3)] [(.int (f3 (p2 + (2 : Int32)) p3 f_a1))])) t → Steps p.tables e below (T9.setTop (mkF m 29 #[.val (.ref a1), .val (.int p2), .val (.int p3)] [(.int p3), (.int (p2 + (2 : Int32))), (.ref a1)])) t := fun t k => st16 _ k
      by_cases hc18 : (f3 (p2 + (2 : Int32)) p3 f_a1) = (0 : Int32)
      · have K19 : ∀ t, Steps p.tables e below (T16.setTop (mkF m 35 #[.val (.ref a1), .val (.int p2), .val (.int p3)] [])) t → Steps p.tables e below (T16.setTop (mkF m 32 #[.val (.ref a1), .val (.int p2), .val (.int p3)] [(.int (f3 (p2 + (2 : Int32)) p3 f_a1))])) t := by
          intro t k
          refine XS.ifNo X16.here hx rfl (Jvm.hb hby d2_32) rfl ((if0 _ _).trans (teq hc18).2) ?_
          exact k
        have K20 : ∀ t, Steps p.tables e below (T16.setTop (mkF m 36 #[.val (.ref a1), .val (.int p2), .val (.int p3)] [(.int (2 : Int32))])) t → Steps p.tables e below (T16.setTop (mkF m 35 #[.val (.ref a1), .val (.int p2), .val (.int p3)] [])) t := by
          intro t k
          refine XS.iconst X16.here hx rfl (Jvm.hb hby d2_35) ?_
          show Steps p.tables e below (T16.setTop (mkF m 36 #[.val (.ref a1), .val (.int p2), .val (.int p3)] [(.int (2 : Int32))])) t
          exact k
        obtain ⟨fs, hr, hrun, hended, hW, hsame⟩ := X16.leave (v := some (.int (2 : Int32))) (fun h => by rw [Bd.returns] at h; cases h) Bd.notSynchronized
        refine ⟨_, _, pre0 _ (K1 _ (K3 _ (K7 _ (K8 _ (K10 _ (K14 _ (K15 _ (K17 _ (K19 _ (K20 _ (retI X16 hx Bd.returns (Jvm.hb hby d2_36) hr))))))))))), hrun, hended, _, _, rfl, ?_, ⟨_, rfl⟩, hW, hsame.mono (by decide) (by decide)⟩
        show Q2 Z a1 p2 p3 n_a1 f_a1 h0 n0 _ T16.heap _
        rw [e16]
        exact ⟨congrArg (fun z => some (Value.int z)) (show (2 : Int32) = f2 p2 p3 f_a1 from Eq.symm ((if_neg hc4).trans ((if_neg hc11).trans (if_pos hc18)))), N16, rfl⟩
      · have K21 : ∀ t, Steps p.tables e below (T16.setTop (mkF m 37 #[.val (.ref a1), .val (.int p2), .val (.int p3)] [])) t → Steps p.tables e below (T16.setTop (mkF m 32 #[.val (.ref a1), .val (.int p2), .val (.int p3)] [(.int (f3 (p2 + (2 : Int32)) p3 f_a1))])) t := by
          intro t k
          refine XS.ifYes X16.here hx rfl (pc0 := 32) (pc' := 37) rfl (Jvm.hb hby d2_32) rfl ((if0 _ _).trans (feq hc18).2) (by decide) (by decide) ?_
          exact k
        have K22 : ∀ t, Steps p.tables e below (T16.setTop (mkF m 42 #[.val (.ref a1), .val (.int p2), .val (.int p3)] [(.int p3), (.int (p2 + (3 : Int32))), (.ref a1)])) t → Steps p.tables e below (T16.setTop (mkF m 37 #[.val (.ref a1), .val (.int p2), .val (.int p3)] [])) t := by
          intro t k
          refine XS.aloadN X16.here hx rfl (Jvm.hb hby d2_37) rfl rfl ?_
          show Steps p.tables e below (T16.setTop (mkF m 38 #[.val (.ref a1), .val (.int p2), .val (.int p3)] [(.ref a1)])) t
          refine XS.iloadN X16.here hx rfl (Jvm.hb hby d2_38) rfl ?_
          show Steps p.tables e below (T16.setTop (mkF m 39 #[.val (.ref a1), .val (.int p2), .val (.int p3)] [(.int p2), (.ref a1)])) t
          refine XS.iconst X16.here hx rfl (Jvm.hb hby d2_39) ?_
          show Steps p.tables e below (T16.setTop (mkF m 40 #[.val (.ref a1), .val (.int p2), .val (.int p3)] [(.int (3 : Int32)), (.int p2), (.ref a1)])) t
          refine XS.iadd X16.here hx rfl (Jvm.hb hby d2_40) rfl ?_
          show Steps p.tables e below (T16.setTop (mkF m 41 #[.val (.ref a1), .val (.int p2), .val (.int p3)] [(.int (p2 + (3 : Int32))), (.ref a1)])) t
          refine XS.iloadN X16.here hx rfl (Jvm.hb hby d2_41) rfl ?_
          show Steps p.tables e below (T16.setTop (mkF m 42 #[.val (.ref a1), .val (.int p2), .val (.int p3)] [(.int p3), (.int (p2 + (3 : Int32))), (.ref a1)])) t
          exact k
        obtain ⟨_, _, ⟨T23, L23, k23, n23⟩, -, X23, ⟨Lc23, hQ23, l23, y23, z23⟩, st23⟩ := Jvm.LawKit.callS X16 hx (y := (⟨"com/example/clapboard/clapboard/parse/TextCursorReadNumberPinLaw", "isD", "([CII)Z"⟩ : MethodName)) hown (mvT hZ (hw _ (List.mem_of_getElem? (i := 9) rfl))) (mvT hZ (hw _ (List.mem_of_getElem? (i := 10) rfl))) (mvT hZ (hw _ (List.mem_of_getElem? (i := 3) rfl))) (mvT hZ (hw _ (List.mem_of_getElem? (i := 11) rfl))) (by decide) (backOf (W := 0) (rm3 l Z a0 hw [] a1 (p2 + (3 : Int32)) p3 n_a1 f_a1 h0 n0 Z0 (own_pn _ _ hs hb (by decide)) he A_a1) hZ (hw _ (List.mem_of_getElem? (i := 11) rfl)) (hw _ (List.mem_of_getElem? (i := 3) rfl)) (by decide) (by decide)) (g := (mkF m 42 #[.val (.ref a1), .val (.int p2), .val (.int p3)] [(.int p3), (.int (p2 + (3 : Int32))), (.ref a1)])) rfl (by rw [hml]; rfl) (argsL := [(.ref a1), (.int (p2 + (3 : Int32))), (.int p3)]) (rest := []) (lenOf pd_2 rfl) rfl (by show 2 * 0 + _ ≤ _; exact Nat.le_of_eq rfl) (Jvm.hb hby d2_42) (fun _ _ => ⟨rfl, e16, (by decide : 0 + 0 ≤ _), (by decide : 0 + 0 ≤ _)⟩)
        dsimp only [Pt.U, Pt.locs, Pt.cells, Pt.slots] at X23 l23 y23 z23 st23 hQ23
        subst l23 y23 z23
        obtain ⟨rfl, N23q, e23⟩ := hQ23
        have N23 := Fr.app N16 N23q
        have K24 : ∀ t, Steps p.tables e below (T23.setTop (mkF m 45 #[.val (.ref a1), .val (.int p2), .val (.int p3)] [(.int (f3 (p2 + (3 : Int32)) p3 f_a1))])) t → Steps p.tables e below (T16.setTop (mkF m 42 #[.val (.ref a1), .val (.int p2), .val (.int p3)] [(.int p3), (.int (p2 + (3 : Int32))), (.ref a1)])) t := fun t k => st23 _ k
        by_cases hc25 : (f3 (p2 + (3 : Int32)) p3 f_a1) = (0 : Int32)
        · have K26 : ∀ t, Steps p.tables e below (T23.setTop (mkF m 48 #[.val (.ref a1), .val (.int p2), .val (.int p3)] [])) t → Steps p.tables e below (T23.setTop (mkF m 45 #[.val (.ref a1), .val (.int p2), .val (.int p3)] [(.int (f3 (p2 + (3 : Int32)) p3 f_a1))])) t := by
            intro t k
            refine XS.ifNo X23.here hx rfl (Jvm.hb hby d2_45) rfl ((if0 _ _).trans (teq hc25).2) ?_
            exact k
          have K27 : ∀ t, Steps p.tables e below (T23.setTop (mkF m 49 #[.val (.ref a1), .val (.int p2), .val (.int p3)] [(.int (3 : Int32))])) t → Steps p.tables e below (T23.setTop (mkF m 48 #[.val (.ref a1), .val (.int p2), .val (.int p3)] [])) t := by
            intro t k
            refine XS.iconst X23.here hx rfl (Jvm.hb hby d2_48) ?_
            show Steps p.tables e below (T23.setTop (mkF m 49 #[.val (.ref a1), .val (.int p2), .val (.int p3)] [(.int (3 : Int32))])) t
            exact k
          obtain ⟨fs, hr, hrun, hended, hW, hsame⟩ := X23.leave (v := some (.int (3 : Int32))) (fun h => by rw [Bd.returns] at h; cases h) Bd.notSynchronized
          refine ⟨_, _, pre0 _ (K1 _ (K3 _ (K7 _ (K8 _ (K10 _ (K14 _ (K15 _ (K17 _ (K21 _ (K22 _ (K24 _ (K26 _ (K27 _ (retI X23 hx Bd.returns (Jvm.hb hby d2_49) hr)))))))))))))), hrun, hended, _, _, rfl, ?_, ⟨_, rfl⟩, hW, hsame.mono (by decide) (by decide)⟩
          show Q2 Z a1 p2 p3 n_a1 f_a1 h0 n0 _ T23.heap _
          rw [e23]
          exact ⟨congrArg (fun z => some (Value.int z)) (show (3 : Int32) = f2 p2 p3 f_a1 from Eq.symm ((if_neg hc4).trans ((if_neg hc11).trans ((if_neg hc18).trans (if_pos hc25))))), N23, rfl⟩
        · have K28 : ∀ t, Steps p.tables e below (T23.setTop (mkF m 50 #[.val (.ref a1), .val (.int p2), .val (.int p3)] [])) t → Steps p.tables e below (T23.setTop (mkF m 45 #[.val (.ref a1), .val (.int p2), .val (.int p3)] [(.int (f3 (p2 + (3 : Int32)) p3 f_a1))])) t := by
            intro t k
            refine XS.ifYes X23.here hx rfl (pc0 := 45) (pc' := 50) rfl (Jvm.hb hby d2_45) rfl ((if0 _ _).trans (feq hc25).2) (by decide) (by decide) ?_
            exact k
          have K29 : ∀ t, Steps p.tables e below (T23.setTop (mkF m 55 #[.val (.ref a1), .val (.int p2), .val (.int p3)] [(.int p3), (.int (p2 + (4 : Int32))), (.ref a1)])) t → Steps p.tables e below (T23.setTop (mkF m 50 #[.val (.ref a1), .val (.int p2), .val (.int p3)] [])) t := by
            intro t k
            refine XS.aloadN X23.here hx rfl (Jvm.hb hby d2_50) rfl rfl ?_
            show Steps p.tables e below (T23.setTop (mkF m 51 #[.val (.ref a1), .val (.int p2), .val (.int p3)] [(.ref a1)])) t
            refine XS.iloadN X23.here hx rfl (Jvm.hb hby d2_51) rfl ?_
            show Steps p.tables e below (T23.setTop (mkF m 52 #[.val (.ref a1), .val (.int p2), .val (.int p3)] [(.int p2), (.ref a1)])) t
            refine XS.iconst X23.here hx rfl (Jvm.hb hby d2_52) ?_
            show Steps p.tables e below (T23.setTop (mkF m 53 #[.val (.ref a1), .val (.int p2), .val (.int p3)] [(.int (4 : Int32)), (.int p2), (.ref a1)])) t
            refine XS.iadd X23.here hx rfl (Jvm.hb hby d2_53) rfl ?_
            show Steps p.tables e below (T23.setTop (mkF m 54 #[.val (.ref a1), .val (.int p2), .val (.int p3)] [(.int (p2 + (4 : Int32))), (.ref a1)])) t
            refine XS.iloadN X23.here hx rfl (Jvm.hb hby d2_54) rfl ?_
            show Steps p.tables e below (T23.setTop (mkF m 55 #[.val (.ref a1), .val (.int p2), .val (.int p3)] [(.int p3), (.int (p2 + (4 : Int32))), (.ref a1)])) t
            exact k
          obtain ⟨_, _, ⟨T30, L30, k30, n30⟩, -, X30, ⟨Lc30, hQ30, l30, y30, z30⟩, st30⟩ := Jvm.LawKit.callS X23 hx (y := (⟨"com/example/clapboard/clapboard/parse/TextCursorReadNumberPinLaw", "isD", "([CII)Z"⟩ : MethodName)) hown (mvT hZ (hw _ (List.mem_of_getElem? (i := 9) rfl))) (mvT hZ (hw _ (List.mem_of_getElem? (i := 10) rfl))) (mvT hZ (hw _ (List.mem_of_getElem? (i := 3) rfl))) (mvT hZ (hw _ (List.mem_of_getElem? (i := 11) rfl))) (by decide) (backOf (W := 0) (rm3 l Z a0 hw [] a1 (p2 + (4 : Int32)) p3 n_a1 f_a1 h0 n0 Z0 (own_pn _ _ hs hb (by decide)) he A_a1) hZ (hw _ (List.mem_of_getElem? (i := 11) rfl)) (hw _ (List.mem_of_getElem? (i := 3) rfl)) (by decide) (by decide)) (g := (mkF m 55 #[.val (.ref a1), .val (.int p2), .val (.int p3)] [(.int p3), (.int (p2 + (4 : Int32))), (.ref a1)])) rfl (by rw [hml]; rfl) (argsL := [(.ref a1), (.int (p2 + (4 : Int32))), (.int p3)]) (rest := []) (lenOf pd_2 rfl) rfl (by show 2 * 0 + _ ≤ _; exact Nat.le_of_eq rfl) (Jvm.hb hby d2_55) (fun _ _ => ⟨rfl, e23, (by decide : 0 + 0 ≤ _), (by decide : 0 + 0 ≤ _)⟩)
          dsimp only [Pt.U, Pt.locs, Pt.cells, Pt.slots] at X30 l30 y30 z30 st30 hQ30
          subst l30 y30 z30
          obtain ⟨rfl, N30q, e30⟩ := hQ30
          have N30 := Fr.app N23 N30q
          have K31 : ∀ t, Steps p.tables e below (T30.setTop (mkF m 58 #[.val (.ref a1), .val (.int p2), .val (.int p3)] [(.int (f3 (p2 + (4 : Int32)) p3 f_a1))])) t → Steps p.tables e below (T23.setTop (mkF m 55 #[.val (.ref a1), .val (.int p2), .val (.int p3)] [(.int p3), (.int (p2 + (4 : Int32))), (.ref a1)])) t := fun t k => st30 _ k
          by_cases hc32 : (f3 (p2 + (4 : Int32)) p3 f_a1) = (0 : Int32)
          · have K33 : ∀ t, Steps p.tables e below (T30.setTop (mkF m 61 #[.val (.ref a1), .val (.int p2), .val (.int p3)] [])) t → Steps p.tables e below (T30.setTop (mkF m 58 #[.val (.ref a1), .val (.int p2), .val (.int p3)] [(.int (f3 (p2 + (4 : Int32)) p3 f_a1))])) t := by
              intro t k
              refine XS.ifNo X30.here hx rfl (Jvm.hb hby d2_58) rfl ((if0 _ _).trans (teq hc32).2) ?_
              exact k
            have K34 : ∀ t, Steps p.tables e below (T30.setTop (mkF m 62 #[.val (.ref a1), .val (.int p2), .val (.int p3)] [(.int (4 : Int32))])) t → Steps p.tables e below (T30.setTop (mkF m 61 #[.val (.ref a1), .val (.int p2), .val (.int p3)] [])) t := by
              intro t k
              refine XS.iconst X30.here hx rfl (Jvm.hb hby d2_61) ?_
              show Steps p.tables e below (T30.setTop (mkF m 62 #[.val (.ref a1), .val (.int p2), .val (.int p3)] [(.int (4 : Int32))])) t
              exact k
            obtain ⟨fs, hr, hrun, hended, hW, hsame⟩ := X30.leave (v := some (.int (4 : Int32))) (fun h => by rw [Bd.returns] at h; cases h) Bd.notSynchronized
            refine ⟨_, _, pre0 _ (K1 _ (K3 _ (K7 _ (K8 _ (K10 _ (K14 _ (K15 _ (K17 _ (K21 _ (K22 _ (K24 _ (K28 _ (K29 _ (K31 _ (K33 _ (K34 _ (retI X30 hx Bd.returns (Jvm.hb hby d2_62) hr))))))))))))))))), hrun, hended, _, _, rfl, ?_, ⟨_, rfl⟩, hW, hsame.mono (by decide) (by decide)⟩
            show Q2 Z a1 p2 p3 n_a1 f_a1 h0 n0 _ T30.heap _
            rw [e30]
            exact ⟨congrArg (fun z => some (Value.int z)) (show (4 : Int32) = f2 p2 p3 f_a1 from Eq.symm ((if_neg hc4).trans ((if_neg hc11).trans ((if_neg hc18).trans ((if_neg hc25).trans (if_pos hc32)))))), N30, rfl⟩
          · have K35 : ∀ t, Steps p.tables e below (T30.setTop (mkF m 63 #[.val (.ref a1), .val (.int p2), .val (.int p3)] [])) t → Steps p.tables e below (T30.setTop (mkF m 58 #[.val (.ref a1), .val (.int p2), .val (.int p3)] [(.int (f3 (p2 + (4 : Int32)) p3 f_a1))])) t := by
              intro t k
              refine XS.ifYes X30.here hx rfl (pc0 := 58) (pc' := 63) rfl (Jvm.hb hby d2_58) rfl ((if0 _ _).trans (feq hc32).2) (by decide) (by decide) ?_
              exact k
            have K36 : ∀ t, Steps p.tables e below (T30.setTop (mkF m 64 #[.val (.ref a1), .val (.int p2), .val (.int p3)] [(.int (5 : Int32))])) t → Steps p.tables e below (T30.setTop (mkF m 63 #[.val (.ref a1), .val (.int p2), .val (.int p3)] [])) t := by
              intro t k
              refine XS.iconst X30.here hx rfl (Jvm.hb hby d2_63) ?_
              show Steps p.tables e below (T30.setTop (mkF m 64 #[.val (.ref a1), .val (.int p2), .val (.int p3)] [(.int (5 : Int32))])) t
              exact k
            obtain ⟨fs, hr, hrun, hended, hW, hsame⟩ := X30.leave (v := some (.int (5 : Int32))) (fun h => by rw [Bd.returns] at h; cases h) Bd.notSynchronized
            refine ⟨_, _, pre0 _ (K1 _ (K3 _ (K7 _ (K8 _ (K10 _ (K14 _ (K15 _ (K17 _ (K21 _ (K22 _ (K24 _ (K28 _ (K29 _ (K31 _ (K35 _ (K36 _ (retI X30 hx Bd.returns (Jvm.hb hby d2_64) hr))))))))))))))))), hrun, hended, _, _, rfl, ?_, ⟨_, rfl⟩, hW, hsame.mono (by decide) (by decide)⟩
            show Q2 Z a1 p2 p3 n_a1 f_a1 h0 n0 _ T30.heap _
            rw [e30]
            exact ⟨congrArg (fun z => some (Value.int z)) (show (5 : Int32) = f2 p2 p3 f_a1 from Eq.symm ((if_neg hc4).trans ((if_neg hc11).trans ((if_neg hc18).trans ((if_neg hc25).trans (if_neg hc32)))))), N30, rfl⟩
-- body 9: com/example/clapboard/clapboard/parse/TextCursorReadNumberPinLaw.pow10(I)I
theorem d9_0 : decode method_6_code 0 = .ok (.iload_n 0, 1) := by decide +kernel
theorem d9_1 : decode method_6_code 1 = .ok (.ifCond .ne 5, 3) := by decide +kernel
theorem d9_4 : decode method_6_code 4 = .ok (.iconst 1, 1) := by decide +kernel
theorem d9_5 : decode method_6_code 5 = .ok (.ireturn, 1) := by decide +kernel
theorem d9_6 : decode method_6_code 6 = .ok (.iload_n 0, 1) := by decide +kernel
theorem d9_7 : decode method_6_code 7 = .ok (.iconst 1, 1) := by decide +kernel
theorem d9_8 : decode method_6_code 8 = .ok (.if_icmp .ne 6, 3) := by decide +kernel
theorem d9_11 : decode method_6_code 11 = .ok (.bipush 10, 2) := by decide +kernel
theorem d9_13 : decode method_6_code 13 = .ok (.ireturn, 1) := by decide +kernel
theorem d9_14 : decode method_6_code 14 = .ok (.iload_n 0, 1) := by decide +kernel
theorem d9_15 : decode method_6_code 15 = .ok (.iconst 2, 1) := by decide +kernel
theorem d9_16 : decode method_6_code 16 = .ok (.if_icmp .ne 6, 3) := by decide +kernel
theorem d9_19 : decode method_6_code 19 = .ok (.bipush 100, 2) := by decide +kernel
theorem d9_21 : decode method_6_code 21 = .ok (.ireturn, 1) := by decide +kernel
theorem d9_22 : decode method_6_code 22 = .ok (.iload_n 0, 1) := by decide +kernel
theorem d9_23 : decode method_6_code 23 = .ok (.iconst 3, 1) := by decide +kernel
theorem d9_24 : decode method_6_code 24 = .ok (.if_icmp .ne 7, 3) := by decide +kernel
theorem d9_27 : decode method_6_code 27 = .ok (.sipush 1000, 3) := by decide +kernel
theorem d9_30 : decode method_6_code 30 = .ok (.ireturn, 1) := by decide +kernel
theorem d9_31 : decode method_6_code 31 = .ok (.sipush 10000, 3) := by decide +kernel
theorem d9_34 : decode method_6_code 34 = .ok (.ireturn, 1) := by decide +kernel
theorem pn_9 : plainName "com/example/clapboard/clapboard/parse/TextCursorReadNumberPinLaw" = true := by first | (simp [plainName, overriddenIn]; done) | decide +kernel
theorem ef_9 (m : MethodId) (p1 : Int32) : entryFrame m #[(.int p1)] 1 = mkF m 0 #[.val (.int p1)] [] := by first | (simp [entryFrame, mkF, argsToLocals, Value.category]; done) | rfl
def f9 (p1 : Int32) : Int32 := (if p1 = (0 : Int32) then (1 : Int32) else (if p1 = (1 : Int32) then (10 : Int32) else (if p1 = (2 : Int32) then (100 : Int32) else (if p1 = (3 : Int32) then (1000 : Int32) else (10000 : Int32)))))
def Q9 (Z : State) (p1 : Int32) (h0 : Heap) (n0 : Nat) (v : Option Value) (h : Heap) (L : List Loc) : Prop := v = some (.int (f9 p1)) ∧ Fr n0 L ∧ h = h0
set_option maxRecDepth 65536 in
set_option maxHeartbeats 40000000 in
theorem rm9 (l : Launch) (Z : State) (a0 : Array Value) (hw : ∀ d ∈ tables_1, d.before a0 Z = true) (ws : List Jvm.Cond) (p1 : Int32) (h0 : Heap) (n0 : Nat) (Z0 : n0 ≤ h0.size) :
    MetFree l (⟨"com/example/clapboard/clapboard/parse/TextCursorReadNumberPinLaw", "pow10", "(I)I"⟩ : MethodName) (head1 (Jvm.Cond.code (⟨"com/example/clapboard/clapboard/parse/TextCursorReadNumberPinLaw", "pow10", "(I)I"⟩ : MethodName) method_6_code 1 (some .int) :: ws) ({ frames := 0, cells := 0, slots := 0, locals := 0 } : Room)) (fun a U => a = #[(.int p1)] ∧ Z.Warmed39 U.vm ∧ U.heap = h0) (fun _ _ _ _ _ => True) (fun _ U o U' => ∃ v L, o = .returned v ∧ Q9 Z p1 h0 n0 v U'.heap L ∧ FrameEnd U o U' L ({ frames := 0, cells := 0, slots := 0, locals := 0 } : Room).cells ({ frames := 0, cells := 0, slots := 0, locals := 0 } : Room).slots) := by
  refine MetFree.of_bodySF (plainFor_of_name pn_9) hisR ?_
  intro p e s m args below meth c s₁ Bd hml0 hP hK
  obtain ⟨rfl, hZ, hh⟩ := hP
  have hx := Bd.exec
  have hby := Bd.bytes
  have hml : c.maxLocals = 1 := hml0
  have hown : s.vm.findClass "com/example/clapboard/clapboard/parse/TextCursorReadNumberPinLaw" = some m.cls := findClass_of_methodNamed Bd.named
  have hnm := (name_of_methodNamed Bd.named Bd.method).1
  have X0 : Stand p l e ({ frames := 0, cells := 0, slots := 0, locals := 0 } : Room) s m #[(.int p1)] below meth c s₁ [] 0 0 := Stand.of_body Bd
  have e0 : s₁.heap = h0 := by rw [← hh, Bd.state]; rfl
  have N0 := Fr.nil n0
  have pre0 : ∀ t, Steps p.tables e below (s₁.setTop (mkF m 0 #[.val (.int p1)] [])) t → Steps p.tables e below (s₁.setTop (entryFrame m #[(.int p1)] 1)) t := fun t k => castTop (ef_9 m p1) k
  have K1 : ∀ t, Steps p.tables e below (s₁.setTop (mkF m 1 #[.val (.int p1)] [(.int p1)])) t → Steps p.tables e below (s₁.setTop (mkF m 0 #[.val (.int p1)] [])) t := by
    intro t k
    refine XS.iloadN X0.here hx rfl (Jvm.hb hby d9_0) rfl ?_
    show Steps p.tables e below (s₁.setTop (mkF m 1 #[.val (.int p1)] [(.int p1)])) t
    exact k
  by_cases hc2 : p1 = (0 : Int32)
  · have K3 : ∀ t, Steps p.tables e below (s₁.setTop (mkF m 4 #[.val (.int p1)] [])) t → Steps p.tables e below (s₁.setTop (mkF m 1 #[.val (.int p1)] [(.int p1)])) t := by
      intro t k
      refine XS.ifNo X0.here hx rfl (Jvm.hb hby d9_1) rfl ((if0 _ _).trans (teq hc2).2) ?_
      exact k
    have K4 : ∀ t, Steps p.tables e below (s₁.setTop (mkF m 5 #[.val (.int p1)] [(.int (1 : Int32))])) t → Steps p.tables e below (s₁.setTop (mkF m 4 #[.val (.int p1)] [])) t := by
      intro t k
      refine XS.iconst X0.here hx rfl (Jvm.hb hby d9_4) ?_
      show Steps p.tables e below (s₁.setTop (mkF m 5 #[.val (.int p1)] [(.int (1 : Int32))])) t
      exact k
    obtain ⟨fs, hr, hrun, hended, hW, hsame⟩ := X0.leave (v := some (.int (1 : Int32))) (fun h => by rw [Bd.returns] at h; cases h) Bd.notSynchronized
    refine ⟨_, _, pre0 _ (K1 _ (K3 _ (K4 _ (retI X0 hx Bd.returns (Jvm.hb hby d9_5) hr)))), hrun, hended, _, _, rfl, ?_, ⟨_, rfl⟩, hW, hsame.mono (by decide) (by decide)⟩
    show Q9 Z p1 h0 n0 _ s₁.heap _
    rw [e0]
    exact ⟨congrArg (fun z => some (Value.int z)) (show (1 : Int32) = f9 p1 from Eq.symm (if_pos hc2)), N0, rfl⟩
  · have K5 : ∀ t, Steps p.tables e below (s₁.setTop (mkF m 6 #[.val (.int p1)] [])) t → Steps p.tables e below (s₁.setTop (mkF m 1 #[.val (.int p1)] [(.int p1)])) t := by
      intro t k
      refine XS.ifYes X0.here hx rfl (pc0 := 1) (pc' := 6) rfl (Jvm.hb hby d9_1) rfl ((if0 _ _).trans (feq hc2).2) (by decide) (by decide) ?_
      exact k
    have K6 : ∀ t, Steps p.tables e below (s₁.setTop (mkF m 8 #[.val (.int p1)] [(.int (1 : Int32)), (.int p1)])) t → Steps p.tables e below (s₁.setTop (mkF m 6 #[.val (.int p1)] [])) t := by
      intro t k
      refine XS.iloadN X0.here hx rfl (Jvm.hb hby d9_6) rfl ?_
      show Steps p.tables e below (s₁.setTop (mkF m 7 #[.val (.int p1)] [(.int p1)])) t
      refine XS.iconst X0.here hx rfl (Jvm.hb hby d9_7) ?_
      show Steps p.tables e below (s₁.setTop (mkF m 8 #[.val (.int p1)] [(.int (1 : Int32)), (.int p1)])) t
      exact k
    by_cases hc7 : p1 = (1 : Int32)
    · have K8 : ∀ t, Steps p.tables e below (s₁.setTop (mkF m 11 #[.val (.int p1)] [])) t → Steps p.tables e below (s₁.setTop (mkF m 8 #[.val (.int p1)] [(.int (1 : Int32)), (.int p1)])) t := by
        intro t k
        refine XS.icmpNo X0.here hx rfl (Jvm.hb hby d9_8) rfl (teq hc7).2 ?_
        exact k
      have K9 : ∀ t, Steps p.tables e below (s₁.setTop (mkF m 13 #[.val (.int p1)] [(.int (10 : Int32))])) t → Steps p.tables e below (s₁.setTop (mkF m 11 #[.val (.int p1)] [])) t := by
        intro t k
        refine XS.bipush X0.here hx rfl (Jvm.hb hby d9_11) ?_
        show Steps p.tables e below (s₁.setTop (mkF m 13 #[.val (.int p1)] [(.int (10 : Int32))])) t
        exact k
      obtain ⟨fs, hr, hrun, hended, hW, hsame⟩ := X0.leave (v := some (.int (10 : Int32))) (fun h => by rw [Bd.returns] at h; cases h) Bd.notSynchronized
      refine ⟨_, _, pre0 _ (K1 _ (K5 _ (K6 _ (K8 _ (K9 _ (retI X0 hx Bd.returns (Jvm.hb hby d9_13) hr)))))), hrun, hended, _, _, rfl, ?_, ⟨_, rfl⟩, hW, hsame.mono (by decide) (by decide)⟩
      show Q9 Z p1 h0 n0 _ s₁.heap _
      rw [e0]
      exact ⟨congrArg (fun z => some (Value.int z)) (show (10 : Int32) = f9 p1 from Eq.symm ((if_neg hc2).trans (if_pos hc7))), N0, rfl⟩
    · have K10 : ∀ t, Steps p.tables e below (s₁.setTop (mkF m 14 #[.val (.int p1)] [])) t → Steps p.tables e below (s₁.setTop (mkF m 8 #[.val (.int p1)] [(.int (1 : Int32)), (.int p1)])) t := by
        intro t k
        refine XS.icmpYes X0.here hx rfl (pc0 := 8) (pc' := 14) rfl (Jvm.hb hby d9_8) rfl (feq hc7).2 (by decide) (by decide) ?_
        exact k
      have K11 : ∀ t, Steps p.tables e below (s₁.setTop (mkF m 16 #[.val (.int p1)] [(.int (2 : Int32)), (.int p1)])) t → Steps p.tables e below (s₁.setTop (mkF m 14 #[.val (.int p1)] [])) t := by
        intro t k
        refine XS.iloadN X0.here hx rfl (Jvm.hb hby d9_14) rfl ?_
        show Steps p.tables e below (s₁.setTop (mkF m 15 #[.val (.int p1)] [(.int p1)])) t
        refine XS.iconst X0.here hx rfl (Jvm.hb hby d9_15) ?_
        show Steps p.tables e below (s₁.setTop (mkF m 16 #[.val (.int p1)] [(.int (2 : Int32)), (.int p1)])) t
        exact k
      by_cases hc12 : p1 = (2 : Int32)
      · have K13 : ∀ t, Steps p.tables e below (s₁.setTop (mkF m 19 #[.val (.int p1)] [])) t → Steps p.tables e below (s₁.setTop (mkF m 16 #[.val (.int p1)] [(.int (2 : Int32)), (.int p1)])) t := by
          intro t k
          refine XS.icmpNo X0.here hx rfl (Jvm.hb hby d9_16) rfl (teq hc12).2 ?_
          exact k
        have K14 : ∀ t, Steps p.tables e below (s₁.setTop (mkF m 21 #[.val (.int p1)] [(.int (100 : Int32))])) t → Steps p.tables e below (s₁.setTop (mkF m 19 #[.val (.int p1)] [])) t := by
          intro t k
          refine XS.bipush X0.here hx rfl (Jvm.hb hby d9_19) ?_
          show Steps p.tables e below (s₁.setTop (mkF m 21 #[.val (.int p1)] [(.int (100 : Int32))])) t
          exact k
        obtain ⟨fs, hr, hrun, hended, hW, hsame⟩ := X0.leave (v := some (.int (100 : Int32))) (fun h => by rw [Bd.returns] at h; cases h) Bd.notSynchronized
        refine ⟨_, _, pre0 _ (K1 _ (K5 _ (K6 _ (K10 _ (K11 _ (K13 _ (K14 _ (retI X0 hx Bd.returns (Jvm.hb hby d9_21) hr)))))))), hrun, hended, _, _, rfl, ?_, ⟨_, rfl⟩, hW, hsame.mono (by decide) (by decide)⟩
        show Q9 Z p1 h0 n0 _ s₁.heap _
        rw [e0]
        exact ⟨congrArg (fun z => some (Value.int z)) (show (100 : Int32) = f9 p1 from Eq.symm ((if_neg hc2).trans ((if_neg hc7).trans (if_pos hc12)))), N0, rfl⟩
      · have K15 : ∀ t, Steps p.tables e below (s₁.setTop (mkF m 22 #[.val (.int p1)] [])) t → Steps p.tables e below (s₁.setTop (mkF m 16 #[.val (.int p1)] [(.int (2 : Int32)), (.int p1)])) t := by
          intro t k
          refine XS.icmpYes X0.here hx rfl (pc0 := 16) (pc' := 22) rfl (Jvm.hb hby d9_16) rfl (feq hc12).2 (by decide) (by decide) ?_
          exact k
        have K16 : ∀ t, Steps p.tables e below (s₁.setTop (mkF m 24 #[.val (.int p1)] [(.int (3 : Int32)), (.int p1)])) t → Steps p.tables e below (s₁.setTop (mkF m 22 #[.val (.int p1)] [])) t := by
          intro t k
          refine XS.iloadN X0.here hx rfl (Jvm.hb hby d9_22) rfl ?_
          show Steps p.tables e below (s₁.setTop (mkF m 23 #[.val (.int p1)] [(.int p1)])) t
          refine XS.iconst X0.here hx rfl (Jvm.hb hby d9_23) ?_
          show Steps p.tables e below (s₁.setTop (mkF m 24 #[.val (.int p1)] [(.int (3 : Int32)), (.int p1)])) t
          exact k
        by_cases hc17 : p1 = (3 : Int32)
        · have K18 : ∀ t, Steps p.tables e below (s₁.setTop (mkF m 27 #[.val (.int p1)] [])) t → Steps p.tables e below (s₁.setTop (mkF m 24 #[.val (.int p1)] [(.int (3 : Int32)), (.int p1)])) t := by
            intro t k
            refine XS.icmpNo X0.here hx rfl (Jvm.hb hby d9_24) rfl (teq hc17).2 ?_
            exact k
          have K19 : ∀ t, Steps p.tables e below (s₁.setTop (mkF m 30 #[.val (.int p1)] [(.int (1000 : Int32))])) t → Steps p.tables e below (s₁.setTop (mkF m 27 #[.val (.int p1)] [])) t := by
            intro t k
            refine XS.sipush X0.here hx rfl (Jvm.hb hby d9_27) ?_
            show Steps p.tables e below (s₁.setTop (mkF m 30 #[.val (.int p1)] [(.int (1000 : Int32))])) t
            exact k
          obtain ⟨fs, hr, hrun, hended, hW, hsame⟩ := X0.leave (v := some (.int (1000 : Int32))) (fun h => by rw [Bd.returns] at h; cases h) Bd.notSynchronized
          refine ⟨_, _, pre0 _ (K1 _ (K5 _ (K6 _ (K10 _ (K11 _ (K15 _ (K16 _ (K18 _ (K19 _ (retI X0 hx Bd.returns (Jvm.hb hby d9_30) hr)))))))))), hrun, hended, _, _, rfl, ?_, ⟨_, rfl⟩, hW, hsame.mono (by decide) (by decide)⟩
          show Q9 Z p1 h0 n0 _ s₁.heap _
          rw [e0]
          exact ⟨congrArg (fun z => some (Value.int z)) (show (1000 : Int32) = f9 p1 from Eq.symm ((if_neg hc2).trans ((if_neg hc7).trans ((if_neg hc12).trans (if_pos hc17))))), N0, rfl⟩
        · have K20 : ∀ t, Steps p.tables e below (s₁.setTop (mkF m 31 #[.val (.int p1)] [])) t → Steps p.tables e below (s₁.setTop (mkF m 24 #[.val (.int p1)] [(.int (3 : Int32)), (.int p1)])) t := by
            intro t k
            refine XS.icmpYes X0.here hx rfl (pc0 := 24) (pc' := 31) rfl (Jvm.hb hby d9_24) rfl (feq hc17).2 (by decide) (by decide) ?_
            exact k
          have K21 : ∀ t, Steps p.tables e below (s₁.setTop (mkF m 34 #[.val (.int p1)] [(.int (10000 : Int32))])) t → Steps p.tables e below (s₁.setTop (mkF m 31 #[.val (.int p1)] [])) t := by
            intro t k
            refine XS.sipush X0.here hx rfl (Jvm.hb hby d9_31) ?_
            show Steps p.tables e below (s₁.setTop (mkF m 34 #[.val (.int p1)] [(.int (10000 : Int32))])) t
            exact k
          obtain ⟨fs, hr, hrun, hended, hW, hsame⟩ := X0.leave (v := some (.int (10000 : Int32))) (fun h => by rw [Bd.returns] at h; cases h) Bd.notSynchronized
          refine ⟨_, _, pre0 _ (K1 _ (K5 _ (K6 _ (K10 _ (K11 _ (K15 _ (K16 _ (K20 _ (K21 _ (retI X0 hx Bd.returns (Jvm.hb hby d9_34) hr)))))))))), hrun, hended, _, _, rfl, ?_, ⟨_, rfl⟩, hW, hsame.mono (by decide) (by decide)⟩
          show Q9 Z p1 h0 n0 _ s₁.heap _
          rw [e0]
          exact ⟨congrArg (fun z => some (Value.int z)) (show (10000 : Int32) = f9 p1 from Eq.symm ((if_neg hc2).trans ((if_neg hc7).trans ((if_neg hc12).trans (if_neg hc17))))), N0, rfl⟩
-- body 4: com/example/clapboard/clapboard/parse/TextCursorReadNumberPinLaw.valueOfRun([CII)I
theorem d4_0 : decode method_7_code 0 = .ok (.iconst 0, 1) := by decide +kernel
theorem d4_1 : decode method_7_code 1 = .ok (.istore_n 3, 1) := by decide +kernel
theorem d4_2 : decode method_7_code 2 = .ok (.iload_n 2, 1) := by decide +kernel
theorem d4_3 : decode method_7_code 3 = .ok (.iconst 1, 1) := by decide +kernel
theorem d4_4 : decode method_7_code 4 = .ok (.if_icmp .lt 19, 3) := by decide +kernel
theorem d4_7 : decode method_7_code 7 = .ok (.iload_n 3, 1) := by decide +kernel
theorem d4_8 : decode method_7_code 8 = .ok (.aload_n 0, 1) := by decide +kernel
theorem d4_9 : decode method_7_code 9 = .ok (.iload_n 1, 1) := by decide +kernel
theorem d4_10 : decode method_7_code 10 = .ok (.caload, 1) := by decide +kernel
theorem d4_11 : decode method_7_code 11 = .ok (.bipush 48, 2) := by decide +kernel
theorem d4_13 : decode method_7_code 13 = .ok (.isub, 1) := by decide +kernel
theorem d4_14 : decode method_7_code 14 = .ok (.iload_n 2, 1) := by decide +kernel
theorem d4_15 : decode method_7_code 15 = .ok (.iconst 1, 1) := by decide +kernel
theorem d4_16 : decode method_7_code 16 = .ok (.isub, 1) := by decide +kernel
theorem d4_17 : decode method_7_code 17 = .ok (.invokestatic 39, 3) := by decide +kernel
theorem d4_20 : decode method_7_code 20 = .ok (.imul, 1) := by decide +kernel
theorem d4_21 : decode method_7_code 21 = .ok (.iadd, 1) := by decide +kernel
theorem d4_22 : decode method_7_code 22 = .ok (.istore_n 3, 1) := by decide +kernel
theorem d4_23 : decode method_7_code 23 = .ok (.iload_n 2, 1) := by decide +kernel
theorem d4_24 : decode method_7_code 24 = .ok (.iconst 2, 1) := by decide +kernel
theorem d4_25 : decode method_7_code 25 = .ok (.if_icmp .lt 21, 3) := by decide +kernel
theorem d4_28 : decode method_7_code 28 = .ok (.iload_n 3, 1) := by decide +kernel
theorem d4_29 : decode method_7_code 29 = .ok (.aload_n 0, 1) := by decide +kernel
theorem d4_30 : decode method_7_code 30 = .ok (.iload_n 1, 1) := by decide +kernel
theorem d4_31 : decode method_7_code 31 = .ok (.iconst 1, 1) := by decide +kernel
theorem d4_32 : decode method_7_code 32 = .ok (.iadd, 1) := by decide +kernel
theorem d4_33 : decode method_7_code 33 = .ok (.caload, 1) := by decide +kernel
theorem d4_34 : decode method_7_code 34 = .ok (.bipush 48, 2) := by decide +kernel
theorem d4_36 : decode method_7_code 36 = .ok (.isub, 1) := by decide +kernel
theorem d4_37 : decode method_7_code 37 = .ok (.iload_n 2, 1) := by decide +kernel
theorem d4_38 : decode method_7_code 38 = .ok (.iconst 2, 1) := by decide +kernel
theorem d4_39 : decode method_7_code 39 = .ok (.isub, 1) := by decide +kernel
theorem d4_40 : decode method_7_code 40 = .ok (.invokestatic 39, 3) := by decide +kernel
theorem d4_43 : decode method_7_code 43 = .ok (.imul, 1) := by decide +kernel
theorem d4_44 : decode method_7_code 44 = .ok (.iadd, 1) := by decide +kernel
theorem d4_45 : decode method_7_code 45 = .ok (.istore_n 3, 1) := by decide +kernel
theorem d4_46 : decode method_7_code 46 = .ok (.iload_n 2, 1) := by decide +kernel
theorem d4_47 : decode method_7_code 47 = .ok (.iconst 3, 1) := by decide +kernel
theorem d4_48 : decode method_7_code 48 = .ok (.if_icmp .lt 21, 3) := by decide +kernel
theorem d4_51 : decode method_7_code 51 = .ok (.iload_n 3, 1) := by decide +kernel
theorem d4_52 : decode method_7_code 52 = .ok (.aload_n 0, 1) := by decide +kernel
theorem d4_53 : decode method_7_code 53 = .ok (.iload_n 1, 1) := by decide +kernel
theorem d4_54 : decode method_7_code 54 = .ok (.iconst 2, 1) := by decide +kernel
theorem d4_55 : decode method_7_code 55 = .ok (.iadd, 1) := by decide +kernel
theorem d4_56 : decode method_7_code 56 = .ok (.caload, 1) := by decide +kernel
theorem d4_57 : decode method_7_code 57 = .ok (.bipush 48, 2) := by decide +kernel
theorem d4_59 : decode method_7_code 59 = .ok (.isub, 1) := by decide +kernel
theorem d4_60 : decode method_7_code 60 = .ok (.iload_n 2, 1) := by decide +kernel
theorem d4_61 : decode method_7_code 61 = .ok (.iconst 3, 1) := by decide +kernel
theorem d4_62 : decode method_7_code 62 = .ok (.isub, 1) := by decide +kernel
theorem d4_63 : decode method_7_code 63 = .ok (.invokestatic 39, 3) := by decide +kernel
theorem d4_66 : decode method_7_code 66 = .ok (.imul, 1) := by decide +kernel
theorem d4_67 : decode method_7_code 67 = .ok (.iadd, 1) := by decide +kernel
theorem d4_68 : decode method_7_code 68 = .ok (.istore_n 3, 1) := by decide +kernel
theorem d4_69 : decode method_7_code 69 = .ok (.iload_n 2, 1) := by decide +kernel
theorem d4_70 : decode method_7_code 70 = .ok (.iconst 4, 1) := by decide +kernel
theorem d4_71 : decode method_7_code 71 = .ok (.if_icmp .lt 21, 3) := by decide +kernel
theorem d4_74 : decode method_7_code 74 = .ok (.iload_n 3, 1) := by decide +kernel
theorem d4_75 : decode method_7_code 75 = .ok (.aload_n 0, 1) := by decide +kernel
theorem d4_76 : decode method_7_code 76 = .ok (.iload_n 1, 1) := by decide +kernel
theorem d4_77 : decode method_7_code 77 = .ok (.iconst 3, 1) := by decide +kernel
theorem d4_78 : decode method_7_code 78 = .ok (.iadd, 1) := by decide +kernel
theorem d4_79 : decode method_7_code 79 = .ok (.caload, 1) := by decide +kernel
theorem d4_80 : decode method_7_code 80 = .ok (.bipush 48, 2) := by decide +kernel
theorem d4_82 : decode method_7_code 82 = .ok (.isub, 1) := by decide +kernel
theorem d4_83 : decode method_7_code 83 = .ok (.iload_n 2, 1) := by decide +kernel
theorem d4_84 : decode method_7_code 84 = .ok (.iconst 4, 1) := by decide +kernel
theorem d4_85 : decode method_7_code 85 = .ok (.isub, 1) := by decide +kernel
theorem d4_86 : decode method_7_code 86 = .ok (.invokestatic 39, 3) := by decide +kernel
theorem d4_89 : decode method_7_code 89 = .ok (.imul, 1) := by decide +kernel
theorem d4_90 : decode method_7_code 90 = .ok (.iadd, 1) := by decide +kernel
theorem d4_91 : decode method_7_code 91 = .ok (.istore_n 3, 1) := by decide +kernel
theorem d4_92 : decode method_7_code 92 = .ok (.iload_n 2, 1) := by decide +kernel
theorem d4_93 : decode method_7_code 93 = .ok (.iconst 5, 1) := by decide +kernel
theorem d4_94 : decode method_7_code 94 = .ok (.if_icmp .lt 21, 3) := by decide +kernel
theorem d4_97 : decode method_7_code 97 = .ok (.iload_n 3, 1) := by decide +kernel
theorem d4_98 : decode method_7_code 98 = .ok (.aload_n 0, 1) := by decide +kernel
theorem d4_99 : decode method_7_code 99 = .ok (.iload_n 1, 1) := by decide +kernel
theorem d4_100 : decode method_7_code 100 = .ok (.iconst 4, 1) := by decide +kernel
theorem d4_101 : decode method_7_code 101 = .ok (.iadd, 1) := by decide +kernel
theorem d4_102 : decode method_7_code 102 = .ok (.caload, 1) := by decide +kernel
theorem d4_103 : decode method_7_code 103 = .ok (.bipush 48, 2) := by decide +kernel
theorem d4_105 : decode method_7_code 105 = .ok (.isub, 1) := by decide +kernel
theorem d4_106 : decode method_7_code 106 = .ok (.iload_n 2, 1) := by decide +kernel
theorem d4_107 : decode method_7_code 107 = .ok (.iconst 5, 1) := by decide +kernel
theorem d4_108 : decode method_7_code 108 = .ok (.isub, 1) := by decide +kernel
theorem d4_109 : decode method_7_code 109 = .ok (.invokestatic 39, 3) := by decide +kernel
theorem d4_112 : decode method_7_code 112 = .ok (.imul, 1) := by decide +kernel
theorem d4_113 : decode method_7_code 113 = .ok (.iadd, 1) := by decide +kernel
theorem d4_114 : decode method_7_code 114 = .ok (.istore_n 3, 1) := by decide +kernel
theorem d4_115 : decode method_7_code 115 = .ok (.iload_n 3, 1) := by decide +kernel
theorem d4_116 : decode method_7_code 116 = .ok (.ireturn, 1) := by decide +kernel
theorem pn_4 : plainName "com/example/clapboard/clapboard/parse/TextCursorReadNumberPinLaw" = true := by first | (simp [plainName, overriddenIn]; done) | decide +kernel
theorem pd_7 : parseMethodDescriptor "(I)I" = some ⟨[.int], some .int⟩ := by decide +kernel
theorem ef_4 (m : MethodId) (a1 : Addr) (p2 : Int32) (p3 : Int32) : entryFrame m #[(.ref a1), (.int p2), (.int p3)] 4 = mkF m 0 #[.val (.ref a1), .val (.int p2), .val (.int p3), .unset] [] := by first | (simp [entryFrame, mkF, argsToLocals, Value.category]; done) | rfl
def f4_u1 (p2 : Int32) (p3 : Int32) (f_a1 : Int32 → Int32) : Int32 := ((0 : Int32) + (((f_a1 p2) - (48 : Int32)) * (f9 (p3 - (1 : Int32)))))
def f4_u2 (p2 : Int32) (p3 : Int32) (f_a1 : Int32 → Int32) : Int32 := (if p3 < (1 : Int32) then (0 : Int32) else (f4_u1 p2 p3 f_a1))
def f4_u3 (p2 : Int32) (p3 : Int32) (f_a1 : Int32 → Int32) : Int32 := ((f4_u2 p2 p3 f_a1) + (((f_a1 (p2 + (1 : Int32))) - (48 : Int32)) * (f9 (p3 - (2 : Int32)))))
def f4_u4 (p2 : Int32) (p3 : Int32) (f_a1 : Int32 → Int32) : Int32 := (if p3 < (2 : Int32) then (f4_u2 p2 p3 f_a1) else (f4_u3 p2 p3 f_a1))
def f4_u5 (p2 : Int32) (p3 : Int32) (f_a1 : Int32 → Int32) : Int32 := ((f4_u4 p2 p3 f_a1) + (((f_a1 (p2 + (2 : Int32))) - (48 : Int32)) * (f9 (p3 - (3 : Int32)))))
def f4_u6 (p2 : Int32) (p3 : Int32) (f_a1 : Int32 → Int32) : Int32 := (if p3 < (3 : Int32) then (f4_u4 p2 p3 f_a1) else (f4_u5 p2 p3 f_a1))
def f4_u7 (p2 : Int32) (p3 : Int32) (f_a1 : Int32 → Int32) : Int32 := ((f4_u6 p2 p3 f_a1) + (((f_a1 (p2 + (3 : Int32))) - (48 : Int32)) * (f9 (p3 - (4 : Int32)))))
def f4_u8 (p2 : Int32) (p3 : Int32) (f_a1 : Int32 → Int32) : Int32 := (if p3 < (4 : Int32) then (f4_u6 p2 p3 f_a1) else (f4_u7 p2 p3 f_a1))
def f4_u9 (p2 : Int32) (p3 : Int32) (f_a1 : Int32 → Int32) : Int32 := ((f4_u8 p2 p3 f_a1) + (((f_a1 (p2 + (4 : Int32))) - (48 : Int32)) * (f9 (p3 - (5 : Int32)))))
def f4_u10 (p2 : Int32) (p3 : Int32) (f_a1 : Int32 → Int32) : Int32 := (if p3 < (5 : Int32) then (f4_u8 p2 p3 f_a1) else (f4_u9 p2 p3 f_a1))
def f4 (p2 : Int32) (p3 : Int32) (f_a1 : Int32 → Int32) : Int32 := (f4_u10 p2 p3 f_a1)
def Q4 (Z : State) (a1 : Addr) (p2 : Int32) (p3 : Int32) (n_a1 : Int32) (f_a1 : Int32 → Int32) (h0 : Heap) (n0 : Nat) (v : Option Value) (h : Heap) (L : List Loc) : Prop := v = some (.int (f4 p2 p3 f_a1)) ∧ Fr n0 L ∧ h = h0
set_option maxRecDepth 65536 in
set_option maxHeartbeats 40000000 in
theorem rm4 (l : Launch) (Z : State) (a0 : Array Value) (hw : ∀ d ∈ tables_1, d.before a0 Z = true) (ws : List Jvm.Cond) (a1 : Addr) (p2 : Int32) (p3 : Int32) (n_a1 : Int32) (f_a1 : Int32 → Int32) (h0 : Heap) (n0 : Nat) (Z0 : n0 ≤ h0.size) (hs : ¬ p2 < 0) (hb : p2.toInt ≤ 100) (hq : p2.toInt + p3.toInt ≤ n_a1.toInt) (A_a1 : Ia Z h0 a1 .char n_a1 f_a1) :
    MetFree l (⟨"com/example/clapboard/clapboard/parse/TextCursorReadNumberPinLaw", "valueOfRun", "([CII)I"⟩ : MethodName) (head1 (Jvm.Cond.code (⟨"com/example/clapboard/clapboard/parse/TextCursorReadNumberPinLaw", "valueOfRun", "([CII)I"⟩ : MethodName) method_7_code 4 (some .int) :: ws) ({ frames := 1, cells := 0, slots := 0, locals := 14 } : Room)) (fun a U => a = #[(.ref a1), (.int p2), (.int p3)] ∧ Z.Warmed39 U.vm ∧ U.heap = h0) (fun _ _ _ _ _ => True) (fun _ U o U' => ∃ v L, o = .returned v ∧ Q4 Z a1 p2 p3 n_a1 f_a1 h0 n0 v U'.heap L ∧ FrameEnd U o U' L ({ frames := 1, cells := 0, slots := 0, locals := 14 } : Room).cells ({ frames := 1, cells := 0, slots := 0, locals := 14 } : Room).slots) := by
  refine MetFree.of_bodySF (plainFor_of_name pn_4) hisR ?_
  intro p e s m args below meth c s₁ Bd hml0 hP hK
  obtain ⟨rfl, hZ, hh⟩ := hP
  have hx := Bd.exec
  have hby := Bd.bytes
  have hml : c.maxLocals = 4 := hml0
  have hown : s.vm.findClass "com/example/clapboard/clapboard/parse/TextCursorReadNumberPinLaw" = some m.cls := findClass_of_methodNamed Bd.named
  have hnm := (name_of_methodNamed Bd.named Bd.method).1
  have X0 : Stand p l e ({ frames := 1, cells := 0, slots := 0, locals := 14 } : Room) s m #[(.ref a1), (.int p2), (.int p3)] below meth c s₁ [] 0 0 := Stand.of_body Bd
  have e0 : s₁.heap = h0 := by rw [← hh, Bd.state]; rfl
  have N0 := Fr.nil n0
  have pre0 : ∀ t, Steps p.tables e below (s₁.setTop (mkF m 0 #[.val (.ref a1), .val (.int p2), .val (.int p3), .unset] [])) t → Steps p.tables e below (s₁.setTop (entryFrame m #[(.ref a1), (.int p2), (.int p3)] 4)) t := fun t k => castTop (ef_4 m a1 p2 p3) k
  have K1 : ∀ t, Steps p.tables e below (s₁.setTop (mkF m 4 #[.val (.ref a1), .val (.int p2), .val (.int p3), .val (.int (0 : Int32))] [(.int (1 : Int32)), (.int p3)])) t → Steps p.tables e below (s₁.setTop (mkF m 0 #[.val (.ref a1), .val (.int p2), .val (.int p3), .unset] [])) t := by
    intro t k
    refine XS.iconst X0.here hx rfl (Jvm.hb hby d4_0) ?_
    show Steps p.tables e below (s₁.setTop (mkF m 1 #[.val (.ref a1), .val (.int p2), .val (.int p3), .unset] [(.int (0 : Int32))])) t
    refine XS.istoreN X0.here hx rfl (Jvm.hb hby d4_1) rfl (l' := #[.val (.ref a1), .val (.int p2), .val (.int p3), .val (.int (0 : Int32))]) rfl ?_
    show Steps p.tables e below (s₁.setTop (mkF m 2 #[.val (.ref a1), .val (.int p2), .val (.int p3), .val (.int (0 : Int32))] [])) t
    refine XS.iloadN X0.here hx rfl (Jvm.hb hby d4_2) rfl ?_
    show Steps p.tables e below (s₁.setTop (mkF m 3 #[.val (.ref a1), .val (.int p2), .val (.int p3), .val (.int (0 : Int32))] [(.int p3)])) t
    refine XS.iconst X0.here hx rfl (Jvm.hb hby d4_3) ?_
    show Steps p.tables e below (s₁.setTop (mkF m 4 #[.val (.ref a1), .val (.int p2), .val (.int p3), .val (.int (0 : Int32))] [(.int (1 : Int32)), (.int p3)])) t
    exact k
  obtain ⟨Tm2, Lm2, Xm2, em2, Nm2, Km2⟩ : ∃ (T' : State) (L' : List Loc), Stand p l e ({ frames := 1, cells := 0, slots := 0, locals := 14 } : Room) s m #[(.ref a1), (.int p2), (.int p3)] below meth c T' L' 0 0 ∧ T'.heap = h0 ∧ Fr n0 L' ∧ ∀ t, Steps p.tables e below (T'.setTop (mkF m 23 #[.val (.ref a1), .val (.int p2), .val (.int p3), .val (.int (f4_u2 p2 p3 f_a1))] [])) t → Steps p.tables e below (s₁.setTop (mkF m 4 #[.val (.ref a1), .val (.int p2), .val (.int p3), .val (.int (0 : Int32))] [(.int (1 : Int32)), (.int p3)])) t := by
    by_cases hc2 : p3 < (1 : Int32)
    · have K3 : ∀ t, Steps p.tables e below (s₁.setTop (mkF m 23 #[.val (.ref a1), .val (.int p2), .val (.int p3), .val (.int (0 : Int32))] [])) t → Steps p.tables e below (s₁.setTop (mkF m 4 #[.val (.ref a1), .val (.int p2), .val (.int p3), .val (.int (0 : Int32))] [(.int (1 : Int32)), (.int p3)])) t := by
        intro t k
        refine XS.icmpYes X0.here hx rfl (pc0 := 4) (pc' := 23) rfl (Jvm.hb hby d4_4) rfl (tlt hc2).1 (by decide) (by decide) ?_
        exact k
      refine ⟨s₁, _, X0, e0, N0, fun t k => ?_⟩
      rw [show (f4_u2 p2 p3 f_a1) = (0 : Int32) from if_pos hc2] at k
      exact K3 _ (k)
    · have K4 : ∀ t, Steps p.tables e below (s₁.setTop (mkF m 7 #[.val (.ref a1), .val (.int p2), .val (.int p3), .val (.int (0 : Int32))] [])) t → Steps p.tables e below (s₁.setTop (mkF m 4 #[.val (.ref a1), .val (.int p2), .val (.int p3), .val (.int (0 : Int32))] [(.int (1 : Int32)), (.int p3)])) t := by
        intro t k
        refine XS.icmpNo X0.here hx rfl (Jvm.hb hby d4_4) rfl (flt hc2).1 ?_
        exact k
      have K9 : ∀ t, Steps p.tables e below (s₁.setTop (mkF m 10 #[.val (.ref a1), .val (.int p2), .val (.int p3), .val (.int (0 : Int32))] [(.int p2), (.ref a1), (.int (0 : Int32))])) t → Steps p.tables e below (s₁.setTop (mkF m 7 #[.val (.ref a1), .val (.int p2), .val (.int p3), .val (.int (0 : Int32))] [])) t := by
        intro t k
        refine XS.iloadN X0.here hx rfl (Jvm.hb hby d4_7) rfl ?_
        show Steps p.tables e below (s₁.setTop (mkF m 8 #[.val (.ref a1), .val (.int p2), .val (.int p3), .val (.int (0 : Int32))] [(.int (0 : Int32))])) t
        refine XS.aloadN X0.here hx rfl (Jvm.hb hby d4_8) rfl rfl ?_
        show Steps p.tables e below (s₁.setTop (mkF m 9 #[.val (.ref a1), .val (.int p2), .val (.int p3), .val (.int (0 : Int32))] [(.ref a1), (.int (0 : Int32))])) t
        refine XS.iloadN X0.here hx rfl (Jvm.hb hby d4_9) rfl ?_
        show Steps p.tables e below (s₁.setTop (mkF m 10 #[.val (.ref a1), .val (.int p2), .val (.int p3), .val (.int (0 : Int32))] [(.int p2), (.ref a1), (.int (0 : Int32))])) t
        exact k
      have hin5 : ¬ p2 < 0 ∧ p2 < n_a1 := by exact own_v0 _ _ _ hs hq (by assumption)
      obtain ⟨cl6, Aq7, hjhin5, aq8⟩ := Ia.at A_a1 hin5
      have K10 : ∀ t, Steps p.tables e below (s₁.setTop (mkF m 17 #[.val (.ref a1), .val (.int p2), .val (.int p3), .val (.int (0 : Int32))] [(.int (p3 - (1 : Int32))), (.int ((f_a1 p2) - (48 : Int32))), (.int (0 : Int32))])) t → Steps p.tables e below (s₁.setTop (mkF m 10 #[.val (.ref a1), .val (.int p2), .val (.int p3), .val (.int (0 : Int32))] [(.int p2), (.ref a1), (.int (0 : Int32))])) t := by
        intro t k
        refine X0.caload hx (j := p2) (v := .int (f_a1 p2)) (by rw [e0]; exact Aq7.1) (State.isArrayOf_alike hZ.alike Aq7.2.1) Aq7.2.2 hjhin5 aq8 (g := (mkF m 10 #[.val (.ref a1), .val (.int p2), .val (.int p3), .val (.int (0 : Int32))] [(.int p2), (.ref a1), (.int (0 : Int32))])) rfl rfl (Jvm.hb hby d4_10) _ ?_
        show Steps p.tables e below (s₁.setTop (mkF m 11 #[.val (.ref a1), .val (.int p2), .val (.int p3), .val (.int (0 : Int32))] [(.int (f_a1 p2)), (.int (0 : Int32))])) t
        refine XS.bipush X0.here hx rfl (Jvm.hb hby d4_11) ?_
        show Steps p.tables e below (s₁.setTop (mkF m 13 #[.val (.ref a1), .val (.int p2), .val (.int p3), .val (.int (0 : Int32))] [(.int (48 : Int32)), (.int (f_a1 p2)), (.int (0 : Int32))])) t
        refine XS.isub X0.here hx rfl (Jvm.hb hby d4_13) rfl ?_
        show Steps p.tables e below (s₁.setTop (mkF m 14 #[.val (.ref a1), .val (.int p2), .val (.int p3), .val (.int (0 : Int32))] [(.int ((f_a1 p2) - (48 : Int32))), (.int (0 : Int32))])) t
        refine XS.iloadN X0.here hx rfl (Jvm.hb hby d4_14) rfl ?_
        show Steps p.tables e below (s₁.setTop (mkF m 15 #[.val (.ref a1), .val (.int p2), .val (.int p3), .val (.int (0 : Int32))] [(.int p3), (.int ((f_a1 p2) - (48 : Int32))), (.int (0 : Int32))])) t
        refine XS.iconst X0.here hx rfl (Jvm.hb hby d4_15) ?_
        show Steps p.tables e below (s₁.setTop (mkF m 16 #[.val (.ref a1), .val (.int p2), .val (.int p3), .val (.int (0 : Int32))] [(.int (1 : Int32)), (.int p3), (.int ((f_a1 p2) - (48 : Int32))), (.int (0 : Int32))])) t
        refine XS.isub X0.here hx rfl (Jvm.hb hby d4_16) rfl ?_
        show Steps p.tables e below (s₁.setTop (mkF m 17 #[.val (.ref a1), .val (.int p2), .val (.int p3), .val (.int (0 : Int32))] [(.int (p3 - (1 : Int32))), (.int ((f_a1 p2) - (48 : Int32))), (.int (0 : Int32))])) t
        exact k
      obtain ⟨_, _, ⟨T11, L11, k11, n11⟩, -, X11, ⟨Lc11, hQ11, l11, y11, z11⟩, st11⟩ := Jvm.LawKit.callS X0 hx (y := (⟨"com/example/clapboard/clapboard/parse/TextCursorReadNumberPinLaw", "pow10", "(I)I"⟩ : MethodName)) hown (mvT hZ (hw _ (List.mem_of_getElem? (i := 40) rfl))) (mvT hZ (hw _ (List.mem_of_getElem? (i := 41) rfl))) (mvT hZ (hw _ (List.mem_of_getElem? (i := 3) rfl))) (mvT hZ (hw _ (List.mem_of_getElem? (i := 42) rfl))) (by decide) (backOf (W := 2) (rm9 l Z a0 hw [] (p3 - (1 : Int32)) h0 n0 Z0 ) hZ (hw _ (List.mem_of_getElem? (i := 42) rfl)) (hw _ (List.mem_of_getElem? (i := 3) rfl)) (by decide) (by decide)) (g := (mkF m 17 #[.val (.ref a1), .val (.int p2), .val (.int p3), .val (.int (0 : Int32))] [(.int (p3 - (1 : Int32))), (.int ((f_a1 p2) - (48 : Int32))), (.int (0 : Int32))])) rfl (by rw [hml]; rfl) (argsL := [(.int (p3 - (1 : Int32)))]) (rest := [(.int ((f_a1 p2) - (48 : Int32))), (.int (0 : Int32))]) (lenOf pd_7 rfl) rfl (by show 2 * 0 + _ ≤ _; exact Nat.le_of_eq rfl) (Jvm.hb hby d4_17) (fun _ _ => ⟨rfl, e0, (by decide : 0 + 0 ≤ _), (by decide : 0 + 0 ≤ _)⟩)
      dsimp only [Pt.U, Pt.locs, Pt.cells, Pt.slots] at X11 l11 y11 z11 st11 hQ11
      subst l11 y11 z11
      obtain ⟨rfl, N11q, e11⟩ := hQ11
      have N11 := Fr.app N0 N11q
      have K12 : ∀ t, Steps p.tables e below (T11.setTop (mkF m 20 #[.val (.ref a1), .val (.int p2), .val (.int p3), .val (.int (0 : Int32))] [(.int (f9 (p3 - (1 : Int32)))), (.int ((f_a1 p2) - (48 : Int32))), (.int (0 : Int32))])) t → Steps p.tables e below (s₁.setTop (mkF m 17 #[.val (.ref a1), .val (.int p2), .val (.int p3), .val (.int (0 : Int32))] [(.int (p3 - (1 : Int32))), (.int ((f_a1 p2) - (48 : Int32))), (.int (0 : Int32))])) t := fun t k => st11 _ k
      have K13 : ∀ t, Steps p.tables e below (T11.setTop (mkF m 23 #[.val (.ref a1), .val (.int p2), .val (.int p3), .val (.int (f4_u1 p2 p3 f_a1))] [])) t → Steps p.tables e below (T11.setTop (mkF m 20 #[.val (.ref a1), .val (.int p2), .val (.int p3), .val (.int (0 : Int32))] [(.int (f9 (p3 - (1 : Int32)))), (.int ((f_a1 p2) - (48 : Int32))), (.int (0 : Int32))])) t := by
        intro t k
        refine XS.imul X11.here hx rfl (Jvm.hb hby d4_20) rfl ?_
        show Steps p.tables e below (T11.setTop (mkF m 21 #[.val (.ref a1), .val (.int p2), .val (.int p3), .val (.int (0 : Int32))] [(.int (((f_a1 p2) - (48 : Int32)) * (f9 (p3 - (1 : Int32))))), (.int (0 : Int32))])) t
        refine XS.iadd X11.here hx rfl (Jvm.hb hby d4_21) rfl ?_
        show Steps p.tables e below (T11.setTop (mkF m 22 #[.val (.ref a1), .val (.int p2), .val (.int p3), .val (.int (0 : Int32))] [(.int ((0 : Int32) + (((f_a1 p2) - (48 : Int32)) * (f9 (p3 - (1 : Int32))))))])) t
        refine XS.istoreN X11.here hx rfl (Jvm.hb hby d4_22) rfl (l' := #[.val (.ref a1), .val (.int p2), .val (.int p3), .val (.int (f4_u1 p2 p3 f_a1))]) rfl ?_
        show Steps p.tables e below (T11.setTop (mkF m 23 #[.val (.ref a1), .val (.int p2), .val (.int p3), .val (.int (f4_u1 p2 p3 f_a1))] [])) t
        exact k
      refine ⟨T11, _, X11, e11, N11, fun t k => ?_⟩
      rw [show (f4_u2 p2 p3 f_a1) = (f4_u1 p2 p3 f_a1) from if_neg hc2] at k
      exact K4 _ (K9 _ (K10 _ (K12 _ (K13 _ (k)))))
  have K14 : ∀ t, Steps p.tables e below (Tm2.setTop (mkF m 25 #[.val (.ref a1), .val (.int p2), .val (.int p3), .val (.int (f4_u2 p2 p3 f_a1))] [(.int (2 : Int32)), (.int p3)])) t → Steps p.tables e below (Tm2.setTop (mkF m 23 #[.val (.ref a1), .val (.int p2), .val (.int p3), .val (.int (f4_u2 p2 p3 f_a1))] [])) t := by
    intro t k
    refine XS.iloadN Xm2.here hx rfl (Jvm.hb hby d4_23) rfl ?_
    show Steps p.tables e below (Tm2.setTop (mkF m 24 #[.val (.ref a1), .val (.int p2), .val (.int p3), .val (.int (f4_u2 p2 p3 f_a1))] [(.int p3)])) t
    refine XS.iconst Xm2.here hx rfl (Jvm.hb hby d4_24) ?_
    show Steps p.tables e below (Tm2.setTop (mkF m 25 #[.val (.ref a1), .val (.int p2), .val (.int p3), .val (.int (f4_u2 p2 p3 f_a1))] [(.int (2 : Int32)), (.int p3)])) t
    exact k
  obtain ⟨Tm15, Lm15, Xm15, em15, Nm15, Km15⟩ : ∃ (T' : State) (L' : List Loc), Stand p l e ({ frames := 1, cells := 0, slots := 0, locals := 14 } : Room) s m #[(.ref a1), (.int p2), (.int p3)] below meth c T' L' 0 0 ∧ T'.heap = h0 ∧ Fr n0 L' ∧ ∀ t, Steps p.tables e below (T'.setTop (mkF m 46 #[.val (.ref a1), .val (.int p2), .val (.int p3), .val (.int (f4_u4 p2 p3 f_a1))] [])) t → Steps p.tables e below (Tm2.setTop (mkF m 25 #[.val (.ref a1), .val (.int p2), .val (.int p3), .val (.int (f4_u2 p2 p3 f_a1))] [(.int (2 : Int32)), (.int p3)])) t := by
    by_cases hc15 : p3 < (2 : Int32)
    · have K16 : ∀ t, Steps p.tables e below (Tm2.setTop (mkF m 46 #[.val (.ref a1), .val (.int p2), .val (.int p3), .val (.int (f4_u2 p2 p3 f_a1))] [])) t → Steps p.tables e below (Tm2.setTop (mkF m 25 #[.val (.ref a1), .val (.int p2), .val (.int p3), .val (.int (f4_u2 p2 p3 f_a1))] [(.int (2 : Int32)), (.int p3)])) t := by
        intro t k
        refine XS.icmpYes Xm2.here hx rfl (pc0 := 25) (pc' := 46) rfl (Jvm.hb hby d4_25) rfl (tlt hc15).1 (by decide) (by decide) ?_
        exact k
      refine ⟨Tm2, _, Xm2, em2, Nm2, fun t k => ?_⟩
      rw [show (f4_u4 p2 p3 f_a1) = (f4_u2 p2 p3 f_a1) from if_pos hc15] at k
      exact K16 _ (k)
    · have K17 : ∀ t, Steps p.tables e below (Tm2.setTop (mkF m 28 #[.val (.ref a1), .val (.int p2), .val (.int p3), .val (.int (f4_u2 p2 p3 f_a1))] [])) t → Steps p.tables e below (Tm2.setTop (mkF m 25 #[.val (.ref a1), .val (.int p2), .val (.int p3), .val (.int (f4_u2 p2 p3 f_a1))] [(.int (2 : Int32)), (.int p3)])) t := by
        intro t k
        refine XS.icmpNo Xm2.here hx rfl (Jvm.hb hby d4_25) rfl (flt hc15).1 ?_
        exact k
      have K22 : ∀ t, Steps p.tables e below (Tm2.setTop (mkF m 33 #[.val (.ref a1), .val (.int p2), .val (.int p3), .val (.int (f4_u2 p2 p3 f_a1))] [(.int (p2 + (1 : Int32))), (.ref a1), (.int (f4_u2 p2 p3 f_a1))])) t → Steps p.tables e below (Tm2.setTop (mkF m 28 #[.val (.ref a1), .val (.int p2), .val (.int p3), .val (.int (f4_u2 p2 p3 f_a1))] [])) t := by
        intro t k
        refine XS.iloadN Xm2.here hx rfl (Jvm.hb hby d4_28) rfl ?_
        show Steps p.tables e below (Tm2.setTop (mkF m 29 #[.val (.ref a1), .val (.int p2), .val (.int p3), .val (.int (f4_u2 p2 p3 f_a1))] [(.int (f4_u2 p2 p3 f_a1))])) t
        refine XS.aloadN Xm2.here hx rfl (Jvm.hb hby d4_29) rfl rfl ?_
        show Steps p.tables e below (Tm2.setTop (mkF m 30 #[.val (.ref a1), .val (.int p2), .val (.int p3), .val (.int (f4_u2 p2 p3 f_a1))] [(.ref a1), (.int (f4_u2 p2 p3 f_a1))])) t
        refine XS.iloadN Xm2.here hx rfl (Jvm.hb hby d4_30) rfl ?_
        show Steps p.tables e below (Tm2.setTop (mkF m 31 #[.val (.ref a1), .val (.int p2), .val (.int p3), .val (.int (f4_u2 p2 p3 f_a1))] [(.int p2), (.ref a1), (.int (f4_u2 p2 p3 f_a1))])) t
        refine XS.iconst Xm2.here hx rfl (Jvm.hb hby d4_31) ?_
        show Steps p.tables e below (Tm2.setTop (mkF m 32 #[.val (.ref a1), .val (.int p2), .val (.int p3), .val (.int (f4_u2 p2 p3 f_a1))] [(.int (1 : Int32)), (.int p2), (.ref a1), (.int (f4_u2 p2 p3 f_a1))])) t
        refine XS.iadd Xm2.here hx rfl (Jvm.hb hby d4_32) rfl ?_
        show Steps p.tables e below (Tm2.setTop (mkF m 33 #[.val (.ref a1), .val (.int p2), .val (.int p3), .val (.int (f4_u2 p2 p3 f_a1))] [(.int (p2 + (1 : Int32))), (.ref a1), (.int (f4_u2 p2 p3 f_a1))])) t
        exact k
      have hin18 : ¬ (p2 + (1 : Int32)) < 0 ∧ (p2 + (1 : Int32)) < n_a1 := by exact own_vj _ _ _ 1 2 hs hb hq (by decide) (by assumption)
      obtain ⟨cl19, Aq20, hjhin18, aq21⟩ := Ia.at A_a1 hin18
      have K23 : ∀ t, Steps p.tables e below (Tm2.setTop (mkF m 40 #[.val (.ref a1), .val (.int p2), .val (.int p3), .val (.int (f4_u2 p2 p3 f_a1))] [(.int (p3 - (2 : Int32))), (.int ((f_a1 (p2 + (1 : Int32))) - (48 : Int32))), (.int (f4_u2 p2 p3 f_a1))])) t → Steps p.tables e below (Tm2.setTop (mkF m 33 #[.val (.ref a1), .val (.int p2), .val (.int p3), .val (.int (f4_u2 p2 p3 f_a1))] [(.int (p2 + (1 : Int32))), (.ref a1), (.int (f4_u2 p2 p3 f_a1))])) t := by
        intro t k
        refine Xm2.caload hx (j := (p2 + (1 : Int32))) (v := .int (f_a1 (p2 + (1 : Int32)))) (by rw [em2]; exact Aq20.1) (State.isArrayOf_alike hZ.alike Aq20.2.1) Aq20.2.2 hjhin18 aq21 (g := (mkF m 33 #[.val (.ref a1), .val (.int p2), .val (.int p3), .val (.int (f4_u2 p2 p3 f_a1))] [(.int (p2 + (1 : Int32))), (.ref a1), (.int (f4_u2 p2 p3 f_a1))])) rfl rfl (Jvm.hb hby d4_33) _ ?_
        show Steps p.tables e below (Tm2.setTop (mkF m 34 #[.val (.ref a1), .val (.int p2), .val (.int p3), .val (.int (f4_u2 p2 p3 f_a1))] [(.int (f_a1 (p2 + (1 : Int32)))), (.int (f4_u2 p2 p3 f_a1))])) t
        refine XS.bipush Xm2.here hx rfl (Jvm.hb hby d4_34) ?_
        show Steps p.tables e below (Tm2.setTop (mkF m 36 #[.val (.ref a1), .val (.int p2), .val (.int p3), .val (.int (f4_u2 p2 p3 f_a1))] [(.int (48 : Int32)), (.int (f_a1 (p2 + (1 : Int32)))), (.int (f4_u2 p2 p3 f_a1))])) t
        refine XS.isub Xm2.here hx rfl (Jvm.hb hby d4_36) rfl ?_
        show Steps p.tables e below (Tm2.setTop (mkF m 37 #[.val (.ref a1), .val (.int p2), .val (.int p3), .val (.int (f4_u2 p2 p3 f_a1))] [(.int ((f_a1 (p2 + (1 : Int32))) - (48 : Int32))), (.int (f4_u2 p2 p3 f_a1))])) t
        refine XS.iloadN Xm2.here hx rfl (Jvm.hb hby d4_37) rfl ?_
        show Steps p.tables e below (Tm2.setTop (mkF m 38 #[.val (.ref a1), .val (.int p2), .val (.int p3), .val (.int (f4_u2 p2 p3 f_a1))] [(.int p3), (.int ((f_a1 (p2 + (1 : Int32))) - (48 : Int32))), (.int (f4_u2 p2 p3 f_a1))])) t
        refine XS.iconst Xm2.here hx rfl (Jvm.hb hby d4_38) ?_
        show Steps p.tables e below (Tm2.setTop (mkF m 39 #[.val (.ref a1), .val (.int p2), .val (.int p3), .val (.int (f4_u2 p2 p3 f_a1))] [(.int (2 : Int32)), (.int p3), (.int ((f_a1 (p2 + (1 : Int32))) - (48 : Int32))), (.int (f4_u2 p2 p3 f_a1))])) t
        refine XS.isub Xm2.here hx rfl (Jvm.hb hby d4_39) rfl ?_
        show Steps p.tables e below (Tm2.setTop (mkF m 40 #[.val (.ref a1), .val (.int p2), .val (.int p3), .val (.int (f4_u2 p2 p3 f_a1))] [(.int (p3 - (2 : Int32))), (.int ((f_a1 (p2 + (1 : Int32))) - (48 : Int32))), (.int (f4_u2 p2 p3 f_a1))])) t
        exact k
      obtain ⟨_, _, ⟨T24, L24, k24, n24⟩, -, X24, ⟨Lc24, hQ24, l24, y24, z24⟩, st24⟩ := Jvm.LawKit.callS Xm2 hx (y := (⟨"com/example/clapboard/clapboard/parse/TextCursorReadNumberPinLaw", "pow10", "(I)I"⟩ : MethodName)) hown (mvT hZ (hw _ (List.mem_of_getElem? (i := 40) rfl))) (mvT hZ (hw _ (List.mem_of_getElem? (i := 41) rfl))) (mvT hZ (hw _ (List.mem_of_getElem? (i := 3) rfl))) (mvT hZ (hw _ (List.mem_of_getElem? (i := 42) rfl))) (by decide) (backOf (W := 2) (rm9 l Z a0 hw [] (p3 - (2 : Int32)) h0 n0 Z0 ) hZ (hw _ (List.mem_of_getElem? (i := 42) rfl)) (hw _ (List.mem_of_getElem? (i := 3) rfl)) (by decide) (by decide)) (g := (mkF m 40 #[.val (.ref a1), .val (.int p2), .val (.int p3), .val (.int (f4_u2 p2 p3 f_a1))] [(.int (p3 - (2 : Int32))), (.int ((f_a1 (p2 + (1 : Int32))) - (48 : Int32))), (.int (f4_u2 p2 p3 f_a1))])) rfl (by rw [hml]; rfl) (argsL := [(.int (p3 - (2 : Int32)))]) (rest := [(.int ((f_a1 (p2 + (1 : Int32))) - (48 : Int32))), (.int (f4_u2 p2 p3 f_a1))]) (lenOf pd_7 rfl) rfl (by show 2 * 0 + _ ≤ _; exact Nat.le_of_eq rfl) (Jvm.hb hby d4_40) (fun _ _ => ⟨rfl, em2, (by decide : 0 + 0 ≤ _), (by decide : 0 + 0 ≤ _)⟩)
      dsimp only [Pt.U, Pt.locs, Pt.cells, Pt.slots] at X24 l24 y24 z24 st24 hQ24
      subst l24 y24 z24
      obtain ⟨rfl, N24q, e24⟩ := hQ24
      have N24 := Fr.app Nm2 N24q
      have K25 : ∀ t, Steps p.tables e below (T24.setTop (mkF m 43 #[.val (.ref a1), .val (.int p2), .val (.int p3), .val (.int (f4_u2 p2 p3 f_a1))] [(.int (f9 (p3 - (2 : Int32)))), (.int ((f_a1 (p2 + (1 : Int32))) - (48 : Int32))), (.int (f4_u2 p2 p3 f_a1))])) t → Steps p.tables e below (Tm2.setTop (mkF m 40 #[.val (.ref a1), .val (.int p2), .val (.int p3), .val (.int (f4_u2 p2 p3 f_a1))] [(.int (p3 - (2 : Int32))), (.int ((f_a1 (p2 + (1 : Int32))) - (48 : Int32))), (.int (f4_u2 p2 p3 f_a1))])) t := fun t k => st24 _ k
      have K26 : ∀ t, Steps p.tables e below (T24.setTop (mkF m 46 #[.val (.ref a1), .val (.int p2), .val (.int p3), .val (.int (f4_u3 p2 p3 f_a1))] [])) t → Steps p.tables e below (T24.setTop (mkF m 43 #[.val (.ref a1), .val (.int p2), .val (.int p3), .val (.int (f4_u2 p2 p3 f_a1))] [(.int (f9 (p3 - (2 : Int32)))), (.int ((f_a1 (p2 + (1 : Int32))) - (48 : Int32))), (.int (f4_u2 p2 p3 f_a1))])) t := by
        intro t k
        refine XS.imul X24.here hx rfl (Jvm.hb hby d4_43) rfl ?_
        show Steps p.tables e below (T24.setTop (mkF m 44 #[.val (.ref a1), .val (.int p2), .val (.int p3), .val (.int (f4_u2 p2 p3 f_a1))] [(.int (((f_a1 (p2 + (1 : Int32))) - (48 : Int32)) * (f9 (p3 - (2 : Int32))))), (.int (f4_u2 p2 p3 f_a1))])) t
        refine XS.iadd X24.here hx rfl (Jvm.hb hby d4_44) rfl ?_
        show Steps p.tables e below (T24.setTop (mkF m 45 #[.val (.ref a1), .val (.int p2), .val (.int p3), .val (.int (f4_u2 p2 p3 f_a1))] [(.int ((f4_u2 p2 p3 f_a1) + (((f_a1 (p2 + (1 : Int32))) - (48 : Int32)) * (f9 (p3 - (2 : Int32))))))])) t
        refine XS.istoreN X24.here hx rfl (Jvm.hb hby d4_45) rfl (l' := #[.val (.ref a1), .val (.int p2), .val (.int p3), .val (.int (f4_u3 p2 p3 f_a1))]) rfl ?_
        show Steps p.tables e below (T24.setTop (mkF m 46 #[.val (.ref a1), .val (.int p2), .val (.int p3), .val (.int (f4_u3 p2 p3 f_a1))] [])) t
        exact k
      refine ⟨T24, _, X24, e24, N24, fun t k => ?_⟩
      rw [show (f4_u4 p2 p3 f_a1) = (f4_u3 p2 p3 f_a1) from if_neg hc15] at k
      exact K17 _ (K22 _ (K23 _ (K25 _ (K26 _ (k)))))
  have K27 : ∀ t, Steps p.tables e below (Tm15.setTop (mkF m 48 #[.val (.ref a1), .val (.int p2), .val (.int p3), .val (.int (f4_u4 p2 p3 f_a1))] [(.int (3 : Int32)), (.int p3)])) t → Steps p.tables e below (Tm15.setTop (mkF m 46 #[.val (.ref a1), .val (.int p2), .val (.int p3), .val (.int (f4_u4 p2 p3 f_a1))] [])) t := by
    intro t k
    refine XS.iloadN Xm15.here hx rfl (Jvm.hb hby d4_46) rfl ?_
    show Steps p.tables e below (Tm15.setTop (mkF m 47 #[.val (.ref a1), .val (.int p2), .val (.int p3), .val (.int (f4_u4 p2 p3 f_a1))] [(.int p3)])) t
    refine XS.iconst Xm15.here hx rfl (Jvm.hb hby d4_47) ?_
    show Steps p.tables e below (Tm15.setTop (mkF m 48 #[.val (.ref a1), .val (.int p2), .val (.int p3), .val (.int (f4_u4 p2 p3 f_a1))] [(.int (3 : Int32)), (.int p3)])) t
    exact k
  obtain ⟨Tm28, Lm28, Xm28, em28, Nm28, Km28⟩ : ∃ (T' : State) (L' : List Loc), Stand p l e ({ frames := 1, cells := 0, slots := 0, locals := 14 } : Room) s m #[(.ref a1), (.int p2), (.int p3)] below meth c T' L' 0 0 ∧ T'.heap = h0 ∧ Fr n0 L' ∧ ∀ t, Steps p.tables e below (T'.setTop (mkF m 69 #[.val (.ref a1), .val (.int p2), .val (.int p3), .val (.int (f4_u6 p2 p3 f_a1))] [])) t → Steps p.tables e below (Tm15.setTop (mkF m 48 #[.val (.ref a1), .val (.int p2), .val (.int p3), .val (.int (f4_u4 p2 p3 f_a1))] [(.int (3 : Int32)), (.int p3)])) t := by
    by_cases hc28 : p3 < (3 : Int32)
    · have K29 : ∀ t, Steps p.tables e below (Tm15.setTop (mkF m 69 #[.val (.ref a1), .val (.int p2), .val (.int p3), .val (.int (f4_u4 p2 p3 f_a1))] [])) t → Steps p.tables e below (Tm15.setTop (mkF m 48 #[.val (.ref a1), .val (.int p2), .val (.int p3), .val (.int (f4_u4 p2 p3 f_a1))] [(.int (3 : Int32)), (.int p3)])) t := by
        intro t k
        refine XS.icmpYes Xm15.here hx rfl (pc0 := 48) (pc' := 69) rfl (Jvm.hb hby d4_48) rfl (tlt hc28).1 (by decide) (by decide) ?_
        exact k
      refine ⟨Tm15, _, Xm15, em15, Nm15, fun t k => ?_⟩
      rw [show (f4_u6 p2 p3 f_a1) = (f4_u4 p2 p3 f_a1) from if_pos hc28] at k
      exact K29 _ (k)
    · have K30 : ∀ t, Steps p.tables e below (Tm15.setTop (mkF m 51 #[.val (.ref a1), .val (.int p2), .val (.int p3), .val (.int (f4_u4 p2 p3 f_a1))] [])) t → Steps p.tables e below (Tm15.setTop (mkF m 48 #[.val (.ref a1), .val (.int p2), .val (.int p3), .val (.int (f4_u4 p2 p3 f_a1))] [(.int (3 : Int32)), (.int p3)])) t := by
        intro t k
        refine XS.icmpNo Xm15.here hx rfl (Jvm.hb hby d4_48) rfl (flt hc28).1 ?_
        exact k
      have K35 : ∀ t, Steps p.tables e below (Tm15.setTop (mkF m 56 #[.val (.ref a1), .val (.int p2), .val (.int p3), .val (.int (f4_u4 p2 p3 f_a1))] [(.int (p2 + (2 : Int32))), (.ref a1), (.int (f4_u4 p2 p3 f_a1))])) t → Steps p.tables e below (Tm15.setTop (mkF m 51 #[.val (.ref a1), .val (.int p2), .val (.int p3), .val (.int (f4_u4 p2 p3 f_a1))] [])) t := by
        intro t k
        refine XS.iloadN Xm15.here hx rfl (Jvm.hb hby d4_51) rfl ?_
        show Steps p.tables e below (Tm15.setTop (mkF m 52 #[.val (.ref a1), .val (.int p2), .val (.int p3), .val (.int (f4_u4 p2 p3 f_a1))] [(.int (f4_u4 p2 p3 f_a1))])) t
        refine XS.aloadN Xm15.here hx rfl (Jvm.hb hby d4_52) rfl rfl ?_
        show Steps p.tables e below (Tm15.setTop (mkF m 53 #[.val (.ref a1), .val (.int p2), .val (.int p3), .val (.int (f4_u4 p2 p3 f_a1))] [(.ref a1), (.int (f4_u4 p2 p3 f_a1))])) t
        refine XS.iloadN Xm15.here hx rfl (Jvm.hb hby d4_53) rfl ?_
        show Steps p.tables e below (Tm15.setTop (mkF m 54 #[.val (.ref a1), .val (.int p2), .val (.int p3), .val (.int (f4_u4 p2 p3 f_a1))] [(.int p2), (.ref a1), (.int (f4_u4 p2 p3 f_a1))])) t
        refine XS.iconst Xm15.here hx rfl (Jvm.hb hby d4_54) ?_
        show Steps p.tables e below (Tm15.setTop (mkF m 55 #[.val (.ref a1), .val (.int p2), .val (.int p3), .val (.int (f4_u4 p2 p3 f_a1))] [(.int (2 : Int32)), (.int p2), (.ref a1), (.int (f4_u4 p2 p3 f_a1))])) t
        refine XS.iadd Xm15.here hx rfl (Jvm.hb hby d4_55) rfl ?_
        show Steps p.tables e below (Tm15.setTop (mkF m 56 #[.val (.ref a1), .val (.int p2), .val (.int p3), .val (.int (f4_u4 p2 p3 f_a1))] [(.int (p2 + (2 : Int32))), (.ref a1), (.int (f4_u4 p2 p3 f_a1))])) t
        exact k
      have hin31 : ¬ (p2 + (2 : Int32)) < 0 ∧ (p2 + (2 : Int32)) < n_a1 := by exact own_vj _ _ _ 2 3 hs hb hq (by decide) (by assumption)
      obtain ⟨cl32, Aq33, hjhin31, aq34⟩ := Ia.at A_a1 hin31
      have K36 : ∀ t, Steps p.tables e below (Tm15.setTop (mkF m 63 #[.val (.ref a1), .val (.int p2), .val (.int p3), .val (.int (f4_u4 p2 p3 f_a1))] [(.int (p3 - (3 : Int32))), (.int ((f_a1 (p2 + (2 : Int32))) - (48 : Int32))), (.int (f4_u4 p2 p3 f_a1))])) t → Steps p.tables e below (Tm15.setTop (mkF m 56 #[.val (.ref a1), .val (.int p2), .val (.int p3), .val (.int (f4_u4 p2 p3 f_a1))] [(.int (p2 + (2 : Int32))), (.ref a1), (.int (f4_u4 p2 p3 f_a1))])) t := by
        intro t k
        refine Xm15.caload hx (j := (p2 + (2 : Int32))) (v := .int (f_a1 (p2 + (2 : Int32)))) (by rw [em15]; exact Aq33.1) (State.isArrayOf_alike hZ.alike Aq33.2.1) Aq33.2.2 hjhin31 aq34 (g := (mkF m 56 #[.val (.ref a1), .val (.int p2), .val (.int p3), .val (.int (f4_u4 p2 p3 f_a1))] [(.int (p2 + (2 : Int32))), (.ref a1), (.int (f4_u4 p2 p3 f_a1))])) rfl rfl (Jvm.hb hby d4_56) _ ?_
        show Steps p.tables e below (Tm15.setTop (mkF m 57 #[.val (.ref a1), .val (.int p2), .val (.int p3), .val (.int (f4_u4 p2 p3 f_a1))] [(.int (f_a1 (p2 + (2 : Int32)))), (.int (f4_u4 p2 p3 f_a1))])) t
        refine XS.bipush Xm15.here hx rfl (Jvm.hb hby d4_57) ?_
        show Steps p.tables e below (Tm15.setTop (mkF m 59 #[.val (.ref a1), .val (.int p2), .val (.int p3), .val (.int (f4_u4 p2 p3 f_a1))] [(.int (48 : Int32)), (.int (f_a1 (p2 + (2 : Int32)))), (.int (f4_u4 p2 p3 f_a1))])) t
        refine XS.isub Xm15.here hx rfl (Jvm.hb hby d4_59) rfl ?_
        show Steps p.tables e below (Tm15.setTop (mkF m 60 #[.val (.ref a1), .val (.int p2), .val (.int p3), .val (.int (f4_u4 p2 p3 f_a1))] [(.int ((f_a1 (p2 + (2 : Int32))) - (48 : Int32))), (.int (f4_u4 p2 p3 f_a1))])) t
        refine XS.iloadN Xm15.here hx rfl (Jvm.hb hby d4_60) rfl ?_
        show Steps p.tables e below (Tm15.setTop (mkF m 61 #[.val (.ref a1), .val (.int p2), .val (.int p3), .val (.int (f4_u4 p2 p3 f_a1))] [(.int p3), (.int ((f_a1 (p2 + (2 : Int32))) - (48 : Int32))), (.int (f4_u4 p2 p3 f_a1))])) t
        refine XS.iconst Xm15.here hx rfl (Jvm.hb hby d4_61) ?_
        show Steps p.tables e below (Tm15.setTop (mkF m 62 #[.val (.ref a1), .val (.int p2), .val (.int p3), .val (.int (f4_u4 p2 p3 f_a1))] [(.int (3 : Int32)), (.int p3), (.int ((f_a1 (p2 + (2 : Int32))) - (48 : Int32))), (.int (f4_u4 p2 p3 f_a1))])) t
        refine XS.isub Xm15.here hx rfl (Jvm.hb hby d4_62) rfl ?_
        show Steps p.tables e below (Tm15.setTop (mkF m 63 #[.val (.ref a1), .val (.int p2), .val (.int p3), .val (.int (f4_u4 p2 p3 f_a1))] [(.int (p3 - (3 : Int32))), (.int ((f_a1 (p2 + (2 : Int32))) - (48 : Int32))), (.int (f4_u4 p2 p3 f_a1))])) t
        exact k
      obtain ⟨_, _, ⟨T37, L37, k37, n37⟩, -, X37, ⟨Lc37, hQ37, l37, y37, z37⟩, st37⟩ := Jvm.LawKit.callS Xm15 hx (y := (⟨"com/example/clapboard/clapboard/parse/TextCursorReadNumberPinLaw", "pow10", "(I)I"⟩ : MethodName)) hown (mvT hZ (hw _ (List.mem_of_getElem? (i := 40) rfl))) (mvT hZ (hw _ (List.mem_of_getElem? (i := 41) rfl))) (mvT hZ (hw _ (List.mem_of_getElem? (i := 3) rfl))) (mvT hZ (hw _ (List.mem_of_getElem? (i := 42) rfl))) (by decide) (backOf (W := 2) (rm9 l Z a0 hw [] (p3 - (3 : Int32)) h0 n0 Z0 ) hZ (hw _ (List.mem_of_getElem? (i := 42) rfl)) (hw _ (List.mem_of_getElem? (i := 3) rfl)) (by decide) (by decide)) (g := (mkF m 63 #[.val (.ref a1), .val (.int p2), .val (.int p3), .val (.int (f4_u4 p2 p3 f_a1))] [(.int (p3 - (3 : Int32))), (.int ((f_a1 (p2 + (2 : Int32))) - (48 : Int32))), (.int (f4_u4 p2 p3 f_a1))])) rfl (by rw [hml]; rfl) (argsL := [(.int (p3 - (3 : Int32)))]) (rest := [(.int ((f_a1 (p2 + (2 : Int32))) - (48 : Int32))), (.int (f4_u4 p2 p3 f_a1))]) (lenOf pd_7 rfl) rfl (by show 2 * 0 + _ ≤ _; exact Nat.le_of_eq rfl) (Jvm.hb hby d4_63) (fun _ _ => ⟨rfl, em15, (by decide : 0 + 0 ≤ _), (by decide : 0 + 0 ≤ _)⟩)
      dsimp only [Pt.U, Pt.locs, Pt.cells, Pt.slots] at X37 l37 y37 z37 st37 hQ37
      subst l37 y37 z37
      obtain ⟨rfl, N37q, e37⟩ := hQ37
      have N37 := Fr.app Nm15 N37q
      have K38 : ∀ t, Steps p.tables e below (T37.setTop (mkF m 66 #[.val (.ref a1), .val (.int p2), .val (.int p3), .val (.int (f4_u4 p2 p3 f_a1))] [(.int (f9 (p3 - (3 : Int32)))), (.int ((f_a1 (p2 + (2 : Int32))) - (48 : Int32))), (.int (f4_u4 p2 p3 f_a1))])) t → Steps p.tables e below (Tm15.setTop (mkF m 63 #[.val (.ref a1), .val (.int p2), .val (.int p3), .val (.int (f4_u4 p2 p3 f_a1))] [(.int (p3 - (3 : Int32))), (.int ((f_a1 (p2 + (2 : Int32))) - (48 : Int32))), (.int (f4_u4 p2 p3 f_a1))])) t := fun t k => st37 _ k
      have K39 : ∀ t, Steps p.tables e below (T37.setTop (mkF m 69 #[.val (.ref a1), .val (.int p2), .val (.int p3), .val (.int (f4_u5 p2 p3 f_a1))] [])) t → Steps p.tables e below (T37.setTop (mkF m 66 #[.val (.ref a1), .val (.int p2), .val (.int p3), .val (.int (f4_u4 p2 p3 f_a1))] [(.int (f9 (p3 - (3 : Int32)))), (.int ((f_a1 (p2 + (2 : Int32))) - (48 : Int32))), (.int (f4_u4 p2 p3 f_a1))])) t := by
        intro t k
        refine XS.imul X37.here hx rfl (Jvm.hb hby d4_66) rfl ?_
        show Steps p.tables e below (T37.setTop (mkF m 67 #[.val (.ref a1), .val (.int p2), .val (.int p3), .val (.int (f4_u4 p2 p3 f_a1))] [(.int (((f_a1 (p2 + (2 : Int32))) - (48 : Int32)) * (f9 (p3 - (3 : Int32))))), (.int (f4_u4 p2 p3 f_a1))])) t
        refine XS.iadd X37.here hx rfl (Jvm.hb hby d4_67) rfl ?_
        show Steps p.tables e below (T37.setTop (mkF m 68 #[.val (.ref a1), .val (.int p2), .val (.int p3), .val (.int (f4_u4 p2 p3 f_a1))] [(.int ((f4_u4 p2 p3 f_a1) + (((f_a1 (p2 + (2 : Int32))) - (48 : Int32)) * (f9 (p3 - (3 : Int32))))))])) t
        refine XS.istoreN X37.here hx rfl (Jvm.hb hby d4_68) rfl (l' := #[.val (.ref a1), .val (.int p2), .val (.int p3), .val (.int (f4_u5 p2 p3 f_a1))]) rfl ?_
        show Steps p.tables e below (T37.setTop (mkF m 69 #[.val (.ref a1), .val (.int p2), .val (.int p3), .val (.int (f4_u5 p2 p3 f_a1))] [])) t
        exact k
      refine ⟨T37, _, X37, e37, N37, fun t k => ?_⟩
      rw [show (f4_u6 p2 p3 f_a1) = (f4_u5 p2 p3 f_a1) from if_neg hc28] at k
      exact K30 _ (K35 _ (K36 _ (K38 _ (K39 _ (k)))))
  have K40 : ∀ t, Steps p.tables e below (Tm28.setTop (mkF m 71 #[.val (.ref a1), .val (.int p2), .val (.int p3), .val (.int (f4_u6 p2 p3 f_a1))] [(.int (4 : Int32)), (.int p3)])) t → Steps p.tables e below (Tm28.setTop (mkF m 69 #[.val (.ref a1), .val (.int p2), .val (.int p3), .val (.int (f4_u6 p2 p3 f_a1))] [])) t := by
    intro t k
    refine XS.iloadN Xm28.here hx rfl (Jvm.hb hby d4_69) rfl ?_
    show Steps p.tables e below (Tm28.setTop (mkF m 70 #[.val (.ref a1), .val (.int p2), .val (.int p3), .val (.int (f4_u6 p2 p3 f_a1))] [(.int p3)])) t
    refine XS.iconst Xm28.here hx rfl (Jvm.hb hby d4_70) ?_
    show Steps p.tables e below (Tm28.setTop (mkF m 71 #[.val (.ref a1), .val (.int p2), .val (.int p3), .val (.int (f4_u6 p2 p3 f_a1))] [(.int (4 : Int32)), (.int p3)])) t
    exact k
  obtain ⟨Tm41, Lm41, Xm41, em41, Nm41, Km41⟩ : ∃ (T' : State) (L' : List Loc), Stand p l e ({ frames := 1, cells := 0, slots := 0, locals := 14 } : Room) s m #[(.ref a1), (.int p2), (.int p3)] below meth c T' L' 0 0 ∧ T'.heap = h0 ∧ Fr n0 L' ∧ ∀ t, Steps p.tables e below (T'.setTop (mkF m 92 #[.val (.ref a1), .val (.int p2), .val (.int p3), .val (.int (f4_u8 p2 p3 f_a1))] [])) t → Steps p.tables e below (Tm28.setTop (mkF m 71 #[.val (.ref a1), .val (.int p2), .val (.int p3), .val (.int (f4_u6 p2 p3 f_a1))] [(.int (4 : Int32)), (.int p3)])) t := by
    by_cases hc41 : p3 < (4 : Int32)
    · have K42 : ∀ t, Steps p.tables e below (Tm28.setTop (mkF m 92 #[.val (.ref a1), .val (.int p2), .val (.int p3), .val (.int (f4_u6 p2 p3 f_a1))] [])) t → Steps p.tables e below (Tm28.setTop (mkF m 71 #[.val (.ref a1), .val (.int p2), .val (.int p3), .val (.int (f4_u6 p2 p3 f_a1))] [(.int (4 : Int32)), (.int p3)])) t := by
        intro t k
        refine XS.icmpYes Xm28.here hx rfl (pc0 := 71) (pc' := 92) rfl (Jvm.hb hby d4_71) rfl (tlt hc41).1 (by decide) (by decide) ?_
        exact k
      refine ⟨Tm28, _, Xm28, em28, Nm28, fun t k => ?_⟩
      rw [show (f4_u8 p2 p3 f_a1) = (f4_u6 p2 p3 f_a1) from if_pos hc41] at k
      exact K42 _ (k)
    · have K43 : ∀ t, Steps p.tables e below (Tm28.setTop (mkF m 74 #[.val (.ref a1), .val (.int p2), .val (.int p3), .val (.int (f4_u6 p2 p3 f_a1))] [])) t → Steps p.tables e below (Tm28.setTop (mkF m 71 #[.val (.ref a1), .val (.int p2), .val (.int p3), .val (.int (f4_u6 p2 p3 f_a1))] [(.int (4 : Int32)), (.int p3)])) t := by
        intro t k
        refine XS.icmpNo Xm28.here hx rfl (Jvm.hb hby d4_71) rfl (flt hc41).1 ?_
        exact k
      have K48 : ∀ t, Steps p.tables e below (Tm28.setTop (mkF m 79 #[.val (.ref a1), .val (.int p2), .val (.int p3), .val (.int (f4_u6 p2 p3 f_a1))] [(.int (p2 + (3 : Int32))), (.ref a1), (.int (f4_u6 p2 p3 f_a1))])) t → Steps p.tables e below (Tm28.setTop (mkF m 74 #[.val (.ref a1), .val (.int p2), .val (.int p3), .val (.int (f4_u6 p2 p3 f_a1))] [])) t := by
        intro t k
        refine XS.iloadN Xm28.here hx rfl (Jvm.hb hby d4_74) rfl ?_
        show Steps p.tables e below (Tm28.setTop (mkF m 75 #[.val (.ref a1), .val (.int p2), .val (.int p3), .val (.int (f4_u6 p2 p3 f_a1))] [(.int (f4_u6 p2 p3 f_a1))])) t
        refine XS.aloadN Xm28.here hx rfl (Jvm.hb hby d4_75) rfl rfl ?_
        show Steps p.tables e below (Tm28.setTop (mkF m 76 #[.val (.ref a1), .val (.int p2), .val (.int p3), .val (.int (f4_u6 p2 p3 f_a1))] [(.ref a1), (.int (f4_u6 p2 p3 f_a1))])) t
        refine XS.iloadN Xm28.here hx rfl (Jvm.hb hby d4_76) rfl ?_
        show Steps p.tables e below (Tm28.setTop (mkF m 77 #[.val (.ref a1), .val (.int p2), .val (.int p3), .val (.int (f4_u6 p2 p3 f_a1))] [(.int p2), (.ref a1), (.int (f4_u6 p2 p3 f_a1))])) t
        refine XS.iconst Xm28.here hx rfl (Jvm.hb hby d4_77) ?_
        show Steps p.tables e below (Tm28.setTop (mkF m 78 #[.val (.ref a1), .val (.int p2), .val (.int p3), .val (.int (f4_u6 p2 p3 f_a1))] [(.int (3 : Int32)), (.int p2), (.ref a1), (.int (f4_u6 p2 p3 f_a1))])) t
        refine XS.iadd Xm28.here hx rfl (Jvm.hb hby d4_78) rfl ?_
        show Steps p.tables e below (Tm28.setTop (mkF m 79 #[.val (.ref a1), .val (.int p2), .val (.int p3), .val (.int (f4_u6 p2 p3 f_a1))] [(.int (p2 + (3 : Int32))), (.ref a1), (.int (f4_u6 p2 p3 f_a1))])) t
        exact k
      have hin44 : ¬ (p2 + (3 : Int32)) < 0 ∧ (p2 + (3 : Int32)) < n_a1 := by exact own_vj _ _ _ 3 4 hs hb hq (by decide) (by assumption)
      obtain ⟨cl45, Aq46, hjhin44, aq47⟩ := Ia.at A_a1 hin44
      have K49 : ∀ t, Steps p.tables e below (Tm28.setTop (mkF m 86 #[.val (.ref a1), .val (.int p2), .val (.int p3), .val (.int (f4_u6 p2 p3 f_a1))] [(.int (p3 - (4 : Int32))), (.int ((f_a1 (p2 + (3 : Int32))) - (48 : Int32))), (.int (f4_u6 p2 p3 f_a1))])) t → Steps p.tables e below (Tm28.setTop (mkF m 79 #[.val (.ref a1), .val (.int p2), .val (.int p3), .val (.int (f4_u6 p2 p3 f_a1))] [(.int (p2 + (3 : Int32))), (.ref a1), (.int (f4_u6 p2 p3 f_a1))])) t := by
        intro t k
        refine Xm28.caload hx (j := (p2 + (3 : Int32))) (v := .int (f_a1 (p2 + (3 : Int32)))) (by rw [em28]; exact Aq46.1) (State.isArrayOf_alike hZ.alike Aq46.2.1) Aq46.2.2 hjhin44 aq47 (g := (mkF m 79 #[.val (.ref a1), .val (.int p2), .val (.int p3), .val (.int (f4_u6 p2 p3 f_a1))] [(.int (p2 + (3 : Int32))), (.ref a1), (.int (f4_u6 p2 p3 f_a1))])) rfl rfl (Jvm.hb hby d4_79) _ ?_
        show Steps p.tables e below (Tm28.setTop (mkF m 80 #[.val (.ref a1), .val (.int p2), .val (.int p3), .val (.int (f4_u6 p2 p3 f_a1))] [(.int (f_a1 (p2 + (3 : Int32)))), (.int (f4_u6 p2 p3 f_a1))])) t
        refine XS.bipush Xm28.here hx rfl (Jvm.hb hby d4_80) ?_
        show Steps p.tables e below (Tm28.setTop (mkF m 82 #[.val (.ref a1), .val (.int p2), .val (.int p3), .val (.int (f4_u6 p2 p3 f_a1))] [(.int (48 : Int32)), (.int (f_a1 (p2 + (3 : Int32)))), (.int (f4_u6 p2 p3 f_a1))])) t
        refine XS.isub Xm28.here hx rfl (Jvm.hb hby d4_82) rfl ?_
        show Steps p.tables e below (Tm28.setTop (mkF m 83 #[.val (.ref a1), .val (.int p2), .val (.int p3), .val (.int (f4_u6 p2 p3 f_a1))] [(.int ((f_a1 (p2 + (3 : Int32))) - (48 : Int32))), (.int (f4_u6 p2 p3 f_a1))])) t
        refine XS.iloadN Xm28.here hx rfl (Jvm.hb hby d4_83) rfl ?_
        show Steps p.tables e below (Tm28.setTop (mkF m 84 #[.val (.ref a1), .val (.int p2), .val (.int p3), .val (.int (f4_u6 p2 p3 f_a1))] [(.int p3), (.int ((f_a1 (p2 + (3 : Int32))) - (48 : Int32))), (.int (f4_u6 p2 p3 f_a1))])) t
        refine XS.iconst Xm28.here hx rfl (Jvm.hb hby d4_84) ?_
        show Steps p.tables e below (Tm28.setTop (mkF m 85 #[.val (.ref a1), .val (.int p2), .val (.int p3), .val (.int (f4_u6 p2 p3 f_a1))] [(.int (4 : Int32)), (.int p3), (.int ((f_a1 (p2 + (3 : Int32))) - (48 : Int32))), (.int (f4_u6 p2 p3 f_a1))])) t
        refine XS.isub Xm28.here hx rfl (Jvm.hb hby d4_85) rfl ?_
        show Steps p.tables e below (Tm28.setTop (mkF m 86 #[.val (.ref a1), .val (.int p2), .val (.int p3), .val (.int (f4_u6 p2 p3 f_a1))] [(.int (p3 - (4 : Int32))), (.int ((f_a1 (p2 + (3 : Int32))) - (48 : Int32))), (.int (f4_u6 p2 p3 f_a1))])) t
        exact k
      obtain ⟨_, _, ⟨T50, L50, k50, n50⟩, -, X50, ⟨Lc50, hQ50, l50, y50, z50⟩, st50⟩ := Jvm.LawKit.callS Xm28 hx (y := (⟨"com/example/clapboard/clapboard/parse/TextCursorReadNumberPinLaw", "pow10", "(I)I"⟩ : MethodName)) hown (mvT hZ (hw _ (List.mem_of_getElem? (i := 40) rfl))) (mvT hZ (hw _ (List.mem_of_getElem? (i := 41) rfl))) (mvT hZ (hw _ (List.mem_of_getElem? (i := 3) rfl))) (mvT hZ (hw _ (List.mem_of_getElem? (i := 42) rfl))) (by decide) (backOf (W := 2) (rm9 l Z a0 hw [] (p3 - (4 : Int32)) h0 n0 Z0 ) hZ (hw _ (List.mem_of_getElem? (i := 42) rfl)) (hw _ (List.mem_of_getElem? (i := 3) rfl)) (by decide) (by decide)) (g := (mkF m 86 #[.val (.ref a1), .val (.int p2), .val (.int p3), .val (.int (f4_u6 p2 p3 f_a1))] [(.int (p3 - (4 : Int32))), (.int ((f_a1 (p2 + (3 : Int32))) - (48 : Int32))), (.int (f4_u6 p2 p3 f_a1))])) rfl (by rw [hml]; rfl) (argsL := [(.int (p3 - (4 : Int32)))]) (rest := [(.int ((f_a1 (p2 + (3 : Int32))) - (48 : Int32))), (.int (f4_u6 p2 p3 f_a1))]) (lenOf pd_7 rfl) rfl (by show 2 * 0 + _ ≤ _; exact Nat.le_of_eq rfl) (Jvm.hb hby d4_86) (fun _ _ => ⟨rfl, em28, (by decide : 0 + 0 ≤ _), (by decide : 0 + 0 ≤ _)⟩)
      dsimp only [Pt.U, Pt.locs, Pt.cells, Pt.slots] at X50 l50 y50 z50 st50 hQ50
      subst l50 y50 z50
      obtain ⟨rfl, N50q, e50⟩ := hQ50
      have N50 := Fr.app Nm28 N50q
      have K51 : ∀ t, Steps p.tables e below (T50.setTop (mkF m 89 #[.val (.ref a1), .val (.int p2), .val (.int p3), .val (.int (f4_u6 p2 p3 f_a1))] [(.int (f9 (p3 - (4 : Int32)))), (.int ((f_a1 (p2 + (3 : Int32))) - (48 : Int32))), (.int (f4_u6 p2 p3 f_a1))])) t → Steps p.tables e below (Tm28.setTop (mkF m 86 #[.val (.ref a1), .val (.int p2), .val (.int p3), .val (.int (f4_u6 p2 p3 f_a1))] [(.int (p3 - (4 : Int32))), (.int ((f_a1 (p2 + (3 : Int32))) - (48 : Int32))), (.int (f4_u6 p2 p3 f_a1))])) t := fun t k => st50 _ k
      have K52 : ∀ t, Steps p.tables e below (T50.setTop (mkF m 92 #[.val (.ref a1), .val (.int p2), .val (.int p3), .val (.int (f4_u7 p2 p3 f_a1))] [])) t → Steps p.tables e below (T50.setTop (mkF m 89 #[.val (.ref a1), .val (.int p2), .val (.int p3), .val (.int (f4_u6 p2 p3 f_a1))] [(.int (f9 (p3 - (4 : Int32)))), (.int ((f_a1 (p2 + (3 : Int32))) - (48 : Int32))), (.int (f4_u6 p2 p3 f_a1))])) t := by
        intro t k
        refine XS.imul X50.here hx rfl (Jvm.hb hby d4_89) rfl ?_
        show Steps p.tables e below (T50.setTop (mkF m 90 #[.val (.ref a1), .val (.int p2), .val (.int p3), .val (.int (f4_u6 p2 p3 f_a1))] [(.int (((f_a1 (p2 + (3 : Int32))) - (48 : Int32)) * (f9 (p3 - (4 : Int32))))), (.int (f4_u6 p2 p3 f_a1))])) t
        refine XS.iadd X50.here hx rfl (Jvm.hb hby d4_90) rfl ?_
        show Steps p.tables e below (T50.setTop (mkF m 91 #[.val (.ref a1), .val (.int p2), .val (.int p3), .val (.int (f4_u6 p2 p3 f_a1))] [(.int ((f4_u6 p2 p3 f_a1) + (((f_a1 (p2 + (3 : Int32))) - (48 : Int32)) * (f9 (p3 - (4 : Int32))))))])) t
        refine XS.istoreN X50.here hx rfl (Jvm.hb hby d4_91) rfl (l' := #[.val (.ref a1), .val (.int p2), .val (.int p3), .val (.int (f4_u7 p2 p3 f_a1))]) rfl ?_
        show Steps p.tables e below (T50.setTop (mkF m 92 #[.val (.ref a1), .val (.int p2), .val (.int p3), .val (.int (f4_u7 p2 p3 f_a1))] [])) t
        exact k
      refine ⟨T50, _, X50, e50, N50, fun t k => ?_⟩
      rw [show (f4_u8 p2 p3 f_a1) = (f4_u7 p2 p3 f_a1) from if_neg hc41] at k
      exact K43 _ (K48 _ (K49 _ (K51 _ (K52 _ (k)))))
  have K53 : ∀ t, Steps p.tables e below (Tm41.setTop (mkF m 94 #[.val (.ref a1), .val (.int p2), .val (.int p3), .val (.int (f4_u8 p2 p3 f_a1))] [(.int (5 : Int32)), (.int p3)])) t → Steps p.tables e below (Tm41.setTop (mkF m 92 #[.val (.ref a1), .val (.int p2), .val (.int p3), .val (.int (f4_u8 p2 p3 f_a1))] [])) t := by
    intro t k
    refine XS.iloadN Xm41.here hx rfl (Jvm.hb hby d4_92) rfl ?_
    show Steps p.tables e below (Tm41.setTop (mkF m 93 #[.val (.ref a1), .val (.int p2), .val (.int p3), .val (.int (f4_u8 p2 p3 f_a1))] [(.int p3)])) t
    refine XS.iconst Xm41.here hx rfl (Jvm.hb hby d4_93) ?_
    show Steps p.tables e below (Tm41.setTop (mkF m 94 #[.val (.ref a1), .val (.int p2), .val (.int p3), .val (.int (f4_u8 p2 p3 f_a1))] [(.int (5 : Int32)), (.int p3)])) t
    exact k
  obtain ⟨Tm54, Lm54, Xm54, em54, Nm54, Km54⟩ : ∃ (T' : State) (L' : List Loc), Stand p l e ({ frames := 1, cells := 0, slots := 0, locals := 14 } : Room) s m #[(.ref a1), (.int p2), (.int p3)] below meth c T' L' 0 0 ∧ T'.heap = h0 ∧ Fr n0 L' ∧ ∀ t, Steps p.tables e below (T'.setTop (mkF m 115 #[.val (.ref a1), .val (.int p2), .val (.int p3), .val (.int (f4_u10 p2 p3 f_a1))] [])) t → Steps p.tables e below (Tm41.setTop (mkF m 94 #[.val (.ref a1), .val (.int p2), .val (.int p3), .val (.int (f4_u8 p2 p3 f_a1))] [(.int (5 : Int32)), (.int p3)])) t := by
    by_cases hc54 : p3 < (5 : Int32)
    · have K55 : ∀ t, Steps p.tables e below (Tm41.setTop (mkF m 115 #[.val (.ref a1), .val (.int p2), .val (.int p3), .val (.int (f4_u8 p2 p3 f_a1))] [])) t → Steps p.tables e below (Tm41.setTop (mkF m 94 #[.val (.ref a1), .val (.int p2), .val (.int p3), .val (.int (f4_u8 p2 p3 f_a1))] [(.int (5 : Int32)), (.int p3)])) t := by
        intro t k
        refine XS.icmpYes Xm41.here hx rfl (pc0 := 94) (pc' := 115) rfl (Jvm.hb hby d4_94) rfl (tlt hc54).1 (by decide) (by decide) ?_
        exact k
      refine ⟨Tm41, _, Xm41, em41, Nm41, fun t k => ?_⟩
      rw [show (f4_u10 p2 p3 f_a1) = (f4_u8 p2 p3 f_a1) from if_pos hc54] at k
      exact K55 _ (k)
    · have K56 : ∀ t, Steps p.tables e below (Tm41.setTop (mkF m 97 #[.val (.ref a1), .val (.int p2), .val (.int p3), .val (.int (f4_u8 p2 p3 f_a1))] [])) t → Steps p.tables e below (Tm41.setTop (mkF m 94 #[.val (.ref a1), .val (.int p2), .val (.int p3), .val (.int (f4_u8 p2 p3 f_a1))] [(.int (5 : Int32)), (.int p3)])) t := by
        intro t k
        refine XS.icmpNo Xm41.here hx rfl (Jvm.hb hby d4_94) rfl (flt hc54).1 ?_
        exact k
      have K61 : ∀ t, Steps p.tables e below (Tm41.setTop (mkF m 102 #[.val (.ref a1), .val (.int p2), .val (.int p3), .val (.int (f4_u8 p2 p3 f_a1))] [(.int (p2 + (4 : Int32))), (.ref a1), (.int (f4_u8 p2 p3 f_a1))])) t → Steps p.tables e below (Tm41.setTop (mkF m 97 #[.val (.ref a1), .val (.int p2), .val (.int p3), .val (.int (f4_u8 p2 p3 f_a1))] [])) t := by
        intro t k
        refine XS.iloadN Xm41.here hx rfl (Jvm.hb hby d4_97) rfl ?_
        show Steps p.tables e below (Tm41.setTop (mkF m 98 #[.val (.ref a1), .val (.int p2), .val (.int p3), .val (.int (f4_u8 p2 p3 f_a1))] [(.int (f4_u8 p2 p3 f_a1))])) t
        refine XS.aloadN Xm41.here hx rfl (Jvm.hb hby d4_98) rfl rfl ?_
        show Steps p.tables e below (Tm41.setTop (mkF m 99 #[.val (.ref a1), .val (.int p2), .val (.int p3), .val (.int (f4_u8 p2 p3 f_a1))] [(.ref a1), (.int (f4_u8 p2 p3 f_a1))])) t
        refine XS.iloadN Xm41.here hx rfl (Jvm.hb hby d4_99) rfl ?_
        show Steps p.tables e below (Tm41.setTop (mkF m 100 #[.val (.ref a1), .val (.int p2), .val (.int p3), .val (.int (f4_u8 p2 p3 f_a1))] [(.int p2), (.ref a1), (.int (f4_u8 p2 p3 f_a1))])) t
        refine XS.iconst Xm41.here hx rfl (Jvm.hb hby d4_100) ?_
        show Steps p.tables e below (Tm41.setTop (mkF m 101 #[.val (.ref a1), .val (.int p2), .val (.int p3), .val (.int (f4_u8 p2 p3 f_a1))] [(.int (4 : Int32)), (.int p2), (.ref a1), (.int (f4_u8 p2 p3 f_a1))])) t
        refine XS.iadd Xm41.here hx rfl (Jvm.hb hby d4_101) rfl ?_
        show Steps p.tables e below (Tm41.setTop (mkF m 102 #[.val (.ref a1), .val (.int p2), .val (.int p3), .val (.int (f4_u8 p2 p3 f_a1))] [(.int (p2 + (4 : Int32))), (.ref a1), (.int (f4_u8 p2 p3 f_a1))])) t
        exact k
      have hin57 : ¬ (p2 + (4 : Int32)) < 0 ∧ (p2 + (4 : Int32)) < n_a1 := by exact own_vj _ _ _ 4 5 hs hb hq (by decide) (by assumption)
      obtain ⟨cl58, Aq59, hjhin57, aq60⟩ := Ia.at A_a1 hin57
      have K62 : ∀ t, Steps p.tables e below (Tm41.setTop (mkF m 109 #[.val (.ref a1), .val (.int p2), .val (.int p3), .val (.int (f4_u8 p2 p3 f_a1))] [(.int (p3 - (5 : Int32))), (.int ((f_a1 (p2 + (4 : Int32))) - (48 : Int32))), (.int (f4_u8 p2 p3 f_a1))])) t → Steps p.tables e below (Tm41.setTop (mkF m 102 #[.val (.ref a1), .val (.int p2), .val (.int p3), .val (.int (f4_u8 p2 p3 f_a1))] [(.int (p2 + (4 : Int32))), (.ref a1), (.int (f4_u8 p2 p3 f_a1))])) t := by
        intro t k
        refine Xm41.caload hx (j := (p2 + (4 : Int32))) (v := .int (f_a1 (p2 + (4 : Int32)))) (by rw [em41]; exact Aq59.1) (State.isArrayOf_alike hZ.alike Aq59.2.1) Aq59.2.2 hjhin57 aq60 (g := (mkF m 102 #[.val (.ref a1), .val (.int p2), .val (.int p3), .val (.int (f4_u8 p2 p3 f_a1))] [(.int (p2 + (4 : Int32))), (.ref a1), (.int (f4_u8 p2 p3 f_a1))])) rfl rfl (Jvm.hb hby d4_102) _ ?_
        show Steps p.tables e below (Tm41.setTop (mkF m 103 #[.val (.ref a1), .val (.int p2), .val (.int p3), .val (.int (f4_u8 p2 p3 f_a1))] [(.int (f_a1 (p2 + (4 : Int32)))), (.int (f4_u8 p2 p3 f_a1))])) t
        refine XS.bipush Xm41.here hx rfl (Jvm.hb hby d4_103) ?_
        show Steps p.tables e below (Tm41.setTop (mkF m 105 #[.val (.ref a1), .val (.int p2), .val (.int p3), .val (.int (f4_u8 p2 p3 f_a1))] [(.int (48 : Int32)), (.int (f_a1 (p2 + (4 : Int32)))), (.int (f4_u8 p2 p3 f_a1))])) t
        refine XS.isub Xm41.here hx rfl (Jvm.hb hby d4_105) rfl ?_
        show Steps p.tables e below (Tm41.setTop (mkF m 106 #[.val (.ref a1), .val (.int p2), .val (.int p3), .val (.int (f4_u8 p2 p3 f_a1))] [(.int ((f_a1 (p2 + (4 : Int32))) - (48 : Int32))), (.int (f4_u8 p2 p3 f_a1))])) t
        refine XS.iloadN Xm41.here hx rfl (Jvm.hb hby d4_106) rfl ?_
        show Steps p.tables e below (Tm41.setTop (mkF m 107 #[.val (.ref a1), .val (.int p2), .val (.int p3), .val (.int (f4_u8 p2 p3 f_a1))] [(.int p3), (.int ((f_a1 (p2 + (4 : Int32))) - (48 : Int32))), (.int (f4_u8 p2 p3 f_a1))])) t
        refine XS.iconst Xm41.here hx rfl (Jvm.hb hby d4_107) ?_
        show Steps p.tables e below (Tm41.setTop (mkF m 108 #[.val (.ref a1), .val (.int p2), .val (.int p3), .val (.int (f4_u8 p2 p3 f_a1))] [(.int (5 : Int32)), (.int p3), (.int ((f_a1 (p2 + (4 : Int32))) - (48 : Int32))), (.int (f4_u8 p2 p3 f_a1))])) t
        refine XS.isub Xm41.here hx rfl (Jvm.hb hby d4_108) rfl ?_
        show Steps p.tables e below (Tm41.setTop (mkF m 109 #[.val (.ref a1), .val (.int p2), .val (.int p3), .val (.int (f4_u8 p2 p3 f_a1))] [(.int (p3 - (5 : Int32))), (.int ((f_a1 (p2 + (4 : Int32))) - (48 : Int32))), (.int (f4_u8 p2 p3 f_a1))])) t
        exact k
      obtain ⟨_, _, ⟨T63, L63, k63, n63⟩, -, X63, ⟨Lc63, hQ63, l63, y63, z63⟩, st63⟩ := Jvm.LawKit.callS Xm41 hx (y := (⟨"com/example/clapboard/clapboard/parse/TextCursorReadNumberPinLaw", "pow10", "(I)I"⟩ : MethodName)) hown (mvT hZ (hw _ (List.mem_of_getElem? (i := 40) rfl))) (mvT hZ (hw _ (List.mem_of_getElem? (i := 41) rfl))) (mvT hZ (hw _ (List.mem_of_getElem? (i := 3) rfl))) (mvT hZ (hw _ (List.mem_of_getElem? (i := 42) rfl))) (by decide) (backOf (W := 2) (rm9 l Z a0 hw [] (p3 - (5 : Int32)) h0 n0 Z0 ) hZ (hw _ (List.mem_of_getElem? (i := 42) rfl)) (hw _ (List.mem_of_getElem? (i := 3) rfl)) (by decide) (by decide)) (g := (mkF m 109 #[.val (.ref a1), .val (.int p2), .val (.int p3), .val (.int (f4_u8 p2 p3 f_a1))] [(.int (p3 - (5 : Int32))), (.int ((f_a1 (p2 + (4 : Int32))) - (48 : Int32))), (.int (f4_u8 p2 p3 f_a1))])) rfl (by rw [hml]; rfl) (argsL := [(.int (p3 - (5 : Int32)))]) (rest := [(.int ((f_a1 (p2 + (4 : Int32))) - (48 : Int32))), (.int (f4_u8 p2 p3 f_a1))]) (lenOf pd_7 rfl) rfl (by show 2 * 0 + _ ≤ _; exact Nat.le_of_eq rfl) (Jvm.hb hby d4_109) (fun _ _ => ⟨rfl, em41, (by decide : 0 + 0 ≤ _), (by decide : 0 + 0 ≤ _)⟩)
      dsimp only [Pt.U, Pt.locs, Pt.cells, Pt.slots] at X63 l63 y63 z63 st63 hQ63
      subst l63 y63 z63
      obtain ⟨rfl, N63q, e63⟩ := hQ63
      have N63 := Fr.app Nm41 N63q
      have K64 : ∀ t, Steps p.tables e below (T63.setTop (mkF m 112 #[.val (.ref a1), .val (.int p2), .val (.int p3), .val (.int (f4_u8 p2 p3 f_a1))] [(.int (f9 (p3 - (5 : Int32)))), (.int ((f_a1 (p2 + (4 : Int32))) - (48 : Int32))), (.int (f4_u8 p2 p3 f_a1))])) t → Steps p.tables e below (Tm41.setTop (mkF m 109 #[.val (.ref a1), .val (.int p2), .val (.int p3), .val (.int (f4_u8 p2 p3 f_a1))] [(.int (p3 - (5 : Int32))), (.int ((f_a1 (p2 + (4 : Int32))) - (48 : Int32))), (.int (f4_u8 p2 p3 f_a1))])) t := fun t k => st63 _ k
      have K65 : ∀ t, Steps p.tables e below (T63.setTop (mkF m 115 #[.val (.ref a1), .val (.int p2), .val (.int p3), .val (.int (f4_u9 p2 p3 f_a1))] [])) t → Steps p.tables e below (T63.setTop (mkF m 112 #[.val (.ref a1), .val (.int p2), .val (.int p3), .val (.int (f4_u8 p2 p3 f_a1))] [(.int (f9 (p3 - (5 : Int32)))), (.int ((f_a1 (p2 + (4 : Int32))) - (48 : Int32))), (.int (f4_u8 p2 p3 f_a1))])) t := by
        intro t k
        refine XS.imul X63.here hx rfl (Jvm.hb hby d4_112) rfl ?_
        show Steps p.tables e below (T63.setTop (mkF m 113 #[.val (.ref a1), .val (.int p2), .val (.int p3), .val (.int (f4_u8 p2 p3 f_a1))] [(.int (((f_a1 (p2 + (4 : Int32))) - (48 : Int32)) * (f9 (p3 - (5 : Int32))))), (.int (f4_u8 p2 p3 f_a1))])) t
        refine XS.iadd X63.here hx rfl (Jvm.hb hby d4_113) rfl ?_
        show Steps p.tables e below (T63.setTop (mkF m 114 #[.val (.ref a1), .val (.int p2), .val (.int p3), .val (.int (f4_u8 p2 p3 f_a1))] [(.int ((f4_u8 p2 p3 f_a1) + (((f_a1 (p2 + (4 : Int32))) - (48 : Int32)) * (f9 (p3 - (5 : Int32))))))])) t
        refine XS.istoreN X63.here hx rfl (Jvm.hb hby d4_114) rfl (l' := #[.val (.ref a1), .val (.int p2), .val (.int p3), .val (.int (f4_u9 p2 p3 f_a1))]) rfl ?_
        show Steps p.tables e below (T63.setTop (mkF m 115 #[.val (.ref a1), .val (.int p2), .val (.int p3), .val (.int (f4_u9 p2 p3 f_a1))] [])) t
        exact k
      refine ⟨T63, _, X63, e63, N63, fun t k => ?_⟩
      rw [show (f4_u10 p2 p3 f_a1) = (f4_u9 p2 p3 f_a1) from if_neg hc54] at k
      exact K56 _ (K61 _ (K62 _ (K64 _ (K65 _ (k)))))
  have K66 : ∀ t, Steps p.tables e below (Tm54.setTop (mkF m 116 #[.val (.ref a1), .val (.int p2), .val (.int p3), .val (.int (f4_u10 p2 p3 f_a1))] [(.int (f4_u10 p2 p3 f_a1))])) t → Steps p.tables e below (Tm54.setTop (mkF m 115 #[.val (.ref a1), .val (.int p2), .val (.int p3), .val (.int (f4_u10 p2 p3 f_a1))] [])) t := by
    intro t k
    refine XS.iloadN Xm54.here hx rfl (Jvm.hb hby d4_115) rfl ?_
    show Steps p.tables e below (Tm54.setTop (mkF m 116 #[.val (.ref a1), .val (.int p2), .val (.int p3), .val (.int (f4_u10 p2 p3 f_a1))] [(.int (f4_u10 p2 p3 f_a1))])) t
    exact k
  obtain ⟨fs, hr, hrun, hended, hW, hsame⟩ := Xm54.leave (v := some (.int (f4_u10 p2 p3 f_a1))) (fun h => by rw [Bd.returns] at h; cases h) Bd.notSynchronized
  refine ⟨_, _, pre0 _ (K1 _ (Km2 _ (K14 _ (Km15 _ (K27 _ (Km28 _ (K40 _ (Km41 _ (K53 _ (Km54 _ (K66 _ (retI Xm54 hx Bd.returns (Jvm.hb hby d4_116) hr)))))))))))), hrun, hended, _, _, rfl, ?_, ⟨_, rfl⟩, hW, hsame.mono (by decide) (by decide)⟩
  show Q4 Z a1 p2 p3 n_a1 f_a1 h0 n0 _ Tm54.heap _
  rw [em54]
  exact ⟨congrArg (fun z => some (Value.int z)) (show (f4_u10 p2 p3 f_a1) = f4 p2 p3 f_a1 from Eq.symm (rfl)), Nm54, rfl⟩
-- body 5: com/example/clapboard/clapboard/parse/TextCursor.<init>([CII)V
theorem d5_0 : decode prog_127_method_1_code 0 = .ok (.aload_n 0, 1) := by decide +kernel
theorem d5_1 : decode prog_127_method_1_code 1 = .ok (.invokespecial 1, 3) := by decide +kernel
theorem d5_4 : decode prog_127_method_1_code 4 = .ok (.aload_n 0, 1) := by decide +kernel
theorem d5_5 : decode prog_127_method_1_code 5 = .ok (.aload_n 1, 1) := by decide +kernel
theorem d5_6 : decode prog_127_method_1_code 6 = .ok (.putfield 7, 3) := by decide +kernel
theorem d5_9 : decode prog_127_method_1_code 9 = .ok (.aload_n 0, 1) := by decide +kernel
theorem d5_10 : decode prog_127_method_1_code 10 = .ok (.iload_n 2, 1) := by decide +kernel
theorem d5_11 : decode prog_127_method_1_code 11 = .ok (.putfield 13, 3) := by decide +kernel
theorem d5_14 : decode prog_127_method_1_code 14 = .ok (.aload_n 0, 1) := by decide +kernel
theorem d5_15 : decode prog_127_method_1_code 15 = .ok (.iload_n 3, 1) := by decide +kernel
theorem d5_16 : decode prog_127_method_1_code 16 = .ok (.putfield 17, 3) := by decide +kernel
theorem d5_19 : decode prog_127_method_1_code 19 = .ok (.return_, 1) := by decide +kernel
theorem pn_5 : plainName "com/example/clapboard/clapboard/parse/TextCursor" = true := by first | (simp [plainName, overriddenIn]; done) | decide +kernel
theorem ef_5 (m : MethodId) (a1 : Addr) (a2 : Addr) (p3 : Int32) (p4 : Int32) : entryFrame m #[(.ref a1), (.ref a2), (.int p3), (.int p4)] 4 = mkF m 0 #[.val (.ref a1), .val (.ref a2), .val (.int p3), .val (.int p4)] [] := by first | (simp [entryFrame, mkF, argsToLocals, Value.category]; done) | rfl
def Q5 (Z : State) (a1 : Addr) (a2 : Addr) (p3 : Int32) (p4 : Int32) (u_text_a1 : Value) (u_at_a1 : Value) (u_end_a1 : Value) (h0 : Heap) (n0 : Nat) (v : Option Value) (h : Heap) (L : List Loc) : Prop := v = none ∧ Fr n0 L ∧ Keep h0 h [a1] ∧ Exa Z h a1 "com/example/clapboard/clapboard/parse/TextCursor" ∧ Fld Z h a1 "com/example/clapboard/clapboard/parse/TextCursor" "text" "[C" (.ref a2) ∧ Fld Z h a1 "com/example/clapboard/clapboard/parse/TextCursor" "at" "I" (.int p3) ∧ Fld Z h a1 "com/example/clapboard/clapboard/parse/TextCursor" "end" "I" (.int p4)
set_option maxRecDepth 65536 in
set_option maxHeartbeats 40000000 in
theorem rm5 (l : Launch) (Z : State) (a0 : Array Value) (hw : ∀ d ∈ tables_1, d.before a0 Z = true) (ws : List Jvm.Cond) (a1 : Addr) (a2 : Addr) (p3 : Int32) (p4 : Int32) (u_text_a1 : Value) (u_at_a1 : Value) (u_end_a1 : Value) (h0 : Heap) (n0 : Nat) (Z0 : n0 ≤ h0.size) (E_a1 : Exa Z h0 a1 "com/example/clapboard/clapboard/parse/TextCursor") (F_text_a1 : Fld Z h0 a1 "com/example/clapboard/clapboard/parse/TextCursor" "text" "[C" u_text_a1) (g_a1 : n0 ≤ a1) (F_at_a1 : Fld Z h0 a1 "com/example/clapboard/clapboard/parse/TextCursor" "at" "I" u_at_a1) (F_end_a1 : Fld Z h0 a1 "com/example/clapboard/clapboard/parse/TextCursor" "end" "I" u_end_a1) :
    MetFree l (⟨"com/example/clapboard/clapboard/parse/TextCursor", "<init>", "([CII)V"⟩ : MethodName) (head1 (Jvm.Cond.code (⟨"com/example/clapboard/clapboard/parse/TextCursor", "<init>", "([CII)V"⟩ : MethodName) prog_127_method_1_code 4 none :: ws) ({ frames := 1, cells := 0, slots := 0, locals := 12 } : Room)) (fun a U => a = #[(.ref a1), (.ref a2), (.int p3), (.int p4)] ∧ Z.Warmed39 U.vm ∧ U.heap = h0) (fun _ _ _ _ _ => True) (fun _ U o U' => ∃ v L, o = .returned v ∧ Q5 Z a1 a2 p3 p4 u_text_a1 u_at_a1 u_end_a1 h0 n0 v U'.heap L ∧ FrameEnd U o U' L ({ frames := 1, cells := 0, slots := 0, locals := 12 } : Room).cells ({ frames := 1, cells := 0, slots := 0, locals := 12 } : Room).slots) := by
  refine MetFree.of_bodySF (plainFor_of_name pn_5) hisR ?_
  intro p e s m args below meth c s₁ Bd hml0 hP hK
  obtain ⟨rfl, hZ, hh⟩ := hP
  have hx := Bd.exec
  have hby := Bd.bytes
  have hml : c.maxLocals = 4 := hml0
  have hown : s.vm.findClass "com/example/clapboard/clapboard/parse/TextCursor" = some m.cls := findClass_of_methodNamed Bd.named
  have hnm := (name_of_methodNamed Bd.named Bd.method).1
  have X0 : Stand p l e ({ frames := 1, cells := 0, slots := 0, locals := 12 } : Room) s m #[(.ref a1), (.ref a2), (.int p3), (.int p4)] below meth c s₁ [] 0 0 := Stand.of_body Bd
  have e0 : s₁.heap = h0 := by rw [← hh, Bd.state]; rfl
  have N0 := Fr.nil n0
  have pre0 : ∀ t, Steps p.tables e below (s₁.setTop (mkF m 0 #[.val (.ref a1), .val (.ref a2), .val (.int p3), .val (.int p4)] [])) t → Steps p.tables e below (s₁.setTop (entryFrame m #[(.ref a1), (.ref a2), (.int p3), (.int p4)] 4)) t := fun t k => castTop (ef_5 m a1 a2 p3 p4) k
  have K1 : ∀ t, Steps p.tables e below (s₁.setTop (mkF m 1 #[.val (.ref a1), .val (.ref a2), .val (.int p3), .val (.int p4)] [(.ref a1)])) t → Steps p.tables e below (s₁.setTop (mkF m 0 #[.val (.ref a1), .val (.ref a2), .val (.int p3), .val (.int p4)] [])) t := by
    intro t k
    refine XS.aloadN X0.here hx rfl (Jvm.hb hby d5_0) rfl rfl ?_
    show Steps p.tables e below (s₁.setTop (mkF m 1 #[.val (.ref a1), .val (.ref a2), .val (.int p3), .val (.int p4)] [(.ref a1)])) t
    exact k
  obtain ⟨T2, X2, e2, st2⟩ := initO X0 hx hZ hown (hw _ (List.mem_of_getElem? (i := 21) rfl)) (hw _ (List.mem_of_getElem? (i := 22) rfl)) (hw _ (List.mem_of_getElem? (i := 23) rfl)) e0 (g := (mkF m 1 #[.val (.ref a1), .val (.ref a2), .val (.int p3), .val (.int p4)] [(.ref a1)])) rfl (by rw [hml]; rfl) rfl (Jvm.hb hby d5_1) (by decide) (W := 0) (by show 2 * 0 + _ ≤ _; exact Nat.le_of_eq rfl) (by decide)
  have K3 : ∀ t, Steps p.tables e below (T2.setTop (mkF m 4 #[.val (.ref a1), .val (.ref a2), .val (.int p3), .val (.int p4)] [])) t → Steps p.tables e below (s₁.setTop (mkF m 1 #[.val (.ref a1), .val (.ref a2), .val (.int p3), .val (.int p4)] [(.ref a1)])) t := fun t k => st2 _ k
  have K4 : ∀ t, Steps p.tables e below (T2.setTop (mkF m 6 #[.val (.ref a1), .val (.ref a2), .val (.int p3), .val (.int p4)] [(.ref a2), (.ref a1)])) t → Steps p.tables e below (T2.setTop (mkF m 4 #[.val (.ref a1), .val (.ref a2), .val (.int p3), .val (.int p4)] [])) t := by
    intro t k
    refine XS.aloadN X2.here hx rfl (Jvm.hb hby d5_4) rfl rfl ?_
    show Steps p.tables e below (T2.setTop (mkF m 5 #[.val (.ref a1), .val (.ref a2), .val (.int p3), .val (.int p4)] [(.ref a1)])) t
    refine XS.aloadN X2.here hx rfl (Jvm.hb hby d5_5) rfl rfl ?_
    show Steps p.tables e below (T2.setTop (mkF m 6 #[.val (.ref a1), .val (.ref a2), .val (.int p3), .val (.int p4)] [(.ref a2), (.ref a1)])) t
    exact k
  obtain ⟨T5, h5, X5, e5, W5, st5⟩ := putF X2 hx hZ hown (host := "") (Or.inl (hw _ (List.mem_of_getElem? (i := 24) rfl))) Via.refl e2 F_text_a1 E_a1 (Or.inr ⟨(hw _ (List.mem_of_getElem? (i := 25) rfl)), rfl, hnm⟩) (hw _ (List.mem_of_getElem? (i := 16) rfl)) (ty := (.array .char)) (by decide) rfl rfl (g := (mkF m 6 #[.val (.ref a1), .val (.ref a2), .val (.int p3), .val (.int p4)] [(.ref a2), (.ref a1)])) rfl rfl (Jvm.hb hby d5_6)
  have KP5 : Keep h0 h5 [a1] := (Keep.refl h0 [a1]).wr W5 (Or.inl (List.mem_of_getElem? (i := 0) rfl))
  have N5 := Fr.snoc X5 N0 g_a1
  have E5_0 : Exa Z h5 a1 "com/example/clapboard/clapboard/parse/TextCursor" := E_a1.wr W5
  have F5_1 : Fld Z h5 a1 "com/example/clapboard/clapboard/parse/TextCursor" "at" "I" u_at_a1 := F_at_a1.other W5 (Or.inr (slot_ne (Or.inl (hw _ (List.mem_of_getElem? (i := 27) rfl))) (Or.inr (hw _ (List.mem_of_getElem? (i := 25) rfl))) (by decide) (t := .int) (t' := (.array .char)) (by decide) (by decide)))
  have F5_2 : Fld Z h5 a1 "com/example/clapboard/clapboard/parse/TextCursor" "end" "I" u_end_a1 := F_end_a1.other W5 (Or.inr (slot_ne (Or.inl (hw _ (List.mem_of_getElem? (i := 29) rfl))) (Or.inr (hw _ (List.mem_of_getElem? (i := 25) rfl))) (by decide) (t := .int) (t' := (.array .char)) (by decide) (by decide)))
  have Fw5 : Fld Z h5 a1 "com/example/clapboard/clapboard/parse/TextCursor" "text" "[C" (.ref a2) := F_text_a1.same W5
  have K6 : ∀ t, Steps p.tables e below (T5.setTop (mkF m 9 #[.val (.ref a1), .val (.ref a2), .val (.int p3), .val (.int p4)] [])) t → Steps p.tables e below (T2.setTop (mkF m 6 #[.val (.ref a1), .val (.ref a2), .val (.int p3), .val (.int p4)] [(.ref a2), (.ref a1)])) t := fun t k => st5 _ k
  have K7 : ∀ t, Steps p.tables e below (T5.setTop (mkF m 11 #[.val (.ref a1), .val (.ref a2), .val (.int p3), .val (.int p4)] [(.int p3), (.ref a1)])) t → Steps p.tables e below (T5.setTop (mkF m 9 #[.val (.ref a1), .val (.ref a2), .val (.int p3), .val (.int p4)] [])) t := by
    intro t k
    refine XS.aloadN X5.here hx rfl (Jvm.hb hby d5_9) rfl rfl ?_
    show Steps p.tables e below (T5.setTop (mkF m 10 #[.val (.ref a1), .val (.ref a2), .val (.int p3), .val (.int p4)] [(.ref a1)])) t
    refine XS.iloadN X5.here hx rfl (Jvm.hb hby d5_10) rfl ?_
    show Steps p.tables e below (T5.setTop (mkF m 11 #[.val (.ref a1), .val (.ref a2), .val (.int p3), .val (.int p4)] [(.int p3), (.ref a1)])) t
    exact k
  obtain ⟨T8, h8, X8, e8, W8, st8⟩ := putF X5 hx hZ hown (host := "") (Or.inl (hw _ (List.mem_of_getElem? (i := 26) rfl))) Via.refl e5 F5_1 E5_0 (Or.inl (hw _ (List.mem_of_getElem? (i := 27) rfl))) (hw _ (List.mem_of_getElem? (i := 16) rfl)) (ty := .int) (by decide) rfl rfl (g := (mkF m 11 #[.val (.ref a1), .val (.ref a2), .val (.int p3), .val (.int p4)] [(.int p3), (.ref a1)])) rfl rfl (Jvm.hb hby d5_11)
  have KP8 : Keep h0 h8 [a1] := KP5.wr W8 (Or.inl (List.mem_of_getElem? (i := 0) rfl))
  have N8 := Fr.snoc X8 N5 g_a1
  have E8_0 : Exa Z h8 a1 "com/example/clapboard/clapboard/parse/TextCursor" := E5_0.wr W8
  have F8_1 : Fld Z h8 a1 "com/example/clapboard/clapboard/parse/TextCursor" "end" "I" u_end_a1 := F5_2.other W8 (Or.inr (slot_ne (Or.inl (hw _ (List.mem_of_getElem? (i := 29) rfl))) (Or.inl (hw _ (List.mem_of_getElem? (i := 27) rfl))) (by decide) (t := .int) (t' := .int) (by decide) (by decide)))
  have F8_2 : Fld Z h8 a1 "com/example/clapboard/clapboard/parse/TextCursor" "text" "[C" (.ref a2) := Fw5.other W8 (Or.inr (slot_ne (Or.inr (hw _ (List.mem_of_getElem? (i := 25) rfl))) (Or.inl (hw _ (List.mem_of_getElem? (i := 27) rfl))) (by decide) (t := (.array .char)) (t' := .int) (by decide) (by decide)))
  have Fw8 : Fld Z h8 a1 "com/example/clapboard/clapboard/parse/TextCursor" "at" "I" (.int p3) := F5_1.same W8
  have K9 : ∀ t, Steps p.tables e below (T8.setTop (mkF m 14 #[.val (.ref a1), .val (.ref a2), .val (.int p3), .val (.int p4)] [])) t → Steps p.tables e below (T5.setTop (mkF m 11 #[.val (.ref a1), .val (.ref a2), .val (.int p3), .val (.int p4)] [(.int p3), (.ref a1)])) t := fun t k => st8 _ k
  have K10 : ∀ t, Steps p.tables e below (T8.setTop (mkF m 16 #[.val (.ref a1), .val (.ref a2), .val (.int p3), .val (.int p4)] [(.int p4), (.ref a1)])) t → Steps p.tables e below (T8.setTop (mkF m 14 #[.val (.ref a1), .val (.ref a2), .val (.int p3), .val (.int p4)] [])) t := by
    intro t k
    refine XS.aloadN X8.here hx rfl (Jvm.hb hby d5_14) rfl rfl ?_
    show Steps p.tables e below (T8.setTop (mkF m 15 #[.val (.ref a1), .val (.ref a2), .val (.int p3), .val (.int p4)] [(.ref a1)])) t
    refine XS.iloadN X8.here hx rfl (Jvm.hb hby d5_15) rfl ?_
    show Steps p.tables e below (T8.setTop (mkF m 16 #[.val (.ref a1), .val (.ref a2), .val (.int p3), .val (.int p4)] [(.int p4), (.ref a1)])) t
    exact k
  obtain ⟨T11, h11, X11, e11, W11, st11⟩ := putF X8 hx hZ hown (host := "") (Or.inl (hw _ (List.mem_of_getElem? (i := 28) rfl))) Via.refl e8 F8_1 E8_0 (Or.inl (hw _ (List.mem_of_getElem? (i := 29) rfl))) (hw _ (List.mem_of_getElem? (i := 16) rfl)) (ty := .int) (by decide) rfl rfl (g := (mkF m 16 #[.val (.ref a1), .val (.ref a2), .val (.int p3), .val (.int p4)] [(.int p4), (.ref a1)])) rfl rfl (Jvm.hb hby d5_16)
  have KP11 : Keep h0 h11 [a1] := KP8.wr W11 (Or.inl (List.mem_of_getElem? (i := 0) rfl))
  have N11 := Fr.snoc X11 N8 g_a1
  have E11_0 : Exa Z h11 a1 "com/example/clapboard/clapboard/parse/TextCursor" := E8_0.wr W11
  have F11_1 : Fld Z h11 a1 "com/example/clapboard/clapboard/parse/TextCursor" "text" "[C" (.ref a2) := F8_2.other W11 (Or.inr (slot_ne (Or.inr (hw _ (List.mem_of_getElem? (i := 25) rfl))) (Or.inl (hw _ (List.mem_of_getElem? (i := 29) rfl))) (by decide) (t := (.array .char)) (t' := .int) (by decide) (by decide)))
  have F11_2 : Fld Z h11 a1 "com/example/clapboard/clapboard/parse/TextCursor" "at" "I" (.int p3) := Fw8.other W11 (Or.inr (slot_ne (Or.inl (hw _ (List.mem_of_getElem? (i := 27) rfl))) (Or.inl (hw _ (List.mem_of_getElem? (i := 29) rfl))) (by decide) (t := .int) (t' := .int) (by decide) (by decide)))
  have Fw11 : Fld Z h11 a1 "com/example/clapboard/clapboard/parse/TextCursor" "end" "I" (.int p4) := F8_1.same W11
  have K12 : ∀ t, Steps p.tables e below (T11.setTop (mkF m 19 #[.val (.ref a1), .val (.ref a2), .val (.int p3), .val (.int p4)] [])) t → Steps p.tables e below (T8.setTop (mkF m 16 #[.val (.ref a1), .val (.ref a2), .val (.int p3), .val (.int p4)] [(.int p4), (.ref a1)])) t := fun t k => st11 _ k
  obtain ⟨fs, hr, hrun, hended, hW, hsame⟩ := X11.leave (v := none) (fun _ => rfl) Bd.notSynchronized
  refine ⟨_, _, pre0 _ (K1 _ (K3 _ (K4 _ (K6 _ (K7 _ (K9 _ (K10 _ (K12 _ (X11.returnOut hx Bd.returns (Jvm.hb hby d5_19) hr))))))))), hrun, hended, _, _, rfl, ?_, ⟨_, rfl⟩, hW, hsame.mono (by decide) (by decide)⟩
  show Q5 Z a1 a2 p3 p4 u_text_a1 u_at_a1 u_end_a1 h0 n0 _ T11.heap _
  rw [e11]
  exact ⟨rfl, N11, KP11, E11_0, F11_1, F11_2, Fw11⟩
-- body 7: com/example/clapboard/clapboard/parse/TextCursor.readNumber(II)I
theorem d7_0 : decode prog_127_method_10_code 0 = .ok (.iconst 0, 1) := by decide +kernel
theorem d7_1 : decode prog_127_method_10_code 1 = .ok (.istore_n 3, 1) := by decide +kernel
theorem d7_2 : decode prog_127_method_10_code 2 = .ok (.iconst 0, 1) := by decide +kernel
theorem d7_3 : decode prog_127_method_10_code 3 = .ok (.istore 4, 2) := by decide +kernel
theorem d7_5 : decode prog_127_method_10_code 5 = .ok (.aload_n 0, 1) := by decide +kernel
theorem d7_6 : decode prog_127_method_10_code 6 = .ok (.getfield 13, 3) := by decide +kernel
theorem d7_9 : decode prog_127_method_10_code 9 = .ok (.iload_n 3, 1) := by decide +kernel
theorem d7_10 : decode prog_127_method_10_code 10 = .ok (.iadd, 1) := by decide +kernel
theorem d7_11 : decode prog_127_method_10_code 11 = .ok (.aload_n 0, 1) := by decide +kernel
theorem d7_12 : decode prog_127_method_10_code 12 = .ok (.getfield 17, 3) := by decide +kernel
theorem d7_15 : decode prog_127_method_10_code 15 = .ok (.if_icmp .ge 63, 3) := by decide +kernel
theorem d7_18 : decode prog_127_method_10_code 18 = .ok (.aload_n 0, 1) := by decide +kernel
theorem d7_19 : decode prog_127_method_10_code 19 = .ok (.getfield 7, 3) := by decide +kernel
theorem d7_22 : decode prog_127_method_10_code 22 = .ok (.aload_n 0, 1) := by decide +kernel
theorem d7_23 : decode prog_127_method_10_code 23 = .ok (.getfield 13, 3) := by decide +kernel
theorem d7_26 : decode prog_127_method_10_code 26 = .ok (.iload_n 3, 1) := by decide +kernel
theorem d7_27 : decode prog_127_method_10_code 27 = .ok (.iadd, 1) := by decide +kernel
theorem d7_28 : decode prog_127_method_10_code 28 = .ok (.caload, 1) := by decide +kernel
theorem d7_29 : decode prog_127_method_10_code 29 = .ok (.bipush 48, 2) := by decide +kernel
theorem d7_31 : decode prog_127_method_10_code 31 = .ok (.if_icmp .lt 47, 3) := by decide +kernel
theorem d7_34 : decode prog_127_method_10_code 34 = .ok (.aload_n 0, 1) := by decide +kernel
theorem d7_35 : decode prog_127_method_10_code 35 = .ok (.getfield 7, 3) := by decide +kernel
theorem d7_38 : decode prog_127_method_10_code 38 = .ok (.aload_n 0, 1) := by decide +kernel
theorem d7_39 : decode prog_127_method_10_code 39 = .ok (.getfield 13, 3) := by decide +kernel
theorem d7_42 : decode prog_127_method_10_code 42 = .ok (.iload_n 3, 1) := by decide +kernel
theorem d7_43 : decode prog_127_method_10_code 43 = .ok (.iadd, 1) := by decide +kernel
theorem d7_44 : decode prog_127_method_10_code 44 = .ok (.caload, 1) := by decide +kernel
theorem d7_45 : decode prog_127_method_10_code 45 = .ok (.bipush 57, 2) := by decide +kernel
theorem d7_47 : decode prog_127_method_10_code 47 = .ok (.if_icmp .gt 31, 3) := by decide +kernel
theorem d7_50 : decode prog_127_method_10_code 50 = .ok (.iload 4, 2) := by decide +kernel
theorem d7_52 : decode prog_127_method_10_code 52 = .ok (.bipush 10, 2) := by decide +kernel
theorem d7_54 : decode prog_127_method_10_code 54 = .ok (.imul, 1) := by decide +kernel
theorem d7_55 : decode prog_127_method_10_code 55 = .ok (.aload_n 0, 1) := by decide +kernel
theorem d7_56 : decode prog_127_method_10_code 56 = .ok (.getfield 7, 3) := by decide +kernel
theorem d7_59 : decode prog_127_method_10_code 59 = .ok (.aload_n 0, 1) := by decide +kernel
theorem d7_60 : decode prog_127_method_10_code 60 = .ok (.getfield 13, 3) := by decide +kernel
theorem d7_63 : decode prog_127_method_10_code 63 = .ok (.iload_n 3, 1) := by decide +kernel
theorem d7_64 : decode prog_127_method_10_code 64 = .ok (.iadd, 1) := by decide +kernel
theorem d7_65 : decode prog_127_method_10_code 65 = .ok (.caload, 1) := by decide +kernel
theorem d7_66 : decode prog_127_method_10_code 66 = .ok (.iadd, 1) := by decide +kernel
theorem d7_67 : decode prog_127_method_10_code 67 = .ok (.bipush 48, 2) := by decide +kernel
theorem d7_69 : decode prog_127_method_10_code 69 = .ok (.isub, 1) := by decide +kernel
theorem d7_70 : decode prog_127_method_10_code 70 = .ok (.istore 4, 2) := by decide +kernel
theorem d7_72 : decode prog_127_method_10_code 72 = .ok (.iinc 3 1, 3) := by decide +kernel
theorem d7_75 : decode prog_127_method_10_code 75 = .ok (.goto (-70), 3) := by decide +kernel
theorem d7_78 : decode prog_127_method_10_code 78 = .ok (.iload_n 3, 1) := by decide +kernel
theorem d7_79 : decode prog_127_method_10_code 79 = .ok (.iload_n 1, 1) := by decide +kernel
theorem d7_80 : decode prog_127_method_10_code 80 = .ok (.if_icmp .lt 8, 3) := by decide +kernel
theorem d7_83 : decode prog_127_method_10_code 83 = .ok (.iload_n 3, 1) := by decide +kernel
theorem d7_84 : decode prog_127_method_10_code 84 = .ok (.iload_n 2, 1) := by decide +kernel
theorem d7_85 : decode prog_127_method_10_code 85 = .ok (.if_icmp .le 5, 3) := by decide +kernel
theorem d7_88 : decode prog_127_method_10_code 88 = .ok (.iconst (-1), 1) := by decide +kernel
theorem d7_89 : decode prog_127_method_10_code 89 = .ok (.ireturn, 1) := by decide +kernel
theorem d7_90 : decode prog_127_method_10_code 90 = .ok (.aload_n 0, 1) := by decide +kernel
theorem d7_91 : decode prog_127_method_10_code 91 = .ok (.dup, 1) := by decide +kernel
theorem d7_92 : decode prog_127_method_10_code 92 = .ok (.getfield 13, 3) := by decide +kernel
theorem d7_95 : decode prog_127_method_10_code 95 = .ok (.iload_n 3, 1) := by decide +kernel
theorem d7_96 : decode prog_127_method_10_code 96 = .ok (.iadd, 1) := by decide +kernel
theorem d7_97 : decode prog_127_method_10_code 97 = .ok (.putfield 13, 3) := by decide +kernel
theorem d7_100 : decode prog_127_method_10_code 100 = .ok (.iload 4, 2) := by decide +kernel
theorem d7_102 : decode prog_127_method_10_code 102 = .ok (.ireturn, 1) := by decide +kernel
theorem pn_7 : plainName "com/example/clapboard/clapboard/parse/TextCursor" = true := by first | (simp [plainName, overriddenIn]; done) | decide +kernel
theorem ef_7 (m : MethodId) (a1 : Addr) (p2 : Int32) (p3 : Int32) : entryFrame m #[(.ref a1), (.int p2), (.int p3)] 5 = mkF m 0 #[.val (.ref a1), .val (.int p2), .val (.int p3), .unset, .unset] [] := by first | (simp [entryFrame, mkF, argsToLocals, Value.category]; done) | rfl
def f7_u1 (f_v_text_a1 : Int32 → Int32) (i3 : Int32) (i4 : Int32) (x_at : Int32) : Int32 := (((i4 * (10 : Int32)) + (f_v_text_a1 (x_at + i3))) - (48 : Int32))
def f7_L (p2 : Int32) (p3 : Int32) (v_at_a1 : Int32) (v_end_a1 : Int32) (f_v_text_a1 : Int32 → Int32) : Nat → (Int32) → (Int32) → (Int32) → Int32
  | 0, _, _, _ => 0
  | k + 1, i3, i4, x_at => (if (x_at + i3) < v_end_a1 then (if (f_v_text_a1 (x_at + i3)) < (48 : Int32) then (if i3 < p2 then (-1 : Int32) else (if p3 < i3 then (-1 : Int32) else i4)) else (if (57 : Int32) < (f_v_text_a1 (x_at + i3)) then (if i3 < p2 then (-1 : Int32) else (if p3 < i3 then (-1 : Int32) else i4)) else (f7_L p2 p3 v_at_a1 v_end_a1 f_v_text_a1 k (i3 + (1 : Int32)) (f7_u1 f_v_text_a1 i3 i4 x_at) x_at))) else (if i3 < p2 then (-1 : Int32) else (if p3 < i3 then (-1 : Int32) else i4)))
theorem f7_L_succ (p2 : Int32) (p3 : Int32) (v_at_a1 : Int32) (v_end_a1 : Int32) (f_v_text_a1 : Int32 → Int32) (k : Nat) (i3 : Int32) (i4 : Int32) (x_at : Int32) : f7_L p2 p3 v_at_a1 v_end_a1 f_v_text_a1 (k + 1) i3 i4 x_at = (if (x_at + i3) < v_end_a1 then (if (f_v_text_a1 (x_at + i3)) < (48 : Int32) then (if i3 < p2 then (-1 : Int32) else (if p3 < i3 then (-1 : Int32) else i4)) else (if (57 : Int32) < (f_v_text_a1 (x_at + i3)) then (if i3 < p2 then (-1 : Int32) else (if p3 < i3 then (-1 : Int32) else i4)) else (f7_L p2 p3 v_at_a1 v_end_a1 f_v_text_a1 k (i3 + (1 : Int32)) (f7_u1 f_v_text_a1 i3 i4 x_at) x_at))) else (if i3 < p2 then (-1 : Int32) else (if p3 < i3 then (-1 : Int32) else i4))) := rfl
def f7_F_at_a1 (p2 : Int32) (p3 : Int32) (v_at_a1 : Int32) (v_end_a1 : Int32) (f_v_text_a1 : Int32 → Int32) : Nat → (Int32) → (Int32) → (Int32) → Int32
  | 0, _, _, x_at => x_at
  | k + 1, i3, i4, x_at => (if (x_at + i3) < v_end_a1 then (if (f_v_text_a1 (x_at + i3)) < (48 : Int32) then (if i3 < p2 then x_at else (if p3 < i3 then x_at else (x_at + i3))) else (if (57 : Int32) < (f_v_text_a1 (x_at + i3)) then (if i3 < p2 then x_at else (if p3 < i3 then x_at else (x_at + i3))) else (f7_F_at_a1 p2 p3 v_at_a1 v_end_a1 f_v_text_a1 k (i3 + (1 : Int32)) (f7_u1 f_v_text_a1 i3 i4 x_at) x_at))) else (if i3 < p2 then x_at else (if p3 < i3 then x_at else (x_at + i3))))
theorem f7_F_at_a1_succ (p2 : Int32) (p3 : Int32) (v_at_a1 : Int32) (v_end_a1 : Int32) (f_v_text_a1 : Int32 → Int32) (k : Nat) (i3 : Int32) (i4 : Int32) (x_at : Int32) : f7_F_at_a1 p2 p3 v_at_a1 v_end_a1 f_v_text_a1 (k + 1) i3 i4 x_at = (if (x_at + i3) < v_end_a1 then (if (f_v_text_a1 (x_at + i3)) < (48 : Int32) then (if i3 < p2 then x_at else (if p3 < i3 then x_at else (x_at + i3))) else (if (57 : Int32) < (f_v_text_a1 (x_at + i3)) then (if i3 < p2 then x_at else (if p3 < i3 then x_at else (x_at + i3))) else (f7_F_at_a1 p2 p3 v_at_a1 v_end_a1 f_v_text_a1 k (i3 + (1 : Int32)) (f7_u1 f_v_text_a1 i3 i4 x_at) x_at))) else (if i3 < p2 then x_at else (if p3 < i3 then x_at else (x_at + i3)))) := rfl
def f7 (p2 : Int32) (p3 : Int32) (v_at_a1 : Int32) (v_end_a1 : Int32) (f_v_text_a1 : Int32 → Int32) : Int32 := (f7_L p2 p3 v_at_a1 v_end_a1 f_v_text_a1 (10) (0 : Int32) (0 : Int32) v_at_a1)
def f7_F_at_a10 (p2 : Int32) (p3 : Int32) (v_at_a1 : Int32) (v_end_a1 : Int32) (f_v_text_a1 : Int32 → Int32) : Int32 := (f7_F_at_a1 p2 p3 v_at_a1 v_end_a1 f_v_text_a1 (10) (0 : Int32) (0 : Int32) v_at_a1)
def Q7 (Z : State) (a1 : Addr) (p2 : Int32) (p3 : Int32) (v_at_a1 : Int32) (v_end_a1 : Int32) (v_text_a1 : Addr) (n_v_text_a1 : Int32) (f_v_text_a1 : Int32 → Int32) (h0 : Heap) (n0 : Nat) (v : Option Value) (h : Heap) (L : List Loc) : Prop := v = some (.int (f7 p2 p3 v_at_a1 v_end_a1 f_v_text_a1)) ∧ Fr n0 L ∧ Keep h0 h [a1] ∧ Fld Z h a1 "com/example/clapboard/clapboard/parse/TextCursor" "at" "I" (.int (f7_F_at_a10 p2 p3 v_at_a1 v_end_a1 f_v_text_a1)) ∧ Fld Z h a1 "com/example/clapboard/clapboard/parse/TextCursor" "end" "I" (.int v_end_a1) ∧ Fld Z h a1 "com/example/clapboard/clapboard/parse/TextCursor" "text" "[C" (.ref v_text_a1) ∧ Exa Z h a1 "com/example/clapboard/clapboard/parse/TextCursor"
set_option maxRecDepth 65536 in
set_option maxHeartbeats 40000000 in
theorem rm7 (l : Launch) (Z : State) (a0 : Array Value) (hw : ∀ d ∈ tables_1, d.before a0 Z = true) (ws : List Jvm.Cond) (a1 : Addr) (p2 : Int32) (p3 : Int32) (v_at_a1 : Int32) (v_end_a1 : Int32) (v_text_a1 : Addr) (n_v_text_a1 : Int32) (f_v_text_a1 : Int32 → Int32) (h0 : Heap) (n0 : Nat) (Z0 : n0 ≤ h0.size) (he : ¬ n_v_text_a1 < v_end_a1) (hs : ¬ v_at_a1 < 0) (hj0 : ¬ v_end_a1 < v_at_a1) (hl : v_end_a1.toInt - v_at_a1.toInt < 10) (F_at_a1 : Fld Z h0 a1 "com/example/clapboard/clapboard/parse/TextCursor" "at" "I" (.int v_at_a1)) (F_end_a1 : Fld Z h0 a1 "com/example/clapboard/clapboard/parse/TextCursor" "end" "I" (.int v_end_a1)) (F_text_a1 : Fld Z h0 a1 "com/example/clapboard/clapboard/parse/TextCursor" "text" "[C" (.ref v_text_a1)) (A_v_text_a1 : Ia Z h0 v_text_a1 .char n_v_text_a1 f_v_text_a1) (E_a1 : Exa Z h0 a1 "com/example/clapboard/clapboard/parse/TextCursor") (g_a1 : n0 ≤ a1) :
    MetFree l (⟨"com/example/clapboard/clapboard/parse/TextCursor", "readNumber", "(II)I"⟩ : MethodName) (head1 (Jvm.Cond.code (⟨"com/example/clapboard/clapboard/parse/TextCursor", "readNumber", "(II)I"⟩ : MethodName) prog_127_method_10_code 5 (some .int) :: ws) ({ frames := 0, cells := 0, slots := 0, locals := 0 } : Room)) (fun a U => a = #[(.ref a1), (.int p2), (.int p3)] ∧ Z.Warmed39 U.vm ∧ U.heap = h0) (fun _ _ _ _ _ => True) (fun _ U o U' => ∃ v L, o = .returned v ∧ Q7 Z a1 p2 p3 v_at_a1 v_end_a1 v_text_a1 n_v_text_a1 f_v_text_a1 h0 n0 v U'.heap L ∧ FrameEnd U o U' L ({ frames := 0, cells := 0, slots := 0, locals := 0 } : Room).cells ({ frames := 0, cells := 0, slots := 0, locals := 0 } : Room).slots) := by
  refine MetFree.of_bodySF (plainFor_of_name pn_7) hisR ?_
  intro p e s m args below meth c s₁ Bd hml0 hP hK
  obtain ⟨rfl, hZ, hh⟩ := hP
  have hx := Bd.exec
  have hby := Bd.bytes
  have hml : c.maxLocals = 5 := hml0
  have hown : s.vm.findClass "com/example/clapboard/clapboard/parse/TextCursor" = some m.cls := findClass_of_methodNamed Bd.named
  have hnm := (name_of_methodNamed Bd.named Bd.method).1
  have X0 : Stand p l e ({ frames := 0, cells := 0, slots := 0, locals := 0 } : Room) s m #[(.ref a1), (.int p2), (.int p3)] below meth c s₁ [] 0 0 := Stand.of_body Bd
  have e0 : s₁.heap = h0 := by rw [← hh, Bd.state]; rfl
  have N0 := Fr.nil n0
  have pre0 : ∀ t, Steps p.tables e below (s₁.setTop (mkF m 0 #[.val (.ref a1), .val (.int p2), .val (.int p3), .unset, .unset] [])) t → Steps p.tables e below (s₁.setTop (entryFrame m #[(.ref a1), (.int p2), (.int p3)] 5)) t := fun t k => castTop (ef_7 m a1 p2 p3) k
  have K1 : ∀ t, Steps p.tables e below (s₁.setTop (mkF m 5 #[.val (.ref a1), .val (.int p2), .val (.int p3), .val (.int (0 : Int32)), .val (.int (0 : Int32))] [])) t → Steps p.tables e below (s₁.setTop (mkF m 0 #[.val (.ref a1), .val (.int p2), .val (.int p3), .unset, .unset] [])) t := by
    intro t k
    refine XS.iconst X0.here hx rfl (Jvm.hb hby d7_0) ?_
    show Steps p.tables e below (s₁.setTop (mkF m 1 #[.val (.ref a1), .val (.int p2), .val (.int p3), .unset, .unset] [(.int (0 : Int32))])) t
    refine XS.istoreN X0.here hx rfl (Jvm.hb hby d7_1) rfl (l' := #[.val (.ref a1), .val (.int p2), .val (.int p3), .val (.int (0 : Int32)), .unset]) rfl ?_
    show Steps p.tables e below (s₁.setTop (mkF m 2 #[.val (.ref a1), .val (.int p2), .val (.int p3), .val (.int (0 : Int32)), .unset] [])) t
    refine XS.iconst X0.here hx rfl (Jvm.hb hby d7_2) ?_
    show Steps p.tables e below (s₁.setTop (mkF m 3 #[.val (.ref a1), .val (.int p2), .val (.int p3), .val (.int (0 : Int32)), .unset] [(.int (0 : Int32))])) t
    refine XS.istore X0.here hx rfl (Jvm.hb hby d7_3) rfl (l' := #[.val (.ref a1), .val (.int p2), .val (.int p3), .val (.int (0 : Int32)), .val (.int (0 : Int32))]) rfl ?_
    show Steps p.tables e below (s₁.setTop (mkF m 5 #[.val (.ref a1), .val (.int p2), .val (.int p3), .val (.int (0 : Int32)), .val (.int (0 : Int32))] [])) t
    exact k
  have LP : ∀ (k : Nat) (i3 : Int32) (i4 : Int32) (x_at : Int32) (TL : State) (hL : Heap) (LL : List Loc), Stand p l e ({ frames := 0, cells := 0, slots := 0, locals := 0 } : Room) s m #[(.ref a1), (.int p2), (.int p3)] below meth c TL LL 0 0 → TL.heap = hL → Fr n0 LL → Keep h0 hL [a1] → Fld Z hL a1 "com/example/clapboard/clapboard/parse/TextCursor" "at" "I" (.int x_at) → Fld Z hL a1 "com/example/clapboard/clapboard/parse/TextCursor" "end" "I" (.int v_end_a1) → Fld Z hL a1 "com/example/clapboard/clapboard/parse/TextCursor" "text" "[C" (.ref v_text_a1) → Ia Z hL v_text_a1 .char n_v_text_a1 f_v_text_a1 → Exa Z hL a1 "com/example/clapboard/clapboard/parse/TextCursor" → (¬ (x_at + i3) < 0) → (¬ v_end_a1 < (x_at + i3)) → (v_end_a1.toInt - (x_at + i3).toInt < (k : Int)) → ∃ s₂ o, Steps p.tables e below (TL.setTop (mkF m 5 #[.val (.ref a1), .val (.int p2), .val (.int p3), .val (.int i3), .val (.int i4)] [])) s₂ ∧ s₂.status = .running ∧ Ended s₂ below o ∧ ∃ v L, o = .returned v ∧ (v = some (.int (f7_L p2 p3 v_at_a1 v_end_a1 f_v_text_a1 k i3 i4 x_at)) ∧ Fr n0 L ∧ Keep h0 s₂.heap [a1] ∧ Fld Z s₂.heap a1 "com/example/clapboard/clapboard/parse/TextCursor" "at" "I" (.int (f7_F_at_a1 p2 p3 v_at_a1 v_end_a1 f_v_text_a1 k i3 i4 x_at)) ∧ Fld Z s₂.heap a1 "com/example/clapboard/clapboard/parse/TextCursor" "end" "I" (.int v_end_a1) ∧ Fld Z s₂.heap a1 "com/example/clapboard/clapboard/parse/TextCursor" "text" "[C" (.ref v_text_a1) ∧ Exa Z s₂.heap a1 "com/example/clapboard/clapboard/parse/TextCursor") ∧ FrameEnd s o s₂ L ({ frames := 0, cells := 0, slots := 0, locals := 0 } : Room).cells ({ frames := 0, cells := 0, slots := 0, locals := 0 } : Room).slots := by
    intro k
    induction k with
    | zero =>
      intro i3 i4 x_at TL hL LL XL eL NL KL hL_0 hL_1 hL_2 hL_3 hL_4 hi hj hk
      exfalso
      exact own_z _ _ hj hk
    | succ k ih =>
      intro i3 i4 x_at TL hL LL XL eL NL KL hL_0 hL_1 hL_2 hL_3 hL_4 hi hj hk
      have K501 : ∀ t, Steps p.tables e below (TL.setTop (mkF m 6 #[.val (.ref a1), .val (.int p2), .val (.int p3), .val (.int i3), .val (.int i4)] [(.ref a1)])) t → Steps p.tables e below (TL.setTop (mkF m 5 #[.val (.ref a1), .val (.int p2), .val (.int p3), .val (.int i3), .val (.int i4)] [])) t := by
        intro t k
        refine XS.aloadN XL.here hx rfl (Jvm.hb hby d7_5) rfl rfl ?_
        show Steps p.tables e below (TL.setTop (mkF m 6 #[.val (.ref a1), .val (.int p2), .val (.int p3), .val (.int i3), .val (.int i4)] [(.ref a1)])) t
        exact k
      obtain ⟨T502, X502, e502, st502⟩ := getF XL hx hZ hown (host := "") (Or.inl (hw _ (List.mem_of_getElem? (i := 26) rfl))) Via.refl eL hL_0 (g := (mkF m 6 #[.val (.ref a1), .val (.int p2), .val (.int p3), .val (.int i3), .val (.int i4)] [(.ref a1)])) rfl rfl (Jvm.hb hby d7_6)
      have K503 : ∀ t, Steps p.tables e below (T502.setTop (mkF m 9 #[.val (.ref a1), .val (.int p2), .val (.int p3), .val (.int i3), .val (.int i4)] [(.int x_at)])) t → Steps p.tables e below (TL.setTop (mkF m 6 #[.val (.ref a1), .val (.int p2), .val (.int p3), .val (.int i3), .val (.int i4)] [(.ref a1)])) t := fun t k => st502 _ k
      have K504 : ∀ t, Steps p.tables e below (T502.setTop (mkF m 12 #[.val (.ref a1), .val (.int p2), .val (.int p3), .val (.int i3), .val (.int i4)] [(.ref a1), (.int (x_at + i3))])) t → Steps p.tables e below (T502.setTop (mkF m 9 #[.val (.ref a1), .val (.int p2), .val (.int p3), .val (.int i3), .val (.int i4)] [(.int x_at)])) t := by
        intro t k
        refine XS.iloadN X502.here hx rfl (Jvm.hb hby d7_9) rfl ?_
        show Steps p.tables e below (T502.setTop (mkF m 10 #[.val (.ref a1), .val (.int p2), .val (.int p3), .val (.int i3), .val (.int i4)] [(.int i3), (.int x_at)])) t
        refine XS.iadd X502.here hx rfl (Jvm.hb hby d7_10) rfl ?_
        show Steps p.tables e below (T502.setTop (mkF m 11 #[.val (.ref a1), .val (.int p2), .val (.int p3), .val (.int i3), .val (.int i4)] [(.int (x_at + i3))])) t
        refine XS.aloadN X502.here hx rfl (Jvm.hb hby d7_11) rfl rfl ?_
        show Steps p.tables e below (T502.setTop (mkF m 12 #[.val (.ref a1), .val (.int p2), .val (.int p3), .val (.int i3), .val (.int i4)] [(.ref a1), (.int (x_at + i3))])) t
        exact k
      obtain ⟨T505, X505, e505, st505⟩ := getF X502 hx hZ hown (host := "") (Or.inl (hw _ (List.mem_of_getElem? (i := 28) rfl))) Via.refl e502 hL_1 (g := (mkF m 12 #[.val (.ref a1), .val (.int p2), .val (.int p3), .val (.int i3), .val (.int i4)] [(.ref a1), (.int (x_at + i3))])) rfl rfl (Jvm.hb hby d7_12)
      have K506 : ∀ t, Steps p.tables e below (T505.setTop (mkF m 15 #[.val (.ref a1), .val (.int p2), .val (.int p3), .val (.int i3), .val (.int i4)] [(.int v_end_a1), (.int (x_at + i3))])) t → Steps p.tables e below (T502.setTop (mkF m 12 #[.val (.ref a1), .val (.int p2), .val (.int p3), .val (.int i3), .val (.int i4)] [(.ref a1), (.int (x_at + i3))])) t := fun t k => st505 _ k
      by_cases hc507 : (x_at + i3) < v_end_a1
      · have K508 : ∀ t, Steps p.tables e below (T505.setTop (mkF m 18 #[.val (.ref a1), .val (.int p2), .val (.int p3), .val (.int i3), .val (.int i4)] [])) t → Steps p.tables e below (T505.setTop (mkF m 15 #[.val (.ref a1), .val (.int p2), .val (.int p3), .val (.int i3), .val (.int i4)] [(.int v_end_a1), (.int (x_at + i3))])) t := by
          intro t k
          refine XS.icmpNo X505.here hx rfl (Jvm.hb hby d7_15) rfl (tlt hc507).2.1 ?_
          exact k
        have K509 : ∀ t, Steps p.tables e below (T505.setTop (mkF m 19 #[.val (.ref a1), .val (.int p2), .val (.int p3), .val (.int i3), .val (.int i4)] [(.ref a1)])) t → Steps p.tables e below (T505.setTop (mkF m 18 #[.val (.ref a1), .val (.int p2), .val (.int p3), .val (.int i3), .val (.int i4)] [])) t := by
          intro t k
          refine XS.aloadN X505.here hx rfl (Jvm.hb hby d7_18) rfl rfl ?_
          show Steps p.tables e below (T505.setTop (mkF m 19 #[.val (.ref a1), .val (.int p2), .val (.int p3), .val (.int i3), .val (.int i4)] [(.ref a1)])) t
          exact k
        obtain ⟨T510, X510, e510, st510⟩ := getF X505 hx hZ hown (host := "") (Or.inl (hw _ (List.mem_of_getElem? (i := 24) rfl))) Via.refl e505 hL_2 (g := (mkF m 19 #[.val (.ref a1), .val (.int p2), .val (.int p3), .val (.int i3), .val (.int i4)] [(.ref a1)])) rfl rfl (Jvm.hb hby d7_19)
        have K511 : ∀ t, Steps p.tables e below (T510.setTop (mkF m 22 #[.val (.ref a1), .val (.int p2), .val (.int p3), .val (.int i3), .val (.int i4)] [(.ref v_text_a1)])) t → Steps p.tables e below (T505.setTop (mkF m 19 #[.val (.ref a1), .val (.int p2), .val (.int p3), .val (.int i3), .val (.int i4)] [(.ref a1)])) t := fun t k => st510 _ k
        have K512 : ∀ t, Steps p.tables e below (T510.setTop (mkF m 23 #[.val (.ref a1), .val (.int p2), .val (.int p3), .val (.int i3), .val (.int i4)] [(.ref a1), (.ref v_text_a1)])) t → Steps p.tables e below (T510.setTop (mkF m 22 #[.val (.ref a1), .val (.int p2), .val (.int p3), .val (.int i3), .val (.int i4)] [(.ref v_text_a1)])) t := by
          intro t k
          refine XS.aloadN X510.here hx rfl (Jvm.hb hby d7_22) rfl rfl ?_
          show Steps p.tables e below (T510.setTop (mkF m 23 #[.val (.ref a1), .val (.int p2), .val (.int p3), .val (.int i3), .val (.int i4)] [(.ref a1), (.ref v_text_a1)])) t
          exact k
        obtain ⟨T513, X513, e513, st513⟩ := getF X510 hx hZ hown (host := "") (Or.inl (hw _ (List.mem_of_getElem? (i := 26) rfl))) Via.refl e510 hL_0 (g := (mkF m 23 #[.val (.ref a1), .val (.int p2), .val (.int p3), .val (.int i3), .val (.int i4)] [(.ref a1), (.ref v_text_a1)])) rfl rfl (Jvm.hb hby d7_23)
        have K514 : ∀ t, Steps p.tables e below (T513.setTop (mkF m 26 #[.val (.ref a1), .val (.int p2), .val (.int p3), .val (.int i3), .val (.int i4)] [(.int x_at), (.ref v_text_a1)])) t → Steps p.tables e below (T510.setTop (mkF m 23 #[.val (.ref a1), .val (.int p2), .val (.int p3), .val (.int i3), .val (.int i4)] [(.ref a1), (.ref v_text_a1)])) t := fun t k => st513 _ k
        have K519 : ∀ t, Steps p.tables e below (T513.setTop (mkF m 28 #[.val (.ref a1), .val (.int p2), .val (.int p3), .val (.int i3), .val (.int i4)] [(.int (x_at + i3)), (.ref v_text_a1)])) t → Steps p.tables e below (T513.setTop (mkF m 26 #[.val (.ref a1), .val (.int p2), .val (.int p3), .val (.int i3), .val (.int i4)] [(.int x_at), (.ref v_text_a1)])) t := by
          intro t k
          refine XS.iloadN X513.here hx rfl (Jvm.hb hby d7_26) rfl ?_
          show Steps p.tables e below (T513.setTop (mkF m 27 #[.val (.ref a1), .val (.int p2), .val (.int p3), .val (.int i3), .val (.int i4)] [(.int i3), (.int x_at), (.ref v_text_a1)])) t
          refine XS.iadd X513.here hx rfl (Jvm.hb hby d7_27) rfl ?_
          show Steps p.tables e below (T513.setTop (mkF m 28 #[.val (.ref a1), .val (.int p2), .val (.int p3), .val (.int i3), .val (.int i4)] [(.int (x_at + i3)), (.ref v_text_a1)])) t
          exact k
        have hin515 : ¬ (x_at + i3) < 0 ∧ (x_at + i3) < n_v_text_a1 := by exact ⟨hi, own_tr _ _ _ (by assumption) he⟩
        obtain ⟨cl516, Aq517, hjhin515, aq518⟩ := Ia.at hL_3 hin515
        have K520 : ∀ t, Steps p.tables e below (T513.setTop (mkF m 31 #[.val (.ref a1), .val (.int p2), .val (.int p3), .val (.int i3), .val (.int i4)] [(.int (48 : Int32)), (.int (f_v_text_a1 (x_at + i3)))])) t → Steps p.tables e below (T513.setTop (mkF m 28 #[.val (.ref a1), .val (.int p2), .val (.int p3), .val (.int i3), .val (.int i4)] [(.int (x_at + i3)), (.ref v_text_a1)])) t := by
          intro t k
          refine X513.caload hx (j := (x_at + i3)) (v := .int (f_v_text_a1 (x_at + i3))) (by rw [e513]; exact Aq517.1) (State.isArrayOf_alike hZ.alike Aq517.2.1) Aq517.2.2 hjhin515 aq518 (g := (mkF m 28 #[.val (.ref a1), .val (.int p2), .val (.int p3), .val (.int i3), .val (.int i4)] [(.int (x_at + i3)), (.ref v_text_a1)])) rfl rfl (Jvm.hb hby d7_28) _ ?_
          show Steps p.tables e below (T513.setTop (mkF m 29 #[.val (.ref a1), .val (.int p2), .val (.int p3), .val (.int i3), .val (.int i4)] [(.int (f_v_text_a1 (x_at + i3)))])) t
          refine XS.bipush X513.here hx rfl (Jvm.hb hby d7_29) ?_
          show Steps p.tables e below (T513.setTop (mkF m 31 #[.val (.ref a1), .val (.int p2), .val (.int p3), .val (.int i3), .val (.int i4)] [(.int (48 : Int32)), (.int (f_v_text_a1 (x_at + i3)))])) t
          exact k
        by_cases hc521 : (f_v_text_a1 (x_at + i3)) < (48 : Int32)
        · have K522 : ∀ t, Steps p.tables e below (T513.setTop (mkF m 78 #[.val (.ref a1), .val (.int p2), .val (.int p3), .val (.int i3), .val (.int i4)] [])) t → Steps p.tables e below (T513.setTop (mkF m 31 #[.val (.ref a1), .val (.int p2), .val (.int p3), .val (.int i3), .val (.int i4)] [(.int (48 : Int32)), (.int (f_v_text_a1 (x_at + i3)))])) t := by
            intro t k
            refine XS.icmpYes X513.here hx rfl (pc0 := 31) (pc' := 78) rfl (Jvm.hb hby d7_31) rfl (tlt hc521).1 (by decide) (by decide) ?_
            exact k
          have K523 : ∀ t, Steps p.tables e below (T513.setTop (mkF m 80 #[.val (.ref a1), .val (.int p2), .val (.int p3), .val (.int i3), .val (.int i4)] [(.int p2), (.int i3)])) t → Steps p.tables e below (T513.setTop (mkF m 78 #[.val (.ref a1), .val (.int p2), .val (.int p3), .val (.int i3), .val (.int i4)] [])) t := by
            intro t k
            refine XS.iloadN X513.here hx rfl (Jvm.hb hby d7_78) rfl ?_
            show Steps p.tables e below (T513.setTop (mkF m 79 #[.val (.ref a1), .val (.int p2), .val (.int p3), .val (.int i3), .val (.int i4)] [(.int i3)])) t
            refine XS.iloadN X513.here hx rfl (Jvm.hb hby d7_79) rfl ?_
            show Steps p.tables e below (T513.setTop (mkF m 80 #[.val (.ref a1), .val (.int p2), .val (.int p3), .val (.int i3), .val (.int i4)] [(.int p2), (.int i3)])) t
            exact k
          by_cases hc524 : i3 < p2
          · have K525 : ∀ t, Steps p.tables e below (T513.setTop (mkF m 88 #[.val (.ref a1), .val (.int p2), .val (.int p3), .val (.int i3), .val (.int i4)] [])) t → Steps p.tables e below (T513.setTop (mkF m 80 #[.val (.ref a1), .val (.int p2), .val (.int p3), .val (.int i3), .val (.int i4)] [(.int p2), (.int i3)])) t := by
              intro t k
              refine XS.icmpYes X513.here hx rfl (pc0 := 80) (pc' := 88) rfl (Jvm.hb hby d7_80) rfl (tlt hc524).1 (by decide) (by decide) ?_
              exact k
            have K526 : ∀ t, Steps p.tables e below (T513.setTop (mkF m 89 #[.val (.ref a1), .val (.int p2), .val (.int p3), .val (.int i3), .val (.int i4)] [(.int (-1 : Int32))])) t → Steps p.tables e below (T513.setTop (mkF m 88 #[.val (.ref a1), .val (.int p2), .val (.int p3), .val (.int i3), .val (.int i4)] [])) t := by
              intro t k
              refine XS.iconst X513.here hx rfl (Jvm.hb hby d7_88) ?_
              show Steps p.tables e below (T513.setTop (mkF m 89 #[.val (.ref a1), .val (.int p2), .val (.int p3), .val (.int i3), .val (.int i4)] [(.int (-1 : Int32))])) t
              exact k
            obtain ⟨fs, hr, hrun, hended, hW, hsame⟩ := X513.leave (v := some (.int (-1 : Int32))) (fun h => by rw [Bd.returns] at h; cases h) Bd.notSynchronized
            refine ⟨_, _, (K501 _ (K503 _ (K504 _ (K506 _ (K508 _ (K509 _ (K511 _ (K512 _ (K514 _ (K519 _ (K520 _ (K522 _ (K523 _ (K525 _ (K526 _ (retI X513 hx Bd.returns (Jvm.hb hby d7_89) hr)))))))))))))))), hrun, hended, _, _, rfl, ?_, ⟨_, rfl⟩, hW, hsame.mono (by decide) (by decide)⟩
            show ((_ : Option Value) = some (.int (f7_L p2 p3 v_at_a1 v_end_a1 f_v_text_a1 (k + 1) i3 i4 x_at)) ∧ Fr n0 _ ∧ Keep h0 T513.heap [a1] ∧ Fld Z T513.heap a1 "com/example/clapboard/clapboard/parse/TextCursor" "at" "I" (.int (f7_F_at_a1 p2 p3 v_at_a1 v_end_a1 f_v_text_a1 (k + 1) i3 i4 x_at)) ∧ Fld Z T513.heap a1 "com/example/clapboard/clapboard/parse/TextCursor" "end" "I" (.int v_end_a1) ∧ Fld Z T513.heap a1 "com/example/clapboard/clapboard/parse/TextCursor" "text" "[C" (.ref v_text_a1) ∧ Exa Z T513.heap a1 "com/example/clapboard/clapboard/parse/TextCursor")
            rw [e513]
            exact ⟨congrArg (fun z => some (Value.int z)) (show (-1 : Int32) = f7_L p2 p3 v_at_a1 v_end_a1 f_v_text_a1 (k + 1) i3 i4 x_at from Eq.symm ((f7_L_succ p2 p3 v_at_a1 v_end_a1 f_v_text_a1 k i3 i4 x_at).trans ((if_pos hc507).trans ((if_pos hc521).trans (if_pos hc524))))), NL, KL, (by rw [show f7_F_at_a1 p2 p3 v_at_a1 v_end_a1 f_v_text_a1 (k + 1) i3 i4 x_at = x_at from (f7_F_at_a1_succ p2 p3 v_at_a1 v_end_a1 f_v_text_a1 k i3 i4 x_at).trans ((if_pos hc507).trans ((if_pos hc521).trans (if_pos hc524)))]; exact hL_0), hL_1, hL_2, hL_4⟩
          · have K527 : ∀ t, Steps p.tables e below (T513.setTop (mkF m 83 #[.val (.ref a1), .val (.int p2), .val (.int p3), .val (.int i3), .val (.int i4)] [])) t → Steps p.tables e below (T513.setTop (mkF m 80 #[.val (.ref a1), .val (.int p2), .val (.int p3), .val (.int i3), .val (.int i4)] [(.int p2), (.int i3)])) t := by
              intro t k
              refine XS.icmpNo X513.here hx rfl (Jvm.hb hby d7_80) rfl (flt hc524).1 ?_
              exact k
            have K528 : ∀ t, Steps p.tables e below (T513.setTop (mkF m 85 #[.val (.ref a1), .val (.int p2), .val (.int p3), .val (.int i3), .val (.int i4)] [(.int p3), (.int i3)])) t → Steps p.tables e below (T513.setTop (mkF m 83 #[.val (.ref a1), .val (.int p2), .val (.int p3), .val (.int i3), .val (.int i4)] [])) t := by
              intro t k
              refine XS.iloadN X513.here hx rfl (Jvm.hb hby d7_83) rfl ?_
              show Steps p.tables e below (T513.setTop (mkF m 84 #[.val (.ref a1), .val (.int p2), .val (.int p3), .val (.int i3), .val (.int i4)] [(.int i3)])) t
              refine XS.iloadN X513.here hx rfl (Jvm.hb hby d7_84) rfl ?_
              show Steps p.tables e below (T513.setTop (mkF m 85 #[.val (.ref a1), .val (.int p2), .val (.int p3), .val (.int i3), .val (.int i4)] [(.int p3), (.int i3)])) t
              exact k
            by_cases hc529 : p3 < i3
            · have K530 : ∀ t, Steps p.tables e below (T513.setTop (mkF m 88 #[.val (.ref a1), .val (.int p2), .val (.int p3), .val (.int i3), .val (.int i4)] [])) t → Steps p.tables e below (T513.setTop (mkF m 85 #[.val (.ref a1), .val (.int p2), .val (.int p3), .val (.int i3), .val (.int i4)] [(.int p3), (.int i3)])) t := by
                intro t k
                refine XS.icmpNo X513.here hx rfl (Jvm.hb hby d7_85) rfl (tlt hc529).2.2.2 ?_
                exact k
              have K531 : ∀ t, Steps p.tables e below (T513.setTop (mkF m 89 #[.val (.ref a1), .val (.int p2), .val (.int p3), .val (.int i3), .val (.int i4)] [(.int (-1 : Int32))])) t → Steps p.tables e below (T513.setTop (mkF m 88 #[.val (.ref a1), .val (.int p2), .val (.int p3), .val (.int i3), .val (.int i4)] [])) t := by
                intro t k
                refine XS.iconst X513.here hx rfl (Jvm.hb hby d7_88) ?_
                show Steps p.tables e below (T513.setTop (mkF m 89 #[.val (.ref a1), .val (.int p2), .val (.int p3), .val (.int i3), .val (.int i4)] [(.int (-1 : Int32))])) t
                exact k
              obtain ⟨fs, hr, hrun, hended, hW, hsame⟩ := X513.leave (v := some (.int (-1 : Int32))) (fun h => by rw [Bd.returns] at h; cases h) Bd.notSynchronized
              refine ⟨_, _, (K501 _ (K503 _ (K504 _ (K506 _ (K508 _ (K509 _ (K511 _ (K512 _ (K514 _ (K519 _ (K520 _ (K522 _ (K523 _ (K527 _ (K528 _ (K530 _ (K531 _ (retI X513 hx Bd.returns (Jvm.hb hby d7_89) hr)))))))))))))))))), hrun, hended, _, _, rfl, ?_, ⟨_, rfl⟩, hW, hsame.mono (by decide) (by decide)⟩
              show ((_ : Option Value) = some (.int (f7_L p2 p3 v_at_a1 v_end_a1 f_v_text_a1 (k + 1) i3 i4 x_at)) ∧ Fr n0 _ ∧ Keep h0 T513.heap [a1] ∧ Fld Z T513.heap a1 "com/example/clapboard/clapboard/parse/TextCursor" "at" "I" (.int (f7_F_at_a1 p2 p3 v_at_a1 v_end_a1 f_v_text_a1 (k + 1) i3 i4 x_at)) ∧ Fld Z T513.heap a1 "com/example/clapboard/clapboard/parse/TextCursor" "end" "I" (.int v_end_a1) ∧ Fld Z T513.heap a1 "com/example/clapboard/clapboard/parse/TextCursor" "text" "[C" (.ref v_text_a1) ∧ Exa Z T513.heap a1 "com/example/clapboard/clapboard/parse/TextCursor")
              rw [e513]
              exact ⟨congrArg (fun z => some (Value.int z)) (show (-1 : Int32) = f7_L p2 p3 v_at_a1 v_end_a1 f_v_text_a1 (k + 1) i3 i4 x_at from Eq.symm ((f7_L_succ p2 p3 v_at_a1 v_end_a1 f_v_text_a1 k i3 i4 x_at).trans ((if_pos hc507).trans ((if_pos hc521).trans ((if_neg hc524).trans (if_pos hc529)))))), NL, KL, (by rw [show f7_F_at_a1 p2 p3 v_at_a1 v_end_a1 f_v_text_a1 (k + 1) i3 i4 x_at = x_at from (f7_F_at_a1_succ p2 p3 v_at_a1 v_end_a1 f_v_text_a1 k i3 i4 x_at).trans ((if_pos hc507).trans ((if_pos hc521).trans ((if_neg hc524).trans (if_pos hc529))))]; exact hL_0), hL_1, hL_2, hL_4⟩
            · have K532 : ∀ t, Steps p.tables e below (T513.setTop (mkF m 90 #[.val (.ref a1), .val (.int p2), .val (.int p3), .val (.int i3), .val (.int i4)] [])) t → Steps p.tables e below (T513.setTop (mkF m 85 #[.val (.ref a1), .val (.int p2), .val (.int p3), .val (.int i3), .val (.int i4)] [(.int p3), (.int i3)])) t := by
                intro t k
                refine XS.icmpYes X513.here hx rfl (pc0 := 85) (pc' := 90) rfl (Jvm.hb hby d7_85) rfl (flt hc529).2.2.2 (by decide) (by decide) ?_
                exact k
              have K533 : ∀ t, Steps p.tables e below (T513.setTop (mkF m 92 #[.val (.ref a1), .val (.int p2), .val (.int p3), .val (.int i3), .val (.int i4)] [(.ref a1), (.ref a1)])) t → Steps p.tables e below (T513.setTop (mkF m 90 #[.val (.ref a1), .val (.int p2), .val (.int p3), .val (.int i3), .val (.int i4)] [])) t := by
                intro t k
                refine XS.aloadN X513.here hx rfl (Jvm.hb hby d7_90) rfl rfl ?_
                show Steps p.tables e below (T513.setTop (mkF m 91 #[.val (.ref a1), .val (.int p2), .val (.int p3), .val (.int i3), .val (.int i4)] [(.ref a1)])) t
                refine XS.dup X513.here hx rfl (Jvm.hb hby d7_91) rfl rfl ?_
                show Steps p.tables e below (T513.setTop (mkF m 92 #[.val (.ref a1), .val (.int p2), .val (.int p3), .val (.int i3), .val (.int i4)] [(.ref a1), (.ref a1)])) t
                exact k
              obtain ⟨T534, X534, e534, st534⟩ := getF X513 hx hZ hown (host := "") (Or.inl (hw _ (List.mem_of_getElem? (i := 26) rfl))) Via.refl e513 hL_0 (g := (mkF m 92 #[.val (.ref a1), .val (.int p2), .val (.int p3), .val (.int i3), .val (.int i4)] [(.ref a1), (.ref a1)])) rfl rfl (Jvm.hb hby d7_92)
              have K535 : ∀ t, Steps p.tables e below (T534.setTop (mkF m 95 #[.val (.ref a1), .val (.int p2), .val (.int p3), .val (.int i3), .val (.int i4)] [(.int x_at), (.ref a1)])) t → Steps p.tables e below (T513.setTop (mkF m 92 #[.val (.ref a1), .val (.int p2), .val (.int p3), .val (.int i3), .val (.int i4)] [(.ref a1), (.ref a1)])) t := fun t k => st534 _ k
              have K536 : ∀ t, Steps p.tables e below (T534.setTop (mkF m 97 #[.val (.ref a1), .val (.int p2), .val (.int p3), .val (.int i3), .val (.int i4)] [(.int (x_at + i3)), (.ref a1)])) t → Steps p.tables e below (T534.setTop (mkF m 95 #[.val (.ref a1), .val (.int p2), .val (.int p3), .val (.int i3), .val (.int i4)] [(.int x_at), (.ref a1)])) t := by
                intro t k
                refine XS.iloadN X534.here hx rfl (Jvm.hb hby d7_95) rfl ?_
                show Steps p.tables e below (T534.setTop (mkF m 96 #[.val (.ref a1), .val (.int p2), .val (.int p3), .val (.int i3), .val (.int i4)] [(.int i3), (.int x_at), (.ref a1)])) t
                refine XS.iadd X534.here hx rfl (Jvm.hb hby d7_96) rfl ?_
                show Steps p.tables e below (T534.setTop (mkF m 97 #[.val (.ref a1), .val (.int p2), .val (.int p3), .val (.int i3), .val (.int i4)] [(.int (x_at + i3)), (.ref a1)])) t
                exact k
              obtain ⟨T537, h537, X537, e537, W537, st537⟩ := putF X534 hx hZ hown (host := "") (Or.inl (hw _ (List.mem_of_getElem? (i := 26) rfl))) Via.refl e534 hL_0 hL_4 (Or.inl (hw _ (List.mem_of_getElem? (i := 27) rfl))) (hw _ (List.mem_of_getElem? (i := 16) rfl)) (ty := .int) (by decide) rfl rfl (g := (mkF m 97 #[.val (.ref a1), .val (.int p2), .val (.int p3), .val (.int i3), .val (.int i4)] [(.int (x_at + i3)), (.ref a1)])) rfl rfl (Jvm.hb hby d7_97)
              have KP537 : Keep h0 h537 [a1] := KL.wr W537 (Or.inl (List.mem_of_getElem? (i := 0) rfl))
              have N537 := Fr.snoc X537 NL g_a1
              have F537_0 : Fld Z h537 a1 "com/example/clapboard/clapboard/parse/TextCursor" "end" "I" (.int v_end_a1) := hL_1.other W537 (Or.inr (slot_ne (Or.inl (hw _ (List.mem_of_getElem? (i := 29) rfl))) (Or.inl (hw _ (List.mem_of_getElem? (i := 27) rfl))) (by decide) (t := .int) (t' := .int) (by decide) (by decide)))
              have F537_1 : Fld Z h537 a1 "com/example/clapboard/clapboard/parse/TextCursor" "text" "[C" (.ref v_text_a1) := hL_2.other W537 (Or.inr (slot_ne (Or.inr (hw _ (List.mem_of_getElem? (i := 25) rfl))) (Or.inl (hw _ (List.mem_of_getElem? (i := 27) rfl))) (by decide) (t := (.array .char)) (t' := .int) (by decide) (by decide)))
              have A537_2 : Ia Z h537 v_text_a1 .char n_v_text_a1 f_v_text_a1 := hL_3.other W537 (Ne.symm (own_nea hL_4 (hw _ (List.mem_of_getElem? (i := 16) rfl)) hL_3))
              have E537_3 : Exa Z h537 a1 "com/example/clapboard/clapboard/parse/TextCursor" := hL_4.wr W537
              have Fw537 : Fld Z h537 a1 "com/example/clapboard/clapboard/parse/TextCursor" "at" "I" (.int (x_at + i3)) := hL_0.same W537
              have K538 : ∀ t, Steps p.tables e below (T537.setTop (mkF m 100 #[.val (.ref a1), .val (.int p2), .val (.int p3), .val (.int i3), .val (.int i4)] [])) t → Steps p.tables e below (T534.setTop (mkF m 97 #[.val (.ref a1), .val (.int p2), .val (.int p3), .val (.int i3), .val (.int i4)] [(.int (x_at + i3)), (.ref a1)])) t := fun t k => st537 _ k
              have K539 : ∀ t, Steps p.tables e below (T537.setTop (mkF m 102 #[.val (.ref a1), .val (.int p2), .val (.int p3), .val (.int i3), .val (.int i4)] [(.int i4)])) t → Steps p.tables e below (T537.setTop (mkF m 100 #[.val (.ref a1), .val (.int p2), .val (.int p3), .val (.int i3), .val (.int i4)] [])) t := by
                intro t k
                refine XS.iload X537.here hx rfl (Jvm.hb hby d7_100) rfl ?_
                show Steps p.tables e below (T537.setTop (mkF m 102 #[.val (.ref a1), .val (.int p2), .val (.int p3), .val (.int i3), .val (.int i4)] [(.int i4)])) t
                exact k
              obtain ⟨fs, hr, hrun, hended, hW, hsame⟩ := X537.leave (v := some (.int i4)) (fun h => by rw [Bd.returns] at h; cases h) Bd.notSynchronized
              refine ⟨_, _, (K501 _ (K503 _ (K504 _ (K506 _ (K508 _ (K509 _ (K511 _ (K512 _ (K514 _ (K519 _ (K520 _ (K522 _ (K523 _ (K527 _ (K528 _ (K532 _ (K533 _ (K535 _ (K536 _ (K538 _ (K539 _ (retI X537 hx Bd.returns (Jvm.hb hby d7_102) hr)))))))))))))))))))))), hrun, hended, _, _, rfl, ?_, ⟨_, rfl⟩, hW, hsame.mono (by decide) (by decide)⟩
              show ((_ : Option Value) = some (.int (f7_L p2 p3 v_at_a1 v_end_a1 f_v_text_a1 (k + 1) i3 i4 x_at)) ∧ Fr n0 _ ∧ Keep h0 T537.heap [a1] ∧ Fld Z T537.heap a1 "com/example/clapboard/clapboard/parse/TextCursor" "at" "I" (.int (f7_F_at_a1 p2 p3 v_at_a1 v_end_a1 f_v_text_a1 (k + 1) i3 i4 x_at)) ∧ Fld Z T537.heap a1 "com/example/clapboard/clapboard/parse/TextCursor" "end" "I" (.int v_end_a1) ∧ Fld Z T537.heap a1 "com/example/clapboard/clapboard/parse/TextCursor" "text" "[C" (.ref v_text_a1) ∧ Exa Z T537.heap a1 "com/example/clapboard/clapboard/parse/TextCursor")
              rw [e537]
              exact ⟨congrArg (fun z => some (Value.int z)) (show i4 = f7_L p2 p3 v_at_a1 v_end_a1 f_v_text_a1 (k + 1) i3 i4 x_at from Eq.symm ((f7_L_succ p2 p3 v_at_a1 v_end_a1 f_v_text_a1 k i3 i4 x_at).trans ((if_pos hc507).trans ((if_pos hc521).trans ((if_neg hc524).trans (if_neg hc529)))))), N537, KP537, (by rw [show f7_F_at_a1 p2 p3 v_at_a1 v_end_a1 f_v_text_a1 (k + 1) i3 i4 x_at = (x_at + i3) from (f7_F_at_a1_succ p2 p3 v_at_a1 v_end_a1 f_v_text_a1 k i3 i4 x_at).trans ((if_pos hc507).trans ((if_pos hc521).trans ((if_neg hc524).trans (if_neg hc529))))]; exact Fw537), F537_0, F537_1, E537_3⟩
        · have K540 : ∀ t, Steps p.tables e below (T513.setTop (mkF m 34 #[.val (.ref a1), .val (.int p2), .val (.int p3), .val (.int i3), .val (.int i4)] [])) t → Steps p.tables e below (T513.setTop (mkF m 31 #[.val (.ref a1), .val (.int p2), .val (.int p3), .val (.int i3), .val (.int i4)] [(.int (48 : Int32)), (.int (f_v_text_a1 (x_at + i3)))])) t := by
            intro t k
            refine XS.icmpNo X513.here hx rfl (Jvm.hb hby d7_31) rfl (flt hc521).1 ?_
            exact k
          have K541 : ∀ t, Steps p.tables e below (T513.setTop (mkF m 35 #[.val (.ref a1), .val (.int p2), .val (.int p3), .val (.int i3), .val (.int i4)] [(.ref a1)])) t → Steps p.tables e below (T513.setTop (mkF m 34 #[.val (.ref a1), .val (.int p2), .val (.int p3), .val (.int i3), .val (.int i4)] [])) t := by
            intro t k
            refine XS.aloadN X513.here hx rfl (Jvm.hb hby d7_34) rfl rfl ?_
            show Steps p.tables e below (T513.setTop (mkF m 35 #[.val (.ref a1), .val (.int p2), .val (.int p3), .val (.int i3), .val (.int i4)] [(.ref a1)])) t
            exact k
          obtain ⟨T542, X542, e542, st542⟩ := getF X513 hx hZ hown (host := "") (Or.inl (hw _ (List.mem_of_getElem? (i := 24) rfl))) Via.refl e513 hL_2 (g := (mkF m 35 #[.val (.ref a1), .val (.int p2), .val (.int p3), .val (.int i3), .val (.int i4)] [(.ref a1)])) rfl rfl (Jvm.hb hby d7_35)
          have K543 : ∀ t, Steps p.tables e below (T542.setTop (mkF m 38 #[.val (.ref a1), .val (.int p2), .val (.int p3), .val (.int i3), .val (.int i4)] [(.ref v_text_a1)])) t → Steps p.tables e below (T513.setTop (mkF m 35 #[.val (.ref a1), .val (.int p2), .val (.int p3), .val (.int i3), .val (.int i4)] [(.ref a1)])) t := fun t k => st542 _ k
          have K544 : ∀ t, Steps p.tables e below (T542.setTop (mkF m 39 #[.val (.ref a1), .val (.int p2), .val (.int p3), .val (.int i3), .val (.int i4)] [(.ref a1), (.ref v_text_a1)])) t → Steps p.tables e below (T542.setTop (mkF m 38 #[.val (.ref a1), .val (.int p2), .val (.int p3), .val (.int i3), .val (.int i4)] [(.ref v_text_a1)])) t := by
            intro t k
            refine XS.aloadN X542.here hx rfl (Jvm.hb hby d7_38) rfl rfl ?_
            show Steps p.tables e below (T542.setTop (mkF m 39 #[.val (.ref a1), .val (.int p2), .val (.int p3), .val (.int i3), .val (.int i4)] [(.ref a1), (.ref v_text_a1)])) t
            exact k
          obtain ⟨T545, X545, e545, st545⟩ := getF X542 hx hZ hown (host := "") (Or.inl (hw _ (List.mem_of_getElem? (i := 26) rfl))) Via.refl e542 hL_0 (g := (mkF m 39 #[.val (.ref a1), .val (.int p2), .val (.int p3), .val (.int i3), .val (.int i4)] [(.ref a1), (.ref v_text_a1)])) rfl rfl (Jvm.hb hby d7_39)
          have K546 : ∀ t, Steps p.tables e below (T545.setTop (mkF m 42 #[.val (.ref a1), .val (.int p2), .val (.int p3), .val (.int i3), .val (.int i4)] [(.int x_at), (.ref v_text_a1)])) t → Steps p.tables e below (T542.setTop (mkF m 39 #[.val (.ref a1), .val (.int p2), .val (.int p3), .val (.int i3), .val (.int i4)] [(.ref a1), (.ref v_text_a1)])) t := fun t k => st545 _ k
          have K551 : ∀ t, Steps p.tables e below (T545.setTop (mkF m 44 #[.val (.ref a1), .val (.int p2), .val (.int p3), .val (.int i3), .val (.int i4)] [(.int (x_at + i3)), (.ref v_text_a1)])) t → Steps p.tables e below (T545.setTop (mkF m 42 #[.val (.ref a1), .val (.int p2), .val (.int p3), .val (.int i3), .val (.int i4)] [(.int x_at), (.ref v_text_a1)])) t := by
            intro t k
            refine XS.iloadN X545.here hx rfl (Jvm.hb hby d7_42) rfl ?_
            show Steps p.tables e below (T545.setTop (mkF m 43 #[.val (.ref a1), .val (.int p2), .val (.int p3), .val (.int i3), .val (.int i4)] [(.int i3), (.int x_at), (.ref v_text_a1)])) t
            refine XS.iadd X545.here hx rfl (Jvm.hb hby d7_43) rfl ?_
            show Steps p.tables e below (T545.setTop (mkF m 44 #[.val (.ref a1), .val (.int p2), .val (.int p3), .val (.int i3), .val (.int i4)] [(.int (x_at + i3)), (.ref v_text_a1)])) t
            exact k
          have hin547 : ¬ (x_at + i3) < 0 ∧ (x_at + i3) < n_v_text_a1 := by exact ⟨hi, own_tr _ _ _ (by assumption) he⟩
          obtain ⟨cl548, Aq549, hjhin547, aq550⟩ := Ia.at hL_3 hin547
          have K552 : ∀ t, Steps p.tables e below (T545.setTop (mkF m 47 #[.val (.ref a1), .val (.int p2), .val (.int p3), .val (.int i3), .val (.int i4)] [(.int (57 : Int32)), (.int (f_v_text_a1 (x_at + i3)))])) t → Steps p.tables e below (T545.setTop (mkF m 44 #[.val (.ref a1), .val (.int p2), .val (.int p3), .val (.int i3), .val (.int i4)] [(.int (x_at + i3)), (.ref v_text_a1)])) t := by
            intro t k
            refine X545.caload hx (j := (x_at + i3)) (v := .int (f_v_text_a1 (x_at + i3))) (by rw [e545]; exact Aq549.1) (State.isArrayOf_alike hZ.alike Aq549.2.1) Aq549.2.2 hjhin547 aq550 (g := (mkF m 44 #[.val (.ref a1), .val (.int p2), .val (.int p3), .val (.int i3), .val (.int i4)] [(.int (x_at + i3)), (.ref v_text_a1)])) rfl rfl (Jvm.hb hby d7_44) _ ?_
            show Steps p.tables e below (T545.setTop (mkF m 45 #[.val (.ref a1), .val (.int p2), .val (.int p3), .val (.int i3), .val (.int i4)] [(.int (f_v_text_a1 (x_at + i3)))])) t
            refine XS.bipush X545.here hx rfl (Jvm.hb hby d7_45) ?_
            show Steps p.tables e below (T545.setTop (mkF m 47 #[.val (.ref a1), .val (.int p2), .val (.int p3), .val (.int i3), .val (.int i4)] [(.int (57 : Int32)), (.int (f_v_text_a1 (x_at + i3)))])) t
            exact k
          by_cases hc553 : (57 : Int32) < (f_v_text_a1 (x_at + i3))
          · have K554 : ∀ t, Steps p.tables e below (T545.setTop (mkF m 78 #[.val (.ref a1), .val (.int p2), .val (.int p3), .val (.int i3), .val (.int i4)] [])) t → Steps p.tables e below (T545.setTop (mkF m 47 #[.val (.ref a1), .val (.int p2), .val (.int p3), .val (.int i3), .val (.int i4)] [(.int (57 : Int32)), (.int (f_v_text_a1 (x_at + i3)))])) t := by
              intro t k
              refine XS.icmpYes X545.here hx rfl (pc0 := 47) (pc' := 78) rfl (Jvm.hb hby d7_47) rfl (tlt hc553).2.2.1 (by decide) (by decide) ?_
              exact k
            have K555 : ∀ t, Steps p.tables e below (T545.setTop (mkF m 80 #[.val (.ref a1), .val (.int p2), .val (.int p3), .val (.int i3), .val (.int i4)] [(.int p2), (.int i3)])) t → Steps p.tables e below (T545.setTop (mkF m 78 #[.val (.ref a1), .val (.int p2), .val (.int p3), .val (.int i3), .val (.int i4)] [])) t := by
              intro t k
              refine XS.iloadN X545.here hx rfl (Jvm.hb hby d7_78) rfl ?_
              show Steps p.tables e below (T545.setTop (mkF m 79 #[.val (.ref a1), .val (.int p2), .val (.int p3), .val (.int i3), .val (.int i4)] [(.int i3)])) t
              refine XS.iloadN X545.here hx rfl (Jvm.hb hby d7_79) rfl ?_
              show Steps p.tables e below (T545.setTop (mkF m 80 #[.val (.ref a1), .val (.int p2), .val (.int p3), .val (.int i3), .val (.int i4)] [(.int p2), (.int i3)])) t
              exact k
            by_cases hc556 : i3 < p2
            · have K557 : ∀ t, Steps p.tables e below (T545.setTop (mkF m 88 #[.val (.ref a1), .val (.int p2), .val (.int p3), .val (.int i3), .val (.int i4)] [])) t → Steps p.tables e below (T545.setTop (mkF m 80 #[.val (.ref a1), .val (.int p2), .val (.int p3), .val (.int i3), .val (.int i4)] [(.int p2), (.int i3)])) t := by
                intro t k
                refine XS.icmpYes X545.here hx rfl (pc0 := 80) (pc' := 88) rfl (Jvm.hb hby d7_80) rfl (tlt hc556).1 (by decide) (by decide) ?_
                exact k
              have K558 : ∀ t, Steps p.tables e below (T545.setTop (mkF m 89 #[.val (.ref a1), .val (.int p2), .val (.int p3), .val (.int i3), .val (.int i4)] [(.int (-1 : Int32))])) t → Steps p.tables e below (T545.setTop (mkF m 88 #[.val (.ref a1), .val (.int p2), .val (.int p3), .val (.int i3), .val (.int i4)] [])) t := by
                intro t k
                refine XS.iconst X545.here hx rfl (Jvm.hb hby d7_88) ?_
                show Steps p.tables e below (T545.setTop (mkF m 89 #[.val (.ref a1), .val (.int p2), .val (.int p3), .val (.int i3), .val (.int i4)] [(.int (-1 : Int32))])) t
                exact k
              obtain ⟨fs, hr, hrun, hended, hW, hsame⟩ := X545.leave (v := some (.int (-1 : Int32))) (fun h => by rw [Bd.returns] at h; cases h) Bd.notSynchronized
              refine ⟨_, _, (K501 _ (K503 _ (K504 _ (K506 _ (K508 _ (K509 _ (K511 _ (K512 _ (K514 _ (K519 _ (K520 _ (K540 _ (K541 _ (K543 _ (K544 _ (K546 _ (K551 _ (K552 _ (K554 _ (K555 _ (K557 _ (K558 _ (retI X545 hx Bd.returns (Jvm.hb hby d7_89) hr))))))))))))))))))))))), hrun, hended, _, _, rfl, ?_, ⟨_, rfl⟩, hW, hsame.mono (by decide) (by decide)⟩
              show ((_ : Option Value) = some (.int (f7_L p2 p3 v_at_a1 v_end_a1 f_v_text_a1 (k + 1) i3 i4 x_at)) ∧ Fr n0 _ ∧ Keep h0 T545.heap [a1] ∧ Fld Z T545.heap a1 "com/example/clapboard/clapboard/parse/TextCursor" "at" "I" (.int (f7_F_at_a1 p2 p3 v_at_a1 v_end_a1 f_v_text_a1 (k + 1) i3 i4 x_at)) ∧ Fld Z T545.heap a1 "com/example/clapboard/clapboard/parse/TextCursor" "end" "I" (.int v_end_a1) ∧ Fld Z T545.heap a1 "com/example/clapboard/clapboard/parse/TextCursor" "text" "[C" (.ref v_text_a1) ∧ Exa Z T545.heap a1 "com/example/clapboard/clapboard/parse/TextCursor")
              rw [e545]
              exact ⟨congrArg (fun z => some (Value.int z)) (show (-1 : Int32) = f7_L p2 p3 v_at_a1 v_end_a1 f_v_text_a1 (k + 1) i3 i4 x_at from Eq.symm ((f7_L_succ p2 p3 v_at_a1 v_end_a1 f_v_text_a1 k i3 i4 x_at).trans ((if_pos hc507).trans ((if_neg hc521).trans ((if_pos hc553).trans (if_pos hc556)))))), NL, KL, (by rw [show f7_F_at_a1 p2 p3 v_at_a1 v_end_a1 f_v_text_a1 (k + 1) i3 i4 x_at = x_at from (f7_F_at_a1_succ p2 p3 v_at_a1 v_end_a1 f_v_text_a1 k i3 i4 x_at).trans ((if_pos hc507).trans ((if_neg hc521).trans ((if_pos hc553).trans (if_pos hc556))))]; exact hL_0), hL_1, hL_2, hL_4⟩
            · have K559 : ∀ t, Steps p.tables e below (T545.setTop (mkF m 83 #[.val (.ref a1), .val (.int p2), .val (.int p3), .val (.int i3), .val (.int i4)] [])) t → Steps p.tables e below (T545.setTop (mkF m 80 #[.val (.ref a1), .val (.int p2), .val (.int p3), .val (.int i3), .val (.int i4)] [(.int p2), (.int i3)])) t := by
                intro t k
                refine XS.icmpNo X545.here hx rfl (Jvm.hb hby d7_80) rfl (flt hc556).1 ?_
                exact k
              have K560 : ∀ t, Steps p.tables e below (T545.setTop (mkF m 85 #[.val (.ref a1), .val (.int p2), .val (.int p3), .val (.int i3), .val (.int i4)] [(.int p3), (.int i3)])) t → Steps p.tables e below (T545.setTop (mkF m 83 #[.val (.ref a1), .val (.int p2), .val (.int p3), .val (.int i3), .val (.int i4)] [])) t := by
                intro t k
                refine XS.iloadN X545.here hx rfl (Jvm.hb hby d7_83) rfl ?_
                show Steps p.tables e below (T545.setTop (mkF m 84 #[.val (.ref a1), .val (.int p2), .val (.int p3), .val (.int i3), .val (.int i4)] [(.int i3)])) t
                refine XS.iloadN X545.here hx rfl (Jvm.hb hby d7_84) rfl ?_
                show Steps p.tables e below (T545.setTop (mkF m 85 #[.val (.ref a1), .val (.int p2), .val (.int p3), .val (.int i3), .val (.int i4)] [(.int p3), (.int i3)])) t
                exact k
              by_cases hc561 : p3 < i3
              · have K562 : ∀ t, Steps p.tables e below (T545.setTop (mkF m 88 #[.val (.ref a1), .val (.int p2), .val (.int p3), .val (.int i3), .val (.int i4)] [])) t → Steps p.tables e below (T545.setTop (mkF m 85 #[.val (.ref a1), .val (.int p2), .val (.int p3), .val (.int i3), .val (.int i4)] [(.int p3), (.int i3)])) t := by
                  intro t k
                  refine XS.icmpNo X545.here hx rfl (Jvm.hb hby d7_85) rfl (tlt hc561).2.2.2 ?_
                  exact k
                have K563 : ∀ t, Steps p.tables e below (T545.setTop (mkF m 89 #[.val (.ref a1), .val (.int p2), .val (.int p3), .val (.int i3), .val (.int i4)] [(.int (-1 : Int32))])) t → Steps p.tables e below (T545.setTop (mkF m 88 #[.val (.ref a1), .val (.int p2), .val (.int p3), .val (.int i3), .val (.int i4)] [])) t := by
                  intro t k
                  refine XS.iconst X545.here hx rfl (Jvm.hb hby d7_88) ?_
                  show Steps p.tables e below (T545.setTop (mkF m 89 #[.val (.ref a1), .val (.int p2), .val (.int p3), .val (.int i3), .val (.int i4)] [(.int (-1 : Int32))])) t
                  exact k
                obtain ⟨fs, hr, hrun, hended, hW, hsame⟩ := X545.leave (v := some (.int (-1 : Int32))) (fun h => by rw [Bd.returns] at h; cases h) Bd.notSynchronized
                refine ⟨_, _, (K501 _ (K503 _ (K504 _ (K506 _ (K508 _ (K509 _ (K511 _ (K512 _ (K514 _ (K519 _ (K520 _ (K540 _ (K541 _ (K543 _ (K544 _ (K546 _ (K551 _ (K552 _ (K554 _ (K555 _ (K559 _ (K560 _ (K562 _ (K563 _ (retI X545 hx Bd.returns (Jvm.hb hby d7_89) hr))))))))))))))))))))))))), hrun, hended, _, _, rfl, ?_, ⟨_, rfl⟩, hW, hsame.mono (by decide) (by decide)⟩
                show ((_ : Option Value) = some (.int (f7_L p2 p3 v_at_a1 v_end_a1 f_v_text_a1 (k + 1) i3 i4 x_at)) ∧ Fr n0 _ ∧ Keep h0 T545.heap [a1] ∧ Fld Z T545.heap a1 "com/example/clapboard/clapboard/parse/TextCursor" "at" "I" (.int (f7_F_at_a1 p2 p3 v_at_a1 v_end_a1 f_v_text_a1 (k + 1) i3 i4 x_at)) ∧ Fld Z T545.heap a1 "com/example/clapboard/clapboard/parse/TextCursor" "end" "I" (.int v_end_a1) ∧ Fld Z T545.heap a1 "com/example/clapboard/clapboard/parse/TextCursor" "text" "[C" (.ref v_text_a1) ∧ Exa Z T545.heap a1 "com/example/clapboard/clapboard/parse/TextCursor")
                rw [e545]
                exact ⟨congrArg (fun z => some (Value.int z)) (show (-1 : Int32) = f7_L p2 p3 v_at_a1 v_end_a1 f_v_text_a1 (k + 1) i3 i4 x_at from Eq.symm ((f7_L_succ p2 p3 v_at_a1 v_end_a1 f_v_text_a1 k i3 i4 x_at).trans ((if_pos hc507).trans ((if_neg hc521).trans ((if_pos hc553).trans ((if_neg hc556).trans (if_pos hc561))))))), NL, KL, (by rw [show f7_F_at_a1 p2 p3 v_at_a1 v_end_a1 f_v_text_a1 (k + 1) i3 i4 x_at = x_at from (f7_F_at_a1_succ p2 p3 v_at_a1 v_end_a1 f_v_text_a1 k i3 i4 x_at).trans ((if_pos hc507).trans ((if_neg hc521).trans ((if_pos hc553).trans ((if_neg hc556).trans (if_pos hc561)))))]; exact hL_0), hL_1, hL_2, hL_4⟩
              · have K564 : ∀ t, Steps p.tables e below (T545.setTop (mkF m 90 #[.val (.ref a1), .val (.int p2), .val (.int p3), .val (.int i3), .val (.int i4)] [])) t → Steps p.tables e below (T545.setTop (mkF m 85 #[.val (.ref a1), .val (.int p2), .val (.int p3), .val (.int i3), .val (.int i4)] [(.int p3), (.int i3)])) t := by
                  intro t k
                  refine XS.icmpYes X545.here hx rfl (pc0 := 85) (pc' := 90) rfl (Jvm.hb hby d7_85) rfl (flt hc561).2.2.2 (by decide) (by decide) ?_
                  exact k
                have K565 : ∀ t, Steps p.tables e below (T545.setTop (mkF m 92 #[.val (.ref a1), .val (.int p2), .val (.int p3), .val (.int i3), .val (.int i4)] [(.ref a1), (.ref a1)])) t → Steps p.tables e below (T545.setTop (mkF m 90 #[.val (.ref a1), .val (.int p2), .val (.int p3), .val (.int i3), .val (.int i4)] [])) t := by
                  intro t k
                  refine XS.aloadN X545.here hx rfl (Jvm.hb hby d7_90) rfl rfl ?_
                  show Steps p.tables e below (T545.setTop (mkF m 91 #[.val (.ref a1), .val (.int p2), .val (.int p3), .val (.int i3), .val (.int i4)] [(.ref a1)])) t
                  refine XS.dup X545.here hx rfl (Jvm.hb hby d7_91) rfl rfl ?_
                  show Steps p.tables e below (T545.setTop (mkF m 92 #[.val (.ref a1), .val (.int p2), .val (.int p3), .val (.int i3), .val (.int i4)] [(.ref a1), (.ref a1)])) t
                  exact k
                obtain ⟨T566, X566, e566, st566⟩ := getF X545 hx hZ hown (host := "") (Or.inl (hw _ (List.mem_of_getElem? (i := 26) rfl))) Via.refl e545 hL_0 (g := (mkF m 92 #[.val (.ref a1), .val (.int p2), .val (.int p3), .val (.int i3), .val (.int i4)] [(.ref a1), (.ref a1)])) rfl rfl (Jvm.hb hby d7_92)
                have K567 : ∀ t, Steps p.tables e below (T566.setTop (mkF m 95 #[.val (.ref a1), .val (.int p2), .val (.int p3), .val (.int i3), .val (.int i4)] [(.int x_at), (.ref a1)])) t → Steps p.tables e below (T545.setTop (mkF m 92 #[.val (.ref a1), .val (.int p2), .val (.int p3), .val (.int i3), .val (.int i4)] [(.ref a1), (.ref a1)])) t := fun t k => st566 _ k
                have K568 : ∀ t, Steps p.tables e below (T566.setTop (mkF m 97 #[.val (.ref a1), .val (.int p2), .val (.int p3), .val (.int i3), .val (.int i4)] [(.int (x_at + i3)), (.ref a1)])) t → Steps p.tables e below (T566.setTop (mkF m 95 #[.val (.ref a1), .val (.int p2), .val (.int p3), .val (.int i3), .val (.int i4)] [(.int x_at), (.ref a1)])) t := by
                  intro t k
                  refine XS.iloadN X566.here hx rfl (Jvm.hb hby d7_95) rfl ?_
                  show Steps p.tables e below (T566.setTop (mkF m 96 #[.val (.ref a1), .val (.int p2), .val (.int p3), .val (.int i3), .val (.int i4)] [(.int i3), (.int x_at), (.ref a1)])) t
                  refine XS.iadd X566.here hx rfl (Jvm.hb hby d7_96) rfl ?_
                  show Steps p.tables e below (T566.setTop (mkF m 97 #[.val (.ref a1), .val (.int p2), .val (.int p3), .val (.int i3), .val (.int i4)] [(.int (x_at + i3)), (.ref a1)])) t
                  exact k
                obtain ⟨T569, h569, X569, e569, W569, st569⟩ := putF X566 hx hZ hown (host := "") (Or.inl (hw _ (List.mem_of_getElem? (i := 26) rfl))) Via.refl e566 hL_0 hL_4 (Or.inl (hw _ (List.mem_of_getElem? (i := 27) rfl))) (hw _ (List.mem_of_getElem? (i := 16) rfl)) (ty := .int) (by decide) rfl rfl (g := (mkF m 97 #[.val (.ref a1), .val (.int p2), .val (.int p3), .val (.int i3), .val (.int i4)] [(.int (x_at + i3)), (.ref a1)])) rfl rfl (Jvm.hb hby d7_97)
                have KP569 : Keep h0 h569 [a1] := KL.wr W569 (Or.inl (List.mem_of_getElem? (i := 0) rfl))
                have N569 := Fr.snoc X569 NL g_a1
                have F569_0 : Fld Z h569 a1 "com/example/clapboard/clapboard/parse/TextCursor" "end" "I" (.int v_end_a1) := hL_1.other W569 (Or.inr (slot_ne (Or.inl (hw _ (List.mem_of_getElem? (i := 29) rfl))) (Or.inl (hw _ (List.mem_of_getElem? (i := 27) rfl))) (by decide) (t := .int) (t' := .int) (by decide) (by decide)))
                have F569_1 : Fld Z h569 a1 "com/example/clapboard/clapboard/parse/TextCursor" "text" "[C" (.ref v_text_a1) := hL_2.other W569 (Or.inr (slot_ne (Or.inr (hw _ (List.mem_of_getElem? (i := 25) rfl))) (Or.inl (hw _ (List.mem_of_getElem? (i := 27) rfl))) (by decide) (t := (.array .char)) (t' := .int) (by decide) (by decide)))
                have A569_2 : Ia Z h569 v_text_a1 .char n_v_text_a1 f_v_text_a1 := hL_3.other W569 (Ne.symm (own_nea hL_4 (hw _ (List.mem_of_getElem? (i := 16) rfl)) hL_3))
                have E569_3 : Exa Z h569 a1 "com/example/clapboard/clapboard/parse/TextCursor" := hL_4.wr W569
                have Fw569 : Fld Z h569 a1 "com/example/clapboard/clapboard/parse/TextCursor" "at" "I" (.int (x_at + i3)) := hL_0.same W569
                have K570 : ∀ t, Steps p.tables e below (T569.setTop (mkF m 100 #[.val (.ref a1), .val (.int p2), .val (.int p3), .val (.int i3), .val (.int i4)] [])) t → Steps p.tables e below (T566.setTop (mkF m 97 #[.val (.ref a1), .val (.int p2), .val (.int p3), .val (.int i3), .val (.int i4)] [(.int (x_at + i3)), (.ref a1)])) t := fun t k => st569 _ k
                have K571 : ∀ t, Steps p.tables e below (T569.setTop (mkF m 102 #[.val (.ref a1), .val (.int p2), .val (.int p3), .val (.int i3), .val (.int i4)] [(.int i4)])) t → Steps p.tables e below (T569.setTop (mkF m 100 #[.val (.ref a1), .val (.int p2), .val (.int p3), .val (.int i3), .val (.int i4)] [])) t := by
                  intro t k
                  refine XS.iload X569.here hx rfl (Jvm.hb hby d7_100) rfl ?_
                  show Steps p.tables e below (T569.setTop (mkF m 102 #[.val (.ref a1), .val (.int p2), .val (.int p3), .val (.int i3), .val (.int i4)] [(.int i4)])) t
                  exact k
                obtain ⟨fs, hr, hrun, hended, hW, hsame⟩ := X569.leave (v := some (.int i4)) (fun h => by rw [Bd.returns] at h; cases h) Bd.notSynchronized
                refine ⟨_, _, (K501 _ (K503 _ (K504 _ (K506 _ (K508 _ (K509 _ (K511 _ (K512 _ (K514 _ (K519 _ (K520 _ (K540 _ (K541 _ (K543 _ (K544 _ (K546 _ (K551 _ (K552 _ (K554 _ (K555 _ (K559 _ (K560 _ (K564 _ (K565 _ (K567 _ (K568 _ (K570 _ (K571 _ (retI X569 hx Bd.returns (Jvm.hb hby d7_102) hr))))))))))))))))))))))))))))), hrun, hended, _, _, rfl, ?_, ⟨_, rfl⟩, hW, hsame.mono (by decide) (by decide)⟩
                show ((_ : Option Value) = some (.int (f7_L p2 p3 v_at_a1 v_end_a1 f_v_text_a1 (k + 1) i3 i4 x_at)) ∧ Fr n0 _ ∧ Keep h0 T569.heap [a1] ∧ Fld Z T569.heap a1 "com/example/clapboard/clapboard/parse/TextCursor" "at" "I" (.int (f7_F_at_a1 p2 p3 v_at_a1 v_end_a1 f_v_text_a1 (k + 1) i3 i4 x_at)) ∧ Fld Z T569.heap a1 "com/example/clapboard/clapboard/parse/TextCursor" "end" "I" (.int v_end_a1) ∧ Fld Z T569.heap a1 "com/example/clapboard/clapboard/parse/TextCursor" "text" "[C" (.ref v_text_a1) ∧ Exa Z T569.heap a1 "com/example/clapboard/clapboard/parse/TextCursor")
                rw [e569]
                exact ⟨congrArg (fun z => some (Value.int z)) (show i4 = f7_L p2 p3 v_at_a1 v_end_a1 f_v_text_a1 (k + 1) i3 i4 x_at from Eq.symm ((f7_L_succ p2 p3 v_at_a1 v_end_a1 f_v_text_a1 k i3 i4 x_at).trans ((if_pos hc507).trans ((if_neg hc521).trans ((if_pos hc553).trans ((if_neg hc556).trans (if_neg hc561))))))), N569, KP569, (by rw [show f7_F_at_a1 p2 p3 v_at_a1 v_end_a1 f_v_text_a1 (k + 1) i3 i4 x_at = (x_at + i3) from (f7_F_at_a1_succ p2 p3 v_at_a1 v_end_a1 f_v_text_a1 k i3 i4 x_at).trans ((if_pos hc507).trans ((if_neg hc521).trans ((if_pos hc553).trans ((if_neg hc556).trans (if_neg hc561)))))]; exact Fw569), F569_0, F569_1, E569_3⟩
          · have K572 : ∀ t, Steps p.tables e below (T545.setTop (mkF m 50 #[.val (.ref a1), .val (.int p2), .val (.int p3), .val (.int i3), .val (.int i4)] [])) t → Steps p.tables e below (T545.setTop (mkF m 47 #[.val (.ref a1), .val (.int p2), .val (.int p3), .val (.int i3), .val (.int i4)] [(.int (57 : Int32)), (.int (f_v_text_a1 (x_at + i3)))])) t := by
              intro t k
              refine XS.icmpNo X545.here hx rfl (Jvm.hb hby d7_47) rfl (flt hc553).2.2.1 ?_
              exact k
            have K573 : ∀ t, Steps p.tables e below (T545.setTop (mkF m 56 #[.val (.ref a1), .val (.int p2), .val (.int p3), .val (.int i3), .val (.int i4)] [(.ref a1), (.int (i4 * (10 : Int32)))])) t → Steps p.tables e below (T545.setTop (mkF m 50 #[.val (.ref a1), .val (.int p2), .val (.int p3), .val (.int i3), .val (.int i4)] [])) t := by
              intro t k
              refine XS.iload X545.here hx rfl (Jvm.hb hby d7_50) rfl ?_
              show Steps p.tables e below (T545.setTop (mkF m 52 #[.val (.ref a1), .val (.int p2), .val (.int p3), .val (.int i3), .val (.int i4)] [(.int i4)])) t
              refine XS.bipush X545.here hx rfl (Jvm.hb hby d7_52) ?_
              show Steps p.tables e below (T545.setTop (mkF m 54 #[.val (.ref a1), .val (.int p2), .val (.int p3), .val (.int i3), .val (.int i4)] [(.int (10 : Int32)), (.int i4)])) t
              refine XS.imul X545.here hx rfl (Jvm.hb hby d7_54) rfl ?_
              show Steps p.tables e below (T545.setTop (mkF m 55 #[.val (.ref a1), .val (.int p2), .val (.int p3), .val (.int i3), .val (.int i4)] [(.int (i4 * (10 : Int32)))])) t
              refine XS.aloadN X545.here hx rfl (Jvm.hb hby d7_55) rfl rfl ?_
              show Steps p.tables e below (T545.setTop (mkF m 56 #[.val (.ref a1), .val (.int p2), .val (.int p3), .val (.int i3), .val (.int i4)] [(.ref a1), (.int (i4 * (10 : Int32)))])) t
              exact k
            obtain ⟨T574, X574, e574, st574⟩ := getF X545 hx hZ hown (host := "") (Or.inl (hw _ (List.mem_of_getElem? (i := 24) rfl))) Via.refl e545 hL_2 (g := (mkF m 56 #[.val (.ref a1), .val (.int p2), .val (.int p3), .val (.int i3), .val (.int i4)] [(.ref a1), (.int (i4 * (10 : Int32)))])) rfl rfl (Jvm.hb hby d7_56)
            have K575 : ∀ t, Steps p.tables e below (T574.setTop (mkF m 59 #[.val (.ref a1), .val (.int p2), .val (.int p3), .val (.int i3), .val (.int i4)] [(.ref v_text_a1), (.int (i4 * (10 : Int32)))])) t → Steps p.tables e below (T545.setTop (mkF m 56 #[.val (.ref a1), .val (.int p2), .val (.int p3), .val (.int i3), .val (.int i4)] [(.ref a1), (.int (i4 * (10 : Int32)))])) t := fun t k => st574 _ k
            have K576 : ∀ t, Steps p.tables e below (T574.setTop (mkF m 60 #[.val (.ref a1), .val (.int p2), .val (.int p3), .val (.int i3), .val (.int i4)] [(.ref a1), (.ref v_text_a1), (.int (i4 * (10 : Int32)))])) t → Steps p.tables e below (T574.setTop (mkF m 59 #[.val (.ref a1), .val (.int p2), .val (.int p3), .val (.int i3), .val (.int i4)] [(.ref v_text_a1), (.int (i4 * (10 : Int32)))])) t := by
              intro t k
              refine XS.aloadN X574.here hx rfl (Jvm.hb hby d7_59) rfl rfl ?_
              show Steps p.tables e below (T574.setTop (mkF m 60 #[.val (.ref a1), .val (.int p2), .val (.int p3), .val (.int i3), .val (.int i4)] [(.ref a1), (.ref v_text_a1), (.int (i4 * (10 : Int32)))])) t
              exact k
            obtain ⟨T577, X577, e577, st577⟩ := getF X574 hx hZ hown (host := "") (Or.inl (hw _ (List.mem_of_getElem? (i := 26) rfl))) Via.refl e574 hL_0 (g := (mkF m 60 #[.val (.ref a1), .val (.int p2), .val (.int p3), .val (.int i3), .val (.int i4)] [(.ref a1), (.ref v_text_a1), (.int (i4 * (10 : Int32)))])) rfl rfl (Jvm.hb hby d7_60)
            have K578 : ∀ t, Steps p.tables e below (T577.setTop (mkF m 63 #[.val (.ref a1), .val (.int p2), .val (.int p3), .val (.int i3), .val (.int i4)] [(.int x_at), (.ref v_text_a1), (.int (i4 * (10 : Int32)))])) t → Steps p.tables e below (T574.setTop (mkF m 60 #[.val (.ref a1), .val (.int p2), .val (.int p3), .val (.int i3), .val (.int i4)] [(.ref a1), (.ref v_text_a1), (.int (i4 * (10 : Int32)))])) t := fun t k => st577 _ k
            have K583 : ∀ t, Steps p.tables e below (T577.setTop (mkF m 65 #[.val (.ref a1), .val (.int p2), .val (.int p3), .val (.int i3), .val (.int i4)] [(.int (x_at + i3)), (.ref v_text_a1), (.int (i4 * (10 : Int32)))])) t → Steps p.tables e below (T577.setTop (mkF m 63 #[.val (.ref a1), .val (.int p2), .val (.int p3), .val (.int i3), .val (.int i4)] [(.int x_at), (.ref v_text_a1), (.int (i4 * (10 : Int32)))])) t := by
              intro t k
              refine XS.iloadN X577.here hx rfl (Jvm.hb hby d7_63) rfl ?_
              show Steps p.tables e below (T577.setTop (mkF m 64 #[.val (.ref a1), .val (.int p2), .val (.int p3), .val (.int i3), .val (.int i4)] [(.int i3), (.int x_at), (.ref v_text_a1), (.int (i4 * (10 : Int32)))])) t
              refine XS.iadd X577.here hx rfl (Jvm.hb hby d7_64) rfl ?_
              show Steps p.tables e below (T577.setTop (mkF m 65 #[.val (.ref a1), .val (.int p2), .val (.int p3), .val (.int i3), .val (.int i4)] [(.int (x_at + i3)), (.ref v_text_a1), (.int (i4 * (10 : Int32)))])) t
              exact k
            have hin579 : ¬ (x_at + i3) < 0 ∧ (x_at + i3) < n_v_text_a1 := by exact ⟨hi, own_tr _ _ _ (by assumption) he⟩
            obtain ⟨cl580, Aq581, hjhin579, aq582⟩ := Ia.at hL_3 hin579
            have K584 : ∀ t, Steps p.tables e below (T577.setTop (mkF m 5 #[.val (.ref a1), .val (.int p2), .val (.int p3), .val (.int (i3 + (1 : Int32))), .val (.int (f7_u1 f_v_text_a1 i3 i4 x_at))] [])) t → Steps p.tables e below (T577.setTop (mkF m 65 #[.val (.ref a1), .val (.int p2), .val (.int p3), .val (.int i3), .val (.int i4)] [(.int (x_at + i3)), (.ref v_text_a1), (.int (i4 * (10 : Int32)))])) t := by
              intro t k
              refine X577.caload hx (j := (x_at + i3)) (v := .int (f_v_text_a1 (x_at + i3))) (by rw [e577]; exact Aq581.1) (State.isArrayOf_alike hZ.alike Aq581.2.1) Aq581.2.2 hjhin579 aq582 (g := (mkF m 65 #[.val (.ref a1), .val (.int p2), .val (.int p3), .val (.int i3), .val (.int i4)] [(.int (x_at + i3)), (.ref v_text_a1), (.int (i4 * (10 : Int32)))])) rfl rfl (Jvm.hb hby d7_65) _ ?_
              show Steps p.tables e below (T577.setTop (mkF m 66 #[.val (.ref a1), .val (.int p2), .val (.int p3), .val (.int i3), .val (.int i4)] [(.int (f_v_text_a1 (x_at + i3))), (.int (i4 * (10 : Int32)))])) t
              refine XS.iadd X577.here hx rfl (Jvm.hb hby d7_66) rfl ?_
              show Steps p.tables e below (T577.setTop (mkF m 67 #[.val (.ref a1), .val (.int p2), .val (.int p3), .val (.int i3), .val (.int i4)] [(.int ((i4 * (10 : Int32)) + (f_v_text_a1 (x_at + i3))))])) t
              refine XS.bipush X577.here hx rfl (Jvm.hb hby d7_67) ?_
              show Steps p.tables e below (T577.setTop (mkF m 69 #[.val (.ref a1), .val (.int p2), .val (.int p3), .val (.int i3), .val (.int i4)] [(.int (48 : Int32)), (.int ((i4 * (10 : Int32)) + (f_v_text_a1 (x_at + i3))))])) t
              refine XS.isub X577.here hx rfl (Jvm.hb hby d7_69) rfl ?_
              show Steps p.tables e below (T577.setTop (mkF m 70 #[.val (.ref a1), .val (.int p2), .val (.int p3), .val (.int i3), .val (.int i4)] [(.int (((i4 * (10 : Int32)) + (f_v_text_a1 (x_at + i3))) - (48 : Int32)))])) t
              refine XS.istore X577.here hx rfl (Jvm.hb hby d7_70) rfl (l' := #[.val (.ref a1), .val (.int p2), .val (.int p3), .val (.int i3), .val (.int (f7_u1 f_v_text_a1 i3 i4 x_at))]) rfl ?_
              show Steps p.tables e below (T577.setTop (mkF m 72 #[.val (.ref a1), .val (.int p2), .val (.int p3), .val (.int i3), .val (.int (f7_u1 f_v_text_a1 i3 i4 x_at))] [])) t
              refine XS.iinc X577.here hx rfl (Jvm.hb hby d7_72) rfl (l' := #[.val (.ref a1), .val (.int p2), .val (.int p3), .val (.int (i3 + (1 : Int32))), .val (.int (f7_u1 f_v_text_a1 i3 i4 x_at))]) rfl ?_
              show Steps p.tables e below (T577.setTop (mkF m 75 #[.val (.ref a1), .val (.int p2), .val (.int p3), .val (.int (i3 + (1 : Int32))), .val (.int (f7_u1 f_v_text_a1 i3 i4 x_at))] [])) t
              refine XS.goto X577.here hx rfl (pc0 := 75) (pc' := 5) rfl (Jvm.hb hby d7_75) (by decide) (by decide) ?_
              show Steps p.tables e below (T577.setTop (mkF m 5 #[.val (.ref a1), .val (.int p2), .val (.int p3), .val (.int (i3 + (1 : Int32))), .val (.int (f7_u1 f_v_text_a1 i3 i4 x_at))] [])) t
              exact k
            obtain ⟨s₂, o, hs, q1, q2, v, L, q3, q4, q7⟩ := ih (i3 + (1 : Int32)) (f7_u1 f_v_text_a1 i3 i4 x_at) x_at T577 _ _ X577 e577 NL KL hL_0 hL_1 hL_2 hL_3 hL_4 (own_t1 _ _ _ hi (by assumption)) (own_t2 _ _ _ (by assumption)) (own_t3 _ _ _ _ hk (by assumption))
            exact ⟨s₂, o, K501 _ (K503 _ (K504 _ (K506 _ (K508 _ (K509 _ (K511 _ (K512 _ (K514 _ (K519 _ (K520 _ (K540 _ (K541 _ (K543 _ (K544 _ (K546 _ (K551 _ (K552 _ (K572 _ (K573 _ (K575 _ (K576 _ (K578 _ (K583 _ (K584 _ (hs))))))))))))))))))))))))), q1, q2, v, L, q3, ⟨q4.1.trans (congrArg (fun z => some (Value.int z)) (show (f7_L p2 p3 v_at_a1 v_end_a1 f_v_text_a1 k (i3 + (1 : Int32)) (f7_u1 f_v_text_a1 i3 i4 x_at) x_at) = f7_L p2 p3 v_at_a1 v_end_a1 f_v_text_a1 (k + 1) i3 i4 x_at from Eq.symm ((f7_L_succ p2 p3 v_at_a1 v_end_a1 f_v_text_a1 k i3 i4 x_at).trans ((if_pos hc507).trans ((if_neg hc521).trans (if_neg hc553)))))), q4.2.1, q4.2.2.1, (by rw [show f7_F_at_a1 p2 p3 v_at_a1 v_end_a1 f_v_text_a1 (k + 1) i3 i4 x_at = (f7_F_at_a1 p2 p3 v_at_a1 v_end_a1 f_v_text_a1 k (i3 + (1 : Int32)) (f7_u1 f_v_text_a1 i3 i4 x_at) x_at) from (f7_F_at_a1_succ p2 p3 v_at_a1 v_end_a1 f_v_text_a1 k i3 i4 x_at).trans ((if_pos hc507).trans ((if_neg hc521).trans (if_neg hc553)))]; exact q4.2.2.2.1), q4.2.2.2.2.1, q4.2.2.2.2.2.1, q4.2.2.2.2.2.2⟩, q7⟩
      · have K585 : ∀ t, Steps p.tables e below (T505.setTop (mkF m 78 #[.val (.ref a1), .val (.int p2), .val (.int p3), .val (.int i3), .val (.int i4)] [])) t → Steps p.tables e below (T505.setTop (mkF m 15 #[.val (.ref a1), .val (.int p2), .val (.int p3), .val (.int i3), .val (.int i4)] [(.int v_end_a1), (.int (x_at + i3))])) t := by
          intro t k
          refine XS.icmpYes X505.here hx rfl (pc0 := 15) (pc' := 78) rfl (Jvm.hb hby d7_15) rfl (flt hc507).2.1 (by decide) (by decide) ?_
          exact k
        have K586 : ∀ t, Steps p.tables e below (T505.setTop (mkF m 80 #[.val (.ref a1), .val (.int p2), .val (.int p3), .val (.int i3), .val (.int i4)] [(.int p2), (.int i3)])) t → Steps p.tables e below (T505.setTop (mkF m 78 #[.val (.ref a1), .val (.int p2), .val (.int p3), .val (.int i3), .val (.int i4)] [])) t := by
          intro t k
          refine XS.iloadN X505.here hx rfl (Jvm.hb hby d7_78) rfl ?_
          show Steps p.tables e below (T505.setTop (mkF m 79 #[.val (.ref a1), .val (.int p2), .val (.int p3), .val (.int i3), .val (.int i4)] [(.int i3)])) t
          refine XS.iloadN X505.here hx rfl (Jvm.hb hby d7_79) rfl ?_
          show Steps p.tables e below (T505.setTop (mkF m 80 #[.val (.ref a1), .val (.int p2), .val (.int p3), .val (.int i3), .val (.int i4)] [(.int p2), (.int i3)])) t
          exact k
        by_cases hc587 : i3 < p2
        · have K588 : ∀ t, Steps p.tables e below (T505.setTop (mkF m 88 #[.val (.ref a1), .val (.int p2), .val (.int p3), .val (.int i3), .val (.int i4)] [])) t → Steps p.tables e below (T505.setTop (mkF m 80 #[.val (.ref a1), .val (.int p2), .val (.int p3), .val (.int i3), .val (.int i4)] [(.int p2), (.int i3)])) t := by
            intro t k
            refine XS.icmpYes X505.here hx rfl (pc0 := 80) (pc' := 88) rfl (Jvm.hb hby d7_80) rfl (tlt hc587).1 (by decide) (by decide) ?_
            exact k
          have K589 : ∀ t, Steps p.tables e below (T505.setTop (mkF m 89 #[.val (.ref a1), .val (.int p2), .val (.int p3), .val (.int i3), .val (.int i4)] [(.int (-1 : Int32))])) t → Steps p.tables e below (T505.setTop (mkF m 88 #[.val (.ref a1), .val (.int p2), .val (.int p3), .val (.int i3), .val (.int i4)] [])) t := by
            intro t k
            refine XS.iconst X505.here hx rfl (Jvm.hb hby d7_88) ?_
            show Steps p.tables e below (T505.setTop (mkF m 89 #[.val (.ref a1), .val (.int p2), .val (.int p3), .val (.int i3), .val (.int i4)] [(.int (-1 : Int32))])) t
            exact k
          obtain ⟨fs, hr, hrun, hended, hW, hsame⟩ := X505.leave (v := some (.int (-1 : Int32))) (fun h => by rw [Bd.returns] at h; cases h) Bd.notSynchronized
          refine ⟨_, _, (K501 _ (K503 _ (K504 _ (K506 _ (K585 _ (K586 _ (K588 _ (K589 _ (retI X505 hx Bd.returns (Jvm.hb hby d7_89) hr))))))))), hrun, hended, _, _, rfl, ?_, ⟨_, rfl⟩, hW, hsame.mono (by decide) (by decide)⟩
          show ((_ : Option Value) = some (.int (f7_L p2 p3 v_at_a1 v_end_a1 f_v_text_a1 (k + 1) i3 i4 x_at)) ∧ Fr n0 _ ∧ Keep h0 T505.heap [a1] ∧ Fld Z T505.heap a1 "com/example/clapboard/clapboard/parse/TextCursor" "at" "I" (.int (f7_F_at_a1 p2 p3 v_at_a1 v_end_a1 f_v_text_a1 (k + 1) i3 i4 x_at)) ∧ Fld Z T505.heap a1 "com/example/clapboard/clapboard/parse/TextCursor" "end" "I" (.int v_end_a1) ∧ Fld Z T505.heap a1 "com/example/clapboard/clapboard/parse/TextCursor" "text" "[C" (.ref v_text_a1) ∧ Exa Z T505.heap a1 "com/example/clapboard/clapboard/parse/TextCursor")
          rw [e505]
          exact ⟨congrArg (fun z => some (Value.int z)) (show (-1 : Int32) = f7_L p2 p3 v_at_a1 v_end_a1 f_v_text_a1 (k + 1) i3 i4 x_at from Eq.symm ((f7_L_succ p2 p3 v_at_a1 v_end_a1 f_v_text_a1 k i3 i4 x_at).trans ((if_neg hc507).trans (if_pos hc587)))), NL, KL, (by rw [show f7_F_at_a1 p2 p3 v_at_a1 v_end_a1 f_v_text_a1 (k + 1) i3 i4 x_at = x_at from (f7_F_at_a1_succ p2 p3 v_at_a1 v_end_a1 f_v_text_a1 k i3 i4 x_at).trans ((if_neg hc507).trans (if_pos hc587))]; exact hL_0), hL_1, hL_2, hL_4⟩
        · have K590 : ∀ t, Steps p.tables e below (T505.setTop (mkF m 83 #[.val (.ref a1), .val (.int p2), .val (.int p3), .val (.int i3), .val (.int i4)] [])) t → Steps p.tables e below (T505.setTop (mkF m 80 #[.val (.ref a1), .val (.int p2), .val (.int p3), .val (.int i3), .val (.int i4)] [(.int p2), (.int i3)])) t := by
            intro t k
            refine XS.icmpNo X505.here hx rfl (Jvm.hb hby d7_80) rfl (flt hc587).1 ?_
            exact k
          have K591 : ∀ t, Steps p.tables e below (T505.setTop (mkF m 85 #[.val (.ref a1), .val (.int p2), .val (.int p3), .val (.int i3), .val (.int i4)] [(.int p3), (.int i3)])) t → Steps p.tables e below (T505.setTop (mkF m 83 #[.val (.ref a1), .val (.int p2), .val (.int p3), .val (.int i3), .val (.int i4)] [])) t := by
            intro t k
            refine XS.iloadN X505.here hx rfl (Jvm.hb hby d7_83) rfl ?_
            show Steps p.tables e below (T505.setTop (mkF m 84 #[.val (.ref a1), .val (.int p2), .val (.int p3), .val (.int i3), .val (.int i4)] [(.int i3)])) t
            refine XS.iloadN X505.here hx rfl (Jvm.hb hby d7_84) rfl ?_
            show Steps p.tables e below (T505.setTop (mkF m 85 #[.val (.ref a1), .val (.int p2), .val (.int p3), .val (.int i3), .val (.int i4)] [(.int p3), (.int i3)])) t
            exact k
          by_cases hc592 : p3 < i3
          · have K593 : ∀ t, Steps p.tables e below (T505.setTop (mkF m 88 #[.val (.ref a1), .val (.int p2), .val (.int p3), .val (.int i3), .val (.int i4)] [])) t → Steps p.tables e below (T505.setTop (mkF m 85 #[.val (.ref a1), .val (.int p2), .val (.int p3), .val (.int i3), .val (.int i4)] [(.int p3), (.int i3)])) t := by
              intro t k
              refine XS.icmpNo X505.here hx rfl (Jvm.hb hby d7_85) rfl (tlt hc592).2.2.2 ?_
              exact k
            have K594 : ∀ t, Steps p.tables e below (T505.setTop (mkF m 89 #[.val (.ref a1), .val (.int p2), .val (.int p3), .val (.int i3), .val (.int i4)] [(.int (-1 : Int32))])) t → Steps p.tables e below (T505.setTop (mkF m 88 #[.val (.ref a1), .val (.int p2), .val (.int p3), .val (.int i3), .val (.int i4)] [])) t := by
              intro t k
              refine XS.iconst X505.here hx rfl (Jvm.hb hby d7_88) ?_
              show Steps p.tables e below (T505.setTop (mkF m 89 #[.val (.ref a1), .val (.int p2), .val (.int p3), .val (.int i3), .val (.int i4)] [(.int (-1 : Int32))])) t
              exact k
            obtain ⟨fs, hr, hrun, hended, hW, hsame⟩ := X505.leave (v := some (.int (-1 : Int32))) (fun h => by rw [Bd.returns] at h; cases h) Bd.notSynchronized
            refine ⟨_, _, (K501 _ (K503 _ (K504 _ (K506 _ (K585 _ (K586 _ (K590 _ (K591 _ (K593 _ (K594 _ (retI X505 hx Bd.returns (Jvm.hb hby d7_89) hr))))))))))), hrun, hended, _, _, rfl, ?_, ⟨_, rfl⟩, hW, hsame.mono (by decide) (by decide)⟩
            show ((_ : Option Value) = some (.int (f7_L p2 p3 v_at_a1 v_end_a1 f_v_text_a1 (k + 1) i3 i4 x_at)) ∧ Fr n0 _ ∧ Keep h0 T505.heap [a1] ∧ Fld Z T505.heap a1 "com/example/clapboard/clapboard/parse/TextCursor" "at" "I" (.int (f7_F_at_a1 p2 p3 v_at_a1 v_end_a1 f_v_text_a1 (k + 1) i3 i4 x_at)) ∧ Fld Z T505.heap a1 "com/example/clapboard/clapboard/parse/TextCursor" "end" "I" (.int v_end_a1) ∧ Fld Z T505.heap a1 "com/example/clapboard/clapboard/parse/TextCursor" "text" "[C" (.ref v_text_a1) ∧ Exa Z T505.heap a1 "com/example/clapboard/clapboard/parse/TextCursor")
            rw [e505]
            exact ⟨congrArg (fun z => some (Value.int z)) (show (-1 : Int32) = f7_L p2 p3 v_at_a1 v_end_a1 f_v_text_a1 (k + 1) i3 i4 x_at from Eq.symm ((f7_L_succ p2 p3 v_at_a1 v_end_a1 f_v_text_a1 k i3 i4 x_at).trans ((if_neg hc507).trans ((if_neg hc587).trans (if_pos hc592))))), NL, KL, (by rw [show f7_F_at_a1 p2 p3 v_at_a1 v_end_a1 f_v_text_a1 (k + 1) i3 i4 x_at = x_at from (f7_F_at_a1_succ p2 p3 v_at_a1 v_end_a1 f_v_text_a1 k i3 i4 x_at).trans ((if_neg hc507).trans ((if_neg hc587).trans (if_pos hc592)))]; exact hL_0), hL_1, hL_2, hL_4⟩
          · have K595 : ∀ t, Steps p.tables e below (T505.setTop (mkF m 90 #[.val (.ref a1), .val (.int p2), .val (.int p3), .val (.int i3), .val (.int i4)] [])) t → Steps p.tables e below (T505.setTop (mkF m 85 #[.val (.ref a1), .val (.int p2), .val (.int p3), .val (.int i3), .val (.int i4)] [(.int p3), (.int i3)])) t := by
              intro t k
              refine XS.icmpYes X505.here hx rfl (pc0 := 85) (pc' := 90) rfl (Jvm.hb hby d7_85) rfl (flt hc592).2.2.2 (by decide) (by decide) ?_
              exact k
            have K596 : ∀ t, Steps p.tables e below (T505.setTop (mkF m 92 #[.val (.ref a1), .val (.int p2), .val (.int p3), .val (.int i3), .val (.int i4)] [(.ref a1), (.ref a1)])) t → Steps p.tables e below (T505.setTop (mkF m 90 #[.val (.ref a1), .val (.int p2), .val (.int p3), .val (.int i3), .val (.int i4)] [])) t := by
              intro t k
              refine XS.aloadN X505.here hx rfl (Jvm.hb hby d7_90) rfl rfl ?_
              show Steps p.tables e below (T505.setTop (mkF m 91 #[.val (.ref a1), .val (.int p2), .val (.int p3), .val (.int i3), .val (.int i4)] [(.ref a1)])) t
              refine XS.dup X505.here hx rfl (Jvm.hb hby d7_91) rfl rfl ?_
              show Steps p.tables e below (T505.setTop (mkF m 92 #[.val (.ref a1), .val (.int p2), .val (.int p3), .val (.int i3), .val (.int i4)] [(.ref a1), (.ref a1)])) t
              exact k
            obtain ⟨T597, X597, e597, st597⟩ := getF X505 hx hZ hown (host := "") (Or.inl (hw _ (List.mem_of_getElem? (i := 26) rfl))) Via.refl e505 hL_0 (g := (mkF m 92 #[.val (.ref a1), .val (.int p2), .val (.int p3), .val (.int i3), .val (.int i4)] [(.ref a1), (.ref a1)])) rfl rfl (Jvm.hb hby d7_92)
            have K598 : ∀ t, Steps p.tables e below (T597.setTop (mkF m 95 #[.val (.ref a1), .val (.int p2), .val (.int p3), .val (.int i3), .val (.int i4)] [(.int x_at), (.ref a1)])) t → Steps p.tables e below (T505.setTop (mkF m 92 #[.val (.ref a1), .val (.int p2), .val (.int p3), .val (.int i3), .val (.int i4)] [(.ref a1), (.ref a1)])) t := fun t k => st597 _ k
            have K599 : ∀ t, Steps p.tables e below (T597.setTop (mkF m 97 #[.val (.ref a1), .val (.int p2), .val (.int p3), .val (.int i3), .val (.int i4)] [(.int (x_at + i3)), (.ref a1)])) t → Steps p.tables e below (T597.setTop (mkF m 95 #[.val (.ref a1), .val (.int p2), .val (.int p3), .val (.int i3), .val (.int i4)] [(.int x_at), (.ref a1)])) t := by
              intro t k
              refine XS.iloadN X597.here hx rfl (Jvm.hb hby d7_95) rfl ?_
              show Steps p.tables e below (T597.setTop (mkF m 96 #[.val (.ref a1), .val (.int p2), .val (.int p3), .val (.int i3), .val (.int i4)] [(.int i3), (.int x_at), (.ref a1)])) t
              refine XS.iadd X597.here hx rfl (Jvm.hb hby d7_96) rfl ?_
              show Steps p.tables e below (T597.setTop (mkF m 97 #[.val (.ref a1), .val (.int p2), .val (.int p3), .val (.int i3), .val (.int i4)] [(.int (x_at + i3)), (.ref a1)])) t
              exact k
            obtain ⟨T600, h600, X600, e600, W600, st600⟩ := putF X597 hx hZ hown (host := "") (Or.inl (hw _ (List.mem_of_getElem? (i := 26) rfl))) Via.refl e597 hL_0 hL_4 (Or.inl (hw _ (List.mem_of_getElem? (i := 27) rfl))) (hw _ (List.mem_of_getElem? (i := 16) rfl)) (ty := .int) (by decide) rfl rfl (g := (mkF m 97 #[.val (.ref a1), .val (.int p2), .val (.int p3), .val (.int i3), .val (.int i4)] [(.int (x_at + i3)), (.ref a1)])) rfl rfl (Jvm.hb hby d7_97)
            have KP600 : Keep h0 h600 [a1] := KL.wr W600 (Or.inl (List.mem_of_getElem? (i := 0) rfl))
            have N600 := Fr.snoc X600 NL g_a1
            have F600_0 : Fld Z h600 a1 "com/example/clapboard/clapboard/parse/TextCursor" "end" "I" (.int v_end_a1) := hL_1.other W600 (Or.inr (slot_ne (Or.inl (hw _ (List.mem_of_getElem? (i := 29) rfl))) (Or.inl (hw _ (List.mem_of_getElem? (i := 27) rfl))) (by decide) (t := .int) (t' := .int) (by decide) (by decide)))
            have F600_1 : Fld Z h600 a1 "com/example/clapboard/clapboard/parse/TextCursor" "text" "[C" (.ref v_text_a1) := hL_2.other W600 (Or.inr (slot_ne (Or.inr (hw _ (List.mem_of_getElem? (i := 25) rfl))) (Or.inl (hw _ (List.mem_of_getElem? (i := 27) rfl))) (by decide) (t := (.array .char)) (t' := .int) (by decide) (by decide)))
            have A600_2 : Ia Z h600 v_text_a1 .char n_v_text_a1 f_v_text_a1 := hL_3.other W600 (Ne.symm (own_nea hL_4 (hw _ (List.mem_of_getElem? (i := 16) rfl)) hL_3))
            have E600_3 : Exa Z h600 a1 "com/example/clapboard/clapboard/parse/TextCursor" := hL_4.wr W600
            have Fw600 : Fld Z h600 a1 "com/example/clapboard/clapboard/parse/TextCursor" "at" "I" (.int (x_at + i3)) := hL_0.same W600
            have K601 : ∀ t, Steps p.tables e below (T600.setTop (mkF m 100 #[.val (.ref a1), .val (.int p2), .val (.int p3), .val (.int i3), .val (.int i4)] [])) t → Steps p.tables e below (T597.setTop (mkF m 97 #[.val (.ref a1), .val (.int p2), .val (.int p3), .val (.int i3), .val (.int i4)] [(.int (x_at + i3)), (.ref a1)])) t := fun t k => st600 _ k
            have K602 : ∀ t, Steps p.tables e below (T600.setTop (mkF m 102 #[.val (.ref a1), .val (.int p2), .val (.int p3), .val (.int i3), .val (.int i4)] [(.int i4)])) t → Steps p.tables e below (T600.setTop (mkF m 100 #[.val (.ref a1), .val (.int p2), .val (.int p3), .val (.int i3), .val (.int i4)] [])) t := by
              intro t k
              refine XS.iload X600.here hx rfl (Jvm.hb hby d7_100) rfl ?_
              show Steps p.tables e below (T600.setTop (mkF m 102 #[.val (.ref a1), .val (.int p2), .val (.int p3), .val (.int i3), .val (.int i4)] [(.int i4)])) t
              exact k
            obtain ⟨fs, hr, hrun, hended, hW, hsame⟩ := X600.leave (v := some (.int i4)) (fun h => by rw [Bd.returns] at h; cases h) Bd.notSynchronized
            refine ⟨_, _, (K501 _ (K503 _ (K504 _ (K506 _ (K585 _ (K586 _ (K590 _ (K591 _ (K595 _ (K596 _ (K598 _ (K599 _ (K601 _ (K602 _ (retI X600 hx Bd.returns (Jvm.hb hby d7_102) hr))))))))))))))), hrun, hended, _, _, rfl, ?_, ⟨_, rfl⟩, hW, hsame.mono (by decide) (by decide)⟩
            show ((_ : Option Value) = some (.int (f7_L p2 p3 v_at_a1 v_end_a1 f_v_text_a1 (k + 1) i3 i4 x_at)) ∧ Fr n0 _ ∧ Keep h0 T600.heap [a1] ∧ Fld Z T600.heap a1 "com/example/clapboard/clapboard/parse/TextCursor" "at" "I" (.int (f7_F_at_a1 p2 p3 v_at_a1 v_end_a1 f_v_text_a1 (k + 1) i3 i4 x_at)) ∧ Fld Z T600.heap a1 "com/example/clapboard/clapboard/parse/TextCursor" "end" "I" (.int v_end_a1) ∧ Fld Z T600.heap a1 "com/example/clapboard/clapboard/parse/TextCursor" "text" "[C" (.ref v_text_a1) ∧ Exa Z T600.heap a1 "com/example/clapboard/clapboard/parse/TextCursor")
            rw [e600]
            exact ⟨congrArg (fun z => some (Value.int z)) (show i4 = f7_L p2 p3 v_at_a1 v_end_a1 f_v_text_a1 (k + 1) i3 i4 x_at from Eq.symm ((f7_L_succ p2 p3 v_at_a1 v_end_a1 f_v_text_a1 k i3 i4 x_at).trans ((if_neg hc507).trans ((if_neg hc587).trans (if_neg hc592))))), N600, KP600, (by rw [show f7_F_at_a1 p2 p3 v_at_a1 v_end_a1 f_v_text_a1 (k + 1) i3 i4 x_at = (x_at + i3) from (f7_F_at_a1_succ p2 p3 v_at_a1 v_end_a1 f_v_text_a1 k i3 i4 x_at).trans ((if_neg hc507).trans ((if_neg hc587).trans (if_neg hc592)))]; exact Fw600), F600_0, F600_1, E600_3⟩
  obtain ⟨s₂, o, hs, q1, q2, v, L, q3, q4, q7⟩ := LP (10) (0 : Int32) (0 : Int32) v_at_a1 s₁ _ _ X0 e0 N0 (Keep.refl h0 [a1]) F_at_a1 F_end_a1 F_text_a1 A_v_text_a1 E_a1 (by rw [Int32.add_zero]; exact hs) (by rw [Int32.add_zero]; exact hj0) (by rw [Int32.add_zero]; exact hl)
  exact ⟨s₂, o, pre0 _ (K1 _ (hs)), q1, q2, v, L, q3, ⟨q4.1.trans (congrArg (fun z => some (Value.int z)) (show (f7_L p2 p3 v_at_a1 v_end_a1 f_v_text_a1 (10) (0 : Int32) (0 : Int32) v_at_a1) = f7 p2 p3 v_at_a1 v_end_a1 f_v_text_a1 from Eq.symm (rfl))), q4.2.1, q4.2.2.1, (by rw [show f7_F_at_a10 p2 p3 v_at_a1 v_end_a1 f_v_text_a1 = (f7_F_at_a1 p2 p3 v_at_a1 v_end_a1 f_v_text_a1 (10) (0 : Int32) (0 : Int32) v_at_a1) from rfl]; exact q4.2.2.2.1), q4.2.2.2.2.1, q4.2.2.2.2.2.1, q4.2.2.2.2.2.2⟩, q7⟩
-- body 8: com/example/clapboard/clapboard/parse/TextCursor.position()I
theorem d8_0 : decode prog_127_method_3_code 0 = .ok (.aload_n 0, 1) := by decide +kernel
theorem d8_1 : decode prog_127_method_3_code 1 = .ok (.getfield 13, 3) := by decide +kernel
theorem d8_4 : decode prog_127_method_3_code 4 = .ok (.ireturn, 1) := by decide +kernel
theorem pn_8 : plainName "com/example/clapboard/clapboard/parse/TextCursor" = true := by first | (simp [plainName, overriddenIn]; done) | decide +kernel
theorem ef_8 (m : MethodId) (a1 : Addr) : entryFrame m #[(.ref a1)] 1 = mkF m 0 #[.val (.ref a1)] [] := by first | (simp [entryFrame, mkF, argsToLocals, Value.category]; done) | rfl
def f8 (v_at_a1 : Int32) : Int32 := v_at_a1
def Q8 (Z : State) (a1 : Addr) (v_at_a1 : Int32) (h0 : Heap) (n0 : Nat) (v : Option Value) (h : Heap) (L : List Loc) : Prop := v = some (.int (f8 v_at_a1)) ∧ Fr n0 L ∧ h = h0
set_option maxRecDepth 65536 in
set_option maxHeartbeats 40000000 in
theorem rm8 (l : Launch) (Z : State) (a0 : Array Value) (hw : ∀ d ∈ tables_1, d.before a0 Z = true) (ws : List Jvm.Cond) (a1 : Addr) (v_at_a1 : Int32) (h0 : Heap) (n0 : Nat) (Z0 : n0 ≤ h0.size) (F_at_a1 : Fld Z h0 a1 "com/example/clapboard/clapboard/parse/TextCursor" "at" "I" (.int v_at_a1)) :
    MetFree l (⟨"com/example/clapboard/clapboard/parse/TextCursor", "position", "()I"⟩ : MethodName) (head1 (Jvm.Cond.code (⟨"com/example/clapboard/clapboard/parse/TextCursor", "position", "()I"⟩ : MethodName) prog_127_method_3_code 1 (some .int) :: ws) ({ frames := 0, cells := 0, slots := 0, locals := 0 } : Room)) (fun a U => a = #[(.ref a1)] ∧ Z.Warmed39 U.vm ∧ U.heap = h0) (fun _ _ _ _ _ => True) (fun _ U o U' => ∃ v L, o = .returned v ∧ Q8 Z a1 v_at_a1 h0 n0 v U'.heap L ∧ FrameEnd U o U' L ({ frames := 0, cells := 0, slots := 0, locals := 0 } : Room).cells ({ frames := 0, cells := 0, slots := 0, locals := 0 } : Room).slots) := by
  refine MetFree.of_bodySF (plainFor_of_name pn_8) hisR ?_
  intro p e s m args below meth c s₁ Bd hml0 hP hK
  obtain ⟨rfl, hZ, hh⟩ := hP
  have hx := Bd.exec
  have hby := Bd.bytes
  have hml : c.maxLocals = 1 := hml0
  have hown : s.vm.findClass "com/example/clapboard/clapboard/parse/TextCursor" = some m.cls := findClass_of_methodNamed Bd.named
  have hnm := (name_of_methodNamed Bd.named Bd.method).1
  have X0 : Stand p l e ({ frames := 0, cells := 0, slots := 0, locals := 0 } : Room) s m #[(.ref a1)] below meth c s₁ [] 0 0 := Stand.of_body Bd
  have e0 : s₁.heap = h0 := by rw [← hh, Bd.state]; rfl
  have N0 := Fr.nil n0
  have pre0 : ∀ t, Steps p.tables e below (s₁.setTop (mkF m 0 #[.val (.ref a1)] [])) t → Steps p.tables e below (s₁.setTop (entryFrame m #[(.ref a1)] 1)) t := fun t k => castTop (ef_8 m a1) k
  have K1 : ∀ t, Steps p.tables e below (s₁.setTop (mkF m 1 #[.val (.ref a1)] [(.ref a1)])) t → Steps p.tables e below (s₁.setTop (mkF m 0 #[.val (.ref a1)] [])) t := by
    intro t k
    refine XS.aloadN X0.here hx rfl (Jvm.hb hby d8_0) rfl rfl ?_
    show Steps p.tables e below (s₁.setTop (mkF m 1 #[.val (.ref a1)] [(.ref a1)])) t
    exact k
  obtain ⟨T2, X2, e2, st2⟩ := getF X0 hx hZ hown (host := "") (Or.inl (hw _ (List.mem_of_getElem? (i := 26) rfl))) Via.refl e0 F_at_a1 (g := (mkF m 1 #[.val (.ref a1)] [(.ref a1)])) rfl rfl (Jvm.hb hby d8_1)
  have K3 : ∀ t, Steps p.tables e below (T2.setTop (mkF m 4 #[.val (.ref a1)] [(.int v_at_a1)])) t → Steps p.tables e below (s₁.setTop (mkF m 1 #[.val (.ref a1)] [(.ref a1)])) t := fun t k => st2 _ k
  obtain ⟨fs, hr, hrun, hended, hW, hsame⟩ := X2.leave (v := some (.int v_at_a1)) (fun h => by rw [Bd.returns] at h; cases h) Bd.notSynchronized
  refine ⟨_, _, pre0 _ (K1 _ (K3 _ (retI X2 hx Bd.returns (Jvm.hb hby d8_4) hr))), hrun, hended, _, _, rfl, ?_, ⟨_, rfl⟩, hW, hsame.mono (by decide) (by decide)⟩
  show Q8 Z a1 v_at_a1 h0 n0 _ T2.heap _
  rw [e2]
  exact ⟨congrArg (fun z => some (Value.int z)) (show v_at_a1 = f8 v_at_a1 from Eq.symm (rfl)), N0, rfl⟩
-- body 0: com/example/clapboard/clapboard/parse/TextCursorReadNumberPinLaw.law(IJIII)Z
theorem pn_0 : plainName "com/example/clapboard/clapboard/parse/TextCursorReadNumberPinLaw" = true := by first | (simp [plainName, overriddenIn]; done) | decide +kernel
theorem pd_6 : parseMethodDescriptor "()I" = some ⟨[], some .int⟩ := by decide +kernel
theorem pd_5 : parseMethodDescriptor "(II)I" = some ⟨[.int, .int], some .int⟩ := by decide +kernel
theorem pd_0 : parseMethodDescriptor "(IJI)C" = some ⟨[.int, .long, .int], some .char⟩ := by decide +kernel
theorem pd_1 : parseMethodDescriptor "([CII)I" = some ⟨[(.array .char), .int, .int], some .int⟩ := by decide +kernel
theorem pd_3 : parseMethodDescriptor "([CII)V" = some ⟨[(.array .char), .int, .int], none⟩ := by decide +kernel
theorem ef_0 (m : MethodId) (p1 : Int32) (q2 : Int64) (p3 : Int32) (p4 : Int32) (p5 : Int32) : entryFrame m #[(.int p1), (.long q2), (.int p3), (.int p4), (.int p5)] maxLocals = mkF m 0 #[.val (.int p1), .val (.long q2), .second, .val (.int p3), .val (.int p4), .val (.int p5), .unset, .unset, .unset, .unset, .unset, .unset, .unset, .unset, .unset, .unset, .unset, .unset] [] := by first | (simp [entryFrame, mkF, argsToLocals, Value.category, maxLocals]; done) | rfl
def f0_u1 (p1 : Int32) (q2 : Int64) : Int32 → Int32 := (upd (fun _ => 0) (0 : Int32) (nar .char (f1 p1 q2 (0 : Int32))))
def f0_u2 (p1 : Int32) (q2 : Int64) : Int32 → Int32 := (upd (f0_u1 p1 q2) (1 : Int32) (nar .char (f1 p1 q2 (1 : Int32))))
def f0_u3 (p1 : Int32) (q2 : Int64) : Int32 → Int32 := (upd (f0_u2 p1 q2) (2 : Int32) (nar .char (f1 p1 q2 (2 : Int32))))
def f0_u4 (p1 : Int32) (q2 : Int64) : Int32 → Int32 := (upd (f0_u3 p1 q2) (3 : Int32) (nar .char (f1 p1 q2 (3 : Int32))))
def f0_u5 (p1 : Int32) (q2 : Int64) : Int32 → Int32 := (upd (f0_u4 p1 q2) (4 : Int32) (nar .char (f1 p1 q2 (4 : Int32))))
def f0_u6 (p3 : Int32) : Int32 := (((p3 &&& (7 : Int32)) % (6 : Int32)) + ((((p3.toUInt32 >>> ((3 : Int32) &&& 31).toUInt32).toInt32) &&& (7 : Int32)) % ((6 : Int32) - ((p3 &&& (7 : Int32)) % (6 : Int32)))))
def f0_u7 (p3 : Int32) : Int32 := (if (((p3.toUInt32 >>> ((6 : Int32) &&& 31).toUInt32).toInt32) &&& (1 : Int32)) = (0 : Int32) then (0 : Int32) else (1 : Int32))
def f0_u8 (p3 : Int32) (p4 : Int32) : Int32 := (if (f0_u7 p3) = (0 : Int32) then ((p4 &&& (7 : Int32)) - (1 : Int32)) else p4)
def f0_u9 (p3 : Int32) (p5 : Int32) : Int32 := (if (f0_u7 p3) = (0 : Int32) then ((p5 &&& (7 : Int32)) - (1 : Int32)) else p5)
def f0_u10 (p1 : Int32) (q2 : Int64) (p3 : Int32) : Int32 := (f2 ((p3 &&& (7 : Int32)) % (6 : Int32)) (f0_u6 p3) (f0_u5 p1 q2))
def f0_u11 (p1 : Int32) (q2 : Int64) (p3 : Int32) : Int32 := (f4 ((p3 &&& (7 : Int32)) % (6 : Int32)) (f0_u10 p1 q2 p3) (f0_u5 p1 q2))
def f0_u12 (p1 : Int32) (q2 : Int64) (p3 : Int32) (p4 : Int32) (p5 : Int32) : Int32 := (if (f0_u10 p1 q2 p3) < (f0_u8 p3 p4) then (-1 : Int32) else (if (f0_u9 p3 p5) < (f0_u10 p1 q2 p3) then (-1 : Int32) else (f0_u11 p1 q2 p3)))
def f0_u13 (p1 : Int32) (q2 : Int64) (p3 : Int32) (p4 : Int32) (p5 : Int32) : Int32 := (if (f0_u12 p1 q2 p3 p4 p5) < (0 : Int32) then ((p3 &&& (7 : Int32)) % (6 : Int32)) else (((p3 &&& (7 : Int32)) % (6 : Int32)) + (f0_u10 p1 q2 p3)))
def f0_u14 (p1 : Int32) (q2 : Int64) (p3 : Int32) (p4 : Int32) (p5 : Int32) : Int32 := (f7 (f0_u8 p3 p4) (f0_u9 p3 p5) ((p3 &&& (7 : Int32)) % (6 : Int32)) (f0_u6 p3) (f0_u5 p1 q2))
def f0 (p1 : Int32) (q2 : Int64) (p3 : Int32) (p4 : Int32) (p5 : Int32) : Int32 := (if (f0_u14 p1 q2 p3 p4 p5) = (f0_u12 p1 q2 p3 p4 p5) then (if (f8 (f7_F_at_a10 (f0_u8 p3 p4) (f0_u9 p3 p5) ((p3 &&& (7 : Int32)) % (6 : Int32)) (f0_u6 p3) (f0_u5 p1 q2))) = (f0_u13 p1 q2 p3 p4 p5) then (1 : Int32) else (0 : Int32)) else (0 : Int32))
def Q0 (Z : State) (p1 : Int32) (q2 : Int64) (p3 : Int32) (p4 : Int32) (p5 : Int32) (h0 : Heap) (n0 : Nat) (v : Option Value) (h : Heap) (L : List Loc) : Prop := v = some (.int (f0 p1 q2 p3 p4 p5)) ∧ Fr n0 L ∧ Keep h0 h []
theorem own_e5 (x : Int32) : ¬ (5 : Int32) < f0_u6 x := by
  obtain ⟨n, m, hn, h1, h2, e, e'⟩ := own_end x ((x.toUInt32 >>> ((3 : Int32) &&& 31).toUInt32).toInt32)
  show ¬ (5 : Int32) < (x &&& 7) % 6 + (((x.toUInt32 >>> ((3 : Int32) &&& 31).toUInt32).toInt32) &&& 7) % (6 - (x &&& 7) % 6)
  rw [e']
  exact (show ∀ k : Fin 6, ¬ (5 : Int32) < Int32.ofNat k.val from by decide) ⟨m, h2⟩
theorem own_es (x : Int32) : ¬ f0_u6 x < (x &&& 7) % 6 := by
  obtain ⟨n, m, hn, h1, h2, e, e'⟩ := own_end x ((x.toUInt32 >>> ((3 : Int32) &&& 31).toUInt32).toInt32)
  show ¬ (x &&& 7) % 6 + (((x.toUInt32 >>> ((3 : Int32) &&& 31).toUInt32).toInt32) &&& 7) % (6 - (x &&& 7) % 6) < (x &&& 7) % 6
  rw [e', e]
  exact (show ∀ k l : Fin 6, k.val ≤ l.val → ¬ Int32.ofNat l.val < Int32.ofNat k.val from by decide) ⟨n, hn⟩ ⟨m, h2⟩ h1
theorem own_el (x : Int32) : (f0_u6 x).toInt - ((x &&& 7) % 6).toInt < 10 := by
  obtain ⟨n, m, hn, h1, h2, e, e'⟩ := own_end x ((x.toUInt32 >>> ((3 : Int32) &&& 31).toUInt32).toInt32)
  have e2 : f0_u6 x = Int32.ofNat m := e'
  rw [e2, e, own_ofNat n (by omega), own_ofNat m (by omega)]
  omega
theorem own_d (p e : Int32) (f : Int32 → Int32) (h : ¬ f3 p e f = 0) : p < e := by
  unfold f3 at h
  by_cases q : p < e
  · exact q
  · rw [if_neg q] at h; exact absurd rfl h
theorem own_run (p e : Int32) (f : Int32 → Int32) (hs : ¬ p < 0) (hb : p.toInt ≤ 100) (he : ¬ e < p) : p.toInt + (f2 p e f).toInt ≤ e.toInt := by
  have h0 : ¬ (e.toInt < p.toInt) := fun q => he (Int32.lt_iff_toInt_lt.mpr q)
  have z0 : (0 : Int32).toInt = 0 := by decide
  have z1 : (1 : Int32).toInt = 1 := by decide
  have z2 : (2 : Int32).toInt = 2 := by decide
  have z3 : (3 : Int32).toInt = 3 := by decide
  have z4 : (4 : Int32).toInt = 4 := by decide
  have z5 : (5 : Int32).toInt = 5 := by decide
  have p1 := own_pj p 1 hs hb (by decide)
  have p2 := own_pj p 2 hs hb (by decide)
  have p3 := own_pj p 3 hs hb (by decide)
  have p4 := own_pj p 4 hs hb (by decide)
  unfold f2
  by_cases c0 : f3 p e f = 0
  · rw [if_pos c0]; omega
  rw [if_neg c0]
  have d0 := Int32.lt_iff_toInt_lt.mp (own_d _ _ _ c0)
  by_cases c1 : f3 (p + 1) e f = 0
  · rw [if_pos c1]; omega
  rw [if_neg c1]
  have d1 := Int32.lt_iff_toInt_lt.mp (own_d _ _ _ c1)
  by_cases c2 : f3 (p + 2) e f = 0
  · rw [if_pos c2]; omega
  rw [if_neg c2]
  have d2 := Int32.lt_iff_toInt_lt.mp (own_d _ _ _ c2)
  by_cases c3 : f3 (p + 3) e f = 0
  · rw [if_pos c3]; omega
  rw [if_neg c3]
  have d3 := Int32.lt_iff_toInt_lt.mp (own_d _ _ _ c3)
  by_cases c4 : f3 (p + 4) e f = 0
  · rw [if_pos c4]; omega
  rw [if_neg c4]
  have d4 := Int32.lt_iff_toInt_lt.mp (own_d _ _ _ c4)
  omega
theorem own_rq (a : Int32) (b : Int64) (c : Int32) : ((c &&& 7) % 6).toInt + (f0_u10 a b c).toInt ≤ (5 : Int32).toInt := by
  have h := own_run ((c &&& 7) % 6) (f0_u6 c) (f0_u5 a b) (own_a0 c) (own_a1 c) (own_es c)
  have h2 : ¬ ((5 : Int32).toInt < (f0_u6 c).toInt) := fun q => own_e5 c (Int32.lt_iff_toInt_lt.mpr q)
  show _ + (f2 _ _ _).toInt ≤ _
  omega

set_option maxRecDepth 65536 in
set_option maxHeartbeats 40000000 in
theorem rm0 (l : Launch) (Z : State) (a0 : Array Value) (hw : ∀ d ∈ tables_1, d.before a0 Z = true) (ws : List Jvm.Cond) (p1 : Int32) (q2 : Int64) (p3 : Int32) (p4 : Int32) (p5 : Int32) (h0 : Heap) (n0 : Nat) (Z0 : n0 ≤ h0.size) :
    MetFree l x (head1 (Jvm.Cond.code x code maxLocals ret :: ws) room_1) (fun a U => a = #[(.int p1), (.long q2), (.int p3), (.int p4), (.int p5)] ∧ Z.Warmed39 U.vm ∧ U.heap = h0) (fun _ _ _ _ _ => True) (fun _ U o U' => ∃ v L, o = .returned v ∧ Q0 Z p1 q2 p3 p4 p5 h0 n0 v U'.heap L ∧ FrameEnd U o U' L room_1.cells room_1.slots) := by
  refine MetFree.of_bodySF (plainFor_of_name pn_0) hisR ?_
  intro p e s m args below meth c s₁ Bd hml0 hP hK
  obtain ⟨rfl, hZ, hh⟩ := hP
  have hx := Bd.exec
  have hby := Bd.bytes
  have hml : c.maxLocals = 18 := hml0
  have hown : s.vm.findClass "com/example/clapboard/clapboard/parse/TextCursorReadNumberPinLaw" = some m.cls := findClass_of_methodNamed Bd.named
  have hnm := (name_of_methodNamed Bd.named Bd.method).1
  have X0 : Stand p l e room_1 s m #[(.int p1), (.long q2), (.int p3), (.int p4), (.int p5)] below meth c s₁ [] 0 0 := Stand.of_body Bd
  have e0 : s₁.heap = h0 := by rw [← hh, Bd.state]; rfl
  have N0 := Fr.nil n0
  have pre0 : ∀ t, Steps p.tables e below (s₁.setTop (mkF m 0 #[.val (.int p1), .val (.long q2), .second, .val (.int p3), .val (.int p4), .val (.int p5), .unset, .unset, .unset, .unset, .unset, .unset, .unset, .unset, .unset, .unset, .unset, .unset] [])) t → Steps p.tables e below (s₁.setTop (entryFrame m #[(.int p1), (.long q2), (.int p3), (.int p4), (.int p5)] maxLocals)) t := fun t k => castTop (ef_0 m p1 q2 p3 p4 p5) k
  have K1 : ∀ t, Steps p.tables e below (s₁.setTop (mkF m 1 #[.val (.int p1), .val (.long q2), .second, .val (.int p3), .val (.int p4), .val (.int p5), .unset, .unset, .unset, .unset, .unset, .unset, .unset, .unset, .unset, .unset, .unset, .unset] [(.int (5 : Int32))])) t → Steps p.tables e below (s₁.setTop (mkF m 0 #[.val (.int p1), .val (.long q2), .second, .val (.int p3), .val (.int p4), .val (.int p5), .unset, .unset, .unset, .unset, .unset, .unset, .unset, .unset, .unset, .unset, .unset, .unset] [])) t := by
    intro t k
    refine XS.iconst X0.here hx rfl (Jvm.hb hby at_0) ?_
    show Steps p.tables e below (s₁.setTop (mkF m 1 #[.val (.int p1), .val (.long q2), .second, .val (.int p3), .val (.int p4), .val (.int p5), .unset, .unset, .unset, .unset, .unset, .unset, .unset, .unset, .unset, .unset, .unset, .unset] [(.int (5 : Int32))])) t
    exact k
  obtain ⟨T2, h2, k2, X2, e2, E2, A2, st2⟩ := newP X0 hx hZ (hw _ (List.mem_of_getElem? (i := 0) rfl)) e0 (g := (mkF m 1 #[.val (.int p1), .val (.long q2), .second, .val (.int p3), .val (.int p4), .val (.int p5), .unset, .unset, .unset, .unset, .unset, .unset, .unset, .unset, .unset, .unset, .unset, .unset] [(.int (5 : Int32))])) rfl (Jvm.hb hby at_1) rfl (by decide) (cap := 5) (by decide) (by decide) (by decide) (by decide)
  obtain ⟨b2, g2⟩ : ∃ z, z = h0.size := ⟨_, rfl⟩
  rw [← g2] at A2 st2
  have KP2 : Keep h0 h2 [] := (Keep.refl h0 []).ext E2
  have gb_b2 : n0 ≤ b2 := Nat.le_trans Z0 (Nat.le_of_eq g2.symm)
  have sz_b2 : h0.size ≤ b2 := Nat.le_trans (Keep.refl h0 []).1 (Nat.le_of_eq g2.symm)
  have V2 : Ia Z h2 b2 .char (5 : Int32) (fun _ => 0) := Ia.new A2 (by decide) rfl
  have K3 : ∀ t, Steps p.tables e below (T2.setTop (mkF m 3 #[.val (.int p1), .val (.long q2), .second, .val (.int p3), .val (.int p4), .val (.int p5), .unset, .unset, .unset, .unset, .unset, .unset, .unset, .unset, .unset, .unset, .unset, .unset] [(.ref b2)])) t → Steps p.tables e below (s₁.setTop (mkF m 1 #[.val (.int p1), .val (.long q2), .second, .val (.int p3), .val (.int p4), .val (.int p5), .unset, .unset, .unset, .unset, .unset, .unset, .unset, .unset, .unset, .unset, .unset, .unset] [(.int (5 : Int32))])) t := fun t k => st2 _ k
  have K4 : ∀ t, Steps p.tables e below (T2.setTop (mkF m 11 #[.val (.int p1), .val (.long q2), .second, .val (.int p3), .val (.int p4), .val (.int p5), .val (.ref b2), .unset, .unset, .unset, .unset, .unset, .unset, .unset, .unset, .unset, .unset, .unset] [(.int (0 : Int32)), (.long q2), (.int p1), (.int (0 : Int32)), (.ref b2)])) t → Steps p.tables e below (T2.setTop (mkF m 3 #[.val (.int p1), .val (.long q2), .second, .val (.int p3), .val (.int p4), .val (.int p5), .unset, .unset, .unset, .unset, .unset, .unset, .unset, .unset, .unset, .unset, .unset, .unset] [(.ref b2)])) t := by
    intro t k
    refine XS.astore X2.here hx rfl (Jvm.hb hby at_3) rfl rfl (l' := #[.val (.int p1), .val (.long q2), .second, .val (.int p3), .val (.int p4), .val (.int p5), .val (.ref b2), .unset, .unset, .unset, .unset, .unset, .unset, .unset, .unset, .unset, .unset, .unset]) rfl ?_
    show Steps p.tables e below (T2.setTop (mkF m 5 #[.val (.int p1), .val (.long q2), .second, .val (.int p3), .val (.int p4), .val (.int p5), .val (.ref b2), .unset, .unset, .unset, .unset, .unset, .unset, .unset, .unset, .unset, .unset, .unset] [])) t
    refine XS.aload X2.here hx rfl (Jvm.hb hby at_5) rfl rfl ?_
    show Steps p.tables e below (T2.setTop (mkF m 7 #[.val (.int p1), .val (.long q2), .second, .val (.int p3), .val (.int p4), .val (.int p5), .val (.ref b2), .unset, .unset, .unset, .unset, .unset, .unset, .unset, .unset, .unset, .unset, .unset] [(.ref b2)])) t
    refine XS.iconst X2.here hx rfl (Jvm.hb hby at_7) ?_
    show Steps p.tables e below (T2.setTop (mkF m 8 #[.val (.int p1), .val (.long q2), .second, .val (.int p3), .val (.int p4), .val (.int p5), .val (.ref b2), .unset, .unset, .unset, .unset, .unset, .unset, .unset, .unset, .unset, .unset, .unset] [(.int (0 : Int32)), (.ref b2)])) t
    refine XS.iloadN X2.here hx rfl (Jvm.hb hby at_8) rfl ?_
    show Steps p.tables e below (T2.setTop (mkF m 9 #[.val (.int p1), .val (.long q2), .second, .val (.int p3), .val (.int p4), .val (.int p5), .val (.ref b2), .unset, .unset, .unset, .unset, .unset, .unset, .unset, .unset, .unset, .unset, .unset] [(.int p1), (.int (0 : Int32)), (.ref b2)])) t
    refine XS.lloadN X2.here hx rfl (Jvm.hb hby at_9) rfl ?_
    show Steps p.tables e below (T2.setTop (mkF m 10 #[.val (.int p1), .val (.long q2), .second, .val (.int p3), .val (.int p4), .val (.int p5), .val (.ref b2), .unset, .unset, .unset, .unset, .unset, .unset, .unset, .unset, .unset, .unset, .unset] [(.long q2), (.int p1), (.int (0 : Int32)), (.ref b2)])) t
    refine XS.iconst X2.here hx rfl (Jvm.hb hby at_10) ?_
    show Steps p.tables e below (T2.setTop (mkF m 11 #[.val (.int p1), .val (.long q2), .second, .val (.int p3), .val (.int p4), .val (.int p5), .val (.ref b2), .unset, .unset, .unset, .unset, .unset, .unset, .unset, .unset, .unset, .unset, .unset] [(.int (0 : Int32)), (.long q2), (.int p1), (.int (0 : Int32)), (.ref b2)])) t
    exact k
  obtain ⟨_, _, ⟨T5, L5, k5, n5⟩, -, X5, ⟨Lc5, hQ5, l5, y5, z5⟩, st5⟩ := Jvm.LawKit.callS X2 hx (y := (⟨"com/example/clapboard/clapboard/parse/TextCursorReadNumberPinLaw", "pick", "(IJI)C"⟩ : MethodName)) hown (mvT hZ (hw _ (List.mem_of_getElem? (i := 1) rfl))) (mvT hZ (hw _ (List.mem_of_getElem? (i := 2) rfl))) (mvT hZ (hw _ (List.mem_of_getElem? (i := 3) rfl))) (mvT hZ (hw _ (List.mem_of_getElem? (i := 4) rfl))) (by decide) (backOf (W := 2) (rm1 l Z a0 hw [] p1 q2 (0 : Int32) h2 n0 (Nat.le_trans Z0 KP2.1) ) hZ (hw _ (List.mem_of_getElem? (i := 4) rfl)) (hw _ (List.mem_of_getElem? (i := 3) rfl)) (by decide) (by decide)) (g := (mkF m 11 #[.val (.int p1), .val (.long q2), .second, .val (.int p3), .val (.int p4), .val (.int p5), .val (.ref b2), .unset, .unset, .unset, .unset, .unset, .unset, .unset, .unset, .unset, .unset, .unset] [(.int (0 : Int32)), (.long q2), (.int p1), (.int (0 : Int32)), (.ref b2)])) rfl (by rw [hml]; rfl) (argsL := [(.int p1), (.long q2), (.int (0 : Int32))]) (rest := [(.int (0 : Int32)), (.ref b2)]) (lenOf pd_0 rfl) rfl (by show 2 * 0 + _ ≤ _; exact Nat.le_of_eq rfl) (Jvm.hb hby at_11) (fun _ _ => ⟨rfl, e2, (by decide : 1 + 0 ≤ _), (by decide : 5 + 0 ≤ _)⟩)
  dsimp only [Pt.U, Pt.locs, Pt.cells, Pt.slots] at X5 l5 y5 z5 st5 hQ5
  subst l5 y5 z5
  obtain ⟨rfl, N5q, e5⟩ := hQ5
  have N5 := Fr.app N0 N5q
  have K6 : ∀ t, Steps p.tables e below (T5.setTop (mkF m 14 #[.val (.int p1), .val (.long q2), .second, .val (.int p3), .val (.int p4), .val (.int p5), .val (.ref b2), .unset, .unset, .unset, .unset, .unset, .unset, .unset, .unset, .unset, .unset, .unset] [(.int (f1 p1 q2 (0 : Int32))), (.int (0 : Int32)), (.ref b2)])) t → Steps p.tables e below (T2.setTop (mkF m 11 #[.val (.int p1), .val (.long q2), .second, .val (.int p3), .val (.int p4), .val (.int p5), .val (.ref b2), .unset, .unset, .unset, .unset, .unset, .unset, .unset, .unset, .unset, .unset, .unset] [(.int (0 : Int32)), (.long q2), (.int p1), (.int (0 : Int32)), (.ref b2)])) t := fun t k => st5 _ k
  have hin7 : ¬ (0 : Int32) < 0 ∧ (0 : Int32) < (5 : Int32) := by exact ⟨by decide, by decide⟩
  obtain ⟨cl7, Aq7, hj7, aq7⟩ := Ia.at V2 hin7
  obtain ⟨T7, h7, X7, e7, W7, st7⟩ := stC X5 hx hZ e5 Aq7 (j := (0 : Int32)) hj7 (g := (mkF m 14 #[.val (.int p1), .val (.long q2), .second, .val (.int p3), .val (.int p4), .val (.int p5), .val (.ref b2), .unset, .unset, .unset, .unset, .unset, .unset, .unset, .unset, .unset, .unset, .unset] [(.int (f1 p1 q2 (0 : Int32))), (.int (0 : Int32)), (.ref b2)])) rfl rfl (Jvm.hb hby at_14)
  have KP7 : Keep h0 h7 [] := KP2.wr W7 (Or.inr sz_b2)
  have N7 := Fr.snoc X7 N5 gb_b2
  have Aw7 : Ia Z h7 b2 .char (5 : Int32) (f0_u1 p1 q2) := V2.set W7 hin7.1
  have K8 : ∀ t, Steps p.tables e below (T7.setTop (mkF m 15 #[.val (.int p1), .val (.long q2), .second, .val (.int p3), .val (.int p4), .val (.int p5), .val (.ref b2), .unset, .unset, .unset, .unset, .unset, .unset, .unset, .unset, .unset, .unset, .unset] [])) t → Steps p.tables e below (T5.setTop (mkF m 14 #[.val (.int p1), .val (.long q2), .second, .val (.int p3), .val (.int p4), .val (.int p5), .val (.ref b2), .unset, .unset, .unset, .unset, .unset, .unset, .unset, .unset, .unset, .unset, .unset] [(.int (f1 p1 q2 (0 : Int32))), (.int (0 : Int32)), (.ref b2)])) t := fun t k => st7 _ k
  have K9 : ∀ t, Steps p.tables e below (T7.setTop (mkF m 21 #[.val (.int p1), .val (.long q2), .second, .val (.int p3), .val (.int p4), .val (.int p5), .val (.ref b2), .unset, .unset, .unset, .unset, .unset, .unset, .unset, .unset, .unset, .unset, .unset] [(.int (1 : Int32)), (.long q2), (.int p1), (.int (1 : Int32)), (.ref b2)])) t → Steps p.tables e below (T7.setTop (mkF m 15 #[.val (.int p1), .val (.long q2), .second, .val (.int p3), .val (.int p4), .val (.int p5), .val (.ref b2), .unset, .unset, .unset, .unset, .unset, .unset, .unset, .unset, .unset, .unset, .unset] [])) t := by
    intro t k
    refine XS.aload X7.here hx rfl (Jvm.hb hby at_15) rfl rfl ?_
    show Steps p.tables e below (T7.setTop (mkF m 17 #[.val (.int p1), .val (.long q2), .second, .val (.int p3), .val (.int p4), .val (.int p5), .val (.ref b2), .unset, .unset, .unset, .unset, .unset, .unset, .unset, .unset, .unset, .unset, .unset] [(.ref b2)])) t
    refine XS.iconst X7.here hx rfl (Jvm.hb hby at_17) ?_
    show Steps p.tables e below (T7.setTop (mkF m 18 #[.val (.int p1), .val (.long q2), .second, .val (.int p3), .val (.int p4), .val (.int p5), .val (.ref b2), .unset, .unset, .unset, .unset, .unset, .unset, .unset, .unset, .unset, .unset, .unset] [(.int (1 : Int32)), (.ref b2)])) t
    refine XS.iloadN X7.here hx rfl (Jvm.hb hby at_18) rfl ?_
    show Steps p.tables e below (T7.setTop (mkF m 19 #[.val (.int p1), .val (.long q2), .second, .val (.int p3), .val (.int p4), .val (.int p5), .val (.ref b2), .unset, .unset, .unset, .unset, .unset, .unset, .unset, .unset, .unset, .unset, .unset] [(.int p1), (.int (1 : Int32)), (.ref b2)])) t
    refine XS.lloadN X7.here hx rfl (Jvm.hb hby at_19) rfl ?_
    show Steps p.tables e below (T7.setTop (mkF m 20 #[.val (.int p1), .val (.long q2), .second, .val (.int p3), .val (.int p4), .val (.int p5), .val (.ref b2), .unset, .unset, .unset, .unset, .unset, .unset, .unset, .unset, .unset, .unset, .unset] [(.long q2), (.int p1), (.int (1 : Int32)), (.ref b2)])) t
    refine XS.iconst X7.here hx rfl (Jvm.hb hby at_20) ?_
    show Steps p.tables e below (T7.setTop (mkF m 21 #[.val (.int p1), .val (.long q2), .second, .val (.int p3), .val (.int p4), .val (.int p5), .val (.ref b2), .unset, .unset, .unset, .unset, .unset, .unset, .unset, .unset, .unset, .unset, .unset] [(.int (1 : Int32)), (.long q2), (.int p1), (.int (1 : Int32)), (.ref b2)])) t
    exact k
  obtain ⟨_, _, ⟨T10, L10, k10, n10⟩, -, X10, ⟨Lc10, hQ10, l10, y10, z10⟩, st10⟩ := Jvm.LawKit.callS X7 hx (y := (⟨"com/example/clapboard/clapboard/parse/TextCursorReadNumberPinLaw", "pick", "(IJI)C"⟩ : MethodName)) hown (mvT hZ (hw _ (List.mem_of_getElem? (i := 1) rfl))) (mvT hZ (hw _ (List.mem_of_getElem? (i := 2) rfl))) (mvT hZ (hw _ (List.mem_of_getElem? (i := 3) rfl))) (mvT hZ (hw _ (List.mem_of_getElem? (i := 4) rfl))) (by decide) (backOf (W := 2) (rm1 l Z a0 hw [] p1 q2 (1 : Int32) h7 n0 (Nat.le_trans Z0 KP7.1) ) hZ (hw _ (List.mem_of_getElem? (i := 4) rfl)) (hw _ (List.mem_of_getElem? (i := 3) rfl)) (by decide) (by decide)) (g := (mkF m 21 #[.val (.int p1), .val (.long q2), .second, .val (.int p3), .val (.int p4), .val (.int p5), .val (.ref b2), .unset, .unset, .unset, .unset, .unset, .unset, .unset, .unset, .unset, .unset, .unset] [(.int (1 : Int32)), (.long q2), (.int p1), (.int (1 : Int32)), (.ref b2)])) rfl (by rw [hml]; rfl) (argsL := [(.int p1), (.long q2), (.int (1 : Int32))]) (rest := [(.int (1 : Int32)), (.ref b2)]) (lenOf pd_0 rfl) rfl (by show 2 * 0 + _ ≤ _; exact Nat.le_of_eq rfl) (Jvm.hb hby at_21) (fun _ _ => ⟨rfl, e7, (by decide : 1 + 0 ≤ _), (by decide : 5 + 0 ≤ _)⟩)
  dsimp only [Pt.U, Pt.locs, Pt.cells, Pt.slots] at X10 l10 y10 z10 st10 hQ10
  subst l10 y10 z10
  obtain ⟨rfl, N10q, e10⟩ := hQ10
  have N10 := Fr.app N7 N10q
  have K11 : ∀ t, Steps p.tables e below (T10.setTop (mkF m 24 #[.val (.int p1), .val (.long q2), .second, .val (.int p3), .val (.int p4), .val (.int p5), .val (.ref b2), .unset, .unset, .unset, .unset, .unset, .unset, .unset, .unset, .unset, .unset, .unset] [(.int (f1 p1 q2 (1 : Int32))), (.int (1 : Int32)), (.ref b2)])) t → Steps p.tables e below (T7.setTop (mkF m 21 #[.val (.int p1), .val (.long q2), .second, .val (.int p3), .val (.int p4), .val (.int p5), .val (.ref b2), .unset, .unset, .unset, .unset, .unset, .unset, .unset, .unset, .unset, .unset, .unset] [(.int (1 : Int32)), (.long q2), (.int p1), (.int (1 : Int32)), (.ref b2)])) t := fun t k => st10 _ k
  have hin12 : ¬ (1 : Int32) < 0 ∧ (1 : Int32) < (5 : Int32) := by exact ⟨by decide, by decide⟩
  obtain ⟨cl12, Aq12, hj12, aq12⟩ := Ia.at Aw7 hin12
  obtain ⟨T12, h12, X12, e12, W12, st12⟩ := stC X10 hx hZ e10 Aq12 (j := (1 : Int32)) hj12 (g := (mkF m 24 #[.val (.int p1), .val (.long q2), .second, .val (.int p3), .val (.int p4), .val (.int p5), .val (.ref b2), .unset, .unset, .unset, .unset, .unset, .unset, .unset, .unset, .unset, .unset, .unset] [(.int (f1 p1 q2 (1 : Int32))), (.int (1 : Int32)), (.ref b2)])) rfl rfl (Jvm.hb hby at_24)
  have KP12 : Keep h0 h12 [] := KP7.wr W12 (Or.inr sz_b2)
  have N12 := Fr.snoc X12 N10 gb_b2
  have Aw12 : Ia Z h12 b2 .char (5 : Int32) (f0_u2 p1 q2) := Aw7.set W12 hin12.1
  have K13 : ∀ t, Steps p.tables e below (T12.setTop (mkF m 25 #[.val (.int p1), .val (.long q2), .second, .val (.int p3), .val (.int p4), .val (.int p5), .val (.ref b2), .unset, .unset, .unset, .unset, .unset, .unset, .unset, .unset, .unset, .unset, .unset] [])) t → Steps p.tables e below (T10.setTop (mkF m 24 #[.val (.int p1), .val (.long q2), .second, .val (.int p3), .val (.int p4), .val (.int p5), .val (.ref b2), .unset, .unset, .unset, .unset, .unset, .unset, .unset, .unset, .unset, .unset, .unset] [(.int (f1 p1 q2 (1 : Int32))), (.int (1 : Int32)), (.ref b2)])) t := fun t k => st12 _ k
  have K14 : ∀ t, Steps p.tables e below (T12.setTop (mkF m 31 #[.val (.int p1), .val (.long q2), .second, .val (.int p3), .val (.int p4), .val (.int p5), .val (.ref b2), .unset, .unset, .unset, .unset, .unset, .unset, .unset, .unset, .unset, .unset, .unset] [(.int (2 : Int32)), (.long q2), (.int p1), (.int (2 : Int32)), (.ref b2)])) t → Steps p.tables e below (T12.setTop (mkF m 25 #[.val (.int p1), .val (.long q2), .second, .val (.int p3), .val (.int p4), .val (.int p5), .val (.ref b2), .unset, .unset, .unset, .unset, .unset, .unset, .unset, .unset, .unset, .unset, .unset] [])) t := by
    intro t k
    refine XS.aload X12.here hx rfl (Jvm.hb hby at_25) rfl rfl ?_
    show Steps p.tables e below (T12.setTop (mkF m 27 #[.val (.int p1), .val (.long q2), .second, .val (.int p3), .val (.int p4), .val (.int p5), .val (.ref b2), .unset, .unset, .unset, .unset, .unset, .unset, .unset, .unset, .unset, .unset, .unset] [(.ref b2)])) t
    refine XS.iconst X12.here hx rfl (Jvm.hb hby at_27) ?_
    show Steps p.tables e below (T12.setTop (mkF m 28 #[.val (.int p1), .val (.long q2), .second, .val (.int p3), .val (.int p4), .val (.int p5), .val (.ref b2), .unset, .unset, .unset, .unset, .unset, .unset, .unset, .unset, .unset, .unset, .unset] [(.int (2 : Int32)), (.ref b2)])) t
    refine XS.iloadN X12.here hx rfl (Jvm.hb hby at_28) rfl ?_
    show Steps p.tables e below (T12.setTop (mkF m 29 #[.val (.int p1), .val (.long q2), .second, .val (.int p3), .val (.int p4), .val (.int p5), .val (.ref b2), .unset, .unset, .unset, .unset, .unset, .unset, .unset, .unset, .unset, .unset, .unset] [(.int p1), (.int (2 : Int32)), (.ref b2)])) t
    refine XS.lloadN X12.here hx rfl (Jvm.hb hby at_29) rfl ?_
    show Steps p.tables e below (T12.setTop (mkF m 30 #[.val (.int p1), .val (.long q2), .second, .val (.int p3), .val (.int p4), .val (.int p5), .val (.ref b2), .unset, .unset, .unset, .unset, .unset, .unset, .unset, .unset, .unset, .unset, .unset] [(.long q2), (.int p1), (.int (2 : Int32)), (.ref b2)])) t
    refine XS.iconst X12.here hx rfl (Jvm.hb hby at_30) ?_
    show Steps p.tables e below (T12.setTop (mkF m 31 #[.val (.int p1), .val (.long q2), .second, .val (.int p3), .val (.int p4), .val (.int p5), .val (.ref b2), .unset, .unset, .unset, .unset, .unset, .unset, .unset, .unset, .unset, .unset, .unset] [(.int (2 : Int32)), (.long q2), (.int p1), (.int (2 : Int32)), (.ref b2)])) t
    exact k
  obtain ⟨_, _, ⟨T15, L15, k15, n15⟩, -, X15, ⟨Lc15, hQ15, l15, y15, z15⟩, st15⟩ := Jvm.LawKit.callS X12 hx (y := (⟨"com/example/clapboard/clapboard/parse/TextCursorReadNumberPinLaw", "pick", "(IJI)C"⟩ : MethodName)) hown (mvT hZ (hw _ (List.mem_of_getElem? (i := 1) rfl))) (mvT hZ (hw _ (List.mem_of_getElem? (i := 2) rfl))) (mvT hZ (hw _ (List.mem_of_getElem? (i := 3) rfl))) (mvT hZ (hw _ (List.mem_of_getElem? (i := 4) rfl))) (by decide) (backOf (W := 2) (rm1 l Z a0 hw [] p1 q2 (2 : Int32) h12 n0 (Nat.le_trans Z0 KP12.1) ) hZ (hw _ (List.mem_of_getElem? (i := 4) rfl)) (hw _ (List.mem_of_getElem? (i := 3) rfl)) (by decide) (by decide)) (g := (mkF m 31 #[.val (.int p1), .val (.long q2), .second, .val (.int p3), .val (.int p4), .val (.int p5), .val (.ref b2), .unset, .unset, .unset, .unset, .unset, .unset, .unset, .unset, .unset, .unset, .unset] [(.int (2 : Int32)), (.long q2), (.int p1), (.int (2 : Int32)), (.ref b2)])) rfl (by rw [hml]; rfl) (argsL := [(.int p1), (.long q2), (.int (2 : Int32))]) (rest := [(.int (2 : Int32)), (.ref b2)]) (lenOf pd_0 rfl) rfl (by show 2 * 0 + _ ≤ _; exact Nat.le_of_eq rfl) (Jvm.hb hby at_31) (fun _ _ => ⟨rfl, e12, (by decide : 1 + 0 ≤ _), (by decide : 5 + 0 ≤ _)⟩)
  dsimp only [Pt.U, Pt.locs, Pt.cells, Pt.slots] at X15 l15 y15 z15 st15 hQ15
  subst l15 y15 z15
  obtain ⟨rfl, N15q, e15⟩ := hQ15
  have N15 := Fr.app N12 N15q
  have K16 : ∀ t, Steps p.tables e below (T15.setTop (mkF m 34 #[.val (.int p1), .val (.long q2), .second, .val (.int p3), .val (.int p4), .val (.int p5), .val (.ref b2), .unset, .unset, .unset, .unset, .unset, .unset, .unset, .unset, .unset, .unset, .unset] [(.int (f1 p1 q2 (2 : Int32))), (.int (2 : Int32)), (.ref b2)])) t → Steps p.tables e below (T12.setTop (mkF m 31 #[.val (.int p1), .val (.long q2), .second, .val (.int p3), .val (.int p4), .val (.int p5), .val (.ref b2), .unset, .unset, .unset, .unset, .unset, .unset, .unset, .unset, .unset, .unset, .unset] [(.int (2 : Int32)), (.long q2), (.int p1), (.int (2 : Int32)), (.ref b2)])) t := fun t k => st15 _ k
  have hin17 : ¬ (2 : Int32) < 0 ∧ (2 : Int32) < (5 : Int32) := by exact ⟨by decide, by decide⟩
  obtain ⟨cl17, Aq17, hj17, aq17⟩ := Ia.at Aw12 hin17
  obtain ⟨T17, h17, X17, e17, W17, st17⟩ := stC X15 hx hZ e15 Aq17 (j := (2 : Int32)) hj17 (g := (mkF m 34 #[.val (.int p1), .val (.long q2), .second, .val (.int p3), .val (.int p4), .val (.int p5), .val (.ref b2), .unset, .unset, .unset, .unset, .unset, .unset, .unset, .unset, .unset, .unset, .unset] [(.int (f1 p1 q2 (2 : Int32))), (.int (2 : Int32)), (.ref b2)])) rfl rfl (Jvm.hb hby at_34)
  have KP17 : Keep h0 h17 [] := KP12.wr W17 (Or.inr sz_b2)
  have N17 := Fr.snoc X17 N15 gb_b2
  have Aw17 : Ia Z h17 b2 .char (5 : Int32) (f0_u3 p1 q2) := Aw12.set W17 hin17.1
  have K18 : ∀ t, Steps p.tables e below (T17.setTop (mkF m 35 #[.val (.int p1), .val (.long q2), .second, .val (.int p3), .val (.int p4), .val (.int p5), .val (.ref b2), .unset, .unset, .unset, .unset, .unset, .unset, .unset, .unset, .unset, .unset, .unset] [])) t → Steps p.tables e below (T15.setTop (mkF m 34 #[.val (.int p1), .val (.long q2), .second, .val (.int p3), .val (.int p4), .val (.int p5), .val (.ref b2), .unset, .unset, .unset, .unset, .unset, .unset, .unset, .unset, .unset, .unset, .unset] [(.int (f1 p1 q2 (2 : Int32))), (.int (2 : Int32)), (.ref b2)])) t := fun t k => st17 _ k
  have K19 : ∀ t, Steps p.tables e below (T17.setTop (mkF m 41 #[.val (.int p1), .val (.long q2), .second, .val (.int p3), .val (.int p4), .val (.int p5), .val (.ref b2), .unset, .unset, .unset, .unset, .unset, .unset, .unset, .unset, .unset, .unset, .unset] [(.int (3 : Int32)), (.long q2), (.int p1), (.int (3 : Int32)), (.ref b2)])) t → Steps p.tables e below (T17.setTop (mkF m 35 #[.val (.int p1), .val (.long q2), .second, .val (.int p3), .val (.int p4), .val (.int p5), .val (.ref b2), .unset, .unset, .unset, .unset, .unset, .unset, .unset, .unset, .unset, .unset, .unset] [])) t := by
    intro t k
    refine XS.aload X17.here hx rfl (Jvm.hb hby at_35) rfl rfl ?_
    show Steps p.tables e below (T17.setTop (mkF m 37 #[.val (.int p1), .val (.long q2), .second, .val (.int p3), .val (.int p4), .val (.int p5), .val (.ref b2), .unset, .unset, .unset, .unset, .unset, .unset, .unset, .unset, .unset, .unset, .unset] [(.ref b2)])) t
    refine XS.iconst X17.here hx rfl (Jvm.hb hby at_37) ?_
    show Steps p.tables e below (T17.setTop (mkF m 38 #[.val (.int p1), .val (.long q2), .second, .val (.int p3), .val (.int p4), .val (.int p5), .val (.ref b2), .unset, .unset, .unset, .unset, .unset, .unset, .unset, .unset, .unset, .unset, .unset] [(.int (3 : Int32)), (.ref b2)])) t
    refine XS.iloadN X17.here hx rfl (Jvm.hb hby at_38) rfl ?_
    show Steps p.tables e below (T17.setTop (mkF m 39 #[.val (.int p1), .val (.long q2), .second, .val (.int p3), .val (.int p4), .val (.int p5), .val (.ref b2), .unset, .unset, .unset, .unset, .unset, .unset, .unset, .unset, .unset, .unset, .unset] [(.int p1), (.int (3 : Int32)), (.ref b2)])) t
    refine XS.lloadN X17.here hx rfl (Jvm.hb hby at_39) rfl ?_
    show Steps p.tables e below (T17.setTop (mkF m 40 #[.val (.int p1), .val (.long q2), .second, .val (.int p3), .val (.int p4), .val (.int p5), .val (.ref b2), .unset, .unset, .unset, .unset, .unset, .unset, .unset, .unset, .unset, .unset, .unset] [(.long q2), (.int p1), (.int (3 : Int32)), (.ref b2)])) t
    refine XS.iconst X17.here hx rfl (Jvm.hb hby at_40) ?_
    show Steps p.tables e below (T17.setTop (mkF m 41 #[.val (.int p1), .val (.long q2), .second, .val (.int p3), .val (.int p4), .val (.int p5), .val (.ref b2), .unset, .unset, .unset, .unset, .unset, .unset, .unset, .unset, .unset, .unset, .unset] [(.int (3 : Int32)), (.long q2), (.int p1), (.int (3 : Int32)), (.ref b2)])) t
    exact k
  obtain ⟨_, _, ⟨T20, L20, k20, n20⟩, -, X20, ⟨Lc20, hQ20, l20, y20, z20⟩, st20⟩ := Jvm.LawKit.callS X17 hx (y := (⟨"com/example/clapboard/clapboard/parse/TextCursorReadNumberPinLaw", "pick", "(IJI)C"⟩ : MethodName)) hown (mvT hZ (hw _ (List.mem_of_getElem? (i := 1) rfl))) (mvT hZ (hw _ (List.mem_of_getElem? (i := 2) rfl))) (mvT hZ (hw _ (List.mem_of_getElem? (i := 3) rfl))) (mvT hZ (hw _ (List.mem_of_getElem? (i := 4) rfl))) (by decide) (backOf (W := 2) (rm1 l Z a0 hw [] p1 q2 (3 : Int32) h17 n0 (Nat.le_trans Z0 KP17.1) ) hZ (hw _ (List.mem_of_getElem? (i := 4) rfl)) (hw _ (List.mem_of_getElem? (i := 3) rfl)) (by decide) (by decide)) (g := (mkF m 41 #[.val (.int p1), .val (.long q2), .second, .val (.int p3), .val (.int p4), .val (.int p5), .val (.ref b2), .unset, .unset, .unset, .unset, .unset, .unset, .unset, .unset, .unset, .unset, .unset] [(.int (3 : Int32)), (.long q2), (.int p1), (.int (3 : Int32)), (.ref b2)])) rfl (by rw [hml]; rfl) (argsL := [(.int p1), (.long q2), (.int (3 : Int32))]) (rest := [(.int (3 : Int32)), (.ref b2)]) (lenOf pd_0 rfl) rfl (by show 2 * 0 + _ ≤ _; exact Nat.le_of_eq rfl) (Jvm.hb hby at_41) (fun _ _ => ⟨rfl, e17, (by decide : 1 + 0 ≤ _), (by decide : 5 + 0 ≤ _)⟩)
  dsimp only [Pt.U, Pt.locs, Pt.cells, Pt.slots] at X20 l20 y20 z20 st20 hQ20
  subst l20 y20 z20
  obtain ⟨rfl, N20q, e20⟩ := hQ20
  have N20 := Fr.app N17 N20q
  have K21 : ∀ t, Steps p.tables e below (T20.setTop (mkF m 44 #[.val (.int p1), .val (.long q2), .second, .val (.int p3), .val (.int p4), .val (.int p5), .val (.ref b2), .unset, .unset, .unset, .unset, .unset, .unset, .unset, .unset, .unset, .unset, .unset] [(.int (f1 p1 q2 (3 : Int32))), (.int (3 : Int32)), (.ref b2)])) t → Steps p.tables e below (T17.setTop (mkF m 41 #[.val (.int p1), .val (.long q2), .second, .val (.int p3), .val (.int p4), .val (.int p5), .val (.ref b2), .unset, .unset, .unset, .unset, .unset, .unset, .unset, .unset, .unset, .unset, .unset] [(.int (3 : Int32)), (.long q2), (.int p1), (.int (3 : Int32)), (.ref b2)])) t := fun t k => st20 _ k
  have hin22 : ¬ (3 : Int32) < 0 ∧ (3 : Int32) < (5 : Int32) := by exact ⟨by decide, by decide⟩
  obtain ⟨cl22, Aq22, hj22, aq22⟩ := Ia.at Aw17 hin22
  obtain ⟨T22, h22, X22, e22, W22, st22⟩ := stC X20 hx hZ e20 Aq22 (j := (3 : Int32)) hj22 (g := (mkF m 44 #[.val (.int p1), .val (.long q2), .second, .val (.int p3), .val (.int p4), .val (.int p5), .val (.ref b2), .unset, .unset, .unset, .unset, .unset, .unset, .unset, .unset, .unset, .unset, .unset] [(.int (f1 p1 q2 (3 : Int32))), (.int (3 : Int32)), (.ref b2)])) rfl rfl (Jvm.hb hby at_44)
  have KP22 : Keep h0 h22 [] := KP17.wr W22 (Or.inr sz_b2)
  have N22 := Fr.snoc X22 N20 gb_b2
  have Aw22 : Ia Z h22 b2 .char (5 : Int32) (f0_u4 p1 q2) := Aw17.set W22 hin22.1
  have K23 : ∀ t, Steps p.tables e below (T22.setTop (mkF m 45 #[.val (.int p1), .val (.long q2), .second, .val (.int p3), .val (.int p4), .val (.int p5), .val (.ref b2), .unset, .unset, .unset, .unset, .unset, .unset, .unset, .unset, .unset, .unset, .unset] [])) t → Steps p.tables e below (T20.setTop (mkF m 44 #[.val (.int p1), .val (.long q2), .second, .val (.int p3), .val (.int p4), .val (.int p5), .val (.ref b2), .unset, .unset, .unset, .unset, .unset, .unset, .unset, .unset, .unset, .unset, .unset] [(.int (f1 p1 q2 (3 : Int32))), (.int (3 : Int32)), (.ref b2)])) t := fun t k => st22 _ k
  have K24 : ∀ t, Steps p.tables e below (T22.setTop (mkF m 51 #[.val (.int p1), .val (.long q2), .second, .val (.int p3), .val (.int p4), .val (.int p5), .val (.ref b2), .unset, .unset, .unset, .unset, .unset, .unset, .unset, .unset, .unset, .unset, .unset] [(.int (4 : Int32)), (.long q2), (.int p1), (.int (4 : Int32)), (.ref b2)])) t → Steps p.tables e below (T22.setTop (mkF m 45 #[.val (.int p1), .val (.long q2), .second, .val (.int p3), .val (.int p4), .val (.int p5), .val (.ref b2), .unset, .unset, .unset, .unset, .unset, .unset, .unset, .unset, .unset, .unset, .unset] [])) t := by
    intro t k
    refine XS.aload X22.here hx rfl (Jvm.hb hby at_45) rfl rfl ?_
    show Steps p.tables e below (T22.setTop (mkF m 47 #[.val (.int p1), .val (.long q2), .second, .val (.int p3), .val (.int p4), .val (.int p5), .val (.ref b2), .unset, .unset, .unset, .unset, .unset, .unset, .unset, .unset, .unset, .unset, .unset] [(.ref b2)])) t
    refine XS.iconst X22.here hx rfl (Jvm.hb hby at_47) ?_
    show Steps p.tables e below (T22.setTop (mkF m 48 #[.val (.int p1), .val (.long q2), .second, .val (.int p3), .val (.int p4), .val (.int p5), .val (.ref b2), .unset, .unset, .unset, .unset, .unset, .unset, .unset, .unset, .unset, .unset, .unset] [(.int (4 : Int32)), (.ref b2)])) t
    refine XS.iloadN X22.here hx rfl (Jvm.hb hby at_48) rfl ?_
    show Steps p.tables e below (T22.setTop (mkF m 49 #[.val (.int p1), .val (.long q2), .second, .val (.int p3), .val (.int p4), .val (.int p5), .val (.ref b2), .unset, .unset, .unset, .unset, .unset, .unset, .unset, .unset, .unset, .unset, .unset] [(.int p1), (.int (4 : Int32)), (.ref b2)])) t
    refine XS.lloadN X22.here hx rfl (Jvm.hb hby at_49) rfl ?_
    show Steps p.tables e below (T22.setTop (mkF m 50 #[.val (.int p1), .val (.long q2), .second, .val (.int p3), .val (.int p4), .val (.int p5), .val (.ref b2), .unset, .unset, .unset, .unset, .unset, .unset, .unset, .unset, .unset, .unset, .unset] [(.long q2), (.int p1), (.int (4 : Int32)), (.ref b2)])) t
    refine XS.iconst X22.here hx rfl (Jvm.hb hby at_50) ?_
    show Steps p.tables e below (T22.setTop (mkF m 51 #[.val (.int p1), .val (.long q2), .second, .val (.int p3), .val (.int p4), .val (.int p5), .val (.ref b2), .unset, .unset, .unset, .unset, .unset, .unset, .unset, .unset, .unset, .unset, .unset] [(.int (4 : Int32)), (.long q2), (.int p1), (.int (4 : Int32)), (.ref b2)])) t
    exact k
  obtain ⟨_, _, ⟨T25, L25, k25, n25⟩, -, X25, ⟨Lc25, hQ25, l25, y25, z25⟩, st25⟩ := Jvm.LawKit.callS X22 hx (y := (⟨"com/example/clapboard/clapboard/parse/TextCursorReadNumberPinLaw", "pick", "(IJI)C"⟩ : MethodName)) hown (mvT hZ (hw _ (List.mem_of_getElem? (i := 1) rfl))) (mvT hZ (hw _ (List.mem_of_getElem? (i := 2) rfl))) (mvT hZ (hw _ (List.mem_of_getElem? (i := 3) rfl))) (mvT hZ (hw _ (List.mem_of_getElem? (i := 4) rfl))) (by decide) (backOf (W := 2) (rm1 l Z a0 hw [] p1 q2 (4 : Int32) h22 n0 (Nat.le_trans Z0 KP22.1) ) hZ (hw _ (List.mem_of_getElem? (i := 4) rfl)) (hw _ (List.mem_of_getElem? (i := 3) rfl)) (by decide) (by decide)) (g := (mkF m 51 #[.val (.int p1), .val (.long q2), .second, .val (.int p3), .val (.int p4), .val (.int p5), .val (.ref b2), .unset, .unset, .unset, .unset, .unset, .unset, .unset, .unset, .unset, .unset, .unset] [(.int (4 : Int32)), (.long q2), (.int p1), (.int (4 : Int32)), (.ref b2)])) rfl (by rw [hml]; rfl) (argsL := [(.int p1), (.long q2), (.int (4 : Int32))]) (rest := [(.int (4 : Int32)), (.ref b2)]) (lenOf pd_0 rfl) rfl (by show 2 * 0 + _ ≤ _; exact Nat.le_of_eq rfl) (Jvm.hb hby at_51) (fun _ _ => ⟨rfl, e22, (by decide : 1 + 0 ≤ _), (by decide : 5 + 0 ≤ _)⟩)
  dsimp only [Pt.U, Pt.locs, Pt.cells, Pt.slots] at X25 l25 y25 z25 st25 hQ25
  subst l25 y25 z25
  obtain ⟨rfl, N25q, e25⟩ := hQ25
  have N25 := Fr.app N22 N25q
  have K26 : ∀ t, Steps p.tables e below (T25.setTop (mkF m 54 #[.val (.int p1), .val (.long q2), .second, .val (.int p3), .val (.int p4), .val (.int p5), .val (.ref b2), .unset, .unset, .unset, .unset, .unset, .unset, .unset, .unset, .unset, .unset, .unset] [(.int (f1 p1 q2 (4 : Int32))), (.int (4 : Int32)), (.ref b2)])) t → Steps p.tables e below (T22.setTop (mkF m 51 #[.val (.int p1), .val (.long q2), .second, .val (.int p3), .val (.int p4), .val (.int p5), .val (.ref b2), .unset, .unset, .unset, .unset, .unset, .unset, .unset, .unset, .unset, .unset, .unset] [(.int (4 : Int32)), (.long q2), (.int p1), (.int (4 : Int32)), (.ref b2)])) t := fun t k => st25 _ k
  have hin27 : ¬ (4 : Int32) < 0 ∧ (4 : Int32) < (5 : Int32) := by exact ⟨by decide, by decide⟩
  obtain ⟨cl27, Aq27, hj27, aq27⟩ := Ia.at Aw22 hin27
  obtain ⟨T27, h27, X27, e27, W27, st27⟩ := stC X25 hx hZ e25 Aq27 (j := (4 : Int32)) hj27 (g := (mkF m 54 #[.val (.int p1), .val (.long q2), .second, .val (.int p3), .val (.int p4), .val (.int p5), .val (.ref b2), .unset, .unset, .unset, .unset, .unset, .unset, .unset, .unset, .unset, .unset, .unset] [(.int (f1 p1 q2 (4 : Int32))), (.int (4 : Int32)), (.ref b2)])) rfl rfl (Jvm.hb hby at_54)
  have KP27 : Keep h0 h27 [] := KP22.wr W27 (Or.inr sz_b2)
  have N27 := Fr.snoc X27 N25 gb_b2
  have Aw27 : Ia Z h27 b2 .char (5 : Int32) (f0_u5 p1 q2) := Aw22.set W27 hin27.1
  have K28 : ∀ t, Steps p.tables e below (T27.setTop (mkF m 55 #[.val (.int p1), .val (.long q2), .second, .val (.int p3), .val (.int p4), .val (.int p5), .val (.ref b2), .unset, .unset, .unset, .unset, .unset, .unset, .unset, .unset, .unset, .unset, .unset] [])) t → Steps p.tables e below (T25.setTop (mkF m 54 #[.val (.int p1), .val (.long q2), .second, .val (.int p3), .val (.int p4), .val (.int p5), .val (.ref b2), .unset, .unset, .unset, .unset, .unset, .unset, .unset, .unset, .unset, .unset, .unset] [(.int (f1 p1 q2 (4 : Int32))), (.int (4 : Int32)), (.ref b2)])) t := fun t k => st27 _ k
  have K29 : ∀ t, Steps p.tables e below (T27.setTop (mkF m 87 #[.val (.int p1), .val (.long q2), .second, .val (.int p3), .val (.int p4), .val (.int p5), .val (.ref b2), .val (.int ((p3 &&& (7 : Int32)) % (6 : Int32))), .val (.int (f0_u6 p3)), .unset, .unset, .unset, .unset, .unset, .unset, .unset, .unset, .unset] [(.int (((p3.toUInt32 >>> ((6 : Int32) &&& 31).toUInt32).toInt32) &&& (1 : Int32)))])) t → Steps p.tables e below (T27.setTop (mkF m 55 #[.val (.int p1), .val (.long q2), .second, .val (.int p3), .val (.int p4), .val (.int p5), .val (.ref b2), .unset, .unset, .unset, .unset, .unset, .unset, .unset, .unset, .unset, .unset, .unset] [])) t := by
    intro t k
    refine XS.iloadN X27.here hx rfl (Jvm.hb hby at_55) rfl ?_
    show Steps p.tables e below (T27.setTop (mkF m 56 #[.val (.int p1), .val (.long q2), .second, .val (.int p3), .val (.int p4), .val (.int p5), .val (.ref b2), .unset, .unset, .unset, .unset, .unset, .unset, .unset, .unset, .unset, .unset, .unset] [(.int p3)])) t
    refine XS.bipush X27.here hx rfl (Jvm.hb hby at_56) ?_
    show Steps p.tables e below (T27.setTop (mkF m 58 #[.val (.int p1), .val (.long q2), .second, .val (.int p3), .val (.int p4), .val (.int p5), .val (.ref b2), .unset, .unset, .unset, .unset, .unset, .unset, .unset, .unset, .unset, .unset, .unset] [(.int (7 : Int32)), (.int p3)])) t
    refine XS.iand X27.here hx rfl (Jvm.hb hby at_58) rfl ?_
    show Steps p.tables e below (T27.setTop (mkF m 59 #[.val (.int p1), .val (.long q2), .second, .val (.int p3), .val (.int p4), .val (.int p5), .val (.ref b2), .unset, .unset, .unset, .unset, .unset, .unset, .unset, .unset, .unset, .unset, .unset] [(.int (p3 &&& (7 : Int32)))])) t
    refine XS.bipush X27.here hx rfl (Jvm.hb hby at_59) ?_
    show Steps p.tables e below (T27.setTop (mkF m 61 #[.val (.int p1), .val (.long q2), .second, .val (.int p3), .val (.int p4), .val (.int p5), .val (.ref b2), .unset, .unset, .unset, .unset, .unset, .unset, .unset, .unset, .unset, .unset, .unset] [(.int (6 : Int32)), (.int (p3 &&& (7 : Int32)))])) t
    refine iremM X27 hx rfl (Jvm.hb hby at_61) rfl (show (6 : Int32) ≠ (0 : Int32) from (by decide)) ?_
    show Steps p.tables e below (T27.setTop (mkF m 62 #[.val (.int p1), .val (.long q2), .second, .val (.int p3), .val (.int p4), .val (.int p5), .val (.ref b2), .unset, .unset, .unset, .unset, .unset, .unset, .unset, .unset, .unset, .unset, .unset] [(.int ((p3 &&& (7 : Int32)) % (6 : Int32)))])) t
    refine XS.istore X27.here hx rfl (Jvm.hb hby at_62) rfl (l' := #[.val (.int p1), .val (.long q2), .second, .val (.int p3), .val (.int p4), .val (.int p5), .val (.ref b2), .val (.int ((p3 &&& (7 : Int32)) % (6 : Int32))), .unset, .unset, .unset, .unset, .unset, .unset, .unset, .unset, .unset, .unset]) rfl ?_
    show Steps p.tables e below (T27.setTop (mkF m 64 #[.val (.int p1), .val (.long q2), .second, .val (.int p3), .val (.int p4), .val (.int p5), .val (.ref b2), .val (.int ((p3 &&& (7 : Int32)) % (6 : Int32))), .unset, .unset, .unset, .unset, .unset, .unset, .unset, .unset, .unset, .unset] [])) t
    refine XS.iload X27.here hx rfl (Jvm.hb hby at_64) rfl ?_
    show Steps p.tables e below (T27.setTop (mkF m 66 #[.val (.int p1), .val (.long q2), .second, .val (.int p3), .val (.int p4), .val (.int p5), .val (.ref b2), .val (.int ((p3 &&& (7 : Int32)) % (6 : Int32))), .unset, .unset, .unset, .unset, .unset, .unset, .unset, .unset, .unset, .unset] [(.int ((p3 &&& (7 : Int32)) % (6 : Int32)))])) t
    refine XS.iloadN X27.here hx rfl (Jvm.hb hby at_66) rfl ?_
    show Steps p.tables e below (T27.setTop (mkF m 67 #[.val (.int p1), .val (.long q2), .second, .val (.int p3), .val (.int p4), .val (.int p5), .val (.ref b2), .val (.int ((p3 &&& (7 : Int32)) % (6 : Int32))), .unset, .unset, .unset, .unset, .unset, .unset, .unset, .unset, .unset, .unset] [(.int p3), (.int ((p3 &&& (7 : Int32)) % (6 : Int32)))])) t
    refine XS.iconst X27.here hx rfl (Jvm.hb hby at_67) ?_
    show Steps p.tables e below (T27.setTop (mkF m 68 #[.val (.int p1), .val (.long q2), .second, .val (.int p3), .val (.int p4), .val (.int p5), .val (.ref b2), .val (.int ((p3 &&& (7 : Int32)) % (6 : Int32))), .unset, .unset, .unset, .unset, .unset, .unset, .unset, .unset, .unset, .unset] [(.int (3 : Int32)), (.int p3), (.int ((p3 &&& (7 : Int32)) % (6 : Int32)))])) t
    refine XS.iushr X27.here hx rfl (Jvm.hb hby at_68) rfl ?_
    show Steps p.tables e below (T27.setTop (mkF m 69 #[.val (.int p1), .val (.long q2), .second, .val (.int p3), .val (.int p4), .val (.int p5), .val (.ref b2), .val (.int ((p3 &&& (7 : Int32)) % (6 : Int32))), .unset, .unset, .unset, .unset, .unset, .unset, .unset, .unset, .unset, .unset] [(.int ((p3.toUInt32 >>> ((3 : Int32) &&& 31).toUInt32).toInt32)), (.int ((p3 &&& (7 : Int32)) % (6 : Int32)))])) t
    refine XS.bipush X27.here hx rfl (Jvm.hb hby at_69) ?_
    show Steps p.tables e below (T27.setTop (mkF m 71 #[.val (.int p1), .val (.long q2), .second, .val (.int p3), .val (.int p4), .val (.int p5), .val (.ref b2), .val (.int ((p3 &&& (7 : Int32)) % (6 : Int32))), .unset, .unset, .unset, .unset, .unset, .unset, .unset, .unset, .unset, .unset] [(.int (7 : Int32)), (.int ((p3.toUInt32 >>> ((3 : Int32) &&& 31).toUInt32).toInt32)), (.int ((p3 &&& (7 : Int32)) % (6 : Int32)))])) t
    refine XS.iand X27.here hx rfl (Jvm.hb hby at_71) rfl ?_
    show Steps p.tables e below (T27.setTop (mkF m 72 #[.val (.int p1), .val (.long q2), .second, .val (.int p3), .val (.int p4), .val (.int p5), .val (.ref b2), .val (.int ((p3 &&& (7 : Int32)) % (6 : Int32))), .unset, .unset, .unset, .unset, .unset, .unset, .unset, .unset, .unset, .unset] [(.int (((p3.toUInt32 >>> ((3 : Int32) &&& 31).toUInt32).toInt32) &&& (7 : Int32))), (.int ((p3 &&& (7 : Int32)) % (6 : Int32)))])) t
    refine XS.bipush X27.here hx rfl (Jvm.hb hby at_72) ?_
    show Steps p.tables e below (T27.setTop (mkF m 74 #[.val (.int p1), .val (.long q2), .second, .val (.int p3), .val (.int p4), .val (.int p5), .val (.ref b2), .val (.int ((p3 &&& (7 : Int32)) % (6 : Int32))), .unset, .unset, .unset, .unset, .unset, .unset, .unset, .unset, .unset, .unset] [(.int (6 : Int32)), (.int (((p3.toUInt32 >>> ((3 : Int32) &&& 31).toUInt32).toInt32) &&& (7 : Int32))), (.int ((p3 &&& (7 : Int32)) % (6 : Int32)))])) t
    refine XS.iload X27.here hx rfl (Jvm.hb hby at_74) rfl ?_
    show Steps p.tables e below (T27.setTop (mkF m 76 #[.val (.int p1), .val (.long q2), .second, .val (.int p3), .val (.int p4), .val (.int p5), .val (.ref b2), .val (.int ((p3 &&& (7 : Int32)) % (6 : Int32))), .unset, .unset, .unset, .unset, .unset, .unset, .unset, .unset, .unset, .unset] [(.int ((p3 &&& (7 : Int32)) % (6 : Int32))), (.int (6 : Int32)), (.int (((p3.toUInt32 >>> ((3 : Int32) &&& 31).toUInt32).toInt32) &&& (7 : Int32))), (.int ((p3 &&& (7 : Int32)) % (6 : Int32)))])) t
    refine XS.isub X27.here hx rfl (Jvm.hb hby at_76) rfl ?_
    show Steps p.tables e below (T27.setTop (mkF m 77 #[.val (.int p1), .val (.long q2), .second, .val (.int p3), .val (.int p4), .val (.int p5), .val (.ref b2), .val (.int ((p3 &&& (7 : Int32)) % (6 : Int32))), .unset, .unset, .unset, .unset, .unset, .unset, .unset, .unset, .unset, .unset] [(.int ((6 : Int32) - ((p3 &&& (7 : Int32)) % (6 : Int32)))), (.int (((p3.toUInt32 >>> ((3 : Int32) &&& 31).toUInt32).toInt32) &&& (7 : Int32))), (.int ((p3 &&& (7 : Int32)) % (6 : Int32)))])) t
    refine iremM X27 hx rfl (Jvm.hb hby at_77) rfl (show ((6 : Int32) - ((p3 &&& (7 : Int32)) % (6 : Int32))) ≠ (0 : Int32) from own_nz _) ?_
    show Steps p.tables e below (T27.setTop (mkF m 78 #[.val (.int p1), .val (.long q2), .second, .val (.int p3), .val (.int p4), .val (.int p5), .val (.ref b2), .val (.int ((p3 &&& (7 : Int32)) % (6 : Int32))), .unset, .unset, .unset, .unset, .unset, .unset, .unset, .unset, .unset, .unset] [(.int ((((p3.toUInt32 >>> ((3 : Int32) &&& 31).toUInt32).toInt32) &&& (7 : Int32)) % ((6 : Int32) - ((p3 &&& (7 : Int32)) % (6 : Int32))))), (.int ((p3 &&& (7 : Int32)) % (6 : Int32)))])) t
    refine XS.iadd X27.here hx rfl (Jvm.hb hby at_78) rfl ?_
    show Steps p.tables e below (T27.setTop (mkF m 79 #[.val (.int p1), .val (.long q2), .second, .val (.int p3), .val (.int p4), .val (.int p5), .val (.ref b2), .val (.int ((p3 &&& (7 : Int32)) % (6 : Int32))), .unset, .unset, .unset, .unset, .unset, .unset, .unset, .unset, .unset, .unset] [(.int (((p3 &&& (7 : Int32)) % (6 : Int32)) + ((((p3.toUInt32 >>> ((3 : Int32) &&& 31).toUInt32).toInt32) &&& (7 : Int32)) % ((6 : Int32) - ((p3 &&& (7 : Int32)) % (6 : Int32))))))])) t
    refine XS.istore X27.here hx rfl (Jvm.hb hby at_79) rfl (l' := #[.val (.int p1), .val (.long q2), .second, .val (.int p3), .val (.int p4), .val (.int p5), .val (.ref b2), .val (.int ((p3 &&& (7 : Int32)) % (6 : Int32))), .val (.int (f0_u6 p3)), .unset, .unset, .unset, .unset, .unset, .unset, .unset, .unset, .unset]) rfl ?_
    show Steps p.tables e below (T27.setTop (mkF m 81 #[.val (.int p1), .val (.long q2), .second, .val (.int p3), .val (.int p4), .val (.int p5), .val (.ref b2), .val (.int ((p3 &&& (7 : Int32)) % (6 : Int32))), .val (.int (f0_u6 p3)), .unset, .unset, .unset, .unset, .unset, .unset, .unset, .unset, .unset] [])) t
    refine XS.iloadN X27.here hx rfl (Jvm.hb hby at_81) rfl ?_
    show Steps p.tables e below (T27.setTop (mkF m 82 #[.val (.int p1), .val (.long q2), .second, .val (.int p3), .val (.int p4), .val (.int p5), .val (.ref b2), .val (.int ((p3 &&& (7 : Int32)) % (6 : Int32))), .val (.int (f0_u6 p3)), .unset, .unset, .unset, .unset, .unset, .unset, .unset, .unset, .unset] [(.int p3)])) t
    refine XS.bipush X27.here hx rfl (Jvm.hb hby at_82) ?_
    show Steps p.tables e below (T27.setTop (mkF m 84 #[.val (.int p1), .val (.long q2), .second, .val (.int p3), .val (.int p4), .val (.int p5), .val (.ref b2), .val (.int ((p3 &&& (7 : Int32)) % (6 : Int32))), .val (.int (f0_u6 p3)), .unset, .unset, .unset, .unset, .unset, .unset, .unset, .unset, .unset] [(.int (6 : Int32)), (.int p3)])) t
    refine XS.iushr X27.here hx rfl (Jvm.hb hby at_84) rfl ?_
    show Steps p.tables e below (T27.setTop (mkF m 85 #[.val (.int p1), .val (.long q2), .second, .val (.int p3), .val (.int p4), .val (.int p5), .val (.ref b2), .val (.int ((p3 &&& (7 : Int32)) % (6 : Int32))), .val (.int (f0_u6 p3)), .unset, .unset, .unset, .unset, .unset, .unset, .unset, .unset, .unset] [(.int ((p3.toUInt32 >>> ((6 : Int32) &&& 31).toUInt32).toInt32))])) t
    refine XS.iconst X27.here hx rfl (Jvm.hb hby at_85) ?_
    show Steps p.tables e below (T27.setTop (mkF m 86 #[.val (.int p1), .val (.long q2), .second, .val (.int p3), .val (.int p4), .val (.int p5), .val (.ref b2), .val (.int ((p3 &&& (7 : Int32)) % (6 : Int32))), .val (.int (f0_u6 p3)), .unset, .unset, .unset, .unset, .unset, .unset, .unset, .unset, .unset] [(.int (1 : Int32)), (.int ((p3.toUInt32 >>> ((6 : Int32) &&& 31).toUInt32).toInt32))])) t
    refine XS.iand X27.here hx rfl (Jvm.hb hby at_86) rfl ?_
    show Steps p.tables e below (T27.setTop (mkF m 87 #[.val (.int p1), .val (.long q2), .second, .val (.int p3), .val (.int p4), .val (.int p5), .val (.ref b2), .val (.int ((p3 &&& (7 : Int32)) % (6 : Int32))), .val (.int (f0_u6 p3)), .unset, .unset, .unset, .unset, .unset, .unset, .unset, .unset, .unset] [(.int (((p3.toUInt32 >>> ((6 : Int32) &&& 31).toUInt32).toInt32) &&& (1 : Int32)))])) t
    exact k
  have K30 : ∀ t, Steps p.tables e below (T27.setTop (mkF m 95 #[.val (.int p1), .val (.long q2), .second, .val (.int p3), .val (.int p4), .val (.int p5), .val (.ref b2), .val (.int ((p3 &&& (7 : Int32)) % (6 : Int32))), .val (.int (f0_u6 p3)), .unset, .unset, .unset, .unset, .unset, .unset, .unset, .unset, .unset] [(.int (f0_u7 p3))])) t → Steps p.tables e below (T27.setTop (mkF m 87 #[.val (.int p1), .val (.long q2), .second, .val (.int p3), .val (.int p4), .val (.int p5), .val (.ref b2), .val (.int ((p3 &&& (7 : Int32)) % (6 : Int32))), .val (.int (f0_u6 p3)), .unset, .unset, .unset, .unset, .unset, .unset, .unset, .unset, .unset] [(.int (((p3.toUInt32 >>> ((6 : Int32) &&& 31).toUInt32).toInt32) &&& (1 : Int32)))])) t := by
    intro t k
    by_cases hc30 : (((p3.toUInt32 >>> ((6 : Int32) &&& 31).toUInt32).toInt32) &&& (1 : Int32)) = (0 : Int32)
    · have K31 : ∀ t, Steps p.tables e below (T27.setTop (mkF m 94 #[.val (.int p1), .val (.long q2), .second, .val (.int p3), .val (.int p4), .val (.int p5), .val (.ref b2), .val (.int ((p3 &&& (7 : Int32)) % (6 : Int32))), .val (.int (f0_u6 p3)), .unset, .unset, .unset, .unset, .unset, .unset, .unset, .unset, .unset] [])) t → Steps p.tables e below (T27.setTop (mkF m 87 #[.val (.int p1), .val (.long q2), .second, .val (.int p3), .val (.int p4), .val (.int p5), .val (.ref b2), .val (.int ((p3 &&& (7 : Int32)) % (6 : Int32))), .val (.int (f0_u6 p3)), .unset, .unset, .unset, .unset, .unset, .unset, .unset, .unset, .unset] [(.int (((p3.toUInt32 >>> ((6 : Int32) &&& 31).toUInt32).toInt32) &&& (1 : Int32)))])) t := by
        intro t k
        refine XS.ifYes X27.here hx rfl (pc0 := 87) (pc' := 94) rfl (Jvm.hb hby at_87) rfl ((if0 _ _).trans (teq hc30).1) (by decide) (by decide) ?_
        exact k
      have K32 : ∀ t, Steps p.tables e below (T27.setTop (mkF m 95 #[.val (.int p1), .val (.long q2), .second, .val (.int p3), .val (.int p4), .val (.int p5), .val (.ref b2), .val (.int ((p3 &&& (7 : Int32)) % (6 : Int32))), .val (.int (f0_u6 p3)), .unset, .unset, .unset, .unset, .unset, .unset, .unset, .unset, .unset] [(.int (0 : Int32))])) t → Steps p.tables e below (T27.setTop (mkF m 94 #[.val (.int p1), .val (.long q2), .second, .val (.int p3), .val (.int p4), .val (.int p5), .val (.ref b2), .val (.int ((p3 &&& (7 : Int32)) % (6 : Int32))), .val (.int (f0_u6 p3)), .unset, .unset, .unset, .unset, .unset, .unset, .unset, .unset, .unset] [])) t := by
        intro t k
        refine XS.iconst X27.here hx rfl (Jvm.hb hby at_94) ?_
        show Steps p.tables e below (T27.setTop (mkF m 95 #[.val (.int p1), .val (.long q2), .second, .val (.int p3), .val (.int p4), .val (.int p5), .val (.ref b2), .val (.int ((p3 &&& (7 : Int32)) % (6 : Int32))), .val (.int (f0_u6 p3)), .unset, .unset, .unset, .unset, .unset, .unset, .unset, .unset, .unset] [(.int (0 : Int32))])) t
        exact k
      rw [show (f0_u7 p3) = (0 : Int32) from if_pos hc30] at k
      exact K31 _ (K32 _ (k))
    · have K33 : ∀ t, Steps p.tables e below (T27.setTop (mkF m 90 #[.val (.int p1), .val (.long q2), .second, .val (.int p3), .val (.int p4), .val (.int p5), .val (.ref b2), .val (.int ((p3 &&& (7 : Int32)) % (6 : Int32))), .val (.int (f0_u6 p3)), .unset, .unset, .unset, .unset, .unset, .unset, .unset, .unset, .unset] [])) t → Steps p.tables e below (T27.setTop (mkF m 87 #[.val (.int p1), .val (.long q2), .second, .val (.int p3), .val (.int p4), .val (.int p5), .val (.ref b2), .val (.int ((p3 &&& (7 : Int32)) % (6 : Int32))), .val (.int (f0_u6 p3)), .unset, .unset, .unset, .unset, .unset, .unset, .unset, .unset, .unset] [(.int (((p3.toUInt32 >>> ((6 : Int32) &&& 31).toUInt32).toInt32) &&& (1 : Int32)))])) t := by
        intro t k
        refine XS.ifNo X27.here hx rfl (Jvm.hb hby at_87) rfl ((if0 _ _).trans (feq hc30).1) ?_
        exact k
      have K34 : ∀ t, Steps p.tables e below (T27.setTop (mkF m 95 #[.val (.int p1), .val (.long q2), .second, .val (.int p3), .val (.int p4), .val (.int p5), .val (.ref b2), .val (.int ((p3 &&& (7 : Int32)) % (6 : Int32))), .val (.int (f0_u6 p3)), .unset, .unset, .unset, .unset, .unset, .unset, .unset, .unset, .unset] [(.int (1 : Int32))])) t → Steps p.tables e below (T27.setTop (mkF m 90 #[.val (.int p1), .val (.long q2), .second, .val (.int p3), .val (.int p4), .val (.int p5), .val (.ref b2), .val (.int ((p3 &&& (7 : Int32)) % (6 : Int32))), .val (.int (f0_u6 p3)), .unset, .unset, .unset, .unset, .unset, .unset, .unset, .unset, .unset] [])) t := by
        intro t k
        refine XS.iconst X27.here hx rfl (Jvm.hb hby at_90) ?_
        show Steps p.tables e below (T27.setTop (mkF m 91 #[.val (.int p1), .val (.long q2), .second, .val (.int p3), .val (.int p4), .val (.int p5), .val (.ref b2), .val (.int ((p3 &&& (7 : Int32)) % (6 : Int32))), .val (.int (f0_u6 p3)), .unset, .unset, .unset, .unset, .unset, .unset, .unset, .unset, .unset] [(.int (1 : Int32))])) t
        refine XS.goto X27.here hx rfl (pc0 := 91) (pc' := 95) rfl (Jvm.hb hby at_91) (by decide) (by decide) ?_
        show Steps p.tables e below (T27.setTop (mkF m 95 #[.val (.int p1), .val (.long q2), .second, .val (.int p3), .val (.int p4), .val (.int p5), .val (.ref b2), .val (.int ((p3 &&& (7 : Int32)) % (6 : Int32))), .val (.int (f0_u6 p3)), .unset, .unset, .unset, .unset, .unset, .unset, .unset, .unset, .unset] [(.int (1 : Int32))])) t
        exact k
      rw [show (f0_u7 p3) = (1 : Int32) from if_neg hc30] at k
      exact K33 _ (K34 _ (k))
  have K35 : ∀ t, Steps p.tables e below (T27.setTop (mkF m 99 #[.val (.int p1), .val (.long q2), .second, .val (.int p3), .val (.int p4), .val (.int p5), .val (.ref b2), .val (.int ((p3 &&& (7 : Int32)) % (6 : Int32))), .val (.int (f0_u6 p3)), .val (.int (f0_u7 p3)), .unset, .unset, .unset, .unset, .unset, .unset, .unset, .unset] [(.int (f0_u7 p3))])) t → Steps p.tables e below (T27.setTop (mkF m 95 #[.val (.int p1), .val (.long q2), .second, .val (.int p3), .val (.int p4), .val (.int p5), .val (.ref b2), .val (.int ((p3 &&& (7 : Int32)) % (6 : Int32))), .val (.int (f0_u6 p3)), .unset, .unset, .unset, .unset, .unset, .unset, .unset, .unset, .unset] [(.int (f0_u7 p3))])) t := by
    intro t k
    refine XS.istore X27.here hx rfl (Jvm.hb hby at_95) rfl (l' := #[.val (.int p1), .val (.long q2), .second, .val (.int p3), .val (.int p4), .val (.int p5), .val (.ref b2), .val (.int ((p3 &&& (7 : Int32)) % (6 : Int32))), .val (.int (f0_u6 p3)), .val (.int (f0_u7 p3)), .unset, .unset, .unset, .unset, .unset, .unset, .unset, .unset]) rfl ?_
    show Steps p.tables e below (T27.setTop (mkF m 97 #[.val (.int p1), .val (.long q2), .second, .val (.int p3), .val (.int p4), .val (.int p5), .val (.ref b2), .val (.int ((p3 &&& (7 : Int32)) % (6 : Int32))), .val (.int (f0_u6 p3)), .val (.int (f0_u7 p3)), .unset, .unset, .unset, .unset, .unset, .unset, .unset, .unset] [])) t
    refine XS.iload X27.here hx rfl (Jvm.hb hby at_97) rfl ?_
    show Steps p.tables e below (T27.setTop (mkF m 99 #[.val (.int p1), .val (.long q2), .second, .val (.int p3), .val (.int p4), .val (.int p5), .val (.ref b2), .val (.int ((p3 &&& (7 : Int32)) % (6 : Int32))), .val (.int (f0_u6 p3)), .val (.int (f0_u7 p3)), .unset, .unset, .unset, .unset, .unset, .unset, .unset, .unset] [(.int (f0_u7 p3))])) t
    exact k
  have K36 : ∀ t, Steps p.tables e below (T27.setTop (mkF m 114 #[.val (.int p1), .val (.long q2), .second, .val (.int p3), .val (.int p4), .val (.int p5), .val (.ref b2), .val (.int ((p3 &&& (7 : Int32)) % (6 : Int32))), .val (.int (f0_u6 p3)), .val (.int (f0_u7 p3)), .unset, .unset, .unset, .unset, .unset, .unset, .unset, .unset] [(.int (f0_u8 p3 p4))])) t → Steps p.tables e below (T27.setTop (mkF m 99 #[.val (.int p1), .val (.long q2), .second, .val (.int p3), .val (.int p4), .val (.int p5), .val (.ref b2), .val (.int ((p3 &&& (7 : Int32)) % (6 : Int32))), .val (.int (f0_u6 p3)), .val (.int (f0_u7 p3)), .unset, .unset, .unset, .unset, .unset, .unset, .unset, .unset] [(.int (f0_u7 p3))])) t := by
    intro t k
    by_cases hc36 : (f0_u7 p3) = (0 : Int32)
    · have K37 : ∀ t, Steps p.tables e below (T27.setTop (mkF m 107 #[.val (.int p1), .val (.long q2), .second, .val (.int p3), .val (.int p4), .val (.int p5), .val (.ref b2), .val (.int ((p3 &&& (7 : Int32)) % (6 : Int32))), .val (.int (f0_u6 p3)), .val (.int (f0_u7 p3)), .unset, .unset, .unset, .unset, .unset, .unset, .unset, .unset] [])) t → Steps p.tables e below (T27.setTop (mkF m 99 #[.val (.int p1), .val (.long q2), .second, .val (.int p3), .val (.int p4), .val (.int p5), .val (.ref b2), .val (.int ((p3 &&& (7 : Int32)) % (6 : Int32))), .val (.int (f0_u6 p3)), .val (.int (f0_u7 p3)), .unset, .unset, .unset, .unset, .unset, .unset, .unset, .unset] [(.int (f0_u7 p3))])) t := by
        intro t k
        refine XS.ifYes X27.here hx rfl (pc0 := 99) (pc' := 107) rfl (Jvm.hb hby at_99) rfl ((if0 _ _).trans (teq hc36).1) (by decide) (by decide) ?_
        exact k
      have K38 : ∀ t, Steps p.tables e below (T27.setTop (mkF m 114 #[.val (.int p1), .val (.long q2), .second, .val (.int p3), .val (.int p4), .val (.int p5), .val (.ref b2), .val (.int ((p3 &&& (7 : Int32)) % (6 : Int32))), .val (.int (f0_u6 p3)), .val (.int (f0_u7 p3)), .unset, .unset, .unset, .unset, .unset, .unset, .unset, .unset] [(.int ((p4 &&& (7 : Int32)) - (1 : Int32)))])) t → Steps p.tables e below (T27.setTop (mkF m 107 #[.val (.int p1), .val (.long q2), .second, .val (.int p3), .val (.int p4), .val (.int p5), .val (.ref b2), .val (.int ((p3 &&& (7 : Int32)) % (6 : Int32))), .val (.int (f0_u6 p3)), .val (.int (f0_u7 p3)), .unset, .unset, .unset, .unset, .unset, .unset, .unset, .unset] [])) t := by
        intro t k
        refine XS.iload X27.here hx rfl (Jvm.hb hby at_107) rfl ?_
        show Steps p.tables e below (T27.setTop (mkF m 109 #[.val (.int p1), .val (.long q2), .second, .val (.int p3), .val (.int p4), .val (.int p5), .val (.ref b2), .val (.int ((p3 &&& (7 : Int32)) % (6 : Int32))), .val (.int (f0_u6 p3)), .val (.int (f0_u7 p3)), .unset, .unset, .unset, .unset, .unset, .unset, .unset, .unset] [(.int p4)])) t
        refine XS.bipush X27.here hx rfl (Jvm.hb hby at_109) ?_
        show Steps p.tables e below (T27.setTop (mkF m 111 #[.val (.int p1), .val (.long q2), .second, .val (.int p3), .val (.int p4), .val (.int p5), .val (.ref b2), .val (.int ((p3 &&& (7 : Int32)) % (6 : Int32))), .val (.int (f0_u6 p3)), .val (.int (f0_u7 p3)), .unset, .unset, .unset, .unset, .unset, .unset, .unset, .unset] [(.int (7 : Int32)), (.int p4)])) t
        refine XS.iand X27.here hx rfl (Jvm.hb hby at_111) rfl ?_
        show Steps p.tables e below (T27.setTop (mkF m 112 #[.val (.int p1), .val (.long q2), .second, .val (.int p3), .val (.int p4), .val (.int p5), .val (.ref b2), .val (.int ((p3 &&& (7 : Int32)) % (6 : Int32))), .val (.int (f0_u6 p3)), .val (.int (f0_u7 p3)), .unset, .unset, .unset, .unset, .unset, .unset, .unset, .unset] [(.int (p4 &&& (7 : Int32)))])) t
        refine XS.iconst X27.here hx rfl (Jvm.hb hby at_112) ?_
        show Steps p.tables e below (T27.setTop (mkF m 113 #[.val (.int p1), .val (.long q2), .second, .val (.int p3), .val (.int p4), .val (.int p5), .val (.ref b2), .val (.int ((p3 &&& (7 : Int32)) % (6 : Int32))), .val (.int (f0_u6 p3)), .val (.int (f0_u7 p3)), .unset, .unset, .unset, .unset, .unset, .unset, .unset, .unset] [(.int (1 : Int32)), (.int (p4 &&& (7 : Int32)))])) t
        refine XS.isub X27.here hx rfl (Jvm.hb hby at_113) rfl ?_
        show Steps p.tables e below (T27.setTop (mkF m 114 #[.val (.int p1), .val (.long q2), .second, .val (.int p3), .val (.int p4), .val (.int p5), .val (.ref b2), .val (.int ((p3 &&& (7 : Int32)) % (6 : Int32))), .val (.int (f0_u6 p3)), .val (.int (f0_u7 p3)), .unset, .unset, .unset, .unset, .unset, .unset, .unset, .unset] [(.int ((p4 &&& (7 : Int32)) - (1 : Int32)))])) t
        exact k
      rw [show (f0_u8 p3 p4) = ((p4 &&& (7 : Int32)) - (1 : Int32)) from if_pos hc36] at k
      exact K37 _ (K38 _ (k))
    · have K39 : ∀ t, Steps p.tables e below (T27.setTop (mkF m 102 #[.val (.int p1), .val (.long q2), .second, .val (.int p3), .val (.int p4), .val (.int p5), .val (.ref b2), .val (.int ((p3 &&& (7 : Int32)) % (6 : Int32))), .val (.int (f0_u6 p3)), .val (.int (f0_u7 p3)), .unset, .unset, .unset, .unset, .unset, .unset, .unset, .unset] [])) t → Steps p.tables e below (T27.setTop (mkF m 99 #[.val (.int p1), .val (.long q2), .second, .val (.int p3), .val (.int p4), .val (.int p5), .val (.ref b2), .val (.int ((p3 &&& (7 : Int32)) % (6 : Int32))), .val (.int (f0_u6 p3)), .val (.int (f0_u7 p3)), .unset, .unset, .unset, .unset, .unset, .unset, .unset, .unset] [(.int (f0_u7 p3))])) t := by
        intro t k
        refine XS.ifNo X27.here hx rfl (Jvm.hb hby at_99) rfl ((if0 _ _).trans (feq hc36).1) ?_
        exact k
      have K40 : ∀ t, Steps p.tables e below (T27.setTop (mkF m 114 #[.val (.int p1), .val (.long q2), .second, .val (.int p3), .val (.int p4), .val (.int p5), .val (.ref b2), .val (.int ((p3 &&& (7 : Int32)) % (6 : Int32))), .val (.int (f0_u6 p3)), .val (.int (f0_u7 p3)), .unset, .unset, .unset, .unset, .unset, .unset, .unset, .unset] [(.int p4)])) t → Steps p.tables e below (T27.setTop (mkF m 102 #[.val (.int p1), .val (.long q2), .second, .val (.int p3), .val (.int p4), .val (.int p5), .val (.ref b2), .val (.int ((p3 &&& (7 : Int32)) % (6 : Int32))), .val (.int (f0_u6 p3)), .val (.int (f0_u7 p3)), .unset, .unset, .unset, .unset, .unset, .unset, .unset, .unset] [])) t := by
        intro t k
        refine XS.iload X27.here hx rfl (Jvm.hb hby at_102) rfl ?_
        show Steps p.tables e below (T27.setTop (mkF m 104 #[.val (.int p1), .val (.long q2), .second, .val (.int p3), .val (.int p4), .val (.int p5), .val (.ref b2), .val (.int ((p3 &&& (7 : Int32)) % (6 : Int32))), .val (.int (f0_u6 p3)), .val (.int (f0_u7 p3)), .unset, .unset, .unset, .unset, .unset, .unset, .unset, .unset] [(.int p4)])) t
        refine XS.goto X27.here hx rfl (pc0 := 104) (pc' := 114) rfl (Jvm.hb hby at_104) (by decide) (by decide) ?_
        show Steps p.tables e below (T27.setTop (mkF m 114 #[.val (.int p1), .val (.long q2), .second, .val (.int p3), .val (.int p4), .val (.int p5), .val (.ref b2), .val (.int ((p3 &&& (7 : Int32)) % (6 : Int32))), .val (.int (f0_u6 p3)), .val (.int (f0_u7 p3)), .unset, .unset, .unset, .unset, .unset, .unset, .unset, .unset] [(.int p4)])) t
        exact k
      rw [show (f0_u8 p3 p4) = p4 from if_neg hc36] at k
      exact K39 _ (K40 _ (k))
  have K41 : ∀ t, Steps p.tables e below (T27.setTop (mkF m 118 #[.val (.int p1), .val (.long q2), .second, .val (.int p3), .val (.int p4), .val (.int p5), .val (.ref b2), .val (.int ((p3 &&& (7 : Int32)) % (6 : Int32))), .val (.int (f0_u6 p3)), .val (.int (f0_u7 p3)), .val (.int (f0_u8 p3 p4)), .unset, .unset, .unset, .unset, .unset, .unset, .unset] [(.int (f0_u7 p3))])) t → Steps p.tables e below (T27.setTop (mkF m 114 #[.val (.int p1), .val (.long q2), .second, .val (.int p3), .val (.int p4), .val (.int p5), .val (.ref b2), .val (.int ((p3 &&& (7 : Int32)) % (6 : Int32))), .val (.int (f0_u6 p3)), .val (.int (f0_u7 p3)), .unset, .unset, .unset, .unset, .unset, .unset, .unset, .unset] [(.int (f0_u8 p3 p4))])) t := by
    intro t k
    refine XS.istore X27.here hx rfl (Jvm.hb hby at_114) rfl (l' := #[.val (.int p1), .val (.long q2), .second, .val (.int p3), .val (.int p4), .val (.int p5), .val (.ref b2), .val (.int ((p3 &&& (7 : Int32)) % (6 : Int32))), .val (.int (f0_u6 p3)), .val (.int (f0_u7 p3)), .val (.int (f0_u8 p3 p4)), .unset, .unset, .unset, .unset, .unset, .unset, .unset]) rfl ?_
    show Steps p.tables e below (T27.setTop (mkF m 116 #[.val (.int p1), .val (.long q2), .second, .val (.int p3), .val (.int p4), .val (.int p5), .val (.ref b2), .val (.int ((p3 &&& (7 : Int32)) % (6 : Int32))), .val (.int (f0_u6 p3)), .val (.int (f0_u7 p3)), .val (.int (f0_u8 p3 p4)), .unset, .unset, .unset, .unset, .unset, .unset, .unset] [])) t
    refine XS.iload X27.here hx rfl (Jvm.hb hby at_116) rfl ?_
    show Steps p.tables e below (T27.setTop (mkF m 118 #[.val (.int p1), .val (.long q2), .second, .val (.int p3), .val (.int p4), .val (.int p5), .val (.ref b2), .val (.int ((p3 &&& (7 : Int32)) % (6 : Int32))), .val (.int (f0_u6 p3)), .val (.int (f0_u7 p3)), .val (.int (f0_u8 p3 p4)), .unset, .unset, .unset, .unset, .unset, .unset, .unset] [(.int (f0_u7 p3))])) t
    exact k
  have K42 : ∀ t, Steps p.tables e below (T27.setTop (mkF m 133 #[.val (.int p1), .val (.long q2), .second, .val (.int p3), .val (.int p4), .val (.int p5), .val (.ref b2), .val (.int ((p3 &&& (7 : Int32)) % (6 : Int32))), .val (.int (f0_u6 p3)), .val (.int (f0_u7 p3)), .val (.int (f0_u8 p3 p4)), .unset, .unset, .unset, .unset, .unset, .unset, .unset] [(.int (f0_u9 p3 p5))])) t → Steps p.tables e below (T27.setTop (mkF m 118 #[.val (.int p1), .val (.long q2), .second, .val (.int p3), .val (.int p4), .val (.int p5), .val (.ref b2), .val (.int ((p3 &&& (7 : Int32)) % (6 : Int32))), .val (.int (f0_u6 p3)), .val (.int (f0_u7 p3)), .val (.int (f0_u8 p3 p4)), .unset, .unset, .unset, .unset, .unset, .unset, .unset] [(.int (f0_u7 p3))])) t := by
    intro t k
    by_cases hc42 : (f0_u7 p3) = (0 : Int32)
    · have K43 : ∀ t, Steps p.tables e below (T27.setTop (mkF m 126 #[.val (.int p1), .val (.long q2), .second, .val (.int p3), .val (.int p4), .val (.int p5), .val (.ref b2), .val (.int ((p3 &&& (7 : Int32)) % (6 : Int32))), .val (.int (f0_u6 p3)), .val (.int (f0_u7 p3)), .val (.int (f0_u8 p3 p4)), .unset, .unset, .unset, .unset, .unset, .unset, .unset] [])) t → Steps p.tables e below (T27.setTop (mkF m 118 #[.val (.int p1), .val (.long q2), .second, .val (.int p3), .val (.int p4), .val (.int p5), .val (.ref b2), .val (.int ((p3 &&& (7 : Int32)) % (6 : Int32))), .val (.int (f0_u6 p3)), .val (.int (f0_u7 p3)), .val (.int (f0_u8 p3 p4)), .unset, .unset, .unset, .unset, .unset, .unset, .unset] [(.int (f0_u7 p3))])) t := by
        intro t k
        refine XS.ifYes X27.here hx rfl (pc0 := 118) (pc' := 126) rfl (Jvm.hb hby at_118) rfl ((if0 _ _).trans (teq hc42).1) (by decide) (by decide) ?_
        exact k
      have K44 : ∀ t, Steps p.tables e below (T27.setTop (mkF m 133 #[.val (.int p1), .val (.long q2), .second, .val (.int p3), .val (.int p4), .val (.int p5), .val (.ref b2), .val (.int ((p3 &&& (7 : Int32)) % (6 : Int32))), .val (.int (f0_u6 p3)), .val (.int (f0_u7 p3)), .val (.int (f0_u8 p3 p4)), .unset, .unset, .unset, .unset, .unset, .unset, .unset] [(.int ((p5 &&& (7 : Int32)) - (1 : Int32)))])) t → Steps p.tables e below (T27.setTop (mkF m 126 #[.val (.int p1), .val (.long q2), .second, .val (.int p3), .val (.int p4), .val (.int p5), .val (.ref b2), .val (.int ((p3 &&& (7 : Int32)) % (6 : Int32))), .val (.int (f0_u6 p3)), .val (.int (f0_u7 p3)), .val (.int (f0_u8 p3 p4)), .unset, .unset, .unset, .unset, .unset, .unset, .unset] [])) t := by
        intro t k
        refine XS.iload X27.here hx rfl (Jvm.hb hby at_126) rfl ?_
        show Steps p.tables e below (T27.setTop (mkF m 128 #[.val (.int p1), .val (.long q2), .second, .val (.int p3), .val (.int p4), .val (.int p5), .val (.ref b2), .val (.int ((p3 &&& (7 : Int32)) % (6 : Int32))), .val (.int (f0_u6 p3)), .val (.int (f0_u7 p3)), .val (.int (f0_u8 p3 p4)), .unset, .unset, .unset, .unset, .unset, .unset, .unset] [(.int p5)])) t
        refine XS.bipush X27.here hx rfl (Jvm.hb hby at_128) ?_
        show Steps p.tables e below (T27.setTop (mkF m 130 #[.val (.int p1), .val (.long q2), .second, .val (.int p3), .val (.int p4), .val (.int p5), .val (.ref b2), .val (.int ((p3 &&& (7 : Int32)) % (6 : Int32))), .val (.int (f0_u6 p3)), .val (.int (f0_u7 p3)), .val (.int (f0_u8 p3 p4)), .unset, .unset, .unset, .unset, .unset, .unset, .unset] [(.int (7 : Int32)), (.int p5)])) t
        refine XS.iand X27.here hx rfl (Jvm.hb hby at_130) rfl ?_
        show Steps p.tables e below (T27.setTop (mkF m 131 #[.val (.int p1), .val (.long q2), .second, .val (.int p3), .val (.int p4), .val (.int p5), .val (.ref b2), .val (.int ((p3 &&& (7 : Int32)) % (6 : Int32))), .val (.int (f0_u6 p3)), .val (.int (f0_u7 p3)), .val (.int (f0_u8 p3 p4)), .unset, .unset, .unset, .unset, .unset, .unset, .unset] [(.int (p5 &&& (7 : Int32)))])) t
        refine XS.iconst X27.here hx rfl (Jvm.hb hby at_131) ?_
        show Steps p.tables e below (T27.setTop (mkF m 132 #[.val (.int p1), .val (.long q2), .second, .val (.int p3), .val (.int p4), .val (.int p5), .val (.ref b2), .val (.int ((p3 &&& (7 : Int32)) % (6 : Int32))), .val (.int (f0_u6 p3)), .val (.int (f0_u7 p3)), .val (.int (f0_u8 p3 p4)), .unset, .unset, .unset, .unset, .unset, .unset, .unset] [(.int (1 : Int32)), (.int (p5 &&& (7 : Int32)))])) t
        refine XS.isub X27.here hx rfl (Jvm.hb hby at_132) rfl ?_
        show Steps p.tables e below (T27.setTop (mkF m 133 #[.val (.int p1), .val (.long q2), .second, .val (.int p3), .val (.int p4), .val (.int p5), .val (.ref b2), .val (.int ((p3 &&& (7 : Int32)) % (6 : Int32))), .val (.int (f0_u6 p3)), .val (.int (f0_u7 p3)), .val (.int (f0_u8 p3 p4)), .unset, .unset, .unset, .unset, .unset, .unset, .unset] [(.int ((p5 &&& (7 : Int32)) - (1 : Int32)))])) t
        exact k
      rw [show (f0_u9 p3 p5) = ((p5 &&& (7 : Int32)) - (1 : Int32)) from if_pos hc42] at k
      exact K43 _ (K44 _ (k))
    · have K45 : ∀ t, Steps p.tables e below (T27.setTop (mkF m 121 #[.val (.int p1), .val (.long q2), .second, .val (.int p3), .val (.int p4), .val (.int p5), .val (.ref b2), .val (.int ((p3 &&& (7 : Int32)) % (6 : Int32))), .val (.int (f0_u6 p3)), .val (.int (f0_u7 p3)), .val (.int (f0_u8 p3 p4)), .unset, .unset, .unset, .unset, .unset, .unset, .unset] [])) t → Steps p.tables e below (T27.setTop (mkF m 118 #[.val (.int p1), .val (.long q2), .second, .val (.int p3), .val (.int p4), .val (.int p5), .val (.ref b2), .val (.int ((p3 &&& (7 : Int32)) % (6 : Int32))), .val (.int (f0_u6 p3)), .val (.int (f0_u7 p3)), .val (.int (f0_u8 p3 p4)), .unset, .unset, .unset, .unset, .unset, .unset, .unset] [(.int (f0_u7 p3))])) t := by
        intro t k
        refine XS.ifNo X27.here hx rfl (Jvm.hb hby at_118) rfl ((if0 _ _).trans (feq hc42).1) ?_
        exact k
      have K46 : ∀ t, Steps p.tables e below (T27.setTop (mkF m 133 #[.val (.int p1), .val (.long q2), .second, .val (.int p3), .val (.int p4), .val (.int p5), .val (.ref b2), .val (.int ((p3 &&& (7 : Int32)) % (6 : Int32))), .val (.int (f0_u6 p3)), .val (.int (f0_u7 p3)), .val (.int (f0_u8 p3 p4)), .unset, .unset, .unset, .unset, .unset, .unset, .unset] [(.int p5)])) t → Steps p.tables e below (T27.setTop (mkF m 121 #[.val (.int p1), .val (.long q2), .second, .val (.int p3), .val (.int p4), .val (.int p5), .val (.ref b2), .val (.int ((p3 &&& (7 : Int32)) % (6 : Int32))), .val (.int (f0_u6 p3)), .val (.int (f0_u7 p3)), .val (.int (f0_u8 p3 p4)), .unset, .unset, .unset, .unset, .unset, .unset, .unset] [])) t := by
        intro t k
        refine XS.iload X27.here hx rfl (Jvm.hb hby at_121) rfl ?_
        show Steps p.tables e below (T27.setTop (mkF m 123 #[.val (.int p1), .val (.long q2), .second, .val (.int p3), .val (.int p4), .val (.int p5), .val (.ref b2), .val (.int ((p3 &&& (7 : Int32)) % (6 : Int32))), .val (.int (f0_u6 p3)), .val (.int (f0_u7 p3)), .val (.int (f0_u8 p3 p4)), .unset, .unset, .unset, .unset, .unset, .unset, .unset] [(.int p5)])) t
        refine XS.goto X27.here hx rfl (pc0 := 123) (pc' := 133) rfl (Jvm.hb hby at_123) (by decide) (by decide) ?_
        show Steps p.tables e below (T27.setTop (mkF m 133 #[.val (.int p1), .val (.long q2), .second, .val (.int p3), .val (.int p4), .val (.int p5), .val (.ref b2), .val (.int ((p3 &&& (7 : Int32)) % (6 : Int32))), .val (.int (f0_u6 p3)), .val (.int (f0_u7 p3)), .val (.int (f0_u8 p3 p4)), .unset, .unset, .unset, .unset, .unset, .unset, .unset] [(.int p5)])) t
        exact k
      rw [show (f0_u9 p3 p5) = p5 from if_neg hc42] at k
      exact K45 _ (K46 _ (k))
  have K47 : ∀ t, Steps p.tables e below (T27.setTop (mkF m 141 #[.val (.int p1), .val (.long q2), .second, .val (.int p3), .val (.int p4), .val (.int p5), .val (.ref b2), .val (.int ((p3 &&& (7 : Int32)) % (6 : Int32))), .val (.int (f0_u6 p3)), .val (.int (f0_u7 p3)), .val (.int (f0_u8 p3 p4)), .val (.int (f0_u9 p3 p5)), .unset, .unset, .unset, .unset, .unset, .unset] [(.int (f0_u6 p3)), (.int ((p3 &&& (7 : Int32)) % (6 : Int32))), (.ref b2)])) t → Steps p.tables e below (T27.setTop (mkF m 133 #[.val (.int p1), .val (.long q2), .second, .val (.int p3), .val (.int p4), .val (.int p5), .val (.ref b2), .val (.int ((p3 &&& (7 : Int32)) % (6 : Int32))), .val (.int (f0_u6 p3)), .val (.int (f0_u7 p3)), .val (.int (f0_u8 p3 p4)), .unset, .unset, .unset, .unset, .unset, .unset, .unset] [(.int (f0_u9 p3 p5))])) t := by
    intro t k
    refine XS.istore X27.here hx rfl (Jvm.hb hby at_133) rfl (l' := #[.val (.int p1), .val (.long q2), .second, .val (.int p3), .val (.int p4), .val (.int p5), .val (.ref b2), .val (.int ((p3 &&& (7 : Int32)) % (6 : Int32))), .val (.int (f0_u6 p3)), .val (.int (f0_u7 p3)), .val (.int (f0_u8 p3 p4)), .val (.int (f0_u9 p3 p5)), .unset, .unset, .unset, .unset, .unset, .unset]) rfl ?_
    show Steps p.tables e below (T27.setTop (mkF m 135 #[.val (.int p1), .val (.long q2), .second, .val (.int p3), .val (.int p4), .val (.int p5), .val (.ref b2), .val (.int ((p3 &&& (7 : Int32)) % (6 : Int32))), .val (.int (f0_u6 p3)), .val (.int (f0_u7 p3)), .val (.int (f0_u8 p3 p4)), .val (.int (f0_u9 p3 p5)), .unset, .unset, .unset, .unset, .unset, .unset] [])) t
    refine XS.aload X27.here hx rfl (Jvm.hb hby at_135) rfl rfl ?_
    show Steps p.tables e below (T27.setTop (mkF m 137 #[.val (.int p1), .val (.long q2), .second, .val (.int p3), .val (.int p4), .val (.int p5), .val (.ref b2), .val (.int ((p3 &&& (7 : Int32)) % (6 : Int32))), .val (.int (f0_u6 p3)), .val (.int (f0_u7 p3)), .val (.int (f0_u8 p3 p4)), .val (.int (f0_u9 p3 p5)), .unset, .unset, .unset, .unset, .unset, .unset] [(.ref b2)])) t
    refine XS.iload X27.here hx rfl (Jvm.hb hby at_137) rfl ?_
    show Steps p.tables e below (T27.setTop (mkF m 139 #[.val (.int p1), .val (.long q2), .second, .val (.int p3), .val (.int p4), .val (.int p5), .val (.ref b2), .val (.int ((p3 &&& (7 : Int32)) % (6 : Int32))), .val (.int (f0_u6 p3)), .val (.int (f0_u7 p3)), .val (.int (f0_u8 p3 p4)), .val (.int (f0_u9 p3 p5)), .unset, .unset, .unset, .unset, .unset, .unset] [(.int ((p3 &&& (7 : Int32)) % (6 : Int32))), (.ref b2)])) t
    refine XS.iload X27.here hx rfl (Jvm.hb hby at_139) rfl ?_
    show Steps p.tables e below (T27.setTop (mkF m 141 #[.val (.int p1), .val (.long q2), .second, .val (.int p3), .val (.int p4), .val (.int p5), .val (.ref b2), .val (.int ((p3 &&& (7 : Int32)) % (6 : Int32))), .val (.int (f0_u6 p3)), .val (.int (f0_u7 p3)), .val (.int (f0_u8 p3 p4)), .val (.int (f0_u9 p3 p5)), .unset, .unset, .unset, .unset, .unset, .unset] [(.int (f0_u6 p3)), (.int ((p3 &&& (7 : Int32)) % (6 : Int32))), (.ref b2)])) t
    exact k
  obtain ⟨_, _, ⟨T48, L48, k48, n48⟩, -, X48, ⟨Lc48, hQ48, l48, y48, z48⟩, st48⟩ := Jvm.LawKit.callS X27 hx (y := (⟨"com/example/clapboard/clapboard/parse/TextCursorReadNumberPinLaw", "run", "([CII)I"⟩ : MethodName)) hown (mvT hZ (hw _ (List.mem_of_getElem? (i := 6) rfl))) (mvT hZ (hw _ (List.mem_of_getElem? (i := 7) rfl))) (mvT hZ (hw _ (List.mem_of_getElem? (i := 3) rfl))) (mvT hZ (hw _ (List.mem_of_getElem? (i := 8) rfl))) (by decide) (backOf (W := 0) (rm2 l Z a0 hw [] b2 ((p3 &&& (7 : Int32)) % (6 : Int32)) (f0_u6 p3) (5 : Int32) (f0_u5 p1 q2) h27 n0 (Nat.le_trans Z0 KP27.1) (own_a0 _) (own_e5 _) (own_a1 _) Aw27) hZ (hw _ (List.mem_of_getElem? (i := 8) rfl)) (hw _ (List.mem_of_getElem? (i := 3) rfl)) (by decide) (by decide)) (g := (mkF m 141 #[.val (.int p1), .val (.long q2), .second, .val (.int p3), .val (.int p4), .val (.int p5), .val (.ref b2), .val (.int ((p3 &&& (7 : Int32)) % (6 : Int32))), .val (.int (f0_u6 p3)), .val (.int (f0_u7 p3)), .val (.int (f0_u8 p3 p4)), .val (.int (f0_u9 p3 p5)), .unset, .unset, .unset, .unset, .unset, .unset] [(.int (f0_u6 p3)), (.int ((p3 &&& (7 : Int32)) % (6 : Int32))), (.ref b2)])) rfl (by rw [hml]; rfl) (argsL := [(.ref b2), (.int ((p3 &&& (7 : Int32)) % (6 : Int32))), (.int (f0_u6 p3))]) (rest := []) (lenOf pd_1 rfl) rfl (by show 2 * 0 + _ ≤ _; exact Nat.le_of_eq rfl) (Jvm.hb hby at_141) (fun _ _ => ⟨rfl, e27, (by decide : 1 + 0 ≤ _), (by decide : 5 + 0 ≤ _)⟩)
  dsimp only [Pt.U, Pt.locs, Pt.cells, Pt.slots] at X48 l48 y48 z48 st48 hQ48
  subst l48 y48 z48
  obtain ⟨rfl, N48q, e48⟩ := hQ48
  have N48 := Fr.app N27 N48q
  have K49 : ∀ t, Steps p.tables e below (T48.setTop (mkF m 144 #[.val (.int p1), .val (.long q2), .second, .val (.int p3), .val (.int p4), .val (.int p5), .val (.ref b2), .val (.int ((p3 &&& (7 : Int32)) % (6 : Int32))), .val (.int (f0_u6 p3)), .val (.int (f0_u7 p3)), .val (.int (f0_u8 p3 p4)), .val (.int (f0_u9 p3 p5)), .unset, .unset, .unset, .unset, .unset, .unset] [(.int (f2 ((p3 &&& (7 : Int32)) % (6 : Int32)) (f0_u6 p3) (f0_u5 p1 q2)))])) t → Steps p.tables e below (T27.setTop (mkF m 141 #[.val (.int p1), .val (.long q2), .second, .val (.int p3), .val (.int p4), .val (.int p5), .val (.ref b2), .val (.int ((p3 &&& (7 : Int32)) % (6 : Int32))), .val (.int (f0_u6 p3)), .val (.int (f0_u7 p3)), .val (.int (f0_u8 p3 p4)), .val (.int (f0_u9 p3 p5)), .unset, .unset, .unset, .unset, .unset, .unset] [(.int (f0_u6 p3)), (.int ((p3 &&& (7 : Int32)) % (6 : Int32))), (.ref b2)])) t := fun t k => st48 _ k
  have K50 : ∀ t, Steps p.tables e below (T48.setTop (mkF m 152 #[.val (.int p1), .val (.long q2), .second, .val (.int p3), .val (.int p4), .val (.int p5), .val (.ref b2), .val (.int ((p3 &&& (7 : Int32)) % (6 : Int32))), .val (.int (f0_u6 p3)), .val (.int (f0_u7 p3)), .val (.int (f0_u8 p3 p4)), .val (.int (f0_u9 p3 p5)), .val (.int (f0_u10 p1 q2 p3)), .unset, .unset, .unset, .unset, .unset] [(.int (f0_u10 p1 q2 p3)), (.int ((p3 &&& (7 : Int32)) % (6 : Int32))), (.ref b2)])) t → Steps p.tables e below (T48.setTop (mkF m 144 #[.val (.int p1), .val (.long q2), .second, .val (.int p3), .val (.int p4), .val (.int p5), .val (.ref b2), .val (.int ((p3 &&& (7 : Int32)) % (6 : Int32))), .val (.int (f0_u6 p3)), .val (.int (f0_u7 p3)), .val (.int (f0_u8 p3 p4)), .val (.int (f0_u9 p3 p5)), .unset, .unset, .unset, .unset, .unset, .unset] [(.int (f2 ((p3 &&& (7 : Int32)) % (6 : Int32)) (f0_u6 p3) (f0_u5 p1 q2)))])) t := by
    intro t k
    refine XS.istore X48.here hx rfl (Jvm.hb hby at_144) rfl (l' := #[.val (.int p1), .val (.long q2), .second, .val (.int p3), .val (.int p4), .val (.int p5), .val (.ref b2), .val (.int ((p3 &&& (7 : Int32)) % (6 : Int32))), .val (.int (f0_u6 p3)), .val (.int (f0_u7 p3)), .val (.int (f0_u8 p3 p4)), .val (.int (f0_u9 p3 p5)), .val (.int (f0_u10 p1 q2 p3)), .unset, .unset, .unset, .unset, .unset]) rfl ?_
    show Steps p.tables e below (T48.setTop (mkF m 146 #[.val (.int p1), .val (.long q2), .second, .val (.int p3), .val (.int p4), .val (.int p5), .val (.ref b2), .val (.int ((p3 &&& (7 : Int32)) % (6 : Int32))), .val (.int (f0_u6 p3)), .val (.int (f0_u7 p3)), .val (.int (f0_u8 p3 p4)), .val (.int (f0_u9 p3 p5)), .val (.int (f0_u10 p1 q2 p3)), .unset, .unset, .unset, .unset, .unset] [])) t
    refine XS.aload X48.here hx rfl (Jvm.hb hby at_146) rfl rfl ?_
    show Steps p.tables e below (T48.setTop (mkF m 148 #[.val (.int p1), .val (.long q2), .second, .val (.int p3), .val (.int p4), .val (.int p5), .val (.ref b2), .val (.int ((p3 &&& (7 : Int32)) % (6 : Int32))), .val (.int (f0_u6 p3)), .val (.int (f0_u7 p3)), .val (.int (f0_u8 p3 p4)), .val (.int (f0_u9 p3 p5)), .val (.int (f0_u10 p1 q2 p3)), .unset, .unset, .unset, .unset, .unset] [(.ref b2)])) t
    refine XS.iload X48.here hx rfl (Jvm.hb hby at_148) rfl ?_
    show Steps p.tables e below (T48.setTop (mkF m 150 #[.val (.int p1), .val (.long q2), .second, .val (.int p3), .val (.int p4), .val (.int p5), .val (.ref b2), .val (.int ((p3 &&& (7 : Int32)) % (6 : Int32))), .val (.int (f0_u6 p3)), .val (.int (f0_u7 p3)), .val (.int (f0_u8 p3 p4)), .val (.int (f0_u9 p3 p5)), .val (.int (f0_u10 p1 q2 p3)), .unset, .unset, .unset, .unset, .unset] [(.int ((p3 &&& (7 : Int32)) % (6 : Int32))), (.ref b2)])) t
    refine XS.iload X48.here hx rfl (Jvm.hb hby at_150) rfl ?_
    show Steps p.tables e below (T48.setTop (mkF m 152 #[.val (.int p1), .val (.long q2), .second, .val (.int p3), .val (.int p4), .val (.int p5), .val (.ref b2), .val (.int ((p3 &&& (7 : Int32)) % (6 : Int32))), .val (.int (f0_u6 p3)), .val (.int (f0_u7 p3)), .val (.int (f0_u8 p3 p4)), .val (.int (f0_u9 p3 p5)), .val (.int (f0_u10 p1 q2 p3)), .unset, .unset, .unset, .unset, .unset] [(.int (f0_u10 p1 q2 p3)), (.int ((p3 &&& (7 : Int32)) % (6 : Int32))), (.ref b2)])) t
    exact k
  obtain ⟨_, _, ⟨T51, L51, k51, n51⟩, -, X51, ⟨Lc51, hQ51, l51, y51, z51⟩, st51⟩ := Jvm.LawKit.callS X48 hx (y := (⟨"com/example/clapboard/clapboard/parse/TextCursorReadNumberPinLaw", "valueOfRun", "([CII)I"⟩ : MethodName)) hown (mvT hZ (hw _ (List.mem_of_getElem? (i := 12) rfl))) (mvT hZ (hw _ (List.mem_of_getElem? (i := 13) rfl))) (mvT hZ (hw _ (List.mem_of_getElem? (i := 3) rfl))) (mvT hZ (hw _ (List.mem_of_getElem? (i := 14) rfl))) (by decide) (backOf (W := 0) (rm4 l Z a0 hw [] b2 ((p3 &&& (7 : Int32)) % (6 : Int32)) (f0_u10 p1 q2 p3) (5 : Int32) (f0_u5 p1 q2) h27 n0 (Nat.le_trans Z0 KP27.1) (own_a0 _) (own_a1 _) (own_rq _ _ _) Aw27) hZ (hw _ (List.mem_of_getElem? (i := 14) rfl)) (hw _ (List.mem_of_getElem? (i := 3) rfl)) (by decide) (by decide)) (g := (mkF m 152 #[.val (.int p1), .val (.long q2), .second, .val (.int p3), .val (.int p4), .val (.int p5), .val (.ref b2), .val (.int ((p3 &&& (7 : Int32)) % (6 : Int32))), .val (.int (f0_u6 p3)), .val (.int (f0_u7 p3)), .val (.int (f0_u8 p3 p4)), .val (.int (f0_u9 p3 p5)), .val (.int (f0_u10 p1 q2 p3)), .unset, .unset, .unset, .unset, .unset] [(.int (f0_u10 p1 q2 p3)), (.int ((p3 &&& (7 : Int32)) % (6 : Int32))), (.ref b2)])) rfl (by rw [hml]; rfl) (argsL := [(.ref b2), (.int ((p3 &&& (7 : Int32)) % (6 : Int32))), (.int (f0_u10 p1 q2 p3))]) (rest := []) (lenOf pd_1 rfl) rfl (by show 2 * 0 + _ ≤ _; exact Nat.le_of_eq rfl) (Jvm.hb hby at_152) (fun _ _ => ⟨rfl, e48, (by decide : 1 + 0 ≤ _), (by decide : 5 + 0 ≤ _)⟩)
  dsimp only [Pt.U, Pt.locs, Pt.cells, Pt.slots] at X51 l51 y51 z51 st51 hQ51
  subst l51 y51 z51
  obtain ⟨rfl, N51q, e51⟩ := hQ51
  have N51 := Fr.app N48 N51q
  have K52 : ∀ t, Steps p.tables e below (T51.setTop (mkF m 155 #[.val (.int p1), .val (.long q2), .second, .val (.int p3), .val (.int p4), .val (.int p5), .val (.ref b2), .val (.int ((p3 &&& (7 : Int32)) % (6 : Int32))), .val (.int (f0_u6 p3)), .val (.int (f0_u7 p3)), .val (.int (f0_u8 p3 p4)), .val (.int (f0_u9 p3 p5)), .val (.int (f0_u10 p1 q2 p3)), .unset, .unset, .unset, .unset, .unset] [(.int (f4 ((p3 &&& (7 : Int32)) % (6 : Int32)) (f0_u10 p1 q2 p3) (f0_u5 p1 q2)))])) t → Steps p.tables e below (T48.setTop (mkF m 152 #[.val (.int p1), .val (.long q2), .second, .val (.int p3), .val (.int p4), .val (.int p5), .val (.ref b2), .val (.int ((p3 &&& (7 : Int32)) % (6 : Int32))), .val (.int (f0_u6 p3)), .val (.int (f0_u7 p3)), .val (.int (f0_u8 p3 p4)), .val (.int (f0_u9 p3 p5)), .val (.int (f0_u10 p1 q2 p3)), .unset, .unset, .unset, .unset, .unset] [(.int (f0_u10 p1 q2 p3)), (.int ((p3 &&& (7 : Int32)) % (6 : Int32))), (.ref b2)])) t := fun t k => st51 _ k
  have K53 : ∀ t, Steps p.tables e below (T51.setTop (mkF m 161 #[.val (.int p1), .val (.long q2), .second, .val (.int p3), .val (.int p4), .val (.int p5), .val (.ref b2), .val (.int ((p3 &&& (7 : Int32)) % (6 : Int32))), .val (.int (f0_u6 p3)), .val (.int (f0_u7 p3)), .val (.int (f0_u8 p3 p4)), .val (.int (f0_u9 p3 p5)), .val (.int (f0_u10 p1 q2 p3)), .val (.int (f0_u11 p1 q2 p3)), .unset, .unset, .unset, .unset] [(.int (f0_u8 p3 p4)), (.int (f0_u10 p1 q2 p3))])) t → Steps p.tables e below (T51.setTop (mkF m 155 #[.val (.int p1), .val (.long q2), .second, .val (.int p3), .val (.int p4), .val (.int p5), .val (.ref b2), .val (.int ((p3 &&& (7 : Int32)) % (6 : Int32))), .val (.int (f0_u6 p3)), .val (.int (f0_u7 p3)), .val (.int (f0_u8 p3 p4)), .val (.int (f0_u9 p3 p5)), .val (.int (f0_u10 p1 q2 p3)), .unset, .unset, .unset, .unset, .unset] [(.int (f4 ((p3 &&& (7 : Int32)) % (6 : Int32)) (f0_u10 p1 q2 p3) (f0_u5 p1 q2)))])) t := by
    intro t k
    refine XS.istore X51.here hx rfl (Jvm.hb hby at_155) rfl (l' := #[.val (.int p1), .val (.long q2), .second, .val (.int p3), .val (.int p4), .val (.int p5), .val (.ref b2), .val (.int ((p3 &&& (7 : Int32)) % (6 : Int32))), .val (.int (f0_u6 p3)), .val (.int (f0_u7 p3)), .val (.int (f0_u8 p3 p4)), .val (.int (f0_u9 p3 p5)), .val (.int (f0_u10 p1 q2 p3)), .val (.int (f0_u11 p1 q2 p3)), .unset, .unset, .unset, .unset]) rfl ?_
    show Steps p.tables e below (T51.setTop (mkF m 157 #[.val (.int p1), .val (.long q2), .second, .val (.int p3), .val (.int p4), .val (.int p5), .val (.ref b2), .val (.int ((p3 &&& (7 : Int32)) % (6 : Int32))), .val (.int (f0_u6 p3)), .val (.int (f0_u7 p3)), .val (.int (f0_u8 p3 p4)), .val (.int (f0_u9 p3 p5)), .val (.int (f0_u10 p1 q2 p3)), .val (.int (f0_u11 p1 q2 p3)), .unset, .unset, .unset, .unset] [])) t
    refine XS.iload X51.here hx rfl (Jvm.hb hby at_157) rfl ?_
    show Steps p.tables e below (T51.setTop (mkF m 159 #[.val (.int p1), .val (.long q2), .second, .val (.int p3), .val (.int p4), .val (.int p5), .val (.ref b2), .val (.int ((p3 &&& (7 : Int32)) % (6 : Int32))), .val (.int (f0_u6 p3)), .val (.int (f0_u7 p3)), .val (.int (f0_u8 p3 p4)), .val (.int (f0_u9 p3 p5)), .val (.int (f0_u10 p1 q2 p3)), .val (.int (f0_u11 p1 q2 p3)), .unset, .unset, .unset, .unset] [(.int (f0_u10 p1 q2 p3))])) t
    refine XS.iload X51.here hx rfl (Jvm.hb hby at_159) rfl ?_
    show Steps p.tables e below (T51.setTop (mkF m 161 #[.val (.int p1), .val (.long q2), .second, .val (.int p3), .val (.int p4), .val (.int p5), .val (.ref b2), .val (.int ((p3 &&& (7 : Int32)) % (6 : Int32))), .val (.int (f0_u6 p3)), .val (.int (f0_u7 p3)), .val (.int (f0_u8 p3 p4)), .val (.int (f0_u9 p3 p5)), .val (.int (f0_u10 p1 q2 p3)), .val (.int (f0_u11 p1 q2 p3)), .unset, .unset, .unset, .unset] [(.int (f0_u8 p3 p4)), (.int (f0_u10 p1 q2 p3))])) t
    exact k
  have K54 : ∀ t, Steps p.tables e below (T51.setTop (mkF m 177 #[.val (.int p1), .val (.long q2), .second, .val (.int p3), .val (.int p4), .val (.int p5), .val (.ref b2), .val (.int ((p3 &&& (7 : Int32)) % (6 : Int32))), .val (.int (f0_u6 p3)), .val (.int (f0_u7 p3)), .val (.int (f0_u8 p3 p4)), .val (.int (f0_u9 p3 p5)), .val (.int (f0_u10 p1 q2 p3)), .val (.int (f0_u11 p1 q2 p3)), .unset, .unset, .unset, .unset] [(.int (f0_u12 p1 q2 p3 p4 p5))])) t → Steps p.tables e below (T51.setTop (mkF m 161 #[.val (.int p1), .val (.long q2), .second, .val (.int p3), .val (.int p4), .val (.int p5), .val (.ref b2), .val (.int ((p3 &&& (7 : Int32)) % (6 : Int32))), .val (.int (f0_u6 p3)), .val (.int (f0_u7 p3)), .val (.int (f0_u8 p3 p4)), .val (.int (f0_u9 p3 p5)), .val (.int (f0_u10 p1 q2 p3)), .val (.int (f0_u11 p1 q2 p3)), .unset, .unset, .unset, .unset] [(.int (f0_u8 p3 p4)), (.int (f0_u10 p1 q2 p3))])) t := by
    intro t k
    by_cases hc54 : (f0_u10 p1 q2 p3) < (f0_u8 p3 p4)
    · have K55 : ∀ t, Steps p.tables e below (T51.setTop (mkF m 171 #[.val (.int p1), .val (.long q2), .second, .val (.int p3), .val (.int p4), .val (.int p5), .val (.ref b2), .val (.int ((p3 &&& (7 : Int32)) % (6 : Int32))), .val (.int (f0_u6 p3)), .val (.int (f0_u7 p3)), .val (.int (f0_u8 p3 p4)), .val (.int (f0_u9 p3 p5)), .val (.int (f0_u10 p1 q2 p3)), .val (.int (f0_u11 p1 q2 p3)), .unset, .unset, .unset, .unset] [])) t → Steps p.tables e below (T51.setTop (mkF m 161 #[.val (.int p1), .val (.long q2), .second, .val (.int p3), .val (.int p4), .val (.int p5), .val (.ref b2), .val (.int ((p3 &&& (7 : Int32)) % (6 : Int32))), .val (.int (f0_u6 p3)), .val (.int (f0_u7 p3)), .val (.int (f0_u8 p3 p4)), .val (.int (f0_u9 p3 p5)), .val (.int (f0_u10 p1 q2 p3)), .val (.int (f0_u11 p1 q2 p3)), .unset, .unset, .unset, .unset] [(.int (f0_u8 p3 p4)), (.int (f0_u10 p1 q2 p3))])) t := by
        intro t k
        refine XS.icmpYes X51.here hx rfl (pc0 := 161) (pc' := 171) rfl (Jvm.hb hby at_161) rfl (tlt hc54).1 (by decide) (by decide) ?_
        exact k
      have K56 : ∀ t, Steps p.tables e below (T51.setTop (mkF m 177 #[.val (.int p1), .val (.long q2), .second, .val (.int p3), .val (.int p4), .val (.int p5), .val (.ref b2), .val (.int ((p3 &&& (7 : Int32)) % (6 : Int32))), .val (.int (f0_u6 p3)), .val (.int (f0_u7 p3)), .val (.int (f0_u8 p3 p4)), .val (.int (f0_u9 p3 p5)), .val (.int (f0_u10 p1 q2 p3)), .val (.int (f0_u11 p1 q2 p3)), .unset, .unset, .unset, .unset] [(.int (-1 : Int32))])) t → Steps p.tables e below (T51.setTop (mkF m 171 #[.val (.int p1), .val (.long q2), .second, .val (.int p3), .val (.int p4), .val (.int p5), .val (.ref b2), .val (.int ((p3 &&& (7 : Int32)) % (6 : Int32))), .val (.int (f0_u6 p3)), .val (.int (f0_u7 p3)), .val (.int (f0_u8 p3 p4)), .val (.int (f0_u9 p3 p5)), .val (.int (f0_u10 p1 q2 p3)), .val (.int (f0_u11 p1 q2 p3)), .unset, .unset, .unset, .unset] [])) t := by
        intro t k
        refine XS.iconst X51.here hx rfl (Jvm.hb hby at_171) ?_
        show Steps p.tables e below (T51.setTop (mkF m 172 #[.val (.int p1), .val (.long q2), .second, .val (.int p3), .val (.int p4), .val (.int p5), .val (.ref b2), .val (.int ((p3 &&& (7 : Int32)) % (6 : Int32))), .val (.int (f0_u6 p3)), .val (.int (f0_u7 p3)), .val (.int (f0_u8 p3 p4)), .val (.int (f0_u9 p3 p5)), .val (.int (f0_u10 p1 q2 p3)), .val (.int (f0_u11 p1 q2 p3)), .unset, .unset, .unset, .unset] [(.int (-1 : Int32))])) t
        refine XS.goto X51.here hx rfl (pc0 := 172) (pc' := 177) rfl (Jvm.hb hby at_172) (by decide) (by decide) ?_
        show Steps p.tables e below (T51.setTop (mkF m 177 #[.val (.int p1), .val (.long q2), .second, .val (.int p3), .val (.int p4), .val (.int p5), .val (.ref b2), .val (.int ((p3 &&& (7 : Int32)) % (6 : Int32))), .val (.int (f0_u6 p3)), .val (.int (f0_u7 p3)), .val (.int (f0_u8 p3 p4)), .val (.int (f0_u9 p3 p5)), .val (.int (f0_u10 p1 q2 p3)), .val (.int (f0_u11 p1 q2 p3)), .unset, .unset, .unset, .unset] [(.int (-1 : Int32))])) t
        exact k
      rw [show (f0_u12 p1 q2 p3 p4 p5) = (-1 : Int32) from if_pos hc54] at k
      exact K55 _ (K56 _ (k))
    · have K57 : ∀ t, Steps p.tables e below (T51.setTop (mkF m 164 #[.val (.int p1), .val (.long q2), .second, .val (.int p3), .val (.int p4), .val (.int p5), .val (.ref b2), .val (.int ((p3 &&& (7 : Int32)) % (6 : Int32))), .val (.int (f0_u6 p3)), .val (.int (f0_u7 p3)), .val (.int (f0_u8 p3 p4)), .val (.int (f0_u9 p3 p5)), .val (.int (f0_u10 p1 q2 p3)), .val (.int (f0_u11 p1 q2 p3)), .unset, .unset, .unset, .unset] [])) t → Steps p.tables e below (T51.setTop (mkF m 161 #[.val (.int p1), .val (.long q2), .second, .val (.int p3), .val (.int p4), .val (.int p5), .val (.ref b2), .val (.int ((p3 &&& (7 : Int32)) % (6 : Int32))), .val (.int (f0_u6 p3)), .val (.int (f0_u7 p3)), .val (.int (f0_u8 p3 p4)), .val (.int (f0_u9 p3 p5)), .val (.int (f0_u10 p1 q2 p3)), .val (.int (f0_u11 p1 q2 p3)), .unset, .unset, .unset, .unset] [(.int (f0_u8 p3 p4)), (.int (f0_u10 p1 q2 p3))])) t := by
        intro t k
        refine XS.icmpNo X51.here hx rfl (Jvm.hb hby at_161) rfl (flt hc54).1 ?_
        exact k
      have K58 : ∀ t, Steps p.tables e below (T51.setTop (mkF m 168 #[.val (.int p1), .val (.long q2), .second, .val (.int p3), .val (.int p4), .val (.int p5), .val (.ref b2), .val (.int ((p3 &&& (7 : Int32)) % (6 : Int32))), .val (.int (f0_u6 p3)), .val (.int (f0_u7 p3)), .val (.int (f0_u8 p3 p4)), .val (.int (f0_u9 p3 p5)), .val (.int (f0_u10 p1 q2 p3)), .val (.int (f0_u11 p1 q2 p3)), .unset, .unset, .unset, .unset] [(.int (f0_u9 p3 p5)), (.int (f0_u10 p1 q2 p3))])) t → Steps p.tables e below (T51.setTop (mkF m 164 #[.val (.int p1), .val (.long q2), .second, .val (.int p3), .val (.int p4), .val (.int p5), .val (.ref b2), .val (.int ((p3 &&& (7 : Int32)) % (6 : Int32))), .val (.int (f0_u6 p3)), .val (.int (f0_u7 p3)), .val (.int (f0_u8 p3 p4)), .val (.int (f0_u9 p3 p5)), .val (.int (f0_u10 p1 q2 p3)), .val (.int (f0_u11 p1 q2 p3)), .unset, .unset, .unset, .unset] [])) t := by
        intro t k
        refine XS.iload X51.here hx rfl (Jvm.hb hby at_164) rfl ?_
        show Steps p.tables e below (T51.setTop (mkF m 166 #[.val (.int p1), .val (.long q2), .second, .val (.int p3), .val (.int p4), .val (.int p5), .val (.ref b2), .val (.int ((p3 &&& (7 : Int32)) % (6 : Int32))), .val (.int (f0_u6 p3)), .val (.int (f0_u7 p3)), .val (.int (f0_u8 p3 p4)), .val (.int (f0_u9 p3 p5)), .val (.int (f0_u10 p1 q2 p3)), .val (.int (f0_u11 p1 q2 p3)), .unset, .unset, .unset, .unset] [(.int (f0_u10 p1 q2 p3))])) t
        refine XS.iload X51.here hx rfl (Jvm.hb hby at_166) rfl ?_
        show Steps p.tables e below (T51.setTop (mkF m 168 #[.val (.int p1), .val (.long q2), .second, .val (.int p3), .val (.int p4), .val (.int p5), .val (.ref b2), .val (.int ((p3 &&& (7 : Int32)) % (6 : Int32))), .val (.int (f0_u6 p3)), .val (.int (f0_u7 p3)), .val (.int (f0_u8 p3 p4)), .val (.int (f0_u9 p3 p5)), .val (.int (f0_u10 p1 q2 p3)), .val (.int (f0_u11 p1 q2 p3)), .unset, .unset, .unset, .unset] [(.int (f0_u9 p3 p5)), (.int (f0_u10 p1 q2 p3))])) t
        exact k
      by_cases hc59 : (f0_u9 p3 p5) < (f0_u10 p1 q2 p3)
      · have K60 : ∀ t, Steps p.tables e below (T51.setTop (mkF m 171 #[.val (.int p1), .val (.long q2), .second, .val (.int p3), .val (.int p4), .val (.int p5), .val (.ref b2), .val (.int ((p3 &&& (7 : Int32)) % (6 : Int32))), .val (.int (f0_u6 p3)), .val (.int (f0_u7 p3)), .val (.int (f0_u8 p3 p4)), .val (.int (f0_u9 p3 p5)), .val (.int (f0_u10 p1 q2 p3)), .val (.int (f0_u11 p1 q2 p3)), .unset, .unset, .unset, .unset] [])) t → Steps p.tables e below (T51.setTop (mkF m 168 #[.val (.int p1), .val (.long q2), .second, .val (.int p3), .val (.int p4), .val (.int p5), .val (.ref b2), .val (.int ((p3 &&& (7 : Int32)) % (6 : Int32))), .val (.int (f0_u6 p3)), .val (.int (f0_u7 p3)), .val (.int (f0_u8 p3 p4)), .val (.int (f0_u9 p3 p5)), .val (.int (f0_u10 p1 q2 p3)), .val (.int (f0_u11 p1 q2 p3)), .unset, .unset, .unset, .unset] [(.int (f0_u9 p3 p5)), (.int (f0_u10 p1 q2 p3))])) t := by
          intro t k
          refine XS.icmpNo X51.here hx rfl (Jvm.hb hby at_168) rfl (tlt hc59).2.2.2 ?_
          exact k
        have K61 : ∀ t, Steps p.tables e below (T51.setTop (mkF m 177 #[.val (.int p1), .val (.long q2), .second, .val (.int p3), .val (.int p4), .val (.int p5), .val (.ref b2), .val (.int ((p3 &&& (7 : Int32)) % (6 : Int32))), .val (.int (f0_u6 p3)), .val (.int (f0_u7 p3)), .val (.int (f0_u8 p3 p4)), .val (.int (f0_u9 p3 p5)), .val (.int (f0_u10 p1 q2 p3)), .val (.int (f0_u11 p1 q2 p3)), .unset, .unset, .unset, .unset] [(.int (-1 : Int32))])) t → Steps p.tables e below (T51.setTop (mkF m 171 #[.val (.int p1), .val (.long q2), .second, .val (.int p3), .val (.int p4), .val (.int p5), .val (.ref b2), .val (.int ((p3 &&& (7 : Int32)) % (6 : Int32))), .val (.int (f0_u6 p3)), .val (.int (f0_u7 p3)), .val (.int (f0_u8 p3 p4)), .val (.int (f0_u9 p3 p5)), .val (.int (f0_u10 p1 q2 p3)), .val (.int (f0_u11 p1 q2 p3)), .unset, .unset, .unset, .unset] [])) t := by
          intro t k
          refine XS.iconst X51.here hx rfl (Jvm.hb hby at_171) ?_
          show Steps p.tables e below (T51.setTop (mkF m 172 #[.val (.int p1), .val (.long q2), .second, .val (.int p3), .val (.int p4), .val (.int p5), .val (.ref b2), .val (.int ((p3 &&& (7 : Int32)) % (6 : Int32))), .val (.int (f0_u6 p3)), .val (.int (f0_u7 p3)), .val (.int (f0_u8 p3 p4)), .val (.int (f0_u9 p3 p5)), .val (.int (f0_u10 p1 q2 p3)), .val (.int (f0_u11 p1 q2 p3)), .unset, .unset, .unset, .unset] [(.int (-1 : Int32))])) t
          refine XS.goto X51.here hx rfl (pc0 := 172) (pc' := 177) rfl (Jvm.hb hby at_172) (by decide) (by decide) ?_
          show Steps p.tables e below (T51.setTop (mkF m 177 #[.val (.int p1), .val (.long q2), .second, .val (.int p3), .val (.int p4), .val (.int p5), .val (.ref b2), .val (.int ((p3 &&& (7 : Int32)) % (6 : Int32))), .val (.int (f0_u6 p3)), .val (.int (f0_u7 p3)), .val (.int (f0_u8 p3 p4)), .val (.int (f0_u9 p3 p5)), .val (.int (f0_u10 p1 q2 p3)), .val (.int (f0_u11 p1 q2 p3)), .unset, .unset, .unset, .unset] [(.int (-1 : Int32))])) t
          exact k
        rw [show (f0_u12 p1 q2 p3 p4 p5) = (-1 : Int32) from (if_neg hc54).trans (if_pos hc59)] at k
        exact K57 _ (K58 _ (K60 _ (K61 _ (k))))
      · have K62 : ∀ t, Steps p.tables e below (T51.setTop (mkF m 175 #[.val (.int p1), .val (.long q2), .second, .val (.int p3), .val (.int p4), .val (.int p5), .val (.ref b2), .val (.int ((p3 &&& (7 : Int32)) % (6 : Int32))), .val (.int (f0_u6 p3)), .val (.int (f0_u7 p3)), .val (.int (f0_u8 p3 p4)), .val (.int (f0_u9 p3 p5)), .val (.int (f0_u10 p1 q2 p3)), .val (.int (f0_u11 p1 q2 p3)), .unset, .unset, .unset, .unset] [])) t → Steps p.tables e below (T51.setTop (mkF m 168 #[.val (.int p1), .val (.long q2), .second, .val (.int p3), .val (.int p4), .val (.int p5), .val (.ref b2), .val (.int ((p3 &&& (7 : Int32)) % (6 : Int32))), .val (.int (f0_u6 p3)), .val (.int (f0_u7 p3)), .val (.int (f0_u8 p3 p4)), .val (.int (f0_u9 p3 p5)), .val (.int (f0_u10 p1 q2 p3)), .val (.int (f0_u11 p1 q2 p3)), .unset, .unset, .unset, .unset] [(.int (f0_u9 p3 p5)), (.int (f0_u10 p1 q2 p3))])) t := by
          intro t k
          refine XS.icmpYes X51.here hx rfl (pc0 := 168) (pc' := 175) rfl (Jvm.hb hby at_168) rfl (flt hc59).2.2.2 (by decide) (by decide) ?_
          exact k
        have K63 : ∀ t, Steps p.tables e below (T51.setTop (mkF m 177 #[.val (.int p1), .val (.long q2), .second, .val (.int p3), .val (.int p4), .val (.int p5), .val (.ref b2), .val (.int ((p3 &&& (7 : Int32)) % (6 : Int32))), .val (.int (f0_u6 p3)), .val (.int (f0_u7 p3)), .val (.int (f0_u8 p3 p4)), .val (.int (f0_u9 p3 p5)), .val (.int (f0_u10 p1 q2 p3)), .val (.int (f0_u11 p1 q2 p3)), .unset, .unset, .unset, .unset] [(.int (f0_u11 p1 q2 p3))])) t → Steps p.tables e below (T51.setTop (mkF m 175 #[.val (.int p1), .val (.long q2), .second, .val (.int p3), .val (.int p4), .val (.int p5), .val (.ref b2), .val (.int ((p3 &&& (7 : Int32)) % (6 : Int32))), .val (.int (f0_u6 p3)), .val (.int (f0_u7 p3)), .val (.int (f0_u8 p3 p4)), .val (.int (f0_u9 p3 p5)), .val (.int (f0_u10 p1 q2 p3)), .val (.int (f0_u11 p1 q2 p3)), .unset, .unset, .unset, .unset] [])) t := by
          intro t k
          refine XS.iload X51.here hx rfl (Jvm.hb hby at_175) rfl ?_
          show Steps p.tables e below (T51.setTop (mkF m 177 #[.val (.int p1), .val (.long q2), .second, .val (.int p3), .val (.int p4), .val (.int p5), .val (.ref b2), .val (.int ((p3 &&& (7 : Int32)) % (6 : Int32))), .val (.int (f0_u6 p3)), .val (.int (f0_u7 p3)), .val (.int (f0_u8 p3 p4)), .val (.int (f0_u9 p3 p5)), .val (.int (f0_u10 p1 q2 p3)), .val (.int (f0_u11 p1 q2 p3)), .unset, .unset, .unset, .unset] [(.int (f0_u11 p1 q2 p3))])) t
          exact k
        rw [show (f0_u12 p1 q2 p3 p4 p5) = (f0_u11 p1 q2 p3) from (if_neg hc54).trans (if_neg hc59)] at k
        exact K57 _ (K58 _ (K62 _ (K63 _ (k))))
  have K64 : ∀ t, Steps p.tables e below (T51.setTop (mkF m 181 #[.val (.int p1), .val (.long q2), .second, .val (.int p3), .val (.int p4), .val (.int p5), .val (.ref b2), .val (.int ((p3 &&& (7 : Int32)) % (6 : Int32))), .val (.int (f0_u6 p3)), .val (.int (f0_u7 p3)), .val (.int (f0_u8 p3 p4)), .val (.int (f0_u9 p3 p5)), .val (.int (f0_u10 p1 q2 p3)), .val (.int (f0_u11 p1 q2 p3)), .val (.int (f0_u12 p1 q2 p3 p4 p5)), .unset, .unset, .unset] [(.int (f0_u12 p1 q2 p3 p4 p5))])) t → Steps p.tables e below (T51.setTop (mkF m 177 #[.val (.int p1), .val (.long q2), .second, .val (.int p3), .val (.int p4), .val (.int p5), .val (.ref b2), .val (.int ((p3 &&& (7 : Int32)) % (6 : Int32))), .val (.int (f0_u6 p3)), .val (.int (f0_u7 p3)), .val (.int (f0_u8 p3 p4)), .val (.int (f0_u9 p3 p5)), .val (.int (f0_u10 p1 q2 p3)), .val (.int (f0_u11 p1 q2 p3)), .unset, .unset, .unset, .unset] [(.int (f0_u12 p1 q2 p3 p4 p5))])) t := by
    intro t k
    refine XS.istore X51.here hx rfl (Jvm.hb hby at_177) rfl (l' := #[.val (.int p1), .val (.long q2), .second, .val (.int p3), .val (.int p4), .val (.int p5), .val (.ref b2), .val (.int ((p3 &&& (7 : Int32)) % (6 : Int32))), .val (.int (f0_u6 p3)), .val (.int (f0_u7 p3)), .val (.int (f0_u8 p3 p4)), .val (.int (f0_u9 p3 p5)), .val (.int (f0_u10 p1 q2 p3)), .val (.int (f0_u11 p1 q2 p3)), .val (.int (f0_u12 p1 q2 p3 p4 p5)), .unset, .unset, .unset]) rfl ?_
    show Steps p.tables e below (T51.setTop (mkF m 179 #[.val (.int p1), .val (.long q2), .second, .val (.int p3), .val (.int p4), .val (.int p5), .val (.ref b2), .val (.int ((p3 &&& (7 : Int32)) % (6 : Int32))), .val (.int (f0_u6 p3)), .val (.int (f0_u7 p3)), .val (.int (f0_u8 p3 p4)), .val (.int (f0_u9 p3 p5)), .val (.int (f0_u10 p1 q2 p3)), .val (.int (f0_u11 p1 q2 p3)), .val (.int (f0_u12 p1 q2 p3 p4 p5)), .unset, .unset, .unset] [])) t
    refine XS.iload X51.here hx rfl (Jvm.hb hby at_179) rfl ?_
    show Steps p.tables e below (T51.setTop (mkF m 181 #[.val (.int p1), .val (.long q2), .second, .val (.int p3), .val (.int p4), .val (.int p5), .val (.ref b2), .val (.int ((p3 &&& (7 : Int32)) % (6 : Int32))), .val (.int (f0_u6 p3)), .val (.int (f0_u7 p3)), .val (.int (f0_u8 p3 p4)), .val (.int (f0_u9 p3 p5)), .val (.int (f0_u10 p1 q2 p3)), .val (.int (f0_u11 p1 q2 p3)), .val (.int (f0_u12 p1 q2 p3 p4 p5)), .unset, .unset, .unset] [(.int (f0_u12 p1 q2 p3 p4 p5))])) t
    exact k
  have K65 : ∀ t, Steps p.tables e below (T51.setTop (mkF m 194 #[.val (.int p1), .val (.long q2), .second, .val (.int p3), .val (.int p4), .val (.int p5), .val (.ref b2), .val (.int ((p3 &&& (7 : Int32)) % (6 : Int32))), .val (.int (f0_u6 p3)), .val (.int (f0_u7 p3)), .val (.int (f0_u8 p3 p4)), .val (.int (f0_u9 p3 p5)), .val (.int (f0_u10 p1 q2 p3)), .val (.int (f0_u11 p1 q2 p3)), .val (.int (f0_u12 p1 q2 p3 p4 p5)), .unset, .unset, .unset] [(.int (f0_u13 p1 q2 p3 p4 p5))])) t → Steps p.tables e below (T51.setTop (mkF m 181 #[.val (.int p1), .val (.long q2), .second, .val (.int p3), .val (.int p4), .val (.int p5), .val (.ref b2), .val (.int ((p3 &&& (7 : Int32)) % (6 : Int32))), .val (.int (f0_u6 p3)), .val (.int (f0_u7 p3)), .val (.int (f0_u8 p3 p4)), .val (.int (f0_u9 p3 p5)), .val (.int (f0_u10 p1 q2 p3)), .val (.int (f0_u11 p1 q2 p3)), .val (.int (f0_u12 p1 q2 p3 p4 p5)), .unset, .unset, .unset] [(.int (f0_u12 p1 q2 p3 p4 p5))])) t := by
    intro t k
    by_cases hc65 : (f0_u12 p1 q2 p3 p4 p5) < (0 : Int32)
    · have K66 : ∀ t, Steps p.tables e below (T51.setTop (mkF m 184 #[.val (.int p1), .val (.long q2), .second, .val (.int p3), .val (.int p4), .val (.int p5), .val (.ref b2), .val (.int ((p3 &&& (7 : Int32)) % (6 : Int32))), .val (.int (f0_u6 p3)), .val (.int (f0_u7 p3)), .val (.int (f0_u8 p3 p4)), .val (.int (f0_u9 p3 p5)), .val (.int (f0_u10 p1 q2 p3)), .val (.int (f0_u11 p1 q2 p3)), .val (.int (f0_u12 p1 q2 p3 p4 p5)), .unset, .unset, .unset] [])) t → Steps p.tables e below (T51.setTop (mkF m 181 #[.val (.int p1), .val (.long q2), .second, .val (.int p3), .val (.int p4), .val (.int p5), .val (.ref b2), .val (.int ((p3 &&& (7 : Int32)) % (6 : Int32))), .val (.int (f0_u6 p3)), .val (.int (f0_u7 p3)), .val (.int (f0_u8 p3 p4)), .val (.int (f0_u9 p3 p5)), .val (.int (f0_u10 p1 q2 p3)), .val (.int (f0_u11 p1 q2 p3)), .val (.int (f0_u12 p1 q2 p3 p4 p5)), .unset, .unset, .unset] [(.int (f0_u12 p1 q2 p3 p4 p5))])) t := by
        intro t k
        refine XS.ifNo X51.here hx rfl (Jvm.hb hby at_181) rfl ((if0 _ _).trans (tlt hc65).2.1) ?_
        exact k
      have K67 : ∀ t, Steps p.tables e below (T51.setTop (mkF m 194 #[.val (.int p1), .val (.long q2), .second, .val (.int p3), .val (.int p4), .val (.int p5), .val (.ref b2), .val (.int ((p3 &&& (7 : Int32)) % (6 : Int32))), .val (.int (f0_u6 p3)), .val (.int (f0_u7 p3)), .val (.int (f0_u8 p3 p4)), .val (.int (f0_u9 p3 p5)), .val (.int (f0_u10 p1 q2 p3)), .val (.int (f0_u11 p1 q2 p3)), .val (.int (f0_u12 p1 q2 p3 p4 p5)), .unset, .unset, .unset] [(.int ((p3 &&& (7 : Int32)) % (6 : Int32)))])) t → Steps p.tables e below (T51.setTop (mkF m 184 #[.val (.int p1), .val (.long q2), .second, .val (.int p3), .val (.int p4), .val (.int p5), .val (.ref b2), .val (.int ((p3 &&& (7 : Int32)) % (6 : Int32))), .val (.int (f0_u6 p3)), .val (.int (f0_u7 p3)), .val (.int (f0_u8 p3 p4)), .val (.int (f0_u9 p3 p5)), .val (.int (f0_u10 p1 q2 p3)), .val (.int (f0_u11 p1 q2 p3)), .val (.int (f0_u12 p1 q2 p3 p4 p5)), .unset, .unset, .unset] [])) t := by
        intro t k
        refine XS.iload X51.here hx rfl (Jvm.hb hby at_184) rfl ?_
        show Steps p.tables e below (T51.setTop (mkF m 186 #[.val (.int p1), .val (.long q2), .second, .val (.int p3), .val (.int p4), .val (.int p5), .val (.ref b2), .val (.int ((p3 &&& (7 : Int32)) % (6 : Int32))), .val (.int (f0_u6 p3)), .val (.int (f0_u7 p3)), .val (.int (f0_u8 p3 p4)), .val (.int (f0_u9 p3 p5)), .val (.int (f0_u10 p1 q2 p3)), .val (.int (f0_u11 p1 q2 p3)), .val (.int (f0_u12 p1 q2 p3 p4 p5)), .unset, .unset, .unset] [(.int ((p3 &&& (7 : Int32)) % (6 : Int32)))])) t
        refine XS.goto X51.here hx rfl (pc0 := 186) (pc' := 194) rfl (Jvm.hb hby at_186) (by decide) (by decide) ?_
        show Steps p.tables e below (T51.setTop (mkF m 194 #[.val (.int p1), .val (.long q2), .second, .val (.int p3), .val (.int p4), .val (.int p5), .val (.ref b2), .val (.int ((p3 &&& (7 : Int32)) % (6 : Int32))), .val (.int (f0_u6 p3)), .val (.int (f0_u7 p3)), .val (.int (f0_u8 p3 p4)), .val (.int (f0_u9 p3 p5)), .val (.int (f0_u10 p1 q2 p3)), .val (.int (f0_u11 p1 q2 p3)), .val (.int (f0_u12 p1 q2 p3 p4 p5)), .unset, .unset, .unset] [(.int ((p3 &&& (7 : Int32)) % (6 : Int32)))])) t
        exact k
      rw [show (f0_u13 p1 q2 p3 p4 p5) = ((p3 &&& (7 : Int32)) % (6 : Int32)) from if_pos hc65] at k
      exact K66 _ (K67 _ (k))
    · have K68 : ∀ t, Steps p.tables e below (T51.setTop (mkF m 189 #[.val (.int p1), .val (.long q2), .second, .val (.int p3), .val (.int p4), .val (.int p5), .val (.ref b2), .val (.int ((p3 &&& (7 : Int32)) % (6 : Int32))), .val (.int (f0_u6 p3)), .val (.int (f0_u7 p3)), .val (.int (f0_u8 p3 p4)), .val (.int (f0_u9 p3 p5)), .val (.int (f0_u10 p1 q2 p3)), .val (.int (f0_u11 p1 q2 p3)), .val (.int (f0_u12 p1 q2 p3 p4 p5)), .unset, .unset, .unset] [])) t → Steps p.tables e below (T51.setTop (mkF m 181 #[.val (.int p1), .val (.long q2), .second, .val (.int p3), .val (.int p4), .val (.int p5), .val (.ref b2), .val (.int ((p3 &&& (7 : Int32)) % (6 : Int32))), .val (.int (f0_u6 p3)), .val (.int (f0_u7 p3)), .val (.int (f0_u8 p3 p4)), .val (.int (f0_u9 p3 p5)), .val (.int (f0_u10 p1 q2 p3)), .val (.int (f0_u11 p1 q2 p3)), .val (.int (f0_u12 p1 q2 p3 p4 p5)), .unset, .unset, .unset] [(.int (f0_u12 p1 q2 p3 p4 p5))])) t := by
        intro t k
        refine XS.ifYes X51.here hx rfl (pc0 := 181) (pc' := 189) rfl (Jvm.hb hby at_181) rfl ((if0 _ _).trans (flt hc65).2.1) (by decide) (by decide) ?_
        exact k
      have K69 : ∀ t, Steps p.tables e below (T51.setTop (mkF m 194 #[.val (.int p1), .val (.long q2), .second, .val (.int p3), .val (.int p4), .val (.int p5), .val (.ref b2), .val (.int ((p3 &&& (7 : Int32)) % (6 : Int32))), .val (.int (f0_u6 p3)), .val (.int (f0_u7 p3)), .val (.int (f0_u8 p3 p4)), .val (.int (f0_u9 p3 p5)), .val (.int (f0_u10 p1 q2 p3)), .val (.int (f0_u11 p1 q2 p3)), .val (.int (f0_u12 p1 q2 p3 p4 p5)), .unset, .unset, .unset] [(.int (((p3 &&& (7 : Int32)) % (6 : Int32)) + (f0_u10 p1 q2 p3)))])) t → Steps p.tables e below (T51.setTop (mkF m 189 #[.val (.int p1), .val (.long q2), .second, .val (.int p3), .val (.int p4), .val (.int p5), .val (.ref b2), .val (.int ((p3 &&& (7 : Int32)) % (6 : Int32))), .val (.int (f0_u6 p3)), .val (.int (f0_u7 p3)), .val (.int (f0_u8 p3 p4)), .val (.int (f0_u9 p3 p5)), .val (.int (f0_u10 p1 q2 p3)), .val (.int (f0_u11 p1 q2 p3)), .val (.int (f0_u12 p1 q2 p3 p4 p5)), .unset, .unset, .unset] [])) t := by
        intro t k
        refine XS.iload X51.here hx rfl (Jvm.hb hby at_189) rfl ?_
        show Steps p.tables e below (T51.setTop (mkF m 191 #[.val (.int p1), .val (.long q2), .second, .val (.int p3), .val (.int p4), .val (.int p5), .val (.ref b2), .val (.int ((p3 &&& (7 : Int32)) % (6 : Int32))), .val (.int (f0_u6 p3)), .val (.int (f0_u7 p3)), .val (.int (f0_u8 p3 p4)), .val (.int (f0_u9 p3 p5)), .val (.int (f0_u10 p1 q2 p3)), .val (.int (f0_u11 p1 q2 p3)), .val (.int (f0_u12 p1 q2 p3 p4 p5)), .unset, .unset, .unset] [(.int ((p3 &&& (7 : Int32)) % (6 : Int32)))])) t
        refine XS.iload X51.here hx rfl (Jvm.hb hby at_191) rfl ?_
        show Steps p.tables e below (T51.setTop (mkF m 193 #[.val (.int p1), .val (.long q2), .second, .val (.int p3), .val (.int p4), .val (.int p5), .val (.ref b2), .val (.int ((p3 &&& (7 : Int32)) % (6 : Int32))), .val (.int (f0_u6 p3)), .val (.int (f0_u7 p3)), .val (.int (f0_u8 p3 p4)), .val (.int (f0_u9 p3 p5)), .val (.int (f0_u10 p1 q2 p3)), .val (.int (f0_u11 p1 q2 p3)), .val (.int (f0_u12 p1 q2 p3 p4 p5)), .unset, .unset, .unset] [(.int (f0_u10 p1 q2 p3)), (.int ((p3 &&& (7 : Int32)) % (6 : Int32)))])) t
        refine XS.iadd X51.here hx rfl (Jvm.hb hby at_193) rfl ?_
        show Steps p.tables e below (T51.setTop (mkF m 194 #[.val (.int p1), .val (.long q2), .second, .val (.int p3), .val (.int p4), .val (.int p5), .val (.ref b2), .val (.int ((p3 &&& (7 : Int32)) % (6 : Int32))), .val (.int (f0_u6 p3)), .val (.int (f0_u7 p3)), .val (.int (f0_u8 p3 p4)), .val (.int (f0_u9 p3 p5)), .val (.int (f0_u10 p1 q2 p3)), .val (.int (f0_u11 p1 q2 p3)), .val (.int (f0_u12 p1 q2 p3 p4 p5)), .unset, .unset, .unset] [(.int (((p3 &&& (7 : Int32)) % (6 : Int32)) + (f0_u10 p1 q2 p3)))])) t
        exact k
      rw [show (f0_u13 p1 q2 p3 p4 p5) = (((p3 &&& (7 : Int32)) % (6 : Int32)) + (f0_u10 p1 q2 p3)) from if_neg hc65] at k
      exact K68 _ (K69 _ (k))
  have K70 : ∀ t, Steps p.tables e below (T51.setTop (mkF m 196 #[.val (.int p1), .val (.long q2), .second, .val (.int p3), .val (.int p4), .val (.int p5), .val (.ref b2), .val (.int ((p3 &&& (7 : Int32)) % (6 : Int32))), .val (.int (f0_u6 p3)), .val (.int (f0_u7 p3)), .val (.int (f0_u8 p3 p4)), .val (.int (f0_u9 p3 p5)), .val (.int (f0_u10 p1 q2 p3)), .val (.int (f0_u11 p1 q2 p3)), .val (.int (f0_u12 p1 q2 p3 p4 p5)), .val (.int (f0_u13 p1 q2 p3 p4 p5)), .unset, .unset] [])) t → Steps p.tables e below (T51.setTop (mkF m 194 #[.val (.int p1), .val (.long q2), .second, .val (.int p3), .val (.int p4), .val (.int p5), .val (.ref b2), .val (.int ((p3 &&& (7 : Int32)) % (6 : Int32))), .val (.int (f0_u6 p3)), .val (.int (f0_u7 p3)), .val (.int (f0_u8 p3 p4)), .val (.int (f0_u9 p3 p5)), .val (.int (f0_u10 p1 q2 p3)), .val (.int (f0_u11 p1 q2 p3)), .val (.int (f0_u12 p1 q2 p3 p4 p5)), .unset, .unset, .unset] [(.int (f0_u13 p1 q2 p3 p4 p5))])) t := by
    intro t k
    refine XS.istore X51.here hx rfl (Jvm.hb hby at_194) rfl (l' := #[.val (.int p1), .val (.long q2), .second, .val (.int p3), .val (.int p4), .val (.int p5), .val (.ref b2), .val (.int ((p3 &&& (7 : Int32)) % (6 : Int32))), .val (.int (f0_u6 p3)), .val (.int (f0_u7 p3)), .val (.int (f0_u8 p3 p4)), .val (.int (f0_u9 p3 p5)), .val (.int (f0_u10 p1 q2 p3)), .val (.int (f0_u11 p1 q2 p3)), .val (.int (f0_u12 p1 q2 p3 p4 p5)), .val (.int (f0_u13 p1 q2 p3 p4 p5)), .unset, .unset]) rfl ?_
    show Steps p.tables e below (T51.setTop (mkF m 196 #[.val (.int p1), .val (.long q2), .second, .val (.int p3), .val (.int p4), .val (.int p5), .val (.ref b2), .val (.int ((p3 &&& (7 : Int32)) % (6 : Int32))), .val (.int (f0_u6 p3)), .val (.int (f0_u7 p3)), .val (.int (f0_u8 p3 p4)), .val (.int (f0_u9 p3 p5)), .val (.int (f0_u10 p1 q2 p3)), .val (.int (f0_u11 p1 q2 p3)), .val (.int (f0_u12 p1 q2 p3 p4 p5)), .val (.int (f0_u13 p1 q2 p3 p4 p5)), .unset, .unset] [])) t
    exact k
  obtain ⟨T71, h71, X71, e71, E71, A71, D71, -, st71⟩ := newO X51 hx hZ hown (hw _ (List.mem_of_getElem? (i := 15) rfl)) (hw _ (List.mem_of_getElem? (i := 16) rfl)) (hw _ (List.mem_of_getElem? (i := 17) rfl)) e51 (g := (mkF m 196 #[.val (.int p1), .val (.long q2), .second, .val (.int p3), .val (.int p4), .val (.int p5), .val (.ref b2), .val (.int ((p3 &&& (7 : Int32)) % (6 : Int32))), .val (.int (f0_u6 p3)), .val (.int (f0_u7 p3)), .val (.int (f0_u8 p3 p4)), .val (.int (f0_u9 p3 p5)), .val (.int (f0_u10 p1 q2 p3)), .val (.int (f0_u11 p1 q2 p3)), .val (.int (f0_u12 p1 q2 p3 p4 p5)), .val (.int (f0_u13 p1 q2 p3 p4 p5)), .unset, .unset] [])) rfl (Jvm.hb hby at_196) (by decide) (by decide)
  obtain ⟨b71, g71⟩ : ∃ z, z = h27.size := ⟨_, rfl⟩
  rw [← g71] at A71 D71 st71
  have KP71 : Keep h0 h71 [] := KP27.ext E71
  have A71_0 : Ia Z h71 b2 .char (5 : Int32) (f0_u5 p1 q2) := Aw27.ext E71
  have ne71_0 : b2 ≠ b71 := Nat.ne_of_lt (Nat.lt_of_lt_of_le Aw27.lt (Nat.le_of_eq g71.symm))
  have gb_b71 : n0 ≤ b71 := Nat.le_trans (Nat.le_trans Z0 KP27.1) (Nat.le_of_eq g71.symm)
  have sz_b71 : h0.size ≤ b71 := Nat.le_trans KP27.1 (Nat.le_of_eq g71.symm)
  have F71_text : Fld Z h71 b71 "com/example/clapboard/clapboard/parse/TextCursor" "text" "[C" .null := D71 (Or.inr (hw _ (List.mem_of_getElem? (i := 25) rfl))) (ty := (.array .char)) (by decide)
  have F71_at : Fld Z h71 b71 "com/example/clapboard/clapboard/parse/TextCursor" "at" "I" (.int (0 : Int32)) := D71 (Or.inl (hw _ (List.mem_of_getElem? (i := 27) rfl))) (ty := .int) (by decide)
  have F71_end : Fld Z h71 b71 "com/example/clapboard/clapboard/parse/TextCursor" "end" "I" (.int (0 : Int32)) := D71 (Or.inl (hw _ (List.mem_of_getElem? (i := 29) rfl))) (ty := .int) (by decide)
  have K72 : ∀ t, Steps p.tables e below (T71.setTop (mkF m 199 #[.val (.int p1), .val (.long q2), .second, .val (.int p3), .val (.int p4), .val (.int p5), .val (.ref b2), .val (.int ((p3 &&& (7 : Int32)) % (6 : Int32))), .val (.int (f0_u6 p3)), .val (.int (f0_u7 p3)), .val (.int (f0_u8 p3 p4)), .val (.int (f0_u9 p3 p5)), .val (.int (f0_u10 p1 q2 p3)), .val (.int (f0_u11 p1 q2 p3)), .val (.int (f0_u12 p1 q2 p3 p4 p5)), .val (.int (f0_u13 p1 q2 p3 p4 p5)), .unset, .unset] [(.ref b71)])) t → Steps p.tables e below (T51.setTop (mkF m 196 #[.val (.int p1), .val (.long q2), .second, .val (.int p3), .val (.int p4), .val (.int p5), .val (.ref b2), .val (.int ((p3 &&& (7 : Int32)) % (6 : Int32))), .val (.int (f0_u6 p3)), .val (.int (f0_u7 p3)), .val (.int (f0_u8 p3 p4)), .val (.int (f0_u9 p3 p5)), .val (.int (f0_u10 p1 q2 p3)), .val (.int (f0_u11 p1 q2 p3)), .val (.int (f0_u12 p1 q2 p3 p4 p5)), .val (.int (f0_u13 p1 q2 p3 p4 p5)), .unset, .unset] [])) t := fun t k => st71 _ k
  have K73 : ∀ t, Steps p.tables e below (T71.setTop (mkF m 206 #[.val (.int p1), .val (.long q2), .second, .val (.int p3), .val (.int p4), .val (.int p5), .val (.ref b2), .val (.int ((p3 &&& (7 : Int32)) % (6 : Int32))), .val (.int (f0_u6 p3)), .val (.int (f0_u7 p3)), .val (.int (f0_u8 p3 p4)), .val (.int (f0_u9 p3 p5)), .val (.int (f0_u10 p1 q2 p3)), .val (.int (f0_u11 p1 q2 p3)), .val (.int (f0_u12 p1 q2 p3 p4 p5)), .val (.int (f0_u13 p1 q2 p3 p4 p5)), .unset, .unset] [(.int (f0_u6 p3)), (.int ((p3 &&& (7 : Int32)) % (6 : Int32))), (.ref b2), (.ref b71), (.ref b71)])) t → Steps p.tables e below (T71.setTop (mkF m 199 #[.val (.int p1), .val (.long q2), .second, .val (.int p3), .val (.int p4), .val (.int p5), .val (.ref b2), .val (.int ((p3 &&& (7 : Int32)) % (6 : Int32))), .val (.int (f0_u6 p3)), .val (.int (f0_u7 p3)), .val (.int (f0_u8 p3 p4)), .val (.int (f0_u9 p3 p5)), .val (.int (f0_u10 p1 q2 p3)), .val (.int (f0_u11 p1 q2 p3)), .val (.int (f0_u12 p1 q2 p3 p4 p5)), .val (.int (f0_u13 p1 q2 p3 p4 p5)), .unset, .unset] [(.ref b71)])) t := by
    intro t k
    refine XS.dup X71.here hx rfl (Jvm.hb hby at_199) rfl rfl ?_
    show Steps p.tables e below (T71.setTop (mkF m 200 #[.val (.int p1), .val (.long q2), .second, .val (.int p3), .val (.int p4), .val (.int p5), .val (.ref b2), .val (.int ((p3 &&& (7 : Int32)) % (6 : Int32))), .val (.int (f0_u6 p3)), .val (.int (f0_u7 p3)), .val (.int (f0_u8 p3 p4)), .val (.int (f0_u9 p3 p5)), .val (.int (f0_u10 p1 q2 p3)), .val (.int (f0_u11 p1 q2 p3)), .val (.int (f0_u12 p1 q2 p3 p4 p5)), .val (.int (f0_u13 p1 q2 p3 p4 p5)), .unset, .unset] [(.ref b71), (.ref b71)])) t
    refine XS.aload X71.here hx rfl (Jvm.hb hby at_200) rfl rfl ?_
    show Steps p.tables e below (T71.setTop (mkF m 202 #[.val (.int p1), .val (.long q2), .second, .val (.int p3), .val (.int p4), .val (.int p5), .val (.ref b2), .val (.int ((p3 &&& (7 : Int32)) % (6 : Int32))), .val (.int (f0_u6 p3)), .val (.int (f0_u7 p3)), .val (.int (f0_u8 p3 p4)), .val (.int (f0_u9 p3 p5)), .val (.int (f0_u10 p1 q2 p3)), .val (.int (f0_u11 p1 q2 p3)), .val (.int (f0_u12 p1 q2 p3 p4 p5)), .val (.int (f0_u13 p1 q2 p3 p4 p5)), .unset, .unset] [(.ref b2), (.ref b71), (.ref b71)])) t
    refine XS.iload X71.here hx rfl (Jvm.hb hby at_202) rfl ?_
    show Steps p.tables e below (T71.setTop (mkF m 204 #[.val (.int p1), .val (.long q2), .second, .val (.int p3), .val (.int p4), .val (.int p5), .val (.ref b2), .val (.int ((p3 &&& (7 : Int32)) % (6 : Int32))), .val (.int (f0_u6 p3)), .val (.int (f0_u7 p3)), .val (.int (f0_u8 p3 p4)), .val (.int (f0_u9 p3 p5)), .val (.int (f0_u10 p1 q2 p3)), .val (.int (f0_u11 p1 q2 p3)), .val (.int (f0_u12 p1 q2 p3 p4 p5)), .val (.int (f0_u13 p1 q2 p3 p4 p5)), .unset, .unset] [(.int ((p3 &&& (7 : Int32)) % (6 : Int32))), (.ref b2), (.ref b71), (.ref b71)])) t
    refine XS.iload X71.here hx rfl (Jvm.hb hby at_204) rfl ?_
    show Steps p.tables e below (T71.setTop (mkF m 206 #[.val (.int p1), .val (.long q2), .second, .val (.int p3), .val (.int p4), .val (.int p5), .val (.ref b2), .val (.int ((p3 &&& (7 : Int32)) % (6 : Int32))), .val (.int (f0_u6 p3)), .val (.int (f0_u7 p3)), .val (.int (f0_u8 p3 p4)), .val (.int (f0_u9 p3 p5)), .val (.int (f0_u10 p1 q2 p3)), .val (.int (f0_u11 p1 q2 p3)), .val (.int (f0_u12 p1 q2 p3 p4 p5)), .val (.int (f0_u13 p1 q2 p3 p4 p5)), .unset, .unset] [(.int (f0_u6 p3)), (.int ((p3 &&& (7 : Int32)) % (6 : Int32))), (.ref b2), (.ref b71), (.ref b71)])) t
    exact k
  obtain ⟨_, _, ⟨T74, L74, k74, n74⟩, -, X74, ⟨Lc74, hQ74, l74, y74, z74⟩, st74⟩ := X71.specialBack hx (y := (⟨"com/example/clapboard/clapboard/parse/TextCursor", "<init>", "([CII)V"⟩ : MethodName)) rfl hown (mvT hZ (hw _ (List.mem_of_getElem? (i := 18) rfl))) (mvT hZ (hw _ (List.mem_of_getElem? (i := 19) rfl))) (mvT hZ (hw _ (List.mem_of_getElem? (i := 20) rfl))) (by decide) (backOf (W := 1) (rm5 l Z a0 hw [] b71 b2 ((p3 &&& (7 : Int32)) % (6 : Int32)) (f0_u6 p3) .null (.int (0 : Int32)) (.int (0 : Int32)) h71 n0 (Nat.le_trans Z0 KP71.1) A71 F71_text gb_b71 F71_at F71_end) hZ (hw _ (List.mem_of_getElem? (i := 20) rfl)) (hw _ (List.mem_of_getElem? (i := 17) rfl)) (by decide) (by decide)) (g := (mkF m 206 #[.val (.int p1), .val (.long q2), .second, .val (.int p3), .val (.int p4), .val (.int p5), .val (.ref b2), .val (.int ((p3 &&& (7 : Int32)) % (6 : Int32))), .val (.int (f0_u6 p3)), .val (.int (f0_u7 p3)), .val (.int (f0_u8 p3 p4)), .val (.int (f0_u9 p3 p5)), .val (.int (f0_u10 p1 q2 p3)), .val (.int (f0_u11 p1 q2 p3)), .val (.int (f0_u12 p1 q2 p3 p4 p5)), .val (.int (f0_u13 p1 q2 p3 p4 p5)), .unset, .unset] [(.int (f0_u6 p3)), (.int ((p3 &&& (7 : Int32)) % (6 : Int32))), (.ref b2), (.ref b71), (.ref b71)])) rfl (by rw [hml]; rfl) (Steps.refl _) (a := b71) (argsL := [(.ref b2), (.int ((p3 &&& (7 : Int32)) % (6 : Int32))), (.int (f0_u6 p3))]) (rest := [(.ref b71)]) (lenOf pd_3 rfl) rfl (by show 2 * 0 + _ ≤ _; exact Nat.le_of_eq rfl) (Jvm.hb hby at_206) (fun _ _ => ⟨rfl, e71, (by decide : 2 + 0 ≤ _), (by decide : 8 + 0 ≤ _)⟩)
  dsimp only [Pt.U, Pt.locs, Pt.cells, Pt.slots] at X74 l74 y74 z74 st74 hQ74
  subst l74 y74 z74
  obtain ⟨h74, e74⟩ : ∃ z, T74.heap = z := ⟨_, rfl⟩
  rw [e74] at hQ74
  obtain ⟨rfl, N74q, Kq74, R74_0, R74_1, R74_2, R74_3⟩ := hQ74
  have N74 := Fr.app N51 N74q
  have KP74 : Keep h0 h74 [] := KP71.trans Kq74 (allS (Or.inr sz_b71) all0)
  have A74_0 : Ia Z h74 b2 .char (5 : Int32) (f0_u5 p1 q2) := A71_0.keep Kq74 (ninS ne71_0 nin0)
  have K75 : ∀ t, Steps p.tables e below (T74.setTop (mkF m 209 #[.val (.int p1), .val (.long q2), .second, .val (.int p3), .val (.int p4), .val (.int p5), .val (.ref b2), .val (.int ((p3 &&& (7 : Int32)) % (6 : Int32))), .val (.int (f0_u6 p3)), .val (.int (f0_u7 p3)), .val (.int (f0_u8 p3 p4)), .val (.int (f0_u9 p3 p5)), .val (.int (f0_u10 p1 q2 p3)), .val (.int (f0_u11 p1 q2 p3)), .val (.int (f0_u12 p1 q2 p3 p4 p5)), .val (.int (f0_u13 p1 q2 p3 p4 p5)), .unset, .unset] [(.ref b71)])) t → Steps p.tables e below (T71.setTop (mkF m 206 #[.val (.int p1), .val (.long q2), .second, .val (.int p3), .val (.int p4), .val (.int p5), .val (.ref b2), .val (.int ((p3 &&& (7 : Int32)) % (6 : Int32))), .val (.int (f0_u6 p3)), .val (.int (f0_u7 p3)), .val (.int (f0_u8 p3 p4)), .val (.int (f0_u9 p3 p5)), .val (.int (f0_u10 p1 q2 p3)), .val (.int (f0_u11 p1 q2 p3)), .val (.int (f0_u12 p1 q2 p3 p4 p5)), .val (.int (f0_u13 p1 q2 p3 p4 p5)), .unset, .unset] [(.int (f0_u6 p3)), (.int ((p3 &&& (7 : Int32)) % (6 : Int32))), (.ref b2), (.ref b71), (.ref b71)])) t := fun t k => st74.trans k
  have K76 : ∀ t, Steps p.tables e below (T74.setTop (mkF m 217 #[.val (.int p1), .val (.long q2), .second, .val (.int p3), .val (.int p4), .val (.int p5), .val (.ref b2), .val (.int ((p3 &&& (7 : Int32)) % (6 : Int32))), .val (.int (f0_u6 p3)), .val (.int (f0_u7 p3)), .val (.int (f0_u8 p3 p4)), .val (.int (f0_u9 p3 p5)), .val (.int (f0_u10 p1 q2 p3)), .val (.int (f0_u11 p1 q2 p3)), .val (.int (f0_u12 p1 q2 p3 p4 p5)), .val (.int (f0_u13 p1 q2 p3 p4 p5)), .val (.ref b71), .unset] [(.int (f0_u9 p3 p5)), (.int (f0_u8 p3 p4)), (.ref b71)])) t → Steps p.tables e below (T74.setTop (mkF m 209 #[.val (.int p1), .val (.long q2), .second, .val (.int p3), .val (.int p4), .val (.int p5), .val (.ref b2), .val (.int ((p3 &&& (7 : Int32)) % (6 : Int32))), .val (.int (f0_u6 p3)), .val (.int (f0_u7 p3)), .val (.int (f0_u8 p3 p4)), .val (.int (f0_u9 p3 p5)), .val (.int (f0_u10 p1 q2 p3)), .val (.int (f0_u11 p1 q2 p3)), .val (.int (f0_u12 p1 q2 p3 p4 p5)), .val (.int (f0_u13 p1 q2 p3 p4 p5)), .unset, .unset] [(.ref b71)])) t := by
    intro t k
    refine XS.astore X74.here hx rfl (Jvm.hb hby at_209) rfl rfl (l' := #[.val (.int p1), .val (.long q2), .second, .val (.int p3), .val (.int p4), .val (.int p5), .val (.ref b2), .val (.int ((p3 &&& (7 : Int32)) % (6 : Int32))), .val (.int (f0_u6 p3)), .val (.int (f0_u7 p3)), .val (.int (f0_u8 p3 p4)), .val (.int (f0_u9 p3 p5)), .val (.int (f0_u10 p1 q2 p3)), .val (.int (f0_u11 p1 q2 p3)), .val (.int (f0_u12 p1 q2 p3 p4 p5)), .val (.int (f0_u13 p1 q2 p3 p4 p5)), .val (.ref b71), .unset]) rfl ?_
    show Steps p.tables e below (T74.setTop (mkF m 211 #[.val (.int p1), .val (.long q2), .second, .val (.int p3), .val (.int p4), .val (.int p5), .val (.ref b2), .val (.int ((p3 &&& (7 : Int32)) % (6 : Int32))), .val (.int (f0_u6 p3)), .val (.int (f0_u7 p3)), .val (.int (f0_u8 p3 p4)), .val (.int (f0_u9 p3 p5)), .val (.int (f0_u10 p1 q2 p3)), .val (.int (f0_u11 p1 q2 p3)), .val (.int (f0_u12 p1 q2 p3 p4 p5)), .val (.int (f0_u13 p1 q2 p3 p4 p5)), .val (.ref b71), .unset] [])) t
    refine XS.aload X74.here hx rfl (Jvm.hb hby at_211) rfl rfl ?_
    show Steps p.tables e below (T74.setTop (mkF m 213 #[.val (.int p1), .val (.long q2), .second, .val (.int p3), .val (.int p4), .val (.int p5), .val (.ref b2), .val (.int ((p3 &&& (7 : Int32)) % (6 : Int32))), .val (.int (f0_u6 p3)), .val (.int (f0_u7 p3)), .val (.int (f0_u8 p3 p4)), .val (.int (f0_u9 p3 p5)), .val (.int (f0_u10 p1 q2 p3)), .val (.int (f0_u11 p1 q2 p3)), .val (.int (f0_u12 p1 q2 p3 p4 p5)), .val (.int (f0_u13 p1 q2 p3 p4 p5)), .val (.ref b71), .unset] [(.ref b71)])) t
    refine XS.iload X74.here hx rfl (Jvm.hb hby at_213) rfl ?_
    show Steps p.tables e below (T74.setTop (mkF m 215 #[.val (.int p1), .val (.long q2), .second, .val (.int p3), .val (.int p4), .val (.int p5), .val (.ref b2), .val (.int ((p3 &&& (7 : Int32)) % (6 : Int32))), .val (.int (f0_u6 p3)), .val (.int (f0_u7 p3)), .val (.int (f0_u8 p3 p4)), .val (.int (f0_u9 p3 p5)), .val (.int (f0_u10 p1 q2 p3)), .val (.int (f0_u11 p1 q2 p3)), .val (.int (f0_u12 p1 q2 p3 p4 p5)), .val (.int (f0_u13 p1 q2 p3 p4 p5)), .val (.ref b71), .unset] [(.int (f0_u8 p3 p4)), (.ref b71)])) t
    refine XS.iload X74.here hx rfl (Jvm.hb hby at_215) rfl ?_
    show Steps p.tables e below (T74.setTop (mkF m 217 #[.val (.int p1), .val (.long q2), .second, .val (.int p3), .val (.int p4), .val (.int p5), .val (.ref b2), .val (.int ((p3 &&& (7 : Int32)) % (6 : Int32))), .val (.int (f0_u6 p3)), .val (.int (f0_u7 p3)), .val (.int (f0_u8 p3 p4)), .val (.int (f0_u9 p3 p5)), .val (.int (f0_u10 p1 q2 p3)), .val (.int (f0_u11 p1 q2 p3)), .val (.int (f0_u12 p1 q2 p3 p4 p5)), .val (.int (f0_u13 p1 q2 p3 p4 p5)), .val (.ref b71), .unset] [(.int (f0_u9 p3 p5)), (.int (f0_u8 p3 p4)), (.ref b71)])) t
    exact k
  obtain ⟨cq77, kq77, q77a, q77b, q77c⟩ := isOf hZ e74 R74_0
  obtain ⟨_, _, ⟨T77, L77, k77, n77⟩, -, X77, ⟨Lc77, hQ77, l77, y77, z77⟩, st77⟩ := X74.virtualBack hx (y := (⟨"com/example/clapboard/clapboard/parse/TextCursor", "readNumber", "(II)I"⟩ : MethodName)) (z := (⟨"com/example/clapboard/clapboard/parse/TextCursor", "readNumber", "(II)I"⟩ : MethodName)) hown (mvT hZ (hw _ (List.mem_of_getElem? (i := 30) rfl))) (mvT hZ (hw _ (List.mem_of_getElem? (i := 31) rfl))) (notFace_of_selects (args := #[]) (mvT hZ (hw _ (List.mem_of_getElem? (i := 33) rfl)))) (mvT hZ (hw _ (List.mem_of_getElem? (i := 33) rfl))) (mvT hZ (hw _ (List.mem_of_getElem? (i := 32) rfl))) (by decide) (backOf (W := 0) (rm7 l Z a0 hw [] b71 (f0_u8 p3 p4) (f0_u9 p3 p5) ((p3 &&& (7 : Int32)) % (6 : Int32)) (f0_u6 p3) b2 (5 : Int32) (f0_u5 p1 q2) h74 n0 (Nat.le_trans Z0 KP74.1) (own_e5 _) (own_a0 _) (own_es _) (own_el _) R74_2 R74_3 R74_1 A74_0 R74_0 gb_b71) hZ (hw _ (List.mem_of_getElem? (i := 34) rfl)) (hw _ (List.mem_of_getElem? (i := 17) rfl)) (by decide) (by decide)) q77a q77c (g := (mkF m 217 #[.val (.int p1), .val (.long q2), .second, .val (.int p3), .val (.int p4), .val (.int p5), .val (.ref b2), .val (.int ((p3 &&& (7 : Int32)) % (6 : Int32))), .val (.int (f0_u6 p3)), .val (.int (f0_u7 p3)), .val (.int (f0_u8 p3 p4)), .val (.int (f0_u9 p3 p5)), .val (.int (f0_u10 p1 q2 p3)), .val (.int (f0_u11 p1 q2 p3)), .val (.int (f0_u12 p1 q2 p3 p4 p5)), .val (.int (f0_u13 p1 q2 p3 p4 p5)), .val (.ref b71), .unset] [(.int (f0_u9 p3 p5)), (.int (f0_u8 p3 p4)), (.ref b71)])) rfl (by rw [hml]; rfl) (Steps.refl _) (argsL := [(.int (f0_u8 p3 p4)), (.int (f0_u9 p3 p5))]) (rest := []) (lenOf pd_5 rfl) rfl (by show 2 * 0 + _ ≤ _; exact Nat.le_of_eq rfl) (Jvm.hb hby at_217) (fun _ _ => ⟨rfl, e74, (by decide : 2 + 0 ≤ _), (by decide : 8 + 0 ≤ _)⟩)
  dsimp only [Pt.U, Pt.locs, Pt.cells, Pt.slots] at X77 l77 y77 z77 st77 hQ77
  subst l77 y77 z77
  obtain ⟨h77, e77⟩ : ∃ z, T77.heap = z := ⟨_, rfl⟩
  rw [e77] at hQ77
  obtain ⟨rfl, N77q, Kq77, R77_0, R77_1, R77_2, R77_3⟩ := hQ77
  have N77 := Fr.app N74 N77q
  have KP77 : Keep h0 h77 [] := KP74.trans Kq77 (allS (Or.inr sz_b71) all0)
  have A77_0 : Ia Z h77 b2 .char (5 : Int32) (f0_u5 p1 q2) := A74_0.keep Kq77 (ninS ne71_0 nin0)
  have K78 : ∀ t, Steps p.tables e below (T77.setTop (mkF m 220 #[.val (.int p1), .val (.long q2), .second, .val (.int p3), .val (.int p4), .val (.int p5), .val (.ref b2), .val (.int ((p3 &&& (7 : Int32)) % (6 : Int32))), .val (.int (f0_u6 p3)), .val (.int (f0_u7 p3)), .val (.int (f0_u8 p3 p4)), .val (.int (f0_u9 p3 p5)), .val (.int (f0_u10 p1 q2 p3)), .val (.int (f0_u11 p1 q2 p3)), .val (.int (f0_u12 p1 q2 p3 p4 p5)), .val (.int (f0_u13 p1 q2 p3 p4 p5)), .val (.ref b71), .unset] [(.int (f7 (f0_u8 p3 p4) (f0_u9 p3 p5) ((p3 &&& (7 : Int32)) % (6 : Int32)) (f0_u6 p3) (f0_u5 p1 q2)))])) t → Steps p.tables e below (T74.setTop (mkF m 217 #[.val (.int p1), .val (.long q2), .second, .val (.int p3), .val (.int p4), .val (.int p5), .val (.ref b2), .val (.int ((p3 &&& (7 : Int32)) % (6 : Int32))), .val (.int (f0_u6 p3)), .val (.int (f0_u7 p3)), .val (.int (f0_u8 p3 p4)), .val (.int (f0_u9 p3 p5)), .val (.int (f0_u10 p1 q2 p3)), .val (.int (f0_u11 p1 q2 p3)), .val (.int (f0_u12 p1 q2 p3 p4 p5)), .val (.int (f0_u13 p1 q2 p3 p4 p5)), .val (.ref b71), .unset] [(.int (f0_u9 p3 p5)), (.int (f0_u8 p3 p4)), (.ref b71)])) t := fun t k => st77.trans k
  have K79 : ∀ t, Steps p.tables e below (T77.setTop (mkF m 226 #[.val (.int p1), .val (.long q2), .second, .val (.int p3), .val (.int p4), .val (.int p5), .val (.ref b2), .val (.int ((p3 &&& (7 : Int32)) % (6 : Int32))), .val (.int (f0_u6 p3)), .val (.int (f0_u7 p3)), .val (.int (f0_u8 p3 p4)), .val (.int (f0_u9 p3 p5)), .val (.int (f0_u10 p1 q2 p3)), .val (.int (f0_u11 p1 q2 p3)), .val (.int (f0_u12 p1 q2 p3 p4 p5)), .val (.int (f0_u13 p1 q2 p3 p4 p5)), .val (.ref b71), .val (.int (f0_u14 p1 q2 p3 p4 p5))] [(.int (f0_u12 p1 q2 p3 p4 p5)), (.int (f0_u14 p1 q2 p3 p4 p5))])) t → Steps p.tables e below (T77.setTop (mkF m 220 #[.val (.int p1), .val (.long q2), .second, .val (.int p3), .val (.int p4), .val (.int p5), .val (.ref b2), .val (.int ((p3 &&& (7 : Int32)) % (6 : Int32))), .val (.int (f0_u6 p3)), .val (.int (f0_u7 p3)), .val (.int (f0_u8 p3 p4)), .val (.int (f0_u9 p3 p5)), .val (.int (f0_u10 p1 q2 p3)), .val (.int (f0_u11 p1 q2 p3)), .val (.int (f0_u12 p1 q2 p3 p4 p5)), .val (.int (f0_u13 p1 q2 p3 p4 p5)), .val (.ref b71), .unset] [(.int (f7 (f0_u8 p3 p4) (f0_u9 p3 p5) ((p3 &&& (7 : Int32)) % (6 : Int32)) (f0_u6 p3) (f0_u5 p1 q2)))])) t := by
    intro t k
    refine XS.istore X77.here hx rfl (Jvm.hb hby at_220) rfl (l' := #[.val (.int p1), .val (.long q2), .second, .val (.int p3), .val (.int p4), .val (.int p5), .val (.ref b2), .val (.int ((p3 &&& (7 : Int32)) % (6 : Int32))), .val (.int (f0_u6 p3)), .val (.int (f0_u7 p3)), .val (.int (f0_u8 p3 p4)), .val (.int (f0_u9 p3 p5)), .val (.int (f0_u10 p1 q2 p3)), .val (.int (f0_u11 p1 q2 p3)), .val (.int (f0_u12 p1 q2 p3 p4 p5)), .val (.int (f0_u13 p1 q2 p3 p4 p5)), .val (.ref b71), .val (.int (f0_u14 p1 q2 p3 p4 p5))]) rfl ?_
    show Steps p.tables e below (T77.setTop (mkF m 222 #[.val (.int p1), .val (.long q2), .second, .val (.int p3), .val (.int p4), .val (.int p5), .val (.ref b2), .val (.int ((p3 &&& (7 : Int32)) % (6 : Int32))), .val (.int (f0_u6 p3)), .val (.int (f0_u7 p3)), .val (.int (f0_u8 p3 p4)), .val (.int (f0_u9 p3 p5)), .val (.int (f0_u10 p1 q2 p3)), .val (.int (f0_u11 p1 q2 p3)), .val (.int (f0_u12 p1 q2 p3 p4 p5)), .val (.int (f0_u13 p1 q2 p3 p4 p5)), .val (.ref b71), .val (.int (f0_u14 p1 q2 p3 p4 p5))] [])) t
    refine XS.iload X77.here hx rfl (Jvm.hb hby at_222) rfl ?_
    show Steps p.tables e below (T77.setTop (mkF m 224 #[.val (.int p1), .val (.long q2), .second, .val (.int p3), .val (.int p4), .val (.int p5), .val (.ref b2), .val (.int ((p3 &&& (7 : Int32)) % (6 : Int32))), .val (.int (f0_u6 p3)), .val (.int (f0_u7 p3)), .val (.int (f0_u8 p3 p4)), .val (.int (f0_u9 p3 p5)), .val (.int (f0_u10 p1 q2 p3)), .val (.int (f0_u11 p1 q2 p3)), .val (.int (f0_u12 p1 q2 p3 p4 p5)), .val (.int (f0_u13 p1 q2 p3 p4 p5)), .val (.ref b71), .val (.int (f0_u14 p1 q2 p3 p4 p5))] [(.int (f0_u14 p1 q2 p3 p4 p5))])) t
    refine XS.iload X77.here hx rfl (Jvm.hb hby at_224) rfl ?_
    show Steps p.tables e below (T77.setTop (mkF m 226 #[.val (.int p1), .val (.long q2), .second, .val (.int p3), .val (.int p4), .val (.int p5), .val (.ref b2), .val (.int ((p3 &&& (7 : Int32)) % (6 : Int32))), .val (.int (f0_u6 p3)), .val (.int (f0_u7 p3)), .val (.int (f0_u8 p3 p4)), .val (.int (f0_u9 p3 p5)), .val (.int (f0_u10 p1 q2 p3)), .val (.int (f0_u11 p1 q2 p3)), .val (.int (f0_u12 p1 q2 p3 p4 p5)), .val (.int (f0_u13 p1 q2 p3 p4 p5)), .val (.ref b71), .val (.int (f0_u14 p1 q2 p3 p4 p5))] [(.int (f0_u12 p1 q2 p3 p4 p5)), (.int (f0_u14 p1 q2 p3 p4 p5))])) t
    exact k
  by_cases hc80 : (f0_u14 p1 q2 p3 p4 p5) = (f0_u12 p1 q2 p3 p4 p5)
  · have K81 : ∀ t, Steps p.tables e below (T77.setTop (mkF m 229 #[.val (.int p1), .val (.long q2), .second, .val (.int p3), .val (.int p4), .val (.int p5), .val (.ref b2), .val (.int ((p3 &&& (7 : Int32)) % (6 : Int32))), .val (.int (f0_u6 p3)), .val (.int (f0_u7 p3)), .val (.int (f0_u8 p3 p4)), .val (.int (f0_u9 p3 p5)), .val (.int (f0_u10 p1 q2 p3)), .val (.int (f0_u11 p1 q2 p3)), .val (.int (f0_u12 p1 q2 p3 p4 p5)), .val (.int (f0_u13 p1 q2 p3 p4 p5)), .val (.ref b71), .val (.int (f0_u14 p1 q2 p3 p4 p5))] [])) t → Steps p.tables e below (T77.setTop (mkF m 226 #[.val (.int p1), .val (.long q2), .second, .val (.int p3), .val (.int p4), .val (.int p5), .val (.ref b2), .val (.int ((p3 &&& (7 : Int32)) % (6 : Int32))), .val (.int (f0_u6 p3)), .val (.int (f0_u7 p3)), .val (.int (f0_u8 p3 p4)), .val (.int (f0_u9 p3 p5)), .val (.int (f0_u10 p1 q2 p3)), .val (.int (f0_u11 p1 q2 p3)), .val (.int (f0_u12 p1 q2 p3 p4 p5)), .val (.int (f0_u13 p1 q2 p3 p4 p5)), .val (.ref b71), .val (.int (f0_u14 p1 q2 p3 p4 p5))] [(.int (f0_u12 p1 q2 p3 p4 p5)), (.int (f0_u14 p1 q2 p3 p4 p5))])) t := by
      intro t k
      refine XS.icmpNo X77.here hx rfl (Jvm.hb hby at_226) rfl (teq hc80).2 ?_
      exact k
    have K82 : ∀ t, Steps p.tables e below (T77.setTop (mkF m 231 #[.val (.int p1), .val (.long q2), .second, .val (.int p3), .val (.int p4), .val (.int p5), .val (.ref b2), .val (.int ((p3 &&& (7 : Int32)) % (6 : Int32))), .val (.int (f0_u6 p3)), .val (.int (f0_u7 p3)), .val (.int (f0_u8 p3 p4)), .val (.int (f0_u9 p3 p5)), .val (.int (f0_u10 p1 q2 p3)), .val (.int (f0_u11 p1 q2 p3)), .val (.int (f0_u12 p1 q2 p3 p4 p5)), .val (.int (f0_u13 p1 q2 p3 p4 p5)), .val (.ref b71), .val (.int (f0_u14 p1 q2 p3 p4 p5))] [(.ref b71)])) t → Steps p.tables e below (T77.setTop (mkF m 229 #[.val (.int p1), .val (.long q2), .second, .val (.int p3), .val (.int p4), .val (.int p5), .val (.ref b2), .val (.int ((p3 &&& (7 : Int32)) % (6 : Int32))), .val (.int (f0_u6 p3)), .val (.int (f0_u7 p3)), .val (.int (f0_u8 p3 p4)), .val (.int (f0_u9 p3 p5)), .val (.int (f0_u10 p1 q2 p3)), .val (.int (f0_u11 p1 q2 p3)), .val (.int (f0_u12 p1 q2 p3 p4 p5)), .val (.int (f0_u13 p1 q2 p3 p4 p5)), .val (.ref b71), .val (.int (f0_u14 p1 q2 p3 p4 p5))] [])) t := by
      intro t k
      refine XS.aload X77.here hx rfl (Jvm.hb hby at_229) rfl rfl ?_
      show Steps p.tables e below (T77.setTop (mkF m 231 #[.val (.int p1), .val (.long q2), .second, .val (.int p3), .val (.int p4), .val (.int p5), .val (.ref b2), .val (.int ((p3 &&& (7 : Int32)) % (6 : Int32))), .val (.int (f0_u6 p3)), .val (.int (f0_u7 p3)), .val (.int (f0_u8 p3 p4)), .val (.int (f0_u9 p3 p5)), .val (.int (f0_u10 p1 q2 p3)), .val (.int (f0_u11 p1 q2 p3)), .val (.int (f0_u12 p1 q2 p3 p4 p5)), .val (.int (f0_u13 p1 q2 p3 p4 p5)), .val (.ref b71), .val (.int (f0_u14 p1 q2 p3 p4 p5))] [(.ref b71)])) t
      exact k
    obtain ⟨cq83, kq83, q83a, q83b, q83c⟩ := isOf hZ e77 R77_3
    obtain ⟨_, _, ⟨T83, L83, k83, n83⟩, -, X83, ⟨Lc83, hQ83, l83, y83, z83⟩, st83⟩ := X77.virtualBack hx (y := (⟨"com/example/clapboard/clapboard/parse/TextCursor", "position", "()I"⟩ : MethodName)) (z := (⟨"com/example/clapboard/clapboard/parse/TextCursor", "position", "()I"⟩ : MethodName)) hown (mvT hZ (hw _ (List.mem_of_getElem? (i := 35) rfl))) (mvT hZ (hw _ (List.mem_of_getElem? (i := 36) rfl))) (notFace_of_selects (args := #[]) (mvT hZ (hw _ (List.mem_of_getElem? (i := 38) rfl)))) (mvT hZ (hw _ (List.mem_of_getElem? (i := 38) rfl))) (mvT hZ (hw _ (List.mem_of_getElem? (i := 37) rfl))) (by decide) (backOf (W := 0) (rm8 l Z a0 hw [] b71 (f7_F_at_a10 (f0_u8 p3 p4) (f0_u9 p3 p5) ((p3 &&& (7 : Int32)) % (6 : Int32)) (f0_u6 p3) (f0_u5 p1 q2)) h77 n0 (Nat.le_trans Z0 KP77.1) R77_0) hZ (hw _ (List.mem_of_getElem? (i := 39) rfl)) (hw _ (List.mem_of_getElem? (i := 17) rfl)) (by decide) (by decide)) q83a q83c (g := (mkF m 231 #[.val (.int p1), .val (.long q2), .second, .val (.int p3), .val (.int p4), .val (.int p5), .val (.ref b2), .val (.int ((p3 &&& (7 : Int32)) % (6 : Int32))), .val (.int (f0_u6 p3)), .val (.int (f0_u7 p3)), .val (.int (f0_u8 p3 p4)), .val (.int (f0_u9 p3 p5)), .val (.int (f0_u10 p1 q2 p3)), .val (.int (f0_u11 p1 q2 p3)), .val (.int (f0_u12 p1 q2 p3 p4 p5)), .val (.int (f0_u13 p1 q2 p3 p4 p5)), .val (.ref b71), .val (.int (f0_u14 p1 q2 p3 p4 p5))] [(.ref b71)])) rfl (by rw [hml]; rfl) (Steps.refl _) (argsL := []) (rest := []) (lenOf pd_6 rfl) rfl (by show 2 * 0 + _ ≤ _; exact Nat.le_of_eq rfl) (Jvm.hb hby at_231) (fun _ _ => ⟨rfl, e77, (by decide : 2 + 0 ≤ _), (by decide : 8 + 0 ≤ _)⟩)
    dsimp only [Pt.U, Pt.locs, Pt.cells, Pt.slots] at X83 l83 y83 z83 st83 hQ83
    subst l83 y83 z83
    obtain ⟨rfl, N83q, e83⟩ := hQ83
    have N83 := Fr.app N77 N83q
    have K84 : ∀ t, Steps p.tables e below (T83.setTop (mkF m 234 #[.val (.int p1), .val (.long q2), .second, .val (.int p3), .val (.int p4), .val (.int p5), .val (.ref b2), .val (.int ((p3 &&& (7 : Int32)) % (6 : Int32))), .val (.int (f0_u6 p3)), .val (.int (f0_u7 p3)), .val (.int (f0_u8 p3 p4)), .val (.int (f0_u9 p3 p5)), .val (.int (f0_u10 p1 q2 p3)), .val (.int (f0_u11 p1 q2 p3)), .val (.int (f0_u12 p1 q2 p3 p4 p5)), .val (.int (f0_u13 p1 q2 p3 p4 p5)), .val (.ref b71), .val (.int (f0_u14 p1 q2 p3 p4 p5))] [(.int (f8 (f7_F_at_a10 (f0_u8 p3 p4) (f0_u9 p3 p5) ((p3 &&& (7 : Int32)) % (6 : Int32)) (f0_u6 p3) (f0_u5 p1 q2))))])) t → Steps p.tables e below (T77.setTop (mkF m 231 #[.val (.int p1), .val (.long q2), .second, .val (.int p3), .val (.int p4), .val (.int p5), .val (.ref b2), .val (.int ((p3 &&& (7 : Int32)) % (6 : Int32))), .val (.int (f0_u6 p3)), .val (.int (f0_u7 p3)), .val (.int (f0_u8 p3 p4)), .val (.int (f0_u9 p3 p5)), .val (.int (f0_u10 p1 q2 p3)), .val (.int (f0_u11 p1 q2 p3)), .val (.int (f0_u12 p1 q2 p3 p4 p5)), .val (.int (f0_u13 p1 q2 p3 p4 p5)), .val (.ref b71), .val (.int (f0_u14 p1 q2 p3 p4 p5))] [(.ref b71)])) t := fun t k => st83.trans k
    have K85 : ∀ t, Steps p.tables e below (T83.setTop (mkF m 236 #[.val (.int p1), .val (.long q2), .second, .val (.int p3), .val (.int p4), .val (.int p5), .val (.ref b2), .val (.int ((p3 &&& (7 : Int32)) % (6 : Int32))), .val (.int (f0_u6 p3)), .val (.int (f0_u7 p3)), .val (.int (f0_u8 p3 p4)), .val (.int (f0_u9 p3 p5)), .val (.int (f0_u10 p1 q2 p3)), .val (.int (f0_u11 p1 q2 p3)), .val (.int (f0_u12 p1 q2 p3 p4 p5)), .val (.int (f0_u13 p1 q2 p3 p4 p5)), .val (.ref b71), .val (.int (f0_u14 p1 q2 p3 p4 p5))] [(.int (f0_u13 p1 q2 p3 p4 p5)), (.int (f8 (f7_F_at_a10 (f0_u8 p3 p4) (f0_u9 p3 p5) ((p3 &&& (7 : Int32)) % (6 : Int32)) (f0_u6 p3) (f0_u5 p1 q2))))])) t → Steps p.tables e below (T83.setTop (mkF m 234 #[.val (.int p1), .val (.long q2), .second, .val (.int p3), .val (.int p4), .val (.int p5), .val (.ref b2), .val (.int ((p3 &&& (7 : Int32)) % (6 : Int32))), .val (.int (f0_u6 p3)), .val (.int (f0_u7 p3)), .val (.int (f0_u8 p3 p4)), .val (.int (f0_u9 p3 p5)), .val (.int (f0_u10 p1 q2 p3)), .val (.int (f0_u11 p1 q2 p3)), .val (.int (f0_u12 p1 q2 p3 p4 p5)), .val (.int (f0_u13 p1 q2 p3 p4 p5)), .val (.ref b71), .val (.int (f0_u14 p1 q2 p3 p4 p5))] [(.int (f8 (f7_F_at_a10 (f0_u8 p3 p4) (f0_u9 p3 p5) ((p3 &&& (7 : Int32)) % (6 : Int32)) (f0_u6 p3) (f0_u5 p1 q2))))])) t := by
      intro t k
      refine XS.iload X83.here hx rfl (Jvm.hb hby at_234) rfl ?_
      show Steps p.tables e below (T83.setTop (mkF m 236 #[.val (.int p1), .val (.long q2), .second, .val (.int p3), .val (.int p4), .val (.int p5), .val (.ref b2), .val (.int ((p3 &&& (7 : Int32)) % (6 : Int32))), .val (.int (f0_u6 p3)), .val (.int (f0_u7 p3)), .val (.int (f0_u8 p3 p4)), .val (.int (f0_u9 p3 p5)), .val (.int (f0_u10 p1 q2 p3)), .val (.int (f0_u11 p1 q2 p3)), .val (.int (f0_u12 p1 q2 p3 p4 p5)), .val (.int (f0_u13 p1 q2 p3 p4 p5)), .val (.ref b71), .val (.int (f0_u14 p1 q2 p3 p4 p5))] [(.int (f0_u13 p1 q2 p3 p4 p5)), (.int (f8 (f7_F_at_a10 (f0_u8 p3 p4) (f0_u9 p3 p5) ((p3 &&& (7 : Int32)) % (6 : Int32)) (f0_u6 p3) (f0_u5 p1 q2))))])) t
      exact k
    by_cases hc86 : (f8 (f7_F_at_a10 (f0_u8 p3 p4) (f0_u9 p3 p5) ((p3 &&& (7 : Int32)) % (6 : Int32)) (f0_u6 p3) (f0_u5 p1 q2))) = (f0_u13 p1 q2 p3 p4 p5)
    · have K87 : ∀ t, Steps p.tables e below (T83.setTop (mkF m 239 #[.val (.int p1), .val (.long q2), .second, .val (.int p3), .val (.int p4), .val (.int p5), .val (.ref b2), .val (.int ((p3 &&& (7 : Int32)) % (6 : Int32))), .val (.int (f0_u6 p3)), .val (.int (f0_u7 p3)), .val (.int (f0_u8 p3 p4)), .val (.int (f0_u9 p3 p5)), .val (.int (f0_u10 p1 q2 p3)), .val (.int (f0_u11 p1 q2 p3)), .val (.int (f0_u12 p1 q2 p3 p4 p5)), .val (.int (f0_u13 p1 q2 p3 p4 p5)), .val (.ref b71), .val (.int (f0_u14 p1 q2 p3 p4 p5))] [])) t → Steps p.tables e below (T83.setTop (mkF m 236 #[.val (.int p1), .val (.long q2), .second, .val (.int p3), .val (.int p4), .val (.int p5), .val (.ref b2), .val (.int ((p3 &&& (7 : Int32)) % (6 : Int32))), .val (.int (f0_u6 p3)), .val (.int (f0_u7 p3)), .val (.int (f0_u8 p3 p4)), .val (.int (f0_u9 p3 p5)), .val (.int (f0_u10 p1 q2 p3)), .val (.int (f0_u11 p1 q2 p3)), .val (.int (f0_u12 p1 q2 p3 p4 p5)), .val (.int (f0_u13 p1 q2 p3 p4 p5)), .val (.ref b71), .val (.int (f0_u14 p1 q2 p3 p4 p5))] [(.int (f0_u13 p1 q2 p3 p4 p5)), (.int (f8 (f7_F_at_a10 (f0_u8 p3 p4) (f0_u9 p3 p5) ((p3 &&& (7 : Int32)) % (6 : Int32)) (f0_u6 p3) (f0_u5 p1 q2))))])) t := by
        intro t k
        refine XS.icmpNo X83.here hx rfl (Jvm.hb hby at_236) rfl (teq hc86).2 ?_
        exact k
      have K88 : ∀ t, Steps p.tables e below (T83.setTop (mkF m 244 #[.val (.int p1), .val (.long q2), .second, .val (.int p3), .val (.int p4), .val (.int p5), .val (.ref b2), .val (.int ((p3 &&& (7 : Int32)) % (6 : Int32))), .val (.int (f0_u6 p3)), .val (.int (f0_u7 p3)), .val (.int (f0_u8 p3 p4)), .val (.int (f0_u9 p3 p5)), .val (.int (f0_u10 p1 q2 p3)), .val (.int (f0_u11 p1 q2 p3)), .val (.int (f0_u12 p1 q2 p3 p4 p5)), .val (.int (f0_u13 p1 q2 p3 p4 p5)), .val (.ref b71), .val (.int (f0_u14 p1 q2 p3 p4 p5))] [(.int (1 : Int32))])) t → Steps p.tables e below (T83.setTop (mkF m 239 #[.val (.int p1), .val (.long q2), .second, .val (.int p3), .val (.int p4), .val (.int p5), .val (.ref b2), .val (.int ((p3 &&& (7 : Int32)) % (6 : Int32))), .val (.int (f0_u6 p3)), .val (.int (f0_u7 p3)), .val (.int (f0_u8 p3 p4)), .val (.int (f0_u9 p3 p5)), .val (.int (f0_u10 p1 q2 p3)), .val (.int (f0_u11 p1 q2 p3)), .val (.int (f0_u12 p1 q2 p3 p4 p5)), .val (.int (f0_u13 p1 q2 p3 p4 p5)), .val (.ref b71), .val (.int (f0_u14 p1 q2 p3 p4 p5))] [])) t := by
        intro t k
        refine XS.iconst X83.here hx rfl (Jvm.hb hby at_239) ?_
        show Steps p.tables e below (T83.setTop (mkF m 240 #[.val (.int p1), .val (.long q2), .second, .val (.int p3), .val (.int p4), .val (.int p5), .val (.ref b2), .val (.int ((p3 &&& (7 : Int32)) % (6 : Int32))), .val (.int (f0_u6 p3)), .val (.int (f0_u7 p3)), .val (.int (f0_u8 p3 p4)), .val (.int (f0_u9 p3 p5)), .val (.int (f0_u10 p1 q2 p3)), .val (.int (f0_u11 p1 q2 p3)), .val (.int (f0_u12 p1 q2 p3 p4 p5)), .val (.int (f0_u13 p1 q2 p3 p4 p5)), .val (.ref b71), .val (.int (f0_u14 p1 q2 p3 p4 p5))] [(.int (1 : Int32))])) t
        refine XS.goto X83.here hx rfl (pc0 := 240) (pc' := 244) rfl (Jvm.hb hby at_240) (by decide) (by decide) ?_
        show Steps p.tables e below (T83.setTop (mkF m 244 #[.val (.int p1), .val (.long q2), .second, .val (.int p3), .val (.int p4), .val (.int p5), .val (.ref b2), .val (.int ((p3 &&& (7 : Int32)) % (6 : Int32))), .val (.int (f0_u6 p3)), .val (.int (f0_u7 p3)), .val (.int (f0_u8 p3 p4)), .val (.int (f0_u9 p3 p5)), .val (.int (f0_u10 p1 q2 p3)), .val (.int (f0_u11 p1 q2 p3)), .val (.int (f0_u12 p1 q2 p3 p4 p5)), .val (.int (f0_u13 p1 q2 p3 p4 p5)), .val (.ref b71), .val (.int (f0_u14 p1 q2 p3 p4 p5))] [(.int (1 : Int32))])) t
        exact k
      obtain ⟨fs, hr, hrun, hended, hW, hsame⟩ := X83.leave (v := some (.int (1 : Int32))) (fun h => by rw [Bd.returns] at h; cases h) Bd.notSynchronized
      refine ⟨_, _, pre0 _ (K1 _ (K3 _ (K4 _ (K6 _ (K8 _ (K9 _ (K11 _ (K13 _ (K14 _ (K16 _ (K18 _ (K19 _ (K21 _ (K23 _ (K24 _ (K26 _ (K28 _ (K29 _ (K30 _ (K35 _ (K36 _ (K41 _ (K42 _ (K47 _ (K49 _ (K50 _ (K52 _ (K53 _ (K54 _ (K64 _ (K65 _ (K70 _ (K72 _ (K73 _ (K75 _ (K76 _ (K78 _ (K79 _ (K81 _ (K82 _ (K84 _ (K85 _ (K87 _ (K88 _ (retN X83 hx (t := .boolean) Bd.returns (by simp) (Jvm.hb hby at_244) hr))))))))))))))))))))))))))))))))))))))))))))), hrun, hended, _, _, rfl, ?_, ⟨_, rfl⟩, hW, hsame.mono (by decide) (by decide)⟩
      show Q0 Z p1 q2 p3 p4 p5 h0 n0 _ T83.heap _
      rw [e83]
      exact ⟨congrArg (fun z => some (Value.int z)) (show (1 : Int32) = f0 p1 q2 p3 p4 p5 from Eq.symm ((if_pos hc80).trans (if_pos hc86))), N83, KP77⟩
    · have K89 : ∀ t, Steps p.tables e below (T83.setTop (mkF m 243 #[.val (.int p1), .val (.long q2), .second, .val (.int p3), .val (.int p4), .val (.int p5), .val (.ref b2), .val (.int ((p3 &&& (7 : Int32)) % (6 : Int32))), .val (.int (f0_u6 p3)), .val (.int (f0_u7 p3)), .val (.int (f0_u8 p3 p4)), .val (.int (f0_u9 p3 p5)), .val (.int (f0_u10 p1 q2 p3)), .val (.int (f0_u11 p1 q2 p3)), .val (.int (f0_u12 p1 q2 p3 p4 p5)), .val (.int (f0_u13 p1 q2 p3 p4 p5)), .val (.ref b71), .val (.int (f0_u14 p1 q2 p3 p4 p5))] [])) t → Steps p.tables e below (T83.setTop (mkF m 236 #[.val (.int p1), .val (.long q2), .second, .val (.int p3), .val (.int p4), .val (.int p5), .val (.ref b2), .val (.int ((p3 &&& (7 : Int32)) % (6 : Int32))), .val (.int (f0_u6 p3)), .val (.int (f0_u7 p3)), .val (.int (f0_u8 p3 p4)), .val (.int (f0_u9 p3 p5)), .val (.int (f0_u10 p1 q2 p3)), .val (.int (f0_u11 p1 q2 p3)), .val (.int (f0_u12 p1 q2 p3 p4 p5)), .val (.int (f0_u13 p1 q2 p3 p4 p5)), .val (.ref b71), .val (.int (f0_u14 p1 q2 p3 p4 p5))] [(.int (f0_u13 p1 q2 p3 p4 p5)), (.int (f8 (f7_F_at_a10 (f0_u8 p3 p4) (f0_u9 p3 p5) ((p3 &&& (7 : Int32)) % (6 : Int32)) (f0_u6 p3) (f0_u5 p1 q2))))])) t := by
        intro t k
        refine XS.icmpYes X83.here hx rfl (pc0 := 236) (pc' := 243) rfl (Jvm.hb hby at_236) rfl (feq hc86).2 (by decide) (by decide) ?_
        exact k
      have K90 : ∀ t, Steps p.tables e below (T83.setTop (mkF m 244 #[.val (.int p1), .val (.long q2), .second, .val (.int p3), .val (.int p4), .val (.int p5), .val (.ref b2), .val (.int ((p3 &&& (7 : Int32)) % (6 : Int32))), .val (.int (f0_u6 p3)), .val (.int (f0_u7 p3)), .val (.int (f0_u8 p3 p4)), .val (.int (f0_u9 p3 p5)), .val (.int (f0_u10 p1 q2 p3)), .val (.int (f0_u11 p1 q2 p3)), .val (.int (f0_u12 p1 q2 p3 p4 p5)), .val (.int (f0_u13 p1 q2 p3 p4 p5)), .val (.ref b71), .val (.int (f0_u14 p1 q2 p3 p4 p5))] [(.int (0 : Int32))])) t → Steps p.tables e below (T83.setTop (mkF m 243 #[.val (.int p1), .val (.long q2), .second, .val (.int p3), .val (.int p4), .val (.int p5), .val (.ref b2), .val (.int ((p3 &&& (7 : Int32)) % (6 : Int32))), .val (.int (f0_u6 p3)), .val (.int (f0_u7 p3)), .val (.int (f0_u8 p3 p4)), .val (.int (f0_u9 p3 p5)), .val (.int (f0_u10 p1 q2 p3)), .val (.int (f0_u11 p1 q2 p3)), .val (.int (f0_u12 p1 q2 p3 p4 p5)), .val (.int (f0_u13 p1 q2 p3 p4 p5)), .val (.ref b71), .val (.int (f0_u14 p1 q2 p3 p4 p5))] [])) t := by
        intro t k
        refine XS.iconst X83.here hx rfl (Jvm.hb hby at_243) ?_
        show Steps p.tables e below (T83.setTop (mkF m 244 #[.val (.int p1), .val (.long q2), .second, .val (.int p3), .val (.int p4), .val (.int p5), .val (.ref b2), .val (.int ((p3 &&& (7 : Int32)) % (6 : Int32))), .val (.int (f0_u6 p3)), .val (.int (f0_u7 p3)), .val (.int (f0_u8 p3 p4)), .val (.int (f0_u9 p3 p5)), .val (.int (f0_u10 p1 q2 p3)), .val (.int (f0_u11 p1 q2 p3)), .val (.int (f0_u12 p1 q2 p3 p4 p5)), .val (.int (f0_u13 p1 q2 p3 p4 p5)), .val (.ref b71), .val (.int (f0_u14 p1 q2 p3 p4 p5))] [(.int (0 : Int32))])) t
        exact k
      obtain ⟨fs, hr, hrun, hended, hW, hsame⟩ := X83.leave (v := some (.int (0 : Int32))) (fun h => by rw [Bd.returns] at h; cases h) Bd.notSynchronized
      refine ⟨_, _, pre0 _ (K1 _ (K3 _ (K4 _ (K6 _ (K8 _ (K9 _ (K11 _ (K13 _ (K14 _ (K16 _ (K18 _ (K19 _ (K21 _ (K23 _ (K24 _ (K26 _ (K28 _ (K29 _ (K30 _ (K35 _ (K36 _ (K41 _ (K42 _ (K47 _ (K49 _ (K50 _ (K52 _ (K53 _ (K54 _ (K64 _ (K65 _ (K70 _ (K72 _ (K73 _ (K75 _ (K76 _ (K78 _ (K79 _ (K81 _ (K82 _ (K84 _ (K85 _ (K89 _ (K90 _ (retN X83 hx (t := .boolean) Bd.returns (by simp) (Jvm.hb hby at_244) hr))))))))))))))))))))))))))))))))))))))))))))), hrun, hended, _, _, rfl, ?_, ⟨_, rfl⟩, hW, hsame.mono (by decide) (by decide)⟩
      show Q0 Z p1 q2 p3 p4 p5 h0 n0 _ T83.heap _
      rw [e83]
      exact ⟨congrArg (fun z => some (Value.int z)) (show (0 : Int32) = f0 p1 q2 p3 p4 p5 from Eq.symm ((if_pos hc80).trans (if_neg hc86))), N83, KP77⟩
  · have K91 : ∀ t, Steps p.tables e below (T77.setTop (mkF m 243 #[.val (.int p1), .val (.long q2), .second, .val (.int p3), .val (.int p4), .val (.int p5), .val (.ref b2), .val (.int ((p3 &&& (7 : Int32)) % (6 : Int32))), .val (.int (f0_u6 p3)), .val (.int (f0_u7 p3)), .val (.int (f0_u8 p3 p4)), .val (.int (f0_u9 p3 p5)), .val (.int (f0_u10 p1 q2 p3)), .val (.int (f0_u11 p1 q2 p3)), .val (.int (f0_u12 p1 q2 p3 p4 p5)), .val (.int (f0_u13 p1 q2 p3 p4 p5)), .val (.ref b71), .val (.int (f0_u14 p1 q2 p3 p4 p5))] [])) t → Steps p.tables e below (T77.setTop (mkF m 226 #[.val (.int p1), .val (.long q2), .second, .val (.int p3), .val (.int p4), .val (.int p5), .val (.ref b2), .val (.int ((p3 &&& (7 : Int32)) % (6 : Int32))), .val (.int (f0_u6 p3)), .val (.int (f0_u7 p3)), .val (.int (f0_u8 p3 p4)), .val (.int (f0_u9 p3 p5)), .val (.int (f0_u10 p1 q2 p3)), .val (.int (f0_u11 p1 q2 p3)), .val (.int (f0_u12 p1 q2 p3 p4 p5)), .val (.int (f0_u13 p1 q2 p3 p4 p5)), .val (.ref b71), .val (.int (f0_u14 p1 q2 p3 p4 p5))] [(.int (f0_u12 p1 q2 p3 p4 p5)), (.int (f0_u14 p1 q2 p3 p4 p5))])) t := by
      intro t k
      refine XS.icmpYes X77.here hx rfl (pc0 := 226) (pc' := 243) rfl (Jvm.hb hby at_226) rfl (feq hc80).2 (by decide) (by decide) ?_
      exact k
    have K92 : ∀ t, Steps p.tables e below (T77.setTop (mkF m 244 #[.val (.int p1), .val (.long q2), .second, .val (.int p3), .val (.int p4), .val (.int p5), .val (.ref b2), .val (.int ((p3 &&& (7 : Int32)) % (6 : Int32))), .val (.int (f0_u6 p3)), .val (.int (f0_u7 p3)), .val (.int (f0_u8 p3 p4)), .val (.int (f0_u9 p3 p5)), .val (.int (f0_u10 p1 q2 p3)), .val (.int (f0_u11 p1 q2 p3)), .val (.int (f0_u12 p1 q2 p3 p4 p5)), .val (.int (f0_u13 p1 q2 p3 p4 p5)), .val (.ref b71), .val (.int (f0_u14 p1 q2 p3 p4 p5))] [(.int (0 : Int32))])) t → Steps p.tables e below (T77.setTop (mkF m 243 #[.val (.int p1), .val (.long q2), .second, .val (.int p3), .val (.int p4), .val (.int p5), .val (.ref b2), .val (.int ((p3 &&& (7 : Int32)) % (6 : Int32))), .val (.int (f0_u6 p3)), .val (.int (f0_u7 p3)), .val (.int (f0_u8 p3 p4)), .val (.int (f0_u9 p3 p5)), .val (.int (f0_u10 p1 q2 p3)), .val (.int (f0_u11 p1 q2 p3)), .val (.int (f0_u12 p1 q2 p3 p4 p5)), .val (.int (f0_u13 p1 q2 p3 p4 p5)), .val (.ref b71), .val (.int (f0_u14 p1 q2 p3 p4 p5))] [])) t := by
      intro t k
      refine XS.iconst X77.here hx rfl (Jvm.hb hby at_243) ?_
      show Steps p.tables e below (T77.setTop (mkF m 244 #[.val (.int p1), .val (.long q2), .second, .val (.int p3), .val (.int p4), .val (.int p5), .val (.ref b2), .val (.int ((p3 &&& (7 : Int32)) % (6 : Int32))), .val (.int (f0_u6 p3)), .val (.int (f0_u7 p3)), .val (.int (f0_u8 p3 p4)), .val (.int (f0_u9 p3 p5)), .val (.int (f0_u10 p1 q2 p3)), .val (.int (f0_u11 p1 q2 p3)), .val (.int (f0_u12 p1 q2 p3 p4 p5)), .val (.int (f0_u13 p1 q2 p3 p4 p5)), .val (.ref b71), .val (.int (f0_u14 p1 q2 p3 p4 p5))] [(.int (0 : Int32))])) t
      exact k
    obtain ⟨fs, hr, hrun, hended, hW, hsame⟩ := X77.leave (v := some (.int (0 : Int32))) (fun h => by rw [Bd.returns] at h; cases h) Bd.notSynchronized
    refine ⟨_, _, pre0 _ (K1 _ (K3 _ (K4 _ (K6 _ (K8 _ (K9 _ (K11 _ (K13 _ (K14 _ (K16 _ (K18 _ (K19 _ (K21 _ (K23 _ (K24 _ (K26 _ (K28 _ (K29 _ (K30 _ (K35 _ (K36 _ (K41 _ (K42 _ (K47 _ (K49 _ (K50 _ (K52 _ (K53 _ (K54 _ (K64 _ (K65 _ (K70 _ (K72 _ (K73 _ (K75 _ (K76 _ (K78 _ (K79 _ (K91 _ (K92 _ (retN X77 hx (t := .boolean) Bd.returns (by simp) (Jvm.hb hby at_244) hr))))))))))))))))))))))))))))))))))))))))), hrun, hended, _, _, rfl, ?_, ⟨_, rfl⟩, hW, hsame.mono (by decide) (by decide)⟩
    show Q0 Z p1 q2 p3 p4 p5 h0 n0 _ T77.heap _
    rw [e77]
    exact ⟨congrArg (fun z => some (Value.int z)) (show (0 : Int32) = f0 p1 q2 p3 p4 p5 from Eq.symm (if_neg hc80)), N77, KP77⟩
theorem own_dig (p e : Int32) (f : Int32 → Int32) (h : ¬ f3 p e f = 0) : 48 ≤ (f p).toInt ∧ (f p).toInt ≤ 57 := by
  have z1 : (48 : Int32).toInt = 48 := by decide
  have z2 : (57 : Int32).toInt = 57 := by decide
  have q := own_d p e f h
  unfold f3 at h
  rw [if_pos q] at h
  by_cases c1 : f p < 48
  · rw [if_pos c1] at h; exact absurd rfl h
  · rw [if_neg c1] at h
    by_cases c2 : (57 : Int32) < f p
    · rw [if_pos c2] at h; exact absurd rfl h
    · have h1 : ¬ ((f p).toInt < (48 : Int32).toInt) := fun q => c1 (Int32.lt_iff_toInt_lt.mpr q)
      have h2 : ¬ ((57 : Int32).toInt < (f p).toInt) := fun q => c2 (Int32.lt_iff_toInt_lt.mpr q)
      omega
theorem own_exit (F M va e : Int32) (g : Int32 → Int32) (k : Nat) (i v x : Int32) (h : f3 (x + i) e g = 0) :
    f7_L F M va e g (k + 1) i v x = (if i < F then -1 else if M < i then -1 else v) ∧ f7_F_at_a1 F M va e g (k + 1) i v x = (if i < F then x else if M < i then x else x + i) := by
  rw [f7_L_succ, f7_F_at_a1_succ]
  unfold f3 at h
  by_cases c0 : x + i < e
  · rw [if_pos c0] at h
    rw [if_pos c0, if_pos c0]
    by_cases c1 : g (x + i) < 48
    · rw [if_pos c1, if_pos c1]; exact ⟨rfl, rfl⟩
    · rw [if_neg c1] at h
      rw [if_neg c1, if_neg c1]
      by_cases c2 : (57 : Int32) < g (x + i)
      · rw [if_pos c2, if_pos c2]; exact ⟨rfl, rfl⟩
      · rw [if_neg c2] at h; exact absurd h (by decide)
  · rw [if_neg c0, if_neg c0]; exact ⟨rfl, rfl⟩
theorem own_go (F M va e : Int32) (g : Int32 → Int32) (k : Nat) (i v x : Int32) (h : ¬ f3 (x + i) e g = 0) :
    f7_L F M va e g (k + 1) i v x = f7_L F M va e g k (i + 1) (f7_u1 g i v x) x ∧ f7_F_at_a1 F M va e g (k + 1) i v x = f7_F_at_a1 F M va e g k (i + 1) (f7_u1 g i v x) x := by
  rw [f7_L_succ, f7_F_at_a1_succ]
  have c0 := own_d _ _ _ h
  unfold f3 at h
  rw [if_pos c0] at h
  rw [if_pos c0, if_pos c0]
  by_cases c1 : g (x + i) < 48
  · rw [if_pos c1] at h; exact absurd rfl h
  · rw [if_neg c1] at h
    rw [if_neg c1, if_neg c1]
    by_cases c2 : (57 : Int32) < g (x + i)
    · rw [if_pos c2] at h; exact absurd rfl h
    · rw [if_neg c2, if_neg c2]; exact ⟨rfl, rfl⟩
def own_W (g : Int32 → Int32) (x : Int32) : Nat → Int32
  | 0 => 0
  | j + 1 => f7_u1 g (Int32.ofNat j) (own_W g x j) x
theorem own_chain (F M va e : Int32) (g : Int32 → Int32) (x : Int32) : ∀ (j k : Nat), (∀ i, i < j → ¬ f3 (x + Int32.ofNat i) e g = 0) →
    f7_L F M va e g (k + j) 0 0 x = f7_L F M va e g k (Int32.ofNat j) (own_W g x j) x ∧ f7_F_at_a1 F M va e g (k + j) 0 0 x = f7_F_at_a1 F M va e g k (Int32.ofNat j) (own_W g x j) x := by
  intro j
  induction j with
  | zero => intro k _; exact ⟨rfl, rfl⟩
  | succ j ih =>
    intro k h
    obtain ⟨h1, h2⟩ := ih (k + 1) (fun i hi => h i (by omega))
    obtain ⟨g1, g2⟩ := own_go F M va e g k (Int32.ofNat j) (own_W g x j) x (h j (by omega))
    rw [show k + (j + 1) = k + 1 + j from by omega, h1, h2, g1, g2]
    have : Int32.ofNat j + 1 = Int32.ofNat (j + 1) := (Int32.ofNat_add j 1).symm
    rw [this]
    exact ⟨rfl, rfl⟩
theorem own_n (p e : Int32) (f : Int32 → Int32) (h5 : f3 (p + 5) e f = 0) : ∃ n, n ≤ 5 ∧ f2 p e f = Int32.ofNat n ∧ (∀ i, i < n → ¬ f3 (p + Int32.ofNat i) e f = 0) ∧ f3 (p + Int32.ofNat n) e f = 0 := by
  have e0 : p + Int32.ofNat 0 = p := Int32.add_zero p
  unfold f2
  by_cases c0 : f3 p e f = 0
  · exact ⟨0, by omega, if_pos c0, fun i hi => by omega, by rw [e0]; exact c0⟩
  rw [if_neg c0]
  by_cases c1 : f3 (p + 1) e f = 0
  · refine ⟨1, by omega, if_pos c1, fun i hi => ?_, c1⟩
    have : i = 0 := by omega
    subst this; rw [e0]; exact c0
  rw [if_neg c1]
  by_cases c2 : f3 (p + 2) e f = 0
  · refine ⟨2, by omega, if_pos c2, fun i hi => ?_, c2⟩
    have : i = 0 ∨ i = 1 := by omega
    rcases this with rfl | rfl
    · rw [e0]; exact c0
    · exact c1
  rw [if_neg c2]
  by_cases c3 : f3 (p + 3) e f = 0
  · refine ⟨3, by omega, if_pos c3, fun i hi => ?_, c3⟩
    have : i = 0 ∨ i = 1 ∨ i = 2 := by omega
    rcases this with rfl | rfl | rfl
    · rw [e0]; exact c0
    · exact c1
    · exact c2
  rw [if_neg c3]
  by_cases c4 : f3 (p + 4) e f = 0
  · refine ⟨4, by omega, if_pos c4, fun i hi => ?_, c4⟩
    have : i = 0 ∨ i = 1 ∨ i = 2 ∨ i = 3 := by omega
    rcases this with rfl | rfl | rfl | rfl
    · rw [e0]; exact c0
    · exact c1
    · exact c2
    · exact c3
  rw [if_neg c4]
  refine ⟨5, by omega, rfl, fun i hi => ?_, h5⟩
  have : i = 0 ∨ i = 1 ∨ i = 2 ∨ i = 3 ∨ i = 4 := by omega
  rcases this with rfl | rfl | rfl | rfl | rfl
  · rw [e0]; exact c0
  · exact c1
  · exact c2
  · exact c3
  · exact c4
theorem own_w (v c : Int32) (hv : 0 ≤ v.toInt) (hv2 : v.toInt ≤ 100000) (hc : 48 ≤ c.toInt) (hc2 : c.toInt ≤ 57) : ((v * 10 + c) - 48).toInt = v.toInt * 10 + c.toInt - 48 := by
  have z10 : (10 : Int32).toInt = 10 := by decide
  have z48 : (48 : Int32).toInt = 48 := by decide
  rw [Int32.toInt_sub, Int32.toInt_add, Int32.toInt_mul, z10, z48]
  rw [Int.bmod_eq_of_le (n := v.toInt * 10) (by omega) (by omega), Int.bmod_eq_of_le (n := v.toInt * 10 + c.toInt) (by omega) (by omega)]
  exact Int.bmod_eq_of_le (by omega) (by omega)
theorem own_tm (a c p : Int32) (P : Int) (hp : p.toInt = P) (ha : 0 ≤ a.toInt) (ha2 : a.toInt ≤ 1000000) (hP : 0 ≤ P ∧ P ≤ 10000) (hc : 48 ≤ c.toInt) (hc2 : c.toInt ≤ 57) : (a + (c - 48) * p).toInt = a.toInt + (c.toInt - 48) * P := by
  have z48 : (48 : Int32).toInt = 48 := by decide
  have hm : 0 ≤ (c.toInt - 48) * P ∧ (c.toInt - 48) * P ≤ 90000 := by
    refine ⟨Int.mul_nonneg (by omega) hP.1, ?_⟩
    calc (c.toInt - 48) * P ≤ 9 * 10000 := Int.mul_le_mul (by omega) hP.2 hP.1 (by omega)
      _ = 90000 := by decide
  rw [Int32.toInt_add, Int32.toInt_mul, Int32.toInt_sub, z48, hp]
  rw [Int.bmod_eq_of_le (n := c.toInt - 48) (by omega) (by omega), Int.bmod_eq_of_le (n := (c.toInt - 48) * P) (by omega) (by omega)]
  exact Int.bmod_eq_of_le (by omega) (by omega)
theorem own_val (g : Int32 → Int32) (x : Int32) (n : Nat) (hn : n ≤ 5) (hd : ∀ i, i < n → 48 ≤ (g (x + Int32.ofNat i)).toInt ∧ (g (x + Int32.ofNat i)).toInt ≤ 57) : f4 x (Int32.ofNat n) g = own_W g x n ∧ 0 ≤ (own_W g x n).toInt := by
  have z0 : (0 : Int32).toInt = 0 := by decide
  have q1 : (1 : Int32).toInt = 1 := by decide
  have q10 : (10 : Int32).toInt = 10 := by decide
  have q100 : (100 : Int32).toInt = 100 := by decide
  have q1000 : (1000 : Int32).toInt = 1000 := by decide
  have q10000 : (10000 : Int32).toInt = 10000 := by decide
  have e0 : x + Int32.ofNat 0 = x := Int32.add_zero x
  have hcs : n = 0 ∨ n = 1 ∨ n = 2 ∨ n = 3 ∨ n = 4 ∨ n = 5 := by omega
  rcases hcs with rfl | rfl | rfl | rfl | rfl | rfl
  · exact ⟨rfl, by show 0 ≤ (0 : Int32).toInt; omega⟩
  · have hd0 := hd 0 (by omega)
    rw [e0] at hd0
    have w1 : (own_W g x 1).toInt = (own_W g x 0).toInt * 10 + (g x).toInt - 48 := by
      show ((own_W g x 0 * 10 + g (x + Int32.ofNat 0)) - 48).toInt = _
      rw [e0]
      exact own_w _ _ (by show 0 ≤ (0 : Int32).toInt; omega) (by show (0 : Int32).toInt ≤ 100000; omega) hd0.1 hd0.2
    have w0 : (own_W g x 0).toInt = 0 := z0
    have t1 := own_tm (0 : Int32) (g x) 1 1 q1 (by omega) (by omega) (by omega) hd0.1 hd0.2
    have hf : f4 x (Int32.ofNat 1) g = ((0 : Int32) + (g x - 48) * (1 : Int32)) := rfl
    refine ⟨?_, by omega⟩
    rw [hf]
    apply Int32.toInt_inj.mp
    omega
  · have hd0 := hd 0 (by omega)
    rw [e0] at hd0
    have hd1 : 48 ≤ (g (x + 1)).toInt ∧ (g (x + 1)).toInt ≤ 57 := hd 1 (by omega)
    have w1 : (own_W g x 1).toInt = (own_W g x 0).toInt * 10 + (g x).toInt - 48 := by
      show ((own_W g x 0 * 10 + g (x + Int32.ofNat 0)) - 48).toInt = _
      rw [e0]
      exact own_w _ _ (by show 0 ≤ (0 : Int32).toInt; omega) (by show (0 : Int32).toInt ≤ 100000; omega) hd0.1 hd0.2
    have w0 : (own_W g x 0).toInt = 0 := z0
    have w2 : (own_W g x 2).toInt = (own_W g x 1).toInt * 10 + (g (x + 1)).toInt - 48 := own_w (own_W g x 1) (g (x + 1)) (by omega) (by omega) hd1.1 hd1.2
    have t1 := own_tm (0 : Int32) (g x) 10 10 q10 (by omega) (by omega) (by omega) hd0.1 hd0.2
    have t2 := own_tm ((0 : Int32) + (g x - 48) * (10 : Int32)) (g (x + 1)) 1 1 q1 (by omega) (by omega) (by omega) hd1.1 hd1.2
    have hf : f4 x (Int32.ofNat 2) g = (((0 : Int32) + (g x - 48) * (10 : Int32)) + (g (x + 1) - 48) * (1 : Int32)) := rfl
    refine ⟨?_, by omega⟩
    rw [hf]
    apply Int32.toInt_inj.mp
    omega
  · have hd0 := hd 0 (by omega)
    rw [e0] at hd0
    have hd1 : 48 ≤ (g (x + 1)).toInt ∧ (g (x + 1)).toInt ≤ 57 := hd 1 (by omega)
    have hd2 : 48 ≤ (g (x + 2)).toInt ∧ (g (x + 2)).toInt ≤ 57 := hd 2 (by omega)
    have w1 : (own_W g x 1).toInt = (own_W g x 0).toInt * 10 + (g x).toInt - 48 := by
      show ((own_W g x 0 * 10 + g (x + Int32.ofNat 0)) - 48).toInt = _
      rw [e0]
      exact own_w _ _ (by show 0 ≤ (0 : Int32).toInt; omega) (by show (0 : Int32).toInt ≤ 100000; omega) hd0.1 hd0.2
    have w0 : (own_W g x 0).toInt = 0 := z0
    have w2 : (own_W g x 2).toInt = (own_W g x 1).toInt * 10 + (g (x + 1)).toInt - 48 := own_w (own_W g x 1) (g (x + 1)) (by omega) (by omega) hd1.1 hd1.2
    have w3 : (own_W g x 3).toInt = (own_W g x 2).toInt * 10 + (g (x + 2)).toInt - 48 := own_w (own_W g x 2) (g (x + 2)) (by omega) (by omega) hd2.1 hd2.2
    have t1 := own_tm (0 : Int32) (g x) 100 100 q100 (by omega) (by omega) (by omega) hd0.1 hd0.2
    have t2 := own_tm ((0 : Int32) + (g x - 48) * (100 : Int32)) (g (x + 1)) 10 10 q10 (by omega) (by omega) (by omega) hd1.1 hd1.2
    have t3 := own_tm (((0 : Int32) + (g x - 48) * (100 : Int32)) + (g (x + 1) - 48) * (10 : Int32)) (g (x + 2)) 1 1 q1 (by omega) (by omega) (by omega) hd2.1 hd2.2
    have hf : f4 x (Int32.ofNat 3) g = ((((0 : Int32) + (g x - 48) * (100 : Int32)) + (g (x + 1) - 48) * (10 : Int32)) + (g (x + 2) - 48) * (1 : Int32)) := rfl
    refine ⟨?_, by omega⟩
    rw [hf]
    apply Int32.toInt_inj.mp
    omega
  · have hd0 := hd 0 (by omega)
    rw [e0] at hd0
    have hd1 : 48 ≤ (g (x + 1)).toInt ∧ (g (x + 1)).toInt ≤ 57 := hd 1 (by omega)
    have hd2 : 48 ≤ (g (x + 2)).toInt ∧ (g (x + 2)).toInt ≤ 57 := hd 2 (by omega)
    have hd3 : 48 ≤ (g (x + 3)).toInt ∧ (g (x + 3)).toInt ≤ 57 := hd 3 (by omega)
    have w1 : (own_W g x 1).toInt = (own_W g x 0).toInt * 10 + (g x).toInt - 48 := by
      show ((own_W g x 0 * 10 + g (x + Int32.ofNat 0)) - 48).toInt = _
      rw [e0]
      exact own_w _ _ (by show 0 ≤ (0 : Int32).toInt; omega) (by show (0 : Int32).toInt ≤ 100000; omega) hd0.1 hd0.2
    have w0 : (own_W g x 0).toInt = 0 := z0
    have w2 : (own_W g x 2).toInt = (own_W g x 1).toInt * 10 + (g (x + 1)).toInt - 48 := own_w (own_W g x 1) (g (x + 1)) (by omega) (by omega) hd1.1 hd1.2
    have w3 : (own_W g x 3).toInt = (own_W g x 2).toInt * 10 + (g (x + 2)).toInt - 48 := own_w (own_W g x 2) (g (x + 2)) (by omega) (by omega) hd2.1 hd2.2
    have w4 : (own_W g x 4).toInt = (own_W g x 3).toInt * 10 + (g (x + 3)).toInt - 48 := own_w (own_W g x 3) (g (x + 3)) (by omega) (by omega) hd3.1 hd3.2
    have t1 := own_tm (0 : Int32) (g x) 1000 1000 q1000 (by omega) (by omega) (by omega) hd0.1 hd0.2
    have t2 := own_tm ((0 : Int32) + (g x - 48) * (1000 : Int32)) (g (x + 1)) 100 100 q100 (by omega) (by omega) (by omega) hd1.1 hd1.2
    have t3 := own_tm (((0 : Int32) + (g x - 48) * (1000 : Int32)) + (g (x + 1) - 48) * (100 : Int32)) (g (x + 2)) 10 10 q10 (by omega) (by omega) (by omega) hd2.1 hd2.2
    have t4 := own_tm ((((0 : Int32) + (g x - 48) * (1000 : Int32)) + (g (x + 1) - 48) * (100 : Int32)) + (g (x + 2) - 48) * (10 : Int32)) (g (x + 3)) 1 1 q1 (by omega) (by omega) (by omega) hd3.1 hd3.2
    have hf : f4 x (Int32.ofNat 4) g = (((((0 : Int32) + (g x - 48) * (1000 : Int32)) + (g (x + 1) - 48) * (100 : Int32)) + (g (x + 2) - 48) * (10 : Int32)) + (g (x + 3) - 48) * (1 : Int32)) := rfl
    refine ⟨?_, by omega⟩
    rw [hf]
    apply Int32.toInt_inj.mp
    omega
  · have hd0 := hd 0 (by omega)
    rw [e0] at hd0
    have hd1 : 48 ≤ (g (x + 1)).toInt ∧ (g (x + 1)).toInt ≤ 57 := hd 1 (by omega)
    have hd2 : 48 ≤ (g (x + 2)).toInt ∧ (g (x + 2)).toInt ≤ 57 := hd 2 (by omega)
    have hd3 : 48 ≤ (g (x + 3)).toInt ∧ (g (x + 3)).toInt ≤ 57 := hd 3 (by omega)
    have hd4 : 48 ≤ (g (x + 4)).toInt ∧ (g (x + 4)).toInt ≤ 57 := hd 4 (by omega)
    have w1 : (own_W g x 1).toInt = (own_W g x 0).toInt * 10 + (g x).toInt - 48 := by
      show ((own_W g x 0 * 10 + g (x + Int32.ofNat 0)) - 48).toInt = _
      rw [e0]
      exact own_w _ _ (by show 0 ≤ (0 : Int32).toInt; omega) (by show (0 : Int32).toInt ≤ 100000; omega) hd0.1 hd0.2
    have w0 : (own_W g x 0).toInt = 0 := z0
    have w2 : (own_W g x 2).toInt = (own_W g x 1).toInt * 10 + (g (x + 1)).toInt - 48 := own_w (own_W g x 1) (g (x + 1)) (by omega) (by omega) hd1.1 hd1.2
    have w3 : (own_W g x 3).toInt = (own_W g x 2).toInt * 10 + (g (x + 2)).toInt - 48 := own_w (own_W g x 2) (g (x + 2)) (by omega) (by omega) hd2.1 hd2.2
    have w4 : (own_W g x 4).toInt = (own_W g x 3).toInt * 10 + (g (x + 3)).toInt - 48 := own_w (own_W g x 3) (g (x + 3)) (by omega) (by omega) hd3.1 hd3.2
    have w5 : (own_W g x 5).toInt = (own_W g x 4).toInt * 10 + (g (x + 4)).toInt - 48 := own_w (own_W g x 4) (g (x + 4)) (by omega) (by omega) hd4.1 hd4.2
    have t1 := own_tm (0 : Int32) (g x) 10000 10000 q10000 (by omega) (by omega) (by omega) hd0.1 hd0.2
    have t2 := own_tm ((0 : Int32) + (g x - 48) * (10000 : Int32)) (g (x + 1)) 1000 1000 q1000 (by omega) (by omega) (by omega) hd1.1 hd1.2
    have t3 := own_tm (((0 : Int32) + (g x - 48) * (10000 : Int32)) + (g (x + 1) - 48) * (1000 : Int32)) (g (x + 2)) 100 100 q100 (by omega) (by omega) (by omega) hd2.1 hd2.2
    have t4 := own_tm ((((0 : Int32) + (g x - 48) * (10000 : Int32)) + (g (x + 1) - 48) * (1000 : Int32)) + (g (x + 2) - 48) * (100 : Int32)) (g (x + 3)) 10 10 q10 (by omega) (by omega) (by omega) hd3.1 hd3.2
    have t5 := own_tm (((((0 : Int32) + (g x - 48) * (10000 : Int32)) + (g (x + 1) - 48) * (1000 : Int32)) + (g (x + 2) - 48) * (100 : Int32)) + (g (x + 3) - 48) * (10 : Int32)) (g (x + 4)) 1 1 q1 (by omega) (by omega) (by omega) hd4.1 hd4.2
    have hf : f4 x (Int32.ofNat 5) g = ((((((0 : Int32) + (g x - 48) * (10000 : Int32)) + (g (x + 1) - 48) * (1000 : Int32)) + (g (x + 2) - 48) * (100 : Int32)) + (g (x + 3) - 48) * (10 : Int32)) + (g (x + 4) - 48) * (1 : Int32)) := rfl
    refine ⟨?_, by omega⟩
    rw [hf]
    apply Int32.toInt_inj.mp
    omega
theorem plain (a : Int32) (b : Int64) (c d e : Int32) : f0 a b c d e = 1 := by
  obtain ⟨n, m, hn, h1, h2, en, em⟩ := own_end c ((c.toUInt32 >>> ((3 : Int32) &&& 31).toUInt32).toInt32)
  have em' : f0_u6 c = Int32.ofNat m := em
  have h5 : f3 ((c &&& 7) % 6 + 5) (f0_u6 c) (f0_u5 a b) = 0 := by
    unfold f3
    rw [en, em']
    exact if_neg ((show ∀ k l : Fin 6, ¬ (Int32.ofNat k.val + 5 < Int32.ofNat l.val) from by decide) ⟨n, hn⟩ ⟨m, h2⟩)
  obtain ⟨r, hr, er, hdig, hend⟩ := own_n _ _ _ h5
  have er' : f0_u10 a b c = Int32.ofNat r := er
  have hval := own_val (f0_u5 a b) ((c &&& 7) % 6) r hr (fun i hi => own_dig _ _ _ (hdig i hi))
  obtain ⟨c1, c2⟩ := own_chain (f0_u8 c d) (f0_u9 c e) ((c &&& 7) % 6) (f0_u6 c) (f0_u5 a b) ((c &&& 7) % 6) r (9 - r + 1) hdig
  obtain ⟨x1, x2⟩ := own_exit (f0_u8 c d) (f0_u9 c e) ((c &&& 7) % 6) (f0_u6 c) (f0_u5 a b) (9 - r) (Int32.ofNat r) (own_W (f0_u5 a b) ((c &&& 7) % 6) r) ((c &&& 7) % 6) hend
  rw [show 9 - r + 1 + r = 10 from by omega] at c1 c2
  rw [x1] at c1
  rw [x2] at c2
  have hgot : f0_u14 a b c d e = (if Int32.ofNat r < f0_u8 c d then -1 else if f0_u9 c e < Int32.ofNat r then -1 else own_W (f0_u5 a b) ((c &&& 7) % 6) r) := c1
  have hpos : f8 (f7_F_at_a10 (f0_u8 c d) (f0_u9 c e) ((c &&& 7) % 6) (f0_u6 c) (f0_u5 a b)) = (if Int32.ofNat r < f0_u8 c d then (c &&& 7) % 6 else if f0_u9 c e < Int32.ofNat r then (c &&& 7) % 6 else (c &&& 7) % 6 + Int32.ofNat r) := c2
  have h11 : f0_u11 a b c = own_W (f0_u5 a b) ((c &&& 7) % 6) r := by
    show f4 ((c &&& 7) % 6) (f0_u10 a b c) (f0_u5 a b) = _
    rw [er']; exact hval.1
  unfold f0
  rw [hgot, hpos]
  unfold f0_u13 f0_u12
  rw [er', h11]
  generalize own_W (f0_u5 a b) ((c &&& 7) % 6) r = w at *
  generalize (c &&& 7) % 6 = s at *
  have hw : ¬ w < 0 := fun q => by
    have z0 : (0 : Int32).toInt = 0 := by decide
    have h1 := Int32.lt_iff_toInt_lt.mp q
    have h2 := hval.2
    omega
  by_cases k1 : Int32.ofNat r < f0_u8 c d
  · simp only [if_pos k1]
    rw [if_pos trivial, if_pos (show (-1 : Int32) < 0 from by decide)]
    exact if_pos rfl
  · simp only [if_neg k1]
    by_cases k2 : f0_u9 c e < Int32.ofNat r
    · simp only [if_pos k2]
      rw [if_pos trivial, if_pos (show (-1 : Int32) < 0 from by decide)]
      exact if_pos rfl
    · simp only [if_neg k2]
      rw [if_pos trivial, if_neg hw]
      exact if_pos rfl
set_option maxRecDepth 65536 in
set_option maxHeartbeats 40000000 in
theorem comes_1 {Post : Tables → Env → Array Value → State → Outcome → State → Prop} (hpost : ∀ tb e args s v u, (limb_1_1.after args s (.returned v) u = true ∧ limb_1_2.after args s (.returned v) u = true ∧ True) → FrameEnd s (.returned v) u (Jvm.fieldLocs frame_1_writes args s ++ Jvm.arrayLocs frame_1_arrays args s ++ Jvm.staticLocs frame_1_statics s) 16 128 → Post tb e args s (.returned v) u) :
    ArmFor flags0 classFile x code maxLocals ret World_1 tables_1 room_1 Calls_1 rest_1 Pre_1 Post := by
  intro l hfl _ _ p e ha hc hk s m args below hf hA hF happ hP
  obtain ⟨hcalls, hrest, hpre⟩ := hP
  obtain ⟨-, -, -, hnamed, -, -, -, hat⟩ := (Spec.applies_iff hf).mp happ
  obtain ⟨hg, hn⟩ := and_e (Cond.before_iff.mp (show (Jvm.Cond.and given_1 narrow_1).before args s = true from hpre))
  obtain ⟨gc, g0⟩ := and_e hg
  obtain ⟨gi0, g1⟩ := and_e g0
  obtain ⟨gi1, g2⟩ := and_e g1
  obtain ⟨gi2, g3⟩ := and_e g2
  obtain ⟨gi3, g4⟩ := and_e g3
  have gi4 := g4
  obtain ⟨w0, w1, w2, w3, w4, rfl⟩ : ∃ w0 w1 w2 w3 w4 : Value, args = #[w0, w1, w2, w3, w4] := by
    have hs : args.size = 5 := by simpa [Cond.value, given_1] using gc
    obtain ⟨L⟩ := args
    match L, hs with
    | [w0, w1, w2, w3, w4], _ => exact ⟨w0, w1, w2, w3, w4, rfl⟩
  have hw := fun d (hd : d ∈ tables_1) => atoms_spec (ws := Jvm.Cond.code x code maxLocals ret :: tables_1) hat d (List.mem_cons_of_mem _ hd)
  have hfit : Fit s := fun {y c} hc i hi => by
    obtain ⟨ha, rfl⟩ := Array.getElem?_eq_some_iff.mp hc
    have q := List.all_eq_true.mp ((Array.all_eq_true_iff_forall_mem.mp hF) _ (Array.getElem_mem ha)) i (List.mem_range.mpr hi)
    simpa [Array.getElem?_eq_getElem hi] using q
  obtain ⟨i0, ei0⟩ := is_v gi0
  obtain rfl : w0 = (.int i0) := Option.some.inj ei0
  obtain ⟨i1, ei1⟩ := isL_v gi1
  obtain rfl : w1 = (.long i1) := Option.some.inj ei1
  obtain ⟨i2, ei2⟩ := is_v gi2
  obtain rfl : w2 = (.int i2) := Option.some.inj ei2
  obtain ⟨i3, ei3⟩ := is_v gi3
  obtain rfl : w3 = (.int i3) := Option.some.inj ei3
  obtain ⟨i4, ei4⟩ := is_v gi4
  obtain rfl : w4 = (.int i4) := Option.some.inj ei4
  obtain ⟨n, o, h1, h2, h3, v, L, rfl, ⟨hv, N, -⟩, hq⟩ := rm0 l s _ hw tables_1 i0 i1 i2 i3 i4 s.heap s.heap.size (Nat.le_refl _)  p e ha hc hk s m _ below hf ((Spec.applies_iff_loose hf).mp happ).1 ⟨rfl, State.Warmed39.refl s, rfl⟩ trivial
  rw [plain i0 i1 i2 i3 i4] at hv
  subst hv
  refine ⟨n, _, h1, h2, h3, hpost _ _ _ _ _ _ ⟨Cond.after_iff.mpr rfl, Cond.after_iff.mpr (eq_i res_at (Term.int_eval (1)) rfl), trivial⟩ ⟨hq.1, hq.2.1, (hq.2.2.sift fun y hy => Or.inr (N y hy)).mono (by decide) (by decide)⟩⟩
theorem main_1_1 : Claimed_1_1 := comes_1 fun _ _ _ _ _ _ h hF => ⟨h.1, hF⟩
theorem main_1_2 : Claimed_1_2 := comes_1 fun _ _ _ _ _ _ h hF => ⟨h.2.1, hF⟩
end Jvm.Pilot.@@N@@
namespace Jvm.Pilot.@@N@@
open Jvm Jvm.ClassFile Sem Op Lib Jvm.Free Jvm.Stand Jvm.Pilot.@@N@@.Jvm.D
/-! MADE BY PROGRAM (witnessworld.py) out of the Statement's table words and the real class files: 11 classes; the members and pool entries that the words name. The judged class is class 1, her method 1. -/
namespace start1
open Jvm.ClassFile
def u (s : String) : CpInfo := .utf8 (stringToUtf16 s)
/-- a pool by its gaps: so many unusable entries, then the entry; so many at the end -/
def gap : Nat → List CpInfo → List CpInfo
  | 0, r => r
  | n + 1, r => .unusable :: gap n r
def poolList (es : List (Nat × CpInfo)) (last : Nat) : List CpInfo := es.foldr (fun e r => gap e.1 (e.2 :: r)) (gap last [])
def pool (es : List (Nat × CpInfo)) (last : Nat) : Array CpInfo := ⟨poolList es last⟩
def fileOf (pool : Array CpInfo) (this : Nat) (attrs : Array Attribute := #[]) (ms : Array MethodInfo := #[]) (fl : Nat := 33) (sup : Nat := 0) (ifs : Array Nat := #[]) (fds : Array FieldInfo := #[]) : ClassFile where
  minorVersion := 0
  majorVersion := 65
  constantPool := pool
  accessFlags := fl
  thisClass := this
  superClass := sup
  interfaces := ifs
  fields := fds
  methods := ms
  attributes := attrs
def plain (name : String) (sup : Option ClassId) : Class where
  name := name
  kind := .ordinary
  loader := none
  accessFlags := 33
  super := sup
  interfaces := #[]
  cf := none
  fields := #[]
  methods := #[]
  instanceTypes := #[]
  staticTypes := #[]
  resolved := #[]
  callSites := []
  init := .initialized
  statics := none
  mirror := none

def pool0 : Array CpInfo := pool [(5, u "<init>"), (0, u "()V"), (1, .class_ 10), (1, u "java/lang/Object")] 113

def k0c0 : Code := { maxStack := 0, maxLocals := 1, code := object_method_1_code, exceptionTable := #[], attributes := #[] }
def k0m0 : Method := { name := "<init>", desc := "()V", sig := { parameters := [], returnType := none }, accessFlags := 1, code := some k0c0 }
/-- java/lang/Object -/
def k0 : Class := { plain "java/lang/Object" none with
  accessFlags := 33
  interfaces := #[]
  cf := some (fileOf pool0 8 #[] #[{ accessFlags := 1, nameIndex := 5, descriptorIndex := 6, attributes := #[] }] 33 0 #[] #[])
  fields := #[]
  methods := #[k0m0]
  instanceTypes := #[]
  staticTypes := #[]
  resolved := Array.replicate 124 none
  statics := none }

def pool1 : Array CpInfo := pool [(2, .class_ 4), (1, u "java/lang/Object"), (0, u "<init>"), (0, u "()V"), (0, .methodref 8 9), (0, .class_ 10), (0, .nameAndType 11 12), (0, u "com/example/clapboard/clapboard/parse/TextCursorReadNumberPinLaw"), (0, u "pick"), (0, u "(IJI)C"), (0, .methodref 8 14), (0, .nameAndType 15 16), (0, u "run"), (0, u "([CII)I"), (0, .methodref 8 18), (0, .nameAndType 19 16), (0, u "valueOfRun"), (0, .class_ 21), (0, u "com/example/clapboard/clapboard/parse/TextCursor"), (0, .methodref 20 23), (0, .nameAndType 5 24), (0, u "([CII)V"), (0, .methodref 20 26), (0, .nameAndType 27 28), (0, u "readNumber"), (0, u "(II)I"), (0, .methodref 20 30), (0, .nameAndType 31 32), (0, u "position"), (0, u "()I"), (0, .long 4095), (1, .methodref 8 36), (0, .nameAndType 37 38), (0, u "isD"), (0, u "([CII)Z"), (0, .methodref 8 40), (0, .nameAndType 41 42), (0, u "pow10"), (0, u "(I)I"), (2, u "law"), (0, u "(IJIII)Z")] 5

def k1m0 : Method := { name := "<init>", desc := "()V", sig := { parameters := [], returnType := none }, accessFlags := 2, code := none }
def k1c1 : Code := { maxStack := 6, maxLocals := 18, code := code, exceptionTable := #[], attributes := #[] }
def k1m1 : Method := { name := "law", desc := "(IJIII)Z", sig := { parameters := [.int, .long, .int, .int, .int], returnType := some .boolean }, accessFlags := 9, code := some k1c1 }
def k1c2 : Code := { maxStack := 5, maxLocals := 4, code := method_3_code, exceptionTable := #[], attributes := #[] }
def k1m2 : Method := { name := "pick", desc := "(IJI)C", sig := { parameters := [.int, .long, .int], returnType := some .char }, accessFlags := 10, code := some k1c2 }
def k1c3 : Code := { maxStack := 2, maxLocals := 3, code := method_4_code, exceptionTable := #[], attributes := #[] }
def k1m3 : Method := { name := "isD", desc := "([CII)Z", sig := { parameters := [(.array .char), .int, .int], returnType := some .boolean }, accessFlags := 10, code := some k1c3 }
def k1c4 : Code := { maxStack := 3, maxLocals := 3, code := method_5_code, exceptionTable := #[], attributes := #[] }
def k1m4 : Method := { name := "run", desc := "([CII)I", sig := { parameters := [(.array .char), .int, .int], returnType := some .int }, accessFlags := 10, code := some k1c4 }
def k1c5 : Code := { maxStack := 2, maxLocals := 1, code := method_6_code, exceptionTable := #[], attributes := #[] }
def k1m5 : Method := { name := "pow10", desc := "(I)I", sig := { parameters := [.int], returnType := some .int }, accessFlags := 10, code := some k1c5 }
def k1c6 : Code := { maxStack := 4, maxLocals := 4, code := method_7_code, exceptionTable := #[], attributes := #[] }
def k1m6 : Method := { name := "valueOfRun", desc := "([CII)I", sig := { parameters := [(.array .char), .int, .int], returnType := some .int }, accessFlags := 10, code := some k1c6 }
/-- com/example/clapboard/clapboard/parse/TextCursorReadNumberPinLaw -/
def k1 : Class := { plain "com/example/clapboard/clapboard/parse/TextCursorReadNumberPinLaw" (some 0) with
  accessFlags := 49
  interfaces := #[]
  cf := some (fileOf pool1 8 #[] #[{ accessFlags := 2, nameIndex := 5, descriptorIndex := 6, attributes := #[] }, { accessFlags := 9, nameIndex := 45, descriptorIndex := 46, attributes := #[] }, { accessFlags := 10, nameIndex := 11, descriptorIndex := 12, attributes := #[] }, { accessFlags := 10, nameIndex := 37, descriptorIndex := 38, attributes := #[] }, { accessFlags := 10, nameIndex := 15, descriptorIndex := 16, attributes := #[] }, { accessFlags := 10, nameIndex := 41, descriptorIndex := 42, attributes := #[] }, { accessFlags := 10, nameIndex := 19, descriptorIndex := 16, attributes := #[] }] 49 2 #[] #[])
  fields := #[]
  methods := #[k1m0, k1m1, k1m2, k1m3, k1m4, k1m5, k1m6]
  instanceTypes := #[]
  staticTypes := #[]
  resolved := Array.replicate 52 none
  statics := none }

def pool2 : Array CpInfo := pool [(1, .methodref 2 3), (0, .class_ 4), (0, .nameAndType 5 6), (0, u "java/lang/Object"), (0, u "<init>"), (0, u "()V"), (0, .fieldref 8 9), (0, .class_ 10), (0, .nameAndType 11 12), (0, u "com/example/clapboard/clapboard/parse/TextCursor"), (0, u "text"), (0, u "[C"), (0, .fieldref 8 14), (0, .nameAndType 15 16), (0, u "at"), (0, u "I"), (0, .fieldref 8 18), (0, .nameAndType 19 16), (0, u "end"), (4, u "([CII)V"), (3, u "()I"), (14, u "position"), (9, u "readNumber"), (0, u "(II)I")] 2

def k2c0 : Code := { maxStack := 2, maxLocals := 4, code := prog_127_method_1_code, exceptionTable := #[], attributes := #[] }
def k2m0 : Method := { name := "<init>", desc := "([CII)V", sig := { parameters := [(.array .char), .int, .int], returnType := none }, accessFlags := 0, code := some k2c0 }
def k2c1 : Code := { maxStack := 1, maxLocals := 1, code := prog_127_method_3_code, exceptionTable := #[], attributes := #[] }
def k2m1 : Method := { name := "position", desc := "()I", sig := { parameters := [], returnType := some .int }, accessFlags := 0, code := some k2c1 }
def k2c2 : Code := { maxStack := 4, maxLocals := 5, code := prog_127_method_10_code, exceptionTable := #[], attributes := #[] }
def k2m2 : Method := { name := "readNumber", desc := "(II)I", sig := { parameters := [.int, .int], returnType := some .int }, accessFlags := 0, code := some k2c2 }
/-- com/example/clapboard/clapboard/parse/TextCursor -/
def k2 : Class := { plain "com/example/clapboard/clapboard/parse/TextCursor" (some 0) with
  accessFlags := 48
  interfaces := #[]
  cf := some (fileOf pool2 8 #[] #[{ accessFlags := 0, nameIndex := 5, descriptorIndex := 24, attributes := #[] }, { accessFlags := 0, nameIndex := 43, descriptorIndex := 28, attributes := #[] }, { accessFlags := 0, nameIndex := 53, descriptorIndex := 54, attributes := #[] }] 48 2 #[] #[{ accessFlags := 18, nameIndex := 11, descriptorIndex := 12, attributes := #[] }, { accessFlags := 2, nameIndex := 19, descriptorIndex := 16, attributes := #[] }, { accessFlags := 2, nameIndex := 15, descriptorIndex := 16, attributes := #[] }])
  fields := #[{ name := "text", type := (.array .char), accessFlags := 18, slot := 0, constantValue := 0 }, { name := "end", type := .int, accessFlags := 2, slot := 1, constantValue := 0 }, { name := "at", type := .int, accessFlags := 2, slot := 2, constantValue := 0 }]
  methods := #[k2m0, k2m1, k2m2]
  instanceTypes := #[(.array .char), .int, .int]
  staticTypes := #[]
  resolved := Array.replicate 57 none
  statics := none }

def pool3 : Array CpInfo := pool [(1, u "java/lang/Cloneable"), (0, .class_ 1), (0, u "java/lang/Object"), (0, .class_ 3)] 3

/-- java/lang/Cloneable -/
def k3 : Class := { plain "java/lang/Cloneable" (some 0) with
  accessFlags := 1537
  interfaces := #[]
  cf := some (fileOf pool3 2 #[] #[] 1537 4 #[] #[])
  fields := #[]
  methods := #[]
  instanceTypes := #[]
  staticTypes := #[]
  resolved := Array.replicate 8 none
  statics := none }

def pool4 : Array CpInfo := pool [(1, u "java/io/Serializable"), (0, .class_ 1), (0, u "java/lang/Object"), (0, .class_ 3)] 3

/-- java/io/Serializable -/
def k4 : Class := { plain "java/io/Serializable" (some 0) with
  accessFlags := 1537
  interfaces := #[]
  cf := some (fileOf pool4 2 #[] #[] 1537 4 #[] #[])
  fields := #[]
  methods := #[]
  instanceTypes := #[]
  staticTypes := #[]
  resolved := Array.replicate 8 none
  statics := none }

/-- the primitive byte -/
def k5 : Class := { plain "byte" none with kind := .primitive 'B', accessFlags := 0x411 }
/-- [B -/
def k6 : Class := { plain "[B" (some 0) with kind := .array 5 .byte, interfaces := #[3, 4], accessFlags := 1041 }

/-- the primitive char -/
def k7 : Class := { plain "char" none with kind := .primitive 'C', accessFlags := 0x411 }
/-- [C -/
def k8 : Class := { plain "[C" (some 0) with kind := .array 7 .char, interfaces := #[3, 4], accessFlags := 1041 }

/-- the primitive int -/
def k9 : Class := { plain "int" none with kind := .primitive 'I', accessFlags := 0x411 }
/-- [I -/
def k10 : Class := { plain "[I" (some 0) with kind := .array 9 .int, interfaces := #[3, 4], accessFlags := 1041 }

def heap : Heap := #[]
def classes : Array Class := #[k0, k1, k2, k3, k4, k5, k6, k7, k8, k9, k10]
def interned : List (Array UInt16 × Addr) := []
def slotsUsed : Nat := 0
def theMethod : MethodId := ⟨1, 1⟩
def args0 : Array Value := #[.int 5, .long 6, .int 7, .int 8, .int 9]
def aboutOver (below : List Frame) : State where
  vm := { classes := classes, interned := interned.toArray }
  heap := heap
  slotsUsed := slotsUsed
  threads := #[{ frames := .invoking theMethod args0 :: below }]
def below0 : List Frame := [.native { method := ⟨0, 0⟩, args := #[] }]
def about1 : State := aboutOver below0
def p0 : Program := .bare "" "" ""
def e0 : Env := launch0.env 0 0 0
theorem w_frames : about1.frames = Frame.invoking theMethod args0 :: below0 := rfl
set_option maxRecDepth 65536 in
theorem w_args : argsFit about1.vm theMethod args0 = true := by decide +kernel
set_option maxRecDepth 65536 in
theorem w_heap : heapFits about1 = true := by decide +kernel
set_option maxRecDepth 65536 in
theorem w_runnable : about1.curStatus? = some .runnable := by decide +kernel
set_option maxRecDepth 65536 in
theorem w_alone : about1.alone = true := by decide +kernel
set_option maxRecDepth 65536 in
theorem w_named : about1.methodNamed? x = some theMethod := by decide +kernel
set_option maxRecDepth 65536 in
theorem w_hears : about1.hears theMethod below0 = true := by decide +kernel
set_option maxRecDepth 65536 in
theorem w_ripe : about1.ripe theMethod args0 below0 = true := by decide +kernel
theorem w_running : about1.status = .running := rfl
set_option maxRecDepth 65536 in
theorem w_room : about1.hasRoom e0.platform room_1 = true :=
  launch0.hasRoom_least _ room_1 (by decide +kernel) (by decide +kernel) (by decide +kernel) (by decide +kernel) (by decide +kernel) (by decide +kernel)
theorem allAtoms_all (ts : List Jvm.Cond) (a : Array Jvm.Value) (st : Jvm.State) : (allAtoms ts).before a st = ts.all (fun c => c.before a st) := by
  induction ts with
  | nil => rfl
  | cons c t ih =>
    show (Jvm.Cond.and c (allAtoms t)).before a st = _
    rw [Jvm.Cond.before_and, ih, List.all_cons]
def words1 : List Jvm.Cond := Jvm.Cond.code x code maxLocals ret :: tables_1
/-- a 'code' word, met by the world's own term for the bytes: nothing is compared byte by byte -/
theorem code_word {y : MethodName} {bytes : ByteArray} {mx : Nat} {rt : Option FieldType} {a : Array Value} {s : State} {m : MethodId} {meth : Method} {c : Code} (h1 : s.methodNamed? y = some m) (h2 : s.vm.method? m = some meth) (h3 : meth.code = some c) (h4 : c.code = bytes)
    (h5 : (c.maxLocals == mx && c.exceptionTable.isEmpty && decide (c.maxStack ≤ mostOperands) && decide (meth.sig.returnType = rt) && !meth.locks && decide (parseMethodDescriptor y.desc = some meth.sig)) = true) : (Jvm.Cond.code y bytes mx rt).before a s = true := by
  simp only [Bool.and_eq_true, beq_iff_eq, Bool.not_eq_true', decide_eq_true_eq] at h5
  obtain ⟨⟨⟨⟨⟨g1, g2⟩, g3⟩, g4⟩, g5⟩, g6⟩ := h5
  simp [Cond.before, Cond.holds, Cond.value, h1, h2, h3, h4, g1, g2, g3, g4, g5, g6]
def isCode : Jvm.Cond → Bool
  | .code _ _ _ _ => true
  | _ => false
theorem all_split {L : List Jvm.Cond} {P : Jvm.Cond → Bool} (h1 : L.all (fun c => isCode c || P c) = true) (h2 : ∀ c ∈ L.filter isCode, P c = true) : L.all P = true := by
  refine List.all_eq_true.mpr fun c hc => ?_
  have h := List.all_eq_true.mp h1 c hc
  rcases Bool.eq_false_or_eq_true (isCode c) with hi | hi
  · exact h2 c (List.mem_filter.mpr ⟨hc, hi⟩)
  · simpa [hi] using h
set_option maxRecDepth 65536 in
theorem w_c0 : (Jvm.Cond.code x code maxLocals ret).before args0 about1 = true := code_word (m := ⟨1, 1⟩) (meth := k1m1) (c := k1c1) (by decide +kernel) rfl rfl rfl (by decide +kernel)
set_option maxRecDepth 65536 in
theorem w_c1 : (Jvm.Cond.code ({ cls := "com/example/clapboard/clapboard/parse/TextCursorReadNumberPinLaw", name := "pick", desc := "(IJI)C" } : Jvm.MethodName) method_3_code (4 : Nat) (Option.some Jvm.ClassFile.FieldType.char)).before args0 about1 = true := code_word (m := ⟨1, 2⟩) (meth := k1m2) (c := k1c2) (by decide +kernel) rfl rfl rfl (by decide +kernel)
set_option maxRecDepth 65536 in
theorem w_c2 : (Jvm.Cond.code ({ cls := "com/example/clapboard/clapboard/parse/TextCursorReadNumberPinLaw", name := "run", desc := "([CII)I" } : Jvm.MethodName) method_5_code (3 : Nat) (Option.some Jvm.ClassFile.FieldType.int)).before args0 about1 = true := code_word (m := ⟨1, 4⟩) (meth := k1m4) (c := k1c4) (by decide +kernel) rfl rfl rfl (by decide +kernel)
set_option maxRecDepth 65536 in
theorem w_c3 : (Jvm.Cond.code ({ cls := "com/example/clapboard/clapboard/parse/TextCursorReadNumberPinLaw", name := "isD", desc := "([CII)Z" } : Jvm.MethodName) method_4_code (3 : Nat) (Option.some Jvm.ClassFile.FieldType.boolean)).before args0 about1 = true := code_word (m := ⟨1, 3⟩) (meth := k1m3) (c := k1c3) (by decide +kernel) rfl rfl rfl (by decide +kernel)
set_option maxRecDepth 65536 in
theorem w_c4 : (Jvm.Cond.code ({ cls := "com/example/clapboard/clapboard/parse/TextCursorReadNumberPinLaw", name := "valueOfRun", desc := "([CII)I" } : Jvm.MethodName) method_7_code (4 : Nat) (Option.some Jvm.ClassFile.FieldType.int)).before args0 about1 = true := code_word (m := ⟨1, 6⟩) (meth := k1m6) (c := k1c6) (by decide +kernel) rfl rfl rfl (by decide +kernel)
set_option maxRecDepth 65536 in
theorem w_c5 : (Jvm.Cond.code ({ cls := "com/example/clapboard/clapboard/parse/TextCursor", name := "<init>", desc := "([CII)V" } : Jvm.MethodName) prog_127_method_1_code (4 : Nat) (Option.none : Option Jvm.ClassFile.FieldType)).before args0 about1 = true := code_word (m := ⟨2, 0⟩) (meth := k2m0) (c := k2c0) (by decide +kernel) rfl rfl rfl (by decide +kernel)
set_option maxRecDepth 65536 in
theorem w_c6 : (Jvm.Cond.code ({ cls := "java/lang/Object", name := "<init>", desc := "()V" } : Jvm.MethodName) object_method_1_code (1 : Nat) (Option.none : Option Jvm.ClassFile.FieldType)).before args0 about1 = true := code_word (m := ⟨0, 0⟩) (meth := k0m0) (c := k0c0) (by decide +kernel) rfl rfl rfl (by decide +kernel)
set_option maxRecDepth 65536 in
theorem w_c7 : (Jvm.Cond.code ({ cls := "com/example/clapboard/clapboard/parse/TextCursor", name := "readNumber", desc := "(II)I" } : Jvm.MethodName) prog_127_method_10_code (5 : Nat) (Option.some Jvm.ClassFile.FieldType.int)).before args0 about1 = true := code_word (m := ⟨2, 2⟩) (meth := k2m2) (c := k2c2) (by decide +kernel) rfl rfl rfl (by decide +kernel)
set_option maxRecDepth 65536 in
theorem w_c8 : (Jvm.Cond.code ({ cls := "com/example/clapboard/clapboard/parse/TextCursor", name := "position", desc := "()I" } : Jvm.MethodName) prog_127_method_3_code (1 : Nat) (Option.some Jvm.ClassFile.FieldType.int)).before args0 about1 = true := code_word (m := ⟨2, 1⟩) (meth := k2m1) (c := k2c1) (by decide +kernel) rfl rfl rfl (by decide +kernel)
set_option maxRecDepth 65536 in
theorem w_c9 : (Jvm.Cond.code ({ cls := "com/example/clapboard/clapboard/parse/TextCursorReadNumberPinLaw", name := "pow10", desc := "(I)I" } : Jvm.MethodName) method_6_code (1 : Nat) (Option.some Jvm.ClassFile.FieldType.int)).before args0 about1 = true := code_word (m := ⟨1, 5⟩) (meth := k1m5) (c := k1c5) (by decide +kernel) rfl rfl rfl (by decide +kernel)
def codes1 : List Jvm.Cond := [Jvm.Cond.code x code maxLocals ret, Jvm.Cond.code ({ cls := "com/example/clapboard/clapboard/parse/TextCursorReadNumberPinLaw", name := "pick", desc := "(IJI)C" } : Jvm.MethodName) method_3_code (4 : Nat) (Option.some Jvm.ClassFile.FieldType.char), Jvm.Cond.code ({ cls := "com/example/clapboard/clapboard/parse/TextCursorReadNumberPinLaw", name := "run", desc := "([CII)I" } : Jvm.MethodName) method_5_code (3 : Nat) (Option.some Jvm.ClassFile.FieldType.int), Jvm.Cond.code ({ cls := "com/example/clapboard/clapboard/parse/TextCursorReadNumberPinLaw", name := "isD", desc := "([CII)Z" } : Jvm.MethodName) method_4_code (3 : Nat) (Option.some Jvm.ClassFile.FieldType.boolean), Jvm.Cond.code ({ cls := "com/example/clapboard/clapboard/parse/TextCursorReadNumberPinLaw", name := "valueOfRun", desc := "([CII)I" } : Jvm.MethodName) method_7_code (4 : Nat) (Option.some Jvm.ClassFile.FieldType.int), Jvm.Cond.code ({ cls := "com/example/clapboard/clapboard/parse/TextCursor", name := "<init>", desc := "([CII)V" } : Jvm.MethodName) prog_127_method_1_code (4 : Nat) (Option.none : Option Jvm.ClassFile.FieldType), Jvm.Cond.code ({ cls := "java/lang/Object", name := "<init>", desc := "()V" } : Jvm.MethodName) object_method_1_code (1 : Nat) (Option.none : Option Jvm.ClassFile.FieldType), Jvm.Cond.code ({ cls := "com/example/clapboard/clapboard/parse/TextCursor", name := "readNumber", desc := "(II)I" } : Jvm.MethodName) prog_127_method_10_code (5 : Nat) (Option.some Jvm.ClassFile.FieldType.int), Jvm.Cond.code ({ cls := "com/example/clapboard/clapboard/parse/TextCursor", name := "position", desc := "()I" } : Jvm.MethodName) prog_127_method_3_code (1 : Nat) (Option.some Jvm.ClassFile.FieldType.int), Jvm.Cond.code ({ cls := "com/example/clapboard/clapboard/parse/TextCursorReadNumberPinLaw", name := "pow10", desc := "(I)I" } : Jvm.MethodName) method_6_code (1 : Nat) (Option.some Jvm.ClassFile.FieldType.int)]
set_option maxRecDepth 65536 in
theorem codes_eq : words1.filter isCode = codes1 := rfl
theorem w_codes : ∀ c ∈ words1.filter isCode, c.before args0 about1 = true := by
  rw [codes_eq]
  intro c hc
  simp only [codes1, List.mem_cons, List.not_mem_nil, or_false] at hc
  rcases hc with rfl | rfl | rfl | rfl | rfl | rfl | rfl | rfl | rfl | rfl
  · exact w_c0
  · exact w_c1
  · exact w_c2
  · exact w_c3
  · exact w_c4
  · exact w_c5
  · exact w_c6
  · exact w_c7
  · exact w_c8
  · exact w_c9
set_option maxRecDepth 65536 in
theorem w_t1 : (words1.take 24).all (fun c => isCode c || c.before args0 about1) = true := by decide +kernel
set_option maxRecDepth 65536 in
theorem w_t2 : (words1.drop 24).all (fun c => isCode c || c.before args0 about1) = true := by decide +kernel
theorem w_tables : (allAtoms (Jvm.Cond.code x code maxLocals ret :: tables_1)).before args0 about1 = true := by
  rw [allAtoms_all]
  show words1.all (fun c => c.before args0 about1) = true
  refine all_split ?_ w_codes
  rw [← List.take_append_drop 24 words1, List.all_append, w_t1, w_t2]
  rfl
set_option maxRecDepth 65536 in
theorem w_case : (Jvm.Cond.and given_1 narrow_1).before args0 about1 = true := by decide +kernel
theorem w_applies : (headSpec (Jvm.Cond.code x code maxLocals ret :: tables_1) room_1).applies x e0.platform about1 = true :=
  (Spec.applies_iff w_frames).mpr ⟨w_running, w_runnable, w_alone, w_named, w_hears, w_ripe, w_room, w_tables⟩
theorem atStart : AtStart classFile x code maxLocals ret World_1 tables_1 room_1 Calls_1 rest_1 Pre_1 launch0 p0 e0 about1 theMethod args0 below0 :=
  ⟨lists_1, trivial, launch0.admits_env _ _ _, launch0.least_env, fairChoices_fair.cas, fairChoices_fair.clock, w_frames, w_args, w_heap, w_applies, trivial, trivial, w_case⟩
end start1
theorem witness_1 : WitnessClaimed_1 := ⟨start1.p0, start1.e0, start1.about1, start1.theMethod, start1.args0, start1.below0, start1.atStart⟩
end Jvm.Pilot.@@N@@
