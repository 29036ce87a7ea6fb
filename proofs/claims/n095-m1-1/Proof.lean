import JvmDerived
import JvmDerived.Pilot.@@N@@Statement
import JvmDerived.Pilot.@@N@@Code
set_option linter.unusedVariables false
set_option linter.unusedSimpArgs false
namespace Jvm.RoadKit
open Sem ClassFile Op Lib Jvm.Stand Jvm.Free Jvm.LawKit
section New
variable {p : Program} {l : Launch} {e : Env} {R : Room} {s : State} {m : MethodId} {args : Array Value} {below : List Frame} {meth : Method} {c : Code} {T : State} {locs : List Loc} {cells slots : Nat}
theorem retI (X : Stand p l e R s m args below meth c T locs cells slots) (hx : p.tables.exec = Jvm.exec) {pc : Nat} {Ls : Array Slot} {z : Int32} {rest : List Value} (hret : meth.sig.returnType = some .int) (hd : decode c.code pc = .ok (.ireturn, 1)) {fs : List Frame}
    (hl : ∀ (f : JFrame) (acts : List Action), f.method = m → f.locked = none → f.entered = [] → (doReturn e (T.setTop f) acts (some (.int z))).1 = T.setFrames fs) : Steps p.tables e below (T.setTop (mkF m pc Ls (.int z :: rest))) (T.setFrames fs) := by
  have hm' : T.vm.method? m = some meth := X.method'
  have hn : narrow .int (.int z) = .int z := rfl
  show Steps p.tables e below (T.setTop { method := m, pc := pc, locals := Ls, stack := _ :: rest, locked := none }) _
  jvm_step X.here [X.here.top, hx, hd, hm', hret, hn]
  first | (intro acts; rw [hl _ acts rfl rfl rfl]) | rw [hl _ _ rfl rfl rfl]
  exact Steps.refl _
theorem Arr.at_ {Z : State} {h : Heap} {a : Addr} {cl : Cell} {ty : FieldType} (A : Arr Z h a cl ty) {U : State} (q : U.heap = h) : U.heap[a]? = some cl := by rw [q]; exact A.1
end New
end Jvm.RoadKit
namespace Jvm.Pilot.@@N@@
open Jvm Jvm.ClassFile Sem Op Lib Jvm.Free Jvm.Stand Jvm.LawKit Jvm.RoadKit Bundle Jvm.Pilot.@@N@@.Jvm.D
theorem own_eqI {args : Array Value} {first s : State} {o : Option Outcome} {idx : List Nat} {t : Term} {n : Int32} (h : (Jvm.Cond.eq t (.int n)).value args first o s idx = some true) : t.eval args first o idx s = some (.int n) := by
  cases ht : t.eval args first o idx s with
  | none => simp [Jvm.Cond.value, Term.eval, ht] at h
  | some x => cases x <;> simp [Jvm.Cond.value, Term.eval, ht] at h ⊢; exact h
theorem own_eqL {args : Array Value} {first s : State} {o : Option Outcome} {idx : List Nat} {t : Term} {n : Int64} (h : (Jvm.Cond.eq t (.long n)).value args first o s idx = some true) : t.eval args first o idx s = some (.long n) := by
  cases ht : t.eval args first o idx s with
  | none => simp [Jvm.Cond.value, Term.eval, ht] at h
  | some x => cases x <;> simp [Jvm.Cond.value, Term.eval, ht] at h ⊢; exact h
theorem own_fld {args : Array Value} {Z : State} {t : Term} {a : Addr} {C n d : String} {v : Value} (ht : t.eval args Z none [] Z = some (.ref a)) (h : (Term.field t C n d).eval args Z none [] Z = some v) : Fld Z Z.heap a C n d v := Fld.start ((fld_at ht).symm.trans h)
theorem own_exa {args : Array Value} {Z : State} {t : Term} {C : String} (h : (Jvm.Cond.exactly t C).value args Z none Z [] = some true) : ∃ a, t.eval args Z none [] Z = some (.ref a) ∧ Exa Z Z.heap a C := by
  obtain ⟨a, e⟩ := exa_v h
  exact ⟨a, e, Exa.start e h⟩
def ArZ (Z : State) (h : Heap) (a : Addr) (ty : FieldType) (n : Int32) : Prop := ∃ c : Cell, Arr Z h a c ty ∧ c.slots.size = n.toNatClampNeg ∧ ¬ n < 0 ∧ True
theorem ArZ.lt {Z : State} {h : Heap} {a : Addr} {ty : FieldType} {n : Int32} (F : ArZ Z h a ty n) : a < h.size := by obtain ⟨c, A, -⟩ := F; exact A.lt
theorem ArZ.ext {Z : State} {h h' : Heap} {a : Addr} {ty : FieldType} {n : Int32} (F : ArZ Z h a ty n) (E : Ext h h') : ArZ Z h' a ty n := by obtain ⟨c, A, r⟩ := F; exact ⟨c, A.ext E, r⟩
theorem ArZ.other {Z : State} {h h' : Heap} {a b : Addr} {ty : FieldType} {n : Int32} {sl : Nat} {v : Value} (F : ArZ Z h b ty n) (W : Wr h h' a sl v) (q : b ≠ a) : ArZ Z h' b ty n := by obtain ⟨c, A, r⟩ := F; exact ⟨c, A.other W q, r⟩
theorem ArZ.keep {Z : State} {h h' : Heap} {a : Addr} {ty : FieldType} {n : Int32} {ws : List Addr} (F : ArZ Z h a ty n) (K : Keep h h' ws) (q : a ∉ ws) : ArZ Z h' a ty n := by obtain ⟨c, A, r⟩ := F; exact ⟨c, ⟨K.2.1 a c A.1 q, A.2⟩, r⟩
theorem ArZ.of {Z : State} {h : Heap} {a : Addr} {k : ClassId} {ty : FieldType} {n : Int32} {vs : List Value} {dv : Value} (F : Arv Z h a k ty n vs dv) : ArZ Z h a ty n := by obtain ⟨c, A, -, r1, r2, -⟩ := F; exact ⟨c, A, r1, r2, trivial⟩
theorem ArZ.set {Z : State} {h h' : Heap} {a : Addr} {c : Cell} {ty : FieldType} {n : Int32} {sl : Nat} {v : Value} (A : Arr Z h a c ty) (S : c.slots.size = n.toNatClampNeg) (N : ¬ n < 0) (W : Wr h h' a sl v) : ArZ Z h' a ty n := ⟨_, A.same W, by simp [Cell.setSlot, S], N, trivial⟩
def maxJ (x y : Int64) : Int64 := if lcmpW x y < (0 : Int32) then y else x
def absJ (x : Int64) : Int64 := if lcmpW x (0 : Int64) < (0 : Int32) then (-x) else x
def clampJ (x : Int64) : Int64 := if lcmpW x (0 : Int64) < (0 : Int32) then (0 : Int64) else x
def Fits (z : Int) : Prop := -9223372036854775808 ≤ z ∧ z ≤ 9223372036854775807
def DurOf (s : Int64) (n : Int32) (q : Int64) : Prop := 0 ≤ n.toInt ∧ n.toInt < 1000000000 ∧ s.toInt * 1000000000 + n.toInt = q.toInt
theorem dur_one : DurOf (1 : Int64) (0 : Int32) (1000000000 : Int64) := by unfold DurOf; decide
theorem own_laddI {x y : Int64} (h : Fits (x.toInt + y.toInt)) : (x + y).toInt = x.toInt + y.toInt := by
  have := c_ladd x y; have := rng64 (x + y); unfold Fits at h; omega
theorem own_lsubI {x y : Int64} (h : Fits (x.toInt - y.toInt)) : (x - y).toInt = x.toInt - y.toInt := by
  have := c_lsub x y; have := rng64 (x - y); unfold Fits at h; omega
theorem own_mulI {x : Int64} (h : Fits (x.toInt * 1000000000)) : (x * (1000000000 : Int64)).toInt = x.toInt * 1000000000 := by
  have q := c_lmul x (1000000000 : Int64); have := rng64 (x * (1000000000 : Int64)); unfold Fits at h
  have e : (1000000000 : Int64).toInt = 1000000000 := by decide
  rw [e] at q; omega
theorem own_div {q d : Int64} (h : 0 < d.toInt) : (q / d).toInt = q.toInt.tdiv d.toInt := by
  rw [Int64.toInt_div]
  have h1 := rng64 q
  have h2 : (q.toInt.tdiv d.toInt).natAbs ≤ q.toInt.natAbs := by rw [Int.natAbs_tdiv]; exact Nat.div_le_self _ _
  by_cases h3 : q.toInt.tdiv d.toInt = 9223372036854775808
  · have h4 : q.toInt.natAbs = 9223372036854775808 := by omega
    have h5 : q.toInt = -9223372036854775808 := by omega
    rw [h5] at h3
    have : (-9223372036854775808 : Int).tdiv d.toInt ≤ 0 := by rw [Int.neg_tdiv]; have := Int.tdiv_nonneg (a := 9223372036854775808) (b := d.toInt) (by omega) (by omega); omega
    omega
  · rw [Int.bmod_eq_of_le] <;> omega
theorem own_add {x y : Int64} (h : Fits (x.toInt + y.toInt)) : ¬ ((lcmpW ((x ^^^ (x + y)) &&& (y ^^^ (x + y))) (0 : Int64)) < (0 : Int32)) := by
  rw [lw_lt]
  have e := own_laddI h
  have a1 := c_xorSL x (x + y); have a2 := c_xorSL y (x + y); have a3 := c_andSL (x ^^^ (x + y)) (y ^^^ (x + y))
  simp only [Int64.lt_iff_toInt_lt, show (0 : Int64).toInt = 0 from rfl]
  obtain ⟨b1, b2, b3, b4⟩ := a1; obtain ⟨c1, c2, c3, c4⟩ := a2; obtain ⟨d1, d2, d3⟩ := a3
  omega
theorem own_mul {x : Int64} (h : Fits (x.toInt * 1000000000)) : (lcmpW ((x * (1000000000 : Int64)) / (1000000000 : Int64)) x) = (0 : Int32) := by
  rw [lw_eq]
  apply Int64.toInt_inj.mp
  rw [own_div (by decide), own_mulI h, show (1000000000 : Int64).toInt = 1000000000 from by decide, Int.mul_tdiv_cancel _ (by decide)]
theorem own_min {x : Int64} (h : Fits (x.toInt * 1000000000)) : ¬ ((lcmpW x (-9223372036854775808 : Int64)) = (0 : Int32)) := by
  rw [lw_eq]
  intro e
  rw [e, show (-9223372036854775808 : Int64).toInt = -9223372036854775808 from by decide] at h
  unfold Fits at h; omega
theorem own_i2l (n : Int32) : n.toInt64.toInt = n.toInt := Int32.toInt_toInt64 n
theorem own_ge {x : Int64} (h : ¬ ((lcmpW x (0 : Int64)) < (0 : Int32))) : 0 ≤ x.toInt := by
  rw [lw_lt, Int64.lt_iff_toInt_lt] at h; have : (0 : Int64).toInt = 0 := rfl; omega
theorem own_lt {x : Int64} (h : (lcmpW x (0 : Int64)) < (0 : Int32)) : x.toInt < 0 := by
  rw [lw_lt, Int64.lt_iff_toInt_lt] at h; have : (0 : Int64).toInt = 0 := rfl; omega
theorem tn_1 {s : Int64} {n : Int32} {q : Int64} (d : DurOf s n q) (h : ¬ ((lcmpW s (0 : Int64)) < (0 : Int32))) : Fits (s.toInt * 1000000000) := by
  have := own_ge h; obtain ⟨d1, d2, d3⟩ := d; have := rng64 q; unfold Fits; omega
theorem tn_2 {s : Int64} {n : Int32} {q : Int64} (d : DurOf s n q) (h : ¬ ((lcmpW s (0 : Int64)) < (0 : Int32))) : Fits ((s * (1000000000 : Int64)).toInt + n.toInt64.toInt) := by
  rw [own_mulI (tn_1 d h), own_i2l]; have := own_ge h; obtain ⟨d1, d2, d3⟩ := d; have := rng64 q; unfold Fits; omega
theorem tn_3 {s : Int64} {n : Int32} {q : Int64} (d : DurOf s n q) (h : ¬ ((lcmpW s (0 : Int64)) < (0 : Int32))) : (s * (1000000000 : Int64)) + (n.toInt64) = q := by
  apply Int64.toInt_inj.mp; rw [own_laddI (tn_2 d h), own_mulI (tn_1 d h), own_i2l]; exact d.2.2
theorem tn_s {s : Int64} {n : Int32} {q : Int64} (d : DurOf s n q) (h : (lcmpW s (0 : Int64)) < (0 : Int32)) : (s + (1 : Int64)).toInt = s.toInt + 1 := by
  have := own_lt h; have := rng64 s; exact own_laddI (by unfold Fits; have : (1 : Int64).toInt = 1 := rfl; omega)
theorem tn_n {n : Int32} : (n.toInt64 - (1000000000 : Int64)).toInt = n.toInt - 1000000000 := by
  have := rng32 n; rw [own_lsubI, own_i2l] <;> (try unfold Fits) <;> have e : (1000000000 : Int64).toInt = 1000000000 := by decide
  · rw [e]
  · rw [own_i2l, e]; omega
theorem tn_4 {s : Int64} {n : Int32} {q : Int64} (d : DurOf s n q) (h : (lcmpW s (0 : Int64)) < (0 : Int32)) : Fits ((s + (1 : Int64)).toInt * 1000000000) := by
  rw [tn_s d h]; have := own_lt h; obtain ⟨d1, d2, d3⟩ := d; have := rng64 q; unfold Fits; omega
theorem tn_5 {s : Int64} {n : Int32} {q : Int64} (d : DurOf s n q) (h : (lcmpW s (0 : Int64)) < (0 : Int32)) : Fits (((s + (1 : Int64)) * (1000000000 : Int64)).toInt + (n.toInt64 - (1000000000 : Int64)).toInt) := by
  rw [own_mulI (tn_4 d h), tn_n, tn_s d h]; have := own_lt h; obtain ⟨d1, d2, d3⟩ := d; have := rng64 q; unfold Fits; omega
theorem tn_6 {s : Int64} {n : Int32} {q : Int64} (d : DurOf s n q) (h : (lcmpW s (0 : Int64)) < (0 : Int32)) : ((s + (1 : Int64)) * (1000000000 : Int64)) + (n.toInt64 - (1000000000 : Int64)) = q := by
  apply Int64.toInt_inj.mp; rw [own_laddI (tn_5 d h), own_mulI (tn_4 d h), tn_n, tn_s d h]; have := d.2.2; omega
theorem own_or0 {s : Int64} {n : Int32} (h : (lcmpW (s ||| (n.toInt64)) (0 : Int64)) = (0 : Int32)) : s = 0 ∧ n = 0 := by
  rw [lw_eq] at h
  have h' : s.toBitVec ||| n.toInt64.toBitVec = 0#64 := by rw [← Int64.toBitVec_or, h]; rfl
  rw [BitVec.or_eq_zero_iff] at h'
  refine ⟨Int64.toBitVec_inj.mp (h'.1.trans rfl), Int32.toInt_inj.mp ?_⟩
  have e : n.toInt64 = 0 := Int64.toBitVec_inj.mp (h'.2.trans rfl)
  rw [← own_i2l, e]; rfl
theorem own_rem (q : Int64) : (q - q / (1000000000 : Int64) * (1000000000 : Int64)).toInt = q.toInt.tmod 1000000000 := by
  rw [lrem_mod, Int64.toInt_mod, show (1000000000 : Int64).toInt = 1000000000 from by decide]
theorem own_remI (q : Int64) : ((q - q / (1000000000 : Int64) * (1000000000 : Int64)).toInt32).toInt = q.toInt.tmod 1000000000 := by
  have h1 := Int.tmod_lt_of_pos q.toInt (show (0 : Int) < 1000000000 by decide); have h2 := Int.lt_tmod_of_pos q.toInt (show (0 : Int) < 1000000000 by decide)
  rw [Int64.toInt_toInt32, own_rem, Int.bmod_eq_of_le] <;> omega
theorem own_divG (q : Int64) : (q / (1000000000 : Int64)).toInt = q.toInt.tdiv 1000000000 := by rw [own_div (by decide)]; rfl
theorem of_1 {q : Int64} (h : ¬ (((q - q / (1000000000 : Int64) * (1000000000 : Int64)).toInt32) < (0 : Int32))) : DurOf (q / (1000000000 : Int64)) ((q - q / (1000000000 : Int64) * (1000000000 : Int64)).toInt32) q := by
  rw [Int32.lt_iff_toInt_lt, own_remI] at h
  have := Int.tmod_lt_of_pos q.toInt (show (0 : Int) < 1000000000 by decide); have e := Int.tdiv_mul_add_tmod q.toInt 1000000000
  have z : (0 : Int32).toInt = 0 := rfl
  unfold DurOf; rw [own_remI, own_divG]; omega
theorem of_2 {q : Int64} (h : ((q - q / (1000000000 : Int64) * (1000000000 : Int64)).toInt32) < (0 : Int32)) : DurOf ((q / (1000000000 : Int64)) - (1 : Int64)) (((q - q / (1000000000 : Int64) * (1000000000 : Int64)).toInt32) + (1000000000 : Int32)) q := by
  rw [Int32.lt_iff_toInt_lt, own_remI] at h
  have h2 := Int.lt_tmod_of_pos q.toInt (show (0 : Int) < 1000000000 by decide); have e := Int.tdiv_mul_add_tmod q.toInt 1000000000
  have z : (0 : Int32).toInt = 0 := rfl
  have z1 : (1000000000 : Int32).toInt = 1000000000 := by decide
  have a1 := c_iadd ((q - q / (1000000000 : Int64) * (1000000000 : Int64)).toInt32) (1000000000 : Int32)
  have a2 := rng32 (((q - q / (1000000000 : Int64) * (1000000000 : Int64)).toInt32) + (1000000000 : Int32))
  rw [own_remI, z1] at a1
  have b : ((q / (1000000000 : Int64)) - (1 : Int64)).toInt = q.toInt.tdiv 1000000000 - 1 := by
    have := rng64 q; rw [own_lsubI, own_divG]; · rfl
    · unfold Fits; rw [own_divG]; have : (1 : Int64).toInt = 1 := rfl; omega
  unfold DurOf; rw [b]; omega
theorem own_and3 (k : Int32) : (k &&& (3 : Int32)) = 0 ∨ (k &&& (3 : Int32)) = 1 ∨ (k &&& (3 : Int32)) = 2 ∨ (k &&& (3 : Int32)) = 3 := by
  have h : (k &&& (3 : Int32)).toBitVec.toNat ≤ 3 := by rw [Int32.toBitVec_and, BitVec.toNat_and]; exact Nat.and_le_right
  generalize (k &&& (3 : Int32)) = z at h
  have g : z.toBitVec.toNat = 0 ∨ z.toBitVec.toNat = 1 ∨ z.toBitVec.toNat = 2 ∨ z.toBitVec.toNat = 3 := by omega
  rcases g with g | g | g | g
  · exact Or.inl (Int32.toBitVec_inj.mp (BitVec.eq_of_toNat_eq g))
  · exact Or.inr (Or.inl (Int32.toBitVec_inj.mp (BitVec.eq_of_toNat_eq g)))
  · exact Or.inr (Or.inr (Or.inl (Int32.toBitVec_inj.mp (BitVec.eq_of_toNat_eq g))))
  · exact Or.inr (Or.inr (Or.inr (Int32.toBitVec_inj.mp (BitVec.eq_of_toNat_eq g))))
theorem own_mc (x : Int64) : maxJ (0 : Int64) x = clampJ x := by
  unfold maxJ clampJ
  have z : (0 : Int64).toInt = 0 := rfl
  split <;> rename_i h1 <;> split <;> rename_i h2 <;> rw [lw_lt, Int64.lt_iff_toInt_lt] at h1 h2 <;> first | rfl | (exfalso; omega) | (apply Int64.toInt_inj.mp; omega)
theorem own_z (x : Int64) : (0 : Int64) + x = x := Int64.zero_add x
theorem mx_a {m : Int64} (h : ¬ ((lcmpW m (1000000 : Int64)) < (0 : Int32))) : maxJ (1000000 : Int64) m = m := by
  unfold maxJ
  split
  · rfl
  · rename_i h1; rw [lw_lt, Int64.lt_iff_toInt_lt] at h h1; apply Int64.toInt_inj.mp; omega
theorem mx_b {m : Int64} (h : (lcmpW m (1000000 : Int64)) < (0 : Int32)) : maxJ (1000000 : Int64) m = (1000000 : Int64) := by
  unfold maxJ
  split
  · rename_i h1; rw [lw_lt, Int64.lt_iff_toInt_lt] at h h1; omega
  · rfl
theorem fin_a1 {x d : Int64} (h : ¬ ((lcmpW ((clampJ x) / d) (1000000 : Int64)) < (0 : Int32))) : (maxJ (1000000 : Int64) (((0 : Int64) + (maxJ (0 : Int64) x)) / d)) = ((clampJ x) / d) := by rw [own_z, own_mc]; exact mx_a h
theorem fin_b1 {x d : Int64} (h : (lcmpW ((clampJ x) / d) (1000000 : Int64)) < (0 : Int32)) : (maxJ (1000000 : Int64) (((0 : Int64) + (maxJ (0 : Int64) x)) / d)) = (1000000 : Int64) := by rw [own_z, own_mc]; exact mx_b h
theorem fin_a2 {x y d : Int64} (h : ¬ ((lcmpW (((clampJ x) + (clampJ y)) / d) (1000000 : Int64)) < (0 : Int32))) : (maxJ (1000000 : Int64) ((((0 : Int64) + (maxJ (0 : Int64) x)) + (maxJ (0 : Int64) y)) / d)) = (((clampJ x) + (clampJ y)) / d) := by rw [own_z, own_mc, own_mc]; exact mx_a h
theorem fin_b2 {x y d : Int64} (h : (lcmpW (((clampJ x) + (clampJ y)) / d) (1000000 : Int64)) < (0 : Int32)) : (maxJ (1000000 : Int64) ((((0 : Int64) + (maxJ (0 : Int64) x)) + (maxJ (0 : Int64) y)) / d)) = (1000000 : Int64) := by rw [own_z, own_mc, own_mc]; exact mx_b h
theorem fin_a3 {x y w d : Int64} (h : ¬ ((lcmpW ((((clampJ x) + (clampJ y)) + (clampJ w)) / d) (1000000 : Int64)) < (0 : Int32))) : (maxJ (1000000 : Int64) (((((0 : Int64) + (maxJ (0 : Int64) x)) + (maxJ (0 : Int64) y)) + (maxJ (0 : Int64) w)) / d)) = ((((clampJ x) + (clampJ y)) + (clampJ w)) / d) := by rw [own_z, own_mc, own_mc, own_mc]; exact mx_a h
theorem fin_b3 {x y w d : Int64} (h : (lcmpW ((((clampJ x) + (clampJ y)) + (clampJ w)) / d) (1000000 : Int64)) < (0 : Int32)) : (maxJ (1000000 : Int64) (((((0 : Int64) + (maxJ (0 : Int64) x)) + (maxJ (0 : Int64) y)) + (maxJ (0 : Int64) w)) / d)) = (1000000 : Int64) := by rw [own_z, own_mc, own_mc, own_mc]; exact mx_b h

def Q_maxR (Z : State) (x : Int64) (y : Int64) (h0 : Heap) (n0 : Nat) (v : Option Value) (h : Heap) (L : List Loc) : Prop := v = some (.long (maxJ x y)) ∧ Fr n0 L ∧ h = h0
theorem d1_0 : decode jdk_29_method_66_code 0 = .ok (.lload_n 0, 1) := by decide +kernel
theorem d1_1 : decode jdk_29_method_66_code 1 = .ok (.lload_n 2, 1) := by decide +kernel
theorem d1_2 : decode jdk_29_method_66_code 2 = .ok (.lcmp, 1) := by decide +kernel
theorem d1_3 : decode jdk_29_method_66_code 3 = .ok (.ifCond .lt 7, 3) := by decide +kernel
theorem d1_10 : decode jdk_29_method_66_code 10 = .ok (.lload_n 2, 1) := by decide +kernel
theorem d1_11 : decode jdk_29_method_66_code 11 = .ok (.lreturn, 1) := by decide +kernel
theorem ef_1_JJ (m : MethodId) (x0 : Int64) (x1 : Int64) : entryFrame m #[(.long x0), (.long x1)] 4 = mkF m 0 #[.val (.long x0), .second, .val (.long x1), .second] [] := by first | (simp [entryFrame, mkF, argsToLocals, Value.category]; done) | rfl
set_option maxRecDepth 65536 in
set_option maxHeartbeats 40000000 in
theorem maxR_1 (l : Launch) (Z : State) (a0 : Array Value) (hw : ∀ d ∈ tables_1, d.before a0 Z = true) (ws : List Jvm.Cond) (x : Int64) (y : Int64) (h0 : Heap) (n0 : Nat) (O0 : Old Z n0 h0) (hc3 : (lcmpW x y) < (0 : Int32)) :
    MetFree l (⟨"java/lang/Math", "max", "(JJ)J"⟩ : MethodName) (head1 (Jvm.Cond.code (⟨"java/lang/Math", "max", "(JJ)J"⟩ : MethodName) jdk_29_method_66_code 4 (some .long) :: ws) ({ frames := 0, cells := 0, slots := 0, locals := 0 } : Room)) (fun zA zU => zA = #[(.long x), (.long y)] ∧ Z.Warmed39 zU.vm ∧ zU.heap = h0) (fun _ _ _ _ _ => True) (fun _ zU zo zU' => ∃ zv zL, zo = .returned zv ∧ Q_maxR Z x y h0 n0 zv zU'.heap zL ∧ FrameEnd zU zo zU' zL ({ frames := 0, cells := 0, slots := 0, locals := 0 } : Room).cells ({ frames := 0, cells := 0, slots := 0, locals := 0 } : Room).slots) := by
  refine MetFree.of_bodySF (Jvm.Free.JP.mathPlain rfl (by decide +kernel)) hisR ?_
  intro p e s m args below meth c s₁ Bd hml0 hP hK
  obtain ⟨rfl, hZ, hh⟩ := hP
  have hx := Bd.exec
  have hby := Bd.bytes
  have hml : c.maxLocals = 4 := hml0
  have hown : s.vm.findClass "java/lang/Math" = some m.cls := findClass_of_methodNamed Bd.named
  have hnm := (name_of_methodNamed Bd.named Bd.method).1
  have X0 : Stand p l e ({ frames := 0, cells := 0, slots := 0, locals := 0 } : Room) s m #[(.long x), (.long y)] below meth c s₁ [] 0 0 := Stand.of_body Bd
  have e0 : s₁.heap = h0 := by rw [← hh, Bd.state]; rfl
  have N0 := Fr.nil n0
  have Z0 : n0 ≤ h0.size := O0.1 ▸ O0.2.1
  have pre0 : ∀ zt, Steps p.tables e below (s₁.setTop (mkF m 0 #[.val (.long x), .second, .val (.long y), .second] [])) zt → Steps p.tables e below (s₁.setTop (entryFrame m #[(.long x), (.long y)] 4)) zt := fun zt zk => castTop (ef_1_JJ m x y) zk
  obtain ⟨fs, hr, hrun, hended, hW, hsame⟩ := X0.leave (v := some (.long y)) (fun h => by rw [Bd.returns] at h; cases h)
  refine ⟨_, _, pre0 _ ?_, hrun, hended, _, _, rfl, ?_, ⟨_, rfl⟩, hW, hsame.mono (by decide) (by decide)⟩
  · show Steps p.tables e below (s₁.setTop (mkF m 0 #[.val (.long x), .second, .val (.long y), .second] [])) _
    refine XS.lloadN X0.here hx rfl (hb hby d1_0) rfl ?_
    show Steps p.tables e below (s₁.setTop (mkF m 1 #[.val (.long x), .second, .val (.long y), .second] [(.long x)])) _
    refine XS.lloadN X0.here hx rfl (hb hby d1_1) rfl ?_
    show Steps p.tables e below (s₁.setTop (mkF m 2 #[.val (.long x), .second, .val (.long y), .second] [(.long y), (.long x)])) _
    refine XS.lcmp X0.here hx rfl (hb hby d1_2) rfl ?_
    show Steps p.tables e below (s₁.setTop (mkF m 3 #[.val (.long x), .second, .val (.long y), .second] [(.int (lcmpW x y))])) _
    refine XS.ifYes X0.here hx rfl (pc0 := 3) (pc' := 10) rfl (hb hby d1_3) rfl ((if0 _ _).trans (tlt (hc3 : (lcmpW x y) < (0 : Int32))).1) (by decide) (by decide) ?_
    show Steps p.tables e below (s₁.setTop (mkF m 10 #[.val (.long x), .second, .val (.long y), .second] [])) _
    refine XS.lloadN X0.here hx rfl (hb hby d1_10) rfl ?_
    show Steps p.tables e below (s₁.setTop (mkF m 11 #[.val (.long x), .second, .val (.long y), .second] [(.long y)])) _
    jvm_step X0.here [X0.here.top, hx, (hb hby d1_11), X0.method', Bd.returns, narrow]
    first | (intro acts; rw [hr _ acts rfl rfl rfl]) | rw [hr _ _ rfl rfl rfl]
    exact Steps.refl _
  · show Q_maxR Z x y h0 n0 _ s₁.heap _
    rw [e0]
    exact ⟨by rw [maxJ, if_pos hc3], N0, rfl⟩
theorem d1_6 : decode jdk_29_method_66_code 6 = .ok (.lload_n 0, 1) := by decide +kernel
theorem d1_7 : decode jdk_29_method_66_code 7 = .ok (.goto 4, 3) := by decide +kernel
set_option maxRecDepth 65536 in
set_option maxHeartbeats 40000000 in
theorem maxR_2 (l : Launch) (Z : State) (a0 : Array Value) (hw : ∀ d ∈ tables_1, d.before a0 Z = true) (ws : List Jvm.Cond) (x : Int64) (y : Int64) (h0 : Heap) (n0 : Nat) (O0 : Old Z n0 h0) (hc3 : ¬ ((lcmpW x y) < (0 : Int32))) :
    MetFree l (⟨"java/lang/Math", "max", "(JJ)J"⟩ : MethodName) (head1 (Jvm.Cond.code (⟨"java/lang/Math", "max", "(JJ)J"⟩ : MethodName) jdk_29_method_66_code 4 (some .long) :: ws) ({ frames := 0, cells := 0, slots := 0, locals := 0 } : Room)) (fun zA zU => zA = #[(.long x), (.long y)] ∧ Z.Warmed39 zU.vm ∧ zU.heap = h0) (fun _ _ _ _ _ => True) (fun _ zU zo zU' => ∃ zv zL, zo = .returned zv ∧ Q_maxR Z x y h0 n0 zv zU'.heap zL ∧ FrameEnd zU zo zU' zL ({ frames := 0, cells := 0, slots := 0, locals := 0 } : Room).cells ({ frames := 0, cells := 0, slots := 0, locals := 0 } : Room).slots) := by
  refine MetFree.of_bodySF (Jvm.Free.JP.mathPlain rfl (by decide +kernel)) hisR ?_
  intro p e s m args below meth c s₁ Bd hml0 hP hK
  obtain ⟨rfl, hZ, hh⟩ := hP
  have hx := Bd.exec
  have hby := Bd.bytes
  have hml : c.maxLocals = 4 := hml0
  have hown : s.vm.findClass "java/lang/Math" = some m.cls := findClass_of_methodNamed Bd.named
  have hnm := (name_of_methodNamed Bd.named Bd.method).1
  have X0 : Stand p l e ({ frames := 0, cells := 0, slots := 0, locals := 0 } : Room) s m #[(.long x), (.long y)] below meth c s₁ [] 0 0 := Stand.of_body Bd
  have e0 : s₁.heap = h0 := by rw [← hh, Bd.state]; rfl
  have N0 := Fr.nil n0
  have Z0 : n0 ≤ h0.size := O0.1 ▸ O0.2.1
  have pre0 : ∀ zt, Steps p.tables e below (s₁.setTop (mkF m 0 #[.val (.long x), .second, .val (.long y), .second] [])) zt → Steps p.tables e below (s₁.setTop (entryFrame m #[(.long x), (.long y)] 4)) zt := fun zt zk => castTop (ef_1_JJ m x y) zk
  obtain ⟨fs, hr, hrun, hended, hW, hsame⟩ := X0.leave (v := some (.long x)) (fun h => by rw [Bd.returns] at h; cases h)
  refine ⟨_, _, pre0 _ ?_, hrun, hended, _, _, rfl, ?_, ⟨_, rfl⟩, hW, hsame.mono (by decide) (by decide)⟩
  · show Steps p.tables e below (s₁.setTop (mkF m 0 #[.val (.long x), .second, .val (.long y), .second] [])) _
    refine XS.lloadN X0.here hx rfl (hb hby d1_0) rfl ?_
    show Steps p.tables e below (s₁.setTop (mkF m 1 #[.val (.long x), .second, .val (.long y), .second] [(.long x)])) _
    refine XS.lloadN X0.here hx rfl (hb hby d1_1) rfl ?_
    show Steps p.tables e below (s₁.setTop (mkF m 2 #[.val (.long x), .second, .val (.long y), .second] [(.long y), (.long x)])) _
    refine XS.lcmp X0.here hx rfl (hb hby d1_2) rfl ?_
    show Steps p.tables e below (s₁.setTop (mkF m 3 #[.val (.long x), .second, .val (.long y), .second] [(.int (lcmpW x y))])) _
    refine XS.ifNo X0.here hx rfl (hb hby d1_3) rfl ((if0 _ _).trans (flt (hc3 : ¬ ((lcmpW x y) < (0 : Int32)))).1) ?_
    show Steps p.tables e below (s₁.setTop (mkF m 6 #[.val (.long x), .second, .val (.long y), .second] [])) _
    refine XS.lloadN X0.here hx rfl (hb hby d1_6) rfl ?_
    show Steps p.tables e below (s₁.setTop (mkF m 7 #[.val (.long x), .second, .val (.long y), .second] [(.long x)])) _
    refine XS.goto X0.here hx rfl (pc0 := 7) (pc' := 11) rfl (hb hby d1_7) (by decide) (by decide) ?_
    show Steps p.tables e below (s₁.setTop (mkF m 11 #[.val (.long x), .second, .val (.long y), .second] [(.long x)])) _
    jvm_step X0.here [X0.here.top, hx, (hb hby d1_11), X0.method', Bd.returns, narrow]
    first | (intro acts; rw [hr _ acts rfl rfl rfl]) | rw [hr _ _ rfl rfl rfl]
    exact Steps.refl _
  · show Q_maxR Z x y h0 n0 _ s₁.heap _
    rw [e0]
    exact ⟨by rw [maxJ, if_neg hc3], N0, rfl⟩
set_option maxRecDepth 65536 in
set_option maxHeartbeats 40000000 in
theorem maxR (l : Launch) (Z : State) (a0 : Array Value) (hw : ∀ d ∈ tables_1, d.before a0 Z = true) (ws : List Jvm.Cond) (x : Int64) (y : Int64) (h0 : Heap) (n0 : Nat) (O0 : Old Z n0 h0) :
    MetFree l (⟨"java/lang/Math", "max", "(JJ)J"⟩ : MethodName) (head1 (Jvm.Cond.code (⟨"java/lang/Math", "max", "(JJ)J"⟩ : MethodName) jdk_29_method_66_code 4 (some .long) :: ws) ({ frames := 0, cells := 0, slots := 0, locals := 0 } : Room)) (fun zA zU => zA = #[(.long x), (.long y)] ∧ Z.Warmed39 zU.vm ∧ zU.heap = h0) (fun _ _ _ _ _ => True) (fun _ zU zo zU' => ∃ zv zL, zo = .returned zv ∧ Q_maxR Z x y h0 n0 zv zU'.heap zL ∧ FrameEnd zU zo zU' zL ({ frames := 0, cells := 0, slots := 0, locals := 0 } : Room).cells ({ frames := 0, cells := 0, slots := 0, locals := 0 } : Room).slots) := by
  by_cases h1 : (lcmpW x y) < (0 : Int32)
  · exact maxR_1 l Z a0 hw ws x y h0 n0 O0  h1
  · exact maxR_2 l Z a0 hw ws x y h0 n0 O0  h1
def Q_absR (Z : State) (x : Int64) (h0 : Heap) (n0 : Nat) (v : Option Value) (h : Heap) (L : List Loc) : Prop := v = some (.long (absJ x)) ∧ Fr n0 L ∧ h = h0
theorem d2_0 : decode jdk_29_method_61_code 0 = .ok (.lload_n 0, 1) := by decide +kernel
theorem d2_1 : decode jdk_29_method_61_code 1 = .ok (.lconst 0, 1) := by decide +kernel
theorem d2_2 : decode jdk_29_method_61_code 2 = .ok (.lcmp, 1) := by decide +kernel
theorem d2_3 : decode jdk_29_method_61_code 3 = .ok (.ifCond .ge 8, 3) := by decide +kernel
theorem d2_11 : decode jdk_29_method_61_code 11 = .ok (.lload_n 0, 1) := by decide +kernel
theorem d2_12 : decode jdk_29_method_61_code 12 = .ok (.lreturn, 1) := by decide +kernel
theorem ef_2_J (m : MethodId) (x0 : Int64) : entryFrame m #[(.long x0)] 2 = mkF m 0 #[.val (.long x0), .second] [] := by first | (simp [entryFrame, mkF, argsToLocals, Value.category]; done) | rfl
set_option maxRecDepth 65536 in
set_option maxHeartbeats 40000000 in
theorem absR_1 (l : Launch) (Z : State) (a0 : Array Value) (hw : ∀ d ∈ tables_1, d.before a0 Z = true) (ws : List Jvm.Cond) (x : Int64) (h0 : Heap) (n0 : Nat) (O0 : Old Z n0 h0) (hc3 : ¬ ((lcmpW x (0 : Int64)) < (0 : Int32))) :
    MetFree l (⟨"java/lang/Math", "abs", "(J)J"⟩ : MethodName) (head1 (Jvm.Cond.code (⟨"java/lang/Math", "abs", "(J)J"⟩ : MethodName) jdk_29_method_61_code 2 (some .long) :: ws) ({ frames := 0, cells := 0, slots := 0, locals := 0 } : Room)) (fun zA zU => zA = #[(.long x)] ∧ Z.Warmed39 zU.vm ∧ zU.heap = h0) (fun _ _ _ _ _ => True) (fun _ zU zo zU' => ∃ zv zL, zo = .returned zv ∧ Q_absR Z x h0 n0 zv zU'.heap zL ∧ FrameEnd zU zo zU' zL ({ frames := 0, cells := 0, slots := 0, locals := 0 } : Room).cells ({ frames := 0, cells := 0, slots := 0, locals := 0 } : Room).slots) := by
  refine MetFree.of_bodySF (Jvm.Free.JP.mathPlain rfl (by decide +kernel)) hisR ?_
  intro p e s m args below meth c s₁ Bd hml0 hP hK
  obtain ⟨rfl, hZ, hh⟩ := hP
  have hx := Bd.exec
  have hby := Bd.bytes
  have hml : c.maxLocals = 2 := hml0
  have hown : s.vm.findClass "java/lang/Math" = some m.cls := findClass_of_methodNamed Bd.named
  have hnm := (name_of_methodNamed Bd.named Bd.method).1
  have X0 : Stand p l e ({ frames := 0, cells := 0, slots := 0, locals := 0 } : Room) s m #[(.long x)] below meth c s₁ [] 0 0 := Stand.of_body Bd
  have e0 : s₁.heap = h0 := by rw [← hh, Bd.state]; rfl
  have N0 := Fr.nil n0
  have Z0 : n0 ≤ h0.size := O0.1 ▸ O0.2.1
  have pre0 : ∀ zt, Steps p.tables e below (s₁.setTop (mkF m 0 #[.val (.long x), .second] [])) zt → Steps p.tables e below (s₁.setTop (entryFrame m #[(.long x)] 2)) zt := fun zt zk => castTop (ef_2_J m x) zk
  obtain ⟨fs, hr, hrun, hended, hW, hsame⟩ := X0.leave (v := some (.long x)) (fun h => by rw [Bd.returns] at h; cases h)
  refine ⟨_, _, pre0 _ ?_, hrun, hended, _, _, rfl, ?_, ⟨_, rfl⟩, hW, hsame.mono (by decide) (by decide)⟩
  · show Steps p.tables e below (s₁.setTop (mkF m 0 #[.val (.long x), .second] [])) _
    refine XS.lloadN X0.here hx rfl (hb hby d2_0) rfl ?_
    show Steps p.tables e below (s₁.setTop (mkF m 1 #[.val (.long x), .second] [(.long x)])) _
    refine XS.lconst X0.here hx rfl (hb hby d2_1) ?_
    show Steps p.tables e below (s₁.setTop (mkF m 2 #[.val (.long x), .second] [(.long (0 : Int64)), (.long x)])) _
    refine XS.lcmp X0.here hx rfl (hb hby d2_2) rfl ?_
    show Steps p.tables e below (s₁.setTop (mkF m 3 #[.val (.long x), .second] [(.int (lcmpW x (0 : Int64)))])) _
    refine XS.ifYes X0.here hx rfl (pc0 := 3) (pc' := 11) rfl (hb hby d2_3) rfl ((if0 _ _).trans (flt (hc3 : ¬ ((lcmpW x (0 : Int64)) < (0 : Int32)))).2.1) (by decide) (by decide) ?_
    show Steps p.tables e below (s₁.setTop (mkF m 11 #[.val (.long x), .second] [])) _
    refine XS.lloadN X0.here hx rfl (hb hby d2_11) rfl ?_
    show Steps p.tables e below (s₁.setTop (mkF m 12 #[.val (.long x), .second] [(.long x)])) _
    jvm_step X0.here [X0.here.top, hx, (hb hby d2_12), X0.method', Bd.returns, narrow]
    first | (intro acts; rw [hr _ acts rfl rfl rfl]) | rw [hr _ _ rfl rfl rfl]
    exact Steps.refl _
  · show Q_absR Z x h0 n0 _ s₁.heap _
    rw [e0]
    exact ⟨by rw [absJ, if_neg hc3], N0, rfl⟩
theorem d2_6 : decode jdk_29_method_61_code 6 = .ok (.lload_n 0, 1) := by decide +kernel
theorem d2_7 : decode jdk_29_method_61_code 7 = .ok (.lneg, 1) := by decide +kernel
theorem d2_8 : decode jdk_29_method_61_code 8 = .ok (.goto 4, 3) := by decide +kernel
set_option maxRecDepth 65536 in
set_option maxHeartbeats 40000000 in
theorem absR_2 (l : Launch) (Z : State) (a0 : Array Value) (hw : ∀ d ∈ tables_1, d.before a0 Z = true) (ws : List Jvm.Cond) (x : Int64) (h0 : Heap) (n0 : Nat) (O0 : Old Z n0 h0) (hc3 : (lcmpW x (0 : Int64)) < (0 : Int32)) :
    MetFree l (⟨"java/lang/Math", "abs", "(J)J"⟩ : MethodName) (head1 (Jvm.Cond.code (⟨"java/lang/Math", "abs", "(J)J"⟩ : MethodName) jdk_29_method_61_code 2 (some .long) :: ws) ({ frames := 0, cells := 0, slots := 0, locals := 0 } : Room)) (fun zA zU => zA = #[(.long x)] ∧ Z.Warmed39 zU.vm ∧ zU.heap = h0) (fun _ _ _ _ _ => True) (fun _ zU zo zU' => ∃ zv zL, zo = .returned zv ∧ Q_absR Z x h0 n0 zv zU'.heap zL ∧ FrameEnd zU zo zU' zL ({ frames := 0, cells := 0, slots := 0, locals := 0 } : Room).cells ({ frames := 0, cells := 0, slots := 0, locals := 0 } : Room).slots) := by
  refine MetFree.of_bodySF (Jvm.Free.JP.mathPlain rfl (by decide +kernel)) hisR ?_
  intro p e s m args below meth c s₁ Bd hml0 hP hK
  obtain ⟨rfl, hZ, hh⟩ := hP
  have hx := Bd.exec
  have hby := Bd.bytes
  have hml : c.maxLocals = 2 := hml0
  have hown : s.vm.findClass "java/lang/Math" = some m.cls := findClass_of_methodNamed Bd.named
  have hnm := (name_of_methodNamed Bd.named Bd.method).1
  have X0 : Stand p l e ({ frames := 0, cells := 0, slots := 0, locals := 0 } : Room) s m #[(.long x)] below meth c s₁ [] 0 0 := Stand.of_body Bd
  have e0 : s₁.heap = h0 := by rw [← hh, Bd.state]; rfl
  have N0 := Fr.nil n0
  have Z0 : n0 ≤ h0.size := O0.1 ▸ O0.2.1
  have pre0 : ∀ zt, Steps p.tables e below (s₁.setTop (mkF m 0 #[.val (.long x), .second] [])) zt → Steps p.tables e below (s₁.setTop (entryFrame m #[(.long x)] 2)) zt := fun zt zk => castTop (ef_2_J m x) zk
  obtain ⟨fs, hr, hrun, hended, hW, hsame⟩ := X0.leave (v := some (.long (-x))) (fun h => by rw [Bd.returns] at h; cases h)
  refine ⟨_, _, pre0 _ ?_, hrun, hended, _, _, rfl, ?_, ⟨_, rfl⟩, hW, hsame.mono (by decide) (by decide)⟩
  · show Steps p.tables e below (s₁.setTop (mkF m 0 #[.val (.long x), .second] [])) _
    refine XS.lloadN X0.here hx rfl (hb hby d2_0) rfl ?_
    show Steps p.tables e below (s₁.setTop (mkF m 1 #[.val (.long x), .second] [(.long x)])) _
    refine XS.lconst X0.here hx rfl (hb hby d2_1) ?_
    show Steps p.tables e below (s₁.setTop (mkF m 2 #[.val (.long x), .second] [(.long (0 : Int64)), (.long x)])) _
    refine XS.lcmp X0.here hx rfl (hb hby d2_2) rfl ?_
    show Steps p.tables e below (s₁.setTop (mkF m 3 #[.val (.long x), .second] [(.int (lcmpW x (0 : Int64)))])) _
    refine XS.ifNo X0.here hx rfl (hb hby d2_3) rfl ((if0 _ _).trans (tlt (hc3 : (lcmpW x (0 : Int64)) < (0 : Int32))).2.1) ?_
    show Steps p.tables e below (s₁.setTop (mkF m 6 #[.val (.long x), .second] [])) _
    refine XS.lloadN X0.here hx rfl (hb hby d2_6) rfl ?_
    show Steps p.tables e below (s₁.setTop (mkF m 7 #[.val (.long x), .second] [(.long x)])) _
    refine XS.lneg X0.here hx rfl (hb hby d2_7) rfl ?_
    show Steps p.tables e below (s₁.setTop (mkF m 8 #[.val (.long x), .second] [(.long (-x))])) _
    refine XS.goto X0.here hx rfl (pc0 := 8) (pc' := 12) rfl (hb hby d2_8) (by decide) (by decide) ?_
    show Steps p.tables e below (s₁.setTop (mkF m 12 #[.val (.long x), .second] [(.long (-x))])) _
    jvm_step X0.here [X0.here.top, hx, (hb hby d2_12), X0.method', Bd.returns, narrow]
    first | (intro acts; rw [hr _ acts rfl rfl rfl]) | rw [hr _ _ rfl rfl rfl]
    exact Steps.refl _
  · show Q_absR Z x h0 n0 _ s₁.heap _
    rw [e0]
    exact ⟨by rw [absJ, if_pos hc3], N0, rfl⟩
set_option maxRecDepth 65536 in
set_option maxHeartbeats 40000000 in
theorem absR (l : Launch) (Z : State) (a0 : Array Value) (hw : ∀ d ∈ tables_1, d.before a0 Z = true) (ws : List Jvm.Cond) (x : Int64) (h0 : Heap) (n0 : Nat) (O0 : Old Z n0 h0) :
    MetFree l (⟨"java/lang/Math", "abs", "(J)J"⟩ : MethodName) (head1 (Jvm.Cond.code (⟨"java/lang/Math", "abs", "(J)J"⟩ : MethodName) jdk_29_method_61_code 2 (some .long) :: ws) ({ frames := 0, cells := 0, slots := 0, locals := 0 } : Room)) (fun zA zU => zA = #[(.long x)] ∧ Z.Warmed39 zU.vm ∧ zU.heap = h0) (fun _ _ _ _ _ => True) (fun _ zU zo zU' => ∃ zv zL, zo = .returned zv ∧ Q_absR Z x h0 n0 zv zU'.heap zL ∧ FrameEnd zU zo zU' zL ({ frames := 0, cells := 0, slots := 0, locals := 0 } : Room).cells ({ frames := 0, cells := 0, slots := 0, locals := 0 } : Room).slots) := by
  by_cases h1 : (lcmpW x (0 : Int64)) < (0 : Int32)
  · exact absR_2 l Z a0 hw ws x h0 n0 O0  h1
  · exact absR_1 l Z a0 hw ws x h0 n0 O0  h1
def Q_clampR (Z : State) (x : Int64) (h0 : Heap) (n0 : Nat) (v : Option Value) (h : Heap) (L : List Loc) : Prop := v = some (.long (clampJ x)) ∧ Fr n0 L ∧ h = h0
theorem d3_0 : decode method_3_code 0 = .ok (.lload_n 0, 1) := by decide +kernel
theorem d3_1 : decode method_3_code 1 = .ok (.lconst 0, 1) := by decide +kernel
theorem d3_2 : decode method_3_code 2 = .ok (.lcmp, 1) := by decide +kernel
theorem d3_3 : decode method_3_code 3 = .ok (.ifCond .ge 5, 3) := by decide +kernel
theorem d3_8 : decode method_3_code 8 = .ok (.lload_n 0, 1) := by decide +kernel
theorem d3_9 : decode method_3_code 9 = .ok (.lreturn, 1) := by decide +kernel
theorem pn_4 : plainName "com/example/admitd/admitd/gate/ServiceTimeMeanPinLaw" = true := by first | (simp [plainName, overriddenIn]; done) | decide +kernel
theorem ef_3_J (m : MethodId) (x0 : Int64) : entryFrame m #[(.long x0)] 2 = mkF m 0 #[.val (.long x0), .second] [] := by first | (simp [entryFrame, mkF, argsToLocals, Value.category]; done) | rfl
set_option maxRecDepth 65536 in
set_option maxHeartbeats 40000000 in
theorem clampR_1 (l : Launch) (Z : State) (a0 : Array Value) (hw : ∀ d ∈ tables_1, d.before a0 Z = true) (ws : List Jvm.Cond) (x : Int64) (h0 : Heap) (n0 : Nat) (O0 : Old Z n0 h0) (hc3 : ¬ ((lcmpW x (0 : Int64)) < (0 : Int32))) :
    MetFree l (⟨"com/example/admitd/admitd/gate/ServiceTimeMeanPinLaw", "clamp", "(J)J"⟩ : MethodName) (head1 (Jvm.Cond.code (⟨"com/example/admitd/admitd/gate/ServiceTimeMeanPinLaw", "clamp", "(J)J"⟩ : MethodName) method_3_code 2 (some .long) :: ws) ({ frames := 0, cells := 0, slots := 0, locals := 0 } : Room)) (fun zA zU => zA = #[(.long x)] ∧ Z.Warmed39 zU.vm ∧ zU.heap = h0) (fun _ _ _ _ _ => True) (fun _ zU zo zU' => ∃ zv zL, zo = .returned zv ∧ Q_clampR Z x h0 n0 zv zU'.heap zL ∧ FrameEnd zU zo zU' zL ({ frames := 0, cells := 0, slots := 0, locals := 0 } : Room).cells ({ frames := 0, cells := 0, slots := 0, locals := 0 } : Room).slots) := by
  refine MetFree.of_bodySF (plainFor_of_name pn_4) hisR ?_
  intro p e s m args below meth c s₁ Bd hml0 hP hK
  obtain ⟨rfl, hZ, hh⟩ := hP
  have hx := Bd.exec
  have hby := Bd.bytes
  have hml : c.maxLocals = 2 := hml0
  have hown : s.vm.findClass "com/example/admitd/admitd/gate/ServiceTimeMeanPinLaw" = some m.cls := findClass_of_methodNamed Bd.named
  have hnm := (name_of_methodNamed Bd.named Bd.method).1
  have X0 : Stand p l e ({ frames := 0, cells := 0, slots := 0, locals := 0 } : Room) s m #[(.long x)] below meth c s₁ [] 0 0 := Stand.of_body Bd
  have e0 : s₁.heap = h0 := by rw [← hh, Bd.state]; rfl
  have N0 := Fr.nil n0
  have Z0 : n0 ≤ h0.size := O0.1 ▸ O0.2.1
  have pre0 : ∀ zt, Steps p.tables e below (s₁.setTop (mkF m 0 #[.val (.long x), .second] [])) zt → Steps p.tables e below (s₁.setTop (entryFrame m #[(.long x)] 2)) zt := fun zt zk => castTop (ef_3_J m x) zk
  obtain ⟨fs, hr, hrun, hended, hW, hsame⟩ := X0.leave (v := some (.long x)) (fun h => by rw [Bd.returns] at h; cases h)
  refine ⟨_, _, pre0 _ ?_, hrun, hended, _, _, rfl, ?_, ⟨_, rfl⟩, hW, hsame.mono (by decide) (by decide)⟩
  · show Steps p.tables e below (s₁.setTop (mkF m 0 #[.val (.long x), .second] [])) _
    refine XS.lloadN X0.here hx rfl (hb hby d3_0) rfl ?_
    show Steps p.tables e below (s₁.setTop (mkF m 1 #[.val (.long x), .second] [(.long x)])) _
    refine XS.lconst X0.here hx rfl (hb hby d3_1) ?_
    show Steps p.tables e below (s₁.setTop (mkF m 2 #[.val (.long x), .second] [(.long (0 : Int64)), (.long x)])) _
    refine XS.lcmp X0.here hx rfl (hb hby d3_2) rfl ?_
    show Steps p.tables e below (s₁.setTop (mkF m 3 #[.val (.long x), .second] [(.int (lcmpW x (0 : Int64)))])) _
    refine XS.ifYes X0.here hx rfl (pc0 := 3) (pc' := 8) rfl (hb hby d3_3) rfl ((if0 _ _).trans (flt (hc3 : ¬ ((lcmpW x (0 : Int64)) < (0 : Int32)))).2.1) (by decide) (by decide) ?_
    show Steps p.tables e below (s₁.setTop (mkF m 8 #[.val (.long x), .second] [])) _
    refine XS.lloadN X0.here hx rfl (hb hby d3_8) rfl ?_
    show Steps p.tables e below (s₁.setTop (mkF m 9 #[.val (.long x), .second] [(.long x)])) _
    jvm_step X0.here [X0.here.top, hx, (hb hby d3_9), X0.method', Bd.returns, narrow]
    first | (intro acts; rw [hr _ acts rfl rfl rfl]) | rw [hr _ _ rfl rfl rfl]
    exact Steps.refl _
  · show Q_clampR Z x h0 n0 _ s₁.heap _
    rw [e0]
    exact ⟨by rw [clampJ, if_neg hc3], N0, rfl⟩
theorem d3_6 : decode method_3_code 6 = .ok (.lconst 0, 1) := by decide +kernel
theorem d3_7 : decode method_3_code 7 = .ok (.lreturn, 1) := by decide +kernel
set_option maxRecDepth 65536 in
set_option maxHeartbeats 40000000 in
theorem clampR_2 (l : Launch) (Z : State) (a0 : Array Value) (hw : ∀ d ∈ tables_1, d.before a0 Z = true) (ws : List Jvm.Cond) (x : Int64) (h0 : Heap) (n0 : Nat) (O0 : Old Z n0 h0) (hc3 : (lcmpW x (0 : Int64)) < (0 : Int32)) :
    MetFree l (⟨"com/example/admitd/admitd/gate/ServiceTimeMeanPinLaw", "clamp", "(J)J"⟩ : MethodName) (head1 (Jvm.Cond.code (⟨"com/example/admitd/admitd/gate/ServiceTimeMeanPinLaw", "clamp", "(J)J"⟩ : MethodName) method_3_code 2 (some .long) :: ws) ({ frames := 0, cells := 0, slots := 0, locals := 0 } : Room)) (fun zA zU => zA = #[(.long x)] ∧ Z.Warmed39 zU.vm ∧ zU.heap = h0) (fun _ _ _ _ _ => True) (fun _ zU zo zU' => ∃ zv zL, zo = .returned zv ∧ Q_clampR Z x h0 n0 zv zU'.heap zL ∧ FrameEnd zU zo zU' zL ({ frames := 0, cells := 0, slots := 0, locals := 0 } : Room).cells ({ frames := 0, cells := 0, slots := 0, locals := 0 } : Room).slots) := by
  refine MetFree.of_bodySF (plainFor_of_name pn_4) hisR ?_
  intro p e s m args below meth c s₁ Bd hml0 hP hK
  obtain ⟨rfl, hZ, hh⟩ := hP
  have hx := Bd.exec
  have hby := Bd.bytes
  have hml : c.maxLocals = 2 := hml0
  have hown : s.vm.findClass "com/example/admitd/admitd/gate/ServiceTimeMeanPinLaw" = some m.cls := findClass_of_methodNamed Bd.named
  have hnm := (name_of_methodNamed Bd.named Bd.method).1
  have X0 : Stand p l e ({ frames := 0, cells := 0, slots := 0, locals := 0 } : Room) s m #[(.long x)] below meth c s₁ [] 0 0 := Stand.of_body Bd
  have e0 : s₁.heap = h0 := by rw [← hh, Bd.state]; rfl
  have N0 := Fr.nil n0
  have Z0 : n0 ≤ h0.size := O0.1 ▸ O0.2.1
  have pre0 : ∀ zt, Steps p.tables e below (s₁.setTop (mkF m 0 #[.val (.long x), .second] [])) zt → Steps p.tables e below (s₁.setTop (entryFrame m #[(.long x)] 2)) zt := fun zt zk => castTop (ef_3_J m x) zk
  obtain ⟨fs, hr, hrun, hended, hW, hsame⟩ := X0.leave (v := some (.long (0 : Int64))) (fun h => by rw [Bd.returns] at h; cases h)
  refine ⟨_, _, pre0 _ ?_, hrun, hended, _, _, rfl, ?_, ⟨_, rfl⟩, hW, hsame.mono (by decide) (by decide)⟩
  · show Steps p.tables e below (s₁.setTop (mkF m 0 #[.val (.long x), .second] [])) _
    refine XS.lloadN X0.here hx rfl (hb hby d3_0) rfl ?_
    show Steps p.tables e below (s₁.setTop (mkF m 1 #[.val (.long x), .second] [(.long x)])) _
    refine XS.lconst X0.here hx rfl (hb hby d3_1) ?_
    show Steps p.tables e below (s₁.setTop (mkF m 2 #[.val (.long x), .second] [(.long (0 : Int64)), (.long x)])) _
    refine XS.lcmp X0.here hx rfl (hb hby d3_2) rfl ?_
    show Steps p.tables e below (s₁.setTop (mkF m 3 #[.val (.long x), .second] [(.int (lcmpW x (0 : Int64)))])) _
    refine XS.ifNo X0.here hx rfl (hb hby d3_3) rfl ((if0 _ _).trans (tlt (hc3 : (lcmpW x (0 : Int64)) < (0 : Int32))).2.1) ?_
    show Steps p.tables e below (s₁.setTop (mkF m 6 #[.val (.long x), .second] [])) _
    refine XS.lconst X0.here hx rfl (hb hby d3_6) ?_
    show Steps p.tables e below (s₁.setTop (mkF m 7 #[.val (.long x), .second] [(.long (0 : Int64))])) _
    jvm_step X0.here [X0.here.top, hx, (hb hby d3_7), X0.method', Bd.returns, narrow]
    first | (intro acts; rw [hr _ acts rfl rfl rfl]) | rw [hr _ _ rfl rfl rfl]
    exact Steps.refl _
  · show Q_clampR Z x h0 n0 _ s₁.heap _
    rw [e0]
    exact ⟨by rw [clampJ, if_pos hc3], N0, rfl⟩
set_option maxRecDepth 65536 in
set_option maxHeartbeats 40000000 in
theorem clampR (l : Launch) (Z : State) (a0 : Array Value) (hw : ∀ d ∈ tables_1, d.before a0 Z = true) (ws : List Jvm.Cond) (x : Int64) (h0 : Heap) (n0 : Nat) (O0 : Old Z n0 h0) :
    MetFree l (⟨"com/example/admitd/admitd/gate/ServiceTimeMeanPinLaw", "clamp", "(J)J"⟩ : MethodName) (head1 (Jvm.Cond.code (⟨"com/example/admitd/admitd/gate/ServiceTimeMeanPinLaw", "clamp", "(J)J"⟩ : MethodName) method_3_code 2 (some .long) :: ws) ({ frames := 0, cells := 0, slots := 0, locals := 0 } : Room)) (fun zA zU => zA = #[(.long x)] ∧ Z.Warmed39 zU.vm ∧ zU.heap = h0) (fun _ _ _ _ _ => True) (fun _ zU zo zU' => ∃ zv zL, zo = .returned zv ∧ Q_clampR Z x h0 n0 zv zU'.heap zL ∧ FrameEnd zU zo zU' zL ({ frames := 0, cells := 0, slots := 0, locals := 0 } : Room).cells ({ frames := 0, cells := 0, slots := 0, locals := 0 } : Room).slots) := by
  by_cases h1 : (lcmpW x (0 : Int64)) < (0 : Int32)
  · exact clampR_2 l Z a0 hw ws x h0 n0 O0  h1
  · exact clampR_1 l Z a0 hw ws x h0 n0 O0  h1
def Q_addR (Z : State) (x : Int64) (y : Int64) (h0 : Heap) (n0 : Nat) (v : Option Value) (h : Heap) (L : List Loc) : Prop := v = some (.long (x + y)) ∧ Fr n0 L ∧ h = h0
theorem d5_0 : decode jdk_29_method_25_code 0 = .ok (.lload_n 0, 1) := by decide +kernel
theorem d5_1 : decode jdk_29_method_25_code 1 = .ok (.lload_n 2, 1) := by decide +kernel
theorem d5_2 : decode jdk_29_method_25_code 2 = .ok (.ladd, 1) := by decide +kernel
theorem d5_3 : decode jdk_29_method_25_code 3 = .ok (.lstore 4, 2) := by decide +kernel
theorem d5_5 : decode jdk_29_method_25_code 5 = .ok (.lload_n 0, 1) := by decide +kernel
theorem d5_6 : decode jdk_29_method_25_code 6 = .ok (.lload 4, 2) := by decide +kernel
theorem d5_8 : decode jdk_29_method_25_code 8 = .ok (.lxor, 1) := by decide +kernel
theorem d5_9 : decode jdk_29_method_25_code 9 = .ok (.lload_n 2, 1) := by decide +kernel
theorem d5_10 : decode jdk_29_method_25_code 10 = .ok (.lload 4, 2) := by decide +kernel
theorem d5_12 : decode jdk_29_method_25_code 12 = .ok (.lxor, 1) := by decide +kernel
theorem d5_13 : decode jdk_29_method_25_code 13 = .ok (.land, 1) := by decide +kernel
theorem d5_14 : decode jdk_29_method_25_code 14 = .ok (.lconst 0, 1) := by decide +kernel
theorem d5_15 : decode jdk_29_method_25_code 15 = .ok (.lcmp, 1) := by decide +kernel
theorem d5_16 : decode jdk_29_method_25_code 16 = .ok (.ifCond .ge 13, 3) := by decide +kernel
theorem d5_29 : decode jdk_29_method_25_code 29 = .ok (.lload 4, 2) := by decide +kernel
theorem d5_31 : decode jdk_29_method_25_code 31 = .ok (.lreturn, 1) := by decide +kernel
theorem ef_5_JJ (m : MethodId) (x0 : Int64) (x1 : Int64) : entryFrame m #[(.long x0), (.long x1)] 6 = mkF m 0 #[.val (.long x0), .second, .val (.long x1), .second, .unset, .unset] [] := by first | (simp [entryFrame, mkF, argsToLocals, Value.category]; done) | rfl
set_option maxRecDepth 65536 in
set_option maxHeartbeats 40000000 in
theorem addR (l : Launch) (Z : State) (a0 : Array Value) (hw : ∀ d ∈ tables_1, d.before a0 Z = true) (ws : List Jvm.Cond) (x : Int64) (y : Int64) (h0 : Heap) (n0 : Nat) (O0 : Old Z n0 h0) (hf : Fits (x.toInt + y.toInt)) :
    MetFree l (⟨"java/lang/Math", "addExact", "(JJ)J"⟩ : MethodName) (head1 (Jvm.Cond.code (⟨"java/lang/Math", "addExact", "(JJ)J"⟩ : MethodName) jdk_29_method_25_code 6 (some .long) :: ws) ({ frames := 0, cells := 0, slots := 0, locals := 0 } : Room)) (fun zA zU => zA = #[(.long x), (.long y)] ∧ Z.Warmed39 zU.vm ∧ zU.heap = h0) (fun _ _ _ _ _ => True) (fun _ zU zo zU' => ∃ zv zL, zo = .returned zv ∧ Q_addR Z x y h0 n0 zv zU'.heap zL ∧ FrameEnd zU zo zU' zL ({ frames := 0, cells := 0, slots := 0, locals := 0 } : Room).cells ({ frames := 0, cells := 0, slots := 0, locals := 0 } : Room).slots) := by
  refine MetFree.of_bodySF (Jvm.Free.JP.mathPlain rfl (by decide +kernel)) hisR ?_
  intro p e s m args below meth c s₁ Bd hml0 hP hK
  obtain ⟨rfl, hZ, hh⟩ := hP
  have hx := Bd.exec
  have hby := Bd.bytes
  have hml : c.maxLocals = 6 := hml0
  have hown : s.vm.findClass "java/lang/Math" = some m.cls := findClass_of_methodNamed Bd.named
  have hnm := (name_of_methodNamed Bd.named Bd.method).1
  have X0 : Stand p l e ({ frames := 0, cells := 0, slots := 0, locals := 0 } : Room) s m #[(.long x), (.long y)] below meth c s₁ [] 0 0 := Stand.of_body Bd
  have e0 : s₁.heap = h0 := by rw [← hh, Bd.state]; rfl
  have N0 := Fr.nil n0
  have Z0 : n0 ≤ h0.size := O0.1 ▸ O0.2.1
  have pre0 : ∀ zt, Steps p.tables e below (s₁.setTop (mkF m 0 #[.val (.long x), .second, .val (.long y), .second, .unset, .unset] [])) zt → Steps p.tables e below (s₁.setTop (entryFrame m #[(.long x), (.long y)] 6)) zt := fun zt zk => castTop (ef_5_JJ m x y) zk
  obtain ⟨fs, hr, hrun, hended, hW, hsame⟩ := X0.leave (v := some (.long (x + y))) (fun h => by rw [Bd.returns] at h; cases h)
  refine ⟨_, _, pre0 _ ?_, hrun, hended, _, _, rfl, ?_, ⟨_, rfl⟩, hW, hsame.mono (by decide) (by decide)⟩
  · show Steps p.tables e below (s₁.setTop (mkF m 0 #[.val (.long x), .second, .val (.long y), .second, .unset, .unset] [])) _
    refine XS.lloadN X0.here hx rfl (hb hby d5_0) rfl ?_
    show Steps p.tables e below (s₁.setTop (mkF m 1 #[.val (.long x), .second, .val (.long y), .second, .unset, .unset] [(.long x)])) _
    refine XS.lloadN X0.here hx rfl (hb hby d5_1) rfl ?_
    show Steps p.tables e below (s₁.setTop (mkF m 2 #[.val (.long x), .second, .val (.long y), .second, .unset, .unset] [(.long y), (.long x)])) _
    refine XS.ladd X0.here hx rfl (hb hby d5_2) rfl ?_
    show Steps p.tables e below (s₁.setTop (mkF m 3 #[.val (.long x), .second, .val (.long y), .second, .unset, .unset] [(.long (x + y))])) _
    refine XS.lstore X0.here hx rfl (hb hby d5_3) rfl (l' := #[.val (.long x), .second, .val (.long y), .second, .val (.long (x + y)), .second]) rfl ?_
    show Steps p.tables e below (s₁.setTop (mkF m 5 #[.val (.long x), .second, .val (.long y), .second, .val (.long (x + y)), .second] [])) _
    refine XS.lloadN X0.here hx rfl (hb hby d5_5) rfl ?_
    show Steps p.tables e below (s₁.setTop (mkF m 6 #[.val (.long x), .second, .val (.long y), .second, .val (.long (x + y)), .second] [(.long x)])) _
    refine XS.lload X0.here hx rfl (hb hby d5_6) rfl ?_
    show Steps p.tables e below (s₁.setTop (mkF m 8 #[.val (.long x), .second, .val (.long y), .second, .val (.long (x + y)), .second] [(.long (x + y)), (.long x)])) _
    refine XS.lxor X0.here hx rfl (hb hby d5_8) rfl ?_
    show Steps p.tables e below (s₁.setTop (mkF m 9 #[.val (.long x), .second, .val (.long y), .second, .val (.long (x + y)), .second] [(.long (x ^^^ (x + y)))])) _
    refine XS.lloadN X0.here hx rfl (hb hby d5_9) rfl ?_
    show Steps p.tables e below (s₁.setTop (mkF m 10 #[.val (.long x), .second, .val (.long y), .second, .val (.long (x + y)), .second] [(.long y), (.long (x ^^^ (x + y)))])) _
    refine XS.lload X0.here hx rfl (hb hby d5_10) rfl ?_
    show Steps p.tables e below (s₁.setTop (mkF m 12 #[.val (.long x), .second, .val (.long y), .second, .val (.long (x + y)), .second] [(.long (x + y)), (.long y), (.long (x ^^^ (x + y)))])) _
    refine XS.lxor X0.here hx rfl (hb hby d5_12) rfl ?_
    show Steps p.tables e below (s₁.setTop (mkF m 13 #[.val (.long x), .second, .val (.long y), .second, .val (.long (x + y)), .second] [(.long (y ^^^ (x + y))), (.long (x ^^^ (x + y)))])) _
    refine XS.land X0.here hx rfl (hb hby d5_13) rfl ?_
    show Steps p.tables e below (s₁.setTop (mkF m 14 #[.val (.long x), .second, .val (.long y), .second, .val (.long (x + y)), .second] [(.long ((x ^^^ (x + y)) &&& (y ^^^ (x + y))))])) _
    refine XS.lconst X0.here hx rfl (hb hby d5_14) ?_
    show Steps p.tables e below (s₁.setTop (mkF m 15 #[.val (.long x), .second, .val (.long y), .second, .val (.long (x + y)), .second] [(.long (0 : Int64)), (.long ((x ^^^ (x + y)) &&& (y ^^^ (x + y))))])) _
    refine XS.lcmp X0.here hx rfl (hb hby d5_15) rfl ?_
    show Steps p.tables e below (s₁.setTop (mkF m 16 #[.val (.long x), .second, .val (.long y), .second, .val (.long (x + y)), .second] [(.int (lcmpW ((x ^^^ (x + y)) &&& (y ^^^ (x + y))) (0 : Int64)))])) _
    refine XS.ifYes X0.here hx rfl (pc0 := 16) (pc' := 29) rfl (hb hby d5_16) rfl ((if0 _ _).trans (flt ((own_add hf) : ¬ ((lcmpW ((x ^^^ (x + y)) &&& (y ^^^ (x + y))) (0 : Int64)) < (0 : Int32)))).2.1) (by decide) (by decide) ?_
    show Steps p.tables e below (s₁.setTop (mkF m 29 #[.val (.long x), .second, .val (.long y), .second, .val (.long (x + y)), .second] [])) _
    refine XS.lload X0.here hx rfl (hb hby d5_29) rfl ?_
    show Steps p.tables e below (s₁.setTop (mkF m 31 #[.val (.long x), .second, .val (.long y), .second, .val (.long (x + y)), .second] [(.long (x + y))])) _
    jvm_step X0.here [X0.here.top, hx, (hb hby d5_31), X0.method', Bd.returns, narrow]
    first | (intro acts; rw [hr _ acts rfl rfl rfl]) | rw [hr _ _ rfl rfl rfl]
    exact Steps.refl _
  · show Q_addR Z x y h0 n0 _ s₁.heap _
    rw [e0]
    exact ⟨rfl, N0, rfl⟩
def Q_mulR (Z : State) (x : Int64) (h0 : Heap) (n0 : Nat) (v : Option Value) (h : Heap) (L : List Loc) : Prop := v = some (.long (x * (1000000000 : Int64))) ∧ Fr n0 L ∧ h = h0
theorem d6_0 : decode jdk_29_method_30_code 0 = .ok (.lload_n 0, 1) := by decide +kernel
theorem d6_1 : decode jdk_29_method_30_code 1 = .ok (.lload_n 2, 1) := by decide +kernel
theorem d6_2 : decode jdk_29_method_30_code 2 = .ok (.lmul, 1) := by decide +kernel
theorem d6_3 : decode jdk_29_method_30_code 3 = .ok (.lstore 4, 2) := by decide +kernel
theorem d6_5 : decode jdk_29_method_30_code 5 = .ok (.lload_n 0, 1) := by decide +kernel
theorem d6_6 : decode jdk_29_method_30_code 6 = .ok (.invokestatic 122, 3) := by decide +kernel
theorem pd_0 : parseMethodDescriptor "(J)J" = some ⟨[.long], some .long⟩ := by decide +kernel
theorem d6_9 : decode jdk_29_method_30_code 9 = .ok (.lstore 6, 2) := by decide +kernel
theorem d6_11 : decode jdk_29_method_30_code 11 = .ok (.lload_n 2, 1) := by decide +kernel
theorem d6_12 : decode jdk_29_method_30_code 12 = .ok (.invokestatic 122, 3) := by decide +kernel
theorem d6_15 : decode jdk_29_method_30_code 15 = .ok (.lstore 8, 2) := by decide +kernel
theorem d6_17 : decode jdk_29_method_30_code 17 = .ok (.lload 6, 2) := by decide +kernel
theorem d6_19 : decode jdk_29_method_30_code 19 = .ok (.lload 8, 2) := by decide +kernel
theorem d6_21 : decode jdk_29_method_30_code 21 = .ok (.lor, 1) := by decide +kernel
theorem d6_22 : decode jdk_29_method_30_code 22 = .ok (.bipush 31, 2) := by decide +kernel
theorem d6_24 : decode jdk_29_method_30_code 24 = .ok (.lushr, 1) := by decide +kernel
theorem d6_25 : decode jdk_29_method_30_code 25 = .ok (.lconst 0, 1) := by decide +kernel
theorem d6_26 : decode jdk_29_method_30_code 26 = .ok (.lcmp, 1) := by decide +kernel
theorem d6_27 : decode jdk_29_method_30_code 27 = .ok (.ifCond .eq 44, 3) := by decide +kernel
theorem d6_71 : decode jdk_29_method_30_code 71 = .ok (.lload 4, 2) := by decide +kernel
theorem d6_73 : decode jdk_29_method_30_code 73 = .ok (.lreturn, 1) := by decide +kernel
theorem ef_6_JJ (m : MethodId) (x0 : Int64) (x1 : Int64) : entryFrame m #[(.long x0), (.long x1)] 10 = mkF m 0 #[.val (.long x0), .second, .val (.long x1), .second, .unset, .unset, .unset, .unset, .unset, .unset] [] := by first | (simp [entryFrame, mkF, argsToLocals, Value.category]; done) | rfl
set_option maxRecDepth 65536 in
set_option maxHeartbeats 40000000 in
theorem mulR_1 (l : Launch) (Z : State) (a0 : Array Value) (hw : ∀ d ∈ tables_1, d.before a0 Z = true) (ws : List Jvm.Cond) (x : Int64) (h0 : Heap) (n0 : Nat) (O0 : Old Z n0 h0) (hf : Fits (x.toInt * 1000000000)) (hc27 : (lcmpW ((((absJ x) ||| (absJ (1000000000 : Int64))).toUInt64 >>> ((31 : Int32) &&& 0x3f).toInt64.toUInt64).toInt64) (0 : Int64)) = (0 : Int32)) :
    MetFree l (⟨"java/lang/Math", "multiplyExact", "(JJ)J"⟩ : MethodName) (head1 (Jvm.Cond.code (⟨"java/lang/Math", "multiplyExact", "(JJ)J"⟩ : MethodName) jdk_29_method_30_code 10 (some .long) :: ws) ({ frames := 1, cells := 0, slots := 0, locals := 13 } : Room)) (fun zA zU => zA = #[(.long x), (.long (1000000000 : Int64))] ∧ Z.Warmed39 zU.vm ∧ zU.heap = h0) (fun _ _ _ _ _ => True) (fun _ zU zo zU' => ∃ zv zL, zo = .returned zv ∧ Q_mulR Z x h0 n0 zv zU'.heap zL ∧ FrameEnd zU zo zU' zL ({ frames := 1, cells := 0, slots := 0, locals := 13 } : Room).cells ({ frames := 1, cells := 0, slots := 0, locals := 13 } : Room).slots) := by
  refine MetFree.of_bodySF (Jvm.Free.JP.mathPlain rfl (by decide +kernel)) hisR ?_
  intro p e s m args below meth c s₁ Bd hml0 hP hK
  obtain ⟨rfl, hZ, hh⟩ := hP
  have hx := Bd.exec
  have hby := Bd.bytes
  have hml : c.maxLocals = 10 := hml0
  have hown : s.vm.findClass "java/lang/Math" = some m.cls := findClass_of_methodNamed Bd.named
  have hnm := (name_of_methodNamed Bd.named Bd.method).1
  have X0 : Stand p l e ({ frames := 1, cells := 0, slots := 0, locals := 13 } : Room) s m #[(.long x), (.long (1000000000 : Int64))] below meth c s₁ [] 0 0 := Stand.of_body Bd
  have e0 : s₁.heap = h0 := by rw [← hh, Bd.state]; rfl
  have N0 := Fr.nil n0
  have Z0 : n0 ≤ h0.size := O0.1 ▸ O0.2.1
  have pre0 : ∀ zt, Steps p.tables e below (s₁.setTop (mkF m 0 #[.val (.long x), .second, .val (.long (1000000000 : Int64)), .second, .unset, .unset, .unset, .unset, .unset, .unset] [])) zt → Steps p.tables e below (s₁.setTop (entryFrame m #[(.long x), (.long (1000000000 : Int64))] 10)) zt := fun zt zk => castTop (ef_6_JJ m x (1000000000 : Int64)) zk
  obtain ⟨_, _, ⟨T1, L1, k1, n1⟩, -, X1, ⟨Lc1, hQ1, l1, y1, z1⟩, st1⟩ := Jvm.LawKit.callS X0 hx (y := (⟨"java/lang/Math", "abs", "(J)J"⟩ : MethodName)) hown (mvT hZ (hw _ (List.mem_of_getElem? (i := 47) rfl))) (mvT hZ (hw _ (List.mem_of_getElem? (i := 48) rfl))) (mvT hZ (hw _ (List.mem_of_getElem? (i := 45) rfl))) (mvT hZ (hw _ (List.mem_of_getElem? (i := 49) rfl))) (by decide) (backOf (W := 0) (absR l Z a0 hw [] x h0 n0 O0 ) hZ (hw _ (List.mem_of_getElem? (i := 49) rfl)) (hw _ (List.mem_of_getElem? (i := 45) rfl)) (by decide) (by decide)) (g := (mkF m 6 #[.val (.long x), .second, .val (.long (1000000000 : Int64)), .second, .val (.long (x * (1000000000 : Int64))), .second, .unset, .unset, .unset, .unset] [(.long x)])) rfl (by rw [hml]; rfl) (argsL := [(.long x)]) (rest := []) (lenOf pd_0 rfl) rfl (by show 2 * 0 + _ ≤ _; exact Nat.le_of_eq rfl) (hb hby d6_6) (fun _ _ => ⟨rfl, e0, (by decide : 0 + 0 ≤ _), (by decide : 0 + 0 ≤ _)⟩)
  dsimp only [Pt.U, Pt.locs, Pt.cells, Pt.slots] at X1 l1 y1 z1 st1 hQ1
  subst l1 y1 z1
  obtain ⟨rfl, Nq1, kh1⟩ := hQ1
  have N1 := Fr.app N0 Nq1
  obtain ⟨_, _, ⟨T2, L2, k2, n2⟩, -, X2, ⟨Lc2, hQ2, l2, y2, z2⟩, st2⟩ := Jvm.LawKit.callS X1 hx (y := (⟨"java/lang/Math", "abs", "(J)J"⟩ : MethodName)) hown (mvT hZ (hw _ (List.mem_of_getElem? (i := 47) rfl))) (mvT hZ (hw _ (List.mem_of_getElem? (i := 48) rfl))) (mvT hZ (hw _ (List.mem_of_getElem? (i := 45) rfl))) (mvT hZ (hw _ (List.mem_of_getElem? (i := 49) rfl))) (by decide) (backOf (W := 0) (absR l Z a0 hw [] (1000000000 : Int64) h0 n0 O0 ) hZ (hw _ (List.mem_of_getElem? (i := 49) rfl)) (hw _ (List.mem_of_getElem? (i := 45) rfl)) (by decide) (by decide)) (g := (mkF m 12 #[.val (.long x), .second, .val (.long (1000000000 : Int64)), .second, .val (.long (x * (1000000000 : Int64))), .second, .val (.long (absJ x)), .second, .unset, .unset] [(.long (1000000000 : Int64))])) rfl (by rw [hml]; rfl) (argsL := [(.long (1000000000 : Int64))]) (rest := []) (lenOf pd_0 rfl) rfl (by show 2 * 0 + _ ≤ _; exact Nat.le_of_eq rfl) (hb hby d6_12) (fun _ _ => ⟨rfl, kh1, (by decide : 0 + 0 ≤ _), (by decide : 0 + 0 ≤ _)⟩)
  dsimp only [Pt.U, Pt.locs, Pt.cells, Pt.slots] at X2 l2 y2 z2 st2 hQ2
  subst l2 y2 z2
  obtain ⟨rfl, Nq2, kh2⟩ := hQ2
  have N2 := Fr.app N1 Nq2
  obtain ⟨fs, hr, hrun, hended, hW, hsame⟩ := X2.leave (v := some (.long (x * (1000000000 : Int64)))) (fun h => by rw [Bd.returns] at h; cases h)
  refine ⟨_, _, pre0 _ ?_, hrun, hended, _, _, rfl, ?_, ⟨_, rfl⟩, hW, hsame.mono (by decide) (by decide)⟩
  · show Steps p.tables e below (s₁.setTop (mkF m 0 #[.val (.long x), .second, .val (.long (1000000000 : Int64)), .second, .unset, .unset, .unset, .unset, .unset, .unset] [])) _
    refine XS.lloadN X0.here hx rfl (hb hby d6_0) rfl ?_
    show Steps p.tables e below (s₁.setTop (mkF m 1 #[.val (.long x), .second, .val (.long (1000000000 : Int64)), .second, .unset, .unset, .unset, .unset, .unset, .unset] [(.long x)])) _
    refine XS.lloadN X0.here hx rfl (hb hby d6_1) rfl ?_
    show Steps p.tables e below (s₁.setTop (mkF m 2 #[.val (.long x), .second, .val (.long (1000000000 : Int64)), .second, .unset, .unset, .unset, .unset, .unset, .unset] [(.long (1000000000 : Int64)), (.long x)])) _
    refine XS.lmul X0.here hx rfl (hb hby d6_2) rfl ?_
    show Steps p.tables e below (s₁.setTop (mkF m 3 #[.val (.long x), .second, .val (.long (1000000000 : Int64)), .second, .unset, .unset, .unset, .unset, .unset, .unset] [(.long (x * (1000000000 : Int64)))])) _
    refine XS.lstore X0.here hx rfl (hb hby d6_3) rfl (l' := #[.val (.long x), .second, .val (.long (1000000000 : Int64)), .second, .val (.long (x * (1000000000 : Int64))), .second, .unset, .unset, .unset, .unset]) rfl ?_
    show Steps p.tables e below (s₁.setTop (mkF m 5 #[.val (.long x), .second, .val (.long (1000000000 : Int64)), .second, .val (.long (x * (1000000000 : Int64))), .second, .unset, .unset, .unset, .unset] [])) _
    refine XS.lloadN X0.here hx rfl (hb hby d6_5) rfl ?_
    show Steps p.tables e below (s₁.setTop (mkF m 6 #[.val (.long x), .second, .val (.long (1000000000 : Int64)), .second, .val (.long (x * (1000000000 : Int64))), .second, .unset, .unset, .unset, .unset] [(.long x)])) _
    refine st1 _ ?_
    show Steps p.tables e below (T1.setTop (mkF m 9 #[.val (.long x), .second, .val (.long (1000000000 : Int64)), .second, .val (.long (x * (1000000000 : Int64))), .second, .unset, .unset, .unset, .unset] [(.long (absJ x))])) _
    refine XS.lstore X1.here hx rfl (hb hby d6_9) rfl (l' := #[.val (.long x), .second, .val (.long (1000000000 : Int64)), .second, .val (.long (x * (1000000000 : Int64))), .second, .val (.long (absJ x)), .second, .unset, .unset]) rfl ?_
    show Steps p.tables e below (T1.setTop (mkF m 11 #[.val (.long x), .second, .val (.long (1000000000 : Int64)), .second, .val (.long (x * (1000000000 : Int64))), .second, .val (.long (absJ x)), .second, .unset, .unset] [])) _
    refine XS.lloadN X1.here hx rfl (hb hby d6_11) rfl ?_
    show Steps p.tables e below (T1.setTop (mkF m 12 #[.val (.long x), .second, .val (.long (1000000000 : Int64)), .second, .val (.long (x * (1000000000 : Int64))), .second, .val (.long (absJ x)), .second, .unset, .unset] [(.long (1000000000 : Int64))])) _
    refine st2 _ ?_
    show Steps p.tables e below (T2.setTop (mkF m 15 #[.val (.long x), .second, .val (.long (1000000000 : Int64)), .second, .val (.long (x * (1000000000 : Int64))), .second, .val (.long (absJ x)), .second, .unset, .unset] [(.long (absJ (1000000000 : Int64)))])) _
    refine XS.lstore X2.here hx rfl (hb hby d6_15) rfl (l' := #[.val (.long x), .second, .val (.long (1000000000 : Int64)), .second, .val (.long (x * (1000000000 : Int64))), .second, .val (.long (absJ x)), .second, .val (.long (absJ (1000000000 : Int64))), .second]) rfl ?_
    show Steps p.tables e below (T2.setTop (mkF m 17 #[.val (.long x), .second, .val (.long (1000000000 : Int64)), .second, .val (.long (x * (1000000000 : Int64))), .second, .val (.long (absJ x)), .second, .val (.long (absJ (1000000000 : Int64))), .second] [])) _
    refine XS.lload X2.here hx rfl (hb hby d6_17) rfl ?_
    show Steps p.tables e below (T2.setTop (mkF m 19 #[.val (.long x), .second, .val (.long (1000000000 : Int64)), .second, .val (.long (x * (1000000000 : Int64))), .second, .val (.long (absJ x)), .second, .val (.long (absJ (1000000000 : Int64))), .second] [(.long (absJ x))])) _
    refine XS.lload X2.here hx rfl (hb hby d6_19) rfl ?_
    show Steps p.tables e below (T2.setTop (mkF m 21 #[.val (.long x), .second, .val (.long (1000000000 : Int64)), .second, .val (.long (x * (1000000000 : Int64))), .second, .val (.long (absJ x)), .second, .val (.long (absJ (1000000000 : Int64))), .second] [(.long (absJ (1000000000 : Int64))), (.long (absJ x))])) _
    refine XS.lor X2.here hx rfl (hb hby d6_21) rfl ?_
    show Steps p.tables e below (T2.setTop (mkF m 22 #[.val (.long x), .second, .val (.long (1000000000 : Int64)), .second, .val (.long (x * (1000000000 : Int64))), .second, .val (.long (absJ x)), .second, .val (.long (absJ (1000000000 : Int64))), .second] [(.long ((absJ x) ||| (absJ (1000000000 : Int64))))])) _
    refine XS.bipush X2.here hx rfl (hb hby d6_22) ?_
    show Steps p.tables e below (T2.setTop (mkF m 24 #[.val (.long x), .second, .val (.long (1000000000 : Int64)), .second, .val (.long (x * (1000000000 : Int64))), .second, .val (.long (absJ x)), .second, .val (.long (absJ (1000000000 : Int64))), .second] [(.int (31 : Int32)), (.long ((absJ x) ||| (absJ (1000000000 : Int64))))])) _
    refine XS.lushr X2.here hx rfl (hb hby d6_24) rfl ?_
    show Steps p.tables e below (T2.setTop (mkF m 25 #[.val (.long x), .second, .val (.long (1000000000 : Int64)), .second, .val (.long (x * (1000000000 : Int64))), .second, .val (.long (absJ x)), .second, .val (.long (absJ (1000000000 : Int64))), .second] [(.long ((((absJ x) ||| (absJ (1000000000 : Int64))).toUInt64 >>> ((31 : Int32) &&& 0x3f).toInt64.toUInt64).toInt64))])) _
    refine XS.lconst X2.here hx rfl (hb hby d6_25) ?_
    show Steps p.tables e below (T2.setTop (mkF m 26 #[.val (.long x), .second, .val (.long (1000000000 : Int64)), .second, .val (.long (x * (1000000000 : Int64))), .second, .val (.long (absJ x)), .second, .val (.long (absJ (1000000000 : Int64))), .second] [(.long (0 : Int64)), (.long ((((absJ x) ||| (absJ (1000000000 : Int64))).toUInt64 >>> ((31 : Int32) &&& 0x3f).toInt64.toUInt64).toInt64))])) _
    refine XS.lcmp X2.here hx rfl (hb hby d6_26) rfl ?_
    show Steps p.tables e below (T2.setTop (mkF m 27 #[.val (.long x), .second, .val (.long (1000000000 : Int64)), .second, .val (.long (x * (1000000000 : Int64))), .second, .val (.long (absJ x)), .second, .val (.long (absJ (1000000000 : Int64))), .second] [(.int (lcmpW ((((absJ x) ||| (absJ (1000000000 : Int64))).toUInt64 >>> ((31 : Int32) &&& 0x3f).toInt64.toUInt64).toInt64) (0 : Int64)))])) _
    refine XS.ifYes X2.here hx rfl (pc0 := 27) (pc' := 71) rfl (hb hby d6_27) rfl ((if0 _ _).trans (teq (hc27 : (lcmpW ((((absJ x) ||| (absJ (1000000000 : Int64))).toUInt64 >>> ((31 : Int32) &&& 0x3f).toInt64.toUInt64).toInt64) (0 : Int64)) = (0 : Int32))).1) (by decide) (by decide) ?_
    show Steps p.tables e below (T2.setTop (mkF m 71 #[.val (.long x), .second, .val (.long (1000000000 : Int64)), .second, .val (.long (x * (1000000000 : Int64))), .second, .val (.long (absJ x)), .second, .val (.long (absJ (1000000000 : Int64))), .second] [])) _
    refine XS.lload X2.here hx rfl (hb hby d6_71) rfl ?_
    show Steps p.tables e below (T2.setTop (mkF m 73 #[.val (.long x), .second, .val (.long (1000000000 : Int64)), .second, .val (.long (x * (1000000000 : Int64))), .second, .val (.long (absJ x)), .second, .val (.long (absJ (1000000000 : Int64))), .second] [(.long (x * (1000000000 : Int64)))])) _
    jvm_step X2.here [X2.here.top, hx, (hb hby d6_73), X2.method', Bd.returns, narrow]
    first | (intro acts; rw [hr _ acts rfl rfl rfl]) | rw [hr _ _ rfl rfl rfl]
    exact Steps.refl _
  · show Q_mulR Z x h0 n0 _ T2.heap _
    rw [kh2]
    exact ⟨rfl, N2, rfl⟩
theorem d6_30 : decode jdk_29_method_30_code 30 = .ok (.lload_n 2, 1) := by decide +kernel
theorem d6_31 : decode jdk_29_method_30_code 31 = .ok (.lconst 0, 1) := by decide +kernel
theorem d6_32 : decode jdk_29_method_30_code 32 = .ok (.lcmp, 1) := by decide +kernel
theorem d6_33 : decode jdk_29_method_30_code 33 = .ok (.ifCond .eq 12, 3) := by decide +kernel
theorem d6_36 : decode jdk_29_method_30_code 36 = .ok (.lload 4, 2) := by decide +kernel
theorem d6_38 : decode jdk_29_method_30_code 38 = .ok (.lload_n 2, 1) := by decide +kernel
theorem d6_39 : decode jdk_29_method_30_code 39 = .ok (.ldiv, 1) := by decide +kernel
theorem d6_40 : decode jdk_29_method_30_code 40 = .ok (.lload_n 0, 1) := by decide +kernel
theorem d6_41 : decode jdk_29_method_30_code 41 = .ok (.lcmp, 1) := by decide +kernel
theorem d6_42 : decode jdk_29_method_30_code 42 = .ok (.ifCond .ne 19, 3) := by decide +kernel
theorem d6_45 : decode jdk_29_method_30_code 45 = .ok (.lload_n 0, 1) := by decide +kernel
theorem d6_46 : decode jdk_29_method_30_code 46 = .ok (.ldc2_w 128, 3) := by decide +kernel
theorem d6_49 : decode jdk_29_method_30_code 49 = .ok (.lcmp, 1) := by decide +kernel
theorem d6_50 : decode jdk_29_method_30_code 50 = .ok (.ifCond .ne 21, 3) := by decide +kernel
set_option maxRecDepth 65536 in
set_option maxHeartbeats 40000000 in
theorem mulR_2 (l : Launch) (Z : State) (a0 : Array Value) (hw : ∀ d ∈ tables_1, d.before a0 Z = true) (ws : List Jvm.Cond) (x : Int64) (h0 : Heap) (n0 : Nat) (O0 : Old Z n0 h0) (hf : Fits (x.toInt * 1000000000)) (hc27 : ¬ ((lcmpW ((((absJ x) ||| (absJ (1000000000 : Int64))).toUInt64 >>> ((31 : Int32) &&& 0x3f).toInt64.toUInt64).toInt64) (0 : Int64)) = (0 : Int32))) :
    MetFree l (⟨"java/lang/Math", "multiplyExact", "(JJ)J"⟩ : MethodName) (head1 (Jvm.Cond.code (⟨"java/lang/Math", "multiplyExact", "(JJ)J"⟩ : MethodName) jdk_29_method_30_code 10 (some .long) :: ws) ({ frames := 1, cells := 0, slots := 0, locals := 13 } : Room)) (fun zA zU => zA = #[(.long x), (.long (1000000000 : Int64))] ∧ Z.Warmed39 zU.vm ∧ zU.heap = h0) (fun _ _ _ _ _ => True) (fun _ zU zo zU' => ∃ zv zL, zo = .returned zv ∧ Q_mulR Z x h0 n0 zv zU'.heap zL ∧ FrameEnd zU zo zU' zL ({ frames := 1, cells := 0, slots := 0, locals := 13 } : Room).cells ({ frames := 1, cells := 0, slots := 0, locals := 13 } : Room).slots) := by
  refine MetFree.of_bodySF (Jvm.Free.JP.mathPlain rfl (by decide +kernel)) hisR ?_
  intro p e s m args below meth c s₁ Bd hml0 hP hK
  obtain ⟨rfl, hZ, hh⟩ := hP
  have hx := Bd.exec
  have hby := Bd.bytes
  have hml : c.maxLocals = 10 := hml0
  have hown : s.vm.findClass "java/lang/Math" = some m.cls := findClass_of_methodNamed Bd.named
  have hnm := (name_of_methodNamed Bd.named Bd.method).1
  have X0 : Stand p l e ({ frames := 1, cells := 0, slots := 0, locals := 13 } : Room) s m #[(.long x), (.long (1000000000 : Int64))] below meth c s₁ [] 0 0 := Stand.of_body Bd
  have e0 : s₁.heap = h0 := by rw [← hh, Bd.state]; rfl
  have N0 := Fr.nil n0
  have Z0 : n0 ≤ h0.size := O0.1 ▸ O0.2.1
  have pre0 : ∀ zt, Steps p.tables e below (s₁.setTop (mkF m 0 #[.val (.long x), .second, .val (.long (1000000000 : Int64)), .second, .unset, .unset, .unset, .unset, .unset, .unset] [])) zt → Steps p.tables e below (s₁.setTop (entryFrame m #[(.long x), (.long (1000000000 : Int64))] 10)) zt := fun zt zk => castTop (ef_6_JJ m x (1000000000 : Int64)) zk
  obtain ⟨_, _, ⟨T1, L1, k1, n1⟩, -, X1, ⟨Lc1, hQ1, l1, y1, z1⟩, st1⟩ := Jvm.LawKit.callS X0 hx (y := (⟨"java/lang/Math", "abs", "(J)J"⟩ : MethodName)) hown (mvT hZ (hw _ (List.mem_of_getElem? (i := 47) rfl))) (mvT hZ (hw _ (List.mem_of_getElem? (i := 48) rfl))) (mvT hZ (hw _ (List.mem_of_getElem? (i := 45) rfl))) (mvT hZ (hw _ (List.mem_of_getElem? (i := 49) rfl))) (by decide) (backOf (W := 0) (absR l Z a0 hw [] x h0 n0 O0 ) hZ (hw _ (List.mem_of_getElem? (i := 49) rfl)) (hw _ (List.mem_of_getElem? (i := 45) rfl)) (by decide) (by decide)) (g := (mkF m 6 #[.val (.long x), .second, .val (.long (1000000000 : Int64)), .second, .val (.long (x * (1000000000 : Int64))), .second, .unset, .unset, .unset, .unset] [(.long x)])) rfl (by rw [hml]; rfl) (argsL := [(.long x)]) (rest := []) (lenOf pd_0 rfl) rfl (by show 2 * 0 + _ ≤ _; exact Nat.le_of_eq rfl) (hb hby d6_6) (fun _ _ => ⟨rfl, e0, (by decide : 0 + 0 ≤ _), (by decide : 0 + 0 ≤ _)⟩)
  dsimp only [Pt.U, Pt.locs, Pt.cells, Pt.slots] at X1 l1 y1 z1 st1 hQ1
  subst l1 y1 z1
  obtain ⟨rfl, Nq1, kh1⟩ := hQ1
  have N1 := Fr.app N0 Nq1
  obtain ⟨_, _, ⟨T2, L2, k2, n2⟩, -, X2, ⟨Lc2, hQ2, l2, y2, z2⟩, st2⟩ := Jvm.LawKit.callS X1 hx (y := (⟨"java/lang/Math", "abs", "(J)J"⟩ : MethodName)) hown (mvT hZ (hw _ (List.mem_of_getElem? (i := 47) rfl))) (mvT hZ (hw _ (List.mem_of_getElem? (i := 48) rfl))) (mvT hZ (hw _ (List.mem_of_getElem? (i := 45) rfl))) (mvT hZ (hw _ (List.mem_of_getElem? (i := 49) rfl))) (by decide) (backOf (W := 0) (absR l Z a0 hw [] (1000000000 : Int64) h0 n0 O0 ) hZ (hw _ (List.mem_of_getElem? (i := 49) rfl)) (hw _ (List.mem_of_getElem? (i := 45) rfl)) (by decide) (by decide)) (g := (mkF m 12 #[.val (.long x), .second, .val (.long (1000000000 : Int64)), .second, .val (.long (x * (1000000000 : Int64))), .second, .val (.long (absJ x)), .second, .unset, .unset] [(.long (1000000000 : Int64))])) rfl (by rw [hml]; rfl) (argsL := [(.long (1000000000 : Int64))]) (rest := []) (lenOf pd_0 rfl) rfl (by show 2 * 0 + _ ≤ _; exact Nat.le_of_eq rfl) (hb hby d6_12) (fun _ _ => ⟨rfl, kh1, (by decide : 0 + 0 ≤ _), (by decide : 0 + 0 ≤ _)⟩)
  dsimp only [Pt.U, Pt.locs, Pt.cells, Pt.slots] at X2 l2 y2 z2 st2 hQ2
  subst l2 y2 z2
  obtain ⟨rfl, Nq2, kh2⟩ := hQ2
  have N2 := Fr.app N1 Nq2
  obtain ⟨fs, hr, hrun, hended, hW, hsame⟩ := X2.leave (v := some (.long (x * (1000000000 : Int64)))) (fun h => by rw [Bd.returns] at h; cases h)
  refine ⟨_, _, pre0 _ ?_, hrun, hended, _, _, rfl, ?_, ⟨_, rfl⟩, hW, hsame.mono (by decide) (by decide)⟩
  · show Steps p.tables e below (s₁.setTop (mkF m 0 #[.val (.long x), .second, .val (.long (1000000000 : Int64)), .second, .unset, .unset, .unset, .unset, .unset, .unset] [])) _
    refine XS.lloadN X0.here hx rfl (hb hby d6_0) rfl ?_
    show Steps p.tables e below (s₁.setTop (mkF m 1 #[.val (.long x), .second, .val (.long (1000000000 : Int64)), .second, .unset, .unset, .unset, .unset, .unset, .unset] [(.long x)])) _
    refine XS.lloadN X0.here hx rfl (hb hby d6_1) rfl ?_
    show Steps p.tables e below (s₁.setTop (mkF m 2 #[.val (.long x), .second, .val (.long (1000000000 : Int64)), .second, .unset, .unset, .unset, .unset, .unset, .unset] [(.long (1000000000 : Int64)), (.long x)])) _
    refine XS.lmul X0.here hx rfl (hb hby d6_2) rfl ?_
    show Steps p.tables e below (s₁.setTop (mkF m 3 #[.val (.long x), .second, .val (.long (1000000000 : Int64)), .second, .unset, .unset, .unset, .unset, .unset, .unset] [(.long (x * (1000000000 : Int64)))])) _
    refine XS.lstore X0.here hx rfl (hb hby d6_3) rfl (l' := #[.val (.long x), .second, .val (.long (1000000000 : Int64)), .second, .val (.long (x * (1000000000 : Int64))), .second, .unset, .unset, .unset, .unset]) rfl ?_
    show Steps p.tables e below (s₁.setTop (mkF m 5 #[.val (.long x), .second, .val (.long (1000000000 : Int64)), .second, .val (.long (x * (1000000000 : Int64))), .second, .unset, .unset, .unset, .unset] [])) _
    refine XS.lloadN X0.here hx rfl (hb hby d6_5) rfl ?_
    show Steps p.tables e below (s₁.setTop (mkF m 6 #[.val (.long x), .second, .val (.long (1000000000 : Int64)), .second, .val (.long (x * (1000000000 : Int64))), .second, .unset, .unset, .unset, .unset] [(.long x)])) _
    refine st1 _ ?_
    show Steps p.tables e below (T1.setTop (mkF m 9 #[.val (.long x), .second, .val (.long (1000000000 : Int64)), .second, .val (.long (x * (1000000000 : Int64))), .second, .unset, .unset, .unset, .unset] [(.long (absJ x))])) _
    refine XS.lstore X1.here hx rfl (hb hby d6_9) rfl (l' := #[.val (.long x), .second, .val (.long (1000000000 : Int64)), .second, .val (.long (x * (1000000000 : Int64))), .second, .val (.long (absJ x)), .second, .unset, .unset]) rfl ?_
    show Steps p.tables e below (T1.setTop (mkF m 11 #[.val (.long x), .second, .val (.long (1000000000 : Int64)), .second, .val (.long (x * (1000000000 : Int64))), .second, .val (.long (absJ x)), .second, .unset, .unset] [])) _
    refine XS.lloadN X1.here hx rfl (hb hby d6_11) rfl ?_
    show Steps p.tables e below (T1.setTop (mkF m 12 #[.val (.long x), .second, .val (.long (1000000000 : Int64)), .second, .val (.long (x * (1000000000 : Int64))), .second, .val (.long (absJ x)), .second, .unset, .unset] [(.long (1000000000 : Int64))])) _
    refine st2 _ ?_
    show Steps p.tables e below (T2.setTop (mkF m 15 #[.val (.long x), .second, .val (.long (1000000000 : Int64)), .second, .val (.long (x * (1000000000 : Int64))), .second, .val (.long (absJ x)), .second, .unset, .unset] [(.long (absJ (1000000000 : Int64)))])) _
    refine XS.lstore X2.here hx rfl (hb hby d6_15) rfl (l' := #[.val (.long x), .second, .val (.long (1000000000 : Int64)), .second, .val (.long (x * (1000000000 : Int64))), .second, .val (.long (absJ x)), .second, .val (.long (absJ (1000000000 : Int64))), .second]) rfl ?_
    show Steps p.tables e below (T2.setTop (mkF m 17 #[.val (.long x), .second, .val (.long (1000000000 : Int64)), .second, .val (.long (x * (1000000000 : Int64))), .second, .val (.long (absJ x)), .second, .val (.long (absJ (1000000000 : Int64))), .second] [])) _
    refine XS.lload X2.here hx rfl (hb hby d6_17) rfl ?_
    show Steps p.tables e below (T2.setTop (mkF m 19 #[.val (.long x), .second, .val (.long (1000000000 : Int64)), .second, .val (.long (x * (1000000000 : Int64))), .second, .val (.long (absJ x)), .second, .val (.long (absJ (1000000000 : Int64))), .second] [(.long (absJ x))])) _
    refine XS.lload X2.here hx rfl (hb hby d6_19) rfl ?_
    show Steps p.tables e below (T2.setTop (mkF m 21 #[.val (.long x), .second, .val (.long (1000000000 : Int64)), .second, .val (.long (x * (1000000000 : Int64))), .second, .val (.long (absJ x)), .second, .val (.long (absJ (1000000000 : Int64))), .second] [(.long (absJ (1000000000 : Int64))), (.long (absJ x))])) _
    refine XS.lor X2.here hx rfl (hb hby d6_21) rfl ?_
    show Steps p.tables e below (T2.setTop (mkF m 22 #[.val (.long x), .second, .val (.long (1000000000 : Int64)), .second, .val (.long (x * (1000000000 : Int64))), .second, .val (.long (absJ x)), .second, .val (.long (absJ (1000000000 : Int64))), .second] [(.long ((absJ x) ||| (absJ (1000000000 : Int64))))])) _
    refine XS.bipush X2.here hx rfl (hb hby d6_22) ?_
    show Steps p.tables e below (T2.setTop (mkF m 24 #[.val (.long x), .second, .val (.long (1000000000 : Int64)), .second, .val (.long (x * (1000000000 : Int64))), .second, .val (.long (absJ x)), .second, .val (.long (absJ (1000000000 : Int64))), .second] [(.int (31 : Int32)), (.long ((absJ x) ||| (absJ (1000000000 : Int64))))])) _
    refine XS.lushr X2.here hx rfl (hb hby d6_24) rfl ?_
    show Steps p.tables e below (T2.setTop (mkF m 25 #[.val (.long x), .second, .val (.long (1000000000 : Int64)), .second, .val (.long (x * (1000000000 : Int64))), .second, .val (.long (absJ x)), .second, .val (.long (absJ (1000000000 : Int64))), .second] [(.long ((((absJ x) ||| (absJ (1000000000 : Int64))).toUInt64 >>> ((31 : Int32) &&& 0x3f).toInt64.toUInt64).toInt64))])) _
    refine XS.lconst X2.here hx rfl (hb hby d6_25) ?_
    show Steps p.tables e below (T2.setTop (mkF m 26 #[.val (.long x), .second, .val (.long (1000000000 : Int64)), .second, .val (.long (x * (1000000000 : Int64))), .second, .val (.long (absJ x)), .second, .val (.long (absJ (1000000000 : Int64))), .second] [(.long (0 : Int64)), (.long ((((absJ x) ||| (absJ (1000000000 : Int64))).toUInt64 >>> ((31 : Int32) &&& 0x3f).toInt64.toUInt64).toInt64))])) _
    refine XS.lcmp X2.here hx rfl (hb hby d6_26) rfl ?_
    show Steps p.tables e below (T2.setTop (mkF m 27 #[.val (.long x), .second, .val (.long (1000000000 : Int64)), .second, .val (.long (x * (1000000000 : Int64))), .second, .val (.long (absJ x)), .second, .val (.long (absJ (1000000000 : Int64))), .second] [(.int (lcmpW ((((absJ x) ||| (absJ (1000000000 : Int64))).toUInt64 >>> ((31 : Int32) &&& 0x3f).toInt64.toUInt64).toInt64) (0 : Int64)))])) _
    refine XS.ifNo X2.here hx rfl (hb hby d6_27) rfl ((if0 _ _).trans (feq (hc27 : ¬ ((lcmpW ((((absJ x) ||| (absJ (1000000000 : Int64))).toUInt64 >>> ((31 : Int32) &&& 0x3f).toInt64.toUInt64).toInt64) (0 : Int64)) = (0 : Int32)))).1) ?_
    show Steps p.tables e below (T2.setTop (mkF m 30 #[.val (.long x), .second, .val (.long (1000000000 : Int64)), .second, .val (.long (x * (1000000000 : Int64))), .second, .val (.long (absJ x)), .second, .val (.long (absJ (1000000000 : Int64))), .second] [])) _
    refine XS.lloadN X2.here hx rfl (hb hby d6_30) rfl ?_
    show Steps p.tables e below (T2.setTop (mkF m 31 #[.val (.long x), .second, .val (.long (1000000000 : Int64)), .second, .val (.long (x * (1000000000 : Int64))), .second, .val (.long (absJ x)), .second, .val (.long (absJ (1000000000 : Int64))), .second] [(.long (1000000000 : Int64))])) _
    refine XS.lconst X2.here hx rfl (hb hby d6_31) ?_
    show Steps p.tables e below (T2.setTop (mkF m 32 #[.val (.long x), .second, .val (.long (1000000000 : Int64)), .second, .val (.long (x * (1000000000 : Int64))), .second, .val (.long (absJ x)), .second, .val (.long (absJ (1000000000 : Int64))), .second] [(.long (0 : Int64)), (.long (1000000000 : Int64))])) _
    refine XS.lcmp X2.here hx rfl (hb hby d6_32) rfl ?_
    show Steps p.tables e below (T2.setTop (mkF m 33 #[.val (.long x), .second, .val (.long (1000000000 : Int64)), .second, .val (.long (x * (1000000000 : Int64))), .second, .val (.long (absJ x)), .second, .val (.long (absJ (1000000000 : Int64))), .second] [(.int (lcmpW (1000000000 : Int64) (0 : Int64)))])) _
    refine XS.ifNo X2.here hx rfl (hb hby d6_33) rfl ((if0 _ _).trans (feq ((by decide) : ¬ ((lcmpW (1000000000 : Int64) (0 : Int64)) = (0 : Int32)))).1) ?_
    show Steps p.tables e below (T2.setTop (mkF m 36 #[.val (.long x), .second, .val (.long (1000000000 : Int64)), .second, .val (.long (x * (1000000000 : Int64))), .second, .val (.long (absJ x)), .second, .val (.long (absJ (1000000000 : Int64))), .second] [])) _
    refine XS.lload X2.here hx rfl (hb hby d6_36) rfl ?_
    show Steps p.tables e below (T2.setTop (mkF m 38 #[.val (.long x), .second, .val (.long (1000000000 : Int64)), .second, .val (.long (x * (1000000000 : Int64))), .second, .val (.long (absJ x)), .second, .val (.long (absJ (1000000000 : Int64))), .second] [(.long (x * (1000000000 : Int64)))])) _
    refine XS.lloadN X2.here hx rfl (hb hby d6_38) rfl ?_
    show Steps p.tables e below (T2.setTop (mkF m 39 #[.val (.long x), .second, .val (.long (1000000000 : Int64)), .second, .val (.long (x * (1000000000 : Int64))), .second, .val (.long (absJ x)), .second, .val (.long (absJ (1000000000 : Int64))), .second] [(.long (1000000000 : Int64)), (.long (x * (1000000000 : Int64)))])) _
    refine XS.ldiv X2.here hx rfl (hb hby d6_39) rfl (by decide) ?_
    show Steps p.tables e below (T2.setTop (mkF m 40 #[.val (.long x), .second, .val (.long (1000000000 : Int64)), .second, .val (.long (x * (1000000000 : Int64))), .second, .val (.long (absJ x)), .second, .val (.long (absJ (1000000000 : Int64))), .second] [(.long ((x * (1000000000 : Int64)) / (1000000000 : Int64)))])) _
    refine XS.lloadN X2.here hx rfl (hb hby d6_40) rfl ?_
    show Steps p.tables e below (T2.setTop (mkF m 41 #[.val (.long x), .second, .val (.long (1000000000 : Int64)), .second, .val (.long (x * (1000000000 : Int64))), .second, .val (.long (absJ x)), .second, .val (.long (absJ (1000000000 : Int64))), .second] [(.long x), (.long ((x * (1000000000 : Int64)) / (1000000000 : Int64)))])) _
    refine XS.lcmp X2.here hx rfl (hb hby d6_41) rfl ?_
    show Steps p.tables e below (T2.setTop (mkF m 42 #[.val (.long x), .second, .val (.long (1000000000 : Int64)), .second, .val (.long (x * (1000000000 : Int64))), .second, .val (.long (absJ x)), .second, .val (.long (absJ (1000000000 : Int64))), .second] [(.int (lcmpW ((x * (1000000000 : Int64)) / (1000000000 : Int64)) x))])) _
    refine XS.ifNo X2.here hx rfl (hb hby d6_42) rfl ((if0 _ _).trans (teq ((own_mul hf) : (lcmpW ((x * (1000000000 : Int64)) / (1000000000 : Int64)) x) = (0 : Int32))).2) ?_
    show Steps p.tables e below (T2.setTop (mkF m 45 #[.val (.long x), .second, .val (.long (1000000000 : Int64)), .second, .val (.long (x * (1000000000 : Int64))), .second, .val (.long (absJ x)), .second, .val (.long (absJ (1000000000 : Int64))), .second] [])) _
    refine XS.lloadN X2.here hx rfl (hb hby d6_45) rfl ?_
    show Steps p.tables e below (T2.setTop (mkF m 46 #[.val (.long x), .second, .val (.long (1000000000 : Int64)), .second, .val (.long (x * (1000000000 : Int64))), .second, .val (.long (absJ x)), .second, .val (.long (absJ (1000000000 : Int64))), .second] [(.long x)])) _
    refine X2.ldc2Long hx hown (mvT hZ (hw _ (List.mem_of_getElem? (i := 79) rfl))) (g := (mkF m 46 #[.val (.long x), .second, .val (.long (1000000000 : Int64)), .second, .val (.long (x * (1000000000 : Int64))), .second, .val (.long (absJ x)), .second, .val (.long (absJ (1000000000 : Int64))), .second] [(.long x)])) rfl (hb hby d6_46) _ ?_
    show Steps p.tables e below (T2.setTop (mkF m 49 #[.val (.long x), .second, .val (.long (1000000000 : Int64)), .second, .val (.long (x * (1000000000 : Int64))), .second, .val (.long (absJ x)), .second, .val (.long (absJ (1000000000 : Int64))), .second] [(.long (-9223372036854775808 : Int64)), (.long x)])) _
    refine XS.lcmp X2.here hx rfl (hb hby d6_49) rfl ?_
    show Steps p.tables e below (T2.setTop (mkF m 50 #[.val (.long x), .second, .val (.long (1000000000 : Int64)), .second, .val (.long (x * (1000000000 : Int64))), .second, .val (.long (absJ x)), .second, .val (.long (absJ (1000000000 : Int64))), .second] [(.int (lcmpW x (-9223372036854775808 : Int64)))])) _
    refine XS.ifYes X2.here hx rfl (pc0 := 50) (pc' := 71) rfl (hb hby d6_50) rfl ((if0 _ _).trans (feq ((own_min hf) : ¬ ((lcmpW x (-9223372036854775808 : Int64)) = (0 : Int32)))).2) (by decide) (by decide) ?_
    show Steps p.tables e below (T2.setTop (mkF m 71 #[.val (.long x), .second, .val (.long (1000000000 : Int64)), .second, .val (.long (x * (1000000000 : Int64))), .second, .val (.long (absJ x)), .second, .val (.long (absJ (1000000000 : Int64))), .second] [])) _
    refine XS.lload X2.here hx rfl (hb hby d6_71) rfl ?_
    show Steps p.tables e below (T2.setTop (mkF m 73 #[.val (.long x), .second, .val (.long (1000000000 : Int64)), .second, .val (.long (x * (1000000000 : Int64))), .second, .val (.long (absJ x)), .second, .val (.long (absJ (1000000000 : Int64))), .second] [(.long (x * (1000000000 : Int64)))])) _
    jvm_step X2.here [X2.here.top, hx, (hb hby d6_73), X2.method', Bd.returns, narrow]
    first | (intro acts; rw [hr _ acts rfl rfl rfl]) | rw [hr _ _ rfl rfl rfl]
    exact Steps.refl _
  · show Q_mulR Z x h0 n0 _ T2.heap _
    rw [kh2]
    exact ⟨rfl, N2, rfl⟩
set_option maxRecDepth 65536 in
set_option maxHeartbeats 40000000 in
theorem mulR (l : Launch) (Z : State) (a0 : Array Value) (hw : ∀ d ∈ tables_1, d.before a0 Z = true) (ws : List Jvm.Cond) (x : Int64) (h0 : Heap) (n0 : Nat) (O0 : Old Z n0 h0) (hf : Fits (x.toInt * 1000000000)) :
    MetFree l (⟨"java/lang/Math", "multiplyExact", "(JJ)J"⟩ : MethodName) (head1 (Jvm.Cond.code (⟨"java/lang/Math", "multiplyExact", "(JJ)J"⟩ : MethodName) jdk_29_method_30_code 10 (some .long) :: ws) ({ frames := 1, cells := 0, slots := 0, locals := 13 } : Room)) (fun zA zU => zA = #[(.long x), (.long (1000000000 : Int64))] ∧ Z.Warmed39 zU.vm ∧ zU.heap = h0) (fun _ _ _ _ _ => True) (fun _ zU zo zU' => ∃ zv zL, zo = .returned zv ∧ Q_mulR Z x h0 n0 zv zU'.heap zL ∧ FrameEnd zU zo zU' zL ({ frames := 1, cells := 0, slots := 0, locals := 13 } : Room).cells ({ frames := 1, cells := 0, slots := 0, locals := 13 } : Room).slots) := by
  by_cases h1 : (lcmpW ((((absJ x) ||| (absJ (1000000000 : Int64))).toUInt64 >>> ((31 : Int32) &&& 0x3f).toInt64.toUInt64).toInt64) (0 : Int64)) = (0 : Int32)
  · exact mulR_1 l Z a0 hw ws x h0 n0 O0 hf h1
  · exact mulR_2 l Z a0 hw ws x h0 n0 O0 hf h1
def Q_toN (Z : State) (a : Addr) (s1 : Int64) (n1 : Int32) (q : Int64) (h0 : Heap) (n0 : Nat) (v : Option Value) (h : Heap) (L : List Loc) : Prop := v = some (.long q) ∧ Fr n0 L ∧ h = h0
theorem d7_0 : decode jdk_2316_method_58_code 0 = .ok (.aload_n 0, 1) := by decide +kernel
theorem d7_1 : decode jdk_2316_method_58_code 1 = .ok (.getfield 221, 3) := by decide +kernel
theorem d7_4 : decode jdk_2316_method_58_code 4 = .ok (.lstore_n 1, 1) := by decide +kernel
theorem d7_5 : decode jdk_2316_method_58_code 5 = .ok (.aload_n 0, 1) := by decide +kernel
theorem d7_6 : decode jdk_2316_method_58_code 6 = .ok (.getfield 224, 3) := by decide +kernel
theorem d7_9 : decode jdk_2316_method_58_code 9 = .ok (.i2l, 1) := by decide +kernel
theorem d7_10 : decode jdk_2316_method_58_code 10 = .ok (.lstore_n 3, 1) := by decide +kernel
theorem d7_11 : decode jdk_2316_method_58_code 11 = .ok (.lload_n 1, 1) := by decide +kernel
theorem d7_12 : decode jdk_2316_method_58_code 12 = .ok (.lconst 0, 1) := by decide +kernel
theorem d7_13 : decode jdk_2316_method_58_code 13 = .ok (.lcmp, 1) := by decide +kernel
theorem d7_14 : decode jdk_2316_method_58_code 14 = .ok (.ifCond .ge 13, 3) := by decide +kernel
theorem d7_27 : decode jdk_2316_method_58_code 27 = .ok (.lload_n 1, 1) := by decide +kernel
theorem d7_28 : decode jdk_2316_method_58_code 28 = .ok (.ldc2_w 16, 3) := by decide +kernel
theorem d7_31 : decode jdk_2316_method_58_code 31 = .ok (.invokestatic 289, 3) := by decide +kernel
theorem pd_1 : parseMethodDescriptor "(JJ)J" = some ⟨[.long, .long], some .long⟩ := by decide +kernel
theorem d7_34 : decode jdk_2316_method_58_code 34 = .ok (.lstore 5, 2) := by decide +kernel
theorem d7_36 : decode jdk_2316_method_58_code 36 = .ok (.lload 5, 2) := by decide +kernel
theorem d7_38 : decode jdk_2316_method_58_code 38 = .ok (.lload_n 3, 1) := by decide +kernel
theorem d7_39 : decode jdk_2316_method_58_code 39 = .ok (.invokestatic 22, 3) := by decide +kernel
theorem d7_42 : decode jdk_2316_method_58_code 42 = .ok (.lstore 5, 2) := by decide +kernel
theorem d7_44 : decode jdk_2316_method_58_code 44 = .ok (.lload 5, 2) := by decide +kernel
theorem d7_46 : decode jdk_2316_method_58_code 46 = .ok (.lreturn, 1) := by decide +kernel
theorem pn_8 : plainName "java/time/Duration" = true := by first | (simp [plainName, overriddenIn]; done) | decide +kernel
theorem ef_7_R (m : MethodId) (x0 : Addr) : entryFrame m #[(.ref x0)] 7 = mkF m 0 #[.val (.ref x0), .unset, .unset, .unset, .unset, .unset, .unset] [] := by first | (simp [entryFrame, mkF, argsToLocals, Value.category]; done) | rfl
set_option maxRecDepth 65536 in
set_option maxHeartbeats 40000000 in
theorem toN_1 (l : Launch) (Z : State) (a0 : Array Value) (hw : ∀ d ∈ tables_1, d.before a0 Z = true) (ws : List Jvm.Cond) (a : Addr) (s1 : Int64) (n1 : Int32) (q : Int64) (h0 : Heap) (n0 : Nat) (O0 : Old Z n0 h0) (P0 : Fld Z h0 a "java/time/Duration" "seconds" "J" (.long s1)) (P1 : Fld Z h0 a "java/time/Duration" "nanos" "I" (.int n1)) (hd : DurOf s1 n1 q) (hc14 : ¬ ((lcmpW s1 (0 : Int64)) < (0 : Int32))) :
    MetFree l (⟨"java/time/Duration", "toNanos", "()J"⟩ : MethodName) (head1 (Jvm.Cond.code (⟨"java/time/Duration", "toNanos", "()J"⟩ : MethodName) jdk_2316_method_58_code 7 (some .long) :: ws) ({ frames := 2, cells := 0, slots := 0, locals := 34 } : Room)) (fun zA zU => zA = #[(.ref a)] ∧ Z.Warmed39 zU.vm ∧ zU.heap = h0) (fun _ _ _ _ _ => True) (fun _ zU zo zU' => ∃ zv zL, zo = .returned zv ∧ Q_toN Z a s1 n1 q h0 n0 zv zU'.heap zL ∧ FrameEnd zU zo zU' zL ({ frames := 2, cells := 0, slots := 0, locals := 34 } : Room).cells ({ frames := 2, cells := 0, slots := 0, locals := 34 } : Room).slots) := by
  refine MetFree.of_bodySF (plainFor_of_name pn_8) hisR ?_
  intro p e s m args below meth c s₁ Bd hml0 hP hK
  obtain ⟨rfl, hZ, hh⟩ := hP
  have hx := Bd.exec
  have hby := Bd.bytes
  have hml : c.maxLocals = 7 := hml0
  have hown : s.vm.findClass "java/time/Duration" = some m.cls := findClass_of_methodNamed Bd.named
  have hnm := (name_of_methodNamed Bd.named Bd.method).1
  have X0 : Stand p l e ({ frames := 2, cells := 0, slots := 0, locals := 34 } : Room) s m #[(.ref a)] below meth c s₁ [] 0 0 := Stand.of_body Bd
  have e0 : s₁.heap = h0 := by rw [← hh, Bd.state]; rfl
  have N0 := Fr.nil n0
  have Z0 : n0 ≤ h0.size := O0.1 ▸ O0.2.1
  have pre0 : ∀ zt, Steps p.tables e below (s₁.setTop (mkF m 0 #[.val (.ref a), .unset, .unset, .unset, .unset, .unset, .unset] [])) zt → Steps p.tables e below (s₁.setTop (entryFrame m #[(.ref a)] 7)) zt := fun zt zk => castTop (ef_7_R m a) zk
  obtain ⟨T1, X1, e1, st1⟩ := getF X0 hx hZ hown (host := "") (Or.inl (hw _ (List.mem_of_getElem? (i := 19) rfl))) Via.refl e0 P0 (g := (mkF m 1 #[.val (.ref a), .unset, .unset, .unset, .unset, .unset, .unset] [(.ref a)])) rfl rfl (hb hby d7_1)
  obtain ⟨T2, X2, e2, st2⟩ := getF X1 hx hZ hown (host := "") (Or.inl (hw _ (List.mem_of_getElem? (i := 21) rfl))) Via.refl e1 P1 (g := (mkF m 6 #[.val (.ref a), .val (.long s1), .second, .unset, .unset, .unset, .unset] [(.ref a)])) rfl rfl (hb hby d7_6)
  obtain ⟨_, _, ⟨T3, L3, k3, n3⟩, -, X3, ⟨Lc3, hQ3, l3, y3, z3⟩, st3⟩ := Jvm.LawKit.callS X2 hx (y := (⟨"java/lang/Math", "multiplyExact", "(JJ)J"⟩ : MethodName)) hown (mvT hZ (hw _ (List.mem_of_getElem? (i := 43) rfl))) (mvT hZ (hw _ (List.mem_of_getElem? (i := 44) rfl))) (mvT hZ (hw _ (List.mem_of_getElem? (i := 45) rfl))) (mvT hZ (hw _ (List.mem_of_getElem? (i := 46) rfl))) (by decide) (backOf (W := 0) (mulR l Z a0 hw [] s1 h0 n0 O0 (tn_1 hd hc14)) hZ (hw _ (List.mem_of_getElem? (i := 46) rfl)) (hw _ (List.mem_of_getElem? (i := 45) rfl)) (by decide) (by decide)) (g := (mkF m 31 #[.val (.ref a), .val (.long s1), .second, .val (.long (n1.toInt64)), .second, .unset, .unset] [(.long (1000000000 : Int64)), (.long s1)])) rfl (by rw [hml]; rfl) (argsL := [(.long s1), (.long (1000000000 : Int64))]) (rest := []) (lenOf pd_1 rfl) rfl (by show 2 * 0 + _ ≤ _; exact Nat.le_of_eq rfl) (hb hby d7_31) (fun _ _ => ⟨rfl, e2, (by decide : 0 + 0 ≤ _), (by decide : 0 + 0 ≤ _)⟩)
  dsimp only [Pt.U, Pt.locs, Pt.cells, Pt.slots] at X3 l3 y3 z3 st3 hQ3
  subst l3 y3 z3
  obtain ⟨rfl, Nq3, kh3⟩ := hQ3
  have N3 := Fr.app N0 Nq3
  obtain ⟨_, _, ⟨T4, L4, k4, n4⟩, -, X4, ⟨Lc4, hQ4, l4, y4, z4⟩, st4⟩ := Jvm.LawKit.callS X3 hx (y := (⟨"java/lang/Math", "addExact", "(JJ)J"⟩ : MethodName)) hown (mvT hZ (hw _ (List.mem_of_getElem? (i := 50) rfl))) (mvT hZ (hw _ (List.mem_of_getElem? (i := 51) rfl))) (mvT hZ (hw _ (List.mem_of_getElem? (i := 45) rfl))) (mvT hZ (hw _ (List.mem_of_getElem? (i := 52) rfl))) (by decide) (backOf (W := 0) (addR l Z a0 hw [] (s1 * (1000000000 : Int64)) (n1.toInt64) h0 n0 O0 (tn_2 hd hc14)) hZ (hw _ (List.mem_of_getElem? (i := 52) rfl)) (hw _ (List.mem_of_getElem? (i := 45) rfl)) (by decide) (by decide)) (g := (mkF m 39 #[.val (.ref a), .val (.long s1), .second, .val (.long (n1.toInt64)), .second, .val (.long (s1 * (1000000000 : Int64))), .second] [(.long (n1.toInt64)), (.long (s1 * (1000000000 : Int64)))])) rfl (by rw [hml]; rfl) (argsL := [(.long (s1 * (1000000000 : Int64))), (.long (n1.toInt64))]) (rest := []) (lenOf pd_1 rfl) rfl (by show 2 * 0 + _ ≤ _; exact Nat.le_of_eq rfl) (hb hby d7_39) (fun _ _ => ⟨rfl, kh3, (by decide : 0 + 0 ≤ _), (by decide : 0 + 0 ≤ _)⟩)
  dsimp only [Pt.U, Pt.locs, Pt.cells, Pt.slots] at X4 l4 y4 z4 st4 hQ4
  subst l4 y4 z4
  obtain ⟨rfl, Nq4, kh4⟩ := hQ4
  have N4 := Fr.app N3 Nq4
  obtain ⟨fs, hr, hrun, hended, hW, hsame⟩ := X4.leave (v := some (.long ((s1 * (1000000000 : Int64)) + (n1.toInt64)))) (fun h => by rw [Bd.returns] at h; cases h)
  refine ⟨_, _, pre0 _ ?_, hrun, hended, _, _, rfl, ?_, ⟨_, rfl⟩, hW, hsame.mono (by decide) (by decide)⟩
  · show Steps p.tables e below (s₁.setTop (mkF m 0 #[.val (.ref a), .unset, .unset, .unset, .unset, .unset, .unset] [])) _
    refine XS.aloadN X0.here hx rfl (hb hby d7_0) rfl rfl ?_
    show Steps p.tables e below (s₁.setTop (mkF m 1 #[.val (.ref a), .unset, .unset, .unset, .unset, .unset, .unset] [(.ref a)])) _
    refine st1 _ ?_
    show Steps p.tables e below (T1.setTop (mkF m 4 #[.val (.ref a), .unset, .unset, .unset, .unset, .unset, .unset] [(.long s1)])) _
    refine XS.lstoreN X1.here hx rfl (hb hby d7_4) rfl (l' := #[.val (.ref a), .val (.long s1), .second, .unset, .unset, .unset, .unset]) rfl ?_
    show Steps p.tables e below (T1.setTop (mkF m 5 #[.val (.ref a), .val (.long s1), .second, .unset, .unset, .unset, .unset] [])) _
    refine XS.aloadN X1.here hx rfl (hb hby d7_5) rfl rfl ?_
    show Steps p.tables e below (T1.setTop (mkF m 6 #[.val (.ref a), .val (.long s1), .second, .unset, .unset, .unset, .unset] [(.ref a)])) _
    refine st2 _ ?_
    show Steps p.tables e below (T2.setTop (mkF m 9 #[.val (.ref a), .val (.long s1), .second, .unset, .unset, .unset, .unset] [(.int n1)])) _
    refine XS.i2l X2.here hx rfl (hb hby d7_9) rfl ?_
    show Steps p.tables e below (T2.setTop (mkF m 10 #[.val (.ref a), .val (.long s1), .second, .unset, .unset, .unset, .unset] [(.long (n1.toInt64))])) _
    refine XS.lstoreN X2.here hx rfl (hb hby d7_10) rfl (l' := #[.val (.ref a), .val (.long s1), .second, .val (.long (n1.toInt64)), .second, .unset, .unset]) rfl ?_
    show Steps p.tables e below (T2.setTop (mkF m 11 #[.val (.ref a), .val (.long s1), .second, .val (.long (n1.toInt64)), .second, .unset, .unset] [])) _
    refine XS.lloadN X2.here hx rfl (hb hby d7_11) rfl ?_
    show Steps p.tables e below (T2.setTop (mkF m 12 #[.val (.ref a), .val (.long s1), .second, .val (.long (n1.toInt64)), .second, .unset, .unset] [(.long s1)])) _
    refine XS.lconst X2.here hx rfl (hb hby d7_12) ?_
    show Steps p.tables e below (T2.setTop (mkF m 13 #[.val (.ref a), .val (.long s1), .second, .val (.long (n1.toInt64)), .second, .unset, .unset] [(.long (0 : Int64)), (.long s1)])) _
    refine XS.lcmp X2.here hx rfl (hb hby d7_13) rfl ?_
    show Steps p.tables e below (T2.setTop (mkF m 14 #[.val (.ref a), .val (.long s1), .second, .val (.long (n1.toInt64)), .second, .unset, .unset] [(.int (lcmpW s1 (0 : Int64)))])) _
    refine XS.ifYes X2.here hx rfl (pc0 := 14) (pc' := 27) rfl (hb hby d7_14) rfl ((if0 _ _).trans (flt (hc14 : ¬ ((lcmpW s1 (0 : Int64)) < (0 : Int32)))).2.1) (by decide) (by decide) ?_
    show Steps p.tables e below (T2.setTop (mkF m 27 #[.val (.ref a), .val (.long s1), .second, .val (.long (n1.toInt64)), .second, .unset, .unset] [])) _
    refine XS.lloadN X2.here hx rfl (hb hby d7_27) rfl ?_
    show Steps p.tables e below (T2.setTop (mkF m 28 #[.val (.ref a), .val (.long s1), .second, .val (.long (n1.toInt64)), .second, .unset, .unset] [(.long s1)])) _
    refine X2.ldc2Long hx hown (mvT hZ (hw _ (List.mem_of_getElem? (i := 4) rfl))) (g := (mkF m 28 #[.val (.ref a), .val (.long s1), .second, .val (.long (n1.toInt64)), .second, .unset, .unset] [(.long s1)])) rfl (hb hby d7_28) _ ?_
    show Steps p.tables e below (T2.setTop (mkF m 31 #[.val (.ref a), .val (.long s1), .second, .val (.long (n1.toInt64)), .second, .unset, .unset] [(.long (1000000000 : Int64)), (.long s1)])) _
    refine st3 _ ?_
    show Steps p.tables e below (T3.setTop (mkF m 34 #[.val (.ref a), .val (.long s1), .second, .val (.long (n1.toInt64)), .second, .unset, .unset] [(.long (s1 * (1000000000 : Int64)))])) _
    refine XS.lstore X3.here hx rfl (hb hby d7_34) rfl (l' := #[.val (.ref a), .val (.long s1), .second, .val (.long (n1.toInt64)), .second, .val (.long (s1 * (1000000000 : Int64))), .second]) rfl ?_
    show Steps p.tables e below (T3.setTop (mkF m 36 #[.val (.ref a), .val (.long s1), .second, .val (.long (n1.toInt64)), .second, .val (.long (s1 * (1000000000 : Int64))), .second] [])) _
    refine XS.lload X3.here hx rfl (hb hby d7_36) rfl ?_
    show Steps p.tables e below (T3.setTop (mkF m 38 #[.val (.ref a), .val (.long s1), .second, .val (.long (n1.toInt64)), .second, .val (.long (s1 * (1000000000 : Int64))), .second] [(.long (s1 * (1000000000 : Int64)))])) _
    refine XS.lloadN X3.here hx rfl (hb hby d7_38) rfl ?_
    show Steps p.tables e below (T3.setTop (mkF m 39 #[.val (.ref a), .val (.long s1), .second, .val (.long (n1.toInt64)), .second, .val (.long (s1 * (1000000000 : Int64))), .second] [(.long (n1.toInt64)), (.long (s1 * (1000000000 : Int64)))])) _
    refine st4 _ ?_
    show Steps p.tables e below (T4.setTop (mkF m 42 #[.val (.ref a), .val (.long s1), .second, .val (.long (n1.toInt64)), .second, .val (.long (s1 * (1000000000 : Int64))), .second] [(.long ((s1 * (1000000000 : Int64)) + (n1.toInt64)))])) _
    refine XS.lstore X4.here hx rfl (hb hby d7_42) rfl (l' := #[.val (.ref a), .val (.long s1), .second, .val (.long (n1.toInt64)), .second, .val (.long ((s1 * (1000000000 : Int64)) + (n1.toInt64))), .second]) rfl ?_
    show Steps p.tables e below (T4.setTop (mkF m 44 #[.val (.ref a), .val (.long s1), .second, .val (.long (n1.toInt64)), .second, .val (.long ((s1 * (1000000000 : Int64)) + (n1.toInt64))), .second] [])) _
    refine XS.lload X4.here hx rfl (hb hby d7_44) rfl ?_
    show Steps p.tables e below (T4.setTop (mkF m 46 #[.val (.ref a), .val (.long s1), .second, .val (.long (n1.toInt64)), .second, .val (.long ((s1 * (1000000000 : Int64)) + (n1.toInt64))), .second] [(.long ((s1 * (1000000000 : Int64)) + (n1.toInt64)))])) _
    jvm_step X4.here [X4.here.top, hx, (hb hby d7_46), X4.method', Bd.returns, narrow]
    first | (intro acts; rw [hr _ acts rfl rfl rfl]) | rw [hr _ _ rfl rfl rfl]
    exact Steps.refl _
  · show Q_toN Z a s1 n1 q h0 n0 _ T4.heap _
    rw [kh4]
    exact ⟨by rw [tn_3 hd hc14], N4, rfl⟩
theorem d7_17 : decode jdk_2316_method_58_code 17 = .ok (.lload_n 1, 1) := by decide +kernel
theorem d7_18 : decode jdk_2316_method_58_code 18 = .ok (.lconst 1, 1) := by decide +kernel
theorem d7_19 : decode jdk_2316_method_58_code 19 = .ok (.ladd, 1) := by decide +kernel
theorem d7_20 : decode jdk_2316_method_58_code 20 = .ok (.lstore_n 1, 1) := by decide +kernel
theorem d7_21 : decode jdk_2316_method_58_code 21 = .ok (.lload_n 3, 1) := by decide +kernel
theorem d7_22 : decode jdk_2316_method_58_code 22 = .ok (.ldc2_w 16, 3) := by decide +kernel
theorem d7_25 : decode jdk_2316_method_58_code 25 = .ok (.lsub, 1) := by decide +kernel
theorem d7_26 : decode jdk_2316_method_58_code 26 = .ok (.lstore_n 3, 1) := by decide +kernel
set_option maxRecDepth 65536 in
set_option maxHeartbeats 40000000 in
theorem toN_2 (l : Launch) (Z : State) (a0 : Array Value) (hw : ∀ d ∈ tables_1, d.before a0 Z = true) (ws : List Jvm.Cond) (a : Addr) (s1 : Int64) (n1 : Int32) (q : Int64) (h0 : Heap) (n0 : Nat) (O0 : Old Z n0 h0) (P0 : Fld Z h0 a "java/time/Duration" "seconds" "J" (.long s1)) (P1 : Fld Z h0 a "java/time/Duration" "nanos" "I" (.int n1)) (hd : DurOf s1 n1 q) (hc14 : (lcmpW s1 (0 : Int64)) < (0 : Int32)) :
    MetFree l (⟨"java/time/Duration", "toNanos", "()J"⟩ : MethodName) (head1 (Jvm.Cond.code (⟨"java/time/Duration", "toNanos", "()J"⟩ : MethodName) jdk_2316_method_58_code 7 (some .long) :: ws) ({ frames := 2, cells := 0, slots := 0, locals := 34 } : Room)) (fun zA zU => zA = #[(.ref a)] ∧ Z.Warmed39 zU.vm ∧ zU.heap = h0) (fun _ _ _ _ _ => True) (fun _ zU zo zU' => ∃ zv zL, zo = .returned zv ∧ Q_toN Z a s1 n1 q h0 n0 zv zU'.heap zL ∧ FrameEnd zU zo zU' zL ({ frames := 2, cells := 0, slots := 0, locals := 34 } : Room).cells ({ frames := 2, cells := 0, slots := 0, locals := 34 } : Room).slots) := by
  refine MetFree.of_bodySF (plainFor_of_name pn_8) hisR ?_
  intro p e s m args below meth c s₁ Bd hml0 hP hK
  obtain ⟨rfl, hZ, hh⟩ := hP
  have hx := Bd.exec
  have hby := Bd.bytes
  have hml : c.maxLocals = 7 := hml0
  have hown : s.vm.findClass "java/time/Duration" = some m.cls := findClass_of_methodNamed Bd.named
  have hnm := (name_of_methodNamed Bd.named Bd.method).1
  have X0 : Stand p l e ({ frames := 2, cells := 0, slots := 0, locals := 34 } : Room) s m #[(.ref a)] below meth c s₁ [] 0 0 := Stand.of_body Bd
  have e0 : s₁.heap = h0 := by rw [← hh, Bd.state]; rfl
  have N0 := Fr.nil n0
  have Z0 : n0 ≤ h0.size := O0.1 ▸ O0.2.1
  have pre0 : ∀ zt, Steps p.tables e below (s₁.setTop (mkF m 0 #[.val (.ref a), .unset, .unset, .unset, .unset, .unset, .unset] [])) zt → Steps p.tables e below (s₁.setTop (entryFrame m #[(.ref a)] 7)) zt := fun zt zk => castTop (ef_7_R m a) zk
  obtain ⟨T1, X1, e1, st1⟩ := getF X0 hx hZ hown (host := "") (Or.inl (hw _ (List.mem_of_getElem? (i := 19) rfl))) Via.refl e0 P0 (g := (mkF m 1 #[.val (.ref a), .unset, .unset, .unset, .unset, .unset, .unset] [(.ref a)])) rfl rfl (hb hby d7_1)
  obtain ⟨T2, X2, e2, st2⟩ := getF X1 hx hZ hown (host := "") (Or.inl (hw _ (List.mem_of_getElem? (i := 21) rfl))) Via.refl e1 P1 (g := (mkF m 6 #[.val (.ref a), .val (.long s1), .second, .unset, .unset, .unset, .unset] [(.ref a)])) rfl rfl (hb hby d7_6)
  obtain ⟨_, _, ⟨T3, L3, k3, n3⟩, -, X3, ⟨Lc3, hQ3, l3, y3, z3⟩, st3⟩ := Jvm.LawKit.callS X2 hx (y := (⟨"java/lang/Math", "multiplyExact", "(JJ)J"⟩ : MethodName)) hown (mvT hZ (hw _ (List.mem_of_getElem? (i := 43) rfl))) (mvT hZ (hw _ (List.mem_of_getElem? (i := 44) rfl))) (mvT hZ (hw _ (List.mem_of_getElem? (i := 45) rfl))) (mvT hZ (hw _ (List.mem_of_getElem? (i := 46) rfl))) (by decide) (backOf (W := 0) (mulR l Z a0 hw [] (s1 + (1 : Int64)) h0 n0 O0 (tn_4 hd hc14)) hZ (hw _ (List.mem_of_getElem? (i := 46) rfl)) (hw _ (List.mem_of_getElem? (i := 45) rfl)) (by decide) (by decide)) (g := (mkF m 31 #[.val (.ref a), .val (.long (s1 + (1 : Int64))), .second, .val (.long ((n1.toInt64) - (1000000000 : Int64))), .second, .unset, .unset] [(.long (1000000000 : Int64)), (.long (s1 + (1 : Int64)))])) rfl (by rw [hml]; rfl) (argsL := [(.long (s1 + (1 : Int64))), (.long (1000000000 : Int64))]) (rest := []) (lenOf pd_1 rfl) rfl (by show 2 * 0 + _ ≤ _; exact Nat.le_of_eq rfl) (hb hby d7_31) (fun _ _ => ⟨rfl, e2, (by decide : 0 + 0 ≤ _), (by decide : 0 + 0 ≤ _)⟩)
  dsimp only [Pt.U, Pt.locs, Pt.cells, Pt.slots] at X3 l3 y3 z3 st3 hQ3
  subst l3 y3 z3
  obtain ⟨rfl, Nq3, kh3⟩ := hQ3
  have N3 := Fr.app N0 Nq3
  obtain ⟨_, _, ⟨T4, L4, k4, n4⟩, -, X4, ⟨Lc4, hQ4, l4, y4, z4⟩, st4⟩ := Jvm.LawKit.callS X3 hx (y := (⟨"java/lang/Math", "addExact", "(JJ)J"⟩ : MethodName)) hown (mvT hZ (hw _ (List.mem_of_getElem? (i := 50) rfl))) (mvT hZ (hw _ (List.mem_of_getElem? (i := 51) rfl))) (mvT hZ (hw _ (List.mem_of_getElem? (i := 45) rfl))) (mvT hZ (hw _ (List.mem_of_getElem? (i := 52) rfl))) (by decide) (backOf (W := 0) (addR l Z a0 hw [] ((s1 + (1 : Int64)) * (1000000000 : Int64)) ((n1.toInt64) - (1000000000 : Int64)) h0 n0 O0 (tn_5 hd hc14)) hZ (hw _ (List.mem_of_getElem? (i := 52) rfl)) (hw _ (List.mem_of_getElem? (i := 45) rfl)) (by decide) (by decide)) (g := (mkF m 39 #[.val (.ref a), .val (.long (s1 + (1 : Int64))), .second, .val (.long ((n1.toInt64) - (1000000000 : Int64))), .second, .val (.long ((s1 + (1 : Int64)) * (1000000000 : Int64))), .second] [(.long ((n1.toInt64) - (1000000000 : Int64))), (.long ((s1 + (1 : Int64)) * (1000000000 : Int64)))])) rfl (by rw [hml]; rfl) (argsL := [(.long ((s1 + (1 : Int64)) * (1000000000 : Int64))), (.long ((n1.toInt64) - (1000000000 : Int64)))]) (rest := []) (lenOf pd_1 rfl) rfl (by show 2 * 0 + _ ≤ _; exact Nat.le_of_eq rfl) (hb hby d7_39) (fun _ _ => ⟨rfl, kh3, (by decide : 0 + 0 ≤ _), (by decide : 0 + 0 ≤ _)⟩)
  dsimp only [Pt.U, Pt.locs, Pt.cells, Pt.slots] at X4 l4 y4 z4 st4 hQ4
  subst l4 y4 z4
  obtain ⟨rfl, Nq4, kh4⟩ := hQ4
  have N4 := Fr.app N3 Nq4
  obtain ⟨fs, hr, hrun, hended, hW, hsame⟩ := X4.leave (v := some (.long (((s1 + (1 : Int64)) * (1000000000 : Int64)) + ((n1.toInt64) - (1000000000 : Int64))))) (fun h => by rw [Bd.returns] at h; cases h)
  refine ⟨_, _, pre0 _ ?_, hrun, hended, _, _, rfl, ?_, ⟨_, rfl⟩, hW, hsame.mono (by decide) (by decide)⟩
  · show Steps p.tables e below (s₁.setTop (mkF m 0 #[.val (.ref a), .unset, .unset, .unset, .unset, .unset, .unset] [])) _
    refine XS.aloadN X0.here hx rfl (hb hby d7_0) rfl rfl ?_
    show Steps p.tables e below (s₁.setTop (mkF m 1 #[.val (.ref a), .unset, .unset, .unset, .unset, .unset, .unset] [(.ref a)])) _
    refine st1 _ ?_
    show Steps p.tables e below (T1.setTop (mkF m 4 #[.val (.ref a), .unset, .unset, .unset, .unset, .unset, .unset] [(.long s1)])) _
    refine XS.lstoreN X1.here hx rfl (hb hby d7_4) rfl (l' := #[.val (.ref a), .val (.long s1), .second, .unset, .unset, .unset, .unset]) rfl ?_
    show Steps p.tables e below (T1.setTop (mkF m 5 #[.val (.ref a), .val (.long s1), .second, .unset, .unset, .unset, .unset] [])) _
    refine XS.aloadN X1.here hx rfl (hb hby d7_5) rfl rfl ?_
    show Steps p.tables e below (T1.setTop (mkF m 6 #[.val (.ref a), .val (.long s1), .second, .unset, .unset, .unset, .unset] [(.ref a)])) _
    refine st2 _ ?_
    show Steps p.tables e below (T2.setTop (mkF m 9 #[.val (.ref a), .val (.long s1), .second, .unset, .unset, .unset, .unset] [(.int n1)])) _
    refine XS.i2l X2.here hx rfl (hb hby d7_9) rfl ?_
    show Steps p.tables e below (T2.setTop (mkF m 10 #[.val (.ref a), .val (.long s1), .second, .unset, .unset, .unset, .unset] [(.long (n1.toInt64))])) _
    refine XS.lstoreN X2.here hx rfl (hb hby d7_10) rfl (l' := #[.val (.ref a), .val (.long s1), .second, .val (.long (n1.toInt64)), .second, .unset, .unset]) rfl ?_
    show Steps p.tables e below (T2.setTop (mkF m 11 #[.val (.ref a), .val (.long s1), .second, .val (.long (n1.toInt64)), .second, .unset, .unset] [])) _
    refine XS.lloadN X2.here hx rfl (hb hby d7_11) rfl ?_
    show Steps p.tables e below (T2.setTop (mkF m 12 #[.val (.ref a), .val (.long s1), .second, .val (.long (n1.toInt64)), .second, .unset, .unset] [(.long s1)])) _
    refine XS.lconst X2.here hx rfl (hb hby d7_12) ?_
    show Steps p.tables e below (T2.setTop (mkF m 13 #[.val (.ref a), .val (.long s1), .second, .val (.long (n1.toInt64)), .second, .unset, .unset] [(.long (0 : Int64)), (.long s1)])) _
    refine XS.lcmp X2.here hx rfl (hb hby d7_13) rfl ?_
    show Steps p.tables e below (T2.setTop (mkF m 14 #[.val (.ref a), .val (.long s1), .second, .val (.long (n1.toInt64)), .second, .unset, .unset] [(.int (lcmpW s1 (0 : Int64)))])) _
    refine XS.ifNo X2.here hx rfl (hb hby d7_14) rfl ((if0 _ _).trans (tlt (hc14 : (lcmpW s1 (0 : Int64)) < (0 : Int32))).2.1) ?_
    show Steps p.tables e below (T2.setTop (mkF m 17 #[.val (.ref a), .val (.long s1), .second, .val (.long (n1.toInt64)), .second, .unset, .unset] [])) _
    refine XS.lloadN X2.here hx rfl (hb hby d7_17) rfl ?_
    show Steps p.tables e below (T2.setTop (mkF m 18 #[.val (.ref a), .val (.long s1), .second, .val (.long (n1.toInt64)), .second, .unset, .unset] [(.long s1)])) _
    refine XS.lconst X2.here hx rfl (hb hby d7_18) ?_
    show Steps p.tables e below (T2.setTop (mkF m 19 #[.val (.ref a), .val (.long s1), .second, .val (.long (n1.toInt64)), .second, .unset, .unset] [(.long (1 : Int64)), (.long s1)])) _
    refine XS.ladd X2.here hx rfl (hb hby d7_19) rfl ?_
    show Steps p.tables e below (T2.setTop (mkF m 20 #[.val (.ref a), .val (.long s1), .second, .val (.long (n1.toInt64)), .second, .unset, .unset] [(.long (s1 + (1 : Int64)))])) _
    refine XS.lstoreN X2.here hx rfl (hb hby d7_20) rfl (l' := #[.val (.ref a), .val (.long (s1 + (1 : Int64))), .second, .val (.long (n1.toInt64)), .second, .unset, .unset]) rfl ?_
    show Steps p.tables e below (T2.setTop (mkF m 21 #[.val (.ref a), .val (.long (s1 + (1 : Int64))), .second, .val (.long (n1.toInt64)), .second, .unset, .unset] [])) _
    refine XS.lloadN X2.here hx rfl (hb hby d7_21) rfl ?_
    show Steps p.tables e below (T2.setTop (mkF m 22 #[.val (.ref a), .val (.long (s1 + (1 : Int64))), .second, .val (.long (n1.toInt64)), .second, .unset, .unset] [(.long (n1.toInt64))])) _
    refine X2.ldc2Long hx hown (mvT hZ (hw _ (List.mem_of_getElem? (i := 4) rfl))) (g := (mkF m 22 #[.val (.ref a), .val (.long (s1 + (1 : Int64))), .second, .val (.long (n1.toInt64)), .second, .unset, .unset] [(.long (n1.toInt64))])) rfl (hb hby d7_22) _ ?_
    show Steps p.tables e below (T2.setTop (mkF m 25 #[.val (.ref a), .val (.long (s1 + (1 : Int64))), .second, .val (.long (n1.toInt64)), .second, .unset, .unset] [(.long (1000000000 : Int64)), (.long (n1.toInt64))])) _
    refine XS.lsub X2.here hx rfl (hb hby d7_25) rfl ?_
    show Steps p.tables e below (T2.setTop (mkF m 26 #[.val (.ref a), .val (.long (s1 + (1 : Int64))), .second, .val (.long (n1.toInt64)), .second, .unset, .unset] [(.long ((n1.toInt64) - (1000000000 : Int64)))])) _
    refine XS.lstoreN X2.here hx rfl (hb hby d7_26) rfl (l' := #[.val (.ref a), .val (.long (s1 + (1 : Int64))), .second, .val (.long ((n1.toInt64) - (1000000000 : Int64))), .second, .unset, .unset]) rfl ?_
    show Steps p.tables e below (T2.setTop (mkF m 27 #[.val (.ref a), .val (.long (s1 + (1 : Int64))), .second, .val (.long ((n1.toInt64) - (1000000000 : Int64))), .second, .unset, .unset] [])) _
    refine XS.lloadN X2.here hx rfl (hb hby d7_27) rfl ?_
    show Steps p.tables e below (T2.setTop (mkF m 28 #[.val (.ref a), .val (.long (s1 + (1 : Int64))), .second, .val (.long ((n1.toInt64) - (1000000000 : Int64))), .second, .unset, .unset] [(.long (s1 + (1 : Int64)))])) _
    refine X2.ldc2Long hx hown (mvT hZ (hw _ (List.mem_of_getElem? (i := 4) rfl))) (g := (mkF m 28 #[.val (.ref a), .val (.long (s1 + (1 : Int64))), .second, .val (.long ((n1.toInt64) - (1000000000 : Int64))), .second, .unset, .unset] [(.long (s1 + (1 : Int64)))])) rfl (hb hby d7_28) _ ?_
    show Steps p.tables e below (T2.setTop (mkF m 31 #[.val (.ref a), .val (.long (s1 + (1 : Int64))), .second, .val (.long ((n1.toInt64) - (1000000000 : Int64))), .second, .unset, .unset] [(.long (1000000000 : Int64)), (.long (s1 + (1 : Int64)))])) _
    refine st3 _ ?_
    show Steps p.tables e below (T3.setTop (mkF m 34 #[.val (.ref a), .val (.long (s1 + (1 : Int64))), .second, .val (.long ((n1.toInt64) - (1000000000 : Int64))), .second, .unset, .unset] [(.long ((s1 + (1 : Int64)) * (1000000000 : Int64)))])) _
    refine XS.lstore X3.here hx rfl (hb hby d7_34) rfl (l' := #[.val (.ref a), .val (.long (s1 + (1 : Int64))), .second, .val (.long ((n1.toInt64) - (1000000000 : Int64))), .second, .val (.long ((s1 + (1 : Int64)) * (1000000000 : Int64))), .second]) rfl ?_
    show Steps p.tables e below (T3.setTop (mkF m 36 #[.val (.ref a), .val (.long (s1 + (1 : Int64))), .second, .val (.long ((n1.toInt64) - (1000000000 : Int64))), .second, .val (.long ((s1 + (1 : Int64)) * (1000000000 : Int64))), .second] [])) _
    refine XS.lload X3.here hx rfl (hb hby d7_36) rfl ?_
    show Steps p.tables e below (T3.setTop (mkF m 38 #[.val (.ref a), .val (.long (s1 + (1 : Int64))), .second, .val (.long ((n1.toInt64) - (1000000000 : Int64))), .second, .val (.long ((s1 + (1 : Int64)) * (1000000000 : Int64))), .second] [(.long ((s1 + (1 : Int64)) * (1000000000 : Int64)))])) _
    refine XS.lloadN X3.here hx rfl (hb hby d7_38) rfl ?_
    show Steps p.tables e below (T3.setTop (mkF m 39 #[.val (.ref a), .val (.long (s1 + (1 : Int64))), .second, .val (.long ((n1.toInt64) - (1000000000 : Int64))), .second, .val (.long ((s1 + (1 : Int64)) * (1000000000 : Int64))), .second] [(.long ((n1.toInt64) - (1000000000 : Int64))), (.long ((s1 + (1 : Int64)) * (1000000000 : Int64)))])) _
    refine st4 _ ?_
    show Steps p.tables e below (T4.setTop (mkF m 42 #[.val (.ref a), .val (.long (s1 + (1 : Int64))), .second, .val (.long ((n1.toInt64) - (1000000000 : Int64))), .second, .val (.long ((s1 + (1 : Int64)) * (1000000000 : Int64))), .second] [(.long (((s1 + (1 : Int64)) * (1000000000 : Int64)) + ((n1.toInt64) - (1000000000 : Int64))))])) _
    refine XS.lstore X4.here hx rfl (hb hby d7_42) rfl (l' := #[.val (.ref a), .val (.long (s1 + (1 : Int64))), .second, .val (.long ((n1.toInt64) - (1000000000 : Int64))), .second, .val (.long (((s1 + (1 : Int64)) * (1000000000 : Int64)) + ((n1.toInt64) - (1000000000 : Int64)))), .second]) rfl ?_
    show Steps p.tables e below (T4.setTop (mkF m 44 #[.val (.ref a), .val (.long (s1 + (1 : Int64))), .second, .val (.long ((n1.toInt64) - (1000000000 : Int64))), .second, .val (.long (((s1 + (1 : Int64)) * (1000000000 : Int64)) + ((n1.toInt64) - (1000000000 : Int64)))), .second] [])) _
    refine XS.lload X4.here hx rfl (hb hby d7_44) rfl ?_
    show Steps p.tables e below (T4.setTop (mkF m 46 #[.val (.ref a), .val (.long (s1 + (1 : Int64))), .second, .val (.long ((n1.toInt64) - (1000000000 : Int64))), .second, .val (.long (((s1 + (1 : Int64)) * (1000000000 : Int64)) + ((n1.toInt64) - (1000000000 : Int64)))), .second] [(.long (((s1 + (1 : Int64)) * (1000000000 : Int64)) + ((n1.toInt64) - (1000000000 : Int64))))])) _
    jvm_step X4.here [X4.here.top, hx, (hb hby d7_46), X4.method', Bd.returns, narrow]
    first | (intro acts; rw [hr _ acts rfl rfl rfl]) | rw [hr _ _ rfl rfl rfl]
    exact Steps.refl _
  · show Q_toN Z a s1 n1 q h0 n0 _ T4.heap _
    rw [kh4]
    exact ⟨by rw [tn_6 hd hc14], N4, rfl⟩
set_option maxRecDepth 65536 in
set_option maxHeartbeats 40000000 in
theorem toN (l : Launch) (Z : State) (a0 : Array Value) (hw : ∀ d ∈ tables_1, d.before a0 Z = true) (ws : List Jvm.Cond) (a : Addr) (s1 : Int64) (n1 : Int32) (q : Int64) (h0 : Heap) (n0 : Nat) (O0 : Old Z n0 h0) (P0 : Fld Z h0 a "java/time/Duration" "seconds" "J" (.long s1)) (P1 : Fld Z h0 a "java/time/Duration" "nanos" "I" (.int n1)) (hd : DurOf s1 n1 q) :
    MetFree l (⟨"java/time/Duration", "toNanos", "()J"⟩ : MethodName) (head1 (Jvm.Cond.code (⟨"java/time/Duration", "toNanos", "()J"⟩ : MethodName) jdk_2316_method_58_code 7 (some .long) :: ws) ({ frames := 2, cells := 0, slots := 0, locals := 34 } : Room)) (fun zA zU => zA = #[(.ref a)] ∧ Z.Warmed39 zU.vm ∧ zU.heap = h0) (fun _ _ _ _ _ => True) (fun _ zU zo zU' => ∃ zv zL, zo = .returned zv ∧ Q_toN Z a s1 n1 q h0 n0 zv zU'.heap zL ∧ FrameEnd zU zo zU' zL ({ frames := 2, cells := 0, slots := 0, locals := 34 } : Room).cells ({ frames := 2, cells := 0, slots := 0, locals := 34 } : Room).slots) := by
  by_cases h1 : (lcmpW s1 (0 : Int64)) < (0 : Int32)
  · exact toN_2 l Z a0 hw ws a s1 n1 q h0 n0 O0 P0 P1 hd h1
  · exact toN_1 l Z a0 hw ws a s1 n1 q h0 n0 O0 P0 P1 hd h1
def Q_durI (Z : State) (a : Addr) (s1 : Int64) (n1 : Int32) (h0 : Heap) (n0 : Nat) (v : Option Value) (h : Heap) (L : List Loc) : Prop := v = none ∧ Fr n0 L ∧ Keep h0 h [a] ∧ Exa Z h a "java/time/Duration" ∧ Fld Z h a "java/time/Duration" "seconds" "J" (.long s1) ∧ Fld Z h a "java/time/Duration" "nanos" "I" (.int n1)
theorem d9_0 : decode jdk_2316_method_17_code 0 = .ok (.aload_n 0, 1) := by decide +kernel
theorem d9_1 : decode jdk_2316_method_17_code 1 = .ok (.invokespecial 218, 3) := by decide +kernel
theorem d9_4 : decode jdk_2316_method_17_code 4 = .ok (.aload_n 0, 1) := by decide +kernel
theorem d9_5 : decode jdk_2316_method_17_code 5 = .ok (.lload_n 1, 1) := by decide +kernel
theorem d9_6 : decode jdk_2316_method_17_code 6 = .ok (.putfield 221, 3) := by decide +kernel
theorem d9_9 : decode jdk_2316_method_17_code 9 = .ok (.aload_n 0, 1) := by decide +kernel
theorem d9_10 : decode jdk_2316_method_17_code 10 = .ok (.iload_n 3, 1) := by decide +kernel
theorem d9_11 : decode jdk_2316_method_17_code 11 = .ok (.putfield 224, 3) := by decide +kernel
theorem d9_14 : decode jdk_2316_method_17_code 14 = .ok (.return_, 1) := by decide +kernel
theorem ef_9_RJI (m : MethodId) (x0 : Addr) (x1 : Int64) (x2 : Int32) : entryFrame m #[(.ref x0), (.long x1), (.int x2)] 4 = mkF m 0 #[.val (.ref x0), .val (.long x1), .second, .val (.int x2)] [] := by first | (simp [entryFrame, mkF, argsToLocals, Value.category]; done) | rfl
set_option maxRecDepth 65536 in
set_option maxHeartbeats 40000000 in
theorem durI (l : Launch) (Z : State) (a0 : Array Value) (hw : ∀ d ∈ tables_1, d.before a0 Z = true) (ws : List Jvm.Cond) (a : Addr) (s1 : Int64) (n1 : Int32) (h0 : Heap) (n0 : Nat) (O0 : Old Z n0 h0) (P0 : Exa Z h0 a "java/time/Duration") (P1 : Fld Z h0 a "java/time/Duration" "seconds" "J" (.long (0 : Int64))) (P2 : Fld Z h0 a "java/time/Duration" "nanos" "I" (.int (0 : Int32))) (g_a : n0 ≤ a) :
    MetFree l (⟨"java/time/Duration", "<init>", "(JI)V"⟩ : MethodName) (head1 (Jvm.Cond.code (⟨"java/time/Duration", "<init>", "(JI)V"⟩ : MethodName) jdk_2316_method_17_code 4 none :: ws) ({ frames := 1, cells := 0, slots := 0, locals := 12 } : Room)) (fun zA zU => zA = #[(.ref a), (.long s1), (.int n1)] ∧ Z.Warmed39 zU.vm ∧ zU.heap = h0) (fun _ _ _ _ _ => True) (fun _ zU zo zU' => ∃ zv zL, zo = .returned zv ∧ Q_durI Z a s1 n1 h0 n0 zv zU'.heap zL ∧ FrameEnd zU zo zU' zL ({ frames := 1, cells := 0, slots := 0, locals := 12 } : Room).cells ({ frames := 1, cells := 0, slots := 0, locals := 12 } : Room).slots) := by
  refine MetFree.of_bodySF (plainFor_of_name pn_8) hisR ?_
  intro p e s m args below meth c s₁ Bd hml0 hP hK
  obtain ⟨rfl, hZ, hh⟩ := hP
  have hx := Bd.exec
  have hby := Bd.bytes
  have hml : c.maxLocals = 4 := hml0
  have hown : s.vm.findClass "java/time/Duration" = some m.cls := findClass_of_methodNamed Bd.named
  have hnm := (name_of_methodNamed Bd.named Bd.method).1
  have X0 : Stand p l e ({ frames := 1, cells := 0, slots := 0, locals := 12 } : Room) s m #[(.ref a), (.long s1), (.int n1)] below meth c s₁ [] 0 0 := Stand.of_body Bd
  have e0 : s₁.heap = h0 := by rw [← hh, Bd.state]; rfl
  have N0 := Fr.nil n0
  have Z0 : n0 ≤ h0.size := O0.1 ▸ O0.2.1
  have pre0 : ∀ zt, Steps p.tables e below (s₁.setTop (mkF m 0 #[.val (.ref a), .val (.long s1), .second, .val (.int n1)] [])) zt → Steps p.tables e below (s₁.setTop (entryFrame m #[(.ref a), (.long s1), (.int n1)] 4)) zt := fun zt zk => castTop (ef_9_RJI m a s1 n1) zk
  obtain ⟨T1, X1, e1, st1⟩ := initO X0 hx hZ hown (hw _ (List.mem_of_getElem? (i := 16) rfl)) (hw _ (List.mem_of_getElem? (i := 17) rfl)) (hw _ (List.mem_of_getElem? (i := 18) rfl)) e0 (g := (mkF m 1 #[.val (.ref a), .val (.long s1), .second, .val (.int n1)] [(.ref a)])) rfl (by rw [hml]; rfl) rfl (hb hby d9_1) (by decide) (W := 0) (by show 2 * 0 + _ ≤ _; exact Nat.le_of_eq rfl) (by decide)
  obtain ⟨T2, h2, X2, e2, W2, st2⟩ := putF X1 hx hZ hown (host := "") (Or.inl (hw _ (List.mem_of_getElem? (i := 19) rfl))) Via.refl e1 P1 P0 (Or.inr ⟨(hw _ (List.mem_of_getElem? (i := 20) rfl)), rfl, hnm⟩) (hw _ (List.mem_of_getElem? (i := 11) rfl)) (ty := .long) (by decide) rfl rfl (g := (mkF m 6 #[.val (.ref a), .val (.long s1), .second, .val (.int n1)] [(.long s1), (.ref a)])) rfl rfl (hb hby d9_6)
  have Fw2 := P1.same W2
  have O2 := O0.wr W2 g_a
  have K2 : Keep h0 h2 [a] := (Keep.refl h0 [a]).wr W2 (Or.inl (List.mem_of_getElem? (i := 0) rfl))
  have N2 := Fr.snoc X2 N0 g_a
  have c4 : Fld Z h2 a "java/time/Duration" "nanos" "I" (.int (0 : Int32)) := (P2.other W2 (Or.inr (slot_ne (Or.inr (hw _ (List.mem_of_getElem? (i := 22) rfl))) (Or.inr (hw _ (List.mem_of_getElem? (i := 20) rfl))) (by decide) (t := .int) (t' := .long) (by decide) (by decide))))
  obtain ⟨T3, h3, X3, e3, W3, st3⟩ := putF X2 hx hZ hown (host := "") (Or.inl (hw _ (List.mem_of_getElem? (i := 21) rfl))) Via.refl e2 c4 (P0.wr W2) (Or.inr ⟨(hw _ (List.mem_of_getElem? (i := 22) rfl)), rfl, hnm⟩) (hw _ (List.mem_of_getElem? (i := 11) rfl)) (ty := .int) (by decide) rfl rfl (g := (mkF m 11 #[.val (.ref a), .val (.long s1), .second, .val (.int n1)] [(.int n1), (.ref a)])) rfl rfl (hb hby d9_11)
  have Fw3 := c4.same W3
  have O3 := O2.wr W3 g_a
  have K3 : Keep h0 h3 [a] := K2.wr W3 (Or.inl (List.mem_of_getElem? (i := 0) rfl))
  have N3 := Fr.snoc X3 N2 g_a
  have c5 : Fld Z h3 a "java/time/Duration" "seconds" "J" (.long s1) := (Fw2.other W3 (Or.inr (slot_ne (Or.inr (hw _ (List.mem_of_getElem? (i := 20) rfl))) (Or.inr (hw _ (List.mem_of_getElem? (i := 22) rfl))) (by decide) (t := .long) (t' := .int) (by decide) (by decide))))
  obtain ⟨fs, hr, hrun, hended, hW, hsame⟩ := X3.leave (v := none) (fun _ => rfl)
  refine ⟨_, _, pre0 _ ?_, hrun, hended, _, _, rfl, ?_, ⟨_, rfl⟩, hW, hsame.mono (by decide) (by decide)⟩
  · show Steps p.tables e below (s₁.setTop (mkF m 0 #[.val (.ref a), .val (.long s1), .second, .val (.int n1)] [])) _
    refine XS.aloadN X0.here hx rfl (hb hby d9_0) rfl rfl ?_
    show Steps p.tables e below (s₁.setTop (mkF m 1 #[.val (.ref a), .val (.long s1), .second, .val (.int n1)] [(.ref a)])) _
    refine st1 _ ?_
    show Steps p.tables e below (T1.setTop (mkF m 4 #[.val (.ref a), .val (.long s1), .second, .val (.int n1)] [])) _
    refine XS.aloadN X1.here hx rfl (hb hby d9_4) rfl rfl ?_
    show Steps p.tables e below (T1.setTop (mkF m 5 #[.val (.ref a), .val (.long s1), .second, .val (.int n1)] [(.ref a)])) _
    refine XS.lloadN X1.here hx rfl (hb hby d9_5) rfl ?_
    show Steps p.tables e below (T1.setTop (mkF m 6 #[.val (.ref a), .val (.long s1), .second, .val (.int n1)] [(.long s1), (.ref a)])) _
    refine st2 _ ?_
    show Steps p.tables e below (T2.setTop (mkF m 9 #[.val (.ref a), .val (.long s1), .second, .val (.int n1)] [])) _
    refine XS.aloadN X2.here hx rfl (hb hby d9_9) rfl rfl ?_
    show Steps p.tables e below (T2.setTop (mkF m 10 #[.val (.ref a), .val (.long s1), .second, .val (.int n1)] [(.ref a)])) _
    refine XS.iloadN X2.here hx rfl (hb hby d9_10) rfl ?_
    show Steps p.tables e below (T2.setTop (mkF m 11 #[.val (.ref a), .val (.long s1), .second, .val (.int n1)] [(.int n1), (.ref a)])) _
    refine st3 _ ?_
    show Steps p.tables e below (T3.setTop (mkF m 14 #[.val (.ref a), .val (.long s1), .second, .val (.int n1)] [])) _
    exact X3.returnOut hx Bd.returns (hb hby d9_14) hr
  · show Q_durI Z a s1 n1 h0 n0 _ T3.heap _
    rw [e3]
    exact ⟨rfl, N3, K3, ((P0.wr W2).wr W3), c5, Fw3⟩
def Q_durC (Z : State) (s1 : Int64) (n1 : Int32) (wz : Addr) (h0 : Heap) (n0 : Nat) (v : Option Value) (h : Heap) (L : List Loc) : Prop := ∃ r : Addr, v = some (.ref r) ∧ Fr n0 L ∧ Keep h0 h [] ∧ Exa Z h r "java/time/Duration" ∧ Fld Z h r "java/time/Duration" "seconds" "J" (.long s1) ∧ Fld Z h r "java/time/Duration" "nanos" "I" (.int n1)
theorem d10_0 : decode jdk_2316_method_16_code 0 = .ok (.lload_n 0, 1) := by decide +kernel
theorem d10_1 : decode jdk_2316_method_16_code 1 = .ok (.iload_n 2, 1) := by decide +kernel
theorem d10_2 : decode jdk_2316_method_16_code 2 = .ok (.i2l, 1) := by decide +kernel
theorem d10_3 : decode jdk_2316_method_16_code 3 = .ok (.lor, 1) := by decide +kernel
theorem d10_4 : decode jdk_2316_method_16_code 4 = .ok (.lconst 0, 1) := by decide +kernel
theorem d10_5 : decode jdk_2316_method_16_code 5 = .ok (.lcmp, 1) := by decide +kernel
theorem d10_6 : decode jdk_2316_method_16_code 6 = .ok (.ifCond .ne 7, 3) := by decide +kernel
theorem d10_9 : decode jdk_2316_method_16_code 9 = .ok (.getstatic 32, 3) := by decide +kernel
theorem d10_12 : decode jdk_2316_method_16_code 12 = .ok (.areturn, 1) := by decide +kernel
theorem ef_10_JI (m : MethodId) (x0 : Int64) (x1 : Int32) : entryFrame m #[(.long x0), (.int x1)] 3 = mkF m 0 #[.val (.long x0), .second, .val (.int x1)] [] := by first | (simp [entryFrame, mkF, argsToLocals, Value.category]; done) | rfl
set_option maxRecDepth 65536 in
set_option maxHeartbeats 40000000 in
theorem durC_1 (l : Launch) (Z : State) (a0 : Array Value) (hw : ∀ d ∈ tables_1, d.before a0 Z = true) (ws : List Jvm.Cond) (s1 : Int64) (n1 : Int32) (wz : Addr) (h0 : Heap) (n0 : Nat) (O0 : Old Z n0 h0) (G0 : Sta Z Z.heap "java/time/Duration" "ZERO" "Ljava/time/Duration;" (.ref wz)) (G1 : Exa Z Z.heap wz "java/time/Duration") (G2 : Fld Z Z.heap wz "java/time/Duration" "seconds" "J" (.long (0 : Int64))) (G3 : Fld Z Z.heap wz "java/time/Duration" "nanos" "I" (.int (0 : Int32))) (hc6 : (lcmpW (s1 ||| (n1.toInt64)) (0 : Int64)) = (0 : Int32)) :
    MetFree l (⟨"java/time/Duration", "create", "(JI)Ljava/time/Duration;"⟩ : MethodName) (head1 (Jvm.Cond.code (⟨"java/time/Duration", "create", "(JI)Ljava/time/Duration;"⟩ : MethodName) jdk_2316_method_16_code 3 (some (.object "java/time/Duration")) :: ws) ({ frames := 2, cells := 1, slots := 2, locals := 28 } : Room)) (fun zA zU => zA = #[(.long s1), (.int n1)] ∧ Z.Warmed39 zU.vm ∧ zU.heap = h0) (fun _ _ _ _ _ => True) (fun _ zU zo zU' => ∃ zv zL, zo = .returned zv ∧ Q_durC Z s1 n1 wz h0 n0 zv zU'.heap zL ∧ FrameEnd zU zo zU' zL ({ frames := 2, cells := 1, slots := 2, locals := 28 } : Room).cells ({ frames := 2, cells := 1, slots := 2, locals := 28 } : Room).slots) := by
  refine MetFree.of_bodySF (plainFor_of_name pn_8) hisR ?_
  intro p e s m args below meth c s₁ Bd hml0 hP hK
  obtain ⟨rfl, hZ, hh⟩ := hP
  have hx := Bd.exec
  have hby := Bd.bytes
  have hml : c.maxLocals = 3 := hml0
  have hown : s.vm.findClass "java/time/Duration" = some m.cls := findClass_of_methodNamed Bd.named
  have hnm := (name_of_methodNamed Bd.named Bd.method).1
  have X0 : Stand p l e ({ frames := 2, cells := 1, slots := 2, locals := 28 } : Room) s m #[(.long s1), (.int n1)] below meth c s₁ [] 0 0 := Stand.of_body Bd
  have e0 : s₁.heap = h0 := by rw [← hh, Bd.state]; rfl
  have N0 := Fr.nil n0
  have Z0 : n0 ≤ h0.size := O0.1 ▸ O0.2.1
  have pre0 : ∀ zt, Steps p.tables e below (s₁.setTop (mkF m 0 #[.val (.long s1), .second, .val (.int n1)] [])) zt → Steps p.tables e below (s₁.setTop (entryFrame m #[(.long s1), (.int n1)] 3)) zt := fun zt zk => castTop (ef_10_JI m s1 n1) zk
  obtain ⟨T1, X1, e1, st1⟩ := getS2 X0 hx hZ hown (host := "") (Or.inl (hw _ (List.mem_of_getElem? (i := 8) rfl))) Via.refl e0 (G0.ext O0.2) (g := (mkF m 9 #[.val (.long s1), .second, .val (.int n1)] [])) rfl (hb hby d10_9)
  obtain ⟨hz1, hz2⟩ := own_or0 hc6
  have Fs : Fld Z Z.heap wz "java/time/Duration" "seconds" "J" (.long s1) := by rw [hz1]; exact G2
  have Fn : Fld Z Z.heap wz "java/time/Duration" "nanos" "I" (.int n1) := by rw [hz2]; exact G3
  obtain ⟨fs, hr, hrun, hended, hW, hsame⟩ := X1.leave (v := some (.ref wz)) (fun h => by rw [Bd.returns] at h; cases h)
  refine ⟨_, _, pre0 _ ?_, hrun, hended, _, _, rfl, ?_, ⟨_, rfl⟩, hW, hsame.mono (by decide) (by decide)⟩
  · show Steps p.tables e below (s₁.setTop (mkF m 0 #[.val (.long s1), .second, .val (.int n1)] [])) _
    refine XS.lloadN X0.here hx rfl (hb hby d10_0) rfl ?_
    show Steps p.tables e below (s₁.setTop (mkF m 1 #[.val (.long s1), .second, .val (.int n1)] [(.long s1)])) _
    refine XS.iloadN X0.here hx rfl (hb hby d10_1) rfl ?_
    show Steps p.tables e below (s₁.setTop (mkF m 2 #[.val (.long s1), .second, .val (.int n1)] [(.int n1), (.long s1)])) _
    refine XS.i2l X0.here hx rfl (hb hby d10_2) rfl ?_
    show Steps p.tables e below (s₁.setTop (mkF m 3 #[.val (.long s1), .second, .val (.int n1)] [(.long (n1.toInt64)), (.long s1)])) _
    refine XS.lor X0.here hx rfl (hb hby d10_3) rfl ?_
    show Steps p.tables e below (s₁.setTop (mkF m 4 #[.val (.long s1), .second, .val (.int n1)] [(.long (s1 ||| (n1.toInt64)))])) _
    refine XS.lconst X0.here hx rfl (hb hby d10_4) ?_
    show Steps p.tables e below (s₁.setTop (mkF m 5 #[.val (.long s1), .second, .val (.int n1)] [(.long (0 : Int64)), (.long (s1 ||| (n1.toInt64)))])) _
    refine XS.lcmp X0.here hx rfl (hb hby d10_5) rfl ?_
    show Steps p.tables e below (s₁.setTop (mkF m 6 #[.val (.long s1), .second, .val (.int n1)] [(.int (lcmpW (s1 ||| (n1.toInt64)) (0 : Int64)))])) _
    refine XS.ifNo X0.here hx rfl (hb hby d10_6) rfl ((if0 _ _).trans (teq (hc6 : (lcmpW (s1 ||| (n1.toInt64)) (0 : Int64)) = (0 : Int32))).2) ?_
    show Steps p.tables e below (s₁.setTop (mkF m 9 #[.val (.long s1), .second, .val (.int n1)] [])) _
    refine st1 _ ?_
    show Steps p.tables e below (T1.setTop (mkF m 12 #[.val (.long s1), .second, .val (.int n1)] [(.ref wz)])) _
    jvm_step X1.here [X1.here.top, hx, (hb hby d10_12), X1.method', Bd.returns, Value.isRef, FieldType.isReference]
    first | (intro acts; rw [hr _ acts rfl rfl rfl]) | rw [hr _ _ rfl rfl rfl]
    exact Steps.refl _
  · show Q_durC Z s1 n1 wz h0 n0 _ T1.heap _
    rw [e1]
    exact ⟨wz, rfl, N0, (Keep.refl h0 []), (G1.ext O0.2), (Fs.ext O0.2), (Fn.ext O0.2)⟩
theorem d10_13 : decode jdk_2316_method_16_code 13 = .ok (.new 11, 3) := by decide +kernel
theorem d10_16 : decode jdk_2316_method_16_code 16 = .ok (.dup, 1) := by decide +kernel
theorem d10_17 : decode jdk_2316_method_16_code 17 = .ok (.lload_n 0, 1) := by decide +kernel
theorem d10_18 : decode jdk_2316_method_16_code 18 = .ok (.iload_n 2, 1) := by decide +kernel
theorem d10_19 : decode jdk_2316_method_16_code 19 = .ok (.invokespecial 215, 3) := by decide +kernel
theorem pd_2 : parseMethodDescriptor "(JI)V" = some ⟨[.long, .int], none⟩ := by decide +kernel
theorem d10_22 : decode jdk_2316_method_16_code 22 = .ok (.areturn, 1) := by decide +kernel
set_option maxRecDepth 65536 in
set_option maxHeartbeats 40000000 in
theorem durC_2 (l : Launch) (Z : State) (a0 : Array Value) (hw : ∀ d ∈ tables_1, d.before a0 Z = true) (ws : List Jvm.Cond) (s1 : Int64) (n1 : Int32) (wz : Addr) (h0 : Heap) (n0 : Nat) (O0 : Old Z n0 h0) (G0 : Sta Z Z.heap "java/time/Duration" "ZERO" "Ljava/time/Duration;" (.ref wz)) (G1 : Exa Z Z.heap wz "java/time/Duration") (G2 : Fld Z Z.heap wz "java/time/Duration" "seconds" "J" (.long (0 : Int64))) (G3 : Fld Z Z.heap wz "java/time/Duration" "nanos" "I" (.int (0 : Int32))) (hc6 : ¬ ((lcmpW (s1 ||| (n1.toInt64)) (0 : Int64)) = (0 : Int32))) :
    MetFree l (⟨"java/time/Duration", "create", "(JI)Ljava/time/Duration;"⟩ : MethodName) (head1 (Jvm.Cond.code (⟨"java/time/Duration", "create", "(JI)Ljava/time/Duration;"⟩ : MethodName) jdk_2316_method_16_code 3 (some (.object "java/time/Duration")) :: ws) ({ frames := 2, cells := 1, slots := 2, locals := 28 } : Room)) (fun zA zU => zA = #[(.long s1), (.int n1)] ∧ Z.Warmed39 zU.vm ∧ zU.heap = h0) (fun _ _ _ _ _ => True) (fun _ zU zo zU' => ∃ zv zL, zo = .returned zv ∧ Q_durC Z s1 n1 wz h0 n0 zv zU'.heap zL ∧ FrameEnd zU zo zU' zL ({ frames := 2, cells := 1, slots := 2, locals := 28 } : Room).cells ({ frames := 2, cells := 1, slots := 2, locals := 28 } : Room).slots) := by
  refine MetFree.of_bodySF (plainFor_of_name pn_8) hisR ?_
  intro p e s m args below meth c s₁ Bd hml0 hP hK
  obtain ⟨rfl, hZ, hh⟩ := hP
  have hx := Bd.exec
  have hby := Bd.bytes
  have hml : c.maxLocals = 3 := hml0
  have hown : s.vm.findClass "java/time/Duration" = some m.cls := findClass_of_methodNamed Bd.named
  have hnm := (name_of_methodNamed Bd.named Bd.method).1
  have X0 : Stand p l e ({ frames := 2, cells := 1, slots := 2, locals := 28 } : Room) s m #[(.long s1), (.int n1)] below meth c s₁ [] 0 0 := Stand.of_body Bd
  have e0 : s₁.heap = h0 := by rw [← hh, Bd.state]; rfl
  have N0 := Fr.nil n0
  have Z0 : n0 ≤ h0.size := O0.1 ▸ O0.2.1
  have pre0 : ∀ zt, Steps p.tables e below (s₁.setTop (mkF m 0 #[.val (.long s1), .second, .val (.int n1)] [])) zt → Steps p.tables e below (s₁.setTop (entryFrame m #[(.long s1), (.int n1)] 3)) zt := fun zt zk => castTop (ef_10_JI m s1 n1) zk
  obtain ⟨T1, h1, X1, e1, E1, A1, D1, U1, st1⟩ := newO X0 hx hZ hown (hw _ (List.mem_of_getElem? (i := 10) rfl)) (hw _ (List.mem_of_getElem? (i := 11) rfl)) (hw _ (List.mem_of_getElem? (i := 2) rfl)) e0 (g := (mkF m 13 #[.val (.long s1), .second, .val (.int n1)] [])) rfl (hb hby d10_13) (by decide) (by decide)
  obtain ⟨b1, gz1⟩ : ∃ z, z = h0.size := ⟨_, rfl⟩
  rw [← gz1] at A1 D1 U1 st1
  have sz_b1 : h0.size ≤ b1 := Nat.le_trans (Keep.refl h0 []).1 (Nat.le_of_eq gz1.symm)
  have g_b1 : n0 ≤ b1 := Nat.le_trans Z0 sz_b1
  have O1 := O0.ext E1
  have K1 : Keep h0 h1 [] := (Keep.refl h0 []).ext E1
  have Fi1_20 : Fld Z h1 b1 "java/time/Duration" "seconds" "J" (.long (0 : Int64)) := D1 (Or.inr (hw _ (List.mem_of_getElem? (i := 20) rfl))) (ty := .long) (by decide)
  have Fi1_22 : Fld Z h1 b1 "java/time/Duration" "nanos" "I" (.int (0 : Int32)) := D1 (Or.inr (hw _ (List.mem_of_getElem? (i := 22) rfl))) (ty := .int) (by decide)
  obtain ⟨_, _, ⟨T2, L2, k2, n2⟩, -, X2, ⟨Lc2, hQ2, l2, y2, z2⟩, st2⟩ := X1.specialBack hx (y := (⟨"java/time/Duration", "<init>", "(JI)V"⟩ : MethodName)) rfl hown (mvT hZ (hw _ (List.mem_of_getElem? (i := 12) rfl))) (mvT hZ (hw _ (List.mem_of_getElem? (i := 13) rfl))) (mvT hZ (hw _ (List.mem_of_getElem? (i := 15) rfl))) (by decide) (backOf (W := 1) (durI l Z a0 hw [] b1 s1 n1 h1 n0 O1 A1 Fi1_20 Fi1_22 g_b1) hZ (hw _ (List.mem_of_getElem? (i := 15) rfl)) (hw _ (List.mem_of_getElem? (i := 2) rfl)) (by decide) (by decide)) (g := (mkF m 19 #[.val (.long s1), .second, .val (.int n1)] [(.int n1), (.long s1), (.ref b1), (.ref b1)])) rfl (by rw [hml]; rfl) (Steps.refl _) (a := b1) (argsL := [(.long s1), (.int n1)]) (rest := [(.ref b1)]) (lenOf pd_2 rfl) rfl (by show 2 * 0 + _ ≤ _; exact Nat.le_of_eq rfl) (hb hby d10_19) (fun _ _ => ⟨rfl, e1, (by decide : 1 + 0 ≤ _), (by decide : 2 + 0 ≤ _)⟩)
  dsimp only [Pt.U, Pt.locs, Pt.cells, Pt.slots] at X2 l2 y2 z2 st2 hQ2
  subst l2 y2 z2
  obtain ⟨rfl, Nq2, kh2, Po2_0, Po2_1, Po2_2⟩ := hQ2
  have N2 := Fr.app N0 Nq2
  have O2 := O1.keep kh2 (allS g_b1 all0)
  have K2 : Keep h0 T2.heap [] := K1.trans kh2 (allS (Or.inr sz_b1) all0)
  obtain ⟨fs, hr, hrun, hended, hW, hsame⟩ := X2.leave (v := some (.ref b1)) (fun h => by rw [Bd.returns] at h; cases h)
  refine ⟨_, _, pre0 _ ?_, hrun, hended, _, _, rfl, ?_, ⟨_, rfl⟩, hW, hsame.mono (by decide) (by decide)⟩
  · show Steps p.tables e below (s₁.setTop (mkF m 0 #[.val (.long s1), .second, .val (.int n1)] [])) _
    refine XS.lloadN X0.here hx rfl (hb hby d10_0) rfl ?_
    show Steps p.tables e below (s₁.setTop (mkF m 1 #[.val (.long s1), .second, .val (.int n1)] [(.long s1)])) _
    refine XS.iloadN X0.here hx rfl (hb hby d10_1) rfl ?_
    show Steps p.tables e below (s₁.setTop (mkF m 2 #[.val (.long s1), .second, .val (.int n1)] [(.int n1), (.long s1)])) _
    refine XS.i2l X0.here hx rfl (hb hby d10_2) rfl ?_
    show Steps p.tables e below (s₁.setTop (mkF m 3 #[.val (.long s1), .second, .val (.int n1)] [(.long (n1.toInt64)), (.long s1)])) _
    refine XS.lor X0.here hx rfl (hb hby d10_3) rfl ?_
    show Steps p.tables e below (s₁.setTop (mkF m 4 #[.val (.long s1), .second, .val (.int n1)] [(.long (s1 ||| (n1.toInt64)))])) _
    refine XS.lconst X0.here hx rfl (hb hby d10_4) ?_
    show Steps p.tables e below (s₁.setTop (mkF m 5 #[.val (.long s1), .second, .val (.int n1)] [(.long (0 : Int64)), (.long (s1 ||| (n1.toInt64)))])) _
    refine XS.lcmp X0.here hx rfl (hb hby d10_5) rfl ?_
    show Steps p.tables e below (s₁.setTop (mkF m 6 #[.val (.long s1), .second, .val (.int n1)] [(.int (lcmpW (s1 ||| (n1.toInt64)) (0 : Int64)))])) _
    refine XS.ifYes X0.here hx rfl (pc0 := 6) (pc' := 13) rfl (hb hby d10_6) rfl ((if0 _ _).trans (feq (hc6 : ¬ ((lcmpW (s1 ||| (n1.toInt64)) (0 : Int64)) = (0 : Int32)))).2) (by decide) (by decide) ?_
    show Steps p.tables e below (s₁.setTop (mkF m 13 #[.val (.long s1), .second, .val (.int n1)] [])) _
    refine st1 _ ?_
    show Steps p.tables e below (T1.setTop (mkF m 16 #[.val (.long s1), .second, .val (.int n1)] [(.ref b1)])) _
    refine XS.dup X1.here hx rfl (hb hby d10_16) rfl rfl ?_
    show Steps p.tables e below (T1.setTop (mkF m 17 #[.val (.long s1), .second, .val (.int n1)] [(.ref b1), (.ref b1)])) _
    refine XS.lloadN X1.here hx rfl (hb hby d10_17) rfl ?_
    show Steps p.tables e below (T1.setTop (mkF m 18 #[.val (.long s1), .second, .val (.int n1)] [(.long s1), (.ref b1), (.ref b1)])) _
    refine XS.iloadN X1.here hx rfl (hb hby d10_18) rfl ?_
    show Steps p.tables e below (T1.setTop (mkF m 19 #[.val (.long s1), .second, .val (.int n1)] [(.int n1), (.long s1), (.ref b1), (.ref b1)])) _
    refine st2.trans ?_
    show Steps p.tables e below (T2.setTop (mkF m 22 #[.val (.long s1), .second, .val (.int n1)] [(.ref b1)])) _
    jvm_step X2.here [X2.here.top, hx, (hb hby d10_22), X2.method', Bd.returns, Value.isRef, FieldType.isReference]
    first | (intro acts; rw [hr _ acts rfl rfl rfl]) | rw [hr _ _ rfl rfl rfl]
    exact Steps.refl _
  · show Q_durC Z s1 n1 wz h0 n0 _ T2.heap _
    exact ⟨b1, rfl, N2, K2, Po2_0, Po2_1, Po2_2⟩
set_option maxRecDepth 65536 in
set_option maxHeartbeats 40000000 in
theorem durC (l : Launch) (Z : State) (a0 : Array Value) (hw : ∀ d ∈ tables_1, d.before a0 Z = true) (ws : List Jvm.Cond) (s1 : Int64) (n1 : Int32) (wz : Addr) (h0 : Heap) (n0 : Nat) (O0 : Old Z n0 h0) (G0 : Sta Z Z.heap "java/time/Duration" "ZERO" "Ljava/time/Duration;" (.ref wz)) (G1 : Exa Z Z.heap wz "java/time/Duration") (G2 : Fld Z Z.heap wz "java/time/Duration" "seconds" "J" (.long (0 : Int64))) (G3 : Fld Z Z.heap wz "java/time/Duration" "nanos" "I" (.int (0 : Int32))) :
    MetFree l (⟨"java/time/Duration", "create", "(JI)Ljava/time/Duration;"⟩ : MethodName) (head1 (Jvm.Cond.code (⟨"java/time/Duration", "create", "(JI)Ljava/time/Duration;"⟩ : MethodName) jdk_2316_method_16_code 3 (some (.object "java/time/Duration")) :: ws) ({ frames := 2, cells := 1, slots := 2, locals := 28 } : Room)) (fun zA zU => zA = #[(.long s1), (.int n1)] ∧ Z.Warmed39 zU.vm ∧ zU.heap = h0) (fun _ _ _ _ _ => True) (fun _ zU zo zU' => ∃ zv zL, zo = .returned zv ∧ Q_durC Z s1 n1 wz h0 n0 zv zU'.heap zL ∧ FrameEnd zU zo zU' zL ({ frames := 2, cells := 1, slots := 2, locals := 28 } : Room).cells ({ frames := 2, cells := 1, slots := 2, locals := 28 } : Room).slots) := by
  by_cases h1 : (lcmpW (s1 ||| (n1.toInt64)) (0 : Int64)) = (0 : Int32)
  · exact durC_1 l Z a0 hw ws s1 n1 wz h0 n0 O0 G0 G1 G2 G3 h1
  · exact durC_2 l Z a0 hw ws s1 n1 wz h0 n0 O0 G0 G1 G2 G3 h1
def Q_ofN (Z : State) (q : Int64) (wz : Addr) (h0 : Heap) (n0 : Nat) (v : Option Value) (h : Heap) (L : List Loc) : Prop := ∃ r : Addr, ∃ s1 : Int64, ∃ n1 : Int32, v = some (.ref r) ∧ Fr n0 L ∧ Keep h0 h [] ∧ Exa Z h r "java/time/Duration" ∧ Fld Z h r "java/time/Duration" "seconds" "J" (.long s1) ∧ Fld Z h r "java/time/Duration" "nanos" "I" (.int n1) ∧ DurOf s1 n1 q
theorem d11_0 : decode jdk_2316_method_7_code 0 = .ok (.lload_n 0, 1) := by decide +kernel
theorem d11_1 : decode jdk_2316_method_7_code 1 = .ok (.ldc2_w 16, 3) := by decide +kernel
theorem d11_4 : decode jdk_2316_method_7_code 4 = .ok (.ldiv, 1) := by decide +kernel
theorem d11_5 : decode jdk_2316_method_7_code 5 = .ok (.lstore_n 2, 1) := by decide +kernel
theorem d11_6 : decode jdk_2316_method_7_code 6 = .ok (.lload_n 0, 1) := by decide +kernel
theorem d11_7 : decode jdk_2316_method_7_code 7 = .ok (.ldc2_w 16, 3) := by decide +kernel
theorem d11_10 : decode jdk_2316_method_7_code 10 = .ok (.lrem, 1) := by decide +kernel
theorem d11_11 : decode jdk_2316_method_7_code 11 = .ok (.l2i, 1) := by decide +kernel
theorem d11_12 : decode jdk_2316_method_7_code 12 = .ok (.istore 4, 2) := by decide +kernel
theorem d11_14 : decode jdk_2316_method_7_code 14 = .ok (.iload 4, 2) := by decide +kernel
theorem d11_16 : decode jdk_2316_method_7_code 16 = .ok (.ifCond .ge 14, 3) := by decide +kernel
theorem d11_30 : decode jdk_2316_method_7_code 30 = .ok (.lload_n 2, 1) := by decide +kernel
theorem d11_31 : decode jdk_2316_method_7_code 31 = .ok (.iload 4, 2) := by decide +kernel
theorem d11_33 : decode jdk_2316_method_7_code 33 = .ok (.invokestatic 10, 3) := by decide +kernel
theorem pd_3 : parseMethodDescriptor "(JI)Ljava/time/Duration;" = some ⟨[.long, .int], some (.object "java/time/Duration")⟩ := by decide +kernel
theorem d11_36 : decode jdk_2316_method_7_code 36 = .ok (.areturn, 1) := by decide +kernel
theorem ef_11_J (m : MethodId) (x0 : Int64) : entryFrame m #[(.long x0)] 5 = mkF m 0 #[.val (.long x0), .second, .unset, .unset, .unset] [] := by first | (simp [entryFrame, mkF, argsToLocals, Value.category]; done) | rfl
set_option maxRecDepth 65536 in
set_option maxHeartbeats 40000000 in
theorem ofN_1 (l : Launch) (Z : State) (a0 : Array Value) (hw : ∀ d ∈ tables_1, d.before a0 Z = true) (ws : List Jvm.Cond) (q : Int64) (wz : Addr) (h0 : Heap) (n0 : Nat) (O0 : Old Z n0 h0) (G0 : Sta Z Z.heap "java/time/Duration" "ZERO" "Ljava/time/Duration;" (.ref wz)) (G1 : Exa Z Z.heap wz "java/time/Duration") (G2 : Fld Z Z.heap wz "java/time/Duration" "seconds" "J" (.long (0 : Int64))) (G3 : Fld Z Z.heap wz "java/time/Duration" "nanos" "I" (.int (0 : Int32))) (hc16 : ¬ (((q - q / (1000000000 : Int64) * (1000000000 : Int64)).toInt32) < (0 : Int32))) :
    MetFree l (⟨"java/time/Duration", "ofNanos", "(J)Ljava/time/Duration;"⟩ : MethodName) (head1 (Jvm.Cond.code (⟨"java/time/Duration", "ofNanos", "(J)Ljava/time/Duration;"⟩ : MethodName) jdk_2316_method_7_code 5 (some (.object "java/time/Duration")) :: ws) ({ frames := 3, cells := 1, slots := 2, locals := 42 } : Room)) (fun zA zU => zA = #[(.long q)] ∧ Z.Warmed39 zU.vm ∧ zU.heap = h0) (fun _ _ _ _ _ => True) (fun _ zU zo zU' => ∃ zv zL, zo = .returned zv ∧ Q_ofN Z q wz h0 n0 zv zU'.heap zL ∧ FrameEnd zU zo zU' zL ({ frames := 3, cells := 1, slots := 2, locals := 42 } : Room).cells ({ frames := 3, cells := 1, slots := 2, locals := 42 } : Room).slots) := by
  refine MetFree.of_bodySF (plainFor_of_name pn_8) hisR ?_
  intro p e s m args below meth c s₁ Bd hml0 hP hK
  obtain ⟨rfl, hZ, hh⟩ := hP
  have hx := Bd.exec
  have hby := Bd.bytes
  have hml : c.maxLocals = 5 := hml0
  have hown : s.vm.findClass "java/time/Duration" = some m.cls := findClass_of_methodNamed Bd.named
  have hnm := (name_of_methodNamed Bd.named Bd.method).1
  have X0 : Stand p l e ({ frames := 3, cells := 1, slots := 2, locals := 42 } : Room) s m #[(.long q)] below meth c s₁ [] 0 0 := Stand.of_body Bd
  have e0 : s₁.heap = h0 := by rw [← hh, Bd.state]; rfl
  have N0 := Fr.nil n0
  have Z0 : n0 ≤ h0.size := O0.1 ▸ O0.2.1
  have pre0 : ∀ zt, Steps p.tables e below (s₁.setTop (mkF m 0 #[.val (.long q), .second, .unset, .unset, .unset] [])) zt → Steps p.tables e below (s₁.setTop (entryFrame m #[(.long q)] 5)) zt := fun zt zk => castTop (ef_11_J m q) zk
  obtain ⟨_, _, ⟨T1, L1, k1, n1⟩, -, X1, ⟨Lc1, hQ1, l1, y1, z1⟩, st1⟩ := Jvm.LawKit.callS X0 hx (y := (⟨"java/time/Duration", "create", "(JI)Ljava/time/Duration;"⟩ : MethodName)) hown (mvT hZ (hw _ (List.mem_of_getElem? (i := 5) rfl))) (mvT hZ (hw _ (List.mem_of_getElem? (i := 6) rfl))) (mvT hZ (hw _ (List.mem_of_getElem? (i := 2) rfl))) (mvT hZ (hw _ (List.mem_of_getElem? (i := 7) rfl))) (by decide) (backOf (W := 0) (durC l Z a0 hw [] (q / (1000000000 : Int64)) ((q - q / (1000000000 : Int64) * (1000000000 : Int64)).toInt32) wz h0 n0 O0 G0 G1 G2 G3) hZ (hw _ (List.mem_of_getElem? (i := 7) rfl)) (hw _ (List.mem_of_getElem? (i := 2) rfl)) (by decide) (by decide)) (g := (mkF m 33 #[.val (.long q), .second, .val (.long (q / (1000000000 : Int64))), .second, .val (.int ((q - q / (1000000000 : Int64) * (1000000000 : Int64)).toInt32))] [(.int ((q - q / (1000000000 : Int64) * (1000000000 : Int64)).toInt32)), (.long (q / (1000000000 : Int64)))])) rfl (by rw [hml]; rfl) (argsL := [(.long (q / (1000000000 : Int64))), (.int ((q - q / (1000000000 : Int64) * (1000000000 : Int64)).toInt32))]) (rest := []) (lenOf pd_3 rfl) rfl (by show 2 * 0 + _ ≤ _; exact Nat.le_of_eq rfl) (hb hby d11_33) (fun _ _ => ⟨rfl, e0, (by decide : 0 + 1 ≤ _), (by decide : 0 + 2 ≤ _)⟩)
  dsimp only [Pt.U, Pt.locs, Pt.cells, Pt.slots] at X1 l1 y1 z1 st1 hQ1
  subst l1 y1 z1
  obtain ⟨r_1, rfl, Nq1, kh1, Po1_0, Po1_1, Po1_2⟩ := hQ1
  have N1 := Fr.app N0 Nq1
  have O1 := O0.keep kh1 all0
  have K1 : Keep h0 T1.heap [] := (Keep.refl h0 []).trans kh1 all0
  obtain ⟨fs, hr, hrun, hended, hW, hsame⟩ := X1.leave (v := some (.ref r_1)) (fun h => by rw [Bd.returns] at h; cases h)
  refine ⟨_, _, pre0 _ ?_, hrun, hended, _, _, rfl, ?_, ⟨_, rfl⟩, hW, hsame.mono (by decide) (by decide)⟩
  · show Steps p.tables e below (s₁.setTop (mkF m 0 #[.val (.long q), .second, .unset, .unset, .unset] [])) _
    refine XS.lloadN X0.here hx rfl (hb hby d11_0) rfl ?_
    show Steps p.tables e below (s₁.setTop (mkF m 1 #[.val (.long q), .second, .unset, .unset, .unset] [(.long q)])) _
    refine X0.ldc2Long hx hown (mvT hZ (hw _ (List.mem_of_getElem? (i := 4) rfl))) (g := (mkF m 1 #[.val (.long q), .second, .unset, .unset, .unset] [(.long q)])) rfl (hb hby d11_1) _ ?_
    show Steps p.tables e below (s₁.setTop (mkF m 4 #[.val (.long q), .second, .unset, .unset, .unset] [(.long (1000000000 : Int64)), (.long q)])) _
    refine XS.ldiv X0.here hx rfl (hb hby d11_4) rfl (by decide) ?_
    show Steps p.tables e below (s₁.setTop (mkF m 5 #[.val (.long q), .second, .unset, .unset, .unset] [(.long (q / (1000000000 : Int64)))])) _
    refine XS.lstoreN X0.here hx rfl (hb hby d11_5) rfl (l' := #[.val (.long q), .second, .val (.long (q / (1000000000 : Int64))), .second, .unset]) rfl ?_
    show Steps p.tables e below (s₁.setTop (mkF m 6 #[.val (.long q), .second, .val (.long (q / (1000000000 : Int64))), .second, .unset] [])) _
    refine XS.lloadN X0.here hx rfl (hb hby d11_6) rfl ?_
    show Steps p.tables e below (s₁.setTop (mkF m 7 #[.val (.long q), .second, .val (.long (q / (1000000000 : Int64))), .second, .unset] [(.long q)])) _
    refine X0.ldc2Long hx hown (mvT hZ (hw _ (List.mem_of_getElem? (i := 4) rfl))) (g := (mkF m 7 #[.val (.long q), .second, .val (.long (q / (1000000000 : Int64))), .second, .unset] [(.long q)])) rfl (hb hby d11_7) _ ?_
    show Steps p.tables e below (s₁.setTop (mkF m 10 #[.val (.long q), .second, .val (.long (q / (1000000000 : Int64))), .second, .unset] [(.long (1000000000 : Int64)), (.long q)])) _
    refine XS.lrem X0.here hx rfl (hb hby d11_10) rfl (by decide) ?_
    show Steps p.tables e below (s₁.setTop (mkF m 11 #[.val (.long q), .second, .val (.long (q / (1000000000 : Int64))), .second, .unset] [(.long (q - q / (1000000000 : Int64) * (1000000000 : Int64)))])) _
    refine XS.l2i X0.here hx rfl (hb hby d11_11) rfl ?_
    show Steps p.tables e below (s₁.setTop (mkF m 12 #[.val (.long q), .second, .val (.long (q / (1000000000 : Int64))), .second, .unset] [(.int ((q - q / (1000000000 : Int64) * (1000000000 : Int64)).toInt32))])) _
    refine XS.istore X0.here hx rfl (hb hby d11_12) rfl (l' := #[.val (.long q), .second, .val (.long (q / (1000000000 : Int64))), .second, .val (.int ((q - q / (1000000000 : Int64) * (1000000000 : Int64)).toInt32))]) rfl ?_
    show Steps p.tables e below (s₁.setTop (mkF m 14 #[.val (.long q), .second, .val (.long (q / (1000000000 : Int64))), .second, .val (.int ((q - q / (1000000000 : Int64) * (1000000000 : Int64)).toInt32))] [])) _
    refine XS.iload X0.here hx rfl (hb hby d11_14) rfl ?_
    show Steps p.tables e below (s₁.setTop (mkF m 16 #[.val (.long q), .second, .val (.long (q / (1000000000 : Int64))), .second, .val (.int ((q - q / (1000000000 : Int64) * (1000000000 : Int64)).toInt32))] [(.int ((q - q / (1000000000 : Int64) * (1000000000 : Int64)).toInt32))])) _
    refine XS.ifYes X0.here hx rfl (pc0 := 16) (pc' := 30) rfl (hb hby d11_16) rfl ((if0 _ _).trans (flt (hc16 : ¬ (((q - q / (1000000000 : Int64) * (1000000000 : Int64)).toInt32) < (0 : Int32)))).2.1) (by decide) (by decide) ?_
    show Steps p.tables e below (s₁.setTop (mkF m 30 #[.val (.long q), .second, .val (.long (q / (1000000000 : Int64))), .second, .val (.int ((q - q / (1000000000 : Int64) * (1000000000 : Int64)).toInt32))] [])) _
    refine XS.lloadN X0.here hx rfl (hb hby d11_30) rfl ?_
    show Steps p.tables e below (s₁.setTop (mkF m 31 #[.val (.long q), .second, .val (.long (q / (1000000000 : Int64))), .second, .val (.int ((q - q / (1000000000 : Int64) * (1000000000 : Int64)).toInt32))] [(.long (q / (1000000000 : Int64)))])) _
    refine XS.iload X0.here hx rfl (hb hby d11_31) rfl ?_
    show Steps p.tables e below (s₁.setTop (mkF m 33 #[.val (.long q), .second, .val (.long (q / (1000000000 : Int64))), .second, .val (.int ((q - q / (1000000000 : Int64) * (1000000000 : Int64)).toInt32))] [(.int ((q - q / (1000000000 : Int64) * (1000000000 : Int64)).toInt32)), (.long (q / (1000000000 : Int64)))])) _
    refine st1 _ ?_
    show Steps p.tables e below (T1.setTop (mkF m 36 #[.val (.long q), .second, .val (.long (q / (1000000000 : Int64))), .second, .val (.int ((q - q / (1000000000 : Int64) * (1000000000 : Int64)).toInt32))] [(.ref r_1)])) _
    jvm_step X1.here [X1.here.top, hx, (hb hby d11_36), X1.method', Bd.returns, Value.isRef, FieldType.isReference]
    first | (intro acts; rw [hr _ acts rfl rfl rfl]) | rw [hr _ _ rfl rfl rfl]
    exact Steps.refl _
  · show Q_ofN Z q wz h0 n0 _ T1.heap _
    exact ⟨r_1, (q / (1000000000 : Int64)), ((q - q / (1000000000 : Int64) * (1000000000 : Int64)).toInt32), rfl, N1, K1, Po1_0, Po1_1, Po1_2, (of_1 hc16)⟩
theorem d11_19 : decode jdk_2316_method_7_code 19 = .ok (.iload 4, 2) := by decide +kernel
theorem d11_21 : decode jdk_2316_method_7_code 21 = .ok (.ldc 31, 2) := by decide +kernel
theorem d11_23 : decode jdk_2316_method_7_code 23 = .ok (.iadd, 1) := by decide +kernel
theorem d11_24 : decode jdk_2316_method_7_code 24 = .ok (.istore 4, 2) := by decide +kernel
theorem d11_26 : decode jdk_2316_method_7_code 26 = .ok (.lload_n 2, 1) := by decide +kernel
theorem d11_27 : decode jdk_2316_method_7_code 27 = .ok (.lconst 1, 1) := by decide +kernel
theorem d11_28 : decode jdk_2316_method_7_code 28 = .ok (.lsub, 1) := by decide +kernel
theorem d11_29 : decode jdk_2316_method_7_code 29 = .ok (.lstore_n 2, 1) := by decide +kernel
set_option maxRecDepth 65536 in
set_option maxHeartbeats 40000000 in
theorem ofN_2 (l : Launch) (Z : State) (a0 : Array Value) (hw : ∀ d ∈ tables_1, d.before a0 Z = true) (ws : List Jvm.Cond) (q : Int64) (wz : Addr) (h0 : Heap) (n0 : Nat) (O0 : Old Z n0 h0) (G0 : Sta Z Z.heap "java/time/Duration" "ZERO" "Ljava/time/Duration;" (.ref wz)) (G1 : Exa Z Z.heap wz "java/time/Duration") (G2 : Fld Z Z.heap wz "java/time/Duration" "seconds" "J" (.long (0 : Int64))) (G3 : Fld Z Z.heap wz "java/time/Duration" "nanos" "I" (.int (0 : Int32))) (hc16 : ((q - q / (1000000000 : Int64) * (1000000000 : Int64)).toInt32) < (0 : Int32)) :
    MetFree l (⟨"java/time/Duration", "ofNanos", "(J)Ljava/time/Duration;"⟩ : MethodName) (head1 (Jvm.Cond.code (⟨"java/time/Duration", "ofNanos", "(J)Ljava/time/Duration;"⟩ : MethodName) jdk_2316_method_7_code 5 (some (.object "java/time/Duration")) :: ws) ({ frames := 3, cells := 1, slots := 2, locals := 42 } : Room)) (fun zA zU => zA = #[(.long q)] ∧ Z.Warmed39 zU.vm ∧ zU.heap = h0) (fun _ _ _ _ _ => True) (fun _ zU zo zU' => ∃ zv zL, zo = .returned zv ∧ Q_ofN Z q wz h0 n0 zv zU'.heap zL ∧ FrameEnd zU zo zU' zL ({ frames := 3, cells := 1, slots := 2, locals := 42 } : Room).cells ({ frames := 3, cells := 1, slots := 2, locals := 42 } : Room).slots) := by
  refine MetFree.of_bodySF (plainFor_of_name pn_8) hisR ?_
  intro p e s m args below meth c s₁ Bd hml0 hP hK
  obtain ⟨rfl, hZ, hh⟩ := hP
  have hx := Bd.exec
  have hby := Bd.bytes
  have hml : c.maxLocals = 5 := hml0
  have hown : s.vm.findClass "java/time/Duration" = some m.cls := findClass_of_methodNamed Bd.named
  have hnm := (name_of_methodNamed Bd.named Bd.method).1
  have X0 : Stand p l e ({ frames := 3, cells := 1, slots := 2, locals := 42 } : Room) s m #[(.long q)] below meth c s₁ [] 0 0 := Stand.of_body Bd
  have e0 : s₁.heap = h0 := by rw [← hh, Bd.state]; rfl
  have N0 := Fr.nil n0
  have Z0 : n0 ≤ h0.size := O0.1 ▸ O0.2.1
  have pre0 : ∀ zt, Steps p.tables e below (s₁.setTop (mkF m 0 #[.val (.long q), .second, .unset, .unset, .unset] [])) zt → Steps p.tables e below (s₁.setTop (entryFrame m #[(.long q)] 5)) zt := fun zt zk => castTop (ef_11_J m q) zk
  obtain ⟨_, _, ⟨T1, L1, k1, n1⟩, -, X1, ⟨Lc1, hQ1, l1, y1, z1⟩, st1⟩ := Jvm.LawKit.callS X0 hx (y := (⟨"java/time/Duration", "create", "(JI)Ljava/time/Duration;"⟩ : MethodName)) hown (mvT hZ (hw _ (List.mem_of_getElem? (i := 5) rfl))) (mvT hZ (hw _ (List.mem_of_getElem? (i := 6) rfl))) (mvT hZ (hw _ (List.mem_of_getElem? (i := 2) rfl))) (mvT hZ (hw _ (List.mem_of_getElem? (i := 7) rfl))) (by decide) (backOf (W := 0) (durC l Z a0 hw [] ((q / (1000000000 : Int64)) - (1 : Int64)) (((q - q / (1000000000 : Int64) * (1000000000 : Int64)).toInt32) + (1000000000 : Int32)) wz h0 n0 O0 G0 G1 G2 G3) hZ (hw _ (List.mem_of_getElem? (i := 7) rfl)) (hw _ (List.mem_of_getElem? (i := 2) rfl)) (by decide) (by decide)) (g := (mkF m 33 #[.val (.long q), .second, .val (.long ((q / (1000000000 : Int64)) - (1 : Int64))), .second, .val (.int (((q - q / (1000000000 : Int64) * (1000000000 : Int64)).toInt32) + (1000000000 : Int32)))] [(.int (((q - q / (1000000000 : Int64) * (1000000000 : Int64)).toInt32) + (1000000000 : Int32))), (.long ((q / (1000000000 : Int64)) - (1 : Int64)))])) rfl (by rw [hml]; rfl) (argsL := [(.long ((q / (1000000000 : Int64)) - (1 : Int64))), (.int (((q - q / (1000000000 : Int64) * (1000000000 : Int64)).toInt32) + (1000000000 : Int32)))]) (rest := []) (lenOf pd_3 rfl) rfl (by show 2 * 0 + _ ≤ _; exact Nat.le_of_eq rfl) (hb hby d11_33) (fun _ _ => ⟨rfl, e0, (by decide : 0 + 1 ≤ _), (by decide : 0 + 2 ≤ _)⟩)
  dsimp only [Pt.U, Pt.locs, Pt.cells, Pt.slots] at X1 l1 y1 z1 st1 hQ1
  subst l1 y1 z1
  obtain ⟨r_1, rfl, Nq1, kh1, Po1_0, Po1_1, Po1_2⟩ := hQ1
  have N1 := Fr.app N0 Nq1
  have O1 := O0.keep kh1 all0
  have K1 : Keep h0 T1.heap [] := (Keep.refl h0 []).trans kh1 all0
  obtain ⟨fs, hr, hrun, hended, hW, hsame⟩ := X1.leave (v := some (.ref r_1)) (fun h => by rw [Bd.returns] at h; cases h)
  refine ⟨_, _, pre0 _ ?_, hrun, hended, _, _, rfl, ?_, ⟨_, rfl⟩, hW, hsame.mono (by decide) (by decide)⟩
  · show Steps p.tables e below (s₁.setTop (mkF m 0 #[.val (.long q), .second, .unset, .unset, .unset] [])) _
    refine XS.lloadN X0.here hx rfl (hb hby d11_0) rfl ?_
    show Steps p.tables e below (s₁.setTop (mkF m 1 #[.val (.long q), .second, .unset, .unset, .unset] [(.long q)])) _
    refine X0.ldc2Long hx hown (mvT hZ (hw _ (List.mem_of_getElem? (i := 4) rfl))) (g := (mkF m 1 #[.val (.long q), .second, .unset, .unset, .unset] [(.long q)])) rfl (hb hby d11_1) _ ?_
    show Steps p.tables e below (s₁.setTop (mkF m 4 #[.val (.long q), .second, .unset, .unset, .unset] [(.long (1000000000 : Int64)), (.long q)])) _
    refine XS.ldiv X0.here hx rfl (hb hby d11_4) rfl (by decide) ?_
    show Steps p.tables e below (s₁.setTop (mkF m 5 #[.val (.long q), .second, .unset, .unset, .unset] [(.long (q / (1000000000 : Int64)))])) _
    refine XS.lstoreN X0.here hx rfl (hb hby d11_5) rfl (l' := #[.val (.long q), .second, .val (.long (q / (1000000000 : Int64))), .second, .unset]) rfl ?_
    show Steps p.tables e below (s₁.setTop (mkF m 6 #[.val (.long q), .second, .val (.long (q / (1000000000 : Int64))), .second, .unset] [])) _
    refine XS.lloadN X0.here hx rfl (hb hby d11_6) rfl ?_
    show Steps p.tables e below (s₁.setTop (mkF m 7 #[.val (.long q), .second, .val (.long (q / (1000000000 : Int64))), .second, .unset] [(.long q)])) _
    refine X0.ldc2Long hx hown (mvT hZ (hw _ (List.mem_of_getElem? (i := 4) rfl))) (g := (mkF m 7 #[.val (.long q), .second, .val (.long (q / (1000000000 : Int64))), .second, .unset] [(.long q)])) rfl (hb hby d11_7) _ ?_
    show Steps p.tables e below (s₁.setTop (mkF m 10 #[.val (.long q), .second, .val (.long (q / (1000000000 : Int64))), .second, .unset] [(.long (1000000000 : Int64)), (.long q)])) _
    refine XS.lrem X0.here hx rfl (hb hby d11_10) rfl (by decide) ?_
    show Steps p.tables e below (s₁.setTop (mkF m 11 #[.val (.long q), .second, .val (.long (q / (1000000000 : Int64))), .second, .unset] [(.long (q - q / (1000000000 : Int64) * (1000000000 : Int64)))])) _
    refine XS.l2i X0.here hx rfl (hb hby d11_11) rfl ?_
    show Steps p.tables e below (s₁.setTop (mkF m 12 #[.val (.long q), .second, .val (.long (q / (1000000000 : Int64))), .second, .unset] [(.int ((q - q / (1000000000 : Int64) * (1000000000 : Int64)).toInt32))])) _
    refine XS.istore X0.here hx rfl (hb hby d11_12) rfl (l' := #[.val (.long q), .second, .val (.long (q / (1000000000 : Int64))), .second, .val (.int ((q - q / (1000000000 : Int64) * (1000000000 : Int64)).toInt32))]) rfl ?_
    show Steps p.tables e below (s₁.setTop (mkF m 14 #[.val (.long q), .second, .val (.long (q / (1000000000 : Int64))), .second, .val (.int ((q - q / (1000000000 : Int64) * (1000000000 : Int64)).toInt32))] [])) _
    refine XS.iload X0.here hx rfl (hb hby d11_14) rfl ?_
    show Steps p.tables e below (s₁.setTop (mkF m 16 #[.val (.long q), .second, .val (.long (q / (1000000000 : Int64))), .second, .val (.int ((q - q / (1000000000 : Int64) * (1000000000 : Int64)).toInt32))] [(.int ((q - q / (1000000000 : Int64) * (1000000000 : Int64)).toInt32))])) _
    refine XS.ifNo X0.here hx rfl (hb hby d11_16) rfl ((if0 _ _).trans (tlt (hc16 : ((q - q / (1000000000 : Int64) * (1000000000 : Int64)).toInt32) < (0 : Int32))).2.1) ?_
    show Steps p.tables e below (s₁.setTop (mkF m 19 #[.val (.long q), .second, .val (.long (q / (1000000000 : Int64))), .second, .val (.int ((q - q / (1000000000 : Int64) * (1000000000 : Int64)).toInt32))] [])) _
    refine XS.iload X0.here hx rfl (hb hby d11_19) rfl ?_
    show Steps p.tables e below (s₁.setTop (mkF m 21 #[.val (.long q), .second, .val (.long (q / (1000000000 : Int64))), .second, .val (.int ((q - q / (1000000000 : Int64) * (1000000000 : Int64)).toInt32))] [(.int ((q - q / (1000000000 : Int64) * (1000000000 : Int64)).toInt32))])) _
    refine X0.ldcInt hx hown (mvT hZ (hw _ (List.mem_of_getElem? (i := 9) rfl))) (g := (mkF m 21 #[.val (.long q), .second, .val (.long (q / (1000000000 : Int64))), .second, .val (.int ((q - q / (1000000000 : Int64) * (1000000000 : Int64)).toInt32))] [(.int ((q - q / (1000000000 : Int64) * (1000000000 : Int64)).toInt32))])) rfl (hb hby d11_21) _ ?_
    show Steps p.tables e below (s₁.setTop (mkF m 23 #[.val (.long q), .second, .val (.long (q / (1000000000 : Int64))), .second, .val (.int ((q - q / (1000000000 : Int64) * (1000000000 : Int64)).toInt32))] [(.int (1000000000 : Int32)), (.int ((q - q / (1000000000 : Int64) * (1000000000 : Int64)).toInt32))])) _
    refine XS.iadd X0.here hx rfl (hb hby d11_23) rfl ?_
    show Steps p.tables e below (s₁.setTop (mkF m 24 #[.val (.long q), .second, .val (.long (q / (1000000000 : Int64))), .second, .val (.int ((q - q / (1000000000 : Int64) * (1000000000 : Int64)).toInt32))] [(.int (((q - q / (1000000000 : Int64) * (1000000000 : Int64)).toInt32) + (1000000000 : Int32)))])) _
    refine XS.istore X0.here hx rfl (hb hby d11_24) rfl (l' := #[.val (.long q), .second, .val (.long (q / (1000000000 : Int64))), .second, .val (.int (((q - q / (1000000000 : Int64) * (1000000000 : Int64)).toInt32) + (1000000000 : Int32)))]) rfl ?_
    show Steps p.tables e below (s₁.setTop (mkF m 26 #[.val (.long q), .second, .val (.long (q / (1000000000 : Int64))), .second, .val (.int (((q - q / (1000000000 : Int64) * (1000000000 : Int64)).toInt32) + (1000000000 : Int32)))] [])) _
    refine XS.lloadN X0.here hx rfl (hb hby d11_26) rfl ?_
    show Steps p.tables e below (s₁.setTop (mkF m 27 #[.val (.long q), .second, .val (.long (q / (1000000000 : Int64))), .second, .val (.int (((q - q / (1000000000 : Int64) * (1000000000 : Int64)).toInt32) + (1000000000 : Int32)))] [(.long (q / (1000000000 : Int64)))])) _
    refine XS.lconst X0.here hx rfl (hb hby d11_27) ?_
    show Steps p.tables e below (s₁.setTop (mkF m 28 #[.val (.long q), .second, .val (.long (q / (1000000000 : Int64))), .second, .val (.int (((q - q / (1000000000 : Int64) * (1000000000 : Int64)).toInt32) + (1000000000 : Int32)))] [(.long (1 : Int64)), (.long (q / (1000000000 : Int64)))])) _
    refine XS.lsub X0.here hx rfl (hb hby d11_28) rfl ?_
    show Steps p.tables e below (s₁.setTop (mkF m 29 #[.val (.long q), .second, .val (.long (q / (1000000000 : Int64))), .second, .val (.int (((q - q / (1000000000 : Int64) * (1000000000 : Int64)).toInt32) + (1000000000 : Int32)))] [(.long ((q / (1000000000 : Int64)) - (1 : Int64)))])) _
    refine XS.lstoreN X0.here hx rfl (hb hby d11_29) rfl (l' := #[.val (.long q), .second, .val (.long ((q / (1000000000 : Int64)) - (1 : Int64))), .second, .val (.int (((q - q / (1000000000 : Int64) * (1000000000 : Int64)).toInt32) + (1000000000 : Int32)))]) rfl ?_
    show Steps p.tables e below (s₁.setTop (mkF m 30 #[.val (.long q), .second, .val (.long ((q / (1000000000 : Int64)) - (1 : Int64))), .second, .val (.int (((q - q / (1000000000 : Int64) * (1000000000 : Int64)).toInt32) + (1000000000 : Int32)))] [])) _
    refine XS.lloadN X0.here hx rfl (hb hby d11_30) rfl ?_
    show Steps p.tables e below (s₁.setTop (mkF m 31 #[.val (.long q), .second, .val (.long ((q / (1000000000 : Int64)) - (1 : Int64))), .second, .val (.int (((q - q / (1000000000 : Int64) * (1000000000 : Int64)).toInt32) + (1000000000 : Int32)))] [(.long ((q / (1000000000 : Int64)) - (1 : Int64)))])) _
    refine XS.iload X0.here hx rfl (hb hby d11_31) rfl ?_
    show Steps p.tables e below (s₁.setTop (mkF m 33 #[.val (.long q), .second, .val (.long ((q / (1000000000 : Int64)) - (1 : Int64))), .second, .val (.int (((q - q / (1000000000 : Int64) * (1000000000 : Int64)).toInt32) + (1000000000 : Int32)))] [(.int (((q - q / (1000000000 : Int64) * (1000000000 : Int64)).toInt32) + (1000000000 : Int32))), (.long ((q / (1000000000 : Int64)) - (1 : Int64)))])) _
    refine st1 _ ?_
    show Steps p.tables e below (T1.setTop (mkF m 36 #[.val (.long q), .second, .val (.long ((q / (1000000000 : Int64)) - (1 : Int64))), .second, .val (.int (((q - q / (1000000000 : Int64) * (1000000000 : Int64)).toInt32) + (1000000000 : Int32)))] [(.ref r_1)])) _
    jvm_step X1.here [X1.here.top, hx, (hb hby d11_36), X1.method', Bd.returns, Value.isRef, FieldType.isReference]
    first | (intro acts; rw [hr _ acts rfl rfl rfl]) | rw [hr _ _ rfl rfl rfl]
    exact Steps.refl _
  · show Q_ofN Z q wz h0 n0 _ T1.heap _
    exact ⟨r_1, ((q / (1000000000 : Int64)) - (1 : Int64)), (((q - q / (1000000000 : Int64) * (1000000000 : Int64)).toInt32) + (1000000000 : Int32)), rfl, N1, K1, Po1_0, Po1_1, Po1_2, (of_2 hc16)⟩
set_option maxRecDepth 65536 in
set_option maxHeartbeats 40000000 in
theorem ofN (l : Launch) (Z : State) (a0 : Array Value) (hw : ∀ d ∈ tables_1, d.before a0 Z = true) (ws : List Jvm.Cond) (q : Int64) (wz : Addr) (h0 : Heap) (n0 : Nat) (O0 : Old Z n0 h0) (G0 : Sta Z Z.heap "java/time/Duration" "ZERO" "Ljava/time/Duration;" (.ref wz)) (G1 : Exa Z Z.heap wz "java/time/Duration") (G2 : Fld Z Z.heap wz "java/time/Duration" "seconds" "J" (.long (0 : Int64))) (G3 : Fld Z Z.heap wz "java/time/Duration" "nanos" "I" (.int (0 : Int32))) :
    MetFree l (⟨"java/time/Duration", "ofNanos", "(J)Ljava/time/Duration;"⟩ : MethodName) (head1 (Jvm.Cond.code (⟨"java/time/Duration", "ofNanos", "(J)Ljava/time/Duration;"⟩ : MethodName) jdk_2316_method_7_code 5 (some (.object "java/time/Duration")) :: ws) ({ frames := 3, cells := 1, slots := 2, locals := 42 } : Room)) (fun zA zU => zA = #[(.long q)] ∧ Z.Warmed39 zU.vm ∧ zU.heap = h0) (fun _ _ _ _ _ => True) (fun _ zU zo zU' => ∃ zv zL, zo = .returned zv ∧ Q_ofN Z q wz h0 n0 zv zU'.heap zL ∧ FrameEnd zU zo zU' zL ({ frames := 3, cells := 1, slots := 2, locals := 42 } : Room).cells ({ frames := 3, cells := 1, slots := 2, locals := 42 } : Room).slots) := by
  by_cases h1 : ((q - q / (1000000000 : Int64) * (1000000000 : Int64)).toInt32) < (0 : Int32)
  · exact ofN_2 l Z a0 hw ws q wz h0 n0 O0 G0 G1 G2 G3 h1
  · exact ofN_1 l Z a0 hw ws q wz h0 n0 O0 G0 G1 G2 G3 h1
def Q_svI (Z : State) (a : Addr) (h0 : Heap) (n0 : Nat) (v : Option Value) (h : Heap) (L : List Loc) : Prop := ∃ la : Addr, v = none ∧ Fr n0 L ∧ Keep h0 h [a] ∧ h0.size ≤ la ∧ Exa Z h a "com/example/admitd/admitd/gate/ServiceTime" ∧ Fld Z h a "com/example/admitd/admitd/gate/ServiceTime" "latest" "[J" (.ref la) ∧ Fld Z h a "com/example/admitd/admitd/gate/ServiceTime" "count" "I" (.int (0 : Int32)) ∧ Fld Z h a "com/example/admitd/admitd/gate/ServiceTime" "next" "I" (.int (0 : Int32)) ∧ Fld Z h a "com/example/admitd/admitd/gate/ServiceTime" "sum" "J" (.long (0 : Int64)) ∧ ArZ Z h la .long (32 : Int32)
theorem d12_0 : decode prog_9_method_1_code 0 = .ok (.aload_n 0, 1) := by decide +kernel
theorem d12_1 : decode prog_9_method_1_code 1 = .ok (.invokespecial 1, 3) := by decide +kernel
theorem d12_4 : decode prog_9_method_1_code 4 = .ok (.aload_n 0, 1) := by decide +kernel
theorem d12_5 : decode prog_9_method_1_code 5 = .ok (.bipush 32, 2) := by decide +kernel
theorem d12_7 : decode prog_9_method_1_code 7 = .ok (.newarray .long, 2) := by decide +kernel
theorem d12_9 : decode prog_9_method_1_code 9 = .ok (.putfield 9, 3) := by decide +kernel
theorem d12_12 : decode prog_9_method_1_code 12 = .ok (.return_, 1) := by decide +kernel
theorem pn_13 : plainName "com/example/admitd/admitd/gate/ServiceTime" = true := by first | (simp [plainName, overriddenIn]; done) | decide +kernel
theorem ef_12_R (m : MethodId) (x0 : Addr) : entryFrame m #[(.ref x0)] 1 = mkF m 0 #[.val (.ref x0)] [] := by first | (simp [entryFrame, mkF, argsToLocals, Value.category]; done) | rfl
set_option maxRecDepth 65536 in
set_option maxHeartbeats 40000000 in
theorem svI (l : Launch) (Z : State) (a0 : Array Value) (hw : ∀ d ∈ tables_1, d.before a0 Z = true) (ws : List Jvm.Cond) (a : Addr) (h0 : Heap) (n0 : Nat) (O0 : Old Z n0 h0) (P0 : Exa Z h0 a "com/example/admitd/admitd/gate/ServiceTime") (P1 : Fld Z h0 a "com/example/admitd/admitd/gate/ServiceTime" "latest" "[J" .null) (P2 : Fld Z h0 a "com/example/admitd/admitd/gate/ServiceTime" "count" "I" (.int (0 : Int32))) (P3 : Fld Z h0 a "com/example/admitd/admitd/gate/ServiceTime" "next" "I" (.int (0 : Int32))) (P4 : Fld Z h0 a "com/example/admitd/admitd/gate/ServiceTime" "sum" "J" (.long (0 : Int64))) (g_a : n0 ≤ a) :
    MetFree l (⟨"com/example/admitd/admitd/gate/ServiceTime", "<init>", "()V"⟩ : MethodName) (head1 (Jvm.Cond.code (⟨"com/example/admitd/admitd/gate/ServiceTime", "<init>", "()V"⟩ : MethodName) prog_9_method_1_code 1 none :: ws) ({ frames := 1, cells := 1, slots := 32, locals := 12 } : Room)) (fun zA zU => zA = #[(.ref a)] ∧ Z.Warmed39 zU.vm ∧ zU.heap = h0) (fun _ _ _ _ _ => True) (fun _ zU zo zU' => ∃ zv zL, zo = .returned zv ∧ Q_svI Z a h0 n0 zv zU'.heap zL ∧ FrameEnd zU zo zU' zL ({ frames := 1, cells := 1, slots := 32, locals := 12 } : Room).cells ({ frames := 1, cells := 1, slots := 32, locals := 12 } : Room).slots) := by
  refine MetFree.of_bodySF (plainFor_of_name pn_13) hisR ?_
  intro p e s m args below meth c s₁ Bd hml0 hP hK
  obtain ⟨rfl, hZ, hh⟩ := hP
  have hx := Bd.exec
  have hby := Bd.bytes
  have hml : c.maxLocals = 1 := hml0
  have hown : s.vm.findClass "com/example/admitd/admitd/gate/ServiceTime" = some m.cls := findClass_of_methodNamed Bd.named
  have hnm := (name_of_methodNamed Bd.named Bd.method).1
  have X0 : Stand p l e ({ frames := 1, cells := 1, slots := 32, locals := 12 } : Room) s m #[(.ref a)] below meth c s₁ [] 0 0 := Stand.of_body Bd
  have e0 : s₁.heap = h0 := by rw [← hh, Bd.state]; rfl
  have N0 := Fr.nil n0
  have Z0 : n0 ≤ h0.size := O0.1 ▸ O0.2.1
  have pre0 : ∀ zt, Steps p.tables e below (s₁.setTop (mkF m 0 #[.val (.ref a)] [])) zt → Steps p.tables e below (s₁.setTop (entryFrame m #[(.ref a)] 1)) zt := fun zt zk => castTop (ef_12_R m a) zk
  obtain ⟨T1, X1, e1, st1⟩ := initO X0 hx hZ hown (hw _ (List.mem_of_getElem? (i := 29) rfl)) (hw _ (List.mem_of_getElem? (i := 17) rfl)) (hw _ (List.mem_of_getElem? (i := 18) rfl)) e0 (g := (mkF m 1 #[.val (.ref a)] [(.ref a)])) rfl (by rw [hml]; rfl) rfl (hb hby d12_1) (by decide) (W := 0) (by show 2 * 0 + _ ≤ _; exact Nat.le_of_eq rfl) (by decide)
  obtain ⟨T2, h2, k2, X2, e2, E2, A2, st2⟩ := newP X1 hx hZ (hw _ (List.mem_of_getElem? (i := 30) rfl)) e1 (g := (mkF m 7 #[.val (.ref a)] [(.int (32 : Int32)), (.ref a)])) rfl (hb hby d12_7) rfl (by decide) (cap := 32) (by decide) (by decide) (by decide) (by decide)
  obtain ⟨b2, gz2⟩ : ∃ z, z = h0.size := ⟨_, rfl⟩
  rw [← gz2] at A2 st2
  have sz_b2 : h0.size ≤ b2 := Nat.le_trans (Keep.refl h0 [a]).1 (Nat.le_of_eq gz2.symm)
  have g_b2 : n0 ≤ b2 := Nat.le_trans Z0 sz_b2
  have O2 := O0.ext E2
  have K2 : Keep h0 h2 [a] := (Keep.refl h0 [a]).ext E2
  have V2 : Arv Z h2 b2 k2 .long (32 : Int32) [(.long (0 : Int64)), (.long (0 : Int64)), (.long (0 : Int64)), (.long (0 : Int64)), (.long (0 : Int64)), (.long (0 : Int64)), (.long (0 : Int64)), (.long (0 : Int64)), (.long (0 : Int64)), (.long (0 : Int64)), (.long (0 : Int64)), (.long (0 : Int64)), (.long (0 : Int64)), (.long (0 : Int64)), (.long (0 : Int64)), (.long (0 : Int64)), (.long (0 : Int64)), (.long (0 : Int64)), (.long (0 : Int64)), (.long (0 : Int64)), (.long (0 : Int64)), (.long (0 : Int64)), (.long (0 : Int64)), (.long (0 : Int64)), (.long (0 : Int64)), (.long (0 : Int64)), (.long (0 : Int64)), (.long (0 : Int64)), (.long (0 : Int64)), (.long (0 : Int64)), (.long (0 : Int64)), (.long (0 : Int64))] (.long (0 : Int64)) := (Arv.new A2 (by decide)).pad (pad_rep [] (.long (0 : Int64)) 32)
  obtain ⟨T3, h3, X3, e3, W3, st3⟩ := putF X2 hx hZ hown (host := "") (Or.inl (hw _ (List.mem_of_getElem? (i := 31) rfl))) Via.refl e2 (P1.ext E2) (P0.ext E2) (Or.inr ⟨(hw _ (List.mem_of_getElem? (i := 32) rfl)), rfl, hnm⟩) (hw _ (List.mem_of_getElem? (i := 24) rfl)) (ty := (.array .long)) (by decide) rfl rfl (g := (mkF m 9 #[.val (.ref a)] [(.ref b2), (.ref a)])) rfl rfl (hb hby d12_9)
  have Fw3 := (P1.ext E2).same W3
  have O3 := O2.wr W3 g_a
  have K3 : Keep h0 h3 [a] := K2.wr W3 (Or.inl (List.mem_of_getElem? (i := 0) rfl))
  have N3 := Fr.snoc X3 N0 g_a
  have c4 : Fld Z h3 a "com/example/admitd/admitd/gate/ServiceTime" "count" "I" (.int (0 : Int32)) := ((P2.ext E2).other W3 (Or.inr (slot_ne (Or.inl (hw _ (List.mem_of_getElem? (i := 57) rfl))) (Or.inr (hw _ (List.mem_of_getElem? (i := 32) rfl))) (by decide) (t := .int) (t' := (.array .long)) (by decide) (by decide))))
  have c5 : Fld Z h3 a "com/example/admitd/admitd/gate/ServiceTime" "next" "I" (.int (0 : Int32)) := ((P3.ext E2).other W3 (Or.inr (slot_ne (Or.inl (hw _ (List.mem_of_getElem? (i := 59) rfl))) (Or.inr (hw _ (List.mem_of_getElem? (i := 32) rfl))) (by decide) (t := .int) (t' := (.array .long)) (by decide) (by decide))))
  have c6 : Fld Z h3 a "com/example/admitd/admitd/gate/ServiceTime" "sum" "J" (.long (0 : Int64)) := ((P4.ext E2).other W3 (Or.inr (slot_ne (Or.inl (hw _ (List.mem_of_getElem? (i := 61) rfl))) (Or.inr (hw _ (List.mem_of_getElem? (i := 32) rfl))) (by decide) (t := .long) (t' := (.array .long)) (by decide) (by decide))))
  have c7 : Arv Z h3 b2 k2 .long (32 : Int32) [(.long (0 : Int64)), (.long (0 : Int64)), (.long (0 : Int64)), (.long (0 : Int64)), (.long (0 : Int64)), (.long (0 : Int64)), (.long (0 : Int64)), (.long (0 : Int64)), (.long (0 : Int64)), (.long (0 : Int64)), (.long (0 : Int64)), (.long (0 : Int64)), (.long (0 : Int64)), (.long (0 : Int64)), (.long (0 : Int64)), (.long (0 : Int64)), (.long (0 : Int64)), (.long (0 : Int64)), (.long (0 : Int64)), (.long (0 : Int64)), (.long (0 : Int64)), (.long (0 : Int64)), (.long (0 : Int64)), (.long (0 : Int64)), (.long (0 : Int64)), (.long (0 : Int64)), (.long (0 : Int64)), (.long (0 : Int64)), (.long (0 : Int64)), (.long (0 : Int64)), (.long (0 : Int64)), (.long (0 : Int64))] (.long (0 : Int64)) := (V2.other W3 (Ne.symm (Nat.ne_of_lt (Nat.lt_of_lt_of_le (P0).lt (Nat.le_of_eq gz2.symm)))))
  obtain ⟨fs, hr, hrun, hended, hW, hsame⟩ := X3.leave (v := none) (fun _ => rfl)
  refine ⟨_, _, pre0 _ ?_, hrun, hended, _, _, rfl, ?_, ⟨_, rfl⟩, hW, hsame.mono (by decide) (by decide)⟩
  · show Steps p.tables e below (s₁.setTop (mkF m 0 #[.val (.ref a)] [])) _
    refine XS.aloadN X0.here hx rfl (hb hby d12_0) rfl rfl ?_
    show Steps p.tables e below (s₁.setTop (mkF m 1 #[.val (.ref a)] [(.ref a)])) _
    refine st1 _ ?_
    show Steps p.tables e below (T1.setTop (mkF m 4 #[.val (.ref a)] [])) _
    refine XS.aloadN X1.here hx rfl (hb hby d12_4) rfl rfl ?_
    show Steps p.tables e below (T1.setTop (mkF m 5 #[.val (.ref a)] [(.ref a)])) _
    refine XS.bipush X1.here hx rfl (hb hby d12_5) ?_
    show Steps p.tables e below (T1.setTop (mkF m 7 #[.val (.ref a)] [(.int (32 : Int32)), (.ref a)])) _
    refine st2 _ ?_
    show Steps p.tables e below (T2.setTop (mkF m 9 #[.val (.ref a)] [(.ref b2), (.ref a)])) _
    refine st3 _ ?_
    show Steps p.tables e below (T3.setTop (mkF m 12 #[.val (.ref a)] [])) _
    exact X3.returnOut hx Bd.returns (hb hby d12_12) hr
  · show Q_svI Z a h0 n0 _ T3.heap _
    rw [e3]
    exact ⟨b2, rfl, N3, K3, sz_b2, ((P0.ext E2).wr W3), Fw3, c4, c5, c6, (ArZ.of c7)⟩
def Q_rec0 (Z : State) (a : Addr) (d : Addr) (la : Addr) (sm : Int64) (s1 : Int64) (n1 : Int32) (q : Int64) (h0 : Heap) (n0 : Nat) (v : Option Value) (h : Heap) (L : List Loc) : Prop := v = none ∧ Fr n0 L ∧ Keep h0 h [a, la] ∧ Exa Z h a "com/example/admitd/admitd/gate/ServiceTime" ∧ Fld Z h a "com/example/admitd/admitd/gate/ServiceTime" "latest" "[J" (.ref la) ∧ Fld Z h a "com/example/admitd/admitd/gate/ServiceTime" "count" "I" (.int (1 : Int32)) ∧ Fld Z h a "com/example/admitd/admitd/gate/ServiceTime" "next" "I" (.int (1 : Int32)) ∧ Fld Z h a "com/example/admitd/admitd/gate/ServiceTime" "sum" "J" (.long (sm + (maxJ (0 : Int64) q))) ∧ ArZ Z h la .long (32 : Int32)
theorem d14_0 : decode prog_9_method_2_code 0 = .ok (.lconst 0, 1) := by decide +kernel
theorem d14_1 : decode prog_9_method_2_code 1 = .ok (.aload_n 1, 1) := by decide +kernel
theorem d14_2 : decode prog_9_method_2_code 2 = .ok (.invokevirtual 13, 3) := by decide +kernel
theorem pd_4 : parseMethodDescriptor "()J" = some ⟨[], some .long⟩ := by decide +kernel
theorem d14_5 : decode prog_9_method_2_code 5 = .ok (.invokestatic 19, 3) := by decide +kernel
theorem d14_8 : decode prog_9_method_2_code 8 = .ok (.lstore_n 2, 1) := by decide +kernel
theorem d14_9 : decode prog_9_method_2_code 9 = .ok (.aload_n 0, 1) := by decide +kernel
theorem d14_10 : decode prog_9_method_2_code 10 = .ok (.getfield 25, 3) := by decide +kernel
theorem d14_13 : decode prog_9_method_2_code 13 = .ok (.bipush 32, 2) := by decide +kernel
theorem d14_15 : decode prog_9_method_2_code 15 = .ok (.if_icmp .ne 24, 3) := by decide +kernel
theorem d14_39 : decode prog_9_method_2_code 39 = .ok (.aload_n 0, 1) := by decide +kernel
theorem d14_40 : decode prog_9_method_2_code 40 = .ok (.dup, 1) := by decide +kernel
theorem d14_41 : decode prog_9_method_2_code 41 = .ok (.getfield 25, 3) := by decide +kernel
theorem d14_44 : decode prog_9_method_2_code 44 = .ok (.iconst 1, 1) := by decide +kernel
theorem d14_45 : decode prog_9_method_2_code 45 = .ok (.iadd, 1) := by decide +kernel
theorem d14_46 : decode prog_9_method_2_code 46 = .ok (.putfield 25, 3) := by decide +kernel
theorem d14_49 : decode prog_9_method_2_code 49 = .ok (.aload_n 0, 1) := by decide +kernel
theorem d14_50 : decode prog_9_method_2_code 50 = .ok (.getfield 9, 3) := by decide +kernel
theorem d14_53 : decode prog_9_method_2_code 53 = .ok (.aload_n 0, 1) := by decide +kernel
theorem d14_54 : decode prog_9_method_2_code 54 = .ok (.getfield 33, 3) := by decide +kernel
theorem d14_57 : decode prog_9_method_2_code 57 = .ok (.lload_n 2, 1) := by decide +kernel
theorem d14_58 : decode prog_9_method_2_code 58 = .ok (.lastore, 1) := by decide +kernel
theorem d14_59 : decode prog_9_method_2_code 59 = .ok (.aload_n 0, 1) := by decide +kernel
theorem d14_60 : decode prog_9_method_2_code 60 = .ok (.dup, 1) := by decide +kernel
theorem d14_61 : decode prog_9_method_2_code 61 = .ok (.getfield 29, 3) := by decide +kernel
theorem d14_64 : decode prog_9_method_2_code 64 = .ok (.lload_n 2, 1) := by decide +kernel
theorem d14_65 : decode prog_9_method_2_code 65 = .ok (.ladd, 1) := by decide +kernel
theorem d14_66 : decode prog_9_method_2_code 66 = .ok (.putfield 29, 3) := by decide +kernel
theorem d14_69 : decode prog_9_method_2_code 69 = .ok (.aload_n 0, 1) := by decide +kernel
theorem d14_70 : decode prog_9_method_2_code 70 = .ok (.aload_n 0, 1) := by decide +kernel
theorem d14_71 : decode prog_9_method_2_code 71 = .ok (.getfield 33, 3) := by decide +kernel
theorem d14_74 : decode prog_9_method_2_code 74 = .ok (.iconst 1, 1) := by decide +kernel
theorem d14_75 : decode prog_9_method_2_code 75 = .ok (.iadd, 1) := by decide +kernel
theorem d14_76 : decode prog_9_method_2_code 76 = .ok (.bipush 32, 2) := by decide +kernel
theorem d14_78 : decode prog_9_method_2_code 78 = .ok (.irem, 1) := by decide +kernel
theorem d14_79 : decode prog_9_method_2_code 79 = .ok (.putfield 33, 3) := by decide +kernel
theorem d14_82 : decode prog_9_method_2_code 82 = .ok (.return_, 1) := by decide +kernel
theorem ef_14_RR (m : MethodId) (x0 : Addr) (x1 : Addr) : entryFrame m #[(.ref x0), (.ref x1)] 4 = mkF m 0 #[.val (.ref x0), .val (.ref x1), .unset, .unset] [] := by first | (simp [entryFrame, mkF, argsToLocals, Value.category]; done) | rfl
set_option maxRecDepth 65536 in
set_option maxHeartbeats 40000000 in
theorem rec0 (l : Launch) (Z : State) (a0 : Array Value) (hw : ∀ d ∈ tables_1, d.before a0 Z = true) (ws : List Jvm.Cond) (a : Addr) (d : Addr) (la : Addr) (sm : Int64) (s1 : Int64) (n1 : Int32) (q : Int64) (h0 : Heap) (n0 : Nat) (O0 : Old Z n0 h0) (P0 : Exa Z h0 a "com/example/admitd/admitd/gate/ServiceTime") (P1 : Fld Z h0 a "com/example/admitd/admitd/gate/ServiceTime" "latest" "[J" (.ref la)) (P2 : Fld Z h0 a "com/example/admitd/admitd/gate/ServiceTime" "count" "I" (.int (0 : Int32))) (P3 : Fld Z h0 a "com/example/admitd/admitd/gate/ServiceTime" "next" "I" (.int (0 : Int32))) (P4 : Fld Z h0 a "com/example/admitd/admitd/gate/ServiceTime" "sum" "J" (.long sm)) (P5 : Exa Z h0 d "java/time/Duration") (P6 : Fld Z h0 d "java/time/Duration" "seconds" "J" (.long s1)) (P7 : Fld Z h0 d "java/time/Duration" "nanos" "I" (.int n1)) (P8 : ArZ Z h0 la .long (32 : Int32)) (g_a : n0 ≤ a) (g_la : n0 ≤ la) (ne_a_la : a ≠ la) (hd : DurOf s1 n1 q) :
    MetFree l (⟨"com/example/admitd/admitd/gate/ServiceTime", "record", "(Ljava/time/Duration;)V"⟩ : MethodName) (head1 (Jvm.Cond.code (⟨"com/example/admitd/admitd/gate/ServiceTime", "record", "(Ljava/time/Duration;)V"⟩ : MethodName) prog_9_method_2_code 4 none :: ws) ({ frames := 3, cells := 0, slots := 0, locals := 54 } : Room)) (fun zA zU => zA = #[(.ref a), (.ref d)] ∧ Z.Warmed39 zU.vm ∧ zU.heap = h0) (fun _ _ _ _ _ => True) (fun _ zU zo zU' => ∃ zv zL, zo = .returned zv ∧ Q_rec0 Z a d la sm s1 n1 q h0 n0 zv zU'.heap zL ∧ FrameEnd zU zo zU' zL ({ frames := 3, cells := 0, slots := 0, locals := 54 } : Room).cells ({ frames := 3, cells := 0, slots := 0, locals := 54 } : Room).slots) := by
  refine MetFree.of_bodySF (plainFor_of_name pn_13) hisR ?_
  intro p e s m args below meth c s₁ Bd hml0 hP hK
  obtain ⟨rfl, hZ, hh⟩ := hP
  have hx := Bd.exec
  have hby := Bd.bytes
  have hml : c.maxLocals = 4 := hml0
  have hown : s.vm.findClass "com/example/admitd/admitd/gate/ServiceTime" = some m.cls := findClass_of_methodNamed Bd.named
  have hnm := (name_of_methodNamed Bd.named Bd.method).1
  have X0 : Stand p l e ({ frames := 3, cells := 0, slots := 0, locals := 54 } : Room) s m #[(.ref a), (.ref d)] below meth c s₁ [] 0 0 := Stand.of_body Bd
  have e0 : s₁.heap = h0 := by rw [← hh, Bd.state]; rfl
  have N0 := Fr.nil n0
  have Z0 : n0 ≤ h0.size := O0.1 ▸ O0.2.1
  have pre0 : ∀ zt, Steps p.tables e below (s₁.setTop (mkF m 0 #[.val (.ref a), .val (.ref d), .unset, .unset] [])) zt → Steps p.tables e below (s₁.setTop (entryFrame m #[(.ref a), (.ref d)] 4)) zt := fun zt zk => castTop (ef_14_RR m a d) zk
  obtain ⟨cq1, kq1, q1a, q1b, q1c⟩ := isOf hZ e0 P5
  obtain ⟨_, _, ⟨T1, L1, k1, n1⟩, -, X1, ⟨Lc1, hQ1, l1, y1, z1⟩, st1⟩ := X0.virtualBack hx (y := (⟨"java/time/Duration", "toNanos", "()J"⟩ : MethodName)) (z := (⟨"java/time/Duration", "toNanos", "()J"⟩ : MethodName)) hown (mvT hZ (hw _ (List.mem_of_getElem? (i := 38) rfl))) (mvT hZ (hw _ (List.mem_of_getElem? (i := 39) rfl))) (notFace_of_selects (args := #[]) (mvT hZ (hw _ (List.mem_of_getElem? (i := 41) rfl)))) (mvT hZ (hw _ (List.mem_of_getElem? (i := 41) rfl))) (mvT hZ (hw _ (List.mem_of_getElem? (i := 40) rfl))) (by decide) (backOf (W := 2) (toN l Z a0 hw [] d s1 n1 q h0 n0 O0 P6 P7 hd) hZ (hw _ (List.mem_of_getElem? (i := 42) rfl)) (hw _ (List.mem_of_getElem? (i := 2) rfl)) (by decide) (by decide)) q1a q1c (g := (mkF m 2 #[.val (.ref a), .val (.ref d), .unset, .unset] [(.ref d), (.long (0 : Int64))])) rfl (by rw [hml]; rfl) (Steps.refl _) (argsL := []) (rest := [(.long (0 : Int64))]) (lenOf pd_4 rfl) rfl (by show 2 * 0 + _ ≤ _; exact Nat.le_of_eq rfl) (hb hby d14_2) (fun _ _ => ⟨rfl, e0, (by decide : 0 + 0 ≤ _), (by decide : 0 + 0 ≤ _)⟩)
  dsimp only [Pt.U, Pt.locs, Pt.cells, Pt.slots] at X1 l1 y1 z1 st1 hQ1
  subst l1 y1 z1
  obtain ⟨rfl, Nq1, kh1⟩ := hQ1
  have N1 := Fr.app N0 Nq1
  obtain ⟨_, _, ⟨T2, L2, k2, n2⟩, -, X2, ⟨Lc2, hQ2, l2, y2, z2⟩, st2⟩ := Jvm.LawKit.callS X1 hx (y := (⟨"java/lang/Math", "max", "(JJ)J"⟩ : MethodName)) hown (mvT hZ (hw _ (List.mem_of_getElem? (i := 53) rfl))) (mvT hZ (hw _ (List.mem_of_getElem? (i := 54) rfl))) (mvT hZ (hw _ (List.mem_of_getElem? (i := 45) rfl))) (mvT hZ (hw _ (List.mem_of_getElem? (i := 55) rfl))) (by decide) (backOf (W := 0) (maxR l Z a0 hw [] (0 : Int64) q h0 n0 O0 ) hZ (hw _ (List.mem_of_getElem? (i := 55) rfl)) (hw _ (List.mem_of_getElem? (i := 45) rfl)) (by decide) (by decide)) (g := (mkF m 5 #[.val (.ref a), .val (.ref d), .unset, .unset] [(.long q), (.long (0 : Int64))])) rfl (by rw [hml]; rfl) (argsL := [(.long (0 : Int64)), (.long q)]) (rest := []) (lenOf pd_1 rfl) rfl (by show 2 * 0 + _ ≤ _; exact Nat.le_of_eq rfl) (hb hby d14_5) (fun _ _ => ⟨rfl, kh1, (by decide : 0 + 0 ≤ _), (by decide : 0 + 0 ≤ _)⟩)
  dsimp only [Pt.U, Pt.locs, Pt.cells, Pt.slots] at X2 l2 y2 z2 st2 hQ2
  subst l2 y2 z2
  obtain ⟨rfl, Nq2, kh2⟩ := hQ2
  have N2 := Fr.app N1 Nq2
  obtain ⟨T3, X3, e3, st3⟩ := getF X2 hx hZ hown (host := "") (Or.inl (hw _ (List.mem_of_getElem? (i := 56) rfl))) Via.refl kh2 P2 (g := (mkF m 10 #[.val (.ref a), .val (.ref d), .val (.long (maxJ (0 : Int64) q)), .second] [(.ref a)])) rfl rfl (hb hby d14_10)
  obtain ⟨T4, X4, e4, st4⟩ := getF X3 hx hZ hown (host := "") (Or.inl (hw _ (List.mem_of_getElem? (i := 56) rfl))) Via.refl e3 P2 (g := (mkF m 41 #[.val (.ref a), .val (.ref d), .val (.long (maxJ (0 : Int64) q)), .second] [(.ref a), (.ref a)])) rfl rfl (hb hby d14_41)
  obtain ⟨T5, h5, X5, e5, W5, st5⟩ := putF X4 hx hZ hown (host := "") (Or.inl (hw _ (List.mem_of_getElem? (i := 56) rfl))) Via.refl e4 P2 P0 (Or.inl (hw _ (List.mem_of_getElem? (i := 57) rfl))) (hw _ (List.mem_of_getElem? (i := 24) rfl)) (ty := .int) (by decide) rfl rfl (g := (mkF m 46 #[.val (.ref a), .val (.ref d), .val (.long (maxJ (0 : Int64) q)), .second] [(.int (1 : Int32)), (.ref a)])) rfl rfl (hb hby d14_46)
  have Fw5 := P2.same W5
  have O5 := O0.wr W5 g_a
  have K5 : Keep h0 h5 [a, la] := (Keep.refl h0 [a, la]).wr W5 (Or.inl (List.mem_of_getElem? (i := 0) rfl))
  have N5 := Fr.snoc X5 N2 g_a
  have c7 : Fld Z h5 a "com/example/admitd/admitd/gate/ServiceTime" "latest" "[J" (.ref la) := (P1.other W5 (Or.inr (slot_ne (Or.inr (hw _ (List.mem_of_getElem? (i := 32) rfl))) (Or.inl (hw _ (List.mem_of_getElem? (i := 57) rfl))) (by decide) (t := (.array .long)) (t' := .int) (by decide) (by decide))))
  obtain ⟨T6, X6, e6, st6⟩ := getF X5 hx hZ hown (host := "") (Or.inl (hw _ (List.mem_of_getElem? (i := 31) rfl))) Via.refl e5 c7 (g := (mkF m 50 #[.val (.ref a), .val (.ref d), .val (.long (maxJ (0 : Int64) q)), .second] [(.ref a)])) rfl rfl (hb hby d14_50)
  have c9 : Fld Z h5 a "com/example/admitd/admitd/gate/ServiceTime" "next" "I" (.int (0 : Int32)) := (P3.other W5 (Or.inr (slot_ne (Or.inl (hw _ (List.mem_of_getElem? (i := 59) rfl))) (Or.inl (hw _ (List.mem_of_getElem? (i := 57) rfl))) (by decide) (t := .int) (t' := .int) (by decide) (by decide))))
  obtain ⟨T8, X8, e8, st8⟩ := getF X6 hx hZ hown (host := "") (Or.inl (hw _ (List.mem_of_getElem? (i := 58) rfl))) Via.refl e6 c9 (g := (mkF m 54 #[.val (.ref a), .val (.ref d), .val (.long (maxJ (0 : Int64) q)), .second] [(.ref a), (.ref la)])) rfl rfl (hb hby d14_54)
  obtain ⟨cl10, Ar10, Sz10, Ng10, Gs10⟩ := (id (P8.other W5 (Ne.symm ne_a_la)))
  have hin10 : ¬ ((0 : Int32) < 0 ∨ cl10.slots.size ≤ ((0 : Int32)).toNatClampNeg) := inb_of Sz10 ⟨by decide, by decide⟩
  obtain ⟨T10, h10, X10, e10, W10, st10⟩ := stJ X8 hx hZ e8 Ar10 (j := (0 : Int32)) hin10 (g := (mkF m 58 #[.val (.ref a), .val (.ref d), .val (.long (maxJ (0 : Int64) q)), .second] [(.long (maxJ (0 : Int64) q)), (.int (0 : Int32)), (.ref la)])) rfl rfl (hb hby d14_58)
  have V10 : ArZ Z h10 la .long (32 : Int32) := ArZ.set Ar10 Sz10 Ng10 W10
  have O10 := O5.wr W10 g_la
  have K10 : Keep h0 h10 [a, la] := K5.wr W10 (Or.inl (List.mem_of_getElem? (i := 1) rfl))
  have N10 := Fr.snoc X10 N5 g_la
  have c12 : Fld Z h10 a "com/example/admitd/admitd/gate/ServiceTime" "sum" "J" (.long sm) := ((P4.other W5 (Or.inr (slot_ne (Or.inl (hw _ (List.mem_of_getElem? (i := 61) rfl))) (Or.inl (hw _ (List.mem_of_getElem? (i := 57) rfl))) (by decide) (t := .long) (t' := .int) (by decide) (by decide)))).other W10 (Or.inl ne_a_la))
  obtain ⟨T11, X11, e11, st11⟩ := getF X10 hx hZ hown (host := "") (Or.inl (hw _ (List.mem_of_getElem? (i := 60) rfl))) Via.refl e10 c12 (g := (mkF m 61 #[.val (.ref a), .val (.ref d), .val (.long (maxJ (0 : Int64) q)), .second] [(.ref a), (.ref a)])) rfl rfl (hb hby d14_61)
  obtain ⟨T13, h13, X13, e13, W13, st13⟩ := putF X11 hx hZ hown (host := "") (Or.inl (hw _ (List.mem_of_getElem? (i := 60) rfl))) Via.refl e11 c12 ((P0.wr W5).wr W10) (Or.inl (hw _ (List.mem_of_getElem? (i := 61) rfl))) (hw _ (List.mem_of_getElem? (i := 24) rfl)) (ty := .long) (by decide) rfl rfl (g := (mkF m 66 #[.val (.ref a), .val (.ref d), .val (.long (maxJ (0 : Int64) q)), .second] [(.long (sm + (maxJ (0 : Int64) q))), (.ref a)])) rfl rfl (hb hby d14_66)
  have Fw13 := c12.same W13
  have O13 := O10.wr W13 g_a
  have K13 : Keep h0 h13 [a, la] := K10.wr W13 (Or.inl (List.mem_of_getElem? (i := 0) rfl))
  have N13 := Fr.snoc X13 N10 g_a
  have c15 : Fld Z h13 a "com/example/admitd/admitd/gate/ServiceTime" "next" "I" (.int (0 : Int32)) := ((c9.other W10 (Or.inl ne_a_la)).other W13 (Or.inr (slot_ne (Or.inl (hw _ (List.mem_of_getElem? (i := 59) rfl))) (Or.inl (hw _ (List.mem_of_getElem? (i := 61) rfl))) (by decide) (t := .int) (t' := .long) (by decide) (by decide))))
  obtain ⟨T14, X14, e14, st14⟩ := getF X13 hx hZ hown (host := "") (Or.inl (hw _ (List.mem_of_getElem? (i := 58) rfl))) Via.refl e13 c15 (g := (mkF m 71 #[.val (.ref a), .val (.ref d), .val (.long (maxJ (0 : Int64) q)), .second] [(.ref a), (.ref a)])) rfl rfl (hb hby d14_71)
  obtain ⟨T16, h16, X16, e16, W16, st16⟩ := putF X14 hx hZ hown (host := "") (Or.inl (hw _ (List.mem_of_getElem? (i := 58) rfl))) Via.refl e14 c15 (((P0.wr W5).wr W10).wr W13) (Or.inl (hw _ (List.mem_of_getElem? (i := 59) rfl))) (hw _ (List.mem_of_getElem? (i := 24) rfl)) (ty := .int) (by decide) rfl rfl (g := (mkF m 79 #[.val (.ref a), .val (.ref d), .val (.long (maxJ (0 : Int64) q)), .second] [(.int (1 : Int32)), (.ref a)])) rfl rfl (hb hby d14_79)
  have Fw16 := c15.same W16
  have O16 := O13.wr W16 g_a
  have K16 : Keep h0 h16 [a, la] := K13.wr W16 (Or.inl (List.mem_of_getElem? (i := 0) rfl))
  have N16 := Fr.snoc X16 N13 g_a
  have c17 : Fld Z h16 a "com/example/admitd/admitd/gate/ServiceTime" "latest" "[J" (.ref la) := (((c7.other W10 (Or.inl ne_a_la)).other W13 (Or.inr (slot_ne (Or.inr (hw _ (List.mem_of_getElem? (i := 32) rfl))) (Or.inl (hw _ (List.mem_of_getElem? (i := 61) rfl))) (by decide) (t := (.array .long)) (t' := .long) (by decide) (by decide)))).other W16 (Or.inr (slot_ne (Or.inr (hw _ (List.mem_of_getElem? (i := 32) rfl))) (Or.inl (hw _ (List.mem_of_getElem? (i := 59) rfl))) (by decide) (t := (.array .long)) (t' := .int) (by decide) (by decide))))
  have c18 : Fld Z h16 a "com/example/admitd/admitd/gate/ServiceTime" "count" "I" (.int (1 : Int32)) := (((Fw5.other W10 (Or.inl ne_a_la)).other W13 (Or.inr (slot_ne (Or.inl (hw _ (List.mem_of_getElem? (i := 57) rfl))) (Or.inl (hw _ (List.mem_of_getElem? (i := 61) rfl))) (by decide) (t := .int) (t' := .long) (by decide) (by decide)))).other W16 (Or.inr (slot_ne (Or.inl (hw _ (List.mem_of_getElem? (i := 57) rfl))) (Or.inl (hw _ (List.mem_of_getElem? (i := 59) rfl))) (by decide) (t := .int) (t' := .int) (by decide) (by decide))))
  have c19 : Fld Z h16 a "com/example/admitd/admitd/gate/ServiceTime" "sum" "J" (.long (sm + (maxJ (0 : Int64) q))) := (Fw13.other W16 (Or.inr (slot_ne (Or.inl (hw _ (List.mem_of_getElem? (i := 61) rfl))) (Or.inl (hw _ (List.mem_of_getElem? (i := 59) rfl))) (by decide) (t := .long) (t' := .int) (by decide) (by decide))))
  have c20 : ArZ Z h16 la .long (32 : Int32) := ((V10.other W13 (Ne.symm ne_a_la)).other W16 (Ne.symm ne_a_la))
  obtain ⟨fs, hr, hrun, hended, hW, hsame⟩ := X16.leave (v := none) (fun _ => rfl)
  refine ⟨_, _, pre0 _ ?_, hrun, hended, _, _, rfl, ?_, ⟨_, rfl⟩, hW, hsame.mono (by decide) (by decide)⟩
  · show Steps p.tables e below (s₁.setTop (mkF m 0 #[.val (.ref a), .val (.ref d), .unset, .unset] [])) _
    refine XS.lconst X0.here hx rfl (hb hby d14_0) ?_
    show Steps p.tables e below (s₁.setTop (mkF m 1 #[.val (.ref a), .val (.ref d), .unset, .unset] [(.long (0 : Int64))])) _
    refine XS.aloadN X0.here hx rfl (hb hby d14_1) rfl rfl ?_
    show Steps p.tables e below (s₁.setTop (mkF m 2 #[.val (.ref a), .val (.ref d), .unset, .unset] [(.ref d), (.long (0 : Int64))])) _
    refine st1.trans ?_
    show Steps p.tables e below (T1.setTop (mkF m 5 #[.val (.ref a), .val (.ref d), .unset, .unset] [(.long q), (.long (0 : Int64))])) _
    refine st2 _ ?_
    show Steps p.tables e below (T2.setTop (mkF m 8 #[.val (.ref a), .val (.ref d), .unset, .unset] [(.long (maxJ (0 : Int64) q))])) _
    refine XS.lstoreN X2.here hx rfl (hb hby d14_8) rfl (l' := #[.val (.ref a), .val (.ref d), .val (.long (maxJ (0 : Int64) q)), .second]) rfl ?_
    show Steps p.tables e below (T2.setTop (mkF m 9 #[.val (.ref a), .val (.ref d), .val (.long (maxJ (0 : Int64) q)), .second] [])) _
    refine XS.aloadN X2.here hx rfl (hb hby d14_9) rfl rfl ?_
    show Steps p.tables e below (T2.setTop (mkF m 10 #[.val (.ref a), .val (.ref d), .val (.long (maxJ (0 : Int64) q)), .second] [(.ref a)])) _
    refine st3 _ ?_
    show Steps p.tables e below (T3.setTop (mkF m 13 #[.val (.ref a), .val (.ref d), .val (.long (maxJ (0 : Int64) q)), .second] [(.int (0 : Int32))])) _
    refine XS.bipush X3.here hx rfl (hb hby d14_13) ?_
    show Steps p.tables e below (T3.setTop (mkF m 15 #[.val (.ref a), .val (.ref d), .val (.long (maxJ (0 : Int64) q)), .second] [(.int (32 : Int32)), (.int (0 : Int32))])) _
    refine XS.icmpYes X3.here hx rfl (pc0 := 15) (pc' := 39) rfl (hb hby d14_15) rfl (feq (by decide : ¬ ((0 : Int32) = (32 : Int32)))).2 (by decide) (by decide) ?_
    show Steps p.tables e below (T3.setTop (mkF m 39 #[.val (.ref a), .val (.ref d), .val (.long (maxJ (0 : Int64) q)), .second] [])) _
    refine XS.aloadN X3.here hx rfl (hb hby d14_39) rfl rfl ?_
    show Steps p.tables e below (T3.setTop (mkF m 40 #[.val (.ref a), .val (.ref d), .val (.long (maxJ (0 : Int64) q)), .second] [(.ref a)])) _
    refine XS.dup X3.here hx rfl (hb hby d14_40) rfl rfl ?_
    show Steps p.tables e below (T3.setTop (mkF m 41 #[.val (.ref a), .val (.ref d), .val (.long (maxJ (0 : Int64) q)), .second] [(.ref a), (.ref a)])) _
    refine st4 _ ?_
    show Steps p.tables e below (T4.setTop (mkF m 44 #[.val (.ref a), .val (.ref d), .val (.long (maxJ (0 : Int64) q)), .second] [(.int (0 : Int32)), (.ref a)])) _
    refine XS.iconst X4.here hx rfl (hb hby d14_44) ?_
    show Steps p.tables e below (T4.setTop (mkF m 45 #[.val (.ref a), .val (.ref d), .val (.long (maxJ (0 : Int64) q)), .second] [(.int (1 : Int32)), (.int (0 : Int32)), (.ref a)])) _
    refine XS.iadd X4.here hx rfl (hb hby d14_45) rfl ?_
    show Steps p.tables e below (T4.setTop (mkF m 46 #[.val (.ref a), .val (.ref d), .val (.long (maxJ (0 : Int64) q)), .second] [(.int ((0 : Int32) + (1 : Int32))), (.ref a)])) _
    refine castTop (congrArg (fun z_ => (mkF m 46 #[.val (.ref a), .val (.ref d), .val (.long (maxJ (0 : Int64) q)), .second] [(.int z_), (.ref a)])) (by decide : ((0 : Int32) + (1 : Int32)) = (1 : Int32))) ?_
    show Steps p.tables e below (T4.setTop (mkF m 46 #[.val (.ref a), .val (.ref d), .val (.long (maxJ (0 : Int64) q)), .second] [(.int (1 : Int32)), (.ref a)])) _
    refine st5 _ ?_
    show Steps p.tables e below (T5.setTop (mkF m 49 #[.val (.ref a), .val (.ref d), .val (.long (maxJ (0 : Int64) q)), .second] [])) _
    refine XS.aloadN X5.here hx rfl (hb hby d14_49) rfl rfl ?_
    show Steps p.tables e below (T5.setTop (mkF m 50 #[.val (.ref a), .val (.ref d), .val (.long (maxJ (0 : Int64) q)), .second] [(.ref a)])) _
    refine st6 _ ?_
    show Steps p.tables e below (T6.setTop (mkF m 53 #[.val (.ref a), .val (.ref d), .val (.long (maxJ (0 : Int64) q)), .second] [(.ref la)])) _
    refine XS.aloadN X6.here hx rfl (hb hby d14_53) rfl rfl ?_
    show Steps p.tables e below (T6.setTop (mkF m 54 #[.val (.ref a), .val (.ref d), .val (.long (maxJ (0 : Int64) q)), .second] [(.ref a), (.ref la)])) _
    refine st8 _ ?_
    show Steps p.tables e below (T8.setTop (mkF m 57 #[.val (.ref a), .val (.ref d), .val (.long (maxJ (0 : Int64) q)), .second] [(.int (0 : Int32)), (.ref la)])) _
    refine XS.lloadN X8.here hx rfl (hb hby d14_57) rfl ?_
    show Steps p.tables e below (T8.setTop (mkF m 58 #[.val (.ref a), .val (.ref d), .val (.long (maxJ (0 : Int64) q)), .second] [(.long (maxJ (0 : Int64) q)), (.int (0 : Int32)), (.ref la)])) _
    refine st10 _ ?_
    show Steps p.tables e below (T10.setTop (mkF m 59 #[.val (.ref a), .val (.ref d), .val (.long (maxJ (0 : Int64) q)), .second] [])) _
    refine XS.aloadN X10.here hx rfl (hb hby d14_59) rfl rfl ?_
    show Steps p.tables e below (T10.setTop (mkF m 60 #[.val (.ref a), .val (.ref d), .val (.long (maxJ (0 : Int64) q)), .second] [(.ref a)])) _
    refine XS.dup X10.here hx rfl (hb hby d14_60) rfl rfl ?_
    show Steps p.tables e below (T10.setTop (mkF m 61 #[.val (.ref a), .val (.ref d), .val (.long (maxJ (0 : Int64) q)), .second] [(.ref a), (.ref a)])) _
    refine st11 _ ?_
    show Steps p.tables e below (T11.setTop (mkF m 64 #[.val (.ref a), .val (.ref d), .val (.long (maxJ (0 : Int64) q)), .second] [(.long sm), (.ref a)])) _
    refine XS.lloadN X11.here hx rfl (hb hby d14_64) rfl ?_
    show Steps p.tables e below (T11.setTop (mkF m 65 #[.val (.ref a), .val (.ref d), .val (.long (maxJ (0 : Int64) q)), .second] [(.long (maxJ (0 : Int64) q)), (.long sm), (.ref a)])) _
    refine XS.ladd X11.here hx rfl (hb hby d14_65) rfl ?_
    show Steps p.tables e below (T11.setTop (mkF m 66 #[.val (.ref a), .val (.ref d), .val (.long (maxJ (0 : Int64) q)), .second] [(.long (sm + (maxJ (0 : Int64) q))), (.ref a)])) _
    refine st13 _ ?_
    show Steps p.tables e below (T13.setTop (mkF m 69 #[.val (.ref a), .val (.ref d), .val (.long (maxJ (0 : Int64) q)), .second] [])) _
    refine XS.aloadN X13.here hx rfl (hb hby d14_69) rfl rfl ?_
    show Steps p.tables e below (T13.setTop (mkF m 70 #[.val (.ref a), .val (.ref d), .val (.long (maxJ (0 : Int64) q)), .second] [(.ref a)])) _
    refine XS.aloadN X13.here hx rfl (hb hby d14_70) rfl rfl ?_
    show Steps p.tables e below (T13.setTop (mkF m 71 #[.val (.ref a), .val (.ref d), .val (.long (maxJ (0 : Int64) q)), .second] [(.ref a), (.ref a)])) _
    refine st14 _ ?_
    show Steps p.tables e below (T14.setTop (mkF m 74 #[.val (.ref a), .val (.ref d), .val (.long (maxJ (0 : Int64) q)), .second] [(.int (0 : Int32)), (.ref a)])) _
    refine XS.iconst X14.here hx rfl (hb hby d14_74) ?_
    show Steps p.tables e below (T14.setTop (mkF m 75 #[.val (.ref a), .val (.ref d), .val (.long (maxJ (0 : Int64) q)), .second] [(.int (1 : Int32)), (.int (0 : Int32)), (.ref a)])) _
    refine XS.iadd X14.here hx rfl (hb hby d14_75) rfl ?_
    show Steps p.tables e below (T14.setTop (mkF m 76 #[.val (.ref a), .val (.ref d), .val (.long (maxJ (0 : Int64) q)), .second] [(.int ((0 : Int32) + (1 : Int32))), (.ref a)])) _
    refine castTop (congrArg (fun z_ => (mkF m 76 #[.val (.ref a), .val (.ref d), .val (.long (maxJ (0 : Int64) q)), .second] [(.int z_), (.ref a)])) (by decide : ((0 : Int32) + (1 : Int32)) = (1 : Int32))) ?_
    show Steps p.tables e below (T14.setTop (mkF m 76 #[.val (.ref a), .val (.ref d), .val (.long (maxJ (0 : Int64) q)), .second] [(.int (1 : Int32)), (.ref a)])) _
    refine XS.bipush X14.here hx rfl (hb hby d14_76) ?_
    show Steps p.tables e below (T14.setTop (mkF m 78 #[.val (.ref a), .val (.ref d), .val (.long (maxJ (0 : Int64) q)), .second] [(.int (32 : Int32)), (.int (1 : Int32)), (.ref a)])) _
    refine iremM X14 hx rfl (hb hby d14_78) rfl (by decide) ?_
    show Steps p.tables e below (T14.setTop (mkF m 79 #[.val (.ref a), .val (.ref d), .val (.long (maxJ (0 : Int64) q)), .second] [(.int ((1 : Int32) % (32 : Int32))), (.ref a)])) _
    refine castTop (congrArg (fun z_ => (mkF m 79 #[.val (.ref a), .val (.ref d), .val (.long (maxJ (0 : Int64) q)), .second] [(.int z_), (.ref a)])) (by decide : ((1 : Int32) % (32 : Int32)) = (1 : Int32))) ?_
    show Steps p.tables e below (T14.setTop (mkF m 79 #[.val (.ref a), .val (.ref d), .val (.long (maxJ (0 : Int64) q)), .second] [(.int (1 : Int32)), (.ref a)])) _
    refine st16 _ ?_
    show Steps p.tables e below (T16.setTop (mkF m 82 #[.val (.ref a), .val (.ref d), .val (.long (maxJ (0 : Int64) q)), .second] [])) _
    exact X16.returnOut hx Bd.returns (hb hby d14_82) hr
  · show Q_rec0 Z a d la sm s1 n1 q h0 n0 _ T16.heap _
    rw [e16]
    exact ⟨rfl, N16, K16, ((((P0.wr W5).wr W10).wr W13).wr W16), c17, c18, Fw16, c19, c20⟩
def Q_rec1 (Z : State) (a : Addr) (d : Addr) (la : Addr) (sm : Int64) (s1 : Int64) (n1 : Int32) (q : Int64) (h0 : Heap) (n0 : Nat) (v : Option Value) (h : Heap) (L : List Loc) : Prop := v = none ∧ Fr n0 L ∧ Keep h0 h [a, la] ∧ Exa Z h a "com/example/admitd/admitd/gate/ServiceTime" ∧ Fld Z h a "com/example/admitd/admitd/gate/ServiceTime" "latest" "[J" (.ref la) ∧ Fld Z h a "com/example/admitd/admitd/gate/ServiceTime" "count" "I" (.int (2 : Int32)) ∧ Fld Z h a "com/example/admitd/admitd/gate/ServiceTime" "next" "I" (.int (2 : Int32)) ∧ Fld Z h a "com/example/admitd/admitd/gate/ServiceTime" "sum" "J" (.long (sm + (maxJ (0 : Int64) q))) ∧ ArZ Z h la .long (32 : Int32)
set_option maxRecDepth 65536 in
set_option maxHeartbeats 40000000 in
theorem rec1 (l : Launch) (Z : State) (a0 : Array Value) (hw : ∀ d ∈ tables_1, d.before a0 Z = true) (ws : List Jvm.Cond) (a : Addr) (d : Addr) (la : Addr) (sm : Int64) (s1 : Int64) (n1 : Int32) (q : Int64) (h0 : Heap) (n0 : Nat) (O0 : Old Z n0 h0) (P0 : Exa Z h0 a "com/example/admitd/admitd/gate/ServiceTime") (P1 : Fld Z h0 a "com/example/admitd/admitd/gate/ServiceTime" "latest" "[J" (.ref la)) (P2 : Fld Z h0 a "com/example/admitd/admitd/gate/ServiceTime" "count" "I" (.int (1 : Int32))) (P3 : Fld Z h0 a "com/example/admitd/admitd/gate/ServiceTime" "next" "I" (.int (1 : Int32))) (P4 : Fld Z h0 a "com/example/admitd/admitd/gate/ServiceTime" "sum" "J" (.long sm)) (P5 : Exa Z h0 d "java/time/Duration") (P6 : Fld Z h0 d "java/time/Duration" "seconds" "J" (.long s1)) (P7 : Fld Z h0 d "java/time/Duration" "nanos" "I" (.int n1)) (P8 : ArZ Z h0 la .long (32 : Int32)) (g_a : n0 ≤ a) (g_la : n0 ≤ la) (ne_a_la : a ≠ la) (hd : DurOf s1 n1 q) :
    MetFree l (⟨"com/example/admitd/admitd/gate/ServiceTime", "record", "(Ljava/time/Duration;)V"⟩ : MethodName) (head1 (Jvm.Cond.code (⟨"com/example/admitd/admitd/gate/ServiceTime", "record", "(Ljava/time/Duration;)V"⟩ : MethodName) prog_9_method_2_code 4 none :: ws) ({ frames := 3, cells := 0, slots := 0, locals := 54 } : Room)) (fun zA zU => zA = #[(.ref a), (.ref d)] ∧ Z.Warmed39 zU.vm ∧ zU.heap = h0) (fun _ _ _ _ _ => True) (fun _ zU zo zU' => ∃ zv zL, zo = .returned zv ∧ Q_rec1 Z a d la sm s1 n1 q h0 n0 zv zU'.heap zL ∧ FrameEnd zU zo zU' zL ({ frames := 3, cells := 0, slots := 0, locals := 54 } : Room).cells ({ frames := 3, cells := 0, slots := 0, locals := 54 } : Room).slots) := by
  refine MetFree.of_bodySF (plainFor_of_name pn_13) hisR ?_
  intro p e s m args below meth c s₁ Bd hml0 hP hK
  obtain ⟨rfl, hZ, hh⟩ := hP
  have hx := Bd.exec
  have hby := Bd.bytes
  have hml : c.maxLocals = 4 := hml0
  have hown : s.vm.findClass "com/example/admitd/admitd/gate/ServiceTime" = some m.cls := findClass_of_methodNamed Bd.named
  have hnm := (name_of_methodNamed Bd.named Bd.method).1
  have X0 : Stand p l e ({ frames := 3, cells := 0, slots := 0, locals := 54 } : Room) s m #[(.ref a), (.ref d)] below meth c s₁ [] 0 0 := Stand.of_body Bd
  have e0 : s₁.heap = h0 := by rw [← hh, Bd.state]; rfl
  have N0 := Fr.nil n0
  have Z0 : n0 ≤ h0.size := O0.1 ▸ O0.2.1
  have pre0 : ∀ zt, Steps p.tables e below (s₁.setTop (mkF m 0 #[.val (.ref a), .val (.ref d), .unset, .unset] [])) zt → Steps p.tables e below (s₁.setTop (entryFrame m #[(.ref a), (.ref d)] 4)) zt := fun zt zk => castTop (ef_14_RR m a d) zk
  obtain ⟨cq1, kq1, q1a, q1b, q1c⟩ := isOf hZ e0 P5
  obtain ⟨_, _, ⟨T1, L1, k1, n1⟩, -, X1, ⟨Lc1, hQ1, l1, y1, z1⟩, st1⟩ := X0.virtualBack hx (y := (⟨"java/time/Duration", "toNanos", "()J"⟩ : MethodName)) (z := (⟨"java/time/Duration", "toNanos", "()J"⟩ : MethodName)) hown (mvT hZ (hw _ (List.mem_of_getElem? (i := 38) rfl))) (mvT hZ (hw _ (List.mem_of_getElem? (i := 39) rfl))) (notFace_of_selects (args := #[]) (mvT hZ (hw _ (List.mem_of_getElem? (i := 41) rfl)))) (mvT hZ (hw _ (List.mem_of_getElem? (i := 41) rfl))) (mvT hZ (hw _ (List.mem_of_getElem? (i := 40) rfl))) (by decide) (backOf (W := 2) (toN l Z a0 hw [] d s1 n1 q h0 n0 O0 P6 P7 hd) hZ (hw _ (List.mem_of_getElem? (i := 42) rfl)) (hw _ (List.mem_of_getElem? (i := 2) rfl)) (by decide) (by decide)) q1a q1c (g := (mkF m 2 #[.val (.ref a), .val (.ref d), .unset, .unset] [(.ref d), (.long (0 : Int64))])) rfl (by rw [hml]; rfl) (Steps.refl _) (argsL := []) (rest := [(.long (0 : Int64))]) (lenOf pd_4 rfl) rfl (by show 2 * 0 + _ ≤ _; exact Nat.le_of_eq rfl) (hb hby d14_2) (fun _ _ => ⟨rfl, e0, (by decide : 0 + 0 ≤ _), (by decide : 0 + 0 ≤ _)⟩)
  dsimp only [Pt.U, Pt.locs, Pt.cells, Pt.slots] at X1 l1 y1 z1 st1 hQ1
  subst l1 y1 z1
  obtain ⟨rfl, Nq1, kh1⟩ := hQ1
  have N1 := Fr.app N0 Nq1
  obtain ⟨_, _, ⟨T2, L2, k2, n2⟩, -, X2, ⟨Lc2, hQ2, l2, y2, z2⟩, st2⟩ := Jvm.LawKit.callS X1 hx (y := (⟨"java/lang/Math", "max", "(JJ)J"⟩ : MethodName)) hown (mvT hZ (hw _ (List.mem_of_getElem? (i := 53) rfl))) (mvT hZ (hw _ (List.mem_of_getElem? (i := 54) rfl))) (mvT hZ (hw _ (List.mem_of_getElem? (i := 45) rfl))) (mvT hZ (hw _ (List.mem_of_getElem? (i := 55) rfl))) (by decide) (backOf (W := 0) (maxR l Z a0 hw [] (0 : Int64) q h0 n0 O0 ) hZ (hw _ (List.mem_of_getElem? (i := 55) rfl)) (hw _ (List.mem_of_getElem? (i := 45) rfl)) (by decide) (by decide)) (g := (mkF m 5 #[.val (.ref a), .val (.ref d), .unset, .unset] [(.long q), (.long (0 : Int64))])) rfl (by rw [hml]; rfl) (argsL := [(.long (0 : Int64)), (.long q)]) (rest := []) (lenOf pd_1 rfl) rfl (by show 2 * 0 + _ ≤ _; exact Nat.le_of_eq rfl) (hb hby d14_5) (fun _ _ => ⟨rfl, kh1, (by decide : 0 + 0 ≤ _), (by decide : 0 + 0 ≤ _)⟩)
  dsimp only [Pt.U, Pt.locs, Pt.cells, Pt.slots] at X2 l2 y2 z2 st2 hQ2
  subst l2 y2 z2
  obtain ⟨rfl, Nq2, kh2⟩ := hQ2
  have N2 := Fr.app N1 Nq2
  obtain ⟨T3, X3, e3, st3⟩ := getF X2 hx hZ hown (host := "") (Or.inl (hw _ (List.mem_of_getElem? (i := 56) rfl))) Via.refl kh2 P2 (g := (mkF m 10 #[.val (.ref a), .val (.ref d), .val (.long (maxJ (0 : Int64) q)), .second] [(.ref a)])) rfl rfl (hb hby d14_10)
  obtain ⟨T4, X4, e4, st4⟩ := getF X3 hx hZ hown (host := "") (Or.inl (hw _ (List.mem_of_getElem? (i := 56) rfl))) Via.refl e3 P2 (g := (mkF m 41 #[.val (.ref a), .val (.ref d), .val (.long (maxJ (0 : Int64) q)), .second] [(.ref a), (.ref a)])) rfl rfl (hb hby d14_41)
  obtain ⟨T5, h5, X5, e5, W5, st5⟩ := putF X4 hx hZ hown (host := "") (Or.inl (hw _ (List.mem_of_getElem? (i := 56) rfl))) Via.refl e4 P2 P0 (Or.inl (hw _ (List.mem_of_getElem? (i := 57) rfl))) (hw _ (List.mem_of_getElem? (i := 24) rfl)) (ty := .int) (by decide) rfl rfl (g := (mkF m 46 #[.val (.ref a), .val (.ref d), .val (.long (maxJ (0 : Int64) q)), .second] [(.int (2 : Int32)), (.ref a)])) rfl rfl (hb hby d14_46)
  have Fw5 := P2.same W5
  have O5 := O0.wr W5 g_a
  have K5 : Keep h0 h5 [a, la] := (Keep.refl h0 [a, la]).wr W5 (Or.inl (List.mem_of_getElem? (i := 0) rfl))
  have N5 := Fr.snoc X5 N2 g_a
  have c7 : Fld Z h5 a "com/example/admitd/admitd/gate/ServiceTime" "latest" "[J" (.ref la) := (P1.other W5 (Or.inr (slot_ne (Or.inr (hw _ (List.mem_of_getElem? (i := 32) rfl))) (Or.inl (hw _ (List.mem_of_getElem? (i := 57) rfl))) (by decide) (t := (.array .long)) (t' := .int) (by decide) (by decide))))
  obtain ⟨T6, X6, e6, st6⟩ := getF X5 hx hZ hown (host := "") (Or.inl (hw _ (List.mem_of_getElem? (i := 31) rfl))) Via.refl e5 c7 (g := (mkF m 50 #[.val (.ref a), .val (.ref d), .val (.long (maxJ (0 : Int64) q)), .second] [(.ref a)])) rfl rfl (hb hby d14_50)
  have c9 : Fld Z h5 a "com/example/admitd/admitd/gate/ServiceTime" "next" "I" (.int (1 : Int32)) := (P3.other W5 (Or.inr (slot_ne (Or.inl (hw _ (List.mem_of_getElem? (i := 59) rfl))) (Or.inl (hw _ (List.mem_of_getElem? (i := 57) rfl))) (by decide) (t := .int) (t' := .int) (by decide) (by decide))))
  obtain ⟨T8, X8, e8, st8⟩ := getF X6 hx hZ hown (host := "") (Or.inl (hw _ (List.mem_of_getElem? (i := 58) rfl))) Via.refl e6 c9 (g := (mkF m 54 #[.val (.ref a), .val (.ref d), .val (.long (maxJ (0 : Int64) q)), .second] [(.ref a), (.ref la)])) rfl rfl (hb hby d14_54)
  obtain ⟨cl10, Ar10, Sz10, Ng10, Gs10⟩ := (id (P8.other W5 (Ne.symm ne_a_la)))
  have hin10 : ¬ ((1 : Int32) < 0 ∨ cl10.slots.size ≤ ((1 : Int32)).toNatClampNeg) := inb_of Sz10 ⟨by decide, by decide⟩
  obtain ⟨T10, h10, X10, e10, W10, st10⟩ := stJ X8 hx hZ e8 Ar10 (j := (1 : Int32)) hin10 (g := (mkF m 58 #[.val (.ref a), .val (.ref d), .val (.long (maxJ (0 : Int64) q)), .second] [(.long (maxJ (0 : Int64) q)), (.int (1 : Int32)), (.ref la)])) rfl rfl (hb hby d14_58)
  have V10 : ArZ Z h10 la .long (32 : Int32) := ArZ.set Ar10 Sz10 Ng10 W10
  have O10 := O5.wr W10 g_la
  have K10 : Keep h0 h10 [a, la] := K5.wr W10 (Or.inl (List.mem_of_getElem? (i := 1) rfl))
  have N10 := Fr.snoc X10 N5 g_la
  have c12 : Fld Z h10 a "com/example/admitd/admitd/gate/ServiceTime" "sum" "J" (.long sm) := ((P4.other W5 (Or.inr (slot_ne (Or.inl (hw _ (List.mem_of_getElem? (i := 61) rfl))) (Or.inl (hw _ (List.mem_of_getElem? (i := 57) rfl))) (by decide) (t := .long) (t' := .int) (by decide) (by decide)))).other W10 (Or.inl ne_a_la))
  obtain ⟨T11, X11, e11, st11⟩ := getF X10 hx hZ hown (host := "") (Or.inl (hw _ (List.mem_of_getElem? (i := 60) rfl))) Via.refl e10 c12 (g := (mkF m 61 #[.val (.ref a), .val (.ref d), .val (.long (maxJ (0 : Int64) q)), .second] [(.ref a), (.ref a)])) rfl rfl (hb hby d14_61)
  obtain ⟨T13, h13, X13, e13, W13, st13⟩ := putF X11 hx hZ hown (host := "") (Or.inl (hw _ (List.mem_of_getElem? (i := 60) rfl))) Via.refl e11 c12 ((P0.wr W5).wr W10) (Or.inl (hw _ (List.mem_of_getElem? (i := 61) rfl))) (hw _ (List.mem_of_getElem? (i := 24) rfl)) (ty := .long) (by decide) rfl rfl (g := (mkF m 66 #[.val (.ref a), .val (.ref d), .val (.long (maxJ (0 : Int64) q)), .second] [(.long (sm + (maxJ (0 : Int64) q))), (.ref a)])) rfl rfl (hb hby d14_66)
  have Fw13 := c12.same W13
  have O13 := O10.wr W13 g_a
  have K13 : Keep h0 h13 [a, la] := K10.wr W13 (Or.inl (List.mem_of_getElem? (i := 0) rfl))
  have N13 := Fr.snoc X13 N10 g_a
  have c15 : Fld Z h13 a "com/example/admitd/admitd/gate/ServiceTime" "next" "I" (.int (1 : Int32)) := ((c9.other W10 (Or.inl ne_a_la)).other W13 (Or.inr (slot_ne (Or.inl (hw _ (List.mem_of_getElem? (i := 59) rfl))) (Or.inl (hw _ (List.mem_of_getElem? (i := 61) rfl))) (by decide) (t := .int) (t' := .long) (by decide) (by decide))))
  obtain ⟨T14, X14, e14, st14⟩ := getF X13 hx hZ hown (host := "") (Or.inl (hw _ (List.mem_of_getElem? (i := 58) rfl))) Via.refl e13 c15 (g := (mkF m 71 #[.val (.ref a), .val (.ref d), .val (.long (maxJ (0 : Int64) q)), .second] [(.ref a), (.ref a)])) rfl rfl (hb hby d14_71)
  obtain ⟨T16, h16, X16, e16, W16, st16⟩ := putF X14 hx hZ hown (host := "") (Or.inl (hw _ (List.mem_of_getElem? (i := 58) rfl))) Via.refl e14 c15 (((P0.wr W5).wr W10).wr W13) (Or.inl (hw _ (List.mem_of_getElem? (i := 59) rfl))) (hw _ (List.mem_of_getElem? (i := 24) rfl)) (ty := .int) (by decide) rfl rfl (g := (mkF m 79 #[.val (.ref a), .val (.ref d), .val (.long (maxJ (0 : Int64) q)), .second] [(.int (2 : Int32)), (.ref a)])) rfl rfl (hb hby d14_79)
  have Fw16 := c15.same W16
  have O16 := O13.wr W16 g_a
  have K16 : Keep h0 h16 [a, la] := K13.wr W16 (Or.inl (List.mem_of_getElem? (i := 0) rfl))
  have N16 := Fr.snoc X16 N13 g_a
  have c17 : Fld Z h16 a "com/example/admitd/admitd/gate/ServiceTime" "latest" "[J" (.ref la) := (((c7.other W10 (Or.inl ne_a_la)).other W13 (Or.inr (slot_ne (Or.inr (hw _ (List.mem_of_getElem? (i := 32) rfl))) (Or.inl (hw _ (List.mem_of_getElem? (i := 61) rfl))) (by decide) (t := (.array .long)) (t' := .long) (by decide) (by decide)))).other W16 (Or.inr (slot_ne (Or.inr (hw _ (List.mem_of_getElem? (i := 32) rfl))) (Or.inl (hw _ (List.mem_of_getElem? (i := 59) rfl))) (by decide) (t := (.array .long)) (t' := .int) (by decide) (by decide))))
  have c18 : Fld Z h16 a "com/example/admitd/admitd/gate/ServiceTime" "count" "I" (.int (2 : Int32)) := (((Fw5.other W10 (Or.inl ne_a_la)).other W13 (Or.inr (slot_ne (Or.inl (hw _ (List.mem_of_getElem? (i := 57) rfl))) (Or.inl (hw _ (List.mem_of_getElem? (i := 61) rfl))) (by decide) (t := .int) (t' := .long) (by decide) (by decide)))).other W16 (Or.inr (slot_ne (Or.inl (hw _ (List.mem_of_getElem? (i := 57) rfl))) (Or.inl (hw _ (List.mem_of_getElem? (i := 59) rfl))) (by decide) (t := .int) (t' := .int) (by decide) (by decide))))
  have c19 : Fld Z h16 a "com/example/admitd/admitd/gate/ServiceTime" "sum" "J" (.long (sm + (maxJ (0 : Int64) q))) := (Fw13.other W16 (Or.inr (slot_ne (Or.inl (hw _ (List.mem_of_getElem? (i := 61) rfl))) (Or.inl (hw _ (List.mem_of_getElem? (i := 59) rfl))) (by decide) (t := .long) (t' := .int) (by decide) (by decide))))
  have c20 : ArZ Z h16 la .long (32 : Int32) := ((V10.other W13 (Ne.symm ne_a_la)).other W16 (Ne.symm ne_a_la))
  obtain ⟨fs, hr, hrun, hended, hW, hsame⟩ := X16.leave (v := none) (fun _ => rfl)
  refine ⟨_, _, pre0 _ ?_, hrun, hended, _, _, rfl, ?_, ⟨_, rfl⟩, hW, hsame.mono (by decide) (by decide)⟩
  · show Steps p.tables e below (s₁.setTop (mkF m 0 #[.val (.ref a), .val (.ref d), .unset, .unset] [])) _
    refine XS.lconst X0.here hx rfl (hb hby d14_0) ?_
    show Steps p.tables e below (s₁.setTop (mkF m 1 #[.val (.ref a), .val (.ref d), .unset, .unset] [(.long (0 : Int64))])) _
    refine XS.aloadN X0.here hx rfl (hb hby d14_1) rfl rfl ?_
    show Steps p.tables e below (s₁.setTop (mkF m 2 #[.val (.ref a), .val (.ref d), .unset, .unset] [(.ref d), (.long (0 : Int64))])) _
    refine st1.trans ?_
    show Steps p.tables e below (T1.setTop (mkF m 5 #[.val (.ref a), .val (.ref d), .unset, .unset] [(.long q), (.long (0 : Int64))])) _
    refine st2 _ ?_
    show Steps p.tables e below (T2.setTop (mkF m 8 #[.val (.ref a), .val (.ref d), .unset, .unset] [(.long (maxJ (0 : Int64) q))])) _
    refine XS.lstoreN X2.here hx rfl (hb hby d14_8) rfl (l' := #[.val (.ref a), .val (.ref d), .val (.long (maxJ (0 : Int64) q)), .second]) rfl ?_
    show Steps p.tables e below (T2.setTop (mkF m 9 #[.val (.ref a), .val (.ref d), .val (.long (maxJ (0 : Int64) q)), .second] [])) _
    refine XS.aloadN X2.here hx rfl (hb hby d14_9) rfl rfl ?_
    show Steps p.tables e below (T2.setTop (mkF m 10 #[.val (.ref a), .val (.ref d), .val (.long (maxJ (0 : Int64) q)), .second] [(.ref a)])) _
    refine st3 _ ?_
    show Steps p.tables e below (T3.setTop (mkF m 13 #[.val (.ref a), .val (.ref d), .val (.long (maxJ (0 : Int64) q)), .second] [(.int (1 : Int32))])) _
    refine XS.bipush X3.here hx rfl (hb hby d14_13) ?_
    show Steps p.tables e below (T3.setTop (mkF m 15 #[.val (.ref a), .val (.ref d), .val (.long (maxJ (0 : Int64) q)), .second] [(.int (32 : Int32)), (.int (1 : Int32))])) _
    refine XS.icmpYes X3.here hx rfl (pc0 := 15) (pc' := 39) rfl (hb hby d14_15) rfl (feq (by decide : ¬ ((1 : Int32) = (32 : Int32)))).2 (by decide) (by decide) ?_
    show Steps p.tables e below (T3.setTop (mkF m 39 #[.val (.ref a), .val (.ref d), .val (.long (maxJ (0 : Int64) q)), .second] [])) _
    refine XS.aloadN X3.here hx rfl (hb hby d14_39) rfl rfl ?_
    show Steps p.tables e below (T3.setTop (mkF m 40 #[.val (.ref a), .val (.ref d), .val (.long (maxJ (0 : Int64) q)), .second] [(.ref a)])) _
    refine XS.dup X3.here hx rfl (hb hby d14_40) rfl rfl ?_
    show Steps p.tables e below (T3.setTop (mkF m 41 #[.val (.ref a), .val (.ref d), .val (.long (maxJ (0 : Int64) q)), .second] [(.ref a), (.ref a)])) _
    refine st4 _ ?_
    show Steps p.tables e below (T4.setTop (mkF m 44 #[.val (.ref a), .val (.ref d), .val (.long (maxJ (0 : Int64) q)), .second] [(.int (1 : Int32)), (.ref a)])) _
    refine XS.iconst X4.here hx rfl (hb hby d14_44) ?_
    show Steps p.tables e below (T4.setTop (mkF m 45 #[.val (.ref a), .val (.ref d), .val (.long (maxJ (0 : Int64) q)), .second] [(.int (1 : Int32)), (.int (1 : Int32)), (.ref a)])) _
    refine XS.iadd X4.here hx rfl (hb hby d14_45) rfl ?_
    show Steps p.tables e below (T4.setTop (mkF m 46 #[.val (.ref a), .val (.ref d), .val (.long (maxJ (0 : Int64) q)), .second] [(.int ((1 : Int32) + (1 : Int32))), (.ref a)])) _
    refine castTop (congrArg (fun z_ => (mkF m 46 #[.val (.ref a), .val (.ref d), .val (.long (maxJ (0 : Int64) q)), .second] [(.int z_), (.ref a)])) (by decide : ((1 : Int32) + (1 : Int32)) = (2 : Int32))) ?_
    show Steps p.tables e below (T4.setTop (mkF m 46 #[.val (.ref a), .val (.ref d), .val (.long (maxJ (0 : Int64) q)), .second] [(.int (2 : Int32)), (.ref a)])) _
    refine st5 _ ?_
    show Steps p.tables e below (T5.setTop (mkF m 49 #[.val (.ref a), .val (.ref d), .val (.long (maxJ (0 : Int64) q)), .second] [])) _
    refine XS.aloadN X5.here hx rfl (hb hby d14_49) rfl rfl ?_
    show Steps p.tables e below (T5.setTop (mkF m 50 #[.val (.ref a), .val (.ref d), .val (.long (maxJ (0 : Int64) q)), .second] [(.ref a)])) _
    refine st6 _ ?_
    show Steps p.tables e below (T6.setTop (mkF m 53 #[.val (.ref a), .val (.ref d), .val (.long (maxJ (0 : Int64) q)), .second] [(.ref la)])) _
    refine XS.aloadN X6.here hx rfl (hb hby d14_53) rfl rfl ?_
    show Steps p.tables e below (T6.setTop (mkF m 54 #[.val (.ref a), .val (.ref d), .val (.long (maxJ (0 : Int64) q)), .second] [(.ref a), (.ref la)])) _
    refine st8 _ ?_
    show Steps p.tables e below (T8.setTop (mkF m 57 #[.val (.ref a), .val (.ref d), .val (.long (maxJ (0 : Int64) q)), .second] [(.int (1 : Int32)), (.ref la)])) _
    refine XS.lloadN X8.here hx rfl (hb hby d14_57) rfl ?_
    show Steps p.tables e below (T8.setTop (mkF m 58 #[.val (.ref a), .val (.ref d), .val (.long (maxJ (0 : Int64) q)), .second] [(.long (maxJ (0 : Int64) q)), (.int (1 : Int32)), (.ref la)])) _
    refine st10 _ ?_
    show Steps p.tables e below (T10.setTop (mkF m 59 #[.val (.ref a), .val (.ref d), .val (.long (maxJ (0 : Int64) q)), .second] [])) _
    refine XS.aloadN X10.here hx rfl (hb hby d14_59) rfl rfl ?_
    show Steps p.tables e below (T10.setTop (mkF m 60 #[.val (.ref a), .val (.ref d), .val (.long (maxJ (0 : Int64) q)), .second] [(.ref a)])) _
    refine XS.dup X10.here hx rfl (hb hby d14_60) rfl rfl ?_
    show Steps p.tables e below (T10.setTop (mkF m 61 #[.val (.ref a), .val (.ref d), .val (.long (maxJ (0 : Int64) q)), .second] [(.ref a), (.ref a)])) _
    refine st11 _ ?_
    show Steps p.tables e below (T11.setTop (mkF m 64 #[.val (.ref a), .val (.ref d), .val (.long (maxJ (0 : Int64) q)), .second] [(.long sm), (.ref a)])) _
    refine XS.lloadN X11.here hx rfl (hb hby d14_64) rfl ?_
    show Steps p.tables e below (T11.setTop (mkF m 65 #[.val (.ref a), .val (.ref d), .val (.long (maxJ (0 : Int64) q)), .second] [(.long (maxJ (0 : Int64) q)), (.long sm), (.ref a)])) _
    refine XS.ladd X11.here hx rfl (hb hby d14_65) rfl ?_
    show Steps p.tables e below (T11.setTop (mkF m 66 #[.val (.ref a), .val (.ref d), .val (.long (maxJ (0 : Int64) q)), .second] [(.long (sm + (maxJ (0 : Int64) q))), (.ref a)])) _
    refine st13 _ ?_
    show Steps p.tables e below (T13.setTop (mkF m 69 #[.val (.ref a), .val (.ref d), .val (.long (maxJ (0 : Int64) q)), .second] [])) _
    refine XS.aloadN X13.here hx rfl (hb hby d14_69) rfl rfl ?_
    show Steps p.tables e below (T13.setTop (mkF m 70 #[.val (.ref a), .val (.ref d), .val (.long (maxJ (0 : Int64) q)), .second] [(.ref a)])) _
    refine XS.aloadN X13.here hx rfl (hb hby d14_70) rfl rfl ?_
    show Steps p.tables e below (T13.setTop (mkF m 71 #[.val (.ref a), .val (.ref d), .val (.long (maxJ (0 : Int64) q)), .second] [(.ref a), (.ref a)])) _
    refine st14 _ ?_
    show Steps p.tables e below (T14.setTop (mkF m 74 #[.val (.ref a), .val (.ref d), .val (.long (maxJ (0 : Int64) q)), .second] [(.int (1 : Int32)), (.ref a)])) _
    refine XS.iconst X14.here hx rfl (hb hby d14_74) ?_
    show Steps p.tables e below (T14.setTop (mkF m 75 #[.val (.ref a), .val (.ref d), .val (.long (maxJ (0 : Int64) q)), .second] [(.int (1 : Int32)), (.int (1 : Int32)), (.ref a)])) _
    refine XS.iadd X14.here hx rfl (hb hby d14_75) rfl ?_
    show Steps p.tables e below (T14.setTop (mkF m 76 #[.val (.ref a), .val (.ref d), .val (.long (maxJ (0 : Int64) q)), .second] [(.int ((1 : Int32) + (1 : Int32))), (.ref a)])) _
    refine castTop (congrArg (fun z_ => (mkF m 76 #[.val (.ref a), .val (.ref d), .val (.long (maxJ (0 : Int64) q)), .second] [(.int z_), (.ref a)])) (by decide : ((1 : Int32) + (1 : Int32)) = (2 : Int32))) ?_
    show Steps p.tables e below (T14.setTop (mkF m 76 #[.val (.ref a), .val (.ref d), .val (.long (maxJ (0 : Int64) q)), .second] [(.int (2 : Int32)), (.ref a)])) _
    refine XS.bipush X14.here hx rfl (hb hby d14_76) ?_
    show Steps p.tables e below (T14.setTop (mkF m 78 #[.val (.ref a), .val (.ref d), .val (.long (maxJ (0 : Int64) q)), .second] [(.int (32 : Int32)), (.int (2 : Int32)), (.ref a)])) _
    refine iremM X14 hx rfl (hb hby d14_78) rfl (by decide) ?_
    show Steps p.tables e below (T14.setTop (mkF m 79 #[.val (.ref a), .val (.ref d), .val (.long (maxJ (0 : Int64) q)), .second] [(.int ((2 : Int32) % (32 : Int32))), (.ref a)])) _
    refine castTop (congrArg (fun z_ => (mkF m 79 #[.val (.ref a), .val (.ref d), .val (.long (maxJ (0 : Int64) q)), .second] [(.int z_), (.ref a)])) (by decide : ((2 : Int32) % (32 : Int32)) = (2 : Int32))) ?_
    show Steps p.tables e below (T14.setTop (mkF m 79 #[.val (.ref a), .val (.ref d), .val (.long (maxJ (0 : Int64) q)), .second] [(.int (2 : Int32)), (.ref a)])) _
    refine st16 _ ?_
    show Steps p.tables e below (T16.setTop (mkF m 82 #[.val (.ref a), .val (.ref d), .val (.long (maxJ (0 : Int64) q)), .second] [])) _
    exact X16.returnOut hx Bd.returns (hb hby d14_82) hr
  · show Q_rec1 Z a d la sm s1 n1 q h0 n0 _ T16.heap _
    rw [e16]
    exact ⟨rfl, N16, K16, ((((P0.wr W5).wr W10).wr W13).wr W16), c17, c18, Fw16, c19, c20⟩
def Q_rec2 (Z : State) (a : Addr) (d : Addr) (la : Addr) (sm : Int64) (s1 : Int64) (n1 : Int32) (q : Int64) (h0 : Heap) (n0 : Nat) (v : Option Value) (h : Heap) (L : List Loc) : Prop := v = none ∧ Fr n0 L ∧ Keep h0 h [a, la] ∧ Exa Z h a "com/example/admitd/admitd/gate/ServiceTime" ∧ Fld Z h a "com/example/admitd/admitd/gate/ServiceTime" "latest" "[J" (.ref la) ∧ Fld Z h a "com/example/admitd/admitd/gate/ServiceTime" "count" "I" (.int (3 : Int32)) ∧ Fld Z h a "com/example/admitd/admitd/gate/ServiceTime" "next" "I" (.int (3 : Int32)) ∧ Fld Z h a "com/example/admitd/admitd/gate/ServiceTime" "sum" "J" (.long (sm + (maxJ (0 : Int64) q))) ∧ ArZ Z h la .long (32 : Int32)
set_option maxRecDepth 65536 in
set_option maxHeartbeats 40000000 in
theorem rec2 (l : Launch) (Z : State) (a0 : Array Value) (hw : ∀ d ∈ tables_1, d.before a0 Z = true) (ws : List Jvm.Cond) (a : Addr) (d : Addr) (la : Addr) (sm : Int64) (s1 : Int64) (n1 : Int32) (q : Int64) (h0 : Heap) (n0 : Nat) (O0 : Old Z n0 h0) (P0 : Exa Z h0 a "com/example/admitd/admitd/gate/ServiceTime") (P1 : Fld Z h0 a "com/example/admitd/admitd/gate/ServiceTime" "latest" "[J" (.ref la)) (P2 : Fld Z h0 a "com/example/admitd/admitd/gate/ServiceTime" "count" "I" (.int (2 : Int32))) (P3 : Fld Z h0 a "com/example/admitd/admitd/gate/ServiceTime" "next" "I" (.int (2 : Int32))) (P4 : Fld Z h0 a "com/example/admitd/admitd/gate/ServiceTime" "sum" "J" (.long sm)) (P5 : Exa Z h0 d "java/time/Duration") (P6 : Fld Z h0 d "java/time/Duration" "seconds" "J" (.long s1)) (P7 : Fld Z h0 d "java/time/Duration" "nanos" "I" (.int n1)) (P8 : ArZ Z h0 la .long (32 : Int32)) (g_a : n0 ≤ a) (g_la : n0 ≤ la) (ne_a_la : a ≠ la) (hd : DurOf s1 n1 q) :
    MetFree l (⟨"com/example/admitd/admitd/gate/ServiceTime", "record", "(Ljava/time/Duration;)V"⟩ : MethodName) (head1 (Jvm.Cond.code (⟨"com/example/admitd/admitd/gate/ServiceTime", "record", "(Ljava/time/Duration;)V"⟩ : MethodName) prog_9_method_2_code 4 none :: ws) ({ frames := 3, cells := 0, slots := 0, locals := 54 } : Room)) (fun zA zU => zA = #[(.ref a), (.ref d)] ∧ Z.Warmed39 zU.vm ∧ zU.heap = h0) (fun _ _ _ _ _ => True) (fun _ zU zo zU' => ∃ zv zL, zo = .returned zv ∧ Q_rec2 Z a d la sm s1 n1 q h0 n0 zv zU'.heap zL ∧ FrameEnd zU zo zU' zL ({ frames := 3, cells := 0, slots := 0, locals := 54 } : Room).cells ({ frames := 3, cells := 0, slots := 0, locals := 54 } : Room).slots) := by
  refine MetFree.of_bodySF (plainFor_of_name pn_13) hisR ?_
  intro p e s m args below meth c s₁ Bd hml0 hP hK
  obtain ⟨rfl, hZ, hh⟩ := hP
  have hx := Bd.exec
  have hby := Bd.bytes
  have hml : c.maxLocals = 4 := hml0
  have hown : s.vm.findClass "com/example/admitd/admitd/gate/ServiceTime" = some m.cls := findClass_of_methodNamed Bd.named
  have hnm := (name_of_methodNamed Bd.named Bd.method).1
  have X0 : Stand p l e ({ frames := 3, cells := 0, slots := 0, locals := 54 } : Room) s m #[(.ref a), (.ref d)] below meth c s₁ [] 0 0 := Stand.of_body Bd
  have e0 : s₁.heap = h0 := by rw [← hh, Bd.state]; rfl
  have N0 := Fr.nil n0
  have Z0 : n0 ≤ h0.size := O0.1 ▸ O0.2.1
  have pre0 : ∀ zt, Steps p.tables e below (s₁.setTop (mkF m 0 #[.val (.ref a), .val (.ref d), .unset, .unset] [])) zt → Steps p.tables e below (s₁.setTop (entryFrame m #[(.ref a), (.ref d)] 4)) zt := fun zt zk => castTop (ef_14_RR m a d) zk
  obtain ⟨cq1, kq1, q1a, q1b, q1c⟩ := isOf hZ e0 P5
  obtain ⟨_, _, ⟨T1, L1, k1, n1⟩, -, X1, ⟨Lc1, hQ1, l1, y1, z1⟩, st1⟩ := X0.virtualBack hx (y := (⟨"java/time/Duration", "toNanos", "()J"⟩ : MethodName)) (z := (⟨"java/time/Duration", "toNanos", "()J"⟩ : MethodName)) hown (mvT hZ (hw _ (List.mem_of_getElem? (i := 38) rfl))) (mvT hZ (hw _ (List.mem_of_getElem? (i := 39) rfl))) (notFace_of_selects (args := #[]) (mvT hZ (hw _ (List.mem_of_getElem? (i := 41) rfl)))) (mvT hZ (hw _ (List.mem_of_getElem? (i := 41) rfl))) (mvT hZ (hw _ (List.mem_of_getElem? (i := 40) rfl))) (by decide) (backOf (W := 2) (toN l Z a0 hw [] d s1 n1 q h0 n0 O0 P6 P7 hd) hZ (hw _ (List.mem_of_getElem? (i := 42) rfl)) (hw _ (List.mem_of_getElem? (i := 2) rfl)) (by decide) (by decide)) q1a q1c (g := (mkF m 2 #[.val (.ref a), .val (.ref d), .unset, .unset] [(.ref d), (.long (0 : Int64))])) rfl (by rw [hml]; rfl) (Steps.refl _) (argsL := []) (rest := [(.long (0 : Int64))]) (lenOf pd_4 rfl) rfl (by show 2 * 0 + _ ≤ _; exact Nat.le_of_eq rfl) (hb hby d14_2) (fun _ _ => ⟨rfl, e0, (by decide : 0 + 0 ≤ _), (by decide : 0 + 0 ≤ _)⟩)
  dsimp only [Pt.U, Pt.locs, Pt.cells, Pt.slots] at X1 l1 y1 z1 st1 hQ1
  subst l1 y1 z1
  obtain ⟨rfl, Nq1, kh1⟩ := hQ1
  have N1 := Fr.app N0 Nq1
  obtain ⟨_, _, ⟨T2, L2, k2, n2⟩, -, X2, ⟨Lc2, hQ2, l2, y2, z2⟩, st2⟩ := Jvm.LawKit.callS X1 hx (y := (⟨"java/lang/Math", "max", "(JJ)J"⟩ : MethodName)) hown (mvT hZ (hw _ (List.mem_of_getElem? (i := 53) rfl))) (mvT hZ (hw _ (List.mem_of_getElem? (i := 54) rfl))) (mvT hZ (hw _ (List.mem_of_getElem? (i := 45) rfl))) (mvT hZ (hw _ (List.mem_of_getElem? (i := 55) rfl))) (by decide) (backOf (W := 0) (maxR l Z a0 hw [] (0 : Int64) q h0 n0 O0 ) hZ (hw _ (List.mem_of_getElem? (i := 55) rfl)) (hw _ (List.mem_of_getElem? (i := 45) rfl)) (by decide) (by decide)) (g := (mkF m 5 #[.val (.ref a), .val (.ref d), .unset, .unset] [(.long q), (.long (0 : Int64))])) rfl (by rw [hml]; rfl) (argsL := [(.long (0 : Int64)), (.long q)]) (rest := []) (lenOf pd_1 rfl) rfl (by show 2 * 0 + _ ≤ _; exact Nat.le_of_eq rfl) (hb hby d14_5) (fun _ _ => ⟨rfl, kh1, (by decide : 0 + 0 ≤ _), (by decide : 0 + 0 ≤ _)⟩)
  dsimp only [Pt.U, Pt.locs, Pt.cells, Pt.slots] at X2 l2 y2 z2 st2 hQ2
  subst l2 y2 z2
  obtain ⟨rfl, Nq2, kh2⟩ := hQ2
  have N2 := Fr.app N1 Nq2
  obtain ⟨T3, X3, e3, st3⟩ := getF X2 hx hZ hown (host := "") (Or.inl (hw _ (List.mem_of_getElem? (i := 56) rfl))) Via.refl kh2 P2 (g := (mkF m 10 #[.val (.ref a), .val (.ref d), .val (.long (maxJ (0 : Int64) q)), .second] [(.ref a)])) rfl rfl (hb hby d14_10)
  obtain ⟨T4, X4, e4, st4⟩ := getF X3 hx hZ hown (host := "") (Or.inl (hw _ (List.mem_of_getElem? (i := 56) rfl))) Via.refl e3 P2 (g := (mkF m 41 #[.val (.ref a), .val (.ref d), .val (.long (maxJ (0 : Int64) q)), .second] [(.ref a), (.ref a)])) rfl rfl (hb hby d14_41)
  obtain ⟨T5, h5, X5, e5, W5, st5⟩ := putF X4 hx hZ hown (host := "") (Or.inl (hw _ (List.mem_of_getElem? (i := 56) rfl))) Via.refl e4 P2 P0 (Or.inl (hw _ (List.mem_of_getElem? (i := 57) rfl))) (hw _ (List.mem_of_getElem? (i := 24) rfl)) (ty := .int) (by decide) rfl rfl (g := (mkF m 46 #[.val (.ref a), .val (.ref d), .val (.long (maxJ (0 : Int64) q)), .second] [(.int (3 : Int32)), (.ref a)])) rfl rfl (hb hby d14_46)
  have Fw5 := P2.same W5
  have O5 := O0.wr W5 g_a
  have K5 : Keep h0 h5 [a, la] := (Keep.refl h0 [a, la]).wr W5 (Or.inl (List.mem_of_getElem? (i := 0) rfl))
  have N5 := Fr.snoc X5 N2 g_a
  have c7 : Fld Z h5 a "com/example/admitd/admitd/gate/ServiceTime" "latest" "[J" (.ref la) := (P1.other W5 (Or.inr (slot_ne (Or.inr (hw _ (List.mem_of_getElem? (i := 32) rfl))) (Or.inl (hw _ (List.mem_of_getElem? (i := 57) rfl))) (by decide) (t := (.array .long)) (t' := .int) (by decide) (by decide))))
  obtain ⟨T6, X6, e6, st6⟩ := getF X5 hx hZ hown (host := "") (Or.inl (hw _ (List.mem_of_getElem? (i := 31) rfl))) Via.refl e5 c7 (g := (mkF m 50 #[.val (.ref a), .val (.ref d), .val (.long (maxJ (0 : Int64) q)), .second] [(.ref a)])) rfl rfl (hb hby d14_50)
  have c9 : Fld Z h5 a "com/example/admitd/admitd/gate/ServiceTime" "next" "I" (.int (2 : Int32)) := (P3.other W5 (Or.inr (slot_ne (Or.inl (hw _ (List.mem_of_getElem? (i := 59) rfl))) (Or.inl (hw _ (List.mem_of_getElem? (i := 57) rfl))) (by decide) (t := .int) (t' := .int) (by decide) (by decide))))
  obtain ⟨T8, X8, e8, st8⟩ := getF X6 hx hZ hown (host := "") (Or.inl (hw _ (List.mem_of_getElem? (i := 58) rfl))) Via.refl e6 c9 (g := (mkF m 54 #[.val (.ref a), .val (.ref d), .val (.long (maxJ (0 : Int64) q)), .second] [(.ref a), (.ref la)])) rfl rfl (hb hby d14_54)
  obtain ⟨cl10, Ar10, Sz10, Ng10, Gs10⟩ := (id (P8.other W5 (Ne.symm ne_a_la)))
  have hin10 : ¬ ((2 : Int32) < 0 ∨ cl10.slots.size ≤ ((2 : Int32)).toNatClampNeg) := inb_of Sz10 ⟨by decide, by decide⟩
  obtain ⟨T10, h10, X10, e10, W10, st10⟩ := stJ X8 hx hZ e8 Ar10 (j := (2 : Int32)) hin10 (g := (mkF m 58 #[.val (.ref a), .val (.ref d), .val (.long (maxJ (0 : Int64) q)), .second] [(.long (maxJ (0 : Int64) q)), (.int (2 : Int32)), (.ref la)])) rfl rfl (hb hby d14_58)
  have V10 : ArZ Z h10 la .long (32 : Int32) := ArZ.set Ar10 Sz10 Ng10 W10
  have O10 := O5.wr W10 g_la
  have K10 : Keep h0 h10 [a, la] := K5.wr W10 (Or.inl (List.mem_of_getElem? (i := 1) rfl))
  have N10 := Fr.snoc X10 N5 g_la
  have c12 : Fld Z h10 a "com/example/admitd/admitd/gate/ServiceTime" "sum" "J" (.long sm) := ((P4.other W5 (Or.inr (slot_ne (Or.inl (hw _ (List.mem_of_getElem? (i := 61) rfl))) (Or.inl (hw _ (List.mem_of_getElem? (i := 57) rfl))) (by decide) (t := .long) (t' := .int) (by decide) (by decide)))).other W10 (Or.inl ne_a_la))
  obtain ⟨T11, X11, e11, st11⟩ := getF X10 hx hZ hown (host := "") (Or.inl (hw _ (List.mem_of_getElem? (i := 60) rfl))) Via.refl e10 c12 (g := (mkF m 61 #[.val (.ref a), .val (.ref d), .val (.long (maxJ (0 : Int64) q)), .second] [(.ref a), (.ref a)])) rfl rfl (hb hby d14_61)
  obtain ⟨T13, h13, X13, e13, W13, st13⟩ := putF X11 hx hZ hown (host := "") (Or.inl (hw _ (List.mem_of_getElem? (i := 60) rfl))) Via.refl e11 c12 ((P0.wr W5).wr W10) (Or.inl (hw _ (List.mem_of_getElem? (i := 61) rfl))) (hw _ (List.mem_of_getElem? (i := 24) rfl)) (ty := .long) (by decide) rfl rfl (g := (mkF m 66 #[.val (.ref a), .val (.ref d), .val (.long (maxJ (0 : Int64) q)), .second] [(.long (sm + (maxJ (0 : Int64) q))), (.ref a)])) rfl rfl (hb hby d14_66)
  have Fw13 := c12.same W13
  have O13 := O10.wr W13 g_a
  have K13 : Keep h0 h13 [a, la] := K10.wr W13 (Or.inl (List.mem_of_getElem? (i := 0) rfl))
  have N13 := Fr.snoc X13 N10 g_a
  have c15 : Fld Z h13 a "com/example/admitd/admitd/gate/ServiceTime" "next" "I" (.int (2 : Int32)) := ((c9.other W10 (Or.inl ne_a_la)).other W13 (Or.inr (slot_ne (Or.inl (hw _ (List.mem_of_getElem? (i := 59) rfl))) (Or.inl (hw _ (List.mem_of_getElem? (i := 61) rfl))) (by decide) (t := .int) (t' := .long) (by decide) (by decide))))
  obtain ⟨T14, X14, e14, st14⟩ := getF X13 hx hZ hown (host := "") (Or.inl (hw _ (List.mem_of_getElem? (i := 58) rfl))) Via.refl e13 c15 (g := (mkF m 71 #[.val (.ref a), .val (.ref d), .val (.long (maxJ (0 : Int64) q)), .second] [(.ref a), (.ref a)])) rfl rfl (hb hby d14_71)
  obtain ⟨T16, h16, X16, e16, W16, st16⟩ := putF X14 hx hZ hown (host := "") (Or.inl (hw _ (List.mem_of_getElem? (i := 58) rfl))) Via.refl e14 c15 (((P0.wr W5).wr W10).wr W13) (Or.inl (hw _ (List.mem_of_getElem? (i := 59) rfl))) (hw _ (List.mem_of_getElem? (i := 24) rfl)) (ty := .int) (by decide) rfl rfl (g := (mkF m 79 #[.val (.ref a), .val (.ref d), .val (.long (maxJ (0 : Int64) q)), .second] [(.int (3 : Int32)), (.ref a)])) rfl rfl (hb hby d14_79)
  have Fw16 := c15.same W16
  have O16 := O13.wr W16 g_a
  have K16 : Keep h0 h16 [a, la] := K13.wr W16 (Or.inl (List.mem_of_getElem? (i := 0) rfl))
  have N16 := Fr.snoc X16 N13 g_a
  have c17 : Fld Z h16 a "com/example/admitd/admitd/gate/ServiceTime" "latest" "[J" (.ref la) := (((c7.other W10 (Or.inl ne_a_la)).other W13 (Or.inr (slot_ne (Or.inr (hw _ (List.mem_of_getElem? (i := 32) rfl))) (Or.inl (hw _ (List.mem_of_getElem? (i := 61) rfl))) (by decide) (t := (.array .long)) (t' := .long) (by decide) (by decide)))).other W16 (Or.inr (slot_ne (Or.inr (hw _ (List.mem_of_getElem? (i := 32) rfl))) (Or.inl (hw _ (List.mem_of_getElem? (i := 59) rfl))) (by decide) (t := (.array .long)) (t' := .int) (by decide) (by decide))))
  have c18 : Fld Z h16 a "com/example/admitd/admitd/gate/ServiceTime" "count" "I" (.int (3 : Int32)) := (((Fw5.other W10 (Or.inl ne_a_la)).other W13 (Or.inr (slot_ne (Or.inl (hw _ (List.mem_of_getElem? (i := 57) rfl))) (Or.inl (hw _ (List.mem_of_getElem? (i := 61) rfl))) (by decide) (t := .int) (t' := .long) (by decide) (by decide)))).other W16 (Or.inr (slot_ne (Or.inl (hw _ (List.mem_of_getElem? (i := 57) rfl))) (Or.inl (hw _ (List.mem_of_getElem? (i := 59) rfl))) (by decide) (t := .int) (t' := .int) (by decide) (by decide))))
  have c19 : Fld Z h16 a "com/example/admitd/admitd/gate/ServiceTime" "sum" "J" (.long (sm + (maxJ (0 : Int64) q))) := (Fw13.other W16 (Or.inr (slot_ne (Or.inl (hw _ (List.mem_of_getElem? (i := 61) rfl))) (Or.inl (hw _ (List.mem_of_getElem? (i := 59) rfl))) (by decide) (t := .long) (t' := .int) (by decide) (by decide))))
  have c20 : ArZ Z h16 la .long (32 : Int32) := ((V10.other W13 (Ne.symm ne_a_la)).other W16 (Ne.symm ne_a_la))
  obtain ⟨fs, hr, hrun, hended, hW, hsame⟩ := X16.leave (v := none) (fun _ => rfl)
  refine ⟨_, _, pre0 _ ?_, hrun, hended, _, _, rfl, ?_, ⟨_, rfl⟩, hW, hsame.mono (by decide) (by decide)⟩
  · show Steps p.tables e below (s₁.setTop (mkF m 0 #[.val (.ref a), .val (.ref d), .unset, .unset] [])) _
    refine XS.lconst X0.here hx rfl (hb hby d14_0) ?_
    show Steps p.tables e below (s₁.setTop (mkF m 1 #[.val (.ref a), .val (.ref d), .unset, .unset] [(.long (0 : Int64))])) _
    refine XS.aloadN X0.here hx rfl (hb hby d14_1) rfl rfl ?_
    show Steps p.tables e below (s₁.setTop (mkF m 2 #[.val (.ref a), .val (.ref d), .unset, .unset] [(.ref d), (.long (0 : Int64))])) _
    refine st1.trans ?_
    show Steps p.tables e below (T1.setTop (mkF m 5 #[.val (.ref a), .val (.ref d), .unset, .unset] [(.long q), (.long (0 : Int64))])) _
    refine st2 _ ?_
    show Steps p.tables e below (T2.setTop (mkF m 8 #[.val (.ref a), .val (.ref d), .unset, .unset] [(.long (maxJ (0 : Int64) q))])) _
    refine XS.lstoreN X2.here hx rfl (hb hby d14_8) rfl (l' := #[.val (.ref a), .val (.ref d), .val (.long (maxJ (0 : Int64) q)), .second]) rfl ?_
    show Steps p.tables e below (T2.setTop (mkF m 9 #[.val (.ref a), .val (.ref d), .val (.long (maxJ (0 : Int64) q)), .second] [])) _
    refine XS.aloadN X2.here hx rfl (hb hby d14_9) rfl rfl ?_
    show Steps p.tables e below (T2.setTop (mkF m 10 #[.val (.ref a), .val (.ref d), .val (.long (maxJ (0 : Int64) q)), .second] [(.ref a)])) _
    refine st3 _ ?_
    show Steps p.tables e below (T3.setTop (mkF m 13 #[.val (.ref a), .val (.ref d), .val (.long (maxJ (0 : Int64) q)), .second] [(.int (2 : Int32))])) _
    refine XS.bipush X3.here hx rfl (hb hby d14_13) ?_
    show Steps p.tables e below (T3.setTop (mkF m 15 #[.val (.ref a), .val (.ref d), .val (.long (maxJ (0 : Int64) q)), .second] [(.int (32 : Int32)), (.int (2 : Int32))])) _
    refine XS.icmpYes X3.here hx rfl (pc0 := 15) (pc' := 39) rfl (hb hby d14_15) rfl (feq (by decide : ¬ ((2 : Int32) = (32 : Int32)))).2 (by decide) (by decide) ?_
    show Steps p.tables e below (T3.setTop (mkF m 39 #[.val (.ref a), .val (.ref d), .val (.long (maxJ (0 : Int64) q)), .second] [])) _
    refine XS.aloadN X3.here hx rfl (hb hby d14_39) rfl rfl ?_
    show Steps p.tables e below (T3.setTop (mkF m 40 #[.val (.ref a), .val (.ref d), .val (.long (maxJ (0 : Int64) q)), .second] [(.ref a)])) _
    refine XS.dup X3.here hx rfl (hb hby d14_40) rfl rfl ?_
    show Steps p.tables e below (T3.setTop (mkF m 41 #[.val (.ref a), .val (.ref d), .val (.long (maxJ (0 : Int64) q)), .second] [(.ref a), (.ref a)])) _
    refine st4 _ ?_
    show Steps p.tables e below (T4.setTop (mkF m 44 #[.val (.ref a), .val (.ref d), .val (.long (maxJ (0 : Int64) q)), .second] [(.int (2 : Int32)), (.ref a)])) _
    refine XS.iconst X4.here hx rfl (hb hby d14_44) ?_
    show Steps p.tables e below (T4.setTop (mkF m 45 #[.val (.ref a), .val (.ref d), .val (.long (maxJ (0 : Int64) q)), .second] [(.int (1 : Int32)), (.int (2 : Int32)), (.ref a)])) _
    refine XS.iadd X4.here hx rfl (hb hby d14_45) rfl ?_
    show Steps p.tables e below (T4.setTop (mkF m 46 #[.val (.ref a), .val (.ref d), .val (.long (maxJ (0 : Int64) q)), .second] [(.int ((2 : Int32) + (1 : Int32))), (.ref a)])) _
    refine castTop (congrArg (fun z_ => (mkF m 46 #[.val (.ref a), .val (.ref d), .val (.long (maxJ (0 : Int64) q)), .second] [(.int z_), (.ref a)])) (by decide : ((2 : Int32) + (1 : Int32)) = (3 : Int32))) ?_
    show Steps p.tables e below (T4.setTop (mkF m 46 #[.val (.ref a), .val (.ref d), .val (.long (maxJ (0 : Int64) q)), .second] [(.int (3 : Int32)), (.ref a)])) _
    refine st5 _ ?_
    show Steps p.tables e below (T5.setTop (mkF m 49 #[.val (.ref a), .val (.ref d), .val (.long (maxJ (0 : Int64) q)), .second] [])) _
    refine XS.aloadN X5.here hx rfl (hb hby d14_49) rfl rfl ?_
    show Steps p.tables e below (T5.setTop (mkF m 50 #[.val (.ref a), .val (.ref d), .val (.long (maxJ (0 : Int64) q)), .second] [(.ref a)])) _
    refine st6 _ ?_
    show Steps p.tables e below (T6.setTop (mkF m 53 #[.val (.ref a), .val (.ref d), .val (.long (maxJ (0 : Int64) q)), .second] [(.ref la)])) _
    refine XS.aloadN X6.here hx rfl (hb hby d14_53) rfl rfl ?_
    show Steps p.tables e below (T6.setTop (mkF m 54 #[.val (.ref a), .val (.ref d), .val (.long (maxJ (0 : Int64) q)), .second] [(.ref a), (.ref la)])) _
    refine st8 _ ?_
    show Steps p.tables e below (T8.setTop (mkF m 57 #[.val (.ref a), .val (.ref d), .val (.long (maxJ (0 : Int64) q)), .second] [(.int (2 : Int32)), (.ref la)])) _
    refine XS.lloadN X8.here hx rfl (hb hby d14_57) rfl ?_
    show Steps p.tables e below (T8.setTop (mkF m 58 #[.val (.ref a), .val (.ref d), .val (.long (maxJ (0 : Int64) q)), .second] [(.long (maxJ (0 : Int64) q)), (.int (2 : Int32)), (.ref la)])) _
    refine st10 _ ?_
    show Steps p.tables e below (T10.setTop (mkF m 59 #[.val (.ref a), .val (.ref d), .val (.long (maxJ (0 : Int64) q)), .second] [])) _
    refine XS.aloadN X10.here hx rfl (hb hby d14_59) rfl rfl ?_
    show Steps p.tables e below (T10.setTop (mkF m 60 #[.val (.ref a), .val (.ref d), .val (.long (maxJ (0 : Int64) q)), .second] [(.ref a)])) _
    refine XS.dup X10.here hx rfl (hb hby d14_60) rfl rfl ?_
    show Steps p.tables e below (T10.setTop (mkF m 61 #[.val (.ref a), .val (.ref d), .val (.long (maxJ (0 : Int64) q)), .second] [(.ref a), (.ref a)])) _
    refine st11 _ ?_
    show Steps p.tables e below (T11.setTop (mkF m 64 #[.val (.ref a), .val (.ref d), .val (.long (maxJ (0 : Int64) q)), .second] [(.long sm), (.ref a)])) _
    refine XS.lloadN X11.here hx rfl (hb hby d14_64) rfl ?_
    show Steps p.tables e below (T11.setTop (mkF m 65 #[.val (.ref a), .val (.ref d), .val (.long (maxJ (0 : Int64) q)), .second] [(.long (maxJ (0 : Int64) q)), (.long sm), (.ref a)])) _
    refine XS.ladd X11.here hx rfl (hb hby d14_65) rfl ?_
    show Steps p.tables e below (T11.setTop (mkF m 66 #[.val (.ref a), .val (.ref d), .val (.long (maxJ (0 : Int64) q)), .second] [(.long (sm + (maxJ (0 : Int64) q))), (.ref a)])) _
    refine st13 _ ?_
    show Steps p.tables e below (T13.setTop (mkF m 69 #[.val (.ref a), .val (.ref d), .val (.long (maxJ (0 : Int64) q)), .second] [])) _
    refine XS.aloadN X13.here hx rfl (hb hby d14_69) rfl rfl ?_
    show Steps p.tables e below (T13.setTop (mkF m 70 #[.val (.ref a), .val (.ref d), .val (.long (maxJ (0 : Int64) q)), .second] [(.ref a)])) _
    refine XS.aloadN X13.here hx rfl (hb hby d14_70) rfl rfl ?_
    show Steps p.tables e below (T13.setTop (mkF m 71 #[.val (.ref a), .val (.ref d), .val (.long (maxJ (0 : Int64) q)), .second] [(.ref a), (.ref a)])) _
    refine st14 _ ?_
    show Steps p.tables e below (T14.setTop (mkF m 74 #[.val (.ref a), .val (.ref d), .val (.long (maxJ (0 : Int64) q)), .second] [(.int (2 : Int32)), (.ref a)])) _
    refine XS.iconst X14.here hx rfl (hb hby d14_74) ?_
    show Steps p.tables e below (T14.setTop (mkF m 75 #[.val (.ref a), .val (.ref d), .val (.long (maxJ (0 : Int64) q)), .second] [(.int (1 : Int32)), (.int (2 : Int32)), (.ref a)])) _
    refine XS.iadd X14.here hx rfl (hb hby d14_75) rfl ?_
    show Steps p.tables e below (T14.setTop (mkF m 76 #[.val (.ref a), .val (.ref d), .val (.long (maxJ (0 : Int64) q)), .second] [(.int ((2 : Int32) + (1 : Int32))), (.ref a)])) _
    refine castTop (congrArg (fun z_ => (mkF m 76 #[.val (.ref a), .val (.ref d), .val (.long (maxJ (0 : Int64) q)), .second] [(.int z_), (.ref a)])) (by decide : ((2 : Int32) + (1 : Int32)) = (3 : Int32))) ?_
    show Steps p.tables e below (T14.setTop (mkF m 76 #[.val (.ref a), .val (.ref d), .val (.long (maxJ (0 : Int64) q)), .second] [(.int (3 : Int32)), (.ref a)])) _
    refine XS.bipush X14.here hx rfl (hb hby d14_76) ?_
    show Steps p.tables e below (T14.setTop (mkF m 78 #[.val (.ref a), .val (.ref d), .val (.long (maxJ (0 : Int64) q)), .second] [(.int (32 : Int32)), (.int (3 : Int32)), (.ref a)])) _
    refine iremM X14 hx rfl (hb hby d14_78) rfl (by decide) ?_
    show Steps p.tables e below (T14.setTop (mkF m 79 #[.val (.ref a), .val (.ref d), .val (.long (maxJ (0 : Int64) q)), .second] [(.int ((3 : Int32) % (32 : Int32))), (.ref a)])) _
    refine castTop (congrArg (fun z_ => (mkF m 79 #[.val (.ref a), .val (.ref d), .val (.long (maxJ (0 : Int64) q)), .second] [(.int z_), (.ref a)])) (by decide : ((3 : Int32) % (32 : Int32)) = (3 : Int32))) ?_
    show Steps p.tables e below (T14.setTop (mkF m 79 #[.val (.ref a), .val (.ref d), .val (.long (maxJ (0 : Int64) q)), .second] [(.int (3 : Int32)), (.ref a)])) _
    refine st16 _ ?_
    show Steps p.tables e below (T16.setTop (mkF m 82 #[.val (.ref a), .val (.ref d), .val (.long (maxJ (0 : Int64) q)), .second] [])) _
    exact X16.returnOut hx Bd.returns (hb hby d14_82) hr
  · show Q_rec2 Z a d la sm s1 n1 q h0 n0 _ T16.heap _
    rw [e16]
    exact ⟨rfl, N16, K16, ((((P0.wr W5).wr W10).wr W13).wr W16), c17, c18, Fw16, c19, c20⟩
def Q_mean0 (Z : State) (a : Addr) (wg : Addr) (h0 : Heap) (n0 : Nat) (v : Option Value) (h : Heap) (L : List Loc) : Prop := v = some (.ref wg) ∧ Fr n0 L ∧ h = h0
theorem d15_0 : decode prog_9_method_3_code 0 = .ok (.aload_n 0, 1) := by decide +kernel
theorem d15_1 : decode prog_9_method_3_code 1 = .ok (.getfield 25, 3) := by decide +kernel
theorem d15_4 : decode prog_9_method_3_code 4 = .ok (.ifCond .ne 7, 3) := by decide +kernel
theorem d15_7 : decode prog_9_method_3_code 7 = .ok (.getstatic 36, 3) := by decide +kernel
theorem d15_10 : decode prog_9_method_3_code 10 = .ok (.areturn, 1) := by decide +kernel
theorem ef_15_R (m : MethodId) (x0 : Addr) : entryFrame m #[(.ref x0)] 1 = mkF m 0 #[.val (.ref x0)] [] := by first | (simp [entryFrame, mkF, argsToLocals, Value.category]; done) | rfl
set_option maxRecDepth 65536 in
set_option maxHeartbeats 40000000 in
theorem mean0 (l : Launch) (Z : State) (a0 : Array Value) (hw : ∀ d ∈ tables_1, d.before a0 Z = true) (ws : List Jvm.Cond) (a : Addr) (wg : Addr) (h0 : Heap) (n0 : Nat) (O0 : Old Z n0 h0) (G0 : Sta Z Z.heap "com/example/admitd/admitd/gate/ServiceTime" "FIRST_GUESS" "Ljava/time/Duration;" (.ref wg)) (P0 : Fld Z h0 a "com/example/admitd/admitd/gate/ServiceTime" "count" "I" (.int (0 : Int32))) :
    MetFree l (⟨"com/example/admitd/admitd/gate/ServiceTime", "mean", "()Ljava/time/Duration;"⟩ : MethodName) (head1 (Jvm.Cond.code (⟨"com/example/admitd/admitd/gate/ServiceTime", "mean", "()Ljava/time/Duration;"⟩ : MethodName) prog_9_method_3_code 1 (some (.object "java/time/Duration")) :: ws) ({ frames := 0, cells := 0, slots := 0, locals := 0 } : Room)) (fun zA zU => zA = #[(.ref a)] ∧ Z.Warmed39 zU.vm ∧ zU.heap = h0) (fun _ _ _ _ _ => True) (fun _ zU zo zU' => ∃ zv zL, zo = .returned zv ∧ Q_mean0 Z a wg h0 n0 zv zU'.heap zL ∧ FrameEnd zU zo zU' zL ({ frames := 0, cells := 0, slots := 0, locals := 0 } : Room).cells ({ frames := 0, cells := 0, slots := 0, locals := 0 } : Room).slots) := by
  refine MetFree.of_bodySF (plainFor_of_name pn_13) hisR ?_
  intro p e s m args below meth c s₁ Bd hml0 hP hK
  obtain ⟨rfl, hZ, hh⟩ := hP
  have hx := Bd.exec
  have hby := Bd.bytes
  have hml : c.maxLocals = 1 := hml0
  have hown : s.vm.findClass "com/example/admitd/admitd/gate/ServiceTime" = some m.cls := findClass_of_methodNamed Bd.named
  have hnm := (name_of_methodNamed Bd.named Bd.method).1
  have X0 : Stand p l e ({ frames := 0, cells := 0, slots := 0, locals := 0 } : Room) s m #[(.ref a)] below meth c s₁ [] 0 0 := Stand.of_body Bd
  have e0 : s₁.heap = h0 := by rw [← hh, Bd.state]; rfl
  have N0 := Fr.nil n0
  have Z0 : n0 ≤ h0.size := O0.1 ▸ O0.2.1
  have pre0 : ∀ zt, Steps p.tables e below (s₁.setTop (mkF m 0 #[.val (.ref a)] [])) zt → Steps p.tables e below (s₁.setTop (entryFrame m #[(.ref a)] 1)) zt := fun zt zk => castTop (ef_15_R m a) zk
  obtain ⟨T1, X1, e1, st1⟩ := getF X0 hx hZ hown (host := "") (Or.inl (hw _ (List.mem_of_getElem? (i := 56) rfl))) Via.refl e0 P0 (g := (mkF m 1 #[.val (.ref a)] [(.ref a)])) rfl rfl (hb hby d15_1)
  obtain ⟨T2, X2, e2, st2⟩ := getS2 X1 hx hZ hown (host := "") (Or.inl (hw _ (List.mem_of_getElem? (i := 76) rfl))) Via.refl e1 (G0.ext O0.2) (g := (mkF m 7 #[.val (.ref a)] [])) rfl (hb hby d15_7)
  obtain ⟨fs, hr, hrun, hended, hW, hsame⟩ := X2.leave (v := some (.ref wg)) (fun h => by rw [Bd.returns] at h; cases h)
  refine ⟨_, _, pre0 _ ?_, hrun, hended, _, _, rfl, ?_, ⟨_, rfl⟩, hW, hsame.mono (by decide) (by decide)⟩
  · show Steps p.tables e below (s₁.setTop (mkF m 0 #[.val (.ref a)] [])) _
    refine XS.aloadN X0.here hx rfl (hb hby d15_0) rfl rfl ?_
    show Steps p.tables e below (s₁.setTop (mkF m 1 #[.val (.ref a)] [(.ref a)])) _
    refine st1 _ ?_
    show Steps p.tables e below (T1.setTop (mkF m 4 #[.val (.ref a)] [(.int (0 : Int32))])) _
    refine XS.ifNo X1.here hx rfl (hb hby d15_4) rfl ((if0 _ _).trans (teq (by decide : (0 : Int32) = (0 : Int32))).2) ?_
    show Steps p.tables e below (T1.setTop (mkF m 7 #[.val (.ref a)] [])) _
    refine st2 _ ?_
    show Steps p.tables e below (T2.setTop (mkF m 10 #[.val (.ref a)] [(.ref wg)])) _
    jvm_step X2.here [X2.here.top, hx, (hb hby d15_10), X2.method', Bd.returns, Value.isRef, FieldType.isReference]
    first | (intro acts; rw [hr _ acts rfl rfl rfl]) | rw [hr _ _ rfl rfl rfl]
    exact Steps.refl _
  · show Q_mean0 Z a wg h0 n0 _ T2.heap _
    rw [e2]
    exact ⟨rfl, N0, rfl⟩
def Q_mean1 (Z : State) (a : Addr) (ct : Int32) (sm : Int64) (wz : Addr) (h0 : Heap) (n0 : Nat) (v : Option Value) (h : Heap) (L : List Loc) : Prop := ∃ r : Addr, ∃ s1 : Int64, ∃ n1 : Int32, v = some (.ref r) ∧ Fr n0 L ∧ Keep h0 h [] ∧ Exa Z h r "java/time/Duration" ∧ Fld Z h r "java/time/Duration" "seconds" "J" (.long s1) ∧ Fld Z h r "java/time/Duration" "nanos" "I" (.int n1) ∧ DurOf s1 n1 (maxJ (1000000 : Int64) (sm / (ct.toInt64)))
theorem d15_11 : decode prog_9_method_3_code 11 = .ok (.getstatic 40, 3) := by decide +kernel
theorem d15_14 : decode prog_9_method_3_code 14 = .ok (.aload_n 0, 1) := by decide +kernel
theorem d15_15 : decode prog_9_method_3_code 15 = .ok (.getfield 29, 3) := by decide +kernel
theorem d15_18 : decode prog_9_method_3_code 18 = .ok (.aload_n 0, 1) := by decide +kernel
theorem d15_19 : decode prog_9_method_3_code 19 = .ok (.getfield 25, 3) := by decide +kernel
theorem d15_22 : decode prog_9_method_3_code 22 = .ok (.i2l, 1) := by decide +kernel
theorem d15_23 : decode prog_9_method_3_code 23 = .ok (.ldiv, 1) := by decide +kernel
theorem d15_24 : decode prog_9_method_3_code 24 = .ok (.invokestatic 19, 3) := by decide +kernel
theorem d15_27 : decode prog_9_method_3_code 27 = .ok (.invokestatic 43, 3) := by decide +kernel
theorem pd_5 : parseMethodDescriptor "(J)Ljava/time/Duration;" = some ⟨[.long], some (.object "java/time/Duration")⟩ := by decide +kernel
theorem d15_30 : decode prog_9_method_3_code 30 = .ok (.areturn, 1) := by decide +kernel
set_option maxRecDepth 65536 in
set_option maxHeartbeats 40000000 in
theorem mean1 (l : Launch) (Z : State) (a0 : Array Value) (hw : ∀ d ∈ tables_1, d.before a0 Z = true) (ws : List Jvm.Cond) (a : Addr) (ct : Int32) (sm : Int64) (wz : Addr) (h0 : Heap) (n0 : Nat) (O0 : Old Z n0 h0) (G0 : Sta Z Z.heap "com/example/admitd/admitd/gate/ServiceTime" "LEAST_NANOS" "J" (.long (1000000 : Int64))) (G1 : Sta Z Z.heap "java/time/Duration" "ZERO" "Ljava/time/Duration;" (.ref wz)) (G2 : Exa Z Z.heap wz "java/time/Duration") (G3 : Fld Z Z.heap wz "java/time/Duration" "seconds" "J" (.long (0 : Int64))) (G4 : Fld Z Z.heap wz "java/time/Duration" "nanos" "I" (.int (0 : Int32))) (P0 : Fld Z h0 a "com/example/admitd/admitd/gate/ServiceTime" "count" "I" (.int ct)) (P1 : Fld Z h0 a "com/example/admitd/admitd/gate/ServiceTime" "sum" "J" (.long sm)) (h1 : ¬ (ct = (0 : Int32))) (h2 : (ct.toInt64) ≠ 0) :
    MetFree l (⟨"com/example/admitd/admitd/gate/ServiceTime", "mean", "()Ljava/time/Duration;"⟩ : MethodName) (head1 (Jvm.Cond.code (⟨"com/example/admitd/admitd/gate/ServiceTime", "mean", "()Ljava/time/Duration;"⟩ : MethodName) prog_9_method_3_code 1 (some (.object "java/time/Duration")) :: ws) ({ frames := 4, cells := 1, slots := 2, locals := 58 } : Room)) (fun zA zU => zA = #[(.ref a)] ∧ Z.Warmed39 zU.vm ∧ zU.heap = h0) (fun _ _ _ _ _ => True) (fun _ zU zo zU' => ∃ zv zL, zo = .returned zv ∧ Q_mean1 Z a ct sm wz h0 n0 zv zU'.heap zL ∧ FrameEnd zU zo zU' zL ({ frames := 4, cells := 1, slots := 2, locals := 58 } : Room).cells ({ frames := 4, cells := 1, slots := 2, locals := 58 } : Room).slots) := by
  refine MetFree.of_bodySF (plainFor_of_name pn_13) hisR ?_
  intro p e s m args below meth c s₁ Bd hml0 hP hK
  obtain ⟨rfl, hZ, hh⟩ := hP
  have hx := Bd.exec
  have hby := Bd.bytes
  have hml : c.maxLocals = 1 := hml0
  have hown : s.vm.findClass "com/example/admitd/admitd/gate/ServiceTime" = some m.cls := findClass_of_methodNamed Bd.named
  have hnm := (name_of_methodNamed Bd.named Bd.method).1
  have X0 : Stand p l e ({ frames := 4, cells := 1, slots := 2, locals := 58 } : Room) s m #[(.ref a)] below meth c s₁ [] 0 0 := Stand.of_body Bd
  have e0 : s₁.heap = h0 := by rw [← hh, Bd.state]; rfl
  have N0 := Fr.nil n0
  have Z0 : n0 ≤ h0.size := O0.1 ▸ O0.2.1
  have pre0 : ∀ zt, Steps p.tables e below (s₁.setTop (mkF m 0 #[.val (.ref a)] [])) zt → Steps p.tables e below (s₁.setTop (entryFrame m #[(.ref a)] 1)) zt := fun zt zk => castTop (ef_15_R m a) zk
  obtain ⟨T1, X1, e1, st1⟩ := getF X0 hx hZ hown (host := "") (Or.inl (hw _ (List.mem_of_getElem? (i := 56) rfl))) Via.refl e0 P0 (g := (mkF m 1 #[.val (.ref a)] [(.ref a)])) rfl rfl (hb hby d15_1)
  obtain ⟨T2, X2, e2, st2⟩ := getS2 X1 hx hZ hown (host := "") (Or.inl (hw _ (List.mem_of_getElem? (i := 67) rfl))) Via.refl e1 (G0.ext O0.2) (g := (mkF m 11 #[.val (.ref a)] [])) rfl (hb hby d15_11)
  obtain ⟨T3, X3, e3, st3⟩ := getF X2 hx hZ hown (host := "") (Or.inl (hw _ (List.mem_of_getElem? (i := 60) rfl))) Via.refl e2 P1 (g := (mkF m 15 #[.val (.ref a)] [(.ref a), (.long (1000000 : Int64))])) rfl rfl (hb hby d15_15)
  obtain ⟨T4, X4, e4, st4⟩ := getF X3 hx hZ hown (host := "") (Or.inl (hw _ (List.mem_of_getElem? (i := 56) rfl))) Via.refl e3 P0 (g := (mkF m 19 #[.val (.ref a)] [(.ref a), (.long sm), (.long (1000000 : Int64))])) rfl rfl (hb hby d15_19)
  obtain ⟨_, _, ⟨T5, L5, k5, n5⟩, -, X5, ⟨Lc5, hQ5, l5, y5, z5⟩, st5⟩ := Jvm.LawKit.callS X4 hx (y := (⟨"java/lang/Math", "max", "(JJ)J"⟩ : MethodName)) hown (mvT hZ (hw _ (List.mem_of_getElem? (i := 53) rfl))) (mvT hZ (hw _ (List.mem_of_getElem? (i := 54) rfl))) (mvT hZ (hw _ (List.mem_of_getElem? (i := 45) rfl))) (mvT hZ (hw _ (List.mem_of_getElem? (i := 55) rfl))) (by decide) (backOf (W := 0) (maxR l Z a0 hw [] (1000000 : Int64) (sm / (ct.toInt64)) h0 n0 O0 ) hZ (hw _ (List.mem_of_getElem? (i := 55) rfl)) (hw _ (List.mem_of_getElem? (i := 45) rfl)) (by decide) (by decide)) (g := (mkF m 24 #[.val (.ref a)] [(.long (sm / (ct.toInt64))), (.long (1000000 : Int64))])) rfl (by rw [hml]; rfl) (argsL := [(.long (1000000 : Int64)), (.long (sm / (ct.toInt64)))]) (rest := []) (lenOf pd_1 rfl) rfl (by show 2 * 0 + _ ≤ _; exact Nat.le_of_eq rfl) (hb hby d15_24) (fun _ _ => ⟨rfl, e4, (by decide : 0 + 0 ≤ _), (by decide : 0 + 0 ≤ _)⟩)
  dsimp only [Pt.U, Pt.locs, Pt.cells, Pt.slots] at X5 l5 y5 z5 st5 hQ5
  subst l5 y5 z5
  obtain ⟨rfl, Nq5, kh5⟩ := hQ5
  have N5 := Fr.app N0 Nq5
  obtain ⟨_, _, ⟨T6, L6, k6, n6⟩, -, X6, ⟨Lc6, hQ6, l6, y6, z6⟩, st6⟩ := Jvm.LawKit.callS X5 hx (y := (⟨"java/time/Duration", "ofNanos", "(J)Ljava/time/Duration;"⟩ : MethodName)) hown (mvT hZ (hw _ (List.mem_of_getElem? (i := 69) rfl))) (mvT hZ (hw _ (List.mem_of_getElem? (i := 1) rfl))) (mvT hZ (hw _ (List.mem_of_getElem? (i := 2) rfl))) (mvT hZ (hw _ (List.mem_of_getElem? (i := 3) rfl))) (by decide) (backOf (W := 0) (ofN l Z a0 hw [] (maxJ (1000000 : Int64) (sm / (ct.toInt64))) wz h0 n0 O0 G1 G2 G3 G4) hZ (hw _ (List.mem_of_getElem? (i := 3) rfl)) (hw _ (List.mem_of_getElem? (i := 2) rfl)) (by decide) (by decide)) (g := (mkF m 27 #[.val (.ref a)] [(.long (maxJ (1000000 : Int64) (sm / (ct.toInt64))))])) rfl (by rw [hml]; rfl) (argsL := [(.long (maxJ (1000000 : Int64) (sm / (ct.toInt64))))]) (rest := []) (lenOf pd_5 rfl) rfl (by show 2 * 0 + _ ≤ _; exact Nat.le_of_eq rfl) (hb hby d15_27) (fun _ _ => ⟨rfl, kh5, (by decide : 0 + 1 ≤ _), (by decide : 0 + 2 ≤ _)⟩)
  dsimp only [Pt.U, Pt.locs, Pt.cells, Pt.slots] at X6 l6 y6 z6 st6 hQ6
  subst l6 y6 z6
  obtain ⟨r_6, s1_6, n1_6, rfl, Nq6, kh6, Po6_0, Po6_1, Po6_2, pq6_0⟩ := hQ6
  have N6 := Fr.app N5 Nq6
  have O6 := O0.keep kh6 all0
  have K6 : Keep h0 T6.heap [] := (Keep.refl h0 []).trans kh6 all0
  obtain ⟨fs, hr, hrun, hended, hW, hsame⟩ := X6.leave (v := some (.ref r_6)) (fun h => by rw [Bd.returns] at h; cases h)
  refine ⟨_, _, pre0 _ ?_, hrun, hended, _, _, rfl, ?_, ⟨_, rfl⟩, hW, hsame.mono (by decide) (by decide)⟩
  · show Steps p.tables e below (s₁.setTop (mkF m 0 #[.val (.ref a)] [])) _
    refine XS.aloadN X0.here hx rfl (hb hby d15_0) rfl rfl ?_
    show Steps p.tables e below (s₁.setTop (mkF m 1 #[.val (.ref a)] [(.ref a)])) _
    refine st1 _ ?_
    show Steps p.tables e below (T1.setTop (mkF m 4 #[.val (.ref a)] [(.int ct)])) _
    refine XS.ifYes X1.here hx rfl (pc0 := 4) (pc' := 11) rfl (hb hby d15_4) rfl ((if0 _ _).trans (feq (h1 : ¬ (ct = (0 : Int32)))).2) (by decide) (by decide) ?_
    show Steps p.tables e below (T1.setTop (mkF m 11 #[.val (.ref a)] [])) _
    refine st2 _ ?_
    show Steps p.tables e below (T2.setTop (mkF m 14 #[.val (.ref a)] [(.long (1000000 : Int64))])) _
    refine XS.aloadN X2.here hx rfl (hb hby d15_14) rfl rfl ?_
    show Steps p.tables e below (T2.setTop (mkF m 15 #[.val (.ref a)] [(.ref a), (.long (1000000 : Int64))])) _
    refine st3 _ ?_
    show Steps p.tables e below (T3.setTop (mkF m 18 #[.val (.ref a)] [(.long sm), (.long (1000000 : Int64))])) _
    refine XS.aloadN X3.here hx rfl (hb hby d15_18) rfl rfl ?_
    show Steps p.tables e below (T3.setTop (mkF m 19 #[.val (.ref a)] [(.ref a), (.long sm), (.long (1000000 : Int64))])) _
    refine st4 _ ?_
    show Steps p.tables e below (T4.setTop (mkF m 22 #[.val (.ref a)] [(.int ct), (.long sm), (.long (1000000 : Int64))])) _
    refine XS.i2l X4.here hx rfl (hb hby d15_22) rfl ?_
    show Steps p.tables e below (T4.setTop (mkF m 23 #[.val (.ref a)] [(.long (ct.toInt64)), (.long sm), (.long (1000000 : Int64))])) _
    refine XS.ldiv X4.here hx rfl (hb hby d15_23) rfl h2 ?_
    show Steps p.tables e below (T4.setTop (mkF m 24 #[.val (.ref a)] [(.long (sm / (ct.toInt64))), (.long (1000000 : Int64))])) _
    refine st5 _ ?_
    show Steps p.tables e below (T5.setTop (mkF m 27 #[.val (.ref a)] [(.long (maxJ (1000000 : Int64) (sm / (ct.toInt64))))])) _
    refine st6 _ ?_
    show Steps p.tables e below (T6.setTop (mkF m 30 #[.val (.ref a)] [(.ref r_6)])) _
    jvm_step X6.here [X6.here.top, hx, (hb hby d15_30), X6.method', Bd.returns, Value.isRef, FieldType.isReference]
    first | (intro acts; rw [hr _ acts rfl rfl rfl]) | rw [hr _ _ rfl rfl rfl]
    exact Steps.refl _
  · show Q_mean1 Z a ct sm wz h0 n0 _ T6.heap _
    exact ⟨r_6, s1_6, n1_6, rfl, N6, K6, Po6_0, Po6_1, Po6_2, pq6_0⟩
def Q_law (Z : State) (ja : Int64) (jb : Int64) (jc : Int64) (k : Int32) (wz : Addr) (wg : Addr) (h0 : Heap) (n0 : Nat) (v : Option Value) (h : Heap) (L : List Loc) : Prop := v = some (.int (1 : Int32)) ∧ Fr n0 L
theorem pd_6 : parseMethodDescriptor "()V" = some ⟨[], none⟩ := by decide +kernel
theorem pd_7 : parseMethodDescriptor "()Ljava/time/Duration;" = some ⟨[], some (.object "java/time/Duration")⟩ := by decide +kernel
theorem ef_0_JJJI (m : MethodId) (x0 : Int64) (x1 : Int64) (x2 : Int64) (x3 : Int32) : entryFrame m #[(.long x0), (.long x1), (.long x2), (.int x3)] maxLocals = mkF m 0 #[.val (.long x0), .second, .val (.long x1), .second, .val (.long x2), .second, .val (.int x3), .unset, .unset, .unset, .unset, .unset, .unset, .unset, .unset, .unset, .unset, .unset, .unset, .unset, .unset, .unset, .unset, .unset, .unset, .unset] [] := by first | (simp [entryFrame, mkF, argsToLocals, Value.category, maxLocals]; done) | rfl
set_option maxRecDepth 65536 in
set_option maxHeartbeats 40000000 in
theorem law_0 (l : Launch) (Z : State) (a0 : Array Value) (hw : ∀ d ∈ tables_1, d.before a0 Z = true) (ws : List Jvm.Cond) (ja : Int64) (jb : Int64) (jc : Int64) (k : Int32) (wz : Addr) (wg : Addr) (h0 : Heap) (n0 : Nat) (O0 : Old Z n0 h0) (G0 : Sta Z Z.heap "com/example/admitd/admitd/gate/ServiceTime" "LEAST_NANOS" "J" (.long (1000000 : Int64))) (G1 : Sta Z Z.heap "java/time/Duration" "ZERO" "Ljava/time/Duration;" (.ref wz)) (G2 : Exa Z Z.heap wz "java/time/Duration") (G3 : Fld Z Z.heap wz "java/time/Duration" "seconds" "J" (.long (0 : Int64))) (G4 : Fld Z Z.heap wz "java/time/Duration" "nanos" "I" (.int (0 : Int32))) (G5 : Sta Z Z.heap "com/example/admitd/admitd/gate/ServiceTime" "FIRST_GUESS" "Ljava/time/Duration;" (.ref wg)) (G6 : Exa Z Z.heap wg "java/time/Duration") (G7 : Fld Z Z.heap wg "java/time/Duration" "seconds" "J" (.long (1 : Int64))) (G8 : Fld Z Z.heap wg "java/time/Duration" "nanos" "I" (.int (0 : Int32))) (xa : Int64) (xb : Int64) (xc : Int64) (exa : (ja >>> ((2 : Int32) &&& 0x3f).toInt64) = xa) (exb : (jb >>> ((2 : Int32) &&& 0x3f).toInt64) = xb) (exc : (jc >>> ((2 : Int32) &&& 0x3f).toInt64) = xc) (hk : (k &&& (3 : Int32)) = (0 : Int32)) :
    MetFree l x (head1 (Jvm.Cond.code x code maxLocals ret :: ws) room_1) (fun zA zU => zA = #[(.long ja), (.long jb), (.long jc), (.int k)] ∧ Z.Warmed39 zU.vm ∧ zU.heap = h0) (fun _ _ _ _ _ => True) (fun _ zU zo zU' => ∃ zv zL, zo = .returned zv ∧ Q_law Z ja jb jc k wz wg h0 n0 zv zU'.heap zL ∧ FrameEnd zU zo zU' zL room_1.cells room_1.slots) := by
  refine MetFree.of_bodySF (plainFor_of_name pn_4) hisR ?_
  intro p e s m args below meth c s₁ Bd hml0 hP hK
  obtain ⟨rfl, hZ, hh⟩ := hP
  have hx := Bd.exec
  have hby := Bd.bytes
  have hml : c.maxLocals = 26 := hml0
  have hown : s.vm.findClass "com/example/admitd/admitd/gate/ServiceTimeMeanPinLaw" = some m.cls := findClass_of_methodNamed Bd.named
  have hnm := (name_of_methodNamed Bd.named Bd.method).1
  have X0 : Stand p l e room_1 s m #[(.long ja), (.long jb), (.long jc), (.int k)] below meth c s₁ [] 0 0 := Stand.of_body Bd
  have e0 : s₁.heap = h0 := by rw [← hh, Bd.state]; rfl
  have N0 := Fr.nil n0
  have Z0 : n0 ≤ h0.size := O0.1 ▸ O0.2.1
  have pre0 : ∀ zt, Steps p.tables e below (s₁.setTop (mkF m 0 #[.val (.long ja), .second, .val (.long jb), .second, .val (.long jc), .second, .val (.int k), .unset, .unset, .unset, .unset, .unset, .unset, .unset, .unset, .unset, .unset, .unset, .unset, .unset, .unset, .unset, .unset, .unset, .unset, .unset] [])) zt → Steps p.tables e below (s₁.setTop (entryFrame m #[(.long ja), (.long jb), (.long jc), (.int k)] maxLocals)) zt := fun zt zk => castTop (ef_0_JJJI m ja jb jc k) zk
  obtain ⟨_, _, ⟨T1, L1, k1, n1⟩, -, X1, ⟨Lc1, hQ1, l1, y1, z1⟩, st1⟩ := Jvm.LawKit.callS X0 hx (y := (⟨"java/time/Duration", "ofNanos", "(J)Ljava/time/Duration;"⟩ : MethodName)) hown (mvT hZ (hw _ (List.mem_of_getElem? (i := 0) rfl))) (mvT hZ (hw _ (List.mem_of_getElem? (i := 1) rfl))) (mvT hZ (hw _ (List.mem_of_getElem? (i := 2) rfl))) (mvT hZ (hw _ (List.mem_of_getElem? (i := 3) rfl))) (by decide) (backOf (W := 0) (ofN l Z a0 hw [] xa wz h0 n0 O0 G1 G2 G3 G4) hZ (hw _ (List.mem_of_getElem? (i := 3) rfl)) (hw _ (List.mem_of_getElem? (i := 2) rfl)) (by decide) (by decide)) (g := (mkF m 24 #[.val (.long ja), .second, .val (.long jb), .second, .val (.long jc), .second, .val (.int k), .val (.int (0 : Int32)), .val (.long xa), .second, .val (.long xb), .second, .val (.long xc), .second, .unset, .unset, .unset, .unset, .unset, .unset, .unset, .unset, .unset, .unset, .unset, .unset] [(.long xa)])) rfl (by rw [hml]; rfl) (argsL := [(.long xa)]) (rest := []) (lenOf pd_5 rfl) rfl (by show 2 * 0 + _ ≤ _; exact Nat.le_of_eq rfl) (hb hby at_24) (fun _ _ => ⟨rfl, e0, (by decide : 0 + 1 ≤ _), (by decide : 0 + 2 ≤ _)⟩)
  dsimp only [Pt.U, Pt.locs, Pt.cells, Pt.slots] at X1 l1 y1 z1 st1 hQ1
  subst l1 y1 z1
  obtain ⟨r_1, s1_1, n1_1, rfl, Nq1, kh1, Po1_0, Po1_1, Po1_2, pq1_0⟩ := hQ1
  have N1 := Fr.app N0 Nq1
  have O1 := O0.keep kh1 all0
  have K1 : Keep h0 T1.heap [] := (Keep.refl h0 []).trans kh1 all0
  obtain ⟨_, _, ⟨T2, L2, k2, n2⟩, -, X2, ⟨Lc2, hQ2, l2, y2, z2⟩, st2⟩ := Jvm.LawKit.callS X1 hx (y := (⟨"java/time/Duration", "ofNanos", "(J)Ljava/time/Duration;"⟩ : MethodName)) hown (mvT hZ (hw _ (List.mem_of_getElem? (i := 0) rfl))) (mvT hZ (hw _ (List.mem_of_getElem? (i := 1) rfl))) (mvT hZ (hw _ (List.mem_of_getElem? (i := 2) rfl))) (mvT hZ (hw _ (List.mem_of_getElem? (i := 3) rfl))) (by decide) (backOf (W := 0) (ofN l Z a0 hw [] xb wz T1.heap n0 O1 G1 G2 G3 G4) hZ (hw _ (List.mem_of_getElem? (i := 3) rfl)) (hw _ (List.mem_of_getElem? (i := 2) rfl)) (by decide) (by decide)) (g := (mkF m 31 #[.val (.long ja), .second, .val (.long jb), .second, .val (.long jc), .second, .val (.int k), .val (.int (0 : Int32)), .val (.long xa), .second, .val (.long xb), .second, .val (.long xc), .second, .val (.ref r_1), .unset, .unset, .unset, .unset, .unset, .unset, .unset, .unset, .unset, .unset, .unset] [(.long xb)])) rfl (by rw [hml]; rfl) (argsL := [(.long xb)]) (rest := []) (lenOf pd_5 rfl) rfl (by show 2 * 0 + _ ≤ _; exact Nat.le_of_eq rfl) (hb hby at_31) (fun _ _ => ⟨rfl, rfl, (by decide : 1 + 1 ≤ _), (by decide : 2 + 2 ≤ _)⟩)
  dsimp only [Pt.U, Pt.locs, Pt.cells, Pt.slots] at X2 l2 y2 z2 st2 hQ2
  subst l2 y2 z2
  obtain ⟨r_2, s1_2, n1_2, rfl, Nq2, kh2, Po2_0, Po2_1, Po2_2, pq2_0⟩ := hQ2
  have N2 := Fr.app N1 Nq2
  have O2 := O1.keep kh2 all0
  have K2 : Keep h0 T2.heap [] := K1.trans kh2 all0
  obtain ⟨_, _, ⟨T3, L3, k3, n3⟩, -, X3, ⟨Lc3, hQ3, l3, y3, z3⟩, st3⟩ := Jvm.LawKit.callS X2 hx (y := (⟨"java/time/Duration", "ofNanos", "(J)Ljava/time/Duration;"⟩ : MethodName)) hown (mvT hZ (hw _ (List.mem_of_getElem? (i := 0) rfl))) (mvT hZ (hw _ (List.mem_of_getElem? (i := 1) rfl))) (mvT hZ (hw _ (List.mem_of_getElem? (i := 2) rfl))) (mvT hZ (hw _ (List.mem_of_getElem? (i := 3) rfl))) (by decide) (backOf (W := 0) (ofN l Z a0 hw [] xc wz T2.heap n0 O2 G1 G2 G3 G4) hZ (hw _ (List.mem_of_getElem? (i := 3) rfl)) (hw _ (List.mem_of_getElem? (i := 2) rfl)) (by decide) (by decide)) (g := (mkF m 38 #[.val (.long ja), .second, .val (.long jb), .second, .val (.long jc), .second, .val (.int k), .val (.int (0 : Int32)), .val (.long xa), .second, .val (.long xb), .second, .val (.long xc), .second, .val (.ref r_1), .val (.ref r_2), .unset, .unset, .unset, .unset, .unset, .unset, .unset, .unset, .unset, .unset] [(.long xc)])) rfl (by rw [hml]; rfl) (argsL := [(.long xc)]) (rest := []) (lenOf pd_5 rfl) rfl (by show 2 * 0 + _ ≤ _; exact Nat.le_of_eq rfl) (hb hby at_38) (fun _ _ => ⟨rfl, rfl, (by decide : 2 + 1 ≤ _), (by decide : 4 + 2 ≤ _)⟩)
  dsimp only [Pt.U, Pt.locs, Pt.cells, Pt.slots] at X3 l3 y3 z3 st3 hQ3
  subst l3 y3 z3
  obtain ⟨r_3, s1_3, n1_3, rfl, Nq3, kh3, Po3_0, Po3_1, Po3_2, pq3_0⟩ := hQ3
  have N3 := Fr.app N2 Nq3
  have O3 := O2.keep kh3 all0
  have K3 : Keep h0 T3.heap [] := K2.trans kh3 all0
  obtain ⟨T4, h4, X4, e4, E4, A4, D4, U4, st4⟩ := newO X3 hx hZ hown (hw _ (List.mem_of_getElem? (i := 23) rfl)) (hw _ (List.mem_of_getElem? (i := 24) rfl)) (hw _ (List.mem_of_getElem? (i := 25) rfl)) rfl (g := (mkF m 43 #[.val (.long ja), .second, .val (.long jb), .second, .val (.long jc), .second, .val (.int k), .val (.int (0 : Int32)), .val (.long xa), .second, .val (.long xb), .second, .val (.long xc), .second, .val (.ref r_1), .val (.ref r_2), .val (.ref r_3), .unset, .unset, .unset, .unset, .unset, .unset, .unset, .unset, .unset] [])) rfl (hb hby at_43) (by decide) (by decide)
  obtain ⟨b4, gz4⟩ : ∃ z, z = T3.heap.size := ⟨_, rfl⟩
  rw [← gz4] at A4 D4 U4 st4
  have sz_b4 : h0.size ≤ b4 := Nat.le_trans K3.1 (Nat.le_of_eq gz4.symm)
  have g_b4 : n0 ≤ b4 := Nat.le_trans Z0 sz_b4
  have O4 := O3.ext E4
  have K4 : Keep h0 h4 [] := K3.ext E4
  have Fi4_32 : Fld Z h4 b4 "com/example/admitd/admitd/gate/ServiceTime" "latest" "[J" .null := D4 (Or.inr (hw _ (List.mem_of_getElem? (i := 32) rfl))) (ty := (.array .long)) (by decide)
  have Fi4_57 : Fld Z h4 b4 "com/example/admitd/admitd/gate/ServiceTime" "count" "I" (.int (0 : Int32)) := D4 (Or.inl (hw _ (List.mem_of_getElem? (i := 57) rfl))) (ty := .int) (by decide)
  have Fi4_59 : Fld Z h4 b4 "com/example/admitd/admitd/gate/ServiceTime" "next" "I" (.int (0 : Int32)) := D4 (Or.inl (hw _ (List.mem_of_getElem? (i := 59) rfl))) (ty := .int) (by decide)
  have Fi4_61 : Fld Z h4 b4 "com/example/admitd/admitd/gate/ServiceTime" "sum" "J" (.long (0 : Int64)) := D4 (Or.inl (hw _ (List.mem_of_getElem? (i := 61) rfl))) (ty := .long) (by decide)
  obtain ⟨_, _, ⟨T5, L5, k5, n5⟩, -, X5, ⟨Lc5, hQ5, l5, y5, z5⟩, st5⟩ := X4.specialBack hx (y := (⟨"com/example/admitd/admitd/gate/ServiceTime", "<init>", "()V"⟩ : MethodName)) rfl hown (mvT hZ (hw _ (List.mem_of_getElem? (i := 26) rfl))) (mvT hZ (hw _ (List.mem_of_getElem? (i := 27) rfl))) (mvT hZ (hw _ (List.mem_of_getElem? (i := 28) rfl))) (by decide) (backOf (W := 1) (svI l Z a0 hw [] b4 h4 n0 O4 A4 Fi4_32 Fi4_57 Fi4_59 Fi4_61 g_b4) hZ (hw _ (List.mem_of_getElem? (i := 28) rfl)) (hw _ (List.mem_of_getElem? (i := 25) rfl)) (by decide) (by decide)) (g := (mkF m 47 #[.val (.long ja), .second, .val (.long jb), .second, .val (.long jc), .second, .val (.int k), .val (.int (0 : Int32)), .val (.long xa), .second, .val (.long xb), .second, .val (.long xc), .second, .val (.ref r_1), .val (.ref r_2), .val (.ref r_3), .unset, .unset, .unset, .unset, .unset, .unset, .unset, .unset, .unset] [(.ref b4), (.ref b4)])) rfl (by rw [hml]; rfl) (Steps.refl _) (a := b4) (argsL := []) (rest := [(.ref b4)]) (lenOf pd_6 rfl) rfl (by show 2 * 0 + _ ≤ _; exact Nat.le_of_eq rfl) (hb hby at_47) (fun _ _ => ⟨rfl, e4, (by decide : 4 + 1 ≤ _), (by decide : 10 + 32 ≤ _)⟩)
  dsimp only [Pt.U, Pt.locs, Pt.cells, Pt.slots] at X5 l5 y5 z5 st5 hQ5
  subst l5 y5 z5
  obtain ⟨la_5, rfl, Nq5, kh5, fz_la_5, Po5_0, Po5_1, Po5_2, Po5_3, Po5_4, Po5_5⟩ := hQ5
  have N5 := Fr.app N3 Nq5
  have sz_la_5 : h0.size ≤ la_5 := Nat.le_trans K4.1 fz_la_5
  have g_la_5 : n0 ≤ la_5 := Nat.le_trans Z0 sz_la_5
  have O5 := O4.keep kh5 (allS g_b4 all0)
  have K5 : Keep h0 T5.heap [] := K4.trans kh5 (allS (Or.inr sz_b4) all0)
  obtain ⟨cq6, kq6, q6a, q6b, q6c⟩ := isOf hZ rfl Po5_0
  obtain ⟨_, _, ⟨T6, L6, k6, n6⟩, -, X6, ⟨Lc6, hQ6, l6, y6, z6⟩, st6⟩ := X5.virtualBack hx (y := (⟨"com/example/admitd/admitd/gate/ServiceTime", "mean", "()Ljava/time/Duration;"⟩ : MethodName)) (z := (⟨"com/example/admitd/admitd/gate/ServiceTime", "mean", "()Ljava/time/Duration;"⟩ : MethodName)) hown (mvT hZ (hw _ (List.mem_of_getElem? (i := 62) rfl))) (mvT hZ (hw _ (List.mem_of_getElem? (i := 63) rfl))) (notFace_of_selects (args := #[]) (mvT hZ (hw _ (List.mem_of_getElem? (i := 65) rfl)))) (mvT hZ (hw _ (List.mem_of_getElem? (i := 65) rfl))) (mvT hZ (hw _ (List.mem_of_getElem? (i := 64) rfl))) (by decide) (backOf (W := 0) (mean0 l Z a0 hw [] b4 wg T5.heap n0 O5 G5 Po5_2) hZ (hw _ (List.mem_of_getElem? (i := 66) rfl)) (hw _ (List.mem_of_getElem? (i := 25) rfl)) (by decide) (by decide)) q6a q6c (g := (mkF m 93 #[.val (.long ja), .second, .val (.long jb), .second, .val (.long jc), .second, .val (.int k), .val (.int (0 : Int32)), .val (.long xa), .second, .val (.long xb), .second, .val (.long xc), .second, .val (.ref r_1), .val (.ref r_2), .val (.ref r_3), .val (.ref b4), .unset, .unset, .unset, .unset, .unset, .unset, .unset, .unset] [(.ref b4)])) rfl (by rw [hml]; rfl) (Steps.refl _) (argsL := []) (rest := []) (lenOf pd_7 rfl) rfl (by show 2 * 0 + _ ≤ _; exact Nat.le_of_eq rfl) (hb hby at_93) (fun _ _ => ⟨rfl, rfl, (by decide : 5 + 0 ≤ _), (by decide : 42 + 0 ≤ _)⟩)
  dsimp only [Pt.U, Pt.locs, Pt.cells, Pt.slots] at X6 l6 y6 z6 st6 hQ6
  subst l6 y6 z6
  obtain ⟨rfl, Nq6, kh6⟩ := hQ6
  have N6 := Fr.app N5 Nq6
  obtain ⟨cq7, kq7, q7a, q7b, q7c⟩ := isOf hZ kh6 (G6.ext O5.2)
  obtain ⟨_, _, ⟨T7, L7, k7, n7⟩, -, X7, ⟨Lc7, hQ7, l7, y7, z7⟩, st7⟩ := X6.virtualBack hx (y := (⟨"java/time/Duration", "toNanos", "()J"⟩ : MethodName)) (z := (⟨"java/time/Duration", "toNanos", "()J"⟩ : MethodName)) hown (mvT hZ (hw _ (List.mem_of_getElem? (i := 70) rfl))) (mvT hZ (hw _ (List.mem_of_getElem? (i := 39) rfl))) (notFace_of_selects (args := #[]) (mvT hZ (hw _ (List.mem_of_getElem? (i := 41) rfl)))) (mvT hZ (hw _ (List.mem_of_getElem? (i := 41) rfl))) (mvT hZ (hw _ (List.mem_of_getElem? (i := 40) rfl))) (by decide) (backOf (W := 0) (toN l Z a0 hw [] wg (1 : Int64) (0 : Int32) (1000000000 : Int64) T5.heap n0 O5 (G7.ext O5.2) (G8.ext O5.2) dur_one) hZ (hw _ (List.mem_of_getElem? (i := 42) rfl)) (hw _ (List.mem_of_getElem? (i := 2) rfl)) (by decide) (by decide)) q7a q7c (g := (mkF m 96 #[.val (.long ja), .second, .val (.long jb), .second, .val (.long jc), .second, .val (.int k), .val (.int (0 : Int32)), .val (.long xa), .second, .val (.long xb), .second, .val (.long xc), .second, .val (.ref r_1), .val (.ref r_2), .val (.ref r_3), .val (.ref b4), .unset, .unset, .unset, .unset, .unset, .unset, .unset, .unset] [(.ref wg)])) rfl (by rw [hml]; rfl) (Steps.refl _) (argsL := []) (rest := []) (lenOf pd_4 rfl) rfl (by show 2 * 0 + _ ≤ _; exact Nat.le_of_eq rfl) (hb hby at_96) (fun _ _ => ⟨rfl, kh6, (by decide : 5 + 0 ≤ _), (by decide : 42 + 0 ≤ _)⟩)
  dsimp only [Pt.U, Pt.locs, Pt.cells, Pt.slots] at X7 l7 y7 z7 st7 hQ7
  subst l7 y7 z7
  obtain ⟨rfl, Nq7, kh7⟩ := hQ7
  have N7 := Fr.app N6 Nq7
  obtain ⟨fs, hr, hrun, hended, hW, hsame⟩ := X7.leave (v := some (.int (1 : Int32))) (fun h => by rw [Bd.returns] at h; cases h)
  refine ⟨_, _, pre0 _ ?_, hrun, hended, _, _, rfl, ?_, ⟨_, rfl⟩, hW, hsame.mono (by decide) (by decide)⟩
  · show Steps p.tables e below (s₁.setTop (mkF m 0 #[.val (.long ja), .second, .val (.long jb), .second, .val (.long jc), .second, .val (.int k), .unset, .unset, .unset, .unset, .unset, .unset, .unset, .unset, .unset, .unset, .unset, .unset, .unset, .unset, .unset, .unset, .unset, .unset, .unset] [])) _
    refine XS.iload X0.here hx rfl (hb hby at_0) rfl ?_
    show Steps p.tables e below (s₁.setTop (mkF m 2 #[.val (.long ja), .second, .val (.long jb), .second, .val (.long jc), .second, .val (.int k), .unset, .unset, .unset, .unset, .unset, .unset, .unset, .unset, .unset, .unset, .unset, .unset, .unset, .unset, .unset, .unset, .unset, .unset, .unset] [(.int k)])) _
    refine XS.iconst X0.here hx rfl (hb hby at_2) ?_
    show Steps p.tables e below (s₁.setTop (mkF m 3 #[.val (.long ja), .second, .val (.long jb), .second, .val (.long jc), .second, .val (.int k), .unset, .unset, .unset, .unset, .unset, .unset, .unset, .unset, .unset, .unset, .unset, .unset, .unset, .unset, .unset, .unset, .unset, .unset, .unset] [(.int (3 : Int32)), (.int k)])) _
    refine XS.iand X0.here hx rfl (hb hby at_3) rfl ?_
    show Steps p.tables e below (s₁.setTop (mkF m 4 #[.val (.long ja), .second, .val (.long jb), .second, .val (.long jc), .second, .val (.int k), .unset, .unset, .unset, .unset, .unset, .unset, .unset, .unset, .unset, .unset, .unset, .unset, .unset, .unset, .unset, .unset, .unset, .unset, .unset] [(.int (k &&& (3 : Int32)))])) _
    refine castTop (congrArg (fun z_ => (mkF m 4 #[.val (.long ja), .second, .val (.long jb), .second, .val (.long jc), .second, .val (.int k), .unset, .unset, .unset, .unset, .unset, .unset, .unset, .unset, .unset, .unset, .unset, .unset, .unset, .unset, .unset, .unset, .unset, .unset, .unset] [(.int z_)])) (hk : (k &&& (3 : Int32)) = (0 : Int32))) ?_
    show Steps p.tables e below (s₁.setTop (mkF m 4 #[.val (.long ja), .second, .val (.long jb), .second, .val (.long jc), .second, .val (.int k), .unset, .unset, .unset, .unset, .unset, .unset, .unset, .unset, .unset, .unset, .unset, .unset, .unset, .unset, .unset, .unset, .unset, .unset, .unset] [(.int (0 : Int32))])) _
    refine XS.istore X0.here hx rfl (hb hby at_4) rfl (l' := #[.val (.long ja), .second, .val (.long jb), .second, .val (.long jc), .second, .val (.int k), .val (.int (0 : Int32)), .unset, .unset, .unset, .unset, .unset, .unset, .unset, .unset, .unset, .unset, .unset, .unset, .unset, .unset, .unset, .unset, .unset, .unset]) rfl ?_
    show Steps p.tables e below (s₁.setTop (mkF m 6 #[.val (.long ja), .second, .val (.long jb), .second, .val (.long jc), .second, .val (.int k), .val (.int (0 : Int32)), .unset, .unset, .unset, .unset, .unset, .unset, .unset, .unset, .unset, .unset, .unset, .unset, .unset, .unset, .unset, .unset, .unset, .unset] [])) _
    refine XS.lloadN X0.here hx rfl (hb hby at_6) rfl ?_
    show Steps p.tables e below (s₁.setTop (mkF m 7 #[.val (.long ja), .second, .val (.long jb), .second, .val (.long jc), .second, .val (.int k), .val (.int (0 : Int32)), .unset, .unset, .unset, .unset, .unset, .unset, .unset, .unset, .unset, .unset, .unset, .unset, .unset, .unset, .unset, .unset, .unset, .unset] [(.long ja)])) _
    refine XS.iconst X0.here hx rfl (hb hby at_7) ?_
    show Steps p.tables e below (s₁.setTop (mkF m 8 #[.val (.long ja), .second, .val (.long jb), .second, .val (.long jc), .second, .val (.int k), .val (.int (0 : Int32)), .unset, .unset, .unset, .unset, .unset, .unset, .unset, .unset, .unset, .unset, .unset, .unset, .unset, .unset, .unset, .unset, .unset, .unset] [(.int (2 : Int32)), (.long ja)])) _
    refine XS.lshr X0.here hx rfl (hb hby at_8) rfl ?_
    show Steps p.tables e below (s₁.setTop (mkF m 9 #[.val (.long ja), .second, .val (.long jb), .second, .val (.long jc), .second, .val (.int k), .val (.int (0 : Int32)), .unset, .unset, .unset, .unset, .unset, .unset, .unset, .unset, .unset, .unset, .unset, .unset, .unset, .unset, .unset, .unset, .unset, .unset] [(.long (ja >>> ((2 : Int32) &&& 0x3f).toInt64))])) _
    refine castTop (congrArg (fun z_ => (mkF m 9 #[.val (.long ja), .second, .val (.long jb), .second, .val (.long jc), .second, .val (.int k), .val (.int (0 : Int32)), .unset, .unset, .unset, .unset, .unset, .unset, .unset, .unset, .unset, .unset, .unset, .unset, .unset, .unset, .unset, .unset, .unset, .unset] [(.long z_)])) (exa : (ja >>> ((2 : Int32) &&& 0x3f).toInt64) = xa)) ?_
    show Steps p.tables e below (s₁.setTop (mkF m 9 #[.val (.long ja), .second, .val (.long jb), .second, .val (.long jc), .second, .val (.int k), .val (.int (0 : Int32)), .unset, .unset, .unset, .unset, .unset, .unset, .unset, .unset, .unset, .unset, .unset, .unset, .unset, .unset, .unset, .unset, .unset, .unset] [(.long xa)])) _
    refine XS.lstore X0.here hx rfl (hb hby at_9) rfl (l' := #[.val (.long ja), .second, .val (.long jb), .second, .val (.long jc), .second, .val (.int k), .val (.int (0 : Int32)), .val (.long xa), .second, .unset, .unset, .unset, .unset, .unset, .unset, .unset, .unset, .unset, .unset, .unset, .unset, .unset, .unset, .unset, .unset]) rfl ?_
    show Steps p.tables e below (s₁.setTop (mkF m 11 #[.val (.long ja), .second, .val (.long jb), .second, .val (.long jc), .second, .val (.int k), .val (.int (0 : Int32)), .val (.long xa), .second, .unset, .unset, .unset, .unset, .unset, .unset, .unset, .unset, .unset, .unset, .unset, .unset, .unset, .unset, .unset, .unset] [])) _
    refine XS.lloadN X0.here hx rfl (hb hby at_11) rfl ?_
    show Steps p.tables e below (s₁.setTop (mkF m 12 #[.val (.long ja), .second, .val (.long jb), .second, .val (.long jc), .second, .val (.int k), .val (.int (0 : Int32)), .val (.long xa), .second, .unset, .unset, .unset, .unset, .unset, .unset, .unset, .unset, .unset, .unset, .unset, .unset, .unset, .unset, .unset, .unset] [(.long jb)])) _
    refine XS.iconst X0.here hx rfl (hb hby at_12) ?_
    show Steps p.tables e below (s₁.setTop (mkF m 13 #[.val (.long ja), .second, .val (.long jb), .second, .val (.long jc), .second, .val (.int k), .val (.int (0 : Int32)), .val (.long xa), .second, .unset, .unset, .unset, .unset, .unset, .unset, .unset, .unset, .unset, .unset, .unset, .unset, .unset, .unset, .unset, .unset] [(.int (2 : Int32)), (.long jb)])) _
    refine XS.lshr X0.here hx rfl (hb hby at_13) rfl ?_
    show Steps p.tables e below (s₁.setTop (mkF m 14 #[.val (.long ja), .second, .val (.long jb), .second, .val (.long jc), .second, .val (.int k), .val (.int (0 : Int32)), .val (.long xa), .second, .unset, .unset, .unset, .unset, .unset, .unset, .unset, .unset, .unset, .unset, .unset, .unset, .unset, .unset, .unset, .unset] [(.long (jb >>> ((2 : Int32) &&& 0x3f).toInt64))])) _
    refine castTop (congrArg (fun z_ => (mkF m 14 #[.val (.long ja), .second, .val (.long jb), .second, .val (.long jc), .second, .val (.int k), .val (.int (0 : Int32)), .val (.long xa), .second, .unset, .unset, .unset, .unset, .unset, .unset, .unset, .unset, .unset, .unset, .unset, .unset, .unset, .unset, .unset, .unset] [(.long z_)])) (exb : (jb >>> ((2 : Int32) &&& 0x3f).toInt64) = xb)) ?_
    show Steps p.tables e below (s₁.setTop (mkF m 14 #[.val (.long ja), .second, .val (.long jb), .second, .val (.long jc), .second, .val (.int k), .val (.int (0 : Int32)), .val (.long xa), .second, .unset, .unset, .unset, .unset, .unset, .unset, .unset, .unset, .unset, .unset, .unset, .unset, .unset, .unset, .unset, .unset] [(.long xb)])) _
    refine XS.lstore X0.here hx rfl (hb hby at_14) rfl (l' := #[.val (.long ja), .second, .val (.long jb), .second, .val (.long jc), .second, .val (.int k), .val (.int (0 : Int32)), .val (.long xa), .second, .val (.long xb), .second, .unset, .unset, .unset, .unset, .unset, .unset, .unset, .unset, .unset, .unset, .unset, .unset, .unset, .unset]) rfl ?_
    show Steps p.tables e below (s₁.setTop (mkF m 16 #[.val (.long ja), .second, .val (.long jb), .second, .val (.long jc), .second, .val (.int k), .val (.int (0 : Int32)), .val (.long xa), .second, .val (.long xb), .second, .unset, .unset, .unset, .unset, .unset, .unset, .unset, .unset, .unset, .unset, .unset, .unset, .unset, .unset] [])) _
    refine XS.lload X0.here hx rfl (hb hby at_16) rfl ?_
    show Steps p.tables e below (s₁.setTop (mkF m 18 #[.val (.long ja), .second, .val (.long jb), .second, .val (.long jc), .second, .val (.int k), .val (.int (0 : Int32)), .val (.long xa), .second, .val (.long xb), .second, .unset, .unset, .unset, .unset, .unset, .unset, .unset, .unset, .unset, .unset, .unset, .unset, .unset, .unset] [(.long jc)])) _
    refine XS.iconst X0.here hx rfl (hb hby at_18) ?_
    show Steps p.tables e below (s₁.setTop (mkF m 19 #[.val (.long ja), .second, .val (.long jb), .second, .val (.long jc), .second, .val (.int k), .val (.int (0 : Int32)), .val (.long xa), .second, .val (.long xb), .second, .unset, .unset, .unset, .unset, .unset, .unset, .unset, .unset, .unset, .unset, .unset, .unset, .unset, .unset] [(.int (2 : Int32)), (.long jc)])) _
    refine XS.lshr X0.here hx rfl (hb hby at_19) rfl ?_
    show Steps p.tables e below (s₁.setTop (mkF m 20 #[.val (.long ja), .second, .val (.long jb), .second, .val (.long jc), .second, .val (.int k), .val (.int (0 : Int32)), .val (.long xa), .second, .val (.long xb), .second, .unset, .unset, .unset, .unset, .unset, .unset, .unset, .unset, .unset, .unset, .unset, .unset, .unset, .unset] [(.long (jc >>> ((2 : Int32) &&& 0x3f).toInt64))])) _
    refine castTop (congrArg (fun z_ => (mkF m 20 #[.val (.long ja), .second, .val (.long jb), .second, .val (.long jc), .second, .val (.int k), .val (.int (0 : Int32)), .val (.long xa), .second, .val (.long xb), .second, .unset, .unset, .unset, .unset, .unset, .unset, .unset, .unset, .unset, .unset, .unset, .unset, .unset, .unset] [(.long z_)])) (exc : (jc >>> ((2 : Int32) &&& 0x3f).toInt64) = xc)) ?_
    show Steps p.tables e below (s₁.setTop (mkF m 20 #[.val (.long ja), .second, .val (.long jb), .second, .val (.long jc), .second, .val (.int k), .val (.int (0 : Int32)), .val (.long xa), .second, .val (.long xb), .second, .unset, .unset, .unset, .unset, .unset, .unset, .unset, .unset, .unset, .unset, .unset, .unset, .unset, .unset] [(.long xc)])) _
    refine XS.lstore X0.here hx rfl (hb hby at_20) rfl (l' := #[.val (.long ja), .second, .val (.long jb), .second, .val (.long jc), .second, .val (.int k), .val (.int (0 : Int32)), .val (.long xa), .second, .val (.long xb), .second, .val (.long xc), .second, .unset, .unset, .unset, .unset, .unset, .unset, .unset, .unset, .unset, .unset, .unset, .unset]) rfl ?_
    show Steps p.tables e below (s₁.setTop (mkF m 22 #[.val (.long ja), .second, .val (.long jb), .second, .val (.long jc), .second, .val (.int k), .val (.int (0 : Int32)), .val (.long xa), .second, .val (.long xb), .second, .val (.long xc), .second, .unset, .unset, .unset, .unset, .unset, .unset, .unset, .unset, .unset, .unset, .unset, .unset] [])) _
    refine XS.lload X0.here hx rfl (hb hby at_22) rfl ?_
    show Steps p.tables e below (s₁.setTop (mkF m 24 #[.val (.long ja), .second, .val (.long jb), .second, .val (.long jc), .second, .val (.int k), .val (.int (0 : Int32)), .val (.long xa), .second, .val (.long xb), .second, .val (.long xc), .second, .unset, .unset, .unset, .unset, .unset, .unset, .unset, .unset, .unset, .unset, .unset, .unset] [(.long xa)])) _
    refine st1 _ ?_
    show Steps p.tables e below (T1.setTop (mkF m 27 #[.val (.long ja), .second, .val (.long jb), .second, .val (.long jc), .second, .val (.int k), .val (.int (0 : Int32)), .val (.long xa), .second, .val (.long xb), .second, .val (.long xc), .second, .unset, .unset, .unset, .unset, .unset, .unset, .unset, .unset, .unset, .unset, .unset, .unset] [(.ref r_1)])) _
    refine XS.astore X1.here hx rfl (hb hby at_27) rfl rfl (l' := #[.val (.long ja), .second, .val (.long jb), .second, .val (.long jc), .second, .val (.int k), .val (.int (0 : Int32)), .val (.long xa), .second, .val (.long xb), .second, .val (.long xc), .second, .val (.ref r_1), .unset, .unset, .unset, .unset, .unset, .unset, .unset, .unset, .unset, .unset, .unset]) rfl ?_
    show Steps p.tables e below (T1.setTop (mkF m 29 #[.val (.long ja), .second, .val (.long jb), .second, .val (.long jc), .second, .val (.int k), .val (.int (0 : Int32)), .val (.long xa), .second, .val (.long xb), .second, .val (.long xc), .second, .val (.ref r_1), .unset, .unset, .unset, .unset, .unset, .unset, .unset, .unset, .unset, .unset, .unset] [])) _
    refine XS.lload X1.here hx rfl (hb hby at_29) rfl ?_
    show Steps p.tables e below (T1.setTop (mkF m 31 #[.val (.long ja), .second, .val (.long jb), .second, .val (.long jc), .second, .val (.int k), .val (.int (0 : Int32)), .val (.long xa), .second, .val (.long xb), .second, .val (.long xc), .second, .val (.ref r_1), .unset, .unset, .unset, .unset, .unset, .unset, .unset, .unset, .unset, .unset, .unset] [(.long xb)])) _
    refine st2 _ ?_
    show Steps p.tables e below (T2.setTop (mkF m 34 #[.val (.long ja), .second, .val (.long jb), .second, .val (.long jc), .second, .val (.int k), .val (.int (0 : Int32)), .val (.long xa), .second, .val (.long xb), .second, .val (.long xc), .second, .val (.ref r_1), .unset, .unset, .unset, .unset, .unset, .unset, .unset, .unset, .unset, .unset, .unset] [(.ref r_2)])) _
    refine XS.astore X2.here hx rfl (hb hby at_34) rfl rfl (l' := #[.val (.long ja), .second, .val (.long jb), .second, .val (.long jc), .second, .val (.int k), .val (.int (0 : Int32)), .val (.long xa), .second, .val (.long xb), .second, .val (.long xc), .second, .val (.ref r_1), .val (.ref r_2), .unset, .unset, .unset, .unset, .unset, .unset, .unset, .unset, .unset, .unset]) rfl ?_
    show Steps p.tables e below (T2.setTop (mkF m 36 #[.val (.long ja), .second, .val (.long jb), .second, .val (.long jc), .second, .val (.int k), .val (.int (0 : Int32)), .val (.long xa), .second, .val (.long xb), .second, .val (.long xc), .second, .val (.ref r_1), .val (.ref r_2), .unset, .unset, .unset, .unset, .unset, .unset, .unset, .unset, .unset, .unset] [])) _
    refine XS.lload X2.here hx rfl (hb hby at_36) rfl ?_
    show Steps p.tables e below (T2.setTop (mkF m 38 #[.val (.long ja), .second, .val (.long jb), .second, .val (.long jc), .second, .val (.int k), .val (.int (0 : Int32)), .val (.long xa), .second, .val (.long xb), .second, .val (.long xc), .second, .val (.ref r_1), .val (.ref r_2), .unset, .unset, .unset, .unset, .unset, .unset, .unset, .unset, .unset, .unset] [(.long xc)])) _
    refine st3 _ ?_
    show Steps p.tables e below (T3.setTop (mkF m 41 #[.val (.long ja), .second, .val (.long jb), .second, .val (.long jc), .second, .val (.int k), .val (.int (0 : Int32)), .val (.long xa), .second, .val (.long xb), .second, .val (.long xc), .second, .val (.ref r_1), .val (.ref r_2), .unset, .unset, .unset, .unset, .unset, .unset, .unset, .unset, .unset, .unset] [(.ref r_3)])) _
    refine XS.astore X3.here hx rfl (hb hby at_41) rfl rfl (l' := #[.val (.long ja), .second, .val (.long jb), .second, .val (.long jc), .second, .val (.int k), .val (.int (0 : Int32)), .val (.long xa), .second, .val (.long xb), .second, .val (.long xc), .second, .val (.ref r_1), .val (.ref r_2), .val (.ref r_3), .unset, .unset, .unset, .unset, .unset, .unset, .unset, .unset, .unset]) rfl ?_
    show Steps p.tables e below (T3.setTop (mkF m 43 #[.val (.long ja), .second, .val (.long jb), .second, .val (.long jc), .second, .val (.int k), .val (.int (0 : Int32)), .val (.long xa), .second, .val (.long xb), .second, .val (.long xc), .second, .val (.ref r_1), .val (.ref r_2), .val (.ref r_3), .unset, .unset, .unset, .unset, .unset, .unset, .unset, .unset, .unset] [])) _
    refine st4 _ ?_
    show Steps p.tables e below (T4.setTop (mkF m 46 #[.val (.long ja), .second, .val (.long jb), .second, .val (.long jc), .second, .val (.int k), .val (.int (0 : Int32)), .val (.long xa), .second, .val (.long xb), .second, .val (.long xc), .second, .val (.ref r_1), .val (.ref r_2), .val (.ref r_3), .unset, .unset, .unset, .unset, .unset, .unset, .unset, .unset, .unset] [(.ref b4)])) _
    refine XS.dup X4.here hx rfl (hb hby at_46) rfl rfl ?_
    show Steps p.tables e below (T4.setTop (mkF m 47 #[.val (.long ja), .second, .val (.long jb), .second, .val (.long jc), .second, .val (.int k), .val (.int (0 : Int32)), .val (.long xa), .second, .val (.long xb), .second, .val (.long xc), .second, .val (.ref r_1), .val (.ref r_2), .val (.ref r_3), .unset, .unset, .unset, .unset, .unset, .unset, .unset, .unset, .unset] [(.ref b4), (.ref b4)])) _
    refine st5.trans ?_
    show Steps p.tables e below (T5.setTop (mkF m 50 #[.val (.long ja), .second, .val (.long jb), .second, .val (.long jc), .second, .val (.int k), .val (.int (0 : Int32)), .val (.long xa), .second, .val (.long xb), .second, .val (.long xc), .second, .val (.ref r_1), .val (.ref r_2), .val (.ref r_3), .unset, .unset, .unset, .unset, .unset, .unset, .unset, .unset, .unset] [(.ref b4)])) _
    refine XS.astore X5.here hx rfl (hb hby at_50) rfl rfl (l' := #[.val (.long ja), .second, .val (.long jb), .second, .val (.long jc), .second, .val (.int k), .val (.int (0 : Int32)), .val (.long xa), .second, .val (.long xb), .second, .val (.long xc), .second, .val (.ref r_1), .val (.ref r_2), .val (.ref r_3), .val (.ref b4), .unset, .unset, .unset, .unset, .unset, .unset, .unset, .unset]) rfl ?_
    show Steps p.tables e below (T5.setTop (mkF m 52 #[.val (.long ja), .second, .val (.long jb), .second, .val (.long jc), .second, .val (.int k), .val (.int (0 : Int32)), .val (.long xa), .second, .val (.long xb), .second, .val (.long xc), .second, .val (.ref r_1), .val (.ref r_2), .val (.ref r_3), .val (.ref b4), .unset, .unset, .unset, .unset, .unset, .unset, .unset, .unset] [])) _
    refine XS.iload X5.here hx rfl (hb hby at_52) rfl ?_
    show Steps p.tables e below (T5.setTop (mkF m 54 #[.val (.long ja), .second, .val (.long jb), .second, .val (.long jc), .second, .val (.int k), .val (.int (0 : Int32)), .val (.long xa), .second, .val (.long xb), .second, .val (.long xc), .second, .val (.ref r_1), .val (.ref r_2), .val (.ref r_3), .val (.ref b4), .unset, .unset, .unset, .unset, .unset, .unset, .unset, .unset] [(.int (0 : Int32))])) _
    refine XS.iconst X5.here hx rfl (hb hby at_54) ?_
    show Steps p.tables e below (T5.setTop (mkF m 55 #[.val (.long ja), .second, .val (.long jb), .second, .val (.long jc), .second, .val (.int k), .val (.int (0 : Int32)), .val (.long xa), .second, .val (.long xb), .second, .val (.long xc), .second, .val (.ref r_1), .val (.ref r_2), .val (.ref r_3), .val (.ref b4), .unset, .unset, .unset, .unset, .unset, .unset, .unset, .unset] [(.int (1 : Int32)), (.int (0 : Int32))])) _
    refine XS.icmpYes X5.here hx rfl (pc0 := 55) (pc' := 65) rfl (hb hby at_55) rfl (tlt (by decide : (0 : Int32) < (1 : Int32))).1 (by decide) (by decide) ?_
    show Steps p.tables e below (T5.setTop (mkF m 65 #[.val (.long ja), .second, .val (.long jb), .second, .val (.long jc), .second, .val (.int k), .val (.int (0 : Int32)), .val (.long xa), .second, .val (.long xb), .second, .val (.long xc), .second, .val (.ref r_1), .val (.ref r_2), .val (.ref r_3), .val (.ref b4), .unset, .unset, .unset, .unset, .unset, .unset, .unset, .unset] [])) _
    refine XS.iload X5.here hx rfl (hb hby at_65) rfl ?_
    show Steps p.tables e below (T5.setTop (mkF m 67 #[.val (.long ja), .second, .val (.long jb), .second, .val (.long jc), .second, .val (.int k), .val (.int (0 : Int32)), .val (.long xa), .second, .val (.long xb), .second, .val (.long xc), .second, .val (.ref r_1), .val (.ref r_2), .val (.ref r_3), .val (.ref b4), .unset, .unset, .unset, .unset, .unset, .unset, .unset, .unset] [(.int (0 : Int32))])) _
    refine XS.iconst X5.here hx rfl (hb hby at_67) ?_
    show Steps p.tables e below (T5.setTop (mkF m 68 #[.val (.long ja), .second, .val (.long jb), .second, .val (.long jc), .second, .val (.int k), .val (.int (0 : Int32)), .val (.long xa), .second, .val (.long xb), .second, .val (.long xc), .second, .val (.ref r_1), .val (.ref r_2), .val (.ref r_3), .val (.ref b4), .unset, .unset, .unset, .unset, .unset, .unset, .unset, .unset] [(.int (2 : Int32)), (.int (0 : Int32))])) _
    refine XS.icmpYes X5.here hx rfl (pc0 := 68) (pc' := 78) rfl (hb hby at_68) rfl (tlt (by decide : (0 : Int32) < (2 : Int32))).1 (by decide) (by decide) ?_
    show Steps p.tables e below (T5.setTop (mkF m 78 #[.val (.long ja), .second, .val (.long jb), .second, .val (.long jc), .second, .val (.int k), .val (.int (0 : Int32)), .val (.long xa), .second, .val (.long xb), .second, .val (.long xc), .second, .val (.ref r_1), .val (.ref r_2), .val (.ref r_3), .val (.ref b4), .unset, .unset, .unset, .unset, .unset, .unset, .unset, .unset] [])) _
    refine XS.iload X5.here hx rfl (hb hby at_78) rfl ?_
    show Steps p.tables e below (T5.setTop (mkF m 80 #[.val (.long ja), .second, .val (.long jb), .second, .val (.long jc), .second, .val (.int k), .val (.int (0 : Int32)), .val (.long xa), .second, .val (.long xb), .second, .val (.long xc), .second, .val (.ref r_1), .val (.ref r_2), .val (.ref r_3), .val (.ref b4), .unset, .unset, .unset, .unset, .unset, .unset, .unset, .unset] [(.int (0 : Int32))])) _
    refine XS.iconst X5.here hx rfl (hb hby at_80) ?_
    show Steps p.tables e below (T5.setTop (mkF m 81 #[.val (.long ja), .second, .val (.long jb), .second, .val (.long jc), .second, .val (.int k), .val (.int (0 : Int32)), .val (.long xa), .second, .val (.long xb), .second, .val (.long xc), .second, .val (.ref r_1), .val (.ref r_2), .val (.ref r_3), .val (.ref b4), .unset, .unset, .unset, .unset, .unset, .unset, .unset, .unset] [(.int (3 : Int32)), (.int (0 : Int32))])) _
    refine XS.icmpYes X5.here hx rfl (pc0 := 81) (pc' := 91) rfl (hb hby at_81) rfl (tlt (by decide : (0 : Int32) < (3 : Int32))).1 (by decide) (by decide) ?_
    show Steps p.tables e below (T5.setTop (mkF m 91 #[.val (.long ja), .second, .val (.long jb), .second, .val (.long jc), .second, .val (.int k), .val (.int (0 : Int32)), .val (.long xa), .second, .val (.long xb), .second, .val (.long xc), .second, .val (.ref r_1), .val (.ref r_2), .val (.ref r_3), .val (.ref b4), .unset, .unset, .unset, .unset, .unset, .unset, .unset, .unset] [])) _
    refine XS.aload X5.here hx rfl (hb hby at_91) rfl rfl ?_
    show Steps p.tables e below (T5.setTop (mkF m 93 #[.val (.long ja), .second, .val (.long jb), .second, .val (.long jc), .second, .val (.int k), .val (.int (0 : Int32)), .val (.long xa), .second, .val (.long xb), .second, .val (.long xc), .second, .val (.ref r_1), .val (.ref r_2), .val (.ref r_3), .val (.ref b4), .unset, .unset, .unset, .unset, .unset, .unset, .unset, .unset] [(.ref b4)])) _
    refine st6.trans ?_
    show Steps p.tables e below (T6.setTop (mkF m 96 #[.val (.long ja), .second, .val (.long jb), .second, .val (.long jc), .second, .val (.int k), .val (.int (0 : Int32)), .val (.long xa), .second, .val (.long xb), .second, .val (.long xc), .second, .val (.ref r_1), .val (.ref r_2), .val (.ref r_3), .val (.ref b4), .unset, .unset, .unset, .unset, .unset, .unset, .unset, .unset] [(.ref wg)])) _
    refine st7.trans ?_
    show Steps p.tables e below (T7.setTop (mkF m 99 #[.val (.long ja), .second, .val (.long jb), .second, .val (.long jc), .second, .val (.int k), .val (.int (0 : Int32)), .val (.long xa), .second, .val (.long xb), .second, .val (.long xc), .second, .val (.ref r_1), .val (.ref r_2), .val (.ref r_3), .val (.ref b4), .unset, .unset, .unset, .unset, .unset, .unset, .unset, .unset] [(.long (1000000000 : Int64))])) _
    refine XS.lstore X7.here hx rfl (hb hby at_99) rfl (l' := #[.val (.long ja), .second, .val (.long jb), .second, .val (.long jc), .second, .val (.int k), .val (.int (0 : Int32)), .val (.long xa), .second, .val (.long xb), .second, .val (.long xc), .second, .val (.ref r_1), .val (.ref r_2), .val (.ref r_3), .val (.ref b4), .val (.long (1000000000 : Int64)), .second, .unset, .unset, .unset, .unset, .unset, .unset]) rfl ?_
    show Steps p.tables e below (T7.setTop (mkF m 101 #[.val (.long ja), .second, .val (.long jb), .second, .val (.long jc), .second, .val (.int k), .val (.int (0 : Int32)), .val (.long xa), .second, .val (.long xb), .second, .val (.long xc), .second, .val (.ref r_1), .val (.ref r_2), .val (.ref r_3), .val (.ref b4), .val (.long (1000000000 : Int64)), .second, .unset, .unset, .unset, .unset, .unset, .unset] [])) _
    refine XS.iload X7.here hx rfl (hb hby at_101) rfl ?_
    show Steps p.tables e below (T7.setTop (mkF m 103 #[.val (.long ja), .second, .val (.long jb), .second, .val (.long jc), .second, .val (.int k), .val (.int (0 : Int32)), .val (.long xa), .second, .val (.long xb), .second, .val (.long xc), .second, .val (.ref r_1), .val (.ref r_2), .val (.ref r_3), .val (.ref b4), .val (.long (1000000000 : Int64)), .second, .unset, .unset, .unset, .unset, .unset, .unset] [(.int (0 : Int32))])) _
    refine XS.ifNo X7.here hx rfl (hb hby at_103) rfl ((if0 _ _).trans (teq (by decide : (0 : Int32) = (0 : Int32))).2) ?_
    show Steps p.tables e below (T7.setTop (mkF m 106 #[.val (.long ja), .second, .val (.long jb), .second, .val (.long jc), .second, .val (.int k), .val (.int (0 : Int32)), .val (.long xa), .second, .val (.long xb), .second, .val (.long xc), .second, .val (.ref r_1), .val (.ref r_2), .val (.ref r_3), .val (.ref b4), .val (.long (1000000000 : Int64)), .second, .unset, .unset, .unset, .unset, .unset, .unset] [])) _
    refine X7.ldc2Long hx hown (mvT hZ (hw _ (List.mem_of_getElem? (i := 78) rfl))) (g := (mkF m 106 #[.val (.long ja), .second, .val (.long jb), .second, .val (.long jc), .second, .val (.int k), .val (.int (0 : Int32)), .val (.long xa), .second, .val (.long xb), .second, .val (.long xc), .second, .val (.ref r_1), .val (.ref r_2), .val (.ref r_3), .val (.ref b4), .val (.long (1000000000 : Int64)), .second, .unset, .unset, .unset, .unset, .unset, .unset] [])) rfl (hb hby at_106) _ ?_
    show Steps p.tables e below (T7.setTop (mkF m 109 #[.val (.long ja), .second, .val (.long jb), .second, .val (.long jc), .second, .val (.int k), .val (.int (0 : Int32)), .val (.long xa), .second, .val (.long xb), .second, .val (.long xc), .second, .val (.ref r_1), .val (.ref r_2), .val (.ref r_3), .val (.ref b4), .val (.long (1000000000 : Int64)), .second, .unset, .unset, .unset, .unset, .unset, .unset] [(.long (1000000000 : Int64))])) _
    refine XS.lstore X7.here hx rfl (hb hby at_109) rfl (l' := #[.val (.long ja), .second, .val (.long jb), .second, .val (.long jc), .second, .val (.int k), .val (.int (0 : Int32)), .val (.long xa), .second, .val (.long xb), .second, .val (.long xc), .second, .val (.ref r_1), .val (.ref r_2), .val (.ref r_3), .val (.ref b4), .val (.long (1000000000 : Int64)), .second, .val (.long (1000000000 : Int64)), .second, .unset, .unset, .unset, .unset]) rfl ?_
    show Steps p.tables e below (T7.setTop (mkF m 111 #[.val (.long ja), .second, .val (.long jb), .second, .val (.long jc), .second, .val (.int k), .val (.int (0 : Int32)), .val (.long xa), .second, .val (.long xb), .second, .val (.long xc), .second, .val (.ref r_1), .val (.ref r_2), .val (.ref r_3), .val (.ref b4), .val (.long (1000000000 : Int64)), .second, .val (.long (1000000000 : Int64)), .second, .unset, .unset, .unset, .unset] [])) _
    refine XS.goto X7.here hx rfl (pc0 := 111) (pc' := 182) rfl (hb hby at_111) (by decide) (by decide) ?_
    show Steps p.tables e below (T7.setTop (mkF m 182 #[.val (.long ja), .second, .val (.long jb), .second, .val (.long jc), .second, .val (.int k), .val (.int (0 : Int32)), .val (.long xa), .second, .val (.long xb), .second, .val (.long xc), .second, .val (.ref r_1), .val (.ref r_2), .val (.ref r_3), .val (.ref b4), .val (.long (1000000000 : Int64)), .second, .val (.long (1000000000 : Int64)), .second, .unset, .unset, .unset, .unset] [])) _
    refine XS.lload X7.here hx rfl (hb hby at_182) rfl ?_
    show Steps p.tables e below (T7.setTop (mkF m 184 #[.val (.long ja), .second, .val (.long jb), .second, .val (.long jc), .second, .val (.int k), .val (.int (0 : Int32)), .val (.long xa), .second, .val (.long xb), .second, .val (.long xc), .second, .val (.ref r_1), .val (.ref r_2), .val (.ref r_3), .val (.ref b4), .val (.long (1000000000 : Int64)), .second, .val (.long (1000000000 : Int64)), .second, .unset, .unset, .unset, .unset] [(.long (1000000000 : Int64))])) _
    refine XS.lload X7.here hx rfl (hb hby at_184) rfl ?_
    show Steps p.tables e below (T7.setTop (mkF m 186 #[.val (.long ja), .second, .val (.long jb), .second, .val (.long jc), .second, .val (.int k), .val (.int (0 : Int32)), .val (.long xa), .second, .val (.long xb), .second, .val (.long xc), .second, .val (.ref r_1), .val (.ref r_2), .val (.ref r_3), .val (.ref b4), .val (.long (1000000000 : Int64)), .second, .val (.long (1000000000 : Int64)), .second, .unset, .unset, .unset, .unset] [(.long (1000000000 : Int64)), (.long (1000000000 : Int64))])) _
    refine XS.lcmp X7.here hx rfl (hb hby at_186) rfl ?_
    show Steps p.tables e below (T7.setTop (mkF m 187 #[.val (.long ja), .second, .val (.long jb), .second, .val (.long jc), .second, .val (.int k), .val (.int (0 : Int32)), .val (.long xa), .second, .val (.long xb), .second, .val (.long xc), .second, .val (.ref r_1), .val (.ref r_2), .val (.ref r_3), .val (.ref b4), .val (.long (1000000000 : Int64)), .second, .val (.long (1000000000 : Int64)), .second, .unset, .unset, .unset, .unset] [(.int (lcmpW (1000000000 : Int64) (1000000000 : Int64)))])) _
    refine XS.ifNo X7.here hx rfl (hb hby at_187) rfl ((if0 _ _).trans (teq (((lw_eq _ _).mpr rfl) : (lcmpW (1000000000 : Int64) (1000000000 : Int64)) = (0 : Int32))).2) ?_
    show Steps p.tables e below (T7.setTop (mkF m 190 #[.val (.long ja), .second, .val (.long jb), .second, .val (.long jc), .second, .val (.int k), .val (.int (0 : Int32)), .val (.long xa), .second, .val (.long xb), .second, .val (.long xc), .second, .val (.ref r_1), .val (.ref r_2), .val (.ref r_3), .val (.ref b4), .val (.long (1000000000 : Int64)), .second, .val (.long (1000000000 : Int64)), .second, .unset, .unset, .unset, .unset] [])) _
    refine XS.iconst X7.here hx rfl (hb hby at_190) ?_
    show Steps p.tables e below (T7.setTop (mkF m 191 #[.val (.long ja), .second, .val (.long jb), .second, .val (.long jc), .second, .val (.int k), .val (.int (0 : Int32)), .val (.long xa), .second, .val (.long xb), .second, .val (.long xc), .second, .val (.ref r_1), .val (.ref r_2), .val (.ref r_3), .val (.ref b4), .val (.long (1000000000 : Int64)), .second, .val (.long (1000000000 : Int64)), .second, .unset, .unset, .unset, .unset] [(.int (1 : Int32))])) _
    refine XS.goto X7.here hx rfl (pc0 := 191) (pc' := 195) rfl (hb hby at_191) (by decide) (by decide) ?_
    show Steps p.tables e below (T7.setTop (mkF m 195 #[.val (.long ja), .second, .val (.long jb), .second, .val (.long jc), .second, .val (.int k), .val (.int (0 : Int32)), .val (.long xa), .second, .val (.long xb), .second, .val (.long xc), .second, .val (.ref r_1), .val (.ref r_2), .val (.ref r_3), .val (.ref b4), .val (.long (1000000000 : Int64)), .second, .val (.long (1000000000 : Int64)), .second, .unset, .unset, .unset, .unset] [(.int (1 : Int32))])) _
    exact retN X7 hx (t := .boolean) Bd.returns (by simp) (hb hby at_195) hr
  · show Q_law Z ja jb jc k wz wg h0 n0 _ T7.heap _
    rw [kh7]
    exact ⟨rfl, N7⟩
theorem pd_8 : parseMethodDescriptor "(Ljava/time/Duration;)V" = some ⟨[(.object "java/time/Duration")], none⟩ := by decide +kernel
set_option maxRecDepth 65536 in
set_option maxHeartbeats 40000000 in
theorem law_1a (l : Launch) (Z : State) (a0 : Array Value) (hw : ∀ d ∈ tables_1, d.before a0 Z = true) (ws : List Jvm.Cond) (ja : Int64) (jb : Int64) (jc : Int64) (k : Int32) (wz : Addr) (wg : Addr) (h0 : Heap) (n0 : Nat) (O0 : Old Z n0 h0) (G0 : Sta Z Z.heap "com/example/admitd/admitd/gate/ServiceTime" "LEAST_NANOS" "J" (.long (1000000 : Int64))) (G1 : Sta Z Z.heap "java/time/Duration" "ZERO" "Ljava/time/Duration;" (.ref wz)) (G2 : Exa Z Z.heap wz "java/time/Duration") (G3 : Fld Z Z.heap wz "java/time/Duration" "seconds" "J" (.long (0 : Int64))) (G4 : Fld Z Z.heap wz "java/time/Duration" "nanos" "I" (.int (0 : Int32))) (G5 : Sta Z Z.heap "com/example/admitd/admitd/gate/ServiceTime" "FIRST_GUESS" "Ljava/time/Duration;" (.ref wg)) (G6 : Exa Z Z.heap wg "java/time/Duration") (G7 : Fld Z Z.heap wg "java/time/Duration" "seconds" "J" (.long (1 : Int64))) (G8 : Fld Z Z.heap wg "java/time/Duration" "nanos" "I" (.int (0 : Int32))) (xa : Int64) (xb : Int64) (xc : Int64) (exa : (ja >>> ((2 : Int32) &&& 0x3f).toInt64) = xa) (exb : (jb >>> ((2 : Int32) &&& 0x3f).toInt64) = xb) (exc : (jc >>> ((2 : Int32) &&& 0x3f).toInt64) = xc) (hk : (k &&& (3 : Int32)) = (1 : Int32)) (hc167 : ¬ ((lcmpW ((clampJ xa) / ((1 : Int32).toInt64)) (1000000 : Int64)) < (0 : Int32))) :
    MetFree l x (head1 (Jvm.Cond.code x code maxLocals ret :: ws) room_1) (fun zA zU => zA = #[(.long ja), (.long jb), (.long jc), (.int k)] ∧ Z.Warmed39 zU.vm ∧ zU.heap = h0) (fun _ _ _ _ _ => True) (fun _ zU zo zU' => ∃ zv zL, zo = .returned zv ∧ Q_law Z ja jb jc k wz wg h0 n0 zv zU'.heap zL ∧ FrameEnd zU zo zU' zL room_1.cells room_1.slots) := by
  refine MetFree.of_bodySF (plainFor_of_name pn_4) hisR ?_
  intro p e s m args below meth c s₁ Bd hml0 hP hK
  obtain ⟨rfl, hZ, hh⟩ := hP
  have hx := Bd.exec
  have hby := Bd.bytes
  have hml : c.maxLocals = 26 := hml0
  have hown : s.vm.findClass "com/example/admitd/admitd/gate/ServiceTimeMeanPinLaw" = some m.cls := findClass_of_methodNamed Bd.named
  have hnm := (name_of_methodNamed Bd.named Bd.method).1
  have X0 : Stand p l e room_1 s m #[(.long ja), (.long jb), (.long jc), (.int k)] below meth c s₁ [] 0 0 := Stand.of_body Bd
  have e0 : s₁.heap = h0 := by rw [← hh, Bd.state]; rfl
  have N0 := Fr.nil n0
  have Z0 : n0 ≤ h0.size := O0.1 ▸ O0.2.1
  have pre0 : ∀ zt, Steps p.tables e below (s₁.setTop (mkF m 0 #[.val (.long ja), .second, .val (.long jb), .second, .val (.long jc), .second, .val (.int k), .unset, .unset, .unset, .unset, .unset, .unset, .unset, .unset, .unset, .unset, .unset, .unset, .unset, .unset, .unset, .unset, .unset, .unset, .unset] [])) zt → Steps p.tables e below (s₁.setTop (entryFrame m #[(.long ja), (.long jb), (.long jc), (.int k)] maxLocals)) zt := fun zt zk => castTop (ef_0_JJJI m ja jb jc k) zk
  obtain ⟨_, _, ⟨T1, L1, k1, n1⟩, -, X1, ⟨Lc1, hQ1, l1, y1, z1⟩, st1⟩ := Jvm.LawKit.callS X0 hx (y := (⟨"java/time/Duration", "ofNanos", "(J)Ljava/time/Duration;"⟩ : MethodName)) hown (mvT hZ (hw _ (List.mem_of_getElem? (i := 0) rfl))) (mvT hZ (hw _ (List.mem_of_getElem? (i := 1) rfl))) (mvT hZ (hw _ (List.mem_of_getElem? (i := 2) rfl))) (mvT hZ (hw _ (List.mem_of_getElem? (i := 3) rfl))) (by decide) (backOf (W := 0) (ofN l Z a0 hw [] xa wz h0 n0 O0 G1 G2 G3 G4) hZ (hw _ (List.mem_of_getElem? (i := 3) rfl)) (hw _ (List.mem_of_getElem? (i := 2) rfl)) (by decide) (by decide)) (g := (mkF m 24 #[.val (.long ja), .second, .val (.long jb), .second, .val (.long jc), .second, .val (.int k), .val (.int (1 : Int32)), .val (.long xa), .second, .val (.long xb), .second, .val (.long xc), .second, .unset, .unset, .unset, .unset, .unset, .unset, .unset, .unset, .unset, .unset, .unset, .unset] [(.long xa)])) rfl (by rw [hml]; rfl) (argsL := [(.long xa)]) (rest := []) (lenOf pd_5 rfl) rfl (by show 2 * 0 + _ ≤ _; exact Nat.le_of_eq rfl) (hb hby at_24) (fun _ _ => ⟨rfl, e0, (by decide : 0 + 1 ≤ _), (by decide : 0 + 2 ≤ _)⟩)
  dsimp only [Pt.U, Pt.locs, Pt.cells, Pt.slots] at X1 l1 y1 z1 st1 hQ1
  subst l1 y1 z1
  obtain ⟨r_1, s1_1, n1_1, rfl, Nq1, kh1, Po1_0, Po1_1, Po1_2, pq1_0⟩ := hQ1
  have N1 := Fr.app N0 Nq1
  have O1 := O0.keep kh1 all0
  have K1 : Keep h0 T1.heap [] := (Keep.refl h0 []).trans kh1 all0
  obtain ⟨_, _, ⟨T2, L2, k2, n2⟩, -, X2, ⟨Lc2, hQ2, l2, y2, z2⟩, st2⟩ := Jvm.LawKit.callS X1 hx (y := (⟨"java/time/Duration", "ofNanos", "(J)Ljava/time/Duration;"⟩ : MethodName)) hown (mvT hZ (hw _ (List.mem_of_getElem? (i := 0) rfl))) (mvT hZ (hw _ (List.mem_of_getElem? (i := 1) rfl))) (mvT hZ (hw _ (List.mem_of_getElem? (i := 2) rfl))) (mvT hZ (hw _ (List.mem_of_getElem? (i := 3) rfl))) (by decide) (backOf (W := 0) (ofN l Z a0 hw [] xb wz T1.heap n0 O1 G1 G2 G3 G4) hZ (hw _ (List.mem_of_getElem? (i := 3) rfl)) (hw _ (List.mem_of_getElem? (i := 2) rfl)) (by decide) (by decide)) (g := (mkF m 31 #[.val (.long ja), .second, .val (.long jb), .second, .val (.long jc), .second, .val (.int k), .val (.int (1 : Int32)), .val (.long xa), .second, .val (.long xb), .second, .val (.long xc), .second, .val (.ref r_1), .unset, .unset, .unset, .unset, .unset, .unset, .unset, .unset, .unset, .unset, .unset] [(.long xb)])) rfl (by rw [hml]; rfl) (argsL := [(.long xb)]) (rest := []) (lenOf pd_5 rfl) rfl (by show 2 * 0 + _ ≤ _; exact Nat.le_of_eq rfl) (hb hby at_31) (fun _ _ => ⟨rfl, rfl, (by decide : 1 + 1 ≤ _), (by decide : 2 + 2 ≤ _)⟩)
  dsimp only [Pt.U, Pt.locs, Pt.cells, Pt.slots] at X2 l2 y2 z2 st2 hQ2
  subst l2 y2 z2
  obtain ⟨r_2, s1_2, n1_2, rfl, Nq2, kh2, Po2_0, Po2_1, Po2_2, pq2_0⟩ := hQ2
  have N2 := Fr.app N1 Nq2
  have O2 := O1.keep kh2 all0
  have K2 : Keep h0 T2.heap [] := K1.trans kh2 all0
  obtain ⟨_, _, ⟨T3, L3, k3, n3⟩, -, X3, ⟨Lc3, hQ3, l3, y3, z3⟩, st3⟩ := Jvm.LawKit.callS X2 hx (y := (⟨"java/time/Duration", "ofNanos", "(J)Ljava/time/Duration;"⟩ : MethodName)) hown (mvT hZ (hw _ (List.mem_of_getElem? (i := 0) rfl))) (mvT hZ (hw _ (List.mem_of_getElem? (i := 1) rfl))) (mvT hZ (hw _ (List.mem_of_getElem? (i := 2) rfl))) (mvT hZ (hw _ (List.mem_of_getElem? (i := 3) rfl))) (by decide) (backOf (W := 0) (ofN l Z a0 hw [] xc wz T2.heap n0 O2 G1 G2 G3 G4) hZ (hw _ (List.mem_of_getElem? (i := 3) rfl)) (hw _ (List.mem_of_getElem? (i := 2) rfl)) (by decide) (by decide)) (g := (mkF m 38 #[.val (.long ja), .second, .val (.long jb), .second, .val (.long jc), .second, .val (.int k), .val (.int (1 : Int32)), .val (.long xa), .second, .val (.long xb), .second, .val (.long xc), .second, .val (.ref r_1), .val (.ref r_2), .unset, .unset, .unset, .unset, .unset, .unset, .unset, .unset, .unset, .unset] [(.long xc)])) rfl (by rw [hml]; rfl) (argsL := [(.long xc)]) (rest := []) (lenOf pd_5 rfl) rfl (by show 2 * 0 + _ ≤ _; exact Nat.le_of_eq rfl) (hb hby at_38) (fun _ _ => ⟨rfl, rfl, (by decide : 2 + 1 ≤ _), (by decide : 4 + 2 ≤ _)⟩)
  dsimp only [Pt.U, Pt.locs, Pt.cells, Pt.slots] at X3 l3 y3 z3 st3 hQ3
  subst l3 y3 z3
  obtain ⟨r_3, s1_3, n1_3, rfl, Nq3, kh3, Po3_0, Po3_1, Po3_2, pq3_0⟩ := hQ3
  have N3 := Fr.app N2 Nq3
  have O3 := O2.keep kh3 all0
  have K3 : Keep h0 T3.heap [] := K2.trans kh3 all0
  obtain ⟨T4, h4, X4, e4, E4, A4, D4, U4, st4⟩ := newO X3 hx hZ hown (hw _ (List.mem_of_getElem? (i := 23) rfl)) (hw _ (List.mem_of_getElem? (i := 24) rfl)) (hw _ (List.mem_of_getElem? (i := 25) rfl)) rfl (g := (mkF m 43 #[.val (.long ja), .second, .val (.long jb), .second, .val (.long jc), .second, .val (.int k), .val (.int (1 : Int32)), .val (.long xa), .second, .val (.long xb), .second, .val (.long xc), .second, .val (.ref r_1), .val (.ref r_2), .val (.ref r_3), .unset, .unset, .unset, .unset, .unset, .unset, .unset, .unset, .unset] [])) rfl (hb hby at_43) (by decide) (by decide)
  obtain ⟨b4, gz4⟩ : ∃ z, z = T3.heap.size := ⟨_, rfl⟩
  rw [← gz4] at A4 D4 U4 st4
  have sz_b4 : h0.size ≤ b4 := Nat.le_trans K3.1 (Nat.le_of_eq gz4.symm)
  have g_b4 : n0 ≤ b4 := Nat.le_trans Z0 sz_b4
  have O4 := O3.ext E4
  have K4 : Keep h0 h4 [] := K3.ext E4
  have Fi4_32 : Fld Z h4 b4 "com/example/admitd/admitd/gate/ServiceTime" "latest" "[J" .null := D4 (Or.inr (hw _ (List.mem_of_getElem? (i := 32) rfl))) (ty := (.array .long)) (by decide)
  have Fi4_57 : Fld Z h4 b4 "com/example/admitd/admitd/gate/ServiceTime" "count" "I" (.int (0 : Int32)) := D4 (Or.inl (hw _ (List.mem_of_getElem? (i := 57) rfl))) (ty := .int) (by decide)
  have Fi4_59 : Fld Z h4 b4 "com/example/admitd/admitd/gate/ServiceTime" "next" "I" (.int (0 : Int32)) := D4 (Or.inl (hw _ (List.mem_of_getElem? (i := 59) rfl))) (ty := .int) (by decide)
  have Fi4_61 : Fld Z h4 b4 "com/example/admitd/admitd/gate/ServiceTime" "sum" "J" (.long (0 : Int64)) := D4 (Or.inl (hw _ (List.mem_of_getElem? (i := 61) rfl))) (ty := .long) (by decide)
  obtain ⟨_, _, ⟨T5, L5, k5, n5⟩, -, X5, ⟨Lc5, hQ5, l5, y5, z5⟩, st5⟩ := X4.specialBack hx (y := (⟨"com/example/admitd/admitd/gate/ServiceTime", "<init>", "()V"⟩ : MethodName)) rfl hown (mvT hZ (hw _ (List.mem_of_getElem? (i := 26) rfl))) (mvT hZ (hw _ (List.mem_of_getElem? (i := 27) rfl))) (mvT hZ (hw _ (List.mem_of_getElem? (i := 28) rfl))) (by decide) (backOf (W := 1) (svI l Z a0 hw [] b4 h4 n0 O4 A4 Fi4_32 Fi4_57 Fi4_59 Fi4_61 g_b4) hZ (hw _ (List.mem_of_getElem? (i := 28) rfl)) (hw _ (List.mem_of_getElem? (i := 25) rfl)) (by decide) (by decide)) (g := (mkF m 47 #[.val (.long ja), .second, .val (.long jb), .second, .val (.long jc), .second, .val (.int k), .val (.int (1 : Int32)), .val (.long xa), .second, .val (.long xb), .second, .val (.long xc), .second, .val (.ref r_1), .val (.ref r_2), .val (.ref r_3), .unset, .unset, .unset, .unset, .unset, .unset, .unset, .unset, .unset] [(.ref b4), (.ref b4)])) rfl (by rw [hml]; rfl) (Steps.refl _) (a := b4) (argsL := []) (rest := [(.ref b4)]) (lenOf pd_6 rfl) rfl (by show 2 * 0 + _ ≤ _; exact Nat.le_of_eq rfl) (hb hby at_47) (fun _ _ => ⟨rfl, e4, (by decide : 4 + 1 ≤ _), (by decide : 10 + 32 ≤ _)⟩)
  dsimp only [Pt.U, Pt.locs, Pt.cells, Pt.slots] at X5 l5 y5 z5 st5 hQ5
  subst l5 y5 z5
  obtain ⟨la_5, rfl, Nq5, kh5, fz_la_5, Po5_0, Po5_1, Po5_2, Po5_3, Po5_4, Po5_5⟩ := hQ5
  have N5 := Fr.app N3 Nq5
  have sz_la_5 : h0.size ≤ la_5 := Nat.le_trans K4.1 fz_la_5
  have g_la_5 : n0 ≤ la_5 := Nat.le_trans Z0 sz_la_5
  have O5 := O4.keep kh5 (allS g_b4 all0)
  have K5 : Keep h0 T5.heap [] := K4.trans kh5 (allS (Or.inr sz_b4) all0)
  have c6 : Fld Z T5.heap r_1 "java/time/Duration" "seconds" "J" (.long s1_1) := ((((Po1_1.keep kh2 nin0).keep kh3 nin0).ext E4).keep kh5 (ninS (Nat.ne_of_lt (Nat.lt_of_lt_of_le (((Po1_0.keep kh2).keep kh3)).lt (Nat.le_of_eq gz4.symm))) nin0))
  have c7 : Fld Z T5.heap r_1 "java/time/Duration" "nanos" "I" (.int n1_1) := ((((Po1_2.keep kh2 nin0).keep kh3 nin0).ext E4).keep kh5 (ninS (Nat.ne_of_lt (Nat.lt_of_lt_of_le (((Po1_0.keep kh2).keep kh3)).lt (Nat.le_of_eq gz4.symm))) nin0))
  obtain ⟨cq8, kq8, q8a, q8b, q8c⟩ := isOf hZ rfl Po5_0
  obtain ⟨_, _, ⟨T8, L8, k8, n8⟩, -, X8, ⟨Lc8, hQ8, l8, y8, z8⟩, st8⟩ := X5.virtualBack hx (y := (⟨"com/example/admitd/admitd/gate/ServiceTime", "record", "(Ljava/time/Duration;)V"⟩ : MethodName)) (z := (⟨"com/example/admitd/admitd/gate/ServiceTime", "record", "(Ljava/time/Duration;)V"⟩ : MethodName)) hown (mvT hZ (hw _ (List.mem_of_getElem? (i := 33) rfl))) (mvT hZ (hw _ (List.mem_of_getElem? (i := 34) rfl))) (notFace_of_selects (args := #[]) (mvT hZ (hw _ (List.mem_of_getElem? (i := 36) rfl)))) (mvT hZ (hw _ (List.mem_of_getElem? (i := 36) rfl))) (mvT hZ (hw _ (List.mem_of_getElem? (i := 35) rfl))) (by decide) (backOf (W := 0) (rec0 l Z a0 hw [] b4 r_1 la_5 (0 : Int64) s1_1 n1_1 xa T5.heap n0 O5 Po5_0 Po5_1 Po5_2 Po5_3 Po5_4 ((((Po1_0.keep kh2).keep kh3).ext E4).keep kh5) c6 c7 Po5_5 g_b4 g_la_5 (Nat.ne_of_lt (Nat.lt_of_lt_of_le (A4).lt fz_la_5)) pq1_0) hZ (hw _ (List.mem_of_getElem? (i := 37) rfl)) (hw _ (List.mem_of_getElem? (i := 25) rfl)) (by decide) (by decide)) q8a q8c (g := (mkF m 62 #[.val (.long ja), .second, .val (.long jb), .second, .val (.long jc), .second, .val (.int k), .val (.int (1 : Int32)), .val (.long xa), .second, .val (.long xb), .second, .val (.long xc), .second, .val (.ref r_1), .val (.ref r_2), .val (.ref r_3), .val (.ref b4), .unset, .unset, .unset, .unset, .unset, .unset, .unset, .unset] [(.ref r_1), (.ref b4)])) rfl (by rw [hml]; rfl) (Steps.refl _) (argsL := [(.ref r_1)]) (rest := []) (lenOf pd_8 rfl) rfl (by show 2 * 0 + _ ≤ _; exact Nat.le_of_eq rfl) (hb hby at_62) (fun _ _ => ⟨rfl, rfl, (by decide : 5 + 0 ≤ _), (by decide : 42 + 0 ≤ _)⟩)
  dsimp only [Pt.U, Pt.locs, Pt.cells, Pt.slots] at X8 l8 y8 z8 st8 hQ8
  subst l8 y8 z8
  obtain ⟨rfl, Nq8, kh8, Po8_0, Po8_1, Po8_2, Po8_3, Po8_4, Po8_5⟩ := hQ8
  have N8 := Fr.app N5 Nq8
  have O8 := O5.keep kh8 (allS g_b4 (allS g_la_5 all0))
  have K8 : Keep h0 T8.heap [] := K5.trans kh8 (allS (Or.inr sz_b4) (allS (Or.inr sz_la_5) all0))
  obtain ⟨cq9, kq9, q9a, q9b, q9c⟩ := isOf hZ rfl Po8_0
  obtain ⟨_, _, ⟨T9, L9, k9, n9⟩, -, X9, ⟨Lc9, hQ9, l9, y9, z9⟩, st9⟩ := X8.virtualBack hx (y := (⟨"com/example/admitd/admitd/gate/ServiceTime", "mean", "()Ljava/time/Duration;"⟩ : MethodName)) (z := (⟨"com/example/admitd/admitd/gate/ServiceTime", "mean", "()Ljava/time/Duration;"⟩ : MethodName)) hown (mvT hZ (hw _ (List.mem_of_getElem? (i := 62) rfl))) (mvT hZ (hw _ (List.mem_of_getElem? (i := 63) rfl))) (notFace_of_selects (args := #[]) (mvT hZ (hw _ (List.mem_of_getElem? (i := 65) rfl)))) (mvT hZ (hw _ (List.mem_of_getElem? (i := 65) rfl))) (mvT hZ (hw _ (List.mem_of_getElem? (i := 64) rfl))) (by decide) (backOf (W := 0) (mean1 l Z a0 hw [] b4 (1 : Int32) ((0 : Int64) + (maxJ (0 : Int64) xa)) wz T8.heap n0 O8 G0 G1 G2 G3 G4 Po8_2 Po8_4 (by decide) (by decide)) hZ (hw _ (List.mem_of_getElem? (i := 66) rfl)) (hw _ (List.mem_of_getElem? (i := 25) rfl)) (by decide) (by decide)) q9a q9c (g := (mkF m 93 #[.val (.long ja), .second, .val (.long jb), .second, .val (.long jc), .second, .val (.int k), .val (.int (1 : Int32)), .val (.long xa), .second, .val (.long xb), .second, .val (.long xc), .second, .val (.ref r_1), .val (.ref r_2), .val (.ref r_3), .val (.ref b4), .unset, .unset, .unset, .unset, .unset, .unset, .unset, .unset] [(.ref b4)])) rfl (by rw [hml]; rfl) (Steps.refl _) (argsL := []) (rest := []) (lenOf pd_7 rfl) rfl (by show 2 * 0 + _ ≤ _; exact Nat.le_of_eq rfl) (hb hby at_93) (fun _ _ => ⟨rfl, rfl, (by decide : 5 + 1 ≤ _), (by decide : 42 + 2 ≤ _)⟩)
  dsimp only [Pt.U, Pt.locs, Pt.cells, Pt.slots] at X9 l9 y9 z9 st9 hQ9
  subst l9 y9 z9
  obtain ⟨r_9, s1_9, n1_9, rfl, Nq9, kh9, Po9_0, Po9_1, Po9_2, pq9_0⟩ := hQ9
  have N9 := Fr.app N8 Nq9
  have O9 := O8.keep kh9 all0
  have K9 : Keep h0 T9.heap [] := K8.trans kh9 all0
  obtain ⟨cq10, kq10, q10a, q10b, q10c⟩ := isOf hZ rfl Po9_0
  obtain ⟨_, _, ⟨T10, L10, k10, n10⟩, -, X10, ⟨Lc10, hQ10, l10, y10, z10⟩, st10⟩ := X9.virtualBack hx (y := (⟨"java/time/Duration", "toNanos", "()J"⟩ : MethodName)) (z := (⟨"java/time/Duration", "toNanos", "()J"⟩ : MethodName)) hown (mvT hZ (hw _ (List.mem_of_getElem? (i := 70) rfl))) (mvT hZ (hw _ (List.mem_of_getElem? (i := 39) rfl))) (notFace_of_selects (args := #[]) (mvT hZ (hw _ (List.mem_of_getElem? (i := 41) rfl)))) (mvT hZ (hw _ (List.mem_of_getElem? (i := 41) rfl))) (mvT hZ (hw _ (List.mem_of_getElem? (i := 40) rfl))) (by decide) (backOf (W := 0) (toN l Z a0 hw [] r_9 s1_9 n1_9 (maxJ (1000000 : Int64) (((0 : Int64) + (maxJ (0 : Int64) xa)) / ((1 : Int32).toInt64))) T9.heap n0 O9 Po9_1 Po9_2 pq9_0) hZ (hw _ (List.mem_of_getElem? (i := 42) rfl)) (hw _ (List.mem_of_getElem? (i := 2) rfl)) (by decide) (by decide)) q10a q10c (g := (mkF m 96 #[.val (.long ja), .second, .val (.long jb), .second, .val (.long jc), .second, .val (.int k), .val (.int (1 : Int32)), .val (.long xa), .second, .val (.long xb), .second, .val (.long xc), .second, .val (.ref r_1), .val (.ref r_2), .val (.ref r_3), .val (.ref b4), .unset, .unset, .unset, .unset, .unset, .unset, .unset, .unset] [(.ref r_9)])) rfl (by rw [hml]; rfl) (Steps.refl _) (argsL := []) (rest := []) (lenOf pd_4 rfl) rfl (by show 2 * 0 + _ ≤ _; exact Nat.le_of_eq rfl) (hb hby at_96) (fun _ _ => ⟨rfl, rfl, (by decide : 6 + 0 ≤ _), (by decide : 44 + 0 ≤ _)⟩)
  dsimp only [Pt.U, Pt.locs, Pt.cells, Pt.slots] at X10 l10 y10 z10 st10 hQ10
  subst l10 y10 z10
  obtain ⟨rfl, Nq10, kh10⟩ := hQ10
  have N10 := Fr.app N9 Nq10
  obtain ⟨_, _, ⟨T11, L11, k11, n11⟩, -, X11, ⟨Lc11, hQ11, l11, y11, z11⟩, st11⟩ := Jvm.LawKit.callS X10 hx (y := (⟨"com/example/admitd/admitd/gate/ServiceTimeMeanPinLaw", "clamp", "(J)J"⟩ : MethodName)) hown (mvT hZ (hw _ (List.mem_of_getElem? (i := 71) rfl))) (mvT hZ (hw _ (List.mem_of_getElem? (i := 72) rfl))) (mvT hZ (hw _ (List.mem_of_getElem? (i := 73) rfl))) (mvT hZ (hw _ (List.mem_of_getElem? (i := 74) rfl))) (by decide) (backOf (W := 0) (clampR l Z a0 hw [] xa T9.heap n0 O9 ) hZ (hw _ (List.mem_of_getElem? (i := 74) rfl)) (hw _ (List.mem_of_getElem? (i := 73) rfl)) (by decide) (by decide)) (g := (mkF m 116 #[.val (.long ja), .second, .val (.long jb), .second, .val (.long jc), .second, .val (.int k), .val (.int (1 : Int32)), .val (.long xa), .second, .val (.long xb), .second, .val (.long xc), .second, .val (.ref r_1), .val (.ref r_2), .val (.ref r_3), .val (.ref b4), .val (.long (maxJ (1000000 : Int64) (((0 : Int64) + (maxJ (0 : Int64) xa)) / ((1 : Int32).toInt64)))), .second, .unset, .unset, .unset, .unset, .unset, .unset] [(.long xa)])) rfl (by rw [hml]; rfl) (argsL := [(.long xa)]) (rest := []) (lenOf pd_0 rfl) rfl (by show 2 * 0 + _ ≤ _; exact Nat.le_of_eq rfl) (hb hby at_116) (fun _ _ => ⟨rfl, kh10, (by decide : 6 + 0 ≤ _), (by decide : 44 + 0 ≤ _)⟩)
  dsimp only [Pt.U, Pt.locs, Pt.cells, Pt.slots] at X11 l11 y11 z11 st11 hQ11
  subst l11 y11 z11
  obtain ⟨rfl, Nq11, kh11⟩ := hQ11
  have N11 := Fr.app N10 Nq11
  obtain ⟨fs, hr, hrun, hended, hW, hsame⟩ := X11.leave (v := some (.int (1 : Int32))) (fun h => by rw [Bd.returns] at h; cases h)
  refine ⟨_, _, pre0 _ ?_, hrun, hended, _, _, rfl, ?_, ⟨_, rfl⟩, hW, hsame.mono (by decide) (by decide)⟩
  · show Steps p.tables e below (s₁.setTop (mkF m 0 #[.val (.long ja), .second, .val (.long jb), .second, .val (.long jc), .second, .val (.int k), .unset, .unset, .unset, .unset, .unset, .unset, .unset, .unset, .unset, .unset, .unset, .unset, .unset, .unset, .unset, .unset, .unset, .unset, .unset] [])) _
    refine XS.iload X0.here hx rfl (hb hby at_0) rfl ?_
    show Steps p.tables e below (s₁.setTop (mkF m 2 #[.val (.long ja), .second, .val (.long jb), .second, .val (.long jc), .second, .val (.int k), .unset, .unset, .unset, .unset, .unset, .unset, .unset, .unset, .unset, .unset, .unset, .unset, .unset, .unset, .unset, .unset, .unset, .unset, .unset] [(.int k)])) _
    refine XS.iconst X0.here hx rfl (hb hby at_2) ?_
    show Steps p.tables e below (s₁.setTop (mkF m 3 #[.val (.long ja), .second, .val (.long jb), .second, .val (.long jc), .second, .val (.int k), .unset, .unset, .unset, .unset, .unset, .unset, .unset, .unset, .unset, .unset, .unset, .unset, .unset, .unset, .unset, .unset, .unset, .unset, .unset] [(.int (3 : Int32)), (.int k)])) _
    refine XS.iand X0.here hx rfl (hb hby at_3) rfl ?_
    show Steps p.tables e below (s₁.setTop (mkF m 4 #[.val (.long ja), .second, .val (.long jb), .second, .val (.long jc), .second, .val (.int k), .unset, .unset, .unset, .unset, .unset, .unset, .unset, .unset, .unset, .unset, .unset, .unset, .unset, .unset, .unset, .unset, .unset, .unset, .unset] [(.int (k &&& (3 : Int32)))])) _
    refine castTop (congrArg (fun z_ => (mkF m 4 #[.val (.long ja), .second, .val (.long jb), .second, .val (.long jc), .second, .val (.int k), .unset, .unset, .unset, .unset, .unset, .unset, .unset, .unset, .unset, .unset, .unset, .unset, .unset, .unset, .unset, .unset, .unset, .unset, .unset] [(.int z_)])) (hk : (k &&& (3 : Int32)) = (1 : Int32))) ?_
    show Steps p.tables e below (s₁.setTop (mkF m 4 #[.val (.long ja), .second, .val (.long jb), .second, .val (.long jc), .second, .val (.int k), .unset, .unset, .unset, .unset, .unset, .unset, .unset, .unset, .unset, .unset, .unset, .unset, .unset, .unset, .unset, .unset, .unset, .unset, .unset] [(.int (1 : Int32))])) _
    refine XS.istore X0.here hx rfl (hb hby at_4) rfl (l' := #[.val (.long ja), .second, .val (.long jb), .second, .val (.long jc), .second, .val (.int k), .val (.int (1 : Int32)), .unset, .unset, .unset, .unset, .unset, .unset, .unset, .unset, .unset, .unset, .unset, .unset, .unset, .unset, .unset, .unset, .unset, .unset]) rfl ?_
    show Steps p.tables e below (s₁.setTop (mkF m 6 #[.val (.long ja), .second, .val (.long jb), .second, .val (.long jc), .second, .val (.int k), .val (.int (1 : Int32)), .unset, .unset, .unset, .unset, .unset, .unset, .unset, .unset, .unset, .unset, .unset, .unset, .unset, .unset, .unset, .unset, .unset, .unset] [])) _
    refine XS.lloadN X0.here hx rfl (hb hby at_6) rfl ?_
    show Steps p.tables e below (s₁.setTop (mkF m 7 #[.val (.long ja), .second, .val (.long jb), .second, .val (.long jc), .second, .val (.int k), .val (.int (1 : Int32)), .unset, .unset, .unset, .unset, .unset, .unset, .unset, .unset, .unset, .unset, .unset, .unset, .unset, .unset, .unset, .unset, .unset, .unset] [(.long ja)])) _
    refine XS.iconst X0.here hx rfl (hb hby at_7) ?_
    show Steps p.tables e below (s₁.setTop (mkF m 8 #[.val (.long ja), .second, .val (.long jb), .second, .val (.long jc), .second, .val (.int k), .val (.int (1 : Int32)), .unset, .unset, .unset, .unset, .unset, .unset, .unset, .unset, .unset, .unset, .unset, .unset, .unset, .unset, .unset, .unset, .unset, .unset] [(.int (2 : Int32)), (.long ja)])) _
    refine XS.lshr X0.here hx rfl (hb hby at_8) rfl ?_
    show Steps p.tables e below (s₁.setTop (mkF m 9 #[.val (.long ja), .second, .val (.long jb), .second, .val (.long jc), .second, .val (.int k), .val (.int (1 : Int32)), .unset, .unset, .unset, .unset, .unset, .unset, .unset, .unset, .unset, .unset, .unset, .unset, .unset, .unset, .unset, .unset, .unset, .unset] [(.long (ja >>> ((2 : Int32) &&& 0x3f).toInt64))])) _
    refine castTop (congrArg (fun z_ => (mkF m 9 #[.val (.long ja), .second, .val (.long jb), .second, .val (.long jc), .second, .val (.int k), .val (.int (1 : Int32)), .unset, .unset, .unset, .unset, .unset, .unset, .unset, .unset, .unset, .unset, .unset, .unset, .unset, .unset, .unset, .unset, .unset, .unset] [(.long z_)])) (exa : (ja >>> ((2 : Int32) &&& 0x3f).toInt64) = xa)) ?_
    show Steps p.tables e below (s₁.setTop (mkF m 9 #[.val (.long ja), .second, .val (.long jb), .second, .val (.long jc), .second, .val (.int k), .val (.int (1 : Int32)), .unset, .unset, .unset, .unset, .unset, .unset, .unset, .unset, .unset, .unset, .unset, .unset, .unset, .unset, .unset, .unset, .unset, .unset] [(.long xa)])) _
    refine XS.lstore X0.here hx rfl (hb hby at_9) rfl (l' := #[.val (.long ja), .second, .val (.long jb), .second, .val (.long jc), .second, .val (.int k), .val (.int (1 : Int32)), .val (.long xa), .second, .unset, .unset, .unset, .unset, .unset, .unset, .unset, .unset, .unset, .unset, .unset, .unset, .unset, .unset, .unset, .unset]) rfl ?_
    show Steps p.tables e below (s₁.setTop (mkF m 11 #[.val (.long ja), .second, .val (.long jb), .second, .val (.long jc), .second, .val (.int k), .val (.int (1 : Int32)), .val (.long xa), .second, .unset, .unset, .unset, .unset, .unset, .unset, .unset, .unset, .unset, .unset, .unset, .unset, .unset, .unset, .unset, .unset] [])) _
    refine XS.lloadN X0.here hx rfl (hb hby at_11) rfl ?_
    show Steps p.tables e below (s₁.setTop (mkF m 12 #[.val (.long ja), .second, .val (.long jb), .second, .val (.long jc), .second, .val (.int k), .val (.int (1 : Int32)), .val (.long xa), .second, .unset, .unset, .unset, .unset, .unset, .unset, .unset, .unset, .unset, .unset, .unset, .unset, .unset, .unset, .unset, .unset] [(.long jb)])) _
    refine XS.iconst X0.here hx rfl (hb hby at_12) ?_
    show Steps p.tables e below (s₁.setTop (mkF m 13 #[.val (.long ja), .second, .val (.long jb), .second, .val (.long jc), .second, .val (.int k), .val (.int (1 : Int32)), .val (.long xa), .second, .unset, .unset, .unset, .unset, .unset, .unset, .unset, .unset, .unset, .unset, .unset, .unset, .unset, .unset, .unset, .unset] [(.int (2 : Int32)), (.long jb)])) _
    refine XS.lshr X0.here hx rfl (hb hby at_13) rfl ?_
    show Steps p.tables e below (s₁.setTop (mkF m 14 #[.val (.long ja), .second, .val (.long jb), .second, .val (.long jc), .second, .val (.int k), .val (.int (1 : Int32)), .val (.long xa), .second, .unset, .unset, .unset, .unset, .unset, .unset, .unset, .unset, .unset, .unset, .unset, .unset, .unset, .unset, .unset, .unset] [(.long (jb >>> ((2 : Int32) &&& 0x3f).toInt64))])) _
    refine castTop (congrArg (fun z_ => (mkF m 14 #[.val (.long ja), .second, .val (.long jb), .second, .val (.long jc), .second, .val (.int k), .val (.int (1 : Int32)), .val (.long xa), .second, .unset, .unset, .unset, .unset, .unset, .unset, .unset, .unset, .unset, .unset, .unset, .unset, .unset, .unset, .unset, .unset] [(.long z_)])) (exb : (jb >>> ((2 : Int32) &&& 0x3f).toInt64) = xb)) ?_
    show Steps p.tables e below (s₁.setTop (mkF m 14 #[.val (.long ja), .second, .val (.long jb), .second, .val (.long jc), .second, .val (.int k), .val (.int (1 : Int32)), .val (.long xa), .second, .unset, .unset, .unset, .unset, .unset, .unset, .unset, .unset, .unset, .unset, .unset, .unset, .unset, .unset, .unset, .unset] [(.long xb)])) _
    refine XS.lstore X0.here hx rfl (hb hby at_14) rfl (l' := #[.val (.long ja), .second, .val (.long jb), .second, .val (.long jc), .second, .val (.int k), .val (.int (1 : Int32)), .val (.long xa), .second, .val (.long xb), .second, .unset, .unset, .unset, .unset, .unset, .unset, .unset, .unset, .unset, .unset, .unset, .unset, .unset, .unset]) rfl ?_
    show Steps p.tables e below (s₁.setTop (mkF m 16 #[.val (.long ja), .second, .val (.long jb), .second, .val (.long jc), .second, .val (.int k), .val (.int (1 : Int32)), .val (.long xa), .second, .val (.long xb), .second, .unset, .unset, .unset, .unset, .unset, .unset, .unset, .unset, .unset, .unset, .unset, .unset, .unset, .unset] [])) _
    refine XS.lload X0.here hx rfl (hb hby at_16) rfl ?_
    show Steps p.tables e below (s₁.setTop (mkF m 18 #[.val (.long ja), .second, .val (.long jb), .second, .val (.long jc), .second, .val (.int k), .val (.int (1 : Int32)), .val (.long xa), .second, .val (.long xb), .second, .unset, .unset, .unset, .unset, .unset, .unset, .unset, .unset, .unset, .unset, .unset, .unset, .unset, .unset] [(.long jc)])) _
    refine XS.iconst X0.here hx rfl (hb hby at_18) ?_
    show Steps p.tables e below (s₁.setTop (mkF m 19 #[.val (.long ja), .second, .val (.long jb), .second, .val (.long jc), .second, .val (.int k), .val (.int (1 : Int32)), .val (.long xa), .second, .val (.long xb), .second, .unset, .unset, .unset, .unset, .unset, .unset, .unset, .unset, .unset, .unset, .unset, .unset, .unset, .unset] [(.int (2 : Int32)), (.long jc)])) _
    refine XS.lshr X0.here hx rfl (hb hby at_19) rfl ?_
    show Steps p.tables e below (s₁.setTop (mkF m 20 #[.val (.long ja), .second, .val (.long jb), .second, .val (.long jc), .second, .val (.int k), .val (.int (1 : Int32)), .val (.long xa), .second, .val (.long xb), .second, .unset, .unset, .unset, .unset, .unset, .unset, .unset, .unset, .unset, .unset, .unset, .unset, .unset, .unset] [(.long (jc >>> ((2 : Int32) &&& 0x3f).toInt64))])) _
    refine castTop (congrArg (fun z_ => (mkF m 20 #[.val (.long ja), .second, .val (.long jb), .second, .val (.long jc), .second, .val (.int k), .val (.int (1 : Int32)), .val (.long xa), .second, .val (.long xb), .second, .unset, .unset, .unset, .unset, .unset, .unset, .unset, .unset, .unset, .unset, .unset, .unset, .unset, .unset] [(.long z_)])) (exc : (jc >>> ((2 : Int32) &&& 0x3f).toInt64) = xc)) ?_
    show Steps p.tables e below (s₁.setTop (mkF m 20 #[.val (.long ja), .second, .val (.long jb), .second, .val (.long jc), .second, .val (.int k), .val (.int (1 : Int32)), .val (.long xa), .second, .val (.long xb), .second, .unset, .unset, .unset, .unset, .unset, .unset, .unset, .unset, .unset, .unset, .unset, .unset, .unset, .unset] [(.long xc)])) _
    refine XS.lstore X0.here hx rfl (hb hby at_20) rfl (l' := #[.val (.long ja), .second, .val (.long jb), .second, .val (.long jc), .second, .val (.int k), .val (.int (1 : Int32)), .val (.long xa), .second, .val (.long xb), .second, .val (.long xc), .second, .unset, .unset, .unset, .unset, .unset, .unset, .unset, .unset, .unset, .unset, .unset, .unset]) rfl ?_
    show Steps p.tables e below (s₁.setTop (mkF m 22 #[.val (.long ja), .second, .val (.long jb), .second, .val (.long jc), .second, .val (.int k), .val (.int (1 : Int32)), .val (.long xa), .second, .val (.long xb), .second, .val (.long xc), .second, .unset, .unset, .unset, .unset, .unset, .unset, .unset, .unset, .unset, .unset, .unset, .unset] [])) _
    refine XS.lload X0.here hx rfl (hb hby at_22) rfl ?_
    show Steps p.tables e below (s₁.setTop (mkF m 24 #[.val (.long ja), .second, .val (.long jb), .second, .val (.long jc), .second, .val (.int k), .val (.int (1 : Int32)), .val (.long xa), .second, .val (.long xb), .second, .val (.long xc), .second, .unset, .unset, .unset, .unset, .unset, .unset, .unset, .unset, .unset, .unset, .unset, .unset] [(.long xa)])) _
    refine st1 _ ?_
    show Steps p.tables e below (T1.setTop (mkF m 27 #[.val (.long ja), .second, .val (.long jb), .second, .val (.long jc), .second, .val (.int k), .val (.int (1 : Int32)), .val (.long xa), .second, .val (.long xb), .second, .val (.long xc), .second, .unset, .unset, .unset, .unset, .unset, .unset, .unset, .unset, .unset, .unset, .unset, .unset] [(.ref r_1)])) _
    refine XS.astore X1.here hx rfl (hb hby at_27) rfl rfl (l' := #[.val (.long ja), .second, .val (.long jb), .second, .val (.long jc), .second, .val (.int k), .val (.int (1 : Int32)), .val (.long xa), .second, .val (.long xb), .second, .val (.long xc), .second, .val (.ref r_1), .unset, .unset, .unset, .unset, .unset, .unset, .unset, .unset, .unset, .unset, .unset]) rfl ?_
    show Steps p.tables e below (T1.setTop (mkF m 29 #[.val (.long ja), .second, .val (.long jb), .second, .val (.long jc), .second, .val (.int k), .val (.int (1 : Int32)), .val (.long xa), .second, .val (.long xb), .second, .val (.long xc), .second, .val (.ref r_1), .unset, .unset, .unset, .unset, .unset, .unset, .unset, .unset, .unset, .unset, .unset] [])) _
    refine XS.lload X1.here hx rfl (hb hby at_29) rfl ?_
    show Steps p.tables e below (T1.setTop (mkF m 31 #[.val (.long ja), .second, .val (.long jb), .second, .val (.long jc), .second, .val (.int k), .val (.int (1 : Int32)), .val (.long xa), .second, .val (.long xb), .second, .val (.long xc), .second, .val (.ref r_1), .unset, .unset, .unset, .unset, .unset, .unset, .unset, .unset, .unset, .unset, .unset] [(.long xb)])) _
    refine st2 _ ?_
    show Steps p.tables e below (T2.setTop (mkF m 34 #[.val (.long ja), .second, .val (.long jb), .second, .val (.long jc), .second, .val (.int k), .val (.int (1 : Int32)), .val (.long xa), .second, .val (.long xb), .second, .val (.long xc), .second, .val (.ref r_1), .unset, .unset, .unset, .unset, .unset, .unset, .unset, .unset, .unset, .unset, .unset] [(.ref r_2)])) _
    refine XS.astore X2.here hx rfl (hb hby at_34) rfl rfl (l' := #[.val (.long ja), .second, .val (.long jb), .second, .val (.long jc), .second, .val (.int k), .val (.int (1 : Int32)), .val (.long xa), .second, .val (.long xb), .second, .val (.long xc), .second, .val (.ref r_1), .val (.ref r_2), .unset, .unset, .unset, .unset, .unset, .unset, .unset, .unset, .unset, .unset]) rfl ?_
    show Steps p.tables e below (T2.setTop (mkF m 36 #[.val (.long ja), .second, .val (.long jb), .second, .val (.long jc), .second, .val (.int k), .val (.int (1 : Int32)), .val (.long xa), .second, .val (.long xb), .second, .val (.long xc), .second, .val (.ref r_1), .val (.ref r_2), .unset, .unset, .unset, .unset, .unset, .unset, .unset, .unset, .unset, .unset] [])) _
    refine XS.lload X2.here hx rfl (hb hby at_36) rfl ?_
    show Steps p.tables e below (T2.setTop (mkF m 38 #[.val (.long ja), .second, .val (.long jb), .second, .val (.long jc), .second, .val (.int k), .val (.int (1 : Int32)), .val (.long xa), .second, .val (.long xb), .second, .val (.long xc), .second, .val (.ref r_1), .val (.ref r_2), .unset, .unset, .unset, .unset, .unset, .unset, .unset, .unset, .unset, .unset] [(.long xc)])) _
    refine st3 _ ?_
    show Steps p.tables e below (T3.setTop (mkF m 41 #[.val (.long ja), .second, .val (.long jb), .second, .val (.long jc), .second, .val (.int k), .val (.int (1 : Int32)), .val (.long xa), .second, .val (.long xb), .second, .val (.long xc), .second, .val (.ref r_1), .val (.ref r_2), .unset, .unset, .unset, .unset, .unset, .unset, .unset, .unset, .unset, .unset] [(.ref r_3)])) _
    refine XS.astore X3.here hx rfl (hb hby at_41) rfl rfl (l' := #[.val (.long ja), .second, .val (.long jb), .second, .val (.long jc), .second, .val (.int k), .val (.int (1 : Int32)), .val (.long xa), .second, .val (.long xb), .second, .val (.long xc), .second, .val (.ref r_1), .val (.ref r_2), .val (.ref r_3), .unset, .unset, .unset, .unset, .unset, .unset, .unset, .unset, .unset]) rfl ?_
    show Steps p.tables e below (T3.setTop (mkF m 43 #[.val (.long ja), .second, .val (.long jb), .second, .val (.long jc), .second, .val (.int k), .val (.int (1 : Int32)), .val (.long xa), .second, .val (.long xb), .second, .val (.long xc), .second, .val (.ref r_1), .val (.ref r_2), .val (.ref r_3), .unset, .unset, .unset, .unset, .unset, .unset, .unset, .unset, .unset] [])) _
    refine st4 _ ?_
    show Steps p.tables e below (T4.setTop (mkF m 46 #[.val (.long ja), .second, .val (.long jb), .second, .val (.long jc), .second, .val (.int k), .val (.int (1 : Int32)), .val (.long xa), .second, .val (.long xb), .second, .val (.long xc), .second, .val (.ref r_1), .val (.ref r_2), .val (.ref r_3), .unset, .unset, .unset, .unset, .unset, .unset, .unset, .unset, .unset] [(.ref b4)])) _
    refine XS.dup X4.here hx rfl (hb hby at_46) rfl rfl ?_
    show Steps p.tables e below (T4.setTop (mkF m 47 #[.val (.long ja), .second, .val (.long jb), .second, .val (.long jc), .second, .val (.int k), .val (.int (1 : Int32)), .val (.long xa), .second, .val (.long xb), .second, .val (.long xc), .second, .val (.ref r_1), .val (.ref r_2), .val (.ref r_3), .unset, .unset, .unset, .unset, .unset, .unset, .unset, .unset, .unset] [(.ref b4), (.ref b4)])) _
    refine st5.trans ?_
    show Steps p.tables e below (T5.setTop (mkF m 50 #[.val (.long ja), .second, .val (.long jb), .second, .val (.long jc), .second, .val (.int k), .val (.int (1 : Int32)), .val (.long xa), .second, .val (.long xb), .second, .val (.long xc), .second, .val (.ref r_1), .val (.ref r_2), .val (.ref r_3), .unset, .unset, .unset, .unset, .unset, .unset, .unset, .unset, .unset] [(.ref b4)])) _
    refine XS.astore X5.here hx rfl (hb hby at_50) rfl rfl (l' := #[.val (.long ja), .second, .val (.long jb), .second, .val (.long jc), .second, .val (.int k), .val (.int (1 : Int32)), .val (.long xa), .second, .val (.long xb), .second, .val (.long xc), .second, .val (.ref r_1), .val (.ref r_2), .val (.ref r_3), .val (.ref b4), .unset, .unset, .unset, .unset, .unset, .unset, .unset, .unset]) rfl ?_
    show Steps p.tables e below (T5.setTop (mkF m 52 #[.val (.long ja), .second, .val (.long jb), .second, .val (.long jc), .second, .val (.int k), .val (.int (1 : Int32)), .val (.long xa), .second, .val (.long xb), .second, .val (.long xc), .second, .val (.ref r_1), .val (.ref r_2), .val (.ref r_3), .val (.ref b4), .unset, .unset, .unset, .unset, .unset, .unset, .unset, .unset] [])) _
    refine XS.iload X5.here hx rfl (hb hby at_52) rfl ?_
    show Steps p.tables e below (T5.setTop (mkF m 54 #[.val (.long ja), .second, .val (.long jb), .second, .val (.long jc), .second, .val (.int k), .val (.int (1 : Int32)), .val (.long xa), .second, .val (.long xb), .second, .val (.long xc), .second, .val (.ref r_1), .val (.ref r_2), .val (.ref r_3), .val (.ref b4), .unset, .unset, .unset, .unset, .unset, .unset, .unset, .unset] [(.int (1 : Int32))])) _
    refine XS.iconst X5.here hx rfl (hb hby at_54) ?_
    show Steps p.tables e below (T5.setTop (mkF m 55 #[.val (.long ja), .second, .val (.long jb), .second, .val (.long jc), .second, .val (.int k), .val (.int (1 : Int32)), .val (.long xa), .second, .val (.long xb), .second, .val (.long xc), .second, .val (.ref r_1), .val (.ref r_2), .val (.ref r_3), .val (.ref b4), .unset, .unset, .unset, .unset, .unset, .unset, .unset, .unset] [(.int (1 : Int32)), (.int (1 : Int32))])) _
    refine XS.icmpNo X5.here hx rfl (hb hby at_55) rfl (flt (by decide : ¬ ((1 : Int32) < (1 : Int32)))).1 ?_
    show Steps p.tables e below (T5.setTop (mkF m 58 #[.val (.long ja), .second, .val (.long jb), .second, .val (.long jc), .second, .val (.int k), .val (.int (1 : Int32)), .val (.long xa), .second, .val (.long xb), .second, .val (.long xc), .second, .val (.ref r_1), .val (.ref r_2), .val (.ref r_3), .val (.ref b4), .unset, .unset, .unset, .unset, .unset, .unset, .unset, .unset] [])) _
    refine XS.aload X5.here hx rfl (hb hby at_58) rfl rfl ?_
    show Steps p.tables e below (T5.setTop (mkF m 60 #[.val (.long ja), .second, .val (.long jb), .second, .val (.long jc), .second, .val (.int k), .val (.int (1 : Int32)), .val (.long xa), .second, .val (.long xb), .second, .val (.long xc), .second, .val (.ref r_1), .val (.ref r_2), .val (.ref r_3), .val (.ref b4), .unset, .unset, .unset, .unset, .unset, .unset, .unset, .unset] [(.ref b4)])) _
    refine XS.aload X5.here hx rfl (hb hby at_60) rfl rfl ?_
    show Steps p.tables e below (T5.setTop (mkF m 62 #[.val (.long ja), .second, .val (.long jb), .second, .val (.long jc), .second, .val (.int k), .val (.int (1 : Int32)), .val (.long xa), .second, .val (.long xb), .second, .val (.long xc), .second, .val (.ref r_1), .val (.ref r_2), .val (.ref r_3), .val (.ref b4), .unset, .unset, .unset, .unset, .unset, .unset, .unset, .unset] [(.ref r_1), (.ref b4)])) _
    refine st8.trans ?_
    show Steps p.tables e below (T8.setTop (mkF m 65 #[.val (.long ja), .second, .val (.long jb), .second, .val (.long jc), .second, .val (.int k), .val (.int (1 : Int32)), .val (.long xa), .second, .val (.long xb), .second, .val (.long xc), .second, .val (.ref r_1), .val (.ref r_2), .val (.ref r_3), .val (.ref b4), .unset, .unset, .unset, .unset, .unset, .unset, .unset, .unset] [])) _
    refine XS.iload X8.here hx rfl (hb hby at_65) rfl ?_
    show Steps p.tables e below (T8.setTop (mkF m 67 #[.val (.long ja), .second, .val (.long jb), .second, .val (.long jc), .second, .val (.int k), .val (.int (1 : Int32)), .val (.long xa), .second, .val (.long xb), .second, .val (.long xc), .second, .val (.ref r_1), .val (.ref r_2), .val (.ref r_3), .val (.ref b4), .unset, .unset, .unset, .unset, .unset, .unset, .unset, .unset] [(.int (1 : Int32))])) _
    refine XS.iconst X8.here hx rfl (hb hby at_67) ?_
    show Steps p.tables e below (T8.setTop (mkF m 68 #[.val (.long ja), .second, .val (.long jb), .second, .val (.long jc), .second, .val (.int k), .val (.int (1 : Int32)), .val (.long xa), .second, .val (.long xb), .second, .val (.long xc), .second, .val (.ref r_1), .val (.ref r_2), .val (.ref r_3), .val (.ref b4), .unset, .unset, .unset, .unset, .unset, .unset, .unset, .unset] [(.int (2 : Int32)), (.int (1 : Int32))])) _
    refine XS.icmpYes X8.here hx rfl (pc0 := 68) (pc' := 78) rfl (hb hby at_68) rfl (tlt (by decide : (1 : Int32) < (2 : Int32))).1 (by decide) (by decide) ?_
    show Steps p.tables e below (T8.setTop (mkF m 78 #[.val (.long ja), .second, .val (.long jb), .second, .val (.long jc), .second, .val (.int k), .val (.int (1 : Int32)), .val (.long xa), .second, .val (.long xb), .second, .val (.long xc), .second, .val (.ref r_1), .val (.ref r_2), .val (.ref r_3), .val (.ref b4), .unset, .unset, .unset, .unset, .unset, .unset, .unset, .unset] [])) _
    refine XS.iload X8.here hx rfl (hb hby at_78) rfl ?_
    show Steps p.tables e below (T8.setTop (mkF m 80 #[.val (.long ja), .second, .val (.long jb), .second, .val (.long jc), .second, .val (.int k), .val (.int (1 : Int32)), .val (.long xa), .second, .val (.long xb), .second, .val (.long xc), .second, .val (.ref r_1), .val (.ref r_2), .val (.ref r_3), .val (.ref b4), .unset, .unset, .unset, .unset, .unset, .unset, .unset, .unset] [(.int (1 : Int32))])) _
    refine XS.iconst X8.here hx rfl (hb hby at_80) ?_
    show Steps p.tables e below (T8.setTop (mkF m 81 #[.val (.long ja), .second, .val (.long jb), .second, .val (.long jc), .second, .val (.int k), .val (.int (1 : Int32)), .val (.long xa), .second, .val (.long xb), .second, .val (.long xc), .second, .val (.ref r_1), .val (.ref r_2), .val (.ref r_3), .val (.ref b4), .unset, .unset, .unset, .unset, .unset, .unset, .unset, .unset] [(.int (3 : Int32)), (.int (1 : Int32))])) _
    refine XS.icmpYes X8.here hx rfl (pc0 := 81) (pc' := 91) rfl (hb hby at_81) rfl (tlt (by decide : (1 : Int32) < (3 : Int32))).1 (by decide) (by decide) ?_
    show Steps p.tables e below (T8.setTop (mkF m 91 #[.val (.long ja), .second, .val (.long jb), .second, .val (.long jc), .second, .val (.int k), .val (.int (1 : Int32)), .val (.long xa), .second, .val (.long xb), .second, .val (.long xc), .second, .val (.ref r_1), .val (.ref r_2), .val (.ref r_3), .val (.ref b4), .unset, .unset, .unset, .unset, .unset, .unset, .unset, .unset] [])) _
    refine XS.aload X8.here hx rfl (hb hby at_91) rfl rfl ?_
    show Steps p.tables e below (T8.setTop (mkF m 93 #[.val (.long ja), .second, .val (.long jb), .second, .val (.long jc), .second, .val (.int k), .val (.int (1 : Int32)), .val (.long xa), .second, .val (.long xb), .second, .val (.long xc), .second, .val (.ref r_1), .val (.ref r_2), .val (.ref r_3), .val (.ref b4), .unset, .unset, .unset, .unset, .unset, .unset, .unset, .unset] [(.ref b4)])) _
    refine st9.trans ?_
    show Steps p.tables e below (T9.setTop (mkF m 96 #[.val (.long ja), .second, .val (.long jb), .second, .val (.long jc), .second, .val (.int k), .val (.int (1 : Int32)), .val (.long xa), .second, .val (.long xb), .second, .val (.long xc), .second, .val (.ref r_1), .val (.ref r_2), .val (.ref r_3), .val (.ref b4), .unset, .unset, .unset, .unset, .unset, .unset, .unset, .unset] [(.ref r_9)])) _
    refine st10.trans ?_
    show Steps p.tables e below (T10.setTop (mkF m 99 #[.val (.long ja), .second, .val (.long jb), .second, .val (.long jc), .second, .val (.int k), .val (.int (1 : Int32)), .val (.long xa), .second, .val (.long xb), .second, .val (.long xc), .second, .val (.ref r_1), .val (.ref r_2), .val (.ref r_3), .val (.ref b4), .unset, .unset, .unset, .unset, .unset, .unset, .unset, .unset] [(.long (maxJ (1000000 : Int64) (((0 : Int64) + (maxJ (0 : Int64) xa)) / ((1 : Int32).toInt64))))])) _
    refine XS.lstore X10.here hx rfl (hb hby at_99) rfl (l' := #[.val (.long ja), .second, .val (.long jb), .second, .val (.long jc), .second, .val (.int k), .val (.int (1 : Int32)), .val (.long xa), .second, .val (.long xb), .second, .val (.long xc), .second, .val (.ref r_1), .val (.ref r_2), .val (.ref r_3), .val (.ref b4), .val (.long (maxJ (1000000 : Int64) (((0 : Int64) + (maxJ (0 : Int64) xa)) / ((1 : Int32).toInt64)))), .second, .unset, .unset, .unset, .unset, .unset, .unset]) rfl ?_
    show Steps p.tables e below (T10.setTop (mkF m 101 #[.val (.long ja), .second, .val (.long jb), .second, .val (.long jc), .second, .val (.int k), .val (.int (1 : Int32)), .val (.long xa), .second, .val (.long xb), .second, .val (.long xc), .second, .val (.ref r_1), .val (.ref r_2), .val (.ref r_3), .val (.ref b4), .val (.long (maxJ (1000000 : Int64) (((0 : Int64) + (maxJ (0 : Int64) xa)) / ((1 : Int32).toInt64)))), .second, .unset, .unset, .unset, .unset, .unset, .unset] [])) _
    refine XS.iload X10.here hx rfl (hb hby at_101) rfl ?_
    show Steps p.tables e below (T10.setTop (mkF m 103 #[.val (.long ja), .second, .val (.long jb), .second, .val (.long jc), .second, .val (.int k), .val (.int (1 : Int32)), .val (.long xa), .second, .val (.long xb), .second, .val (.long xc), .second, .val (.ref r_1), .val (.ref r_2), .val (.ref r_3), .val (.ref b4), .val (.long (maxJ (1000000 : Int64) (((0 : Int64) + (maxJ (0 : Int64) xa)) / ((1 : Int32).toInt64)))), .second, .unset, .unset, .unset, .unset, .unset, .unset] [(.int (1 : Int32))])) _
    refine XS.ifYes X10.here hx rfl (pc0 := 103) (pc' := 114) rfl (hb hby at_103) rfl ((if0 _ _).trans (feq (by decide : ¬ ((1 : Int32) = (0 : Int32)))).2) (by decide) (by decide) ?_
    show Steps p.tables e below (T10.setTop (mkF m 114 #[.val (.long ja), .second, .val (.long jb), .second, .val (.long jc), .second, .val (.int k), .val (.int (1 : Int32)), .val (.long xa), .second, .val (.long xb), .second, .val (.long xc), .second, .val (.ref r_1), .val (.ref r_2), .val (.ref r_3), .val (.ref b4), .val (.long (maxJ (1000000 : Int64) (((0 : Int64) + (maxJ (0 : Int64) xa)) / ((1 : Int32).toInt64)))), .second, .unset, .unset, .unset, .unset, .unset, .unset] [])) _
    refine XS.lload X10.here hx rfl (hb hby at_114) rfl ?_
    show Steps p.tables e below (T10.setTop (mkF m 116 #[.val (.long ja), .second, .val (.long jb), .second, .val (.long jc), .second, .val (.int k), .val (.int (1 : Int32)), .val (.long xa), .second, .val (.long xb), .second, .val (.long xc), .second, .val (.ref r_1), .val (.ref r_2), .val (.ref r_3), .val (.ref b4), .val (.long (maxJ (1000000 : Int64) (((0 : Int64) + (maxJ (0 : Int64) xa)) / ((1 : Int32).toInt64)))), .second, .unset, .unset, .unset, .unset, .unset, .unset] [(.long xa)])) _
    refine st11 _ ?_
    show Steps p.tables e below (T11.setTop (mkF m 119 #[.val (.long ja), .second, .val (.long jb), .second, .val (.long jc), .second, .val (.int k), .val (.int (1 : Int32)), .val (.long xa), .second, .val (.long xb), .second, .val (.long xc), .second, .val (.ref r_1), .val (.ref r_2), .val (.ref r_3), .val (.ref b4), .val (.long (maxJ (1000000 : Int64) (((0 : Int64) + (maxJ (0 : Int64) xa)) / ((1 : Int32).toInt64)))), .second, .unset, .unset, .unset, .unset, .unset, .unset] [(.long (clampJ xa))])) _
    refine XS.lstore X11.here hx rfl (hb hby at_119) rfl (l' := #[.val (.long ja), .second, .val (.long jb), .second, .val (.long jc), .second, .val (.int k), .val (.int (1 : Int32)), .val (.long xa), .second, .val (.long xb), .second, .val (.long xc), .second, .val (.ref r_1), .val (.ref r_2), .val (.ref r_3), .val (.ref b4), .val (.long (maxJ (1000000 : Int64) (((0 : Int64) + (maxJ (0 : Int64) xa)) / ((1 : Int32).toInt64)))), .second, .unset, .unset, .val (.long (clampJ xa)), .second, .unset, .unset]) rfl ?_
    show Steps p.tables e below (T11.setTop (mkF m 121 #[.val (.long ja), .second, .val (.long jb), .second, .val (.long jc), .second, .val (.int k), .val (.int (1 : Int32)), .val (.long xa), .second, .val (.long xb), .second, .val (.long xc), .second, .val (.ref r_1), .val (.ref r_2), .val (.ref r_3), .val (.ref b4), .val (.long (maxJ (1000000 : Int64) (((0 : Int64) + (maxJ (0 : Int64) xa)) / ((1 : Int32).toInt64)))), .second, .unset, .unset, .val (.long (clampJ xa)), .second, .unset, .unset] [])) _
    refine XS.iload X11.here hx rfl (hb hby at_121) rfl ?_
    show Steps p.tables e below (T11.setTop (mkF m 123 #[.val (.long ja), .second, .val (.long jb), .second, .val (.long jc), .second, .val (.int k), .val (.int (1 : Int32)), .val (.long xa), .second, .val (.long xb), .second, .val (.long xc), .second, .val (.ref r_1), .val (.ref r_2), .val (.ref r_3), .val (.ref b4), .val (.long (maxJ (1000000 : Int64) (((0 : Int64) + (maxJ (0 : Int64) xa)) / ((1 : Int32).toInt64)))), .second, .unset, .unset, .val (.long (clampJ xa)), .second, .unset, .unset] [(.int (1 : Int32))])) _
    refine XS.iconst X11.here hx rfl (hb hby at_123) ?_
    show Steps p.tables e below (T11.setTop (mkF m 124 #[.val (.long ja), .second, .val (.long jb), .second, .val (.long jc), .second, .val (.int k), .val (.int (1 : Int32)), .val (.long xa), .second, .val (.long xb), .second, .val (.long xc), .second, .val (.ref r_1), .val (.ref r_2), .val (.ref r_3), .val (.ref b4), .val (.long (maxJ (1000000 : Int64) (((0 : Int64) + (maxJ (0 : Int64) xa)) / ((1 : Int32).toInt64)))), .second, .unset, .unset, .val (.long (clampJ xa)), .second, .unset, .unset] [(.int (2 : Int32)), (.int (1 : Int32))])) _
    refine XS.icmpYes X11.here hx rfl (pc0 := 124) (pc' := 137) rfl (hb hby at_124) rfl (tlt (by decide : (1 : Int32) < (2 : Int32))).1 (by decide) (by decide) ?_
    show Steps p.tables e below (T11.setTop (mkF m 137 #[.val (.long ja), .second, .val (.long jb), .second, .val (.long jc), .second, .val (.int k), .val (.int (1 : Int32)), .val (.long xa), .second, .val (.long xb), .second, .val (.long xc), .second, .val (.ref r_1), .val (.ref r_2), .val (.ref r_3), .val (.ref b4), .val (.long (maxJ (1000000 : Int64) (((0 : Int64) + (maxJ (0 : Int64) xa)) / ((1 : Int32).toInt64)))), .second, .unset, .unset, .val (.long (clampJ xa)), .second, .unset, .unset] [])) _
    refine XS.iload X11.here hx rfl (hb hby at_137) rfl ?_
    show Steps p.tables e below (T11.setTop (mkF m 139 #[.val (.long ja), .second, .val (.long jb), .second, .val (.long jc), .second, .val (.int k), .val (.int (1 : Int32)), .val (.long xa), .second, .val (.long xb), .second, .val (.long xc), .second, .val (.ref r_1), .val (.ref r_2), .val (.ref r_3), .val (.ref b4), .val (.long (maxJ (1000000 : Int64) (((0 : Int64) + (maxJ (0 : Int64) xa)) / ((1 : Int32).toInt64)))), .second, .unset, .unset, .val (.long (clampJ xa)), .second, .unset, .unset] [(.int (1 : Int32))])) _
    refine XS.iconst X11.here hx rfl (hb hby at_139) ?_
    show Steps p.tables e below (T11.setTop (mkF m 140 #[.val (.long ja), .second, .val (.long jb), .second, .val (.long jc), .second, .val (.int k), .val (.int (1 : Int32)), .val (.long xa), .second, .val (.long xb), .second, .val (.long xc), .second, .val (.ref r_1), .val (.ref r_2), .val (.ref r_3), .val (.ref b4), .val (.long (maxJ (1000000 : Int64) (((0 : Int64) + (maxJ (0 : Int64) xa)) / ((1 : Int32).toInt64)))), .second, .unset, .unset, .val (.long (clampJ xa)), .second, .unset, .unset] [(.int (3 : Int32)), (.int (1 : Int32))])) _
    refine XS.icmpYes X11.here hx rfl (pc0 := 140) (pc' := 153) rfl (hb hby at_140) rfl (tlt (by decide : (1 : Int32) < (3 : Int32))).1 (by decide) (by decide) ?_
    show Steps p.tables e below (T11.setTop (mkF m 153 #[.val (.long ja), .second, .val (.long jb), .second, .val (.long jc), .second, .val (.int k), .val (.int (1 : Int32)), .val (.long xa), .second, .val (.long xb), .second, .val (.long xc), .second, .val (.ref r_1), .val (.ref r_2), .val (.ref r_3), .val (.ref b4), .val (.long (maxJ (1000000 : Int64) (((0 : Int64) + (maxJ (0 : Int64) xa)) / ((1 : Int32).toInt64)))), .second, .unset, .unset, .val (.long (clampJ xa)), .second, .unset, .unset] [])) _
    refine XS.lload X11.here hx rfl (hb hby at_153) rfl ?_
    show Steps p.tables e below (T11.setTop (mkF m 155 #[.val (.long ja), .second, .val (.long jb), .second, .val (.long jc), .second, .val (.int k), .val (.int (1 : Int32)), .val (.long xa), .second, .val (.long xb), .second, .val (.long xc), .second, .val (.ref r_1), .val (.ref r_2), .val (.ref r_3), .val (.ref b4), .val (.long (maxJ (1000000 : Int64) (((0 : Int64) + (maxJ (0 : Int64) xa)) / ((1 : Int32).toInt64)))), .second, .unset, .unset, .val (.long (clampJ xa)), .second, .unset, .unset] [(.long (clampJ xa))])) _
    refine XS.iload X11.here hx rfl (hb hby at_155) rfl ?_
    show Steps p.tables e below (T11.setTop (mkF m 157 #[.val (.long ja), .second, .val (.long jb), .second, .val (.long jc), .second, .val (.int k), .val (.int (1 : Int32)), .val (.long xa), .second, .val (.long xb), .second, .val (.long xc), .second, .val (.ref r_1), .val (.ref r_2), .val (.ref r_3), .val (.ref b4), .val (.long (maxJ (1000000 : Int64) (((0 : Int64) + (maxJ (0 : Int64) xa)) / ((1 : Int32).toInt64)))), .second, .unset, .unset, .val (.long (clampJ xa)), .second, .unset, .unset] [(.int (1 : Int32)), (.long (clampJ xa))])) _
    refine XS.i2l X11.here hx rfl (hb hby at_157) rfl ?_
    show Steps p.tables e below (T11.setTop (mkF m 158 #[.val (.long ja), .second, .val (.long jb), .second, .val (.long jc), .second, .val (.int k), .val (.int (1 : Int32)), .val (.long xa), .second, .val (.long xb), .second, .val (.long xc), .second, .val (.ref r_1), .val (.ref r_2), .val (.ref r_3), .val (.ref b4), .val (.long (maxJ (1000000 : Int64) (((0 : Int64) + (maxJ (0 : Int64) xa)) / ((1 : Int32).toInt64)))), .second, .unset, .unset, .val (.long (clampJ xa)), .second, .unset, .unset] [(.long ((1 : Int32).toInt64)), (.long (clampJ xa))])) _
    refine XS.ldiv X11.here hx rfl (hb hby at_158) rfl (by decide) ?_
    show Steps p.tables e below (T11.setTop (mkF m 159 #[.val (.long ja), .second, .val (.long jb), .second, .val (.long jc), .second, .val (.int k), .val (.int (1 : Int32)), .val (.long xa), .second, .val (.long xb), .second, .val (.long xc), .second, .val (.ref r_1), .val (.ref r_2), .val (.ref r_3), .val (.ref b4), .val (.long (maxJ (1000000 : Int64) (((0 : Int64) + (maxJ (0 : Int64) xa)) / ((1 : Int32).toInt64)))), .second, .unset, .unset, .val (.long (clampJ xa)), .second, .unset, .unset] [(.long ((clampJ xa) / ((1 : Int32).toInt64)))])) _
    refine XS.lstore X11.here hx rfl (hb hby at_159) rfl (l' := #[.val (.long ja), .second, .val (.long jb), .second, .val (.long jc), .second, .val (.int k), .val (.int (1 : Int32)), .val (.long xa), .second, .val (.long xb), .second, .val (.long xc), .second, .val (.ref r_1), .val (.ref r_2), .val (.ref r_3), .val (.ref b4), .val (.long (maxJ (1000000 : Int64) (((0 : Int64) + (maxJ (0 : Int64) xa)) / ((1 : Int32).toInt64)))), .second, .unset, .unset, .val (.long (clampJ xa)), .second, .val (.long ((clampJ xa) / ((1 : Int32).toInt64))), .second]) rfl ?_
    show Steps p.tables e below (T11.setTop (mkF m 161 #[.val (.long ja), .second, .val (.long jb), .second, .val (.long jc), .second, .val (.int k), .val (.int (1 : Int32)), .val (.long xa), .second, .val (.long xb), .second, .val (.long xc), .second, .val (.ref r_1), .val (.ref r_2), .val (.ref r_3), .val (.ref b4), .val (.long (maxJ (1000000 : Int64) (((0 : Int64) + (maxJ (0 : Int64) xa)) / ((1 : Int32).toInt64)))), .second, .unset, .unset, .val (.long (clampJ xa)), .second, .val (.long ((clampJ xa) / ((1 : Int32).toInt64))), .second] [])) _
    refine XS.lload X11.here hx rfl (hb hby at_161) rfl ?_
    show Steps p.tables e below (T11.setTop (mkF m 163 #[.val (.long ja), .second, .val (.long jb), .second, .val (.long jc), .second, .val (.int k), .val (.int (1 : Int32)), .val (.long xa), .second, .val (.long xb), .second, .val (.long xc), .second, .val (.ref r_1), .val (.ref r_2), .val (.ref r_3), .val (.ref b4), .val (.long (maxJ (1000000 : Int64) (((0 : Int64) + (maxJ (0 : Int64) xa)) / ((1 : Int32).toInt64)))), .second, .unset, .unset, .val (.long (clampJ xa)), .second, .val (.long ((clampJ xa) / ((1 : Int32).toInt64))), .second] [(.long ((clampJ xa) / ((1 : Int32).toInt64)))])) _
    refine X11.ldc2Long hx hown (mvT hZ (hw _ (List.mem_of_getElem? (i := 75) rfl))) (g := (mkF m 163 #[.val (.long ja), .second, .val (.long jb), .second, .val (.long jc), .second, .val (.int k), .val (.int (1 : Int32)), .val (.long xa), .second, .val (.long xb), .second, .val (.long xc), .second, .val (.ref r_1), .val (.ref r_2), .val (.ref r_3), .val (.ref b4), .val (.long (maxJ (1000000 : Int64) (((0 : Int64) + (maxJ (0 : Int64) xa)) / ((1 : Int32).toInt64)))), .second, .unset, .unset, .val (.long (clampJ xa)), .second, .val (.long ((clampJ xa) / ((1 : Int32).toInt64))), .second] [(.long ((clampJ xa) / ((1 : Int32).toInt64)))])) rfl (hb hby at_163) _ ?_
    show Steps p.tables e below (T11.setTop (mkF m 166 #[.val (.long ja), .second, .val (.long jb), .second, .val (.long jc), .second, .val (.int k), .val (.int (1 : Int32)), .val (.long xa), .second, .val (.long xb), .second, .val (.long xc), .second, .val (.ref r_1), .val (.ref r_2), .val (.ref r_3), .val (.ref b4), .val (.long (maxJ (1000000 : Int64) (((0 : Int64) + (maxJ (0 : Int64) xa)) / ((1 : Int32).toInt64)))), .second, .unset, .unset, .val (.long (clampJ xa)), .second, .val (.long ((clampJ xa) / ((1 : Int32).toInt64))), .second] [(.long (1000000 : Int64)), (.long ((clampJ xa) / ((1 : Int32).toInt64)))])) _
    refine XS.lcmp X11.here hx rfl (hb hby at_166) rfl ?_
    show Steps p.tables e below (T11.setTop (mkF m 167 #[.val (.long ja), .second, .val (.long jb), .second, .val (.long jc), .second, .val (.int k), .val (.int (1 : Int32)), .val (.long xa), .second, .val (.long xb), .second, .val (.long xc), .second, .val (.ref r_1), .val (.ref r_2), .val (.ref r_3), .val (.ref b4), .val (.long (maxJ (1000000 : Int64) (((0 : Int64) + (maxJ (0 : Int64) xa)) / ((1 : Int32).toInt64)))), .second, .unset, .unset, .val (.long (clampJ xa)), .second, .val (.long ((clampJ xa) / ((1 : Int32).toInt64))), .second] [(.int (lcmpW ((clampJ xa) / ((1 : Int32).toInt64)) (1000000 : Int64)))])) _
    refine XS.ifYes X11.here hx rfl (pc0 := 167) (pc' := 178) rfl (hb hby at_167) rfl ((if0 _ _).trans (flt (hc167 : ¬ ((lcmpW ((clampJ xa) / ((1 : Int32).toInt64)) (1000000 : Int64)) < (0 : Int32)))).2.1) (by decide) (by decide) ?_
    show Steps p.tables e below (T11.setTop (mkF m 178 #[.val (.long ja), .second, .val (.long jb), .second, .val (.long jc), .second, .val (.int k), .val (.int (1 : Int32)), .val (.long xa), .second, .val (.long xb), .second, .val (.long xc), .second, .val (.ref r_1), .val (.ref r_2), .val (.ref r_3), .val (.ref b4), .val (.long (maxJ (1000000 : Int64) (((0 : Int64) + (maxJ (0 : Int64) xa)) / ((1 : Int32).toInt64)))), .second, .unset, .unset, .val (.long (clampJ xa)), .second, .val (.long ((clampJ xa) / ((1 : Int32).toInt64))), .second] [])) _
    refine XS.lload X11.here hx rfl (hb hby at_178) rfl ?_
    show Steps p.tables e below (T11.setTop (mkF m 180 #[.val (.long ja), .second, .val (.long jb), .second, .val (.long jc), .second, .val (.int k), .val (.int (1 : Int32)), .val (.long xa), .second, .val (.long xb), .second, .val (.long xc), .second, .val (.ref r_1), .val (.ref r_2), .val (.ref r_3), .val (.ref b4), .val (.long (maxJ (1000000 : Int64) (((0 : Int64) + (maxJ (0 : Int64) xa)) / ((1 : Int32).toInt64)))), .second, .unset, .unset, .val (.long (clampJ xa)), .second, .val (.long ((clampJ xa) / ((1 : Int32).toInt64))), .second] [(.long ((clampJ xa) / ((1 : Int32).toInt64)))])) _
    refine XS.lstore X11.here hx rfl (hb hby at_180) rfl (l' := #[.val (.long ja), .second, .val (.long jb), .second, .val (.long jc), .second, .val (.int k), .val (.int (1 : Int32)), .val (.long xa), .second, .val (.long xb), .second, .val (.long xc), .second, .val (.ref r_1), .val (.ref r_2), .val (.ref r_3), .val (.ref b4), .val (.long (maxJ (1000000 : Int64) (((0 : Int64) + (maxJ (0 : Int64) xa)) / ((1 : Int32).toInt64)))), .second, .val (.long ((clampJ xa) / ((1 : Int32).toInt64))), .second, .val (.long (clampJ xa)), .second, .val (.long ((clampJ xa) / ((1 : Int32).toInt64))), .second]) rfl ?_
    show Steps p.tables e below (T11.setTop (mkF m 182 #[.val (.long ja), .second, .val (.long jb), .second, .val (.long jc), .second, .val (.int k), .val (.int (1 : Int32)), .val (.long xa), .second, .val (.long xb), .second, .val (.long xc), .second, .val (.ref r_1), .val (.ref r_2), .val (.ref r_3), .val (.ref b4), .val (.long (maxJ (1000000 : Int64) (((0 : Int64) + (maxJ (0 : Int64) xa)) / ((1 : Int32).toInt64)))), .second, .val (.long ((clampJ xa) / ((1 : Int32).toInt64))), .second, .val (.long (clampJ xa)), .second, .val (.long ((clampJ xa) / ((1 : Int32).toInt64))), .second] [])) _
    refine XS.lload X11.here hx rfl (hb hby at_182) rfl ?_
    show Steps p.tables e below (T11.setTop (mkF m 184 #[.val (.long ja), .second, .val (.long jb), .second, .val (.long jc), .second, .val (.int k), .val (.int (1 : Int32)), .val (.long xa), .second, .val (.long xb), .second, .val (.long xc), .second, .val (.ref r_1), .val (.ref r_2), .val (.ref r_3), .val (.ref b4), .val (.long (maxJ (1000000 : Int64) (((0 : Int64) + (maxJ (0 : Int64) xa)) / ((1 : Int32).toInt64)))), .second, .val (.long ((clampJ xa) / ((1 : Int32).toInt64))), .second, .val (.long (clampJ xa)), .second, .val (.long ((clampJ xa) / ((1 : Int32).toInt64))), .second] [(.long (maxJ (1000000 : Int64) (((0 : Int64) + (maxJ (0 : Int64) xa)) / ((1 : Int32).toInt64))))])) _
    refine XS.lload X11.here hx rfl (hb hby at_184) rfl ?_
    show Steps p.tables e below (T11.setTop (mkF m 186 #[.val (.long ja), .second, .val (.long jb), .second, .val (.long jc), .second, .val (.int k), .val (.int (1 : Int32)), .val (.long xa), .second, .val (.long xb), .second, .val (.long xc), .second, .val (.ref r_1), .val (.ref r_2), .val (.ref r_3), .val (.ref b4), .val (.long (maxJ (1000000 : Int64) (((0 : Int64) + (maxJ (0 : Int64) xa)) / ((1 : Int32).toInt64)))), .second, .val (.long ((clampJ xa) / ((1 : Int32).toInt64))), .second, .val (.long (clampJ xa)), .second, .val (.long ((clampJ xa) / ((1 : Int32).toInt64))), .second] [(.long ((clampJ xa) / ((1 : Int32).toInt64))), (.long (maxJ (1000000 : Int64) (((0 : Int64) + (maxJ (0 : Int64) xa)) / ((1 : Int32).toInt64))))])) _
    refine XS.lcmp X11.here hx rfl (hb hby at_186) rfl ?_
    show Steps p.tables e below (T11.setTop (mkF m 187 #[.val (.long ja), .second, .val (.long jb), .second, .val (.long jc), .second, .val (.int k), .val (.int (1 : Int32)), .val (.long xa), .second, .val (.long xb), .second, .val (.long xc), .second, .val (.ref r_1), .val (.ref r_2), .val (.ref r_3), .val (.ref b4), .val (.long (maxJ (1000000 : Int64) (((0 : Int64) + (maxJ (0 : Int64) xa)) / ((1 : Int32).toInt64)))), .second, .val (.long ((clampJ xa) / ((1 : Int32).toInt64))), .second, .val (.long (clampJ xa)), .second, .val (.long ((clampJ xa) / ((1 : Int32).toInt64))), .second] [(.int (lcmpW (maxJ (1000000 : Int64) (((0 : Int64) + (maxJ (0 : Int64) xa)) / ((1 : Int32).toInt64))) ((clampJ xa) / ((1 : Int32).toInt64))))])) _
    refine XS.ifNo X11.here hx rfl (hb hby at_187) rfl ((if0 _ _).trans (teq (((lw_eq _ _).mpr (fin_a1 hc167)) : (lcmpW (maxJ (1000000 : Int64) (((0 : Int64) + (maxJ (0 : Int64) xa)) / ((1 : Int32).toInt64))) ((clampJ xa) / ((1 : Int32).toInt64))) = (0 : Int32))).2) ?_
    show Steps p.tables e below (T11.setTop (mkF m 190 #[.val (.long ja), .second, .val (.long jb), .second, .val (.long jc), .second, .val (.int k), .val (.int (1 : Int32)), .val (.long xa), .second, .val (.long xb), .second, .val (.long xc), .second, .val (.ref r_1), .val (.ref r_2), .val (.ref r_3), .val (.ref b4), .val (.long (maxJ (1000000 : Int64) (((0 : Int64) + (maxJ (0 : Int64) xa)) / ((1 : Int32).toInt64)))), .second, .val (.long ((clampJ xa) / ((1 : Int32).toInt64))), .second, .val (.long (clampJ xa)), .second, .val (.long ((clampJ xa) / ((1 : Int32).toInt64))), .second] [])) _
    refine XS.iconst X11.here hx rfl (hb hby at_190) ?_
    show Steps p.tables e below (T11.setTop (mkF m 191 #[.val (.long ja), .second, .val (.long jb), .second, .val (.long jc), .second, .val (.int k), .val (.int (1 : Int32)), .val (.long xa), .second, .val (.long xb), .second, .val (.long xc), .second, .val (.ref r_1), .val (.ref r_2), .val (.ref r_3), .val (.ref b4), .val (.long (maxJ (1000000 : Int64) (((0 : Int64) + (maxJ (0 : Int64) xa)) / ((1 : Int32).toInt64)))), .second, .val (.long ((clampJ xa) / ((1 : Int32).toInt64))), .second, .val (.long (clampJ xa)), .second, .val (.long ((clampJ xa) / ((1 : Int32).toInt64))), .second] [(.int (1 : Int32))])) _
    refine XS.goto X11.here hx rfl (pc0 := 191) (pc' := 195) rfl (hb hby at_191) (by decide) (by decide) ?_
    show Steps p.tables e below (T11.setTop (mkF m 195 #[.val (.long ja), .second, .val (.long jb), .second, .val (.long jc), .second, .val (.int k), .val (.int (1 : Int32)), .val (.long xa), .second, .val (.long xb), .second, .val (.long xc), .second, .val (.ref r_1), .val (.ref r_2), .val (.ref r_3), .val (.ref b4), .val (.long (maxJ (1000000 : Int64) (((0 : Int64) + (maxJ (0 : Int64) xa)) / ((1 : Int32).toInt64)))), .second, .val (.long ((clampJ xa) / ((1 : Int32).toInt64))), .second, .val (.long (clampJ xa)), .second, .val (.long ((clampJ xa) / ((1 : Int32).toInt64))), .second] [(.int (1 : Int32))])) _
    exact retN X11 hx (t := .boolean) Bd.returns (by simp) (hb hby at_195) hr
  · show Q_law Z ja jb jc k wz wg h0 n0 _ T11.heap _
    rw [kh11]
    exact ⟨rfl, N11⟩
set_option maxRecDepth 65536 in
set_option maxHeartbeats 40000000 in
theorem law_1b (l : Launch) (Z : State) (a0 : Array Value) (hw : ∀ d ∈ tables_1, d.before a0 Z = true) (ws : List Jvm.Cond) (ja : Int64) (jb : Int64) (jc : Int64) (k : Int32) (wz : Addr) (wg : Addr) (h0 : Heap) (n0 : Nat) (O0 : Old Z n0 h0) (G0 : Sta Z Z.heap "com/example/admitd/admitd/gate/ServiceTime" "LEAST_NANOS" "J" (.long (1000000 : Int64))) (G1 : Sta Z Z.heap "java/time/Duration" "ZERO" "Ljava/time/Duration;" (.ref wz)) (G2 : Exa Z Z.heap wz "java/time/Duration") (G3 : Fld Z Z.heap wz "java/time/Duration" "seconds" "J" (.long (0 : Int64))) (G4 : Fld Z Z.heap wz "java/time/Duration" "nanos" "I" (.int (0 : Int32))) (G5 : Sta Z Z.heap "com/example/admitd/admitd/gate/ServiceTime" "FIRST_GUESS" "Ljava/time/Duration;" (.ref wg)) (G6 : Exa Z Z.heap wg "java/time/Duration") (G7 : Fld Z Z.heap wg "java/time/Duration" "seconds" "J" (.long (1 : Int64))) (G8 : Fld Z Z.heap wg "java/time/Duration" "nanos" "I" (.int (0 : Int32))) (xa : Int64) (xb : Int64) (xc : Int64) (exa : (ja >>> ((2 : Int32) &&& 0x3f).toInt64) = xa) (exb : (jb >>> ((2 : Int32) &&& 0x3f).toInt64) = xb) (exc : (jc >>> ((2 : Int32) &&& 0x3f).toInt64) = xc) (hk : (k &&& (3 : Int32)) = (1 : Int32)) (hc167 : (lcmpW ((clampJ xa) / ((1 : Int32).toInt64)) (1000000 : Int64)) < (0 : Int32)) :
    MetFree l x (head1 (Jvm.Cond.code x code maxLocals ret :: ws) room_1) (fun zA zU => zA = #[(.long ja), (.long jb), (.long jc), (.int k)] ∧ Z.Warmed39 zU.vm ∧ zU.heap = h0) (fun _ _ _ _ _ => True) (fun _ zU zo zU' => ∃ zv zL, zo = .returned zv ∧ Q_law Z ja jb jc k wz wg h0 n0 zv zU'.heap zL ∧ FrameEnd zU zo zU' zL room_1.cells room_1.slots) := by
  refine MetFree.of_bodySF (plainFor_of_name pn_4) hisR ?_
  intro p e s m args below meth c s₁ Bd hml0 hP hK
  obtain ⟨rfl, hZ, hh⟩ := hP
  have hx := Bd.exec
  have hby := Bd.bytes
  have hml : c.maxLocals = 26 := hml0
  have hown : s.vm.findClass "com/example/admitd/admitd/gate/ServiceTimeMeanPinLaw" = some m.cls := findClass_of_methodNamed Bd.named
  have hnm := (name_of_methodNamed Bd.named Bd.method).1
  have X0 : Stand p l e room_1 s m #[(.long ja), (.long jb), (.long jc), (.int k)] below meth c s₁ [] 0 0 := Stand.of_body Bd
  have e0 : s₁.heap = h0 := by rw [← hh, Bd.state]; rfl
  have N0 := Fr.nil n0
  have Z0 : n0 ≤ h0.size := O0.1 ▸ O0.2.1
  have pre0 : ∀ zt, Steps p.tables e below (s₁.setTop (mkF m 0 #[.val (.long ja), .second, .val (.long jb), .second, .val (.long jc), .second, .val (.int k), .unset, .unset, .unset, .unset, .unset, .unset, .unset, .unset, .unset, .unset, .unset, .unset, .unset, .unset, .unset, .unset, .unset, .unset, .unset] [])) zt → Steps p.tables e below (s₁.setTop (entryFrame m #[(.long ja), (.long jb), (.long jc), (.int k)] maxLocals)) zt := fun zt zk => castTop (ef_0_JJJI m ja jb jc k) zk
  obtain ⟨_, _, ⟨T1, L1, k1, n1⟩, -, X1, ⟨Lc1, hQ1, l1, y1, z1⟩, st1⟩ := Jvm.LawKit.callS X0 hx (y := (⟨"java/time/Duration", "ofNanos", "(J)Ljava/time/Duration;"⟩ : MethodName)) hown (mvT hZ (hw _ (List.mem_of_getElem? (i := 0) rfl))) (mvT hZ (hw _ (List.mem_of_getElem? (i := 1) rfl))) (mvT hZ (hw _ (List.mem_of_getElem? (i := 2) rfl))) (mvT hZ (hw _ (List.mem_of_getElem? (i := 3) rfl))) (by decide) (backOf (W := 0) (ofN l Z a0 hw [] xa wz h0 n0 O0 G1 G2 G3 G4) hZ (hw _ (List.mem_of_getElem? (i := 3) rfl)) (hw _ (List.mem_of_getElem? (i := 2) rfl)) (by decide) (by decide)) (g := (mkF m 24 #[.val (.long ja), .second, .val (.long jb), .second, .val (.long jc), .second, .val (.int k), .val (.int (1 : Int32)), .val (.long xa), .second, .val (.long xb), .second, .val (.long xc), .second, .unset, .unset, .unset, .unset, .unset, .unset, .unset, .unset, .unset, .unset, .unset, .unset] [(.long xa)])) rfl (by rw [hml]; rfl) (argsL := [(.long xa)]) (rest := []) (lenOf pd_5 rfl) rfl (by show 2 * 0 + _ ≤ _; exact Nat.le_of_eq rfl) (hb hby at_24) (fun _ _ => ⟨rfl, e0, (by decide : 0 + 1 ≤ _), (by decide : 0 + 2 ≤ _)⟩)
  dsimp only [Pt.U, Pt.locs, Pt.cells, Pt.slots] at X1 l1 y1 z1 st1 hQ1
  subst l1 y1 z1
  obtain ⟨r_1, s1_1, n1_1, rfl, Nq1, kh1, Po1_0, Po1_1, Po1_2, pq1_0⟩ := hQ1
  have N1 := Fr.app N0 Nq1
  have O1 := O0.keep kh1 all0
  have K1 : Keep h0 T1.heap [] := (Keep.refl h0 []).trans kh1 all0
  obtain ⟨_, _, ⟨T2, L2, k2, n2⟩, -, X2, ⟨Lc2, hQ2, l2, y2, z2⟩, st2⟩ := Jvm.LawKit.callS X1 hx (y := (⟨"java/time/Duration", "ofNanos", "(J)Ljava/time/Duration;"⟩ : MethodName)) hown (mvT hZ (hw _ (List.mem_of_getElem? (i := 0) rfl))) (mvT hZ (hw _ (List.mem_of_getElem? (i := 1) rfl))) (mvT hZ (hw _ (List.mem_of_getElem? (i := 2) rfl))) (mvT hZ (hw _ (List.mem_of_getElem? (i := 3) rfl))) (by decide) (backOf (W := 0) (ofN l Z a0 hw [] xb wz T1.heap n0 O1 G1 G2 G3 G4) hZ (hw _ (List.mem_of_getElem? (i := 3) rfl)) (hw _ (List.mem_of_getElem? (i := 2) rfl)) (by decide) (by decide)) (g := (mkF m 31 #[.val (.long ja), .second, .val (.long jb), .second, .val (.long jc), .second, .val (.int k), .val (.int (1 : Int32)), .val (.long xa), .second, .val (.long xb), .second, .val (.long xc), .second, .val (.ref r_1), .unset, .unset, .unset, .unset, .unset, .unset, .unset, .unset, .unset, .unset, .unset] [(.long xb)])) rfl (by rw [hml]; rfl) (argsL := [(.long xb)]) (rest := []) (lenOf pd_5 rfl) rfl (by show 2 * 0 + _ ≤ _; exact Nat.le_of_eq rfl) (hb hby at_31) (fun _ _ => ⟨rfl, rfl, (by decide : 1 + 1 ≤ _), (by decide : 2 + 2 ≤ _)⟩)
  dsimp only [Pt.U, Pt.locs, Pt.cells, Pt.slots] at X2 l2 y2 z2 st2 hQ2
  subst l2 y2 z2
  obtain ⟨r_2, s1_2, n1_2, rfl, Nq2, kh2, Po2_0, Po2_1, Po2_2, pq2_0⟩ := hQ2
  have N2 := Fr.app N1 Nq2
  have O2 := O1.keep kh2 all0
  have K2 : Keep h0 T2.heap [] := K1.trans kh2 all0
  obtain ⟨_, _, ⟨T3, L3, k3, n3⟩, -, X3, ⟨Lc3, hQ3, l3, y3, z3⟩, st3⟩ := Jvm.LawKit.callS X2 hx (y := (⟨"java/time/Duration", "ofNanos", "(J)Ljava/time/Duration;"⟩ : MethodName)) hown (mvT hZ (hw _ (List.mem_of_getElem? (i := 0) rfl))) (mvT hZ (hw _ (List.mem_of_getElem? (i := 1) rfl))) (mvT hZ (hw _ (List.mem_of_getElem? (i := 2) rfl))) (mvT hZ (hw _ (List.mem_of_getElem? (i := 3) rfl))) (by decide) (backOf (W := 0) (ofN l Z a0 hw [] xc wz T2.heap n0 O2 G1 G2 G3 G4) hZ (hw _ (List.mem_of_getElem? (i := 3) rfl)) (hw _ (List.mem_of_getElem? (i := 2) rfl)) (by decide) (by decide)) (g := (mkF m 38 #[.val (.long ja), .second, .val (.long jb), .second, .val (.long jc), .second, .val (.int k), .val (.int (1 : Int32)), .val (.long xa), .second, .val (.long xb), .second, .val (.long xc), .second, .val (.ref r_1), .val (.ref r_2), .unset, .unset, .unset, .unset, .unset, .unset, .unset, .unset, .unset, .unset] [(.long xc)])) rfl (by rw [hml]; rfl) (argsL := [(.long xc)]) (rest := []) (lenOf pd_5 rfl) rfl (by show 2 * 0 + _ ≤ _; exact Nat.le_of_eq rfl) (hb hby at_38) (fun _ _ => ⟨rfl, rfl, (by decide : 2 + 1 ≤ _), (by decide : 4 + 2 ≤ _)⟩)
  dsimp only [Pt.U, Pt.locs, Pt.cells, Pt.slots] at X3 l3 y3 z3 st3 hQ3
  subst l3 y3 z3
  obtain ⟨r_3, s1_3, n1_3, rfl, Nq3, kh3, Po3_0, Po3_1, Po3_2, pq3_0⟩ := hQ3
  have N3 := Fr.app N2 Nq3
  have O3 := O2.keep kh3 all0
  have K3 : Keep h0 T3.heap [] := K2.trans kh3 all0
  obtain ⟨T4, h4, X4, e4, E4, A4, D4, U4, st4⟩ := newO X3 hx hZ hown (hw _ (List.mem_of_getElem? (i := 23) rfl)) (hw _ (List.mem_of_getElem? (i := 24) rfl)) (hw _ (List.mem_of_getElem? (i := 25) rfl)) rfl (g := (mkF m 43 #[.val (.long ja), .second, .val (.long jb), .second, .val (.long jc), .second, .val (.int k), .val (.int (1 : Int32)), .val (.long xa), .second, .val (.long xb), .second, .val (.long xc), .second, .val (.ref r_1), .val (.ref r_2), .val (.ref r_3), .unset, .unset, .unset, .unset, .unset, .unset, .unset, .unset, .unset] [])) rfl (hb hby at_43) (by decide) (by decide)
  obtain ⟨b4, gz4⟩ : ∃ z, z = T3.heap.size := ⟨_, rfl⟩
  rw [← gz4] at A4 D4 U4 st4
  have sz_b4 : h0.size ≤ b4 := Nat.le_trans K3.1 (Nat.le_of_eq gz4.symm)
  have g_b4 : n0 ≤ b4 := Nat.le_trans Z0 sz_b4
  have O4 := O3.ext E4
  have K4 : Keep h0 h4 [] := K3.ext E4
  have Fi4_32 : Fld Z h4 b4 "com/example/admitd/admitd/gate/ServiceTime" "latest" "[J" .null := D4 (Or.inr (hw _ (List.mem_of_getElem? (i := 32) rfl))) (ty := (.array .long)) (by decide)
  have Fi4_57 : Fld Z h4 b4 "com/example/admitd/admitd/gate/ServiceTime" "count" "I" (.int (0 : Int32)) := D4 (Or.inl (hw _ (List.mem_of_getElem? (i := 57) rfl))) (ty := .int) (by decide)
  have Fi4_59 : Fld Z h4 b4 "com/example/admitd/admitd/gate/ServiceTime" "next" "I" (.int (0 : Int32)) := D4 (Or.inl (hw _ (List.mem_of_getElem? (i := 59) rfl))) (ty := .int) (by decide)
  have Fi4_61 : Fld Z h4 b4 "com/example/admitd/admitd/gate/ServiceTime" "sum" "J" (.long (0 : Int64)) := D4 (Or.inl (hw _ (List.mem_of_getElem? (i := 61) rfl))) (ty := .long) (by decide)
  obtain ⟨_, _, ⟨T5, L5, k5, n5⟩, -, X5, ⟨Lc5, hQ5, l5, y5, z5⟩, st5⟩ := X4.specialBack hx (y := (⟨"com/example/admitd/admitd/gate/ServiceTime", "<init>", "()V"⟩ : MethodName)) rfl hown (mvT hZ (hw _ (List.mem_of_getElem? (i := 26) rfl))) (mvT hZ (hw _ (List.mem_of_getElem? (i := 27) rfl))) (mvT hZ (hw _ (List.mem_of_getElem? (i := 28) rfl))) (by decide) (backOf (W := 1) (svI l Z a0 hw [] b4 h4 n0 O4 A4 Fi4_32 Fi4_57 Fi4_59 Fi4_61 g_b4) hZ (hw _ (List.mem_of_getElem? (i := 28) rfl)) (hw _ (List.mem_of_getElem? (i := 25) rfl)) (by decide) (by decide)) (g := (mkF m 47 #[.val (.long ja), .second, .val (.long jb), .second, .val (.long jc), .second, .val (.int k), .val (.int (1 : Int32)), .val (.long xa), .second, .val (.long xb), .second, .val (.long xc), .second, .val (.ref r_1), .val (.ref r_2), .val (.ref r_3), .unset, .unset, .unset, .unset, .unset, .unset, .unset, .unset, .unset] [(.ref b4), (.ref b4)])) rfl (by rw [hml]; rfl) (Steps.refl _) (a := b4) (argsL := []) (rest := [(.ref b4)]) (lenOf pd_6 rfl) rfl (by show 2 * 0 + _ ≤ _; exact Nat.le_of_eq rfl) (hb hby at_47) (fun _ _ => ⟨rfl, e4, (by decide : 4 + 1 ≤ _), (by decide : 10 + 32 ≤ _)⟩)
  dsimp only [Pt.U, Pt.locs, Pt.cells, Pt.slots] at X5 l5 y5 z5 st5 hQ5
  subst l5 y5 z5
  obtain ⟨la_5, rfl, Nq5, kh5, fz_la_5, Po5_0, Po5_1, Po5_2, Po5_3, Po5_4, Po5_5⟩ := hQ5
  have N5 := Fr.app N3 Nq5
  have sz_la_5 : h0.size ≤ la_5 := Nat.le_trans K4.1 fz_la_5
  have g_la_5 : n0 ≤ la_5 := Nat.le_trans Z0 sz_la_5
  have O5 := O4.keep kh5 (allS g_b4 all0)
  have K5 : Keep h0 T5.heap [] := K4.trans kh5 (allS (Or.inr sz_b4) all0)
  have c6 : Fld Z T5.heap r_1 "java/time/Duration" "seconds" "J" (.long s1_1) := ((((Po1_1.keep kh2 nin0).keep kh3 nin0).ext E4).keep kh5 (ninS (Nat.ne_of_lt (Nat.lt_of_lt_of_le (((Po1_0.keep kh2).keep kh3)).lt (Nat.le_of_eq gz4.symm))) nin0))
  have c7 : Fld Z T5.heap r_1 "java/time/Duration" "nanos" "I" (.int n1_1) := ((((Po1_2.keep kh2 nin0).keep kh3 nin0).ext E4).keep kh5 (ninS (Nat.ne_of_lt (Nat.lt_of_lt_of_le (((Po1_0.keep kh2).keep kh3)).lt (Nat.le_of_eq gz4.symm))) nin0))
  obtain ⟨cq8, kq8, q8a, q8b, q8c⟩ := isOf hZ rfl Po5_0
  obtain ⟨_, _, ⟨T8, L8, k8, n8⟩, -, X8, ⟨Lc8, hQ8, l8, y8, z8⟩, st8⟩ := X5.virtualBack hx (y := (⟨"com/example/admitd/admitd/gate/ServiceTime", "record", "(Ljava/time/Duration;)V"⟩ : MethodName)) (z := (⟨"com/example/admitd/admitd/gate/ServiceTime", "record", "(Ljava/time/Duration;)V"⟩ : MethodName)) hown (mvT hZ (hw _ (List.mem_of_getElem? (i := 33) rfl))) (mvT hZ (hw _ (List.mem_of_getElem? (i := 34) rfl))) (notFace_of_selects (args := #[]) (mvT hZ (hw _ (List.mem_of_getElem? (i := 36) rfl)))) (mvT hZ (hw _ (List.mem_of_getElem? (i := 36) rfl))) (mvT hZ (hw _ (List.mem_of_getElem? (i := 35) rfl))) (by decide) (backOf (W := 0) (rec0 l Z a0 hw [] b4 r_1 la_5 (0 : Int64) s1_1 n1_1 xa T5.heap n0 O5 Po5_0 Po5_1 Po5_2 Po5_3 Po5_4 ((((Po1_0.keep kh2).keep kh3).ext E4).keep kh5) c6 c7 Po5_5 g_b4 g_la_5 (Nat.ne_of_lt (Nat.lt_of_lt_of_le (A4).lt fz_la_5)) pq1_0) hZ (hw _ (List.mem_of_getElem? (i := 37) rfl)) (hw _ (List.mem_of_getElem? (i := 25) rfl)) (by decide) (by decide)) q8a q8c (g := (mkF m 62 #[.val (.long ja), .second, .val (.long jb), .second, .val (.long jc), .second, .val (.int k), .val (.int (1 : Int32)), .val (.long xa), .second, .val (.long xb), .second, .val (.long xc), .second, .val (.ref r_1), .val (.ref r_2), .val (.ref r_3), .val (.ref b4), .unset, .unset, .unset, .unset, .unset, .unset, .unset, .unset] [(.ref r_1), (.ref b4)])) rfl (by rw [hml]; rfl) (Steps.refl _) (argsL := [(.ref r_1)]) (rest := []) (lenOf pd_8 rfl) rfl (by show 2 * 0 + _ ≤ _; exact Nat.le_of_eq rfl) (hb hby at_62) (fun _ _ => ⟨rfl, rfl, (by decide : 5 + 0 ≤ _), (by decide : 42 + 0 ≤ _)⟩)
  dsimp only [Pt.U, Pt.locs, Pt.cells, Pt.slots] at X8 l8 y8 z8 st8 hQ8
  subst l8 y8 z8
  obtain ⟨rfl, Nq8, kh8, Po8_0, Po8_1, Po8_2, Po8_3, Po8_4, Po8_5⟩ := hQ8
  have N8 := Fr.app N5 Nq8
  have O8 := O5.keep kh8 (allS g_b4 (allS g_la_5 all0))
  have K8 : Keep h0 T8.heap [] := K5.trans kh8 (allS (Or.inr sz_b4) (allS (Or.inr sz_la_5) all0))
  obtain ⟨cq9, kq9, q9a, q9b, q9c⟩ := isOf hZ rfl Po8_0
  obtain ⟨_, _, ⟨T9, L9, k9, n9⟩, -, X9, ⟨Lc9, hQ9, l9, y9, z9⟩, st9⟩ := X8.virtualBack hx (y := (⟨"com/example/admitd/admitd/gate/ServiceTime", "mean", "()Ljava/time/Duration;"⟩ : MethodName)) (z := (⟨"com/example/admitd/admitd/gate/ServiceTime", "mean", "()Ljava/time/Duration;"⟩ : MethodName)) hown (mvT hZ (hw _ (List.mem_of_getElem? (i := 62) rfl))) (mvT hZ (hw _ (List.mem_of_getElem? (i := 63) rfl))) (notFace_of_selects (args := #[]) (mvT hZ (hw _ (List.mem_of_getElem? (i := 65) rfl)))) (mvT hZ (hw _ (List.mem_of_getElem? (i := 65) rfl))) (mvT hZ (hw _ (List.mem_of_getElem? (i := 64) rfl))) (by decide) (backOf (W := 0) (mean1 l Z a0 hw [] b4 (1 : Int32) ((0 : Int64) + (maxJ (0 : Int64) xa)) wz T8.heap n0 O8 G0 G1 G2 G3 G4 Po8_2 Po8_4 (by decide) (by decide)) hZ (hw _ (List.mem_of_getElem? (i := 66) rfl)) (hw _ (List.mem_of_getElem? (i := 25) rfl)) (by decide) (by decide)) q9a q9c (g := (mkF m 93 #[.val (.long ja), .second, .val (.long jb), .second, .val (.long jc), .second, .val (.int k), .val (.int (1 : Int32)), .val (.long xa), .second, .val (.long xb), .second, .val (.long xc), .second, .val (.ref r_1), .val (.ref r_2), .val (.ref r_3), .val (.ref b4), .unset, .unset, .unset, .unset, .unset, .unset, .unset, .unset] [(.ref b4)])) rfl (by rw [hml]; rfl) (Steps.refl _) (argsL := []) (rest := []) (lenOf pd_7 rfl) rfl (by show 2 * 0 + _ ≤ _; exact Nat.le_of_eq rfl) (hb hby at_93) (fun _ _ => ⟨rfl, rfl, (by decide : 5 + 1 ≤ _), (by decide : 42 + 2 ≤ _)⟩)
  dsimp only [Pt.U, Pt.locs, Pt.cells, Pt.slots] at X9 l9 y9 z9 st9 hQ9
  subst l9 y9 z9
  obtain ⟨r_9, s1_9, n1_9, rfl, Nq9, kh9, Po9_0, Po9_1, Po9_2, pq9_0⟩ := hQ9
  have N9 := Fr.app N8 Nq9
  have O9 := O8.keep kh9 all0
  have K9 : Keep h0 T9.heap [] := K8.trans kh9 all0
  obtain ⟨cq10, kq10, q10a, q10b, q10c⟩ := isOf hZ rfl Po9_0
  obtain ⟨_, _, ⟨T10, L10, k10, n10⟩, -, X10, ⟨Lc10, hQ10, l10, y10, z10⟩, st10⟩ := X9.virtualBack hx (y := (⟨"java/time/Duration", "toNanos", "()J"⟩ : MethodName)) (z := (⟨"java/time/Duration", "toNanos", "()J"⟩ : MethodName)) hown (mvT hZ (hw _ (List.mem_of_getElem? (i := 70) rfl))) (mvT hZ (hw _ (List.mem_of_getElem? (i := 39) rfl))) (notFace_of_selects (args := #[]) (mvT hZ (hw _ (List.mem_of_getElem? (i := 41) rfl)))) (mvT hZ (hw _ (List.mem_of_getElem? (i := 41) rfl))) (mvT hZ (hw _ (List.mem_of_getElem? (i := 40) rfl))) (by decide) (backOf (W := 0) (toN l Z a0 hw [] r_9 s1_9 n1_9 (maxJ (1000000 : Int64) (((0 : Int64) + (maxJ (0 : Int64) xa)) / ((1 : Int32).toInt64))) T9.heap n0 O9 Po9_1 Po9_2 pq9_0) hZ (hw _ (List.mem_of_getElem? (i := 42) rfl)) (hw _ (List.mem_of_getElem? (i := 2) rfl)) (by decide) (by decide)) q10a q10c (g := (mkF m 96 #[.val (.long ja), .second, .val (.long jb), .second, .val (.long jc), .second, .val (.int k), .val (.int (1 : Int32)), .val (.long xa), .second, .val (.long xb), .second, .val (.long xc), .second, .val (.ref r_1), .val (.ref r_2), .val (.ref r_3), .val (.ref b4), .unset, .unset, .unset, .unset, .unset, .unset, .unset, .unset] [(.ref r_9)])) rfl (by rw [hml]; rfl) (Steps.refl _) (argsL := []) (rest := []) (lenOf pd_4 rfl) rfl (by show 2 * 0 + _ ≤ _; exact Nat.le_of_eq rfl) (hb hby at_96) (fun _ _ => ⟨rfl, rfl, (by decide : 6 + 0 ≤ _), (by decide : 44 + 0 ≤ _)⟩)
  dsimp only [Pt.U, Pt.locs, Pt.cells, Pt.slots] at X10 l10 y10 z10 st10 hQ10
  subst l10 y10 z10
  obtain ⟨rfl, Nq10, kh10⟩ := hQ10
  have N10 := Fr.app N9 Nq10
  obtain ⟨_, _, ⟨T11, L11, k11, n11⟩, -, X11, ⟨Lc11, hQ11, l11, y11, z11⟩, st11⟩ := Jvm.LawKit.callS X10 hx (y := (⟨"com/example/admitd/admitd/gate/ServiceTimeMeanPinLaw", "clamp", "(J)J"⟩ : MethodName)) hown (mvT hZ (hw _ (List.mem_of_getElem? (i := 71) rfl))) (mvT hZ (hw _ (List.mem_of_getElem? (i := 72) rfl))) (mvT hZ (hw _ (List.mem_of_getElem? (i := 73) rfl))) (mvT hZ (hw _ (List.mem_of_getElem? (i := 74) rfl))) (by decide) (backOf (W := 0) (clampR l Z a0 hw [] xa T9.heap n0 O9 ) hZ (hw _ (List.mem_of_getElem? (i := 74) rfl)) (hw _ (List.mem_of_getElem? (i := 73) rfl)) (by decide) (by decide)) (g := (mkF m 116 #[.val (.long ja), .second, .val (.long jb), .second, .val (.long jc), .second, .val (.int k), .val (.int (1 : Int32)), .val (.long xa), .second, .val (.long xb), .second, .val (.long xc), .second, .val (.ref r_1), .val (.ref r_2), .val (.ref r_3), .val (.ref b4), .val (.long (maxJ (1000000 : Int64) (((0 : Int64) + (maxJ (0 : Int64) xa)) / ((1 : Int32).toInt64)))), .second, .unset, .unset, .unset, .unset, .unset, .unset] [(.long xa)])) rfl (by rw [hml]; rfl) (argsL := [(.long xa)]) (rest := []) (lenOf pd_0 rfl) rfl (by show 2 * 0 + _ ≤ _; exact Nat.le_of_eq rfl) (hb hby at_116) (fun _ _ => ⟨rfl, kh10, (by decide : 6 + 0 ≤ _), (by decide : 44 + 0 ≤ _)⟩)
  dsimp only [Pt.U, Pt.locs, Pt.cells, Pt.slots] at X11 l11 y11 z11 st11 hQ11
  subst l11 y11 z11
  obtain ⟨rfl, Nq11, kh11⟩ := hQ11
  have N11 := Fr.app N10 Nq11
  obtain ⟨fs, hr, hrun, hended, hW, hsame⟩ := X11.leave (v := some (.int (1 : Int32))) (fun h => by rw [Bd.returns] at h; cases h)
  refine ⟨_, _, pre0 _ ?_, hrun, hended, _, _, rfl, ?_, ⟨_, rfl⟩, hW, hsame.mono (by decide) (by decide)⟩
  · show Steps p.tables e below (s₁.setTop (mkF m 0 #[.val (.long ja), .second, .val (.long jb), .second, .val (.long jc), .second, .val (.int k), .unset, .unset, .unset, .unset, .unset, .unset, .unset, .unset, .unset, .unset, .unset, .unset, .unset, .unset, .unset, .unset, .unset, .unset, .unset] [])) _
    refine XS.iload X0.here hx rfl (hb hby at_0) rfl ?_
    show Steps p.tables e below (s₁.setTop (mkF m 2 #[.val (.long ja), .second, .val (.long jb), .second, .val (.long jc), .second, .val (.int k), .unset, .unset, .unset, .unset, .unset, .unset, .unset, .unset, .unset, .unset, .unset, .unset, .unset, .unset, .unset, .unset, .unset, .unset, .unset] [(.int k)])) _
    refine XS.iconst X0.here hx rfl (hb hby at_2) ?_
    show Steps p.tables e below (s₁.setTop (mkF m 3 #[.val (.long ja), .second, .val (.long jb), .second, .val (.long jc), .second, .val (.int k), .unset, .unset, .unset, .unset, .unset, .unset, .unset, .unset, .unset, .unset, .unset, .unset, .unset, .unset, .unset, .unset, .unset, .unset, .unset] [(.int (3 : Int32)), (.int k)])) _
    refine XS.iand X0.here hx rfl (hb hby at_3) rfl ?_
    show Steps p.tables e below (s₁.setTop (mkF m 4 #[.val (.long ja), .second, .val (.long jb), .second, .val (.long jc), .second, .val (.int k), .unset, .unset, .unset, .unset, .unset, .unset, .unset, .unset, .unset, .unset, .unset, .unset, .unset, .unset, .unset, .unset, .unset, .unset, .unset] [(.int (k &&& (3 : Int32)))])) _
    refine castTop (congrArg (fun z_ => (mkF m 4 #[.val (.long ja), .second, .val (.long jb), .second, .val (.long jc), .second, .val (.int k), .unset, .unset, .unset, .unset, .unset, .unset, .unset, .unset, .unset, .unset, .unset, .unset, .unset, .unset, .unset, .unset, .unset, .unset, .unset] [(.int z_)])) (hk : (k &&& (3 : Int32)) = (1 : Int32))) ?_
    show Steps p.tables e below (s₁.setTop (mkF m 4 #[.val (.long ja), .second, .val (.long jb), .second, .val (.long jc), .second, .val (.int k), .unset, .unset, .unset, .unset, .unset, .unset, .unset, .unset, .unset, .unset, .unset, .unset, .unset, .unset, .unset, .unset, .unset, .unset, .unset] [(.int (1 : Int32))])) _
    refine XS.istore X0.here hx rfl (hb hby at_4) rfl (l' := #[.val (.long ja), .second, .val (.long jb), .second, .val (.long jc), .second, .val (.int k), .val (.int (1 : Int32)), .unset, .unset, .unset, .unset, .unset, .unset, .unset, .unset, .unset, .unset, .unset, .unset, .unset, .unset, .unset, .unset, .unset, .unset]) rfl ?_
    show Steps p.tables e below (s₁.setTop (mkF m 6 #[.val (.long ja), .second, .val (.long jb), .second, .val (.long jc), .second, .val (.int k), .val (.int (1 : Int32)), .unset, .unset, .unset, .unset, .unset, .unset, .unset, .unset, .unset, .unset, .unset, .unset, .unset, .unset, .unset, .unset, .unset, .unset] [])) _
    refine XS.lloadN X0.here hx rfl (hb hby at_6) rfl ?_
    show Steps p.tables e below (s₁.setTop (mkF m 7 #[.val (.long ja), .second, .val (.long jb), .second, .val (.long jc), .second, .val (.int k), .val (.int (1 : Int32)), .unset, .unset, .unset, .unset, .unset, .unset, .unset, .unset, .unset, .unset, .unset, .unset, .unset, .unset, .unset, .unset, .unset, .unset] [(.long ja)])) _
    refine XS.iconst X0.here hx rfl (hb hby at_7) ?_
    show Steps p.tables e below (s₁.setTop (mkF m 8 #[.val (.long ja), .second, .val (.long jb), .second, .val (.long jc), .second, .val (.int k), .val (.int (1 : Int32)), .unset, .unset, .unset, .unset, .unset, .unset, .unset, .unset, .unset, .unset, .unset, .unset, .unset, .unset, .unset, .unset, .unset, .unset] [(.int (2 : Int32)), (.long ja)])) _
    refine XS.lshr X0.here hx rfl (hb hby at_8) rfl ?_
    show Steps p.tables e below (s₁.setTop (mkF m 9 #[.val (.long ja), .second, .val (.long jb), .second, .val (.long jc), .second, .val (.int k), .val (.int (1 : Int32)), .unset, .unset, .unset, .unset, .unset, .unset, .unset, .unset, .unset, .unset, .unset, .unset, .unset, .unset, .unset, .unset, .unset, .unset] [(.long (ja >>> ((2 : Int32) &&& 0x3f).toInt64))])) _
    refine castTop (congrArg (fun z_ => (mkF m 9 #[.val (.long ja), .second, .val (.long jb), .second, .val (.long jc), .second, .val (.int k), .val (.int (1 : Int32)), .unset, .unset, .unset, .unset, .unset, .unset, .unset, .unset, .unset, .unset, .unset, .unset, .unset, .unset, .unset, .unset, .unset, .unset] [(.long z_)])) (exa : (ja >>> ((2 : Int32) &&& 0x3f).toInt64) = xa)) ?_
    show Steps p.tables e below (s₁.setTop (mkF m 9 #[.val (.long ja), .second, .val (.long jb), .second, .val (.long jc), .second, .val (.int k), .val (.int (1 : Int32)), .unset, .unset, .unset, .unset, .unset, .unset, .unset, .unset, .unset, .unset, .unset, .unset, .unset, .unset, .unset, .unset, .unset, .unset] [(.long xa)])) _
    refine XS.lstore X0.here hx rfl (hb hby at_9) rfl (l' := #[.val (.long ja), .second, .val (.long jb), .second, .val (.long jc), .second, .val (.int k), .val (.int (1 : Int32)), .val (.long xa), .second, .unset, .unset, .unset, .unset, .unset, .unset, .unset, .unset, .unset, .unset, .unset, .unset, .unset, .unset, .unset, .unset]) rfl ?_
    show Steps p.tables e below (s₁.setTop (mkF m 11 #[.val (.long ja), .second, .val (.long jb), .second, .val (.long jc), .second, .val (.int k), .val (.int (1 : Int32)), .val (.long xa), .second, .unset, .unset, .unset, .unset, .unset, .unset, .unset, .unset, .unset, .unset, .unset, .unset, .unset, .unset, .unset, .unset] [])) _
    refine XS.lloadN X0.here hx rfl (hb hby at_11) rfl ?_
    show Steps p.tables e below (s₁.setTop (mkF m 12 #[.val (.long ja), .second, .val (.long jb), .second, .val (.long jc), .second, .val (.int k), .val (.int (1 : Int32)), .val (.long xa), .second, .unset, .unset, .unset, .unset, .unset, .unset, .unset, .unset, .unset, .unset, .unset, .unset, .unset, .unset, .unset, .unset] [(.long jb)])) _
    refine XS.iconst X0.here hx rfl (hb hby at_12) ?_
    show Steps p.tables e below (s₁.setTop (mkF m 13 #[.val (.long ja), .second, .val (.long jb), .second, .val (.long jc), .second, .val (.int k), .val (.int (1 : Int32)), .val (.long xa), .second, .unset, .unset, .unset, .unset, .unset, .unset, .unset, .unset, .unset, .unset, .unset, .unset, .unset, .unset, .unset, .unset] [(.int (2 : Int32)), (.long jb)])) _
    refine XS.lshr X0.here hx rfl (hb hby at_13) rfl ?_
    show Steps p.tables e below (s₁.setTop (mkF m 14 #[.val (.long ja), .second, .val (.long jb), .second, .val (.long jc), .second, .val (.int k), .val (.int (1 : Int32)), .val (.long xa), .second, .unset, .unset, .unset, .unset, .unset, .unset, .unset, .unset, .unset, .unset, .unset, .unset, .unset, .unset, .unset, .unset] [(.long (jb >>> ((2 : Int32) &&& 0x3f).toInt64))])) _
    refine castTop (congrArg (fun z_ => (mkF m 14 #[.val (.long ja), .second, .val (.long jb), .second, .val (.long jc), .second, .val (.int k), .val (.int (1 : Int32)), .val (.long xa), .second, .unset, .unset, .unset, .unset, .unset, .unset, .unset, .unset, .unset, .unset, .unset, .unset, .unset, .unset, .unset, .unset] [(.long z_)])) (exb : (jb >>> ((2 : Int32) &&& 0x3f).toInt64) = xb)) ?_
    show Steps p.tables e below (s₁.setTop (mkF m 14 #[.val (.long ja), .second, .val (.long jb), .second, .val (.long jc), .second, .val (.int k), .val (.int (1 : Int32)), .val (.long xa), .second, .unset, .unset, .unset, .unset, .unset, .unset, .unset, .unset, .unset, .unset, .unset, .unset, .unset, .unset, .unset, .unset] [(.long xb)])) _
    refine XS.lstore X0.here hx rfl (hb hby at_14) rfl (l' := #[.val (.long ja), .second, .val (.long jb), .second, .val (.long jc), .second, .val (.int k), .val (.int (1 : Int32)), .val (.long xa), .second, .val (.long xb), .second, .unset, .unset, .unset, .unset, .unset, .unset, .unset, .unset, .unset, .unset, .unset, .unset, .unset, .unset]) rfl ?_
    show Steps p.tables e below (s₁.setTop (mkF m 16 #[.val (.long ja), .second, .val (.long jb), .second, .val (.long jc), .second, .val (.int k), .val (.int (1 : Int32)), .val (.long xa), .second, .val (.long xb), .second, .unset, .unset, .unset, .unset, .unset, .unset, .unset, .unset, .unset, .unset, .unset, .unset, .unset, .unset] [])) _
    refine XS.lload X0.here hx rfl (hb hby at_16) rfl ?_
    show Steps p.tables e below (s₁.setTop (mkF m 18 #[.val (.long ja), .second, .val (.long jb), .second, .val (.long jc), .second, .val (.int k), .val (.int (1 : Int32)), .val (.long xa), .second, .val (.long xb), .second, .unset, .unset, .unset, .unset, .unset, .unset, .unset, .unset, .unset, .unset, .unset, .unset, .unset, .unset] [(.long jc)])) _
    refine XS.iconst X0.here hx rfl (hb hby at_18) ?_
    show Steps p.tables e below (s₁.setTop (mkF m 19 #[.val (.long ja), .second, .val (.long jb), .second, .val (.long jc), .second, .val (.int k), .val (.int (1 : Int32)), .val (.long xa), .second, .val (.long xb), .second, .unset, .unset, .unset, .unset, .unset, .unset, .unset, .unset, .unset, .unset, .unset, .unset, .unset, .unset] [(.int (2 : Int32)), (.long jc)])) _
    refine XS.lshr X0.here hx rfl (hb hby at_19) rfl ?_
    show Steps p.tables e below (s₁.setTop (mkF m 20 #[.val (.long ja), .second, .val (.long jb), .second, .val (.long jc), .second, .val (.int k), .val (.int (1 : Int32)), .val (.long xa), .second, .val (.long xb), .second, .unset, .unset, .unset, .unset, .unset, .unset, .unset, .unset, .unset, .unset, .unset, .unset, .unset, .unset] [(.long (jc >>> ((2 : Int32) &&& 0x3f).toInt64))])) _
    refine castTop (congrArg (fun z_ => (mkF m 20 #[.val (.long ja), .second, .val (.long jb), .second, .val (.long jc), .second, .val (.int k), .val (.int (1 : Int32)), .val (.long xa), .second, .val (.long xb), .second, .unset, .unset, .unset, .unset, .unset, .unset, .unset, .unset, .unset, .unset, .unset, .unset, .unset, .unset] [(.long z_)])) (exc : (jc >>> ((2 : Int32) &&& 0x3f).toInt64) = xc)) ?_
    show Steps p.tables e below (s₁.setTop (mkF m 20 #[.val (.long ja), .second, .val (.long jb), .second, .val (.long jc), .second, .val (.int k), .val (.int (1 : Int32)), .val (.long xa), .second, .val (.long xb), .second, .unset, .unset, .unset, .unset, .unset, .unset, .unset, .unset, .unset, .unset, .unset, .unset, .unset, .unset] [(.long xc)])) _
    refine XS.lstore X0.here hx rfl (hb hby at_20) rfl (l' := #[.val (.long ja), .second, .val (.long jb), .second, .val (.long jc), .second, .val (.int k), .val (.int (1 : Int32)), .val (.long xa), .second, .val (.long xb), .second, .val (.long xc), .second, .unset, .unset, .unset, .unset, .unset, .unset, .unset, .unset, .unset, .unset, .unset, .unset]) rfl ?_
    show Steps p.tables e below (s₁.setTop (mkF m 22 #[.val (.long ja), .second, .val (.long jb), .second, .val (.long jc), .second, .val (.int k), .val (.int (1 : Int32)), .val (.long xa), .second, .val (.long xb), .second, .val (.long xc), .second, .unset, .unset, .unset, .unset, .unset, .unset, .unset, .unset, .unset, .unset, .unset, .unset] [])) _
    refine XS.lload X0.here hx rfl (hb hby at_22) rfl ?_
    show Steps p.tables e below (s₁.setTop (mkF m 24 #[.val (.long ja), .second, .val (.long jb), .second, .val (.long jc), .second, .val (.int k), .val (.int (1 : Int32)), .val (.long xa), .second, .val (.long xb), .second, .val (.long xc), .second, .unset, .unset, .unset, .unset, .unset, .unset, .unset, .unset, .unset, .unset, .unset, .unset] [(.long xa)])) _
    refine st1 _ ?_
    show Steps p.tables e below (T1.setTop (mkF m 27 #[.val (.long ja), .second, .val (.long jb), .second, .val (.long jc), .second, .val (.int k), .val (.int (1 : Int32)), .val (.long xa), .second, .val (.long xb), .second, .val (.long xc), .second, .unset, .unset, .unset, .unset, .unset, .unset, .unset, .unset, .unset, .unset, .unset, .unset] [(.ref r_1)])) _
    refine XS.astore X1.here hx rfl (hb hby at_27) rfl rfl (l' := #[.val (.long ja), .second, .val (.long jb), .second, .val (.long jc), .second, .val (.int k), .val (.int (1 : Int32)), .val (.long xa), .second, .val (.long xb), .second, .val (.long xc), .second, .val (.ref r_1), .unset, .unset, .unset, .unset, .unset, .unset, .unset, .unset, .unset, .unset, .unset]) rfl ?_
    show Steps p.tables e below (T1.setTop (mkF m 29 #[.val (.long ja), .second, .val (.long jb), .second, .val (.long jc), .second, .val (.int k), .val (.int (1 : Int32)), .val (.long xa), .second, .val (.long xb), .second, .val (.long xc), .second, .val (.ref r_1), .unset, .unset, .unset, .unset, .unset, .unset, .unset, .unset, .unset, .unset, .unset] [])) _
    refine XS.lload X1.here hx rfl (hb hby at_29) rfl ?_
    show Steps p.tables e below (T1.setTop (mkF m 31 #[.val (.long ja), .second, .val (.long jb), .second, .val (.long jc), .second, .val (.int k), .val (.int (1 : Int32)), .val (.long xa), .second, .val (.long xb), .second, .val (.long xc), .second, .val (.ref r_1), .unset, .unset, .unset, .unset, .unset, .unset, .unset, .unset, .unset, .unset, .unset] [(.long xb)])) _
    refine st2 _ ?_
    show Steps p.tables e below (T2.setTop (mkF m 34 #[.val (.long ja), .second, .val (.long jb), .second, .val (.long jc), .second, .val (.int k), .val (.int (1 : Int32)), .val (.long xa), .second, .val (.long xb), .second, .val (.long xc), .second, .val (.ref r_1), .unset, .unset, .unset, .unset, .unset, .unset, .unset, .unset, .unset, .unset, .unset] [(.ref r_2)])) _
    refine XS.astore X2.here hx rfl (hb hby at_34) rfl rfl (l' := #[.val (.long ja), .second, .val (.long jb), .second, .val (.long jc), .second, .val (.int k), .val (.int (1 : Int32)), .val (.long xa), .second, .val (.long xb), .second, .val (.long xc), .second, .val (.ref r_1), .val (.ref r_2), .unset, .unset, .unset, .unset, .unset, .unset, .unset, .unset, .unset, .unset]) rfl ?_
    show Steps p.tables e below (T2.setTop (mkF m 36 #[.val (.long ja), .second, .val (.long jb), .second, .val (.long jc), .second, .val (.int k), .val (.int (1 : Int32)), .val (.long xa), .second, .val (.long xb), .second, .val (.long xc), .second, .val (.ref r_1), .val (.ref r_2), .unset, .unset, .unset, .unset, .unset, .unset, .unset, .unset, .unset, .unset] [])) _
    refine XS.lload X2.here hx rfl (hb hby at_36) rfl ?_
    show Steps p.tables e below (T2.setTop (mkF m 38 #[.val (.long ja), .second, .val (.long jb), .second, .val (.long jc), .second, .val (.int k), .val (.int (1 : Int32)), .val (.long xa), .second, .val (.long xb), .second, .val (.long xc), .second, .val (.ref r_1), .val (.ref r_2), .unset, .unset, .unset, .unset, .unset, .unset, .unset, .unset, .unset, .unset] [(.long xc)])) _
    refine st3 _ ?_
    show Steps p.tables e below (T3.setTop (mkF m 41 #[.val (.long ja), .second, .val (.long jb), .second, .val (.long jc), .second, .val (.int k), .val (.int (1 : Int32)), .val (.long xa), .second, .val (.long xb), .second, .val (.long xc), .second, .val (.ref r_1), .val (.ref r_2), .unset, .unset, .unset, .unset, .unset, .unset, .unset, .unset, .unset, .unset] [(.ref r_3)])) _
    refine XS.astore X3.here hx rfl (hb hby at_41) rfl rfl (l' := #[.val (.long ja), .second, .val (.long jb), .second, .val (.long jc), .second, .val (.int k), .val (.int (1 : Int32)), .val (.long xa), .second, .val (.long xb), .second, .val (.long xc), .second, .val (.ref r_1), .val (.ref r_2), .val (.ref r_3), .unset, .unset, .unset, .unset, .unset, .unset, .unset, .unset, .unset]) rfl ?_
    show Steps p.tables e below (T3.setTop (mkF m 43 #[.val (.long ja), .second, .val (.long jb), .second, .val (.long jc), .second, .val (.int k), .val (.int (1 : Int32)), .val (.long xa), .second, .val (.long xb), .second, .val (.long xc), .second, .val (.ref r_1), .val (.ref r_2), .val (.ref r_3), .unset, .unset, .unset, .unset, .unset, .unset, .unset, .unset, .unset] [])) _
    refine st4 _ ?_
    show Steps p.tables e below (T4.setTop (mkF m 46 #[.val (.long ja), .second, .val (.long jb), .second, .val (.long jc), .second, .val (.int k), .val (.int (1 : Int32)), .val (.long xa), .second, .val (.long xb), .second, .val (.long xc), .second, .val (.ref r_1), .val (.ref r_2), .val (.ref r_3), .unset, .unset, .unset, .unset, .unset, .unset, .unset, .unset, .unset] [(.ref b4)])) _
    refine XS.dup X4.here hx rfl (hb hby at_46) rfl rfl ?_
    show Steps p.tables e below (T4.setTop (mkF m 47 #[.val (.long ja), .second, .val (.long jb), .second, .val (.long jc), .second, .val (.int k), .val (.int (1 : Int32)), .val (.long xa), .second, .val (.long xb), .second, .val (.long xc), .second, .val (.ref r_1), .val (.ref r_2), .val (.ref r_3), .unset, .unset, .unset, .unset, .unset, .unset, .unset, .unset, .unset] [(.ref b4), (.ref b4)])) _
    refine st5.trans ?_
    show Steps p.tables e below (T5.setTop (mkF m 50 #[.val (.long ja), .second, .val (.long jb), .second, .val (.long jc), .second, .val (.int k), .val (.int (1 : Int32)), .val (.long xa), .second, .val (.long xb), .second, .val (.long xc), .second, .val (.ref r_1), .val (.ref r_2), .val (.ref r_3), .unset, .unset, .unset, .unset, .unset, .unset, .unset, .unset, .unset] [(.ref b4)])) _
    refine XS.astore X5.here hx rfl (hb hby at_50) rfl rfl (l' := #[.val (.long ja), .second, .val (.long jb), .second, .val (.long jc), .second, .val (.int k), .val (.int (1 : Int32)), .val (.long xa), .second, .val (.long xb), .second, .val (.long xc), .second, .val (.ref r_1), .val (.ref r_2), .val (.ref r_3), .val (.ref b4), .unset, .unset, .unset, .unset, .unset, .unset, .unset, .unset]) rfl ?_
    show Steps p.tables e below (T5.setTop (mkF m 52 #[.val (.long ja), .second, .val (.long jb), .second, .val (.long jc), .second, .val (.int k), .val (.int (1 : Int32)), .val (.long xa), .second, .val (.long xb), .second, .val (.long xc), .second, .val (.ref r_1), .val (.ref r_2), .val (.ref r_3), .val (.ref b4), .unset, .unset, .unset, .unset, .unset, .unset, .unset, .unset] [])) _
    refine XS.iload X5.here hx rfl (hb hby at_52) rfl ?_
    show Steps p.tables e below (T5.setTop (mkF m 54 #[.val (.long ja), .second, .val (.long jb), .second, .val (.long jc), .second, .val (.int k), .val (.int (1 : Int32)), .val (.long xa), .second, .val (.long xb), .second, .val (.long xc), .second, .val (.ref r_1), .val (.ref r_2), .val (.ref r_3), .val (.ref b4), .unset, .unset, .unset, .unset, .unset, .unset, .unset, .unset] [(.int (1 : Int32))])) _
    refine XS.iconst X5.here hx rfl (hb hby at_54) ?_
    show Steps p.tables e below (T5.setTop (mkF m 55 #[.val (.long ja), .second, .val (.long jb), .second, .val (.long jc), .second, .val (.int k), .val (.int (1 : Int32)), .val (.long xa), .second, .val (.long xb), .second, .val (.long xc), .second, .val (.ref r_1), .val (.ref r_2), .val (.ref r_3), .val (.ref b4), .unset, .unset, .unset, .unset, .unset, .unset, .unset, .unset] [(.int (1 : Int32)), (.int (1 : Int32))])) _
    refine XS.icmpNo X5.here hx rfl (hb hby at_55) rfl (flt (by decide : ¬ ((1 : Int32) < (1 : Int32)))).1 ?_
    show Steps p.tables e below (T5.setTop (mkF m 58 #[.val (.long ja), .second, .val (.long jb), .second, .val (.long jc), .second, .val (.int k), .val (.int (1 : Int32)), .val (.long xa), .second, .val (.long xb), .second, .val (.long xc), .second, .val (.ref r_1), .val (.ref r_2), .val (.ref r_3), .val (.ref b4), .unset, .unset, .unset, .unset, .unset, .unset, .unset, .unset] [])) _
    refine XS.aload X5.here hx rfl (hb hby at_58) rfl rfl ?_
    show Steps p.tables e below (T5.setTop (mkF m 60 #[.val (.long ja), .second, .val (.long jb), .second, .val (.long jc), .second, .val (.int k), .val (.int (1 : Int32)), .val (.long xa), .second, .val (.long xb), .second, .val (.long xc), .second, .val (.ref r_1), .val (.ref r_2), .val (.ref r_3), .val (.ref b4), .unset, .unset, .unset, .unset, .unset, .unset, .unset, .unset] [(.ref b4)])) _
    refine XS.aload X5.here hx rfl (hb hby at_60) rfl rfl ?_
    show Steps p.tables e below (T5.setTop (mkF m 62 #[.val (.long ja), .second, .val (.long jb), .second, .val (.long jc), .second, .val (.int k), .val (.int (1 : Int32)), .val (.long xa), .second, .val (.long xb), .second, .val (.long xc), .second, .val (.ref r_1), .val (.ref r_2), .val (.ref r_3), .val (.ref b4), .unset, .unset, .unset, .unset, .unset, .unset, .unset, .unset] [(.ref r_1), (.ref b4)])) _
    refine st8.trans ?_
    show Steps p.tables e below (T8.setTop (mkF m 65 #[.val (.long ja), .second, .val (.long jb), .second, .val (.long jc), .second, .val (.int k), .val (.int (1 : Int32)), .val (.long xa), .second, .val (.long xb), .second, .val (.long xc), .second, .val (.ref r_1), .val (.ref r_2), .val (.ref r_3), .val (.ref b4), .unset, .unset, .unset, .unset, .unset, .unset, .unset, .unset] [])) _
    refine XS.iload X8.here hx rfl (hb hby at_65) rfl ?_
    show Steps p.tables e below (T8.setTop (mkF m 67 #[.val (.long ja), .second, .val (.long jb), .second, .val (.long jc), .second, .val (.int k), .val (.int (1 : Int32)), .val (.long xa), .second, .val (.long xb), .second, .val (.long xc), .second, .val (.ref r_1), .val (.ref r_2), .val (.ref r_3), .val (.ref b4), .unset, .unset, .unset, .unset, .unset, .unset, .unset, .unset] [(.int (1 : Int32))])) _
    refine XS.iconst X8.here hx rfl (hb hby at_67) ?_
    show Steps p.tables e below (T8.setTop (mkF m 68 #[.val (.long ja), .second, .val (.long jb), .second, .val (.long jc), .second, .val (.int k), .val (.int (1 : Int32)), .val (.long xa), .second, .val (.long xb), .second, .val (.long xc), .second, .val (.ref r_1), .val (.ref r_2), .val (.ref r_3), .val (.ref b4), .unset, .unset, .unset, .unset, .unset, .unset, .unset, .unset] [(.int (2 : Int32)), (.int (1 : Int32))])) _
    refine XS.icmpYes X8.here hx rfl (pc0 := 68) (pc' := 78) rfl (hb hby at_68) rfl (tlt (by decide : (1 : Int32) < (2 : Int32))).1 (by decide) (by decide) ?_
    show Steps p.tables e below (T8.setTop (mkF m 78 #[.val (.long ja), .second, .val (.long jb), .second, .val (.long jc), .second, .val (.int k), .val (.int (1 : Int32)), .val (.long xa), .second, .val (.long xb), .second, .val (.long xc), .second, .val (.ref r_1), .val (.ref r_2), .val (.ref r_3), .val (.ref b4), .unset, .unset, .unset, .unset, .unset, .unset, .unset, .unset] [])) _
    refine XS.iload X8.here hx rfl (hb hby at_78) rfl ?_
    show Steps p.tables e below (T8.setTop (mkF m 80 #[.val (.long ja), .second, .val (.long jb), .second, .val (.long jc), .second, .val (.int k), .val (.int (1 : Int32)), .val (.long xa), .second, .val (.long xb), .second, .val (.long xc), .second, .val (.ref r_1), .val (.ref r_2), .val (.ref r_3), .val (.ref b4), .unset, .unset, .unset, .unset, .unset, .unset, .unset, .unset] [(.int (1 : Int32))])) _
    refine XS.iconst X8.here hx rfl (hb hby at_80) ?_
    show Steps p.tables e below (T8.setTop (mkF m 81 #[.val (.long ja), .second, .val (.long jb), .second, .val (.long jc), .second, .val (.int k), .val (.int (1 : Int32)), .val (.long xa), .second, .val (.long xb), .second, .val (.long xc), .second, .val (.ref r_1), .val (.ref r_2), .val (.ref r_3), .val (.ref b4), .unset, .unset, .unset, .unset, .unset, .unset, .unset, .unset] [(.int (3 : Int32)), (.int (1 : Int32))])) _
    refine XS.icmpYes X8.here hx rfl (pc0 := 81) (pc' := 91) rfl (hb hby at_81) rfl (tlt (by decide : (1 : Int32) < (3 : Int32))).1 (by decide) (by decide) ?_
    show Steps p.tables e below (T8.setTop (mkF m 91 #[.val (.long ja), .second, .val (.long jb), .second, .val (.long jc), .second, .val (.int k), .val (.int (1 : Int32)), .val (.long xa), .second, .val (.long xb), .second, .val (.long xc), .second, .val (.ref r_1), .val (.ref r_2), .val (.ref r_3), .val (.ref b4), .unset, .unset, .unset, .unset, .unset, .unset, .unset, .unset] [])) _
    refine XS.aload X8.here hx rfl (hb hby at_91) rfl rfl ?_
    show Steps p.tables e below (T8.setTop (mkF m 93 #[.val (.long ja), .second, .val (.long jb), .second, .val (.long jc), .second, .val (.int k), .val (.int (1 : Int32)), .val (.long xa), .second, .val (.long xb), .second, .val (.long xc), .second, .val (.ref r_1), .val (.ref r_2), .val (.ref r_3), .val (.ref b4), .unset, .unset, .unset, .unset, .unset, .unset, .unset, .unset] [(.ref b4)])) _
    refine st9.trans ?_
    show Steps p.tables e below (T9.setTop (mkF m 96 #[.val (.long ja), .second, .val (.long jb), .second, .val (.long jc), .second, .val (.int k), .val (.int (1 : Int32)), .val (.long xa), .second, .val (.long xb), .second, .val (.long xc), .second, .val (.ref r_1), .val (.ref r_2), .val (.ref r_3), .val (.ref b4), .unset, .unset, .unset, .unset, .unset, .unset, .unset, .unset] [(.ref r_9)])) _
    refine st10.trans ?_
    show Steps p.tables e below (T10.setTop (mkF m 99 #[.val (.long ja), .second, .val (.long jb), .second, .val (.long jc), .second, .val (.int k), .val (.int (1 : Int32)), .val (.long xa), .second, .val (.long xb), .second, .val (.long xc), .second, .val (.ref r_1), .val (.ref r_2), .val (.ref r_3), .val (.ref b4), .unset, .unset, .unset, .unset, .unset, .unset, .unset, .unset] [(.long (maxJ (1000000 : Int64) (((0 : Int64) + (maxJ (0 : Int64) xa)) / ((1 : Int32).toInt64))))])) _
    refine XS.lstore X10.here hx rfl (hb hby at_99) rfl (l' := #[.val (.long ja), .second, .val (.long jb), .second, .val (.long jc), .second, .val (.int k), .val (.int (1 : Int32)), .val (.long xa), .second, .val (.long xb), .second, .val (.long xc), .second, .val (.ref r_1), .val (.ref r_2), .val (.ref r_3), .val (.ref b4), .val (.long (maxJ (1000000 : Int64) (((0 : Int64) + (maxJ (0 : Int64) xa)) / ((1 : Int32).toInt64)))), .second, .unset, .unset, .unset, .unset, .unset, .unset]) rfl ?_
    show Steps p.tables e below (T10.setTop (mkF m 101 #[.val (.long ja), .second, .val (.long jb), .second, .val (.long jc), .second, .val (.int k), .val (.int (1 : Int32)), .val (.long xa), .second, .val (.long xb), .second, .val (.long xc), .second, .val (.ref r_1), .val (.ref r_2), .val (.ref r_3), .val (.ref b4), .val (.long (maxJ (1000000 : Int64) (((0 : Int64) + (maxJ (0 : Int64) xa)) / ((1 : Int32).toInt64)))), .second, .unset, .unset, .unset, .unset, .unset, .unset] [])) _
    refine XS.iload X10.here hx rfl (hb hby at_101) rfl ?_
    show Steps p.tables e below (T10.setTop (mkF m 103 #[.val (.long ja), .second, .val (.long jb), .second, .val (.long jc), .second, .val (.int k), .val (.int (1 : Int32)), .val (.long xa), .second, .val (.long xb), .second, .val (.long xc), .second, .val (.ref r_1), .val (.ref r_2), .val (.ref r_3), .val (.ref b4), .val (.long (maxJ (1000000 : Int64) (((0 : Int64) + (maxJ (0 : Int64) xa)) / ((1 : Int32).toInt64)))), .second, .unset, .unset, .unset, .unset, .unset, .unset] [(.int (1 : Int32))])) _
    refine XS.ifYes X10.here hx rfl (pc0 := 103) (pc' := 114) rfl (hb hby at_103) rfl ((if0 _ _).trans (feq (by decide : ¬ ((1 : Int32) = (0 : Int32)))).2) (by decide) (by decide) ?_
    show Steps p.tables e below (T10.setTop (mkF m 114 #[.val (.long ja), .second, .val (.long jb), .second, .val (.long jc), .second, .val (.int k), .val (.int (1 : Int32)), .val (.long xa), .second, .val (.long xb), .second, .val (.long xc), .second, .val (.ref r_1), .val (.ref r_2), .val (.ref r_3), .val (.ref b4), .val (.long (maxJ (1000000 : Int64) (((0 : Int64) + (maxJ (0 : Int64) xa)) / ((1 : Int32).toInt64)))), .second, .unset, .unset, .unset, .unset, .unset, .unset] [])) _
    refine XS.lload X10.here hx rfl (hb hby at_114) rfl ?_
    show Steps p.tables e below (T10.setTop (mkF m 116 #[.val (.long ja), .second, .val (.long jb), .second, .val (.long jc), .second, .val (.int k), .val (.int (1 : Int32)), .val (.long xa), .second, .val (.long xb), .second, .val (.long xc), .second, .val (.ref r_1), .val (.ref r_2), .val (.ref r_3), .val (.ref b4), .val (.long (maxJ (1000000 : Int64) (((0 : Int64) + (maxJ (0 : Int64) xa)) / ((1 : Int32).toInt64)))), .second, .unset, .unset, .unset, .unset, .unset, .unset] [(.long xa)])) _
    refine st11 _ ?_
    show Steps p.tables e below (T11.setTop (mkF m 119 #[.val (.long ja), .second, .val (.long jb), .second, .val (.long jc), .second, .val (.int k), .val (.int (1 : Int32)), .val (.long xa), .second, .val (.long xb), .second, .val (.long xc), .second, .val (.ref r_1), .val (.ref r_2), .val (.ref r_3), .val (.ref b4), .val (.long (maxJ (1000000 : Int64) (((0 : Int64) + (maxJ (0 : Int64) xa)) / ((1 : Int32).toInt64)))), .second, .unset, .unset, .unset, .unset, .unset, .unset] [(.long (clampJ xa))])) _
    refine XS.lstore X11.here hx rfl (hb hby at_119) rfl (l' := #[.val (.long ja), .second, .val (.long jb), .second, .val (.long jc), .second, .val (.int k), .val (.int (1 : Int32)), .val (.long xa), .second, .val (.long xb), .second, .val (.long xc), .second, .val (.ref r_1), .val (.ref r_2), .val (.ref r_3), .val (.ref b4), .val (.long (maxJ (1000000 : Int64) (((0 : Int64) + (maxJ (0 : Int64) xa)) / ((1 : Int32).toInt64)))), .second, .unset, .unset, .val (.long (clampJ xa)), .second, .unset, .unset]) rfl ?_
    show Steps p.tables e below (T11.setTop (mkF m 121 #[.val (.long ja), .second, .val (.long jb), .second, .val (.long jc), .second, .val (.int k), .val (.int (1 : Int32)), .val (.long xa), .second, .val (.long xb), .second, .val (.long xc), .second, .val (.ref r_1), .val (.ref r_2), .val (.ref r_3), .val (.ref b4), .val (.long (maxJ (1000000 : Int64) (((0 : Int64) + (maxJ (0 : Int64) xa)) / ((1 : Int32).toInt64)))), .second, .unset, .unset, .val (.long (clampJ xa)), .second, .unset, .unset] [])) _
    refine XS.iload X11.here hx rfl (hb hby at_121) rfl ?_
    show Steps p.tables e below (T11.setTop (mkF m 123 #[.val (.long ja), .second, .val (.long jb), .second, .val (.long jc), .second, .val (.int k), .val (.int (1 : Int32)), .val (.long xa), .second, .val (.long xb), .second, .val (.long xc), .second, .val (.ref r_1), .val (.ref r_2), .val (.ref r_3), .val (.ref b4), .val (.long (maxJ (1000000 : Int64) (((0 : Int64) + (maxJ (0 : Int64) xa)) / ((1 : Int32).toInt64)))), .second, .unset, .unset, .val (.long (clampJ xa)), .second, .unset, .unset] [(.int (1 : Int32))])) _
    refine XS.iconst X11.here hx rfl (hb hby at_123) ?_
    show Steps p.tables e below (T11.setTop (mkF m 124 #[.val (.long ja), .second, .val (.long jb), .second, .val (.long jc), .second, .val (.int k), .val (.int (1 : Int32)), .val (.long xa), .second, .val (.long xb), .second, .val (.long xc), .second, .val (.ref r_1), .val (.ref r_2), .val (.ref r_3), .val (.ref b4), .val (.long (maxJ (1000000 : Int64) (((0 : Int64) + (maxJ (0 : Int64) xa)) / ((1 : Int32).toInt64)))), .second, .unset, .unset, .val (.long (clampJ xa)), .second, .unset, .unset] [(.int (2 : Int32)), (.int (1 : Int32))])) _
    refine XS.icmpYes X11.here hx rfl (pc0 := 124) (pc' := 137) rfl (hb hby at_124) rfl (tlt (by decide : (1 : Int32) < (2 : Int32))).1 (by decide) (by decide) ?_
    show Steps p.tables e below (T11.setTop (mkF m 137 #[.val (.long ja), .second, .val (.long jb), .second, .val (.long jc), .second, .val (.int k), .val (.int (1 : Int32)), .val (.long xa), .second, .val (.long xb), .second, .val (.long xc), .second, .val (.ref r_1), .val (.ref r_2), .val (.ref r_3), .val (.ref b4), .val (.long (maxJ (1000000 : Int64) (((0 : Int64) + (maxJ (0 : Int64) xa)) / ((1 : Int32).toInt64)))), .second, .unset, .unset, .val (.long (clampJ xa)), .second, .unset, .unset] [])) _
    refine XS.iload X11.here hx rfl (hb hby at_137) rfl ?_
    show Steps p.tables e below (T11.setTop (mkF m 139 #[.val (.long ja), .second, .val (.long jb), .second, .val (.long jc), .second, .val (.int k), .val (.int (1 : Int32)), .val (.long xa), .second, .val (.long xb), .second, .val (.long xc), .second, .val (.ref r_1), .val (.ref r_2), .val (.ref r_3), .val (.ref b4), .val (.long (maxJ (1000000 : Int64) (((0 : Int64) + (maxJ (0 : Int64) xa)) / ((1 : Int32).toInt64)))), .second, .unset, .unset, .val (.long (clampJ xa)), .second, .unset, .unset] [(.int (1 : Int32))])) _
    refine XS.iconst X11.here hx rfl (hb hby at_139) ?_
    show Steps p.tables e below (T11.setTop (mkF m 140 #[.val (.long ja), .second, .val (.long jb), .second, .val (.long jc), .second, .val (.int k), .val (.int (1 : Int32)), .val (.long xa), .second, .val (.long xb), .second, .val (.long xc), .second, .val (.ref r_1), .val (.ref r_2), .val (.ref r_3), .val (.ref b4), .val (.long (maxJ (1000000 : Int64) (((0 : Int64) + (maxJ (0 : Int64) xa)) / ((1 : Int32).toInt64)))), .second, .unset, .unset, .val (.long (clampJ xa)), .second, .unset, .unset] [(.int (3 : Int32)), (.int (1 : Int32))])) _
    refine XS.icmpYes X11.here hx rfl (pc0 := 140) (pc' := 153) rfl (hb hby at_140) rfl (tlt (by decide : (1 : Int32) < (3 : Int32))).1 (by decide) (by decide) ?_
    show Steps p.tables e below (T11.setTop (mkF m 153 #[.val (.long ja), .second, .val (.long jb), .second, .val (.long jc), .second, .val (.int k), .val (.int (1 : Int32)), .val (.long xa), .second, .val (.long xb), .second, .val (.long xc), .second, .val (.ref r_1), .val (.ref r_2), .val (.ref r_3), .val (.ref b4), .val (.long (maxJ (1000000 : Int64) (((0 : Int64) + (maxJ (0 : Int64) xa)) / ((1 : Int32).toInt64)))), .second, .unset, .unset, .val (.long (clampJ xa)), .second, .unset, .unset] [])) _
    refine XS.lload X11.here hx rfl (hb hby at_153) rfl ?_
    show Steps p.tables e below (T11.setTop (mkF m 155 #[.val (.long ja), .second, .val (.long jb), .second, .val (.long jc), .second, .val (.int k), .val (.int (1 : Int32)), .val (.long xa), .second, .val (.long xb), .second, .val (.long xc), .second, .val (.ref r_1), .val (.ref r_2), .val (.ref r_3), .val (.ref b4), .val (.long (maxJ (1000000 : Int64) (((0 : Int64) + (maxJ (0 : Int64) xa)) / ((1 : Int32).toInt64)))), .second, .unset, .unset, .val (.long (clampJ xa)), .second, .unset, .unset] [(.long (clampJ xa))])) _
    refine XS.iload X11.here hx rfl (hb hby at_155) rfl ?_
    show Steps p.tables e below (T11.setTop (mkF m 157 #[.val (.long ja), .second, .val (.long jb), .second, .val (.long jc), .second, .val (.int k), .val (.int (1 : Int32)), .val (.long xa), .second, .val (.long xb), .second, .val (.long xc), .second, .val (.ref r_1), .val (.ref r_2), .val (.ref r_3), .val (.ref b4), .val (.long (maxJ (1000000 : Int64) (((0 : Int64) + (maxJ (0 : Int64) xa)) / ((1 : Int32).toInt64)))), .second, .unset, .unset, .val (.long (clampJ xa)), .second, .unset, .unset] [(.int (1 : Int32)), (.long (clampJ xa))])) _
    refine XS.i2l X11.here hx rfl (hb hby at_157) rfl ?_
    show Steps p.tables e below (T11.setTop (mkF m 158 #[.val (.long ja), .second, .val (.long jb), .second, .val (.long jc), .second, .val (.int k), .val (.int (1 : Int32)), .val (.long xa), .second, .val (.long xb), .second, .val (.long xc), .second, .val (.ref r_1), .val (.ref r_2), .val (.ref r_3), .val (.ref b4), .val (.long (maxJ (1000000 : Int64) (((0 : Int64) + (maxJ (0 : Int64) xa)) / ((1 : Int32).toInt64)))), .second, .unset, .unset, .val (.long (clampJ xa)), .second, .unset, .unset] [(.long ((1 : Int32).toInt64)), (.long (clampJ xa))])) _
    refine XS.ldiv X11.here hx rfl (hb hby at_158) rfl (by decide) ?_
    show Steps p.tables e below (T11.setTop (mkF m 159 #[.val (.long ja), .second, .val (.long jb), .second, .val (.long jc), .second, .val (.int k), .val (.int (1 : Int32)), .val (.long xa), .second, .val (.long xb), .second, .val (.long xc), .second, .val (.ref r_1), .val (.ref r_2), .val (.ref r_3), .val (.ref b4), .val (.long (maxJ (1000000 : Int64) (((0 : Int64) + (maxJ (0 : Int64) xa)) / ((1 : Int32).toInt64)))), .second, .unset, .unset, .val (.long (clampJ xa)), .second, .unset, .unset] [(.long ((clampJ xa) / ((1 : Int32).toInt64)))])) _
    refine XS.lstore X11.here hx rfl (hb hby at_159) rfl (l' := #[.val (.long ja), .second, .val (.long jb), .second, .val (.long jc), .second, .val (.int k), .val (.int (1 : Int32)), .val (.long xa), .second, .val (.long xb), .second, .val (.long xc), .second, .val (.ref r_1), .val (.ref r_2), .val (.ref r_3), .val (.ref b4), .val (.long (maxJ (1000000 : Int64) (((0 : Int64) + (maxJ (0 : Int64) xa)) / ((1 : Int32).toInt64)))), .second, .unset, .unset, .val (.long (clampJ xa)), .second, .val (.long ((clampJ xa) / ((1 : Int32).toInt64))), .second]) rfl ?_
    show Steps p.tables e below (T11.setTop (mkF m 161 #[.val (.long ja), .second, .val (.long jb), .second, .val (.long jc), .second, .val (.int k), .val (.int (1 : Int32)), .val (.long xa), .second, .val (.long xb), .second, .val (.long xc), .second, .val (.ref r_1), .val (.ref r_2), .val (.ref r_3), .val (.ref b4), .val (.long (maxJ (1000000 : Int64) (((0 : Int64) + (maxJ (0 : Int64) xa)) / ((1 : Int32).toInt64)))), .second, .unset, .unset, .val (.long (clampJ xa)), .second, .val (.long ((clampJ xa) / ((1 : Int32).toInt64))), .second] [])) _
    refine XS.lload X11.here hx rfl (hb hby at_161) rfl ?_
    show Steps p.tables e below (T11.setTop (mkF m 163 #[.val (.long ja), .second, .val (.long jb), .second, .val (.long jc), .second, .val (.int k), .val (.int (1 : Int32)), .val (.long xa), .second, .val (.long xb), .second, .val (.long xc), .second, .val (.ref r_1), .val (.ref r_2), .val (.ref r_3), .val (.ref b4), .val (.long (maxJ (1000000 : Int64) (((0 : Int64) + (maxJ (0 : Int64) xa)) / ((1 : Int32).toInt64)))), .second, .unset, .unset, .val (.long (clampJ xa)), .second, .val (.long ((clampJ xa) / ((1 : Int32).toInt64))), .second] [(.long ((clampJ xa) / ((1 : Int32).toInt64)))])) _
    refine X11.ldc2Long hx hown (mvT hZ (hw _ (List.mem_of_getElem? (i := 75) rfl))) (g := (mkF m 163 #[.val (.long ja), .second, .val (.long jb), .second, .val (.long jc), .second, .val (.int k), .val (.int (1 : Int32)), .val (.long xa), .second, .val (.long xb), .second, .val (.long xc), .second, .val (.ref r_1), .val (.ref r_2), .val (.ref r_3), .val (.ref b4), .val (.long (maxJ (1000000 : Int64) (((0 : Int64) + (maxJ (0 : Int64) xa)) / ((1 : Int32).toInt64)))), .second, .unset, .unset, .val (.long (clampJ xa)), .second, .val (.long ((clampJ xa) / ((1 : Int32).toInt64))), .second] [(.long ((clampJ xa) / ((1 : Int32).toInt64)))])) rfl (hb hby at_163) _ ?_
    show Steps p.tables e below (T11.setTop (mkF m 166 #[.val (.long ja), .second, .val (.long jb), .second, .val (.long jc), .second, .val (.int k), .val (.int (1 : Int32)), .val (.long xa), .second, .val (.long xb), .second, .val (.long xc), .second, .val (.ref r_1), .val (.ref r_2), .val (.ref r_3), .val (.ref b4), .val (.long (maxJ (1000000 : Int64) (((0 : Int64) + (maxJ (0 : Int64) xa)) / ((1 : Int32).toInt64)))), .second, .unset, .unset, .val (.long (clampJ xa)), .second, .val (.long ((clampJ xa) / ((1 : Int32).toInt64))), .second] [(.long (1000000 : Int64)), (.long ((clampJ xa) / ((1 : Int32).toInt64)))])) _
    refine XS.lcmp X11.here hx rfl (hb hby at_166) rfl ?_
    show Steps p.tables e below (T11.setTop (mkF m 167 #[.val (.long ja), .second, .val (.long jb), .second, .val (.long jc), .second, .val (.int k), .val (.int (1 : Int32)), .val (.long xa), .second, .val (.long xb), .second, .val (.long xc), .second, .val (.ref r_1), .val (.ref r_2), .val (.ref r_3), .val (.ref b4), .val (.long (maxJ (1000000 : Int64) (((0 : Int64) + (maxJ (0 : Int64) xa)) / ((1 : Int32).toInt64)))), .second, .unset, .unset, .val (.long (clampJ xa)), .second, .val (.long ((clampJ xa) / ((1 : Int32).toInt64))), .second] [(.int (lcmpW ((clampJ xa) / ((1 : Int32).toInt64)) (1000000 : Int64)))])) _
    refine XS.ifNo X11.here hx rfl (hb hby at_167) rfl ((if0 _ _).trans (tlt (hc167 : (lcmpW ((clampJ xa) / ((1 : Int32).toInt64)) (1000000 : Int64)) < (0 : Int32))).2.1) ?_
    show Steps p.tables e below (T11.setTop (mkF m 170 #[.val (.long ja), .second, .val (.long jb), .second, .val (.long jc), .second, .val (.int k), .val (.int (1 : Int32)), .val (.long xa), .second, .val (.long xb), .second, .val (.long xc), .second, .val (.ref r_1), .val (.ref r_2), .val (.ref r_3), .val (.ref b4), .val (.long (maxJ (1000000 : Int64) (((0 : Int64) + (maxJ (0 : Int64) xa)) / ((1 : Int32).toInt64)))), .second, .unset, .unset, .val (.long (clampJ xa)), .second, .val (.long ((clampJ xa) / ((1 : Int32).toInt64))), .second] [])) _
    refine X11.ldc2Long hx hown (mvT hZ (hw _ (List.mem_of_getElem? (i := 75) rfl))) (g := (mkF m 170 #[.val (.long ja), .second, .val (.long jb), .second, .val (.long jc), .second, .val (.int k), .val (.int (1 : Int32)), .val (.long xa), .second, .val (.long xb), .second, .val (.long xc), .second, .val (.ref r_1), .val (.ref r_2), .val (.ref r_3), .val (.ref b4), .val (.long (maxJ (1000000 : Int64) (((0 : Int64) + (maxJ (0 : Int64) xa)) / ((1 : Int32).toInt64)))), .second, .unset, .unset, .val (.long (clampJ xa)), .second, .val (.long ((clampJ xa) / ((1 : Int32).toInt64))), .second] [])) rfl (hb hby at_170) _ ?_
    show Steps p.tables e below (T11.setTop (mkF m 173 #[.val (.long ja), .second, .val (.long jb), .second, .val (.long jc), .second, .val (.int k), .val (.int (1 : Int32)), .val (.long xa), .second, .val (.long xb), .second, .val (.long xc), .second, .val (.ref r_1), .val (.ref r_2), .val (.ref r_3), .val (.ref b4), .val (.long (maxJ (1000000 : Int64) (((0 : Int64) + (maxJ (0 : Int64) xa)) / ((1 : Int32).toInt64)))), .second, .unset, .unset, .val (.long (clampJ xa)), .second, .val (.long ((clampJ xa) / ((1 : Int32).toInt64))), .second] [(.long (1000000 : Int64))])) _
    refine XS.lstore X11.here hx rfl (hb hby at_173) rfl (l' := #[.val (.long ja), .second, .val (.long jb), .second, .val (.long jc), .second, .val (.int k), .val (.int (1 : Int32)), .val (.long xa), .second, .val (.long xb), .second, .val (.long xc), .second, .val (.ref r_1), .val (.ref r_2), .val (.ref r_3), .val (.ref b4), .val (.long (maxJ (1000000 : Int64) (((0 : Int64) + (maxJ (0 : Int64) xa)) / ((1 : Int32).toInt64)))), .second, .val (.long (1000000 : Int64)), .second, .val (.long (clampJ xa)), .second, .val (.long ((clampJ xa) / ((1 : Int32).toInt64))), .second]) rfl ?_
    show Steps p.tables e below (T11.setTop (mkF m 175 #[.val (.long ja), .second, .val (.long jb), .second, .val (.long jc), .second, .val (.int k), .val (.int (1 : Int32)), .val (.long xa), .second, .val (.long xb), .second, .val (.long xc), .second, .val (.ref r_1), .val (.ref r_2), .val (.ref r_3), .val (.ref b4), .val (.long (maxJ (1000000 : Int64) (((0 : Int64) + (maxJ (0 : Int64) xa)) / ((1 : Int32).toInt64)))), .second, .val (.long (1000000 : Int64)), .second, .val (.long (clampJ xa)), .second, .val (.long ((clampJ xa) / ((1 : Int32).toInt64))), .second] [])) _
    refine XS.goto X11.here hx rfl (pc0 := 175) (pc' := 182) rfl (hb hby at_175) (by decide) (by decide) ?_
    show Steps p.tables e below (T11.setTop (mkF m 182 #[.val (.long ja), .second, .val (.long jb), .second, .val (.long jc), .second, .val (.int k), .val (.int (1 : Int32)), .val (.long xa), .second, .val (.long xb), .second, .val (.long xc), .second, .val (.ref r_1), .val (.ref r_2), .val (.ref r_3), .val (.ref b4), .val (.long (maxJ (1000000 : Int64) (((0 : Int64) + (maxJ (0 : Int64) xa)) / ((1 : Int32).toInt64)))), .second, .val (.long (1000000 : Int64)), .second, .val (.long (clampJ xa)), .second, .val (.long ((clampJ xa) / ((1 : Int32).toInt64))), .second] [])) _
    refine XS.lload X11.here hx rfl (hb hby at_182) rfl ?_
    show Steps p.tables e below (T11.setTop (mkF m 184 #[.val (.long ja), .second, .val (.long jb), .second, .val (.long jc), .second, .val (.int k), .val (.int (1 : Int32)), .val (.long xa), .second, .val (.long xb), .second, .val (.long xc), .second, .val (.ref r_1), .val (.ref r_2), .val (.ref r_3), .val (.ref b4), .val (.long (maxJ (1000000 : Int64) (((0 : Int64) + (maxJ (0 : Int64) xa)) / ((1 : Int32).toInt64)))), .second, .val (.long (1000000 : Int64)), .second, .val (.long (clampJ xa)), .second, .val (.long ((clampJ xa) / ((1 : Int32).toInt64))), .second] [(.long (maxJ (1000000 : Int64) (((0 : Int64) + (maxJ (0 : Int64) xa)) / ((1 : Int32).toInt64))))])) _
    refine XS.lload X11.here hx rfl (hb hby at_184) rfl ?_
    show Steps p.tables e below (T11.setTop (mkF m 186 #[.val (.long ja), .second, .val (.long jb), .second, .val (.long jc), .second, .val (.int k), .val (.int (1 : Int32)), .val (.long xa), .second, .val (.long xb), .second, .val (.long xc), .second, .val (.ref r_1), .val (.ref r_2), .val (.ref r_3), .val (.ref b4), .val (.long (maxJ (1000000 : Int64) (((0 : Int64) + (maxJ (0 : Int64) xa)) / ((1 : Int32).toInt64)))), .second, .val (.long (1000000 : Int64)), .second, .val (.long (clampJ xa)), .second, .val (.long ((clampJ xa) / ((1 : Int32).toInt64))), .second] [(.long (1000000 : Int64)), (.long (maxJ (1000000 : Int64) (((0 : Int64) + (maxJ (0 : Int64) xa)) / ((1 : Int32).toInt64))))])) _
    refine XS.lcmp X11.here hx rfl (hb hby at_186) rfl ?_
    show Steps p.tables e below (T11.setTop (mkF m 187 #[.val (.long ja), .second, .val (.long jb), .second, .val (.long jc), .second, .val (.int k), .val (.int (1 : Int32)), .val (.long xa), .second, .val (.long xb), .second, .val (.long xc), .second, .val (.ref r_1), .val (.ref r_2), .val (.ref r_3), .val (.ref b4), .val (.long (maxJ (1000000 : Int64) (((0 : Int64) + (maxJ (0 : Int64) xa)) / ((1 : Int32).toInt64)))), .second, .val (.long (1000000 : Int64)), .second, .val (.long (clampJ xa)), .second, .val (.long ((clampJ xa) / ((1 : Int32).toInt64))), .second] [(.int (lcmpW (maxJ (1000000 : Int64) (((0 : Int64) + (maxJ (0 : Int64) xa)) / ((1 : Int32).toInt64))) (1000000 : Int64)))])) _
    refine XS.ifNo X11.here hx rfl (hb hby at_187) rfl ((if0 _ _).trans (teq (((lw_eq _ _).mpr (fin_b1 hc167)) : (lcmpW (maxJ (1000000 : Int64) (((0 : Int64) + (maxJ (0 : Int64) xa)) / ((1 : Int32).toInt64))) (1000000 : Int64)) = (0 : Int32))).2) ?_
    show Steps p.tables e below (T11.setTop (mkF m 190 #[.val (.long ja), .second, .val (.long jb), .second, .val (.long jc), .second, .val (.int k), .val (.int (1 : Int32)), .val (.long xa), .second, .val (.long xb), .second, .val (.long xc), .second, .val (.ref r_1), .val (.ref r_2), .val (.ref r_3), .val (.ref b4), .val (.long (maxJ (1000000 : Int64) (((0 : Int64) + (maxJ (0 : Int64) xa)) / ((1 : Int32).toInt64)))), .second, .val (.long (1000000 : Int64)), .second, .val (.long (clampJ xa)), .second, .val (.long ((clampJ xa) / ((1 : Int32).toInt64))), .second] [])) _
    refine XS.iconst X11.here hx rfl (hb hby at_190) ?_
    show Steps p.tables e below (T11.setTop (mkF m 191 #[.val (.long ja), .second, .val (.long jb), .second, .val (.long jc), .second, .val (.int k), .val (.int (1 : Int32)), .val (.long xa), .second, .val (.long xb), .second, .val (.long xc), .second, .val (.ref r_1), .val (.ref r_2), .val (.ref r_3), .val (.ref b4), .val (.long (maxJ (1000000 : Int64) (((0 : Int64) + (maxJ (0 : Int64) xa)) / ((1 : Int32).toInt64)))), .second, .val (.long (1000000 : Int64)), .second, .val (.long (clampJ xa)), .second, .val (.long ((clampJ xa) / ((1 : Int32).toInt64))), .second] [(.int (1 : Int32))])) _
    refine XS.goto X11.here hx rfl (pc0 := 191) (pc' := 195) rfl (hb hby at_191) (by decide) (by decide) ?_
    show Steps p.tables e below (T11.setTop (mkF m 195 #[.val (.long ja), .second, .val (.long jb), .second, .val (.long jc), .second, .val (.int k), .val (.int (1 : Int32)), .val (.long xa), .second, .val (.long xb), .second, .val (.long xc), .second, .val (.ref r_1), .val (.ref r_2), .val (.ref r_3), .val (.ref b4), .val (.long (maxJ (1000000 : Int64) (((0 : Int64) + (maxJ (0 : Int64) xa)) / ((1 : Int32).toInt64)))), .second, .val (.long (1000000 : Int64)), .second, .val (.long (clampJ xa)), .second, .val (.long ((clampJ xa) / ((1 : Int32).toInt64))), .second] [(.int (1 : Int32))])) _
    exact retN X11 hx (t := .boolean) Bd.returns (by simp) (hb hby at_195) hr
  · show Q_law Z ja jb jc k wz wg h0 n0 _ T11.heap _
    rw [kh11]
    exact ⟨rfl, N11⟩
set_option maxRecDepth 65536 in
set_option maxHeartbeats 40000000 in
theorem law_2a (l : Launch) (Z : State) (a0 : Array Value) (hw : ∀ d ∈ tables_1, d.before a0 Z = true) (ws : List Jvm.Cond) (ja : Int64) (jb : Int64) (jc : Int64) (k : Int32) (wz : Addr) (wg : Addr) (h0 : Heap) (n0 : Nat) (O0 : Old Z n0 h0) (G0 : Sta Z Z.heap "com/example/admitd/admitd/gate/ServiceTime" "LEAST_NANOS" "J" (.long (1000000 : Int64))) (G1 : Sta Z Z.heap "java/time/Duration" "ZERO" "Ljava/time/Duration;" (.ref wz)) (G2 : Exa Z Z.heap wz "java/time/Duration") (G3 : Fld Z Z.heap wz "java/time/Duration" "seconds" "J" (.long (0 : Int64))) (G4 : Fld Z Z.heap wz "java/time/Duration" "nanos" "I" (.int (0 : Int32))) (G5 : Sta Z Z.heap "com/example/admitd/admitd/gate/ServiceTime" "FIRST_GUESS" "Ljava/time/Duration;" (.ref wg)) (G6 : Exa Z Z.heap wg "java/time/Duration") (G7 : Fld Z Z.heap wg "java/time/Duration" "seconds" "J" (.long (1 : Int64))) (G8 : Fld Z Z.heap wg "java/time/Duration" "nanos" "I" (.int (0 : Int32))) (xa : Int64) (xb : Int64) (xc : Int64) (exa : (ja >>> ((2 : Int32) &&& 0x3f).toInt64) = xa) (exb : (jb >>> ((2 : Int32) &&& 0x3f).toInt64) = xb) (exc : (jc >>> ((2 : Int32) &&& 0x3f).toInt64) = xc) (hk : (k &&& (3 : Int32)) = (2 : Int32)) (hc167 : ¬ ((lcmpW (((clampJ xa) + (clampJ xb)) / ((2 : Int32).toInt64)) (1000000 : Int64)) < (0 : Int32))) :
    MetFree l x (head1 (Jvm.Cond.code x code maxLocals ret :: ws) room_1) (fun zA zU => zA = #[(.long ja), (.long jb), (.long jc), (.int k)] ∧ Z.Warmed39 zU.vm ∧ zU.heap = h0) (fun _ _ _ _ _ => True) (fun _ zU zo zU' => ∃ zv zL, zo = .returned zv ∧ Q_law Z ja jb jc k wz wg h0 n0 zv zU'.heap zL ∧ FrameEnd zU zo zU' zL room_1.cells room_1.slots) := by
  refine MetFree.of_bodySF (plainFor_of_name pn_4) hisR ?_
  intro p e s m args below meth c s₁ Bd hml0 hP hK
  obtain ⟨rfl, hZ, hh⟩ := hP
  have hx := Bd.exec
  have hby := Bd.bytes
  have hml : c.maxLocals = 26 := hml0
  have hown : s.vm.findClass "com/example/admitd/admitd/gate/ServiceTimeMeanPinLaw" = some m.cls := findClass_of_methodNamed Bd.named
  have hnm := (name_of_methodNamed Bd.named Bd.method).1
  have X0 : Stand p l e room_1 s m #[(.long ja), (.long jb), (.long jc), (.int k)] below meth c s₁ [] 0 0 := Stand.of_body Bd
  have e0 : s₁.heap = h0 := by rw [← hh, Bd.state]; rfl
  have N0 := Fr.nil n0
  have Z0 : n0 ≤ h0.size := O0.1 ▸ O0.2.1
  have pre0 : ∀ zt, Steps p.tables e below (s₁.setTop (mkF m 0 #[.val (.long ja), .second, .val (.long jb), .second, .val (.long jc), .second, .val (.int k), .unset, .unset, .unset, .unset, .unset, .unset, .unset, .unset, .unset, .unset, .unset, .unset, .unset, .unset, .unset, .unset, .unset, .unset, .unset] [])) zt → Steps p.tables e below (s₁.setTop (entryFrame m #[(.long ja), (.long jb), (.long jc), (.int k)] maxLocals)) zt := fun zt zk => castTop (ef_0_JJJI m ja jb jc k) zk
  obtain ⟨_, _, ⟨T1, L1, k1, n1⟩, -, X1, ⟨Lc1, hQ1, l1, y1, z1⟩, st1⟩ := Jvm.LawKit.callS X0 hx (y := (⟨"java/time/Duration", "ofNanos", "(J)Ljava/time/Duration;"⟩ : MethodName)) hown (mvT hZ (hw _ (List.mem_of_getElem? (i := 0) rfl))) (mvT hZ (hw _ (List.mem_of_getElem? (i := 1) rfl))) (mvT hZ (hw _ (List.mem_of_getElem? (i := 2) rfl))) (mvT hZ (hw _ (List.mem_of_getElem? (i := 3) rfl))) (by decide) (backOf (W := 0) (ofN l Z a0 hw [] xa wz h0 n0 O0 G1 G2 G3 G4) hZ (hw _ (List.mem_of_getElem? (i := 3) rfl)) (hw _ (List.mem_of_getElem? (i := 2) rfl)) (by decide) (by decide)) (g := (mkF m 24 #[.val (.long ja), .second, .val (.long jb), .second, .val (.long jc), .second, .val (.int k), .val (.int (2 : Int32)), .val (.long xa), .second, .val (.long xb), .second, .val (.long xc), .second, .unset, .unset, .unset, .unset, .unset, .unset, .unset, .unset, .unset, .unset, .unset, .unset] [(.long xa)])) rfl (by rw [hml]; rfl) (argsL := [(.long xa)]) (rest := []) (lenOf pd_5 rfl) rfl (by show 2 * 0 + _ ≤ _; exact Nat.le_of_eq rfl) (hb hby at_24) (fun _ _ => ⟨rfl, e0, (by decide : 0 + 1 ≤ _), (by decide : 0 + 2 ≤ _)⟩)
  dsimp only [Pt.U, Pt.locs, Pt.cells, Pt.slots] at X1 l1 y1 z1 st1 hQ1
  subst l1 y1 z1
  obtain ⟨r_1, s1_1, n1_1, rfl, Nq1, kh1, Po1_0, Po1_1, Po1_2, pq1_0⟩ := hQ1
  have N1 := Fr.app N0 Nq1
  have O1 := O0.keep kh1 all0
  have K1 : Keep h0 T1.heap [] := (Keep.refl h0 []).trans kh1 all0
  obtain ⟨_, _, ⟨T2, L2, k2, n2⟩, -, X2, ⟨Lc2, hQ2, l2, y2, z2⟩, st2⟩ := Jvm.LawKit.callS X1 hx (y := (⟨"java/time/Duration", "ofNanos", "(J)Ljava/time/Duration;"⟩ : MethodName)) hown (mvT hZ (hw _ (List.mem_of_getElem? (i := 0) rfl))) (mvT hZ (hw _ (List.mem_of_getElem? (i := 1) rfl))) (mvT hZ (hw _ (List.mem_of_getElem? (i := 2) rfl))) (mvT hZ (hw _ (List.mem_of_getElem? (i := 3) rfl))) (by decide) (backOf (W := 0) (ofN l Z a0 hw [] xb wz T1.heap n0 O1 G1 G2 G3 G4) hZ (hw _ (List.mem_of_getElem? (i := 3) rfl)) (hw _ (List.mem_of_getElem? (i := 2) rfl)) (by decide) (by decide)) (g := (mkF m 31 #[.val (.long ja), .second, .val (.long jb), .second, .val (.long jc), .second, .val (.int k), .val (.int (2 : Int32)), .val (.long xa), .second, .val (.long xb), .second, .val (.long xc), .second, .val (.ref r_1), .unset, .unset, .unset, .unset, .unset, .unset, .unset, .unset, .unset, .unset, .unset] [(.long xb)])) rfl (by rw [hml]; rfl) (argsL := [(.long xb)]) (rest := []) (lenOf pd_5 rfl) rfl (by show 2 * 0 + _ ≤ _; exact Nat.le_of_eq rfl) (hb hby at_31) (fun _ _ => ⟨rfl, rfl, (by decide : 1 + 1 ≤ _), (by decide : 2 + 2 ≤ _)⟩)
  dsimp only [Pt.U, Pt.locs, Pt.cells, Pt.slots] at X2 l2 y2 z2 st2 hQ2
  subst l2 y2 z2
  obtain ⟨r_2, s1_2, n1_2, rfl, Nq2, kh2, Po2_0, Po2_1, Po2_2, pq2_0⟩ := hQ2
  have N2 := Fr.app N1 Nq2
  have O2 := O1.keep kh2 all0
  have K2 : Keep h0 T2.heap [] := K1.trans kh2 all0
  obtain ⟨_, _, ⟨T3, L3, k3, n3⟩, -, X3, ⟨Lc3, hQ3, l3, y3, z3⟩, st3⟩ := Jvm.LawKit.callS X2 hx (y := (⟨"java/time/Duration", "ofNanos", "(J)Ljava/time/Duration;"⟩ : MethodName)) hown (mvT hZ (hw _ (List.mem_of_getElem? (i := 0) rfl))) (mvT hZ (hw _ (List.mem_of_getElem? (i := 1) rfl))) (mvT hZ (hw _ (List.mem_of_getElem? (i := 2) rfl))) (mvT hZ (hw _ (List.mem_of_getElem? (i := 3) rfl))) (by decide) (backOf (W := 0) (ofN l Z a0 hw [] xc wz T2.heap n0 O2 G1 G2 G3 G4) hZ (hw _ (List.mem_of_getElem? (i := 3) rfl)) (hw _ (List.mem_of_getElem? (i := 2) rfl)) (by decide) (by decide)) (g := (mkF m 38 #[.val (.long ja), .second, .val (.long jb), .second, .val (.long jc), .second, .val (.int k), .val (.int (2 : Int32)), .val (.long xa), .second, .val (.long xb), .second, .val (.long xc), .second, .val (.ref r_1), .val (.ref r_2), .unset, .unset, .unset, .unset, .unset, .unset, .unset, .unset, .unset, .unset] [(.long xc)])) rfl (by rw [hml]; rfl) (argsL := [(.long xc)]) (rest := []) (lenOf pd_5 rfl) rfl (by show 2 * 0 + _ ≤ _; exact Nat.le_of_eq rfl) (hb hby at_38) (fun _ _ => ⟨rfl, rfl, (by decide : 2 + 1 ≤ _), (by decide : 4 + 2 ≤ _)⟩)
  dsimp only [Pt.U, Pt.locs, Pt.cells, Pt.slots] at X3 l3 y3 z3 st3 hQ3
  subst l3 y3 z3
  obtain ⟨r_3, s1_3, n1_3, rfl, Nq3, kh3, Po3_0, Po3_1, Po3_2, pq3_0⟩ := hQ3
  have N3 := Fr.app N2 Nq3
  have O3 := O2.keep kh3 all0
  have K3 : Keep h0 T3.heap [] := K2.trans kh3 all0
  obtain ⟨T4, h4, X4, e4, E4, A4, D4, U4, st4⟩ := newO X3 hx hZ hown (hw _ (List.mem_of_getElem? (i := 23) rfl)) (hw _ (List.mem_of_getElem? (i := 24) rfl)) (hw _ (List.mem_of_getElem? (i := 25) rfl)) rfl (g := (mkF m 43 #[.val (.long ja), .second, .val (.long jb), .second, .val (.long jc), .second, .val (.int k), .val (.int (2 : Int32)), .val (.long xa), .second, .val (.long xb), .second, .val (.long xc), .second, .val (.ref r_1), .val (.ref r_2), .val (.ref r_3), .unset, .unset, .unset, .unset, .unset, .unset, .unset, .unset, .unset] [])) rfl (hb hby at_43) (by decide) (by decide)
  obtain ⟨b4, gz4⟩ : ∃ z, z = T3.heap.size := ⟨_, rfl⟩
  rw [← gz4] at A4 D4 U4 st4
  have sz_b4 : h0.size ≤ b4 := Nat.le_trans K3.1 (Nat.le_of_eq gz4.symm)
  have g_b4 : n0 ≤ b4 := Nat.le_trans Z0 sz_b4
  have O4 := O3.ext E4
  have K4 : Keep h0 h4 [] := K3.ext E4
  have Fi4_32 : Fld Z h4 b4 "com/example/admitd/admitd/gate/ServiceTime" "latest" "[J" .null := D4 (Or.inr (hw _ (List.mem_of_getElem? (i := 32) rfl))) (ty := (.array .long)) (by decide)
  have Fi4_57 : Fld Z h4 b4 "com/example/admitd/admitd/gate/ServiceTime" "count" "I" (.int (0 : Int32)) := D4 (Or.inl (hw _ (List.mem_of_getElem? (i := 57) rfl))) (ty := .int) (by decide)
  have Fi4_59 : Fld Z h4 b4 "com/example/admitd/admitd/gate/ServiceTime" "next" "I" (.int (0 : Int32)) := D4 (Or.inl (hw _ (List.mem_of_getElem? (i := 59) rfl))) (ty := .int) (by decide)
  have Fi4_61 : Fld Z h4 b4 "com/example/admitd/admitd/gate/ServiceTime" "sum" "J" (.long (0 : Int64)) := D4 (Or.inl (hw _ (List.mem_of_getElem? (i := 61) rfl))) (ty := .long) (by decide)
  obtain ⟨_, _, ⟨T5, L5, k5, n5⟩, -, X5, ⟨Lc5, hQ5, l5, y5, z5⟩, st5⟩ := X4.specialBack hx (y := (⟨"com/example/admitd/admitd/gate/ServiceTime", "<init>", "()V"⟩ : MethodName)) rfl hown (mvT hZ (hw _ (List.mem_of_getElem? (i := 26) rfl))) (mvT hZ (hw _ (List.mem_of_getElem? (i := 27) rfl))) (mvT hZ (hw _ (List.mem_of_getElem? (i := 28) rfl))) (by decide) (backOf (W := 1) (svI l Z a0 hw [] b4 h4 n0 O4 A4 Fi4_32 Fi4_57 Fi4_59 Fi4_61 g_b4) hZ (hw _ (List.mem_of_getElem? (i := 28) rfl)) (hw _ (List.mem_of_getElem? (i := 25) rfl)) (by decide) (by decide)) (g := (mkF m 47 #[.val (.long ja), .second, .val (.long jb), .second, .val (.long jc), .second, .val (.int k), .val (.int (2 : Int32)), .val (.long xa), .second, .val (.long xb), .second, .val (.long xc), .second, .val (.ref r_1), .val (.ref r_2), .val (.ref r_3), .unset, .unset, .unset, .unset, .unset, .unset, .unset, .unset, .unset] [(.ref b4), (.ref b4)])) rfl (by rw [hml]; rfl) (Steps.refl _) (a := b4) (argsL := []) (rest := [(.ref b4)]) (lenOf pd_6 rfl) rfl (by show 2 * 0 + _ ≤ _; exact Nat.le_of_eq rfl) (hb hby at_47) (fun _ _ => ⟨rfl, e4, (by decide : 4 + 1 ≤ _), (by decide : 10 + 32 ≤ _)⟩)
  dsimp only [Pt.U, Pt.locs, Pt.cells, Pt.slots] at X5 l5 y5 z5 st5 hQ5
  subst l5 y5 z5
  obtain ⟨la_5, rfl, Nq5, kh5, fz_la_5, Po5_0, Po5_1, Po5_2, Po5_3, Po5_4, Po5_5⟩ := hQ5
  have N5 := Fr.app N3 Nq5
  have sz_la_5 : h0.size ≤ la_5 := Nat.le_trans K4.1 fz_la_5
  have g_la_5 : n0 ≤ la_5 := Nat.le_trans Z0 sz_la_5
  have O5 := O4.keep kh5 (allS g_b4 all0)
  have K5 : Keep h0 T5.heap [] := K4.trans kh5 (allS (Or.inr sz_b4) all0)
  have c6 : Fld Z T5.heap r_1 "java/time/Duration" "seconds" "J" (.long s1_1) := ((((Po1_1.keep kh2 nin0).keep kh3 nin0).ext E4).keep kh5 (ninS (Nat.ne_of_lt (Nat.lt_of_lt_of_le (((Po1_0.keep kh2).keep kh3)).lt (Nat.le_of_eq gz4.symm))) nin0))
  have c7 : Fld Z T5.heap r_1 "java/time/Duration" "nanos" "I" (.int n1_1) := ((((Po1_2.keep kh2 nin0).keep kh3 nin0).ext E4).keep kh5 (ninS (Nat.ne_of_lt (Nat.lt_of_lt_of_le (((Po1_0.keep kh2).keep kh3)).lt (Nat.le_of_eq gz4.symm))) nin0))
  obtain ⟨cq8, kq8, q8a, q8b, q8c⟩ := isOf hZ rfl Po5_0
  obtain ⟨_, _, ⟨T8, L8, k8, n8⟩, -, X8, ⟨Lc8, hQ8, l8, y8, z8⟩, st8⟩ := X5.virtualBack hx (y := (⟨"com/example/admitd/admitd/gate/ServiceTime", "record", "(Ljava/time/Duration;)V"⟩ : MethodName)) (z := (⟨"com/example/admitd/admitd/gate/ServiceTime", "record", "(Ljava/time/Duration;)V"⟩ : MethodName)) hown (mvT hZ (hw _ (List.mem_of_getElem? (i := 33) rfl))) (mvT hZ (hw _ (List.mem_of_getElem? (i := 34) rfl))) (notFace_of_selects (args := #[]) (mvT hZ (hw _ (List.mem_of_getElem? (i := 36) rfl)))) (mvT hZ (hw _ (List.mem_of_getElem? (i := 36) rfl))) (mvT hZ (hw _ (List.mem_of_getElem? (i := 35) rfl))) (by decide) (backOf (W := 0) (rec0 l Z a0 hw [] b4 r_1 la_5 (0 : Int64) s1_1 n1_1 xa T5.heap n0 O5 Po5_0 Po5_1 Po5_2 Po5_3 Po5_4 ((((Po1_0.keep kh2).keep kh3).ext E4).keep kh5) c6 c7 Po5_5 g_b4 g_la_5 (Nat.ne_of_lt (Nat.lt_of_lt_of_le (A4).lt fz_la_5)) pq1_0) hZ (hw _ (List.mem_of_getElem? (i := 37) rfl)) (hw _ (List.mem_of_getElem? (i := 25) rfl)) (by decide) (by decide)) q8a q8c (g := (mkF m 62 #[.val (.long ja), .second, .val (.long jb), .second, .val (.long jc), .second, .val (.int k), .val (.int (2 : Int32)), .val (.long xa), .second, .val (.long xb), .second, .val (.long xc), .second, .val (.ref r_1), .val (.ref r_2), .val (.ref r_3), .val (.ref b4), .unset, .unset, .unset, .unset, .unset, .unset, .unset, .unset] [(.ref r_1), (.ref b4)])) rfl (by rw [hml]; rfl) (Steps.refl _) (argsL := [(.ref r_1)]) (rest := []) (lenOf pd_8 rfl) rfl (by show 2 * 0 + _ ≤ _; exact Nat.le_of_eq rfl) (hb hby at_62) (fun _ _ => ⟨rfl, rfl, (by decide : 5 + 0 ≤ _), (by decide : 42 + 0 ≤ _)⟩)
  dsimp only [Pt.U, Pt.locs, Pt.cells, Pt.slots] at X8 l8 y8 z8 st8 hQ8
  subst l8 y8 z8
  obtain ⟨rfl, Nq8, kh8, Po8_0, Po8_1, Po8_2, Po8_3, Po8_4, Po8_5⟩ := hQ8
  have N8 := Fr.app N5 Nq8
  have O8 := O5.keep kh8 (allS g_b4 (allS g_la_5 all0))
  have K8 : Keep h0 T8.heap [] := K5.trans kh8 (allS (Or.inr sz_b4) (allS (Or.inr sz_la_5) all0))
  have c9 : Fld Z T8.heap r_2 "java/time/Duration" "seconds" "J" (.long s1_2) := ((((Po2_1.keep kh3 nin0).ext E4).keep kh5 (ninS (Nat.ne_of_lt (Nat.lt_of_lt_of_le ((Po2_0.keep kh3)).lt (Nat.le_of_eq gz4.symm))) nin0)).keep kh8 (ninS (Nat.ne_of_lt (Nat.lt_of_lt_of_le ((Po2_0.keep kh3)).lt (Nat.le_of_eq gz4.symm))) (ninS (Nat.ne_of_lt (Nat.lt_of_lt_of_le (((Po2_0.keep kh3).ext E4)).lt fz_la_5)) nin0)))
  have c10 : Fld Z T8.heap r_2 "java/time/Duration" "nanos" "I" (.int n1_2) := ((((Po2_2.keep kh3 nin0).ext E4).keep kh5 (ninS (Nat.ne_of_lt (Nat.lt_of_lt_of_le ((Po2_0.keep kh3)).lt (Nat.le_of_eq gz4.symm))) nin0)).keep kh8 (ninS (Nat.ne_of_lt (Nat.lt_of_lt_of_le ((Po2_0.keep kh3)).lt (Nat.le_of_eq gz4.symm))) (ninS (Nat.ne_of_lt (Nat.lt_of_lt_of_le (((Po2_0.keep kh3).ext E4)).lt fz_la_5)) nin0)))
  obtain ⟨cq11, kq11, q11a, q11b, q11c⟩ := isOf hZ rfl Po8_0
  obtain ⟨_, _, ⟨T11, L11, k11, n11⟩, -, X11, ⟨Lc11, hQ11, l11, y11, z11⟩, st11⟩ := X8.virtualBack hx (y := (⟨"com/example/admitd/admitd/gate/ServiceTime", "record", "(Ljava/time/Duration;)V"⟩ : MethodName)) (z := (⟨"com/example/admitd/admitd/gate/ServiceTime", "record", "(Ljava/time/Duration;)V"⟩ : MethodName)) hown (mvT hZ (hw _ (List.mem_of_getElem? (i := 33) rfl))) (mvT hZ (hw _ (List.mem_of_getElem? (i := 34) rfl))) (notFace_of_selects (args := #[]) (mvT hZ (hw _ (List.mem_of_getElem? (i := 36) rfl)))) (mvT hZ (hw _ (List.mem_of_getElem? (i := 36) rfl))) (mvT hZ (hw _ (List.mem_of_getElem? (i := 35) rfl))) (by decide) (backOf (W := 0) (rec1 l Z a0 hw [] b4 r_2 la_5 ((0 : Int64) + (maxJ (0 : Int64) xa)) s1_2 n1_2 xb T8.heap n0 O8 Po8_0 Po8_1 Po8_2 Po8_3 Po8_4 ((((Po2_0.keep kh3).ext E4).keep kh5).keep kh8) c9 c10 Po8_5 g_b4 g_la_5 (Nat.ne_of_lt (Nat.lt_of_lt_of_le (A4).lt fz_la_5)) pq2_0) hZ (hw _ (List.mem_of_getElem? (i := 37) rfl)) (hw _ (List.mem_of_getElem? (i := 25) rfl)) (by decide) (by decide)) q11a q11c (g := (mkF m 75 #[.val (.long ja), .second, .val (.long jb), .second, .val (.long jc), .second, .val (.int k), .val (.int (2 : Int32)), .val (.long xa), .second, .val (.long xb), .second, .val (.long xc), .second, .val (.ref r_1), .val (.ref r_2), .val (.ref r_3), .val (.ref b4), .unset, .unset, .unset, .unset, .unset, .unset, .unset, .unset] [(.ref r_2), (.ref b4)])) rfl (by rw [hml]; rfl) (Steps.refl _) (argsL := [(.ref r_2)]) (rest := []) (lenOf pd_8 rfl) rfl (by show 2 * 0 + _ ≤ _; exact Nat.le_of_eq rfl) (hb hby at_75) (fun _ _ => ⟨rfl, rfl, (by decide : 5 + 0 ≤ _), (by decide : 42 + 0 ≤ _)⟩)
  dsimp only [Pt.U, Pt.locs, Pt.cells, Pt.slots] at X11 l11 y11 z11 st11 hQ11
  subst l11 y11 z11
  obtain ⟨rfl, Nq11, kh11, Po11_0, Po11_1, Po11_2, Po11_3, Po11_4, Po11_5⟩ := hQ11
  have N11 := Fr.app N8 Nq11
  have O11 := O8.keep kh11 (allS g_b4 (allS g_la_5 all0))
  have K11 : Keep h0 T11.heap [] := K8.trans kh11 (allS (Or.inr sz_b4) (allS (Or.inr sz_la_5) all0))
  obtain ⟨cq12, kq12, q12a, q12b, q12c⟩ := isOf hZ rfl Po11_0
  obtain ⟨_, _, ⟨T12, L12, k12, n12⟩, -, X12, ⟨Lc12, hQ12, l12, y12, z12⟩, st12⟩ := X11.virtualBack hx (y := (⟨"com/example/admitd/admitd/gate/ServiceTime", "mean", "()Ljava/time/Duration;"⟩ : MethodName)) (z := (⟨"com/example/admitd/admitd/gate/ServiceTime", "mean", "()Ljava/time/Duration;"⟩ : MethodName)) hown (mvT hZ (hw _ (List.mem_of_getElem? (i := 62) rfl))) (mvT hZ (hw _ (List.mem_of_getElem? (i := 63) rfl))) (notFace_of_selects (args := #[]) (mvT hZ (hw _ (List.mem_of_getElem? (i := 65) rfl)))) (mvT hZ (hw _ (List.mem_of_getElem? (i := 65) rfl))) (mvT hZ (hw _ (List.mem_of_getElem? (i := 64) rfl))) (by decide) (backOf (W := 0) (mean1 l Z a0 hw [] b4 (2 : Int32) (((0 : Int64) + (maxJ (0 : Int64) xa)) + (maxJ (0 : Int64) xb)) wz T11.heap n0 O11 G0 G1 G2 G3 G4 Po11_2 Po11_4 (by decide) (by decide)) hZ (hw _ (List.mem_of_getElem? (i := 66) rfl)) (hw _ (List.mem_of_getElem? (i := 25) rfl)) (by decide) (by decide)) q12a q12c (g := (mkF m 93 #[.val (.long ja), .second, .val (.long jb), .second, .val (.long jc), .second, .val (.int k), .val (.int (2 : Int32)), .val (.long xa), .second, .val (.long xb), .second, .val (.long xc), .second, .val (.ref r_1), .val (.ref r_2), .val (.ref r_3), .val (.ref b4), .unset, .unset, .unset, .unset, .unset, .unset, .unset, .unset] [(.ref b4)])) rfl (by rw [hml]; rfl) (Steps.refl _) (argsL := []) (rest := []) (lenOf pd_7 rfl) rfl (by show 2 * 0 + _ ≤ _; exact Nat.le_of_eq rfl) (hb hby at_93) (fun _ _ => ⟨rfl, rfl, (by decide : 5 + 1 ≤ _), (by decide : 42 + 2 ≤ _)⟩)
  dsimp only [Pt.U, Pt.locs, Pt.cells, Pt.slots] at X12 l12 y12 z12 st12 hQ12
  subst l12 y12 z12
  obtain ⟨r_12, s1_12, n1_12, rfl, Nq12, kh12, Po12_0, Po12_1, Po12_2, pq12_0⟩ := hQ12
  have N12 := Fr.app N11 Nq12
  have O12 := O11.keep kh12 all0
  have K12 : Keep h0 T12.heap [] := K11.trans kh12 all0
  obtain ⟨cq13, kq13, q13a, q13b, q13c⟩ := isOf hZ rfl Po12_0
  obtain ⟨_, _, ⟨T13, L13, k13, n13⟩, -, X13, ⟨Lc13, hQ13, l13, y13, z13⟩, st13⟩ := X12.virtualBack hx (y := (⟨"java/time/Duration", "toNanos", "()J"⟩ : MethodName)) (z := (⟨"java/time/Duration", "toNanos", "()J"⟩ : MethodName)) hown (mvT hZ (hw _ (List.mem_of_getElem? (i := 70) rfl))) (mvT hZ (hw _ (List.mem_of_getElem? (i := 39) rfl))) (notFace_of_selects (args := #[]) (mvT hZ (hw _ (List.mem_of_getElem? (i := 41) rfl)))) (mvT hZ (hw _ (List.mem_of_getElem? (i := 41) rfl))) (mvT hZ (hw _ (List.mem_of_getElem? (i := 40) rfl))) (by decide) (backOf (W := 0) (toN l Z a0 hw [] r_12 s1_12 n1_12 (maxJ (1000000 : Int64) ((((0 : Int64) + (maxJ (0 : Int64) xa)) + (maxJ (0 : Int64) xb)) / ((2 : Int32).toInt64))) T12.heap n0 O12 Po12_1 Po12_2 pq12_0) hZ (hw _ (List.mem_of_getElem? (i := 42) rfl)) (hw _ (List.mem_of_getElem? (i := 2) rfl)) (by decide) (by decide)) q13a q13c (g := (mkF m 96 #[.val (.long ja), .second, .val (.long jb), .second, .val (.long jc), .second, .val (.int k), .val (.int (2 : Int32)), .val (.long xa), .second, .val (.long xb), .second, .val (.long xc), .second, .val (.ref r_1), .val (.ref r_2), .val (.ref r_3), .val (.ref b4), .unset, .unset, .unset, .unset, .unset, .unset, .unset, .unset] [(.ref r_12)])) rfl (by rw [hml]; rfl) (Steps.refl _) (argsL := []) (rest := []) (lenOf pd_4 rfl) rfl (by show 2 * 0 + _ ≤ _; exact Nat.le_of_eq rfl) (hb hby at_96) (fun _ _ => ⟨rfl, rfl, (by decide : 6 + 0 ≤ _), (by decide : 44 + 0 ≤ _)⟩)
  dsimp only [Pt.U, Pt.locs, Pt.cells, Pt.slots] at X13 l13 y13 z13 st13 hQ13
  subst l13 y13 z13
  obtain ⟨rfl, Nq13, kh13⟩ := hQ13
  have N13 := Fr.app N12 Nq13
  obtain ⟨_, _, ⟨T14, L14, k14, n14⟩, -, X14, ⟨Lc14, hQ14, l14, y14, z14⟩, st14⟩ := Jvm.LawKit.callS X13 hx (y := (⟨"com/example/admitd/admitd/gate/ServiceTimeMeanPinLaw", "clamp", "(J)J"⟩ : MethodName)) hown (mvT hZ (hw _ (List.mem_of_getElem? (i := 71) rfl))) (mvT hZ (hw _ (List.mem_of_getElem? (i := 72) rfl))) (mvT hZ (hw _ (List.mem_of_getElem? (i := 73) rfl))) (mvT hZ (hw _ (List.mem_of_getElem? (i := 74) rfl))) (by decide) (backOf (W := 0) (clampR l Z a0 hw [] xa T12.heap n0 O12 ) hZ (hw _ (List.mem_of_getElem? (i := 74) rfl)) (hw _ (List.mem_of_getElem? (i := 73) rfl)) (by decide) (by decide)) (g := (mkF m 116 #[.val (.long ja), .second, .val (.long jb), .second, .val (.long jc), .second, .val (.int k), .val (.int (2 : Int32)), .val (.long xa), .second, .val (.long xb), .second, .val (.long xc), .second, .val (.ref r_1), .val (.ref r_2), .val (.ref r_3), .val (.ref b4), .val (.long (maxJ (1000000 : Int64) ((((0 : Int64) + (maxJ (0 : Int64) xa)) + (maxJ (0 : Int64) xb)) / ((2 : Int32).toInt64)))), .second, .unset, .unset, .unset, .unset, .unset, .unset] [(.long xa)])) rfl (by rw [hml]; rfl) (argsL := [(.long xa)]) (rest := []) (lenOf pd_0 rfl) rfl (by show 2 * 0 + _ ≤ _; exact Nat.le_of_eq rfl) (hb hby at_116) (fun _ _ => ⟨rfl, kh13, (by decide : 6 + 0 ≤ _), (by decide : 44 + 0 ≤ _)⟩)
  dsimp only [Pt.U, Pt.locs, Pt.cells, Pt.slots] at X14 l14 y14 z14 st14 hQ14
  subst l14 y14 z14
  obtain ⟨rfl, Nq14, kh14⟩ := hQ14
  have N14 := Fr.app N13 Nq14
  obtain ⟨_, _, ⟨T15, L15, k15, n15⟩, -, X15, ⟨Lc15, hQ15, l15, y15, z15⟩, st15⟩ := Jvm.LawKit.callS X14 hx (y := (⟨"com/example/admitd/admitd/gate/ServiceTimeMeanPinLaw", "clamp", "(J)J"⟩ : MethodName)) hown (mvT hZ (hw _ (List.mem_of_getElem? (i := 71) rfl))) (mvT hZ (hw _ (List.mem_of_getElem? (i := 72) rfl))) (mvT hZ (hw _ (List.mem_of_getElem? (i := 73) rfl))) (mvT hZ (hw _ (List.mem_of_getElem? (i := 74) rfl))) (by decide) (backOf (W := 2) (clampR l Z a0 hw [] xb T12.heap n0 O12 ) hZ (hw _ (List.mem_of_getElem? (i := 74) rfl)) (hw _ (List.mem_of_getElem? (i := 73) rfl)) (by decide) (by decide)) (g := (mkF m 131 #[.val (.long ja), .second, .val (.long jb), .second, .val (.long jc), .second, .val (.int k), .val (.int (2 : Int32)), .val (.long xa), .second, .val (.long xb), .second, .val (.long xc), .second, .val (.ref r_1), .val (.ref r_2), .val (.ref r_3), .val (.ref b4), .val (.long (maxJ (1000000 : Int64) ((((0 : Int64) + (maxJ (0 : Int64) xa)) + (maxJ (0 : Int64) xb)) / ((2 : Int32).toInt64)))), .second, .unset, .unset, .val (.long (clampJ xa)), .second, .unset, .unset] [(.long xb), (.long (clampJ xa))])) rfl (by rw [hml]; rfl) (argsL := [(.long xb)]) (rest := [(.long (clampJ xa))]) (lenOf pd_0 rfl) rfl (by show 2 * 0 + _ ≤ _; exact Nat.le_of_eq rfl) (hb hby at_131) (fun _ _ => ⟨rfl, kh14, (by decide : 6 + 0 ≤ _), (by decide : 44 + 0 ≤ _)⟩)
  dsimp only [Pt.U, Pt.locs, Pt.cells, Pt.slots] at X15 l15 y15 z15 st15 hQ15
  subst l15 y15 z15
  obtain ⟨rfl, Nq15, kh15⟩ := hQ15
  have N15 := Fr.app N14 Nq15
  obtain ⟨fs, hr, hrun, hended, hW, hsame⟩ := X15.leave (v := some (.int (1 : Int32))) (fun h => by rw [Bd.returns] at h; cases h)
  refine ⟨_, _, pre0 _ ?_, hrun, hended, _, _, rfl, ?_, ⟨_, rfl⟩, hW, hsame.mono (by decide) (by decide)⟩
  · show Steps p.tables e below (s₁.setTop (mkF m 0 #[.val (.long ja), .second, .val (.long jb), .second, .val (.long jc), .second, .val (.int k), .unset, .unset, .unset, .unset, .unset, .unset, .unset, .unset, .unset, .unset, .unset, .unset, .unset, .unset, .unset, .unset, .unset, .unset, .unset] [])) _
    refine XS.iload X0.here hx rfl (hb hby at_0) rfl ?_
    show Steps p.tables e below (s₁.setTop (mkF m 2 #[.val (.long ja), .second, .val (.long jb), .second, .val (.long jc), .second, .val (.int k), .unset, .unset, .unset, .unset, .unset, .unset, .unset, .unset, .unset, .unset, .unset, .unset, .unset, .unset, .unset, .unset, .unset, .unset, .unset] [(.int k)])) _
    refine XS.iconst X0.here hx rfl (hb hby at_2) ?_
    show Steps p.tables e below (s₁.setTop (mkF m 3 #[.val (.long ja), .second, .val (.long jb), .second, .val (.long jc), .second, .val (.int k), .unset, .unset, .unset, .unset, .unset, .unset, .unset, .unset, .unset, .unset, .unset, .unset, .unset, .unset, .unset, .unset, .unset, .unset, .unset] [(.int (3 : Int32)), (.int k)])) _
    refine XS.iand X0.here hx rfl (hb hby at_3) rfl ?_
    show Steps p.tables e below (s₁.setTop (mkF m 4 #[.val (.long ja), .second, .val (.long jb), .second, .val (.long jc), .second, .val (.int k), .unset, .unset, .unset, .unset, .unset, .unset, .unset, .unset, .unset, .unset, .unset, .unset, .unset, .unset, .unset, .unset, .unset, .unset, .unset] [(.int (k &&& (3 : Int32)))])) _
    refine castTop (congrArg (fun z_ => (mkF m 4 #[.val (.long ja), .second, .val (.long jb), .second, .val (.long jc), .second, .val (.int k), .unset, .unset, .unset, .unset, .unset, .unset, .unset, .unset, .unset, .unset, .unset, .unset, .unset, .unset, .unset, .unset, .unset, .unset, .unset] [(.int z_)])) (hk : (k &&& (3 : Int32)) = (2 : Int32))) ?_
    show Steps p.tables e below (s₁.setTop (mkF m 4 #[.val (.long ja), .second, .val (.long jb), .second, .val (.long jc), .second, .val (.int k), .unset, .unset, .unset, .unset, .unset, .unset, .unset, .unset, .unset, .unset, .unset, .unset, .unset, .unset, .unset, .unset, .unset, .unset, .unset] [(.int (2 : Int32))])) _
    refine XS.istore X0.here hx rfl (hb hby at_4) rfl (l' := #[.val (.long ja), .second, .val (.long jb), .second, .val (.long jc), .second, .val (.int k), .val (.int (2 : Int32)), .unset, .unset, .unset, .unset, .unset, .unset, .unset, .unset, .unset, .unset, .unset, .unset, .unset, .unset, .unset, .unset, .unset, .unset]) rfl ?_
    show Steps p.tables e below (s₁.setTop (mkF m 6 #[.val (.long ja), .second, .val (.long jb), .second, .val (.long jc), .second, .val (.int k), .val (.int (2 : Int32)), .unset, .unset, .unset, .unset, .unset, .unset, .unset, .unset, .unset, .unset, .unset, .unset, .unset, .unset, .unset, .unset, .unset, .unset] [])) _
    refine XS.lloadN X0.here hx rfl (hb hby at_6) rfl ?_
    show Steps p.tables e below (s₁.setTop (mkF m 7 #[.val (.long ja), .second, .val (.long jb), .second, .val (.long jc), .second, .val (.int k), .val (.int (2 : Int32)), .unset, .unset, .unset, .unset, .unset, .unset, .unset, .unset, .unset, .unset, .unset, .unset, .unset, .unset, .unset, .unset, .unset, .unset] [(.long ja)])) _
    refine XS.iconst X0.here hx rfl (hb hby at_7) ?_
    show Steps p.tables e below (s₁.setTop (mkF m 8 #[.val (.long ja), .second, .val (.long jb), .second, .val (.long jc), .second, .val (.int k), .val (.int (2 : Int32)), .unset, .unset, .unset, .unset, .unset, .unset, .unset, .unset, .unset, .unset, .unset, .unset, .unset, .unset, .unset, .unset, .unset, .unset] [(.int (2 : Int32)), (.long ja)])) _
    refine XS.lshr X0.here hx rfl (hb hby at_8) rfl ?_
    show Steps p.tables e below (s₁.setTop (mkF m 9 #[.val (.long ja), .second, .val (.long jb), .second, .val (.long jc), .second, .val (.int k), .val (.int (2 : Int32)), .unset, .unset, .unset, .unset, .unset, .unset, .unset, .unset, .unset, .unset, .unset, .unset, .unset, .unset, .unset, .unset, .unset, .unset] [(.long (ja >>> ((2 : Int32) &&& 0x3f).toInt64))])) _
    refine castTop (congrArg (fun z_ => (mkF m 9 #[.val (.long ja), .second, .val (.long jb), .second, .val (.long jc), .second, .val (.int k), .val (.int (2 : Int32)), .unset, .unset, .unset, .unset, .unset, .unset, .unset, .unset, .unset, .unset, .unset, .unset, .unset, .unset, .unset, .unset, .unset, .unset] [(.long z_)])) (exa : (ja >>> ((2 : Int32) &&& 0x3f).toInt64) = xa)) ?_
    show Steps p.tables e below (s₁.setTop (mkF m 9 #[.val (.long ja), .second, .val (.long jb), .second, .val (.long jc), .second, .val (.int k), .val (.int (2 : Int32)), .unset, .unset, .unset, .unset, .unset, .unset, .unset, .unset, .unset, .unset, .unset, .unset, .unset, .unset, .unset, .unset, .unset, .unset] [(.long xa)])) _
    refine XS.lstore X0.here hx rfl (hb hby at_9) rfl (l' := #[.val (.long ja), .second, .val (.long jb), .second, .val (.long jc), .second, .val (.int k), .val (.int (2 : Int32)), .val (.long xa), .second, .unset, .unset, .unset, .unset, .unset, .unset, .unset, .unset, .unset, .unset, .unset, .unset, .unset, .unset, .unset, .unset]) rfl ?_
    show Steps p.tables e below (s₁.setTop (mkF m 11 #[.val (.long ja), .second, .val (.long jb), .second, .val (.long jc), .second, .val (.int k), .val (.int (2 : Int32)), .val (.long xa), .second, .unset, .unset, .unset, .unset, .unset, .unset, .unset, .unset, .unset, .unset, .unset, .unset, .unset, .unset, .unset, .unset] [])) _
    refine XS.lloadN X0.here hx rfl (hb hby at_11) rfl ?_
    show Steps p.tables e below (s₁.setTop (mkF m 12 #[.val (.long ja), .second, .val (.long jb), .second, .val (.long jc), .second, .val (.int k), .val (.int (2 : Int32)), .val (.long xa), .second, .unset, .unset, .unset, .unset, .unset, .unset, .unset, .unset, .unset, .unset, .unset, .unset, .unset, .unset, .unset, .unset] [(.long jb)])) _
    refine XS.iconst X0.here hx rfl (hb hby at_12) ?_
    show Steps p.tables e below (s₁.setTop (mkF m 13 #[.val (.long ja), .second, .val (.long jb), .second, .val (.long jc), .second, .val (.int k), .val (.int (2 : Int32)), .val (.long xa), .second, .unset, .unset, .unset, .unset, .unset, .unset, .unset, .unset, .unset, .unset, .unset, .unset, .unset, .unset, .unset, .unset] [(.int (2 : Int32)), (.long jb)])) _
    refine XS.lshr X0.here hx rfl (hb hby at_13) rfl ?_
    show Steps p.tables e below (s₁.setTop (mkF m 14 #[.val (.long ja), .second, .val (.long jb), .second, .val (.long jc), .second, .val (.int k), .val (.int (2 : Int32)), .val (.long xa), .second, .unset, .unset, .unset, .unset, .unset, .unset, .unset, .unset, .unset, .unset, .unset, .unset, .unset, .unset, .unset, .unset] [(.long (jb >>> ((2 : Int32) &&& 0x3f).toInt64))])) _
    refine castTop (congrArg (fun z_ => (mkF m 14 #[.val (.long ja), .second, .val (.long jb), .second, .val (.long jc), .second, .val (.int k), .val (.int (2 : Int32)), .val (.long xa), .second, .unset, .unset, .unset, .unset, .unset, .unset, .unset, .unset, .unset, .unset, .unset, .unset, .unset, .unset, .unset, .unset] [(.long z_)])) (exb : (jb >>> ((2 : Int32) &&& 0x3f).toInt64) = xb)) ?_
    show Steps p.tables e below (s₁.setTop (mkF m 14 #[.val (.long ja), .second, .val (.long jb), .second, .val (.long jc), .second, .val (.int k), .val (.int (2 : Int32)), .val (.long xa), .second, .unset, .unset, .unset, .unset, .unset, .unset, .unset, .unset, .unset, .unset, .unset, .unset, .unset, .unset, .unset, .unset] [(.long xb)])) _
    refine XS.lstore X0.here hx rfl (hb hby at_14) rfl (l' := #[.val (.long ja), .second, .val (.long jb), .second, .val (.long jc), .second, .val (.int k), .val (.int (2 : Int32)), .val (.long xa), .second, .val (.long xb), .second, .unset, .unset, .unset, .unset, .unset, .unset, .unset, .unset, .unset, .unset, .unset, .unset, .unset, .unset]) rfl ?_
    show Steps p.tables e below (s₁.setTop (mkF m 16 #[.val (.long ja), .second, .val (.long jb), .second, .val (.long jc), .second, .val (.int k), .val (.int (2 : Int32)), .val (.long xa), .second, .val (.long xb), .second, .unset, .unset, .unset, .unset, .unset, .unset, .unset, .unset, .unset, .unset, .unset, .unset, .unset, .unset] [])) _
    refine XS.lload X0.here hx rfl (hb hby at_16) rfl ?_
    show Steps p.tables e below (s₁.setTop (mkF m 18 #[.val (.long ja), .second, .val (.long jb), .second, .val (.long jc), .second, .val (.int k), .val (.int (2 : Int32)), .val (.long xa), .second, .val (.long xb), .second, .unset, .unset, .unset, .unset, .unset, .unset, .unset, .unset, .unset, .unset, .unset, .unset, .unset, .unset] [(.long jc)])) _
    refine XS.iconst X0.here hx rfl (hb hby at_18) ?_
    show Steps p.tables e below (s₁.setTop (mkF m 19 #[.val (.long ja), .second, .val (.long jb), .second, .val (.long jc), .second, .val (.int k), .val (.int (2 : Int32)), .val (.long xa), .second, .val (.long xb), .second, .unset, .unset, .unset, .unset, .unset, .unset, .unset, .unset, .unset, .unset, .unset, .unset, .unset, .unset] [(.int (2 : Int32)), (.long jc)])) _
    refine XS.lshr X0.here hx rfl (hb hby at_19) rfl ?_
    show Steps p.tables e below (s₁.setTop (mkF m 20 #[.val (.long ja), .second, .val (.long jb), .second, .val (.long jc), .second, .val (.int k), .val (.int (2 : Int32)), .val (.long xa), .second, .val (.long xb), .second, .unset, .unset, .unset, .unset, .unset, .unset, .unset, .unset, .unset, .unset, .unset, .unset, .unset, .unset] [(.long (jc >>> ((2 : Int32) &&& 0x3f).toInt64))])) _
    refine castTop (congrArg (fun z_ => (mkF m 20 #[.val (.long ja), .second, .val (.long jb), .second, .val (.long jc), .second, .val (.int k), .val (.int (2 : Int32)), .val (.long xa), .second, .val (.long xb), .second, .unset, .unset, .unset, .unset, .unset, .unset, .unset, .unset, .unset, .unset, .unset, .unset, .unset, .unset] [(.long z_)])) (exc : (jc >>> ((2 : Int32) &&& 0x3f).toInt64) = xc)) ?_
    show Steps p.tables e below (s₁.setTop (mkF m 20 #[.val (.long ja), .second, .val (.long jb), .second, .val (.long jc), .second, .val (.int k), .val (.int (2 : Int32)), .val (.long xa), .second, .val (.long xb), .second, .unset, .unset, .unset, .unset, .unset, .unset, .unset, .unset, .unset, .unset, .unset, .unset, .unset, .unset] [(.long xc)])) _
    refine XS.lstore X0.here hx rfl (hb hby at_20) rfl (l' := #[.val (.long ja), .second, .val (.long jb), .second, .val (.long jc), .second, .val (.int k), .val (.int (2 : Int32)), .val (.long xa), .second, .val (.long xb), .second, .val (.long xc), .second, .unset, .unset, .unset, .unset, .unset, .unset, .unset, .unset, .unset, .unset, .unset, .unset]) rfl ?_
    show Steps p.tables e below (s₁.setTop (mkF m 22 #[.val (.long ja), .second, .val (.long jb), .second, .val (.long jc), .second, .val (.int k), .val (.int (2 : Int32)), .val (.long xa), .second, .val (.long xb), .second, .val (.long xc), .second, .unset, .unset, .unset, .unset, .unset, .unset, .unset, .unset, .unset, .unset, .unset, .unset] [])) _
    refine XS.lload X0.here hx rfl (hb hby at_22) rfl ?_
    show Steps p.tables e below (s₁.setTop (mkF m 24 #[.val (.long ja), .second, .val (.long jb), .second, .val (.long jc), .second, .val (.int k), .val (.int (2 : Int32)), .val (.long xa), .second, .val (.long xb), .second, .val (.long xc), .second, .unset, .unset, .unset, .unset, .unset, .unset, .unset, .unset, .unset, .unset, .unset, .unset] [(.long xa)])) _
    refine st1 _ ?_
    show Steps p.tables e below (T1.setTop (mkF m 27 #[.val (.long ja), .second, .val (.long jb), .second, .val (.long jc), .second, .val (.int k), .val (.int (2 : Int32)), .val (.long xa), .second, .val (.long xb), .second, .val (.long xc), .second, .unset, .unset, .unset, .unset, .unset, .unset, .unset, .unset, .unset, .unset, .unset, .unset] [(.ref r_1)])) _
    refine XS.astore X1.here hx rfl (hb hby at_27) rfl rfl (l' := #[.val (.long ja), .second, .val (.long jb), .second, .val (.long jc), .second, .val (.int k), .val (.int (2 : Int32)), .val (.long xa), .second, .val (.long xb), .second, .val (.long xc), .second, .val (.ref r_1), .unset, .unset, .unset, .unset, .unset, .unset, .unset, .unset, .unset, .unset, .unset]) rfl ?_
    show Steps p.tables e below (T1.setTop (mkF m 29 #[.val (.long ja), .second, .val (.long jb), .second, .val (.long jc), .second, .val (.int k), .val (.int (2 : Int32)), .val (.long xa), .second, .val (.long xb), .second, .val (.long xc), .second, .val (.ref r_1), .unset, .unset, .unset, .unset, .unset, .unset, .unset, .unset, .unset, .unset, .unset] [])) _
    refine XS.lload X1.here hx rfl (hb hby at_29) rfl ?_
    show Steps p.tables e below (T1.setTop (mkF m 31 #[.val (.long ja), .second, .val (.long jb), .second, .val (.long jc), .second, .val (.int k), .val (.int (2 : Int32)), .val (.long xa), .second, .val (.long xb), .second, .val (.long xc), .second, .val (.ref r_1), .unset, .unset, .unset, .unset, .unset, .unset, .unset, .unset, .unset, .unset, .unset] [(.long xb)])) _
    refine st2 _ ?_
    show Steps p.tables e below (T2.setTop (mkF m 34 #[.val (.long ja), .second, .val (.long jb), .second, .val (.long jc), .second, .val (.int k), .val (.int (2 : Int32)), .val (.long xa), .second, .val (.long xb), .second, .val (.long xc), .second, .val (.ref r_1), .unset, .unset, .unset, .unset, .unset, .unset, .unset, .unset, .unset, .unset, .unset] [(.ref r_2)])) _
    refine XS.astore X2.here hx rfl (hb hby at_34) rfl rfl (l' := #[.val (.long ja), .second, .val (.long jb), .second, .val (.long jc), .second, .val (.int k), .val (.int (2 : Int32)), .val (.long xa), .second, .val (.long xb), .second, .val (.long xc), .second, .val (.ref r_1), .val (.ref r_2), .unset, .unset, .unset, .unset, .unset, .unset, .unset, .unset, .unset, .unset]) rfl ?_
    show Steps p.tables e below (T2.setTop (mkF m 36 #[.val (.long ja), .second, .val (.long jb), .second, .val (.long jc), .second, .val (.int k), .val (.int (2 : Int32)), .val (.long xa), .second, .val (.long xb), .second, .val (.long xc), .second, .val (.ref r_1), .val (.ref r_2), .unset, .unset, .unset, .unset, .unset, .unset, .unset, .unset, .unset, .unset] [])) _
    refine XS.lload X2.here hx rfl (hb hby at_36) rfl ?_
    show Steps p.tables e below (T2.setTop (mkF m 38 #[.val (.long ja), .second, .val (.long jb), .second, .val (.long jc), .second, .val (.int k), .val (.int (2 : Int32)), .val (.long xa), .second, .val (.long xb), .second, .val (.long xc), .second, .val (.ref r_1), .val (.ref r_2), .unset, .unset, .unset, .unset, .unset, .unset, .unset, .unset, .unset, .unset] [(.long xc)])) _
    refine st3 _ ?_
    show Steps p.tables e below (T3.setTop (mkF m 41 #[.val (.long ja), .second, .val (.long jb), .second, .val (.long jc), .second, .val (.int k), .val (.int (2 : Int32)), .val (.long xa), .second, .val (.long xb), .second, .val (.long xc), .second, .val (.ref r_1), .val (.ref r_2), .unset, .unset, .unset, .unset, .unset, .unset, .unset, .unset, .unset, .unset] [(.ref r_3)])) _
    refine XS.astore X3.here hx rfl (hb hby at_41) rfl rfl (l' := #[.val (.long ja), .second, .val (.long jb), .second, .val (.long jc), .second, .val (.int k), .val (.int (2 : Int32)), .val (.long xa), .second, .val (.long xb), .second, .val (.long xc), .second, .val (.ref r_1), .val (.ref r_2), .val (.ref r_3), .unset, .unset, .unset, .unset, .unset, .unset, .unset, .unset, .unset]) rfl ?_
    show Steps p.tables e below (T3.setTop (mkF m 43 #[.val (.long ja), .second, .val (.long jb), .second, .val (.long jc), .second, .val (.int k), .val (.int (2 : Int32)), .val (.long xa), .second, .val (.long xb), .second, .val (.long xc), .second, .val (.ref r_1), .val (.ref r_2), .val (.ref r_3), .unset, .unset, .unset, .unset, .unset, .unset, .unset, .unset, .unset] [])) _
    refine st4 _ ?_
    show Steps p.tables e below (T4.setTop (mkF m 46 #[.val (.long ja), .second, .val (.long jb), .second, .val (.long jc), .second, .val (.int k), .val (.int (2 : Int32)), .val (.long xa), .second, .val (.long xb), .second, .val (.long xc), .second, .val (.ref r_1), .val (.ref r_2), .val (.ref r_3), .unset, .unset, .unset, .unset, .unset, .unset, .unset, .unset, .unset] [(.ref b4)])) _
    refine XS.dup X4.here hx rfl (hb hby at_46) rfl rfl ?_
    show Steps p.tables e below (T4.setTop (mkF m 47 #[.val (.long ja), .second, .val (.long jb), .second, .val (.long jc), .second, .val (.int k), .val (.int (2 : Int32)), .val (.long xa), .second, .val (.long xb), .second, .val (.long xc), .second, .val (.ref r_1), .val (.ref r_2), .val (.ref r_3), .unset, .unset, .unset, .unset, .unset, .unset, .unset, .unset, .unset] [(.ref b4), (.ref b4)])) _
    refine st5.trans ?_
    show Steps p.tables e below (T5.setTop (mkF m 50 #[.val (.long ja), .second, .val (.long jb), .second, .val (.long jc), .second, .val (.int k), .val (.int (2 : Int32)), .val (.long xa), .second, .val (.long xb), .second, .val (.long xc), .second, .val (.ref r_1), .val (.ref r_2), .val (.ref r_3), .unset, .unset, .unset, .unset, .unset, .unset, .unset, .unset, .unset] [(.ref b4)])) _
    refine XS.astore X5.here hx rfl (hb hby at_50) rfl rfl (l' := #[.val (.long ja), .second, .val (.long jb), .second, .val (.long jc), .second, .val (.int k), .val (.int (2 : Int32)), .val (.long xa), .second, .val (.long xb), .second, .val (.long xc), .second, .val (.ref r_1), .val (.ref r_2), .val (.ref r_3), .val (.ref b4), .unset, .unset, .unset, .unset, .unset, .unset, .unset, .unset]) rfl ?_
    show Steps p.tables e below (T5.setTop (mkF m 52 #[.val (.long ja), .second, .val (.long jb), .second, .val (.long jc), .second, .val (.int k), .val (.int (2 : Int32)), .val (.long xa), .second, .val (.long xb), .second, .val (.long xc), .second, .val (.ref r_1), .val (.ref r_2), .val (.ref r_3), .val (.ref b4), .unset, .unset, .unset, .unset, .unset, .unset, .unset, .unset] [])) _
    refine XS.iload X5.here hx rfl (hb hby at_52) rfl ?_
    show Steps p.tables e below (T5.setTop (mkF m 54 #[.val (.long ja), .second, .val (.long jb), .second, .val (.long jc), .second, .val (.int k), .val (.int (2 : Int32)), .val (.long xa), .second, .val (.long xb), .second, .val (.long xc), .second, .val (.ref r_1), .val (.ref r_2), .val (.ref r_3), .val (.ref b4), .unset, .unset, .unset, .unset, .unset, .unset, .unset, .unset] [(.int (2 : Int32))])) _
    refine XS.iconst X5.here hx rfl (hb hby at_54) ?_
    show Steps p.tables e below (T5.setTop (mkF m 55 #[.val (.long ja), .second, .val (.long jb), .second, .val (.long jc), .second, .val (.int k), .val (.int (2 : Int32)), .val (.long xa), .second, .val (.long xb), .second, .val (.long xc), .second, .val (.ref r_1), .val (.ref r_2), .val (.ref r_3), .val (.ref b4), .unset, .unset, .unset, .unset, .unset, .unset, .unset, .unset] [(.int (1 : Int32)), (.int (2 : Int32))])) _
    refine XS.icmpNo X5.here hx rfl (hb hby at_55) rfl (flt (by decide : ¬ ((2 : Int32) < (1 : Int32)))).1 ?_
    show Steps p.tables e below (T5.setTop (mkF m 58 #[.val (.long ja), .second, .val (.long jb), .second, .val (.long jc), .second, .val (.int k), .val (.int (2 : Int32)), .val (.long xa), .second, .val (.long xb), .second, .val (.long xc), .second, .val (.ref r_1), .val (.ref r_2), .val (.ref r_3), .val (.ref b4), .unset, .unset, .unset, .unset, .unset, .unset, .unset, .unset] [])) _
    refine XS.aload X5.here hx rfl (hb hby at_58) rfl rfl ?_
    show Steps p.tables e below (T5.setTop (mkF m 60 #[.val (.long ja), .second, .val (.long jb), .second, .val (.long jc), .second, .val (.int k), .val (.int (2 : Int32)), .val (.long xa), .second, .val (.long xb), .second, .val (.long xc), .second, .val (.ref r_1), .val (.ref r_2), .val (.ref r_3), .val (.ref b4), .unset, .unset, .unset, .unset, .unset, .unset, .unset, .unset] [(.ref b4)])) _
    refine XS.aload X5.here hx rfl (hb hby at_60) rfl rfl ?_
    show Steps p.tables e below (T5.setTop (mkF m 62 #[.val (.long ja), .second, .val (.long jb), .second, .val (.long jc), .second, .val (.int k), .val (.int (2 : Int32)), .val (.long xa), .second, .val (.long xb), .second, .val (.long xc), .second, .val (.ref r_1), .val (.ref r_2), .val (.ref r_3), .val (.ref b4), .unset, .unset, .unset, .unset, .unset, .unset, .unset, .unset] [(.ref r_1), (.ref b4)])) _
    refine st8.trans ?_
    show Steps p.tables e below (T8.setTop (mkF m 65 #[.val (.long ja), .second, .val (.long jb), .second, .val (.long jc), .second, .val (.int k), .val (.int (2 : Int32)), .val (.long xa), .second, .val (.long xb), .second, .val (.long xc), .second, .val (.ref r_1), .val (.ref r_2), .val (.ref r_3), .val (.ref b4), .unset, .unset, .unset, .unset, .unset, .unset, .unset, .unset] [])) _
    refine XS.iload X8.here hx rfl (hb hby at_65) rfl ?_
    show Steps p.tables e below (T8.setTop (mkF m 67 #[.val (.long ja), .second, .val (.long jb), .second, .val (.long jc), .second, .val (.int k), .val (.int (2 : Int32)), .val (.long xa), .second, .val (.long xb), .second, .val (.long xc), .second, .val (.ref r_1), .val (.ref r_2), .val (.ref r_3), .val (.ref b4), .unset, .unset, .unset, .unset, .unset, .unset, .unset, .unset] [(.int (2 : Int32))])) _
    refine XS.iconst X8.here hx rfl (hb hby at_67) ?_
    show Steps p.tables e below (T8.setTop (mkF m 68 #[.val (.long ja), .second, .val (.long jb), .second, .val (.long jc), .second, .val (.int k), .val (.int (2 : Int32)), .val (.long xa), .second, .val (.long xb), .second, .val (.long xc), .second, .val (.ref r_1), .val (.ref r_2), .val (.ref r_3), .val (.ref b4), .unset, .unset, .unset, .unset, .unset, .unset, .unset, .unset] [(.int (2 : Int32)), (.int (2 : Int32))])) _
    refine XS.icmpNo X8.here hx rfl (hb hby at_68) rfl (flt (by decide : ¬ ((2 : Int32) < (2 : Int32)))).1 ?_
    show Steps p.tables e below (T8.setTop (mkF m 71 #[.val (.long ja), .second, .val (.long jb), .second, .val (.long jc), .second, .val (.int k), .val (.int (2 : Int32)), .val (.long xa), .second, .val (.long xb), .second, .val (.long xc), .second, .val (.ref r_1), .val (.ref r_2), .val (.ref r_3), .val (.ref b4), .unset, .unset, .unset, .unset, .unset, .unset, .unset, .unset] [])) _
    refine XS.aload X8.here hx rfl (hb hby at_71) rfl rfl ?_
    show Steps p.tables e below (T8.setTop (mkF m 73 #[.val (.long ja), .second, .val (.long jb), .second, .val (.long jc), .second, .val (.int k), .val (.int (2 : Int32)), .val (.long xa), .second, .val (.long xb), .second, .val (.long xc), .second, .val (.ref r_1), .val (.ref r_2), .val (.ref r_3), .val (.ref b4), .unset, .unset, .unset, .unset, .unset, .unset, .unset, .unset] [(.ref b4)])) _
    refine XS.aload X8.here hx rfl (hb hby at_73) rfl rfl ?_
    show Steps p.tables e below (T8.setTop (mkF m 75 #[.val (.long ja), .second, .val (.long jb), .second, .val (.long jc), .second, .val (.int k), .val (.int (2 : Int32)), .val (.long xa), .second, .val (.long xb), .second, .val (.long xc), .second, .val (.ref r_1), .val (.ref r_2), .val (.ref r_3), .val (.ref b4), .unset, .unset, .unset, .unset, .unset, .unset, .unset, .unset] [(.ref r_2), (.ref b4)])) _
    refine st11.trans ?_
    show Steps p.tables e below (T11.setTop (mkF m 78 #[.val (.long ja), .second, .val (.long jb), .second, .val (.long jc), .second, .val (.int k), .val (.int (2 : Int32)), .val (.long xa), .second, .val (.long xb), .second, .val (.long xc), .second, .val (.ref r_1), .val (.ref r_2), .val (.ref r_3), .val (.ref b4), .unset, .unset, .unset, .unset, .unset, .unset, .unset, .unset] [])) _
    refine XS.iload X11.here hx rfl (hb hby at_78) rfl ?_
    show Steps p.tables e below (T11.setTop (mkF m 80 #[.val (.long ja), .second, .val (.long jb), .second, .val (.long jc), .second, .val (.int k), .val (.int (2 : Int32)), .val (.long xa), .second, .val (.long xb), .second, .val (.long xc), .second, .val (.ref r_1), .val (.ref r_2), .val (.ref r_3), .val (.ref b4), .unset, .unset, .unset, .unset, .unset, .unset, .unset, .unset] [(.int (2 : Int32))])) _
    refine XS.iconst X11.here hx rfl (hb hby at_80) ?_
    show Steps p.tables e below (T11.setTop (mkF m 81 #[.val (.long ja), .second, .val (.long jb), .second, .val (.long jc), .second, .val (.int k), .val (.int (2 : Int32)), .val (.long xa), .second, .val (.long xb), .second, .val (.long xc), .second, .val (.ref r_1), .val (.ref r_2), .val (.ref r_3), .val (.ref b4), .unset, .unset, .unset, .unset, .unset, .unset, .unset, .unset] [(.int (3 : Int32)), (.int (2 : Int32))])) _
    refine XS.icmpYes X11.here hx rfl (pc0 := 81) (pc' := 91) rfl (hb hby at_81) rfl (tlt (by decide : (2 : Int32) < (3 : Int32))).1 (by decide) (by decide) ?_
    show Steps p.tables e below (T11.setTop (mkF m 91 #[.val (.long ja), .second, .val (.long jb), .second, .val (.long jc), .second, .val (.int k), .val (.int (2 : Int32)), .val (.long xa), .second, .val (.long xb), .second, .val (.long xc), .second, .val (.ref r_1), .val (.ref r_2), .val (.ref r_3), .val (.ref b4), .unset, .unset, .unset, .unset, .unset, .unset, .unset, .unset] [])) _
    refine XS.aload X11.here hx rfl (hb hby at_91) rfl rfl ?_
    show Steps p.tables e below (T11.setTop (mkF m 93 #[.val (.long ja), .second, .val (.long jb), .second, .val (.long jc), .second, .val (.int k), .val (.int (2 : Int32)), .val (.long xa), .second, .val (.long xb), .second, .val (.long xc), .second, .val (.ref r_1), .val (.ref r_2), .val (.ref r_3), .val (.ref b4), .unset, .unset, .unset, .unset, .unset, .unset, .unset, .unset] [(.ref b4)])) _
    refine st12.trans ?_
    show Steps p.tables e below (T12.setTop (mkF m 96 #[.val (.long ja), .second, .val (.long jb), .second, .val (.long jc), .second, .val (.int k), .val (.int (2 : Int32)), .val (.long xa), .second, .val (.long xb), .second, .val (.long xc), .second, .val (.ref r_1), .val (.ref r_2), .val (.ref r_3), .val (.ref b4), .unset, .unset, .unset, .unset, .unset, .unset, .unset, .unset] [(.ref r_12)])) _
    refine st13.trans ?_
    show Steps p.tables e below (T13.setTop (mkF m 99 #[.val (.long ja), .second, .val (.long jb), .second, .val (.long jc), .second, .val (.int k), .val (.int (2 : Int32)), .val (.long xa), .second, .val (.long xb), .second, .val (.long xc), .second, .val (.ref r_1), .val (.ref r_2), .val (.ref r_3), .val (.ref b4), .unset, .unset, .unset, .unset, .unset, .unset, .unset, .unset] [(.long (maxJ (1000000 : Int64) ((((0 : Int64) + (maxJ (0 : Int64) xa)) + (maxJ (0 : Int64) xb)) / ((2 : Int32).toInt64))))])) _
    refine XS.lstore X13.here hx rfl (hb hby at_99) rfl (l' := #[.val (.long ja), .second, .val (.long jb), .second, .val (.long jc), .second, .val (.int k), .val (.int (2 : Int32)), .val (.long xa), .second, .val (.long xb), .second, .val (.long xc), .second, .val (.ref r_1), .val (.ref r_2), .val (.ref r_3), .val (.ref b4), .val (.long (maxJ (1000000 : Int64) ((((0 : Int64) + (maxJ (0 : Int64) xa)) + (maxJ (0 : Int64) xb)) / ((2 : Int32).toInt64)))), .second, .unset, .unset, .unset, .unset, .unset, .unset]) rfl ?_
    show Steps p.tables e below (T13.setTop (mkF m 101 #[.val (.long ja), .second, .val (.long jb), .second, .val (.long jc), .second, .val (.int k), .val (.int (2 : Int32)), .val (.long xa), .second, .val (.long xb), .second, .val (.long xc), .second, .val (.ref r_1), .val (.ref r_2), .val (.ref r_3), .val (.ref b4), .val (.long (maxJ (1000000 : Int64) ((((0 : Int64) + (maxJ (0 : Int64) xa)) + (maxJ (0 : Int64) xb)) / ((2 : Int32).toInt64)))), .second, .unset, .unset, .unset, .unset, .unset, .unset] [])) _
    refine XS.iload X13.here hx rfl (hb hby at_101) rfl ?_
    show Steps p.tables e below (T13.setTop (mkF m 103 #[.val (.long ja), .second, .val (.long jb), .second, .val (.long jc), .second, .val (.int k), .val (.int (2 : Int32)), .val (.long xa), .second, .val (.long xb), .second, .val (.long xc), .second, .val (.ref r_1), .val (.ref r_2), .val (.ref r_3), .val (.ref b4), .val (.long (maxJ (1000000 : Int64) ((((0 : Int64) + (maxJ (0 : Int64) xa)) + (maxJ (0 : Int64) xb)) / ((2 : Int32).toInt64)))), .second, .unset, .unset, .unset, .unset, .unset, .unset] [(.int (2 : Int32))])) _
    refine XS.ifYes X13.here hx rfl (pc0 := 103) (pc' := 114) rfl (hb hby at_103) rfl ((if0 _ _).trans (feq (by decide : ¬ ((2 : Int32) = (0 : Int32)))).2) (by decide) (by decide) ?_
    show Steps p.tables e below (T13.setTop (mkF m 114 #[.val (.long ja), .second, .val (.long jb), .second, .val (.long jc), .second, .val (.int k), .val (.int (2 : Int32)), .val (.long xa), .second, .val (.long xb), .second, .val (.long xc), .second, .val (.ref r_1), .val (.ref r_2), .val (.ref r_3), .val (.ref b4), .val (.long (maxJ (1000000 : Int64) ((((0 : Int64) + (maxJ (0 : Int64) xa)) + (maxJ (0 : Int64) xb)) / ((2 : Int32).toInt64)))), .second, .unset, .unset, .unset, .unset, .unset, .unset] [])) _
    refine XS.lload X13.here hx rfl (hb hby at_114) rfl ?_
    show Steps p.tables e below (T13.setTop (mkF m 116 #[.val (.long ja), .second, .val (.long jb), .second, .val (.long jc), .second, .val (.int k), .val (.int (2 : Int32)), .val (.long xa), .second, .val (.long xb), .second, .val (.long xc), .second, .val (.ref r_1), .val (.ref r_2), .val (.ref r_3), .val (.ref b4), .val (.long (maxJ (1000000 : Int64) ((((0 : Int64) + (maxJ (0 : Int64) xa)) + (maxJ (0 : Int64) xb)) / ((2 : Int32).toInt64)))), .second, .unset, .unset, .unset, .unset, .unset, .unset] [(.long xa)])) _
    refine st14 _ ?_
    show Steps p.tables e below (T14.setTop (mkF m 119 #[.val (.long ja), .second, .val (.long jb), .second, .val (.long jc), .second, .val (.int k), .val (.int (2 : Int32)), .val (.long xa), .second, .val (.long xb), .second, .val (.long xc), .second, .val (.ref r_1), .val (.ref r_2), .val (.ref r_3), .val (.ref b4), .val (.long (maxJ (1000000 : Int64) ((((0 : Int64) + (maxJ (0 : Int64) xa)) + (maxJ (0 : Int64) xb)) / ((2 : Int32).toInt64)))), .second, .unset, .unset, .unset, .unset, .unset, .unset] [(.long (clampJ xa))])) _
    refine XS.lstore X14.here hx rfl (hb hby at_119) rfl (l' := #[.val (.long ja), .second, .val (.long jb), .second, .val (.long jc), .second, .val (.int k), .val (.int (2 : Int32)), .val (.long xa), .second, .val (.long xb), .second, .val (.long xc), .second, .val (.ref r_1), .val (.ref r_2), .val (.ref r_3), .val (.ref b4), .val (.long (maxJ (1000000 : Int64) ((((0 : Int64) + (maxJ (0 : Int64) xa)) + (maxJ (0 : Int64) xb)) / ((2 : Int32).toInt64)))), .second, .unset, .unset, .val (.long (clampJ xa)), .second, .unset, .unset]) rfl ?_
    show Steps p.tables e below (T14.setTop (mkF m 121 #[.val (.long ja), .second, .val (.long jb), .second, .val (.long jc), .second, .val (.int k), .val (.int (2 : Int32)), .val (.long xa), .second, .val (.long xb), .second, .val (.long xc), .second, .val (.ref r_1), .val (.ref r_2), .val (.ref r_3), .val (.ref b4), .val (.long (maxJ (1000000 : Int64) ((((0 : Int64) + (maxJ (0 : Int64) xa)) + (maxJ (0 : Int64) xb)) / ((2 : Int32).toInt64)))), .second, .unset, .unset, .val (.long (clampJ xa)), .second, .unset, .unset] [])) _
    refine XS.iload X14.here hx rfl (hb hby at_121) rfl ?_
    show Steps p.tables e below (T14.setTop (mkF m 123 #[.val (.long ja), .second, .val (.long jb), .second, .val (.long jc), .second, .val (.int k), .val (.int (2 : Int32)), .val (.long xa), .second, .val (.long xb), .second, .val (.long xc), .second, .val (.ref r_1), .val (.ref r_2), .val (.ref r_3), .val (.ref b4), .val (.long (maxJ (1000000 : Int64) ((((0 : Int64) + (maxJ (0 : Int64) xa)) + (maxJ (0 : Int64) xb)) / ((2 : Int32).toInt64)))), .second, .unset, .unset, .val (.long (clampJ xa)), .second, .unset, .unset] [(.int (2 : Int32))])) _
    refine XS.iconst X14.here hx rfl (hb hby at_123) ?_
    show Steps p.tables e below (T14.setTop (mkF m 124 #[.val (.long ja), .second, .val (.long jb), .second, .val (.long jc), .second, .val (.int k), .val (.int (2 : Int32)), .val (.long xa), .second, .val (.long xb), .second, .val (.long xc), .second, .val (.ref r_1), .val (.ref r_2), .val (.ref r_3), .val (.ref b4), .val (.long (maxJ (1000000 : Int64) ((((0 : Int64) + (maxJ (0 : Int64) xa)) + (maxJ (0 : Int64) xb)) / ((2 : Int32).toInt64)))), .second, .unset, .unset, .val (.long (clampJ xa)), .second, .unset, .unset] [(.int (2 : Int32)), (.int (2 : Int32))])) _
    refine XS.icmpNo X14.here hx rfl (hb hby at_124) rfl (flt (by decide : ¬ ((2 : Int32) < (2 : Int32)))).1 ?_
    show Steps p.tables e below (T14.setTop (mkF m 127 #[.val (.long ja), .second, .val (.long jb), .second, .val (.long jc), .second, .val (.int k), .val (.int (2 : Int32)), .val (.long xa), .second, .val (.long xb), .second, .val (.long xc), .second, .val (.ref r_1), .val (.ref r_2), .val (.ref r_3), .val (.ref b4), .val (.long (maxJ (1000000 : Int64) ((((0 : Int64) + (maxJ (0 : Int64) xa)) + (maxJ (0 : Int64) xb)) / ((2 : Int32).toInt64)))), .second, .unset, .unset, .val (.long (clampJ xa)), .second, .unset, .unset] [])) _
    refine XS.lload X14.here hx rfl (hb hby at_127) rfl ?_
    show Steps p.tables e below (T14.setTop (mkF m 129 #[.val (.long ja), .second, .val (.long jb), .second, .val (.long jc), .second, .val (.int k), .val (.int (2 : Int32)), .val (.long xa), .second, .val (.long xb), .second, .val (.long xc), .second, .val (.ref r_1), .val (.ref r_2), .val (.ref r_3), .val (.ref b4), .val (.long (maxJ (1000000 : Int64) ((((0 : Int64) + (maxJ (0 : Int64) xa)) + (maxJ (0 : Int64) xb)) / ((2 : Int32).toInt64)))), .second, .unset, .unset, .val (.long (clampJ xa)), .second, .unset, .unset] [(.long (clampJ xa))])) _
    refine XS.lload X14.here hx rfl (hb hby at_129) rfl ?_
    show Steps p.tables e below (T14.setTop (mkF m 131 #[.val (.long ja), .second, .val (.long jb), .second, .val (.long jc), .second, .val (.int k), .val (.int (2 : Int32)), .val (.long xa), .second, .val (.long xb), .second, .val (.long xc), .second, .val (.ref r_1), .val (.ref r_2), .val (.ref r_3), .val (.ref b4), .val (.long (maxJ (1000000 : Int64) ((((0 : Int64) + (maxJ (0 : Int64) xa)) + (maxJ (0 : Int64) xb)) / ((2 : Int32).toInt64)))), .second, .unset, .unset, .val (.long (clampJ xa)), .second, .unset, .unset] [(.long xb), (.long (clampJ xa))])) _
    refine st15 _ ?_
    show Steps p.tables e below (T15.setTop (mkF m 134 #[.val (.long ja), .second, .val (.long jb), .second, .val (.long jc), .second, .val (.int k), .val (.int (2 : Int32)), .val (.long xa), .second, .val (.long xb), .second, .val (.long xc), .second, .val (.ref r_1), .val (.ref r_2), .val (.ref r_3), .val (.ref b4), .val (.long (maxJ (1000000 : Int64) ((((0 : Int64) + (maxJ (0 : Int64) xa)) + (maxJ (0 : Int64) xb)) / ((2 : Int32).toInt64)))), .second, .unset, .unset, .val (.long (clampJ xa)), .second, .unset, .unset] [(.long (clampJ xb)), (.long (clampJ xa))])) _
    refine XS.ladd X15.here hx rfl (hb hby at_134) rfl ?_
    show Steps p.tables e below (T15.setTop (mkF m 135 #[.val (.long ja), .second, .val (.long jb), .second, .val (.long jc), .second, .val (.int k), .val (.int (2 : Int32)), .val (.long xa), .second, .val (.long xb), .second, .val (.long xc), .second, .val (.ref r_1), .val (.ref r_2), .val (.ref r_3), .val (.ref b4), .val (.long (maxJ (1000000 : Int64) ((((0 : Int64) + (maxJ (0 : Int64) xa)) + (maxJ (0 : Int64) xb)) / ((2 : Int32).toInt64)))), .second, .unset, .unset, .val (.long (clampJ xa)), .second, .unset, .unset] [(.long ((clampJ xa) + (clampJ xb)))])) _
    refine XS.lstore X15.here hx rfl (hb hby at_135) rfl (l' := #[.val (.long ja), .second, .val (.long jb), .second, .val (.long jc), .second, .val (.int k), .val (.int (2 : Int32)), .val (.long xa), .second, .val (.long xb), .second, .val (.long xc), .second, .val (.ref r_1), .val (.ref r_2), .val (.ref r_3), .val (.ref b4), .val (.long (maxJ (1000000 : Int64) ((((0 : Int64) + (maxJ (0 : Int64) xa)) + (maxJ (0 : Int64) xb)) / ((2 : Int32).toInt64)))), .second, .unset, .unset, .val (.long ((clampJ xa) + (clampJ xb))), .second, .unset, .unset]) rfl ?_
    show Steps p.tables e below (T15.setTop (mkF m 137 #[.val (.long ja), .second, .val (.long jb), .second, .val (.long jc), .second, .val (.int k), .val (.int (2 : Int32)), .val (.long xa), .second, .val (.long xb), .second, .val (.long xc), .second, .val (.ref r_1), .val (.ref r_2), .val (.ref r_3), .val (.ref b4), .val (.long (maxJ (1000000 : Int64) ((((0 : Int64) + (maxJ (0 : Int64) xa)) + (maxJ (0 : Int64) xb)) / ((2 : Int32).toInt64)))), .second, .unset, .unset, .val (.long ((clampJ xa) + (clampJ xb))), .second, .unset, .unset] [])) _
    refine XS.iload X15.here hx rfl (hb hby at_137) rfl ?_
    show Steps p.tables e below (T15.setTop (mkF m 139 #[.val (.long ja), .second, .val (.long jb), .second, .val (.long jc), .second, .val (.int k), .val (.int (2 : Int32)), .val (.long xa), .second, .val (.long xb), .second, .val (.long xc), .second, .val (.ref r_1), .val (.ref r_2), .val (.ref r_3), .val (.ref b4), .val (.long (maxJ (1000000 : Int64) ((((0 : Int64) + (maxJ (0 : Int64) xa)) + (maxJ (0 : Int64) xb)) / ((2 : Int32).toInt64)))), .second, .unset, .unset, .val (.long ((clampJ xa) + (clampJ xb))), .second, .unset, .unset] [(.int (2 : Int32))])) _
    refine XS.iconst X15.here hx rfl (hb hby at_139) ?_
    show Steps p.tables e below (T15.setTop (mkF m 140 #[.val (.long ja), .second, .val (.long jb), .second, .val (.long jc), .second, .val (.int k), .val (.int (2 : Int32)), .val (.long xa), .second, .val (.long xb), .second, .val (.long xc), .second, .val (.ref r_1), .val (.ref r_2), .val (.ref r_3), .val (.ref b4), .val (.long (maxJ (1000000 : Int64) ((((0 : Int64) + (maxJ (0 : Int64) xa)) + (maxJ (0 : Int64) xb)) / ((2 : Int32).toInt64)))), .second, .unset, .unset, .val (.long ((clampJ xa) + (clampJ xb))), .second, .unset, .unset] [(.int (3 : Int32)), (.int (2 : Int32))])) _
    refine XS.icmpYes X15.here hx rfl (pc0 := 140) (pc' := 153) rfl (hb hby at_140) rfl (tlt (by decide : (2 : Int32) < (3 : Int32))).1 (by decide) (by decide) ?_
    show Steps p.tables e below (T15.setTop (mkF m 153 #[.val (.long ja), .second, .val (.long jb), .second, .val (.long jc), .second, .val (.int k), .val (.int (2 : Int32)), .val (.long xa), .second, .val (.long xb), .second, .val (.long xc), .second, .val (.ref r_1), .val (.ref r_2), .val (.ref r_3), .val (.ref b4), .val (.long (maxJ (1000000 : Int64) ((((0 : Int64) + (maxJ (0 : Int64) xa)) + (maxJ (0 : Int64) xb)) / ((2 : Int32).toInt64)))), .second, .unset, .unset, .val (.long ((clampJ xa) + (clampJ xb))), .second, .unset, .unset] [])) _
    refine XS.lload X15.here hx rfl (hb hby at_153) rfl ?_
    show Steps p.tables e below (T15.setTop (mkF m 155 #[.val (.long ja), .second, .val (.long jb), .second, .val (.long jc), .second, .val (.int k), .val (.int (2 : Int32)), .val (.long xa), .second, .val (.long xb), .second, .val (.long xc), .second, .val (.ref r_1), .val (.ref r_2), .val (.ref r_3), .val (.ref b4), .val (.long (maxJ (1000000 : Int64) ((((0 : Int64) + (maxJ (0 : Int64) xa)) + (maxJ (0 : Int64) xb)) / ((2 : Int32).toInt64)))), .second, .unset, .unset, .val (.long ((clampJ xa) + (clampJ xb))), .second, .unset, .unset] [(.long ((clampJ xa) + (clampJ xb)))])) _
    refine XS.iload X15.here hx rfl (hb hby at_155) rfl ?_
    show Steps p.tables e below (T15.setTop (mkF m 157 #[.val (.long ja), .second, .val (.long jb), .second, .val (.long jc), .second, .val (.int k), .val (.int (2 : Int32)), .val (.long xa), .second, .val (.long xb), .second, .val (.long xc), .second, .val (.ref r_1), .val (.ref r_2), .val (.ref r_3), .val (.ref b4), .val (.long (maxJ (1000000 : Int64) ((((0 : Int64) + (maxJ (0 : Int64) xa)) + (maxJ (0 : Int64) xb)) / ((2 : Int32).toInt64)))), .second, .unset, .unset, .val (.long ((clampJ xa) + (clampJ xb))), .second, .unset, .unset] [(.int (2 : Int32)), (.long ((clampJ xa) + (clampJ xb)))])) _
    refine XS.i2l X15.here hx rfl (hb hby at_157) rfl ?_
    show Steps p.tables e below (T15.setTop (mkF m 158 #[.val (.long ja), .second, .val (.long jb), .second, .val (.long jc), .second, .val (.int k), .val (.int (2 : Int32)), .val (.long xa), .second, .val (.long xb), .second, .val (.long xc), .second, .val (.ref r_1), .val (.ref r_2), .val (.ref r_3), .val (.ref b4), .val (.long (maxJ (1000000 : Int64) ((((0 : Int64) + (maxJ (0 : Int64) xa)) + (maxJ (0 : Int64) xb)) / ((2 : Int32).toInt64)))), .second, .unset, .unset, .val (.long ((clampJ xa) + (clampJ xb))), .second, .unset, .unset] [(.long ((2 : Int32).toInt64)), (.long ((clampJ xa) + (clampJ xb)))])) _
    refine XS.ldiv X15.here hx rfl (hb hby at_158) rfl (by decide) ?_
    show Steps p.tables e below (T15.setTop (mkF m 159 #[.val (.long ja), .second, .val (.long jb), .second, .val (.long jc), .second, .val (.int k), .val (.int (2 : Int32)), .val (.long xa), .second, .val (.long xb), .second, .val (.long xc), .second, .val (.ref r_1), .val (.ref r_2), .val (.ref r_3), .val (.ref b4), .val (.long (maxJ (1000000 : Int64) ((((0 : Int64) + (maxJ (0 : Int64) xa)) + (maxJ (0 : Int64) xb)) / ((2 : Int32).toInt64)))), .second, .unset, .unset, .val (.long ((clampJ xa) + (clampJ xb))), .second, .unset, .unset] [(.long (((clampJ xa) + (clampJ xb)) / ((2 : Int32).toInt64)))])) _
    refine XS.lstore X15.here hx rfl (hb hby at_159) rfl (l' := #[.val (.long ja), .second, .val (.long jb), .second, .val (.long jc), .second, .val (.int k), .val (.int (2 : Int32)), .val (.long xa), .second, .val (.long xb), .second, .val (.long xc), .second, .val (.ref r_1), .val (.ref r_2), .val (.ref r_3), .val (.ref b4), .val (.long (maxJ (1000000 : Int64) ((((0 : Int64) + (maxJ (0 : Int64) xa)) + (maxJ (0 : Int64) xb)) / ((2 : Int32).toInt64)))), .second, .unset, .unset, .val (.long ((clampJ xa) + (clampJ xb))), .second, .val (.long (((clampJ xa) + (clampJ xb)) / ((2 : Int32).toInt64))), .second]) rfl ?_
    show Steps p.tables e below (T15.setTop (mkF m 161 #[.val (.long ja), .second, .val (.long jb), .second, .val (.long jc), .second, .val (.int k), .val (.int (2 : Int32)), .val (.long xa), .second, .val (.long xb), .second, .val (.long xc), .second, .val (.ref r_1), .val (.ref r_2), .val (.ref r_3), .val (.ref b4), .val (.long (maxJ (1000000 : Int64) ((((0 : Int64) + (maxJ (0 : Int64) xa)) + (maxJ (0 : Int64) xb)) / ((2 : Int32).toInt64)))), .second, .unset, .unset, .val (.long ((clampJ xa) + (clampJ xb))), .second, .val (.long (((clampJ xa) + (clampJ xb)) / ((2 : Int32).toInt64))), .second] [])) _
    refine XS.lload X15.here hx rfl (hb hby at_161) rfl ?_
    show Steps p.tables e below (T15.setTop (mkF m 163 #[.val (.long ja), .second, .val (.long jb), .second, .val (.long jc), .second, .val (.int k), .val (.int (2 : Int32)), .val (.long xa), .second, .val (.long xb), .second, .val (.long xc), .second, .val (.ref r_1), .val (.ref r_2), .val (.ref r_3), .val (.ref b4), .val (.long (maxJ (1000000 : Int64) ((((0 : Int64) + (maxJ (0 : Int64) xa)) + (maxJ (0 : Int64) xb)) / ((2 : Int32).toInt64)))), .second, .unset, .unset, .val (.long ((clampJ xa) + (clampJ xb))), .second, .val (.long (((clampJ xa) + (clampJ xb)) / ((2 : Int32).toInt64))), .second] [(.long (((clampJ xa) + (clampJ xb)) / ((2 : Int32).toInt64)))])) _
    refine X15.ldc2Long hx hown (mvT hZ (hw _ (List.mem_of_getElem? (i := 75) rfl))) (g := (mkF m 163 #[.val (.long ja), .second, .val (.long jb), .second, .val (.long jc), .second, .val (.int k), .val (.int (2 : Int32)), .val (.long xa), .second, .val (.long xb), .second, .val (.long xc), .second, .val (.ref r_1), .val (.ref r_2), .val (.ref r_3), .val (.ref b4), .val (.long (maxJ (1000000 : Int64) ((((0 : Int64) + (maxJ (0 : Int64) xa)) + (maxJ (0 : Int64) xb)) / ((2 : Int32).toInt64)))), .second, .unset, .unset, .val (.long ((clampJ xa) + (clampJ xb))), .second, .val (.long (((clampJ xa) + (clampJ xb)) / ((2 : Int32).toInt64))), .second] [(.long (((clampJ xa) + (clampJ xb)) / ((2 : Int32).toInt64)))])) rfl (hb hby at_163) _ ?_
    show Steps p.tables e below (T15.setTop (mkF m 166 #[.val (.long ja), .second, .val (.long jb), .second, .val (.long jc), .second, .val (.int k), .val (.int (2 : Int32)), .val (.long xa), .second, .val (.long xb), .second, .val (.long xc), .second, .val (.ref r_1), .val (.ref r_2), .val (.ref r_3), .val (.ref b4), .val (.long (maxJ (1000000 : Int64) ((((0 : Int64) + (maxJ (0 : Int64) xa)) + (maxJ (0 : Int64) xb)) / ((2 : Int32).toInt64)))), .second, .unset, .unset, .val (.long ((clampJ xa) + (clampJ xb))), .second, .val (.long (((clampJ xa) + (clampJ xb)) / ((2 : Int32).toInt64))), .second] [(.long (1000000 : Int64)), (.long (((clampJ xa) + (clampJ xb)) / ((2 : Int32).toInt64)))])) _
    refine XS.lcmp X15.here hx rfl (hb hby at_166) rfl ?_
    show Steps p.tables e below (T15.setTop (mkF m 167 #[.val (.long ja), .second, .val (.long jb), .second, .val (.long jc), .second, .val (.int k), .val (.int (2 : Int32)), .val (.long xa), .second, .val (.long xb), .second, .val (.long xc), .second, .val (.ref r_1), .val (.ref r_2), .val (.ref r_3), .val (.ref b4), .val (.long (maxJ (1000000 : Int64) ((((0 : Int64) + (maxJ (0 : Int64) xa)) + (maxJ (0 : Int64) xb)) / ((2 : Int32).toInt64)))), .second, .unset, .unset, .val (.long ((clampJ xa) + (clampJ xb))), .second, .val (.long (((clampJ xa) + (clampJ xb)) / ((2 : Int32).toInt64))), .second] [(.int (lcmpW (((clampJ xa) + (clampJ xb)) / ((2 : Int32).toInt64)) (1000000 : Int64)))])) _
    refine XS.ifYes X15.here hx rfl (pc0 := 167) (pc' := 178) rfl (hb hby at_167) rfl ((if0 _ _).trans (flt (hc167 : ¬ ((lcmpW (((clampJ xa) + (clampJ xb)) / ((2 : Int32).toInt64)) (1000000 : Int64)) < (0 : Int32)))).2.1) (by decide) (by decide) ?_
    show Steps p.tables e below (T15.setTop (mkF m 178 #[.val (.long ja), .second, .val (.long jb), .second, .val (.long jc), .second, .val (.int k), .val (.int (2 : Int32)), .val (.long xa), .second, .val (.long xb), .second, .val (.long xc), .second, .val (.ref r_1), .val (.ref r_2), .val (.ref r_3), .val (.ref b4), .val (.long (maxJ (1000000 : Int64) ((((0 : Int64) + (maxJ (0 : Int64) xa)) + (maxJ (0 : Int64) xb)) / ((2 : Int32).toInt64)))), .second, .unset, .unset, .val (.long ((clampJ xa) + (clampJ xb))), .second, .val (.long (((clampJ xa) + (clampJ xb)) / ((2 : Int32).toInt64))), .second] [])) _
    refine XS.lload X15.here hx rfl (hb hby at_178) rfl ?_
    show Steps p.tables e below (T15.setTop (mkF m 180 #[.val (.long ja), .second, .val (.long jb), .second, .val (.long jc), .second, .val (.int k), .val (.int (2 : Int32)), .val (.long xa), .second, .val (.long xb), .second, .val (.long xc), .second, .val (.ref r_1), .val (.ref r_2), .val (.ref r_3), .val (.ref b4), .val (.long (maxJ (1000000 : Int64) ((((0 : Int64) + (maxJ (0 : Int64) xa)) + (maxJ (0 : Int64) xb)) / ((2 : Int32).toInt64)))), .second, .unset, .unset, .val (.long ((clampJ xa) + (clampJ xb))), .second, .val (.long (((clampJ xa) + (clampJ xb)) / ((2 : Int32).toInt64))), .second] [(.long (((clampJ xa) + (clampJ xb)) / ((2 : Int32).toInt64)))])) _
    refine XS.lstore X15.here hx rfl (hb hby at_180) rfl (l' := #[.val (.long ja), .second, .val (.long jb), .second, .val (.long jc), .second, .val (.int k), .val (.int (2 : Int32)), .val (.long xa), .second, .val (.long xb), .second, .val (.long xc), .second, .val (.ref r_1), .val (.ref r_2), .val (.ref r_3), .val (.ref b4), .val (.long (maxJ (1000000 : Int64) ((((0 : Int64) + (maxJ (0 : Int64) xa)) + (maxJ (0 : Int64) xb)) / ((2 : Int32).toInt64)))), .second, .val (.long (((clampJ xa) + (clampJ xb)) / ((2 : Int32).toInt64))), .second, .val (.long ((clampJ xa) + (clampJ xb))), .second, .val (.long (((clampJ xa) + (clampJ xb)) / ((2 : Int32).toInt64))), .second]) rfl ?_
    show Steps p.tables e below (T15.setTop (mkF m 182 #[.val (.long ja), .second, .val (.long jb), .second, .val (.long jc), .second, .val (.int k), .val (.int (2 : Int32)), .val (.long xa), .second, .val (.long xb), .second, .val (.long xc), .second, .val (.ref r_1), .val (.ref r_2), .val (.ref r_3), .val (.ref b4), .val (.long (maxJ (1000000 : Int64) ((((0 : Int64) + (maxJ (0 : Int64) xa)) + (maxJ (0 : Int64) xb)) / ((2 : Int32).toInt64)))), .second, .val (.long (((clampJ xa) + (clampJ xb)) / ((2 : Int32).toInt64))), .second, .val (.long ((clampJ xa) + (clampJ xb))), .second, .val (.long (((clampJ xa) + (clampJ xb)) / ((2 : Int32).toInt64))), .second] [])) _
    refine XS.lload X15.here hx rfl (hb hby at_182) rfl ?_
    show Steps p.tables e below (T15.setTop (mkF m 184 #[.val (.long ja), .second, .val (.long jb), .second, .val (.long jc), .second, .val (.int k), .val (.int (2 : Int32)), .val (.long xa), .second, .val (.long xb), .second, .val (.long xc), .second, .val (.ref r_1), .val (.ref r_2), .val (.ref r_3), .val (.ref b4), .val (.long (maxJ (1000000 : Int64) ((((0 : Int64) + (maxJ (0 : Int64) xa)) + (maxJ (0 : Int64) xb)) / ((2 : Int32).toInt64)))), .second, .val (.long (((clampJ xa) + (clampJ xb)) / ((2 : Int32).toInt64))), .second, .val (.long ((clampJ xa) + (clampJ xb))), .second, .val (.long (((clampJ xa) + (clampJ xb)) / ((2 : Int32).toInt64))), .second] [(.long (maxJ (1000000 : Int64) ((((0 : Int64) + (maxJ (0 : Int64) xa)) + (maxJ (0 : Int64) xb)) / ((2 : Int32).toInt64))))])) _
    refine XS.lload X15.here hx rfl (hb hby at_184) rfl ?_
    show Steps p.tables e below (T15.setTop (mkF m 186 #[.val (.long ja), .second, .val (.long jb), .second, .val (.long jc), .second, .val (.int k), .val (.int (2 : Int32)), .val (.long xa), .second, .val (.long xb), .second, .val (.long xc), .second, .val (.ref r_1), .val (.ref r_2), .val (.ref r_3), .val (.ref b4), .val (.long (maxJ (1000000 : Int64) ((((0 : Int64) + (maxJ (0 : Int64) xa)) + (maxJ (0 : Int64) xb)) / ((2 : Int32).toInt64)))), .second, .val (.long (((clampJ xa) + (clampJ xb)) / ((2 : Int32).toInt64))), .second, .val (.long ((clampJ xa) + (clampJ xb))), .second, .val (.long (((clampJ xa) + (clampJ xb)) / ((2 : Int32).toInt64))), .second] [(.long (((clampJ xa) + (clampJ xb)) / ((2 : Int32).toInt64))), (.long (maxJ (1000000 : Int64) ((((0 : Int64) + (maxJ (0 : Int64) xa)) + (maxJ (0 : Int64) xb)) / ((2 : Int32).toInt64))))])) _
    refine XS.lcmp X15.here hx rfl (hb hby at_186) rfl ?_
    show Steps p.tables e below (T15.setTop (mkF m 187 #[.val (.long ja), .second, .val (.long jb), .second, .val (.long jc), .second, .val (.int k), .val (.int (2 : Int32)), .val (.long xa), .second, .val (.long xb), .second, .val (.long xc), .second, .val (.ref r_1), .val (.ref r_2), .val (.ref r_3), .val (.ref b4), .val (.long (maxJ (1000000 : Int64) ((((0 : Int64) + (maxJ (0 : Int64) xa)) + (maxJ (0 : Int64) xb)) / ((2 : Int32).toInt64)))), .second, .val (.long (((clampJ xa) + (clampJ xb)) / ((2 : Int32).toInt64))), .second, .val (.long ((clampJ xa) + (clampJ xb))), .second, .val (.long (((clampJ xa) + (clampJ xb)) / ((2 : Int32).toInt64))), .second] [(.int (lcmpW (maxJ (1000000 : Int64) ((((0 : Int64) + (maxJ (0 : Int64) xa)) + (maxJ (0 : Int64) xb)) / ((2 : Int32).toInt64))) (((clampJ xa) + (clampJ xb)) / ((2 : Int32).toInt64))))])) _
    refine XS.ifNo X15.here hx rfl (hb hby at_187) rfl ((if0 _ _).trans (teq (((lw_eq _ _).mpr (fin_a2 hc167)) : (lcmpW (maxJ (1000000 : Int64) ((((0 : Int64) + (maxJ (0 : Int64) xa)) + (maxJ (0 : Int64) xb)) / ((2 : Int32).toInt64))) (((clampJ xa) + (clampJ xb)) / ((2 : Int32).toInt64))) = (0 : Int32))).2) ?_
    show Steps p.tables e below (T15.setTop (mkF m 190 #[.val (.long ja), .second, .val (.long jb), .second, .val (.long jc), .second, .val (.int k), .val (.int (2 : Int32)), .val (.long xa), .second, .val (.long xb), .second, .val (.long xc), .second, .val (.ref r_1), .val (.ref r_2), .val (.ref r_3), .val (.ref b4), .val (.long (maxJ (1000000 : Int64) ((((0 : Int64) + (maxJ (0 : Int64) xa)) + (maxJ (0 : Int64) xb)) / ((2 : Int32).toInt64)))), .second, .val (.long (((clampJ xa) + (clampJ xb)) / ((2 : Int32).toInt64))), .second, .val (.long ((clampJ xa) + (clampJ xb))), .second, .val (.long (((clampJ xa) + (clampJ xb)) / ((2 : Int32).toInt64))), .second] [])) _
    refine XS.iconst X15.here hx rfl (hb hby at_190) ?_
    show Steps p.tables e below (T15.setTop (mkF m 191 #[.val (.long ja), .second, .val (.long jb), .second, .val (.long jc), .second, .val (.int k), .val (.int (2 : Int32)), .val (.long xa), .second, .val (.long xb), .second, .val (.long xc), .second, .val (.ref r_1), .val (.ref r_2), .val (.ref r_3), .val (.ref b4), .val (.long (maxJ (1000000 : Int64) ((((0 : Int64) + (maxJ (0 : Int64) xa)) + (maxJ (0 : Int64) xb)) / ((2 : Int32).toInt64)))), .second, .val (.long (((clampJ xa) + (clampJ xb)) / ((2 : Int32).toInt64))), .second, .val (.long ((clampJ xa) + (clampJ xb))), .second, .val (.long (((clampJ xa) + (clampJ xb)) / ((2 : Int32).toInt64))), .second] [(.int (1 : Int32))])) _
    refine XS.goto X15.here hx rfl (pc0 := 191) (pc' := 195) rfl (hb hby at_191) (by decide) (by decide) ?_
    show Steps p.tables e below (T15.setTop (mkF m 195 #[.val (.long ja), .second, .val (.long jb), .second, .val (.long jc), .second, .val (.int k), .val (.int (2 : Int32)), .val (.long xa), .second, .val (.long xb), .second, .val (.long xc), .second, .val (.ref r_1), .val (.ref r_2), .val (.ref r_3), .val (.ref b4), .val (.long (maxJ (1000000 : Int64) ((((0 : Int64) + (maxJ (0 : Int64) xa)) + (maxJ (0 : Int64) xb)) / ((2 : Int32).toInt64)))), .second, .val (.long (((clampJ xa) + (clampJ xb)) / ((2 : Int32).toInt64))), .second, .val (.long ((clampJ xa) + (clampJ xb))), .second, .val (.long (((clampJ xa) + (clampJ xb)) / ((2 : Int32).toInt64))), .second] [(.int (1 : Int32))])) _
    exact retN X15 hx (t := .boolean) Bd.returns (by simp) (hb hby at_195) hr
  · show Q_law Z ja jb jc k wz wg h0 n0 _ T15.heap _
    rw [kh15]
    exact ⟨rfl, N15⟩
set_option maxRecDepth 65536 in
set_option maxHeartbeats 40000000 in
theorem law_2b (l : Launch) (Z : State) (a0 : Array Value) (hw : ∀ d ∈ tables_1, d.before a0 Z = true) (ws : List Jvm.Cond) (ja : Int64) (jb : Int64) (jc : Int64) (k : Int32) (wz : Addr) (wg : Addr) (h0 : Heap) (n0 : Nat) (O0 : Old Z n0 h0) (G0 : Sta Z Z.heap "com/example/admitd/admitd/gate/ServiceTime" "LEAST_NANOS" "J" (.long (1000000 : Int64))) (G1 : Sta Z Z.heap "java/time/Duration" "ZERO" "Ljava/time/Duration;" (.ref wz)) (G2 : Exa Z Z.heap wz "java/time/Duration") (G3 : Fld Z Z.heap wz "java/time/Duration" "seconds" "J" (.long (0 : Int64))) (G4 : Fld Z Z.heap wz "java/time/Duration" "nanos" "I" (.int (0 : Int32))) (G5 : Sta Z Z.heap "com/example/admitd/admitd/gate/ServiceTime" "FIRST_GUESS" "Ljava/time/Duration;" (.ref wg)) (G6 : Exa Z Z.heap wg "java/time/Duration") (G7 : Fld Z Z.heap wg "java/time/Duration" "seconds" "J" (.long (1 : Int64))) (G8 : Fld Z Z.heap wg "java/time/Duration" "nanos" "I" (.int (0 : Int32))) (xa : Int64) (xb : Int64) (xc : Int64) (exa : (ja >>> ((2 : Int32) &&& 0x3f).toInt64) = xa) (exb : (jb >>> ((2 : Int32) &&& 0x3f).toInt64) = xb) (exc : (jc >>> ((2 : Int32) &&& 0x3f).toInt64) = xc) (hk : (k &&& (3 : Int32)) = (2 : Int32)) (hc167 : (lcmpW (((clampJ xa) + (clampJ xb)) / ((2 : Int32).toInt64)) (1000000 : Int64)) < (0 : Int32)) :
    MetFree l x (head1 (Jvm.Cond.code x code maxLocals ret :: ws) room_1) (fun zA zU => zA = #[(.long ja), (.long jb), (.long jc), (.int k)] ∧ Z.Warmed39 zU.vm ∧ zU.heap = h0) (fun _ _ _ _ _ => True) (fun _ zU zo zU' => ∃ zv zL, zo = .returned zv ∧ Q_law Z ja jb jc k wz wg h0 n0 zv zU'.heap zL ∧ FrameEnd zU zo zU' zL room_1.cells room_1.slots) := by
  refine MetFree.of_bodySF (plainFor_of_name pn_4) hisR ?_
  intro p e s m args below meth c s₁ Bd hml0 hP hK
  obtain ⟨rfl, hZ, hh⟩ := hP
  have hx := Bd.exec
  have hby := Bd.bytes
  have hml : c.maxLocals = 26 := hml0
  have hown : s.vm.findClass "com/example/admitd/admitd/gate/ServiceTimeMeanPinLaw" = some m.cls := findClass_of_methodNamed Bd.named
  have hnm := (name_of_methodNamed Bd.named Bd.method).1
  have X0 : Stand p l e room_1 s m #[(.long ja), (.long jb), (.long jc), (.int k)] below meth c s₁ [] 0 0 := Stand.of_body Bd
  have e0 : s₁.heap = h0 := by rw [← hh, Bd.state]; rfl
  have N0 := Fr.nil n0
  have Z0 : n0 ≤ h0.size := O0.1 ▸ O0.2.1
  have pre0 : ∀ zt, Steps p.tables e below (s₁.setTop (mkF m 0 #[.val (.long ja), .second, .val (.long jb), .second, .val (.long jc), .second, .val (.int k), .unset, .unset, .unset, .unset, .unset, .unset, .unset, .unset, .unset, .unset, .unset, .unset, .unset, .unset, .unset, .unset, .unset, .unset, .unset] [])) zt → Steps p.tables e below (s₁.setTop (entryFrame m #[(.long ja), (.long jb), (.long jc), (.int k)] maxLocals)) zt := fun zt zk => castTop (ef_0_JJJI m ja jb jc k) zk
  obtain ⟨_, _, ⟨T1, L1, k1, n1⟩, -, X1, ⟨Lc1, hQ1, l1, y1, z1⟩, st1⟩ := Jvm.LawKit.callS X0 hx (y := (⟨"java/time/Duration", "ofNanos", "(J)Ljava/time/Duration;"⟩ : MethodName)) hown (mvT hZ (hw _ (List.mem_of_getElem? (i := 0) rfl))) (mvT hZ (hw _ (List.mem_of_getElem? (i := 1) rfl))) (mvT hZ (hw _ (List.mem_of_getElem? (i := 2) rfl))) (mvT hZ (hw _ (List.mem_of_getElem? (i := 3) rfl))) (by decide) (backOf (W := 0) (ofN l Z a0 hw [] xa wz h0 n0 O0 G1 G2 G3 G4) hZ (hw _ (List.mem_of_getElem? (i := 3) rfl)) (hw _ (List.mem_of_getElem? (i := 2) rfl)) (by decide) (by decide)) (g := (mkF m 24 #[.val (.long ja), .second, .val (.long jb), .second, .val (.long jc), .second, .val (.int k), .val (.int (2 : Int32)), .val (.long xa), .second, .val (.long xb), .second, .val (.long xc), .second, .unset, .unset, .unset, .unset, .unset, .unset, .unset, .unset, .unset, .unset, .unset, .unset] [(.long xa)])) rfl (by rw [hml]; rfl) (argsL := [(.long xa)]) (rest := []) (lenOf pd_5 rfl) rfl (by show 2 * 0 + _ ≤ _; exact Nat.le_of_eq rfl) (hb hby at_24) (fun _ _ => ⟨rfl, e0, (by decide : 0 + 1 ≤ _), (by decide : 0 + 2 ≤ _)⟩)
  dsimp only [Pt.U, Pt.locs, Pt.cells, Pt.slots] at X1 l1 y1 z1 st1 hQ1
  subst l1 y1 z1
  obtain ⟨r_1, s1_1, n1_1, rfl, Nq1, kh1, Po1_0, Po1_1, Po1_2, pq1_0⟩ := hQ1
  have N1 := Fr.app N0 Nq1
  have O1 := O0.keep kh1 all0
  have K1 : Keep h0 T1.heap [] := (Keep.refl h0 []).trans kh1 all0
  obtain ⟨_, _, ⟨T2, L2, k2, n2⟩, -, X2, ⟨Lc2, hQ2, l2, y2, z2⟩, st2⟩ := Jvm.LawKit.callS X1 hx (y := (⟨"java/time/Duration", "ofNanos", "(J)Ljava/time/Duration;"⟩ : MethodName)) hown (mvT hZ (hw _ (List.mem_of_getElem? (i := 0) rfl))) (mvT hZ (hw _ (List.mem_of_getElem? (i := 1) rfl))) (mvT hZ (hw _ (List.mem_of_getElem? (i := 2) rfl))) (mvT hZ (hw _ (List.mem_of_getElem? (i := 3) rfl))) (by decide) (backOf (W := 0) (ofN l Z a0 hw [] xb wz T1.heap n0 O1 G1 G2 G3 G4) hZ (hw _ (List.mem_of_getElem? (i := 3) rfl)) (hw _ (List.mem_of_getElem? (i := 2) rfl)) (by decide) (by decide)) (g := (mkF m 31 #[.val (.long ja), .second, .val (.long jb), .second, .val (.long jc), .second, .val (.int k), .val (.int (2 : Int32)), .val (.long xa), .second, .val (.long xb), .second, .val (.long xc), .second, .val (.ref r_1), .unset, .unset, .unset, .unset, .unset, .unset, .unset, .unset, .unset, .unset, .unset] [(.long xb)])) rfl (by rw [hml]; rfl) (argsL := [(.long xb)]) (rest := []) (lenOf pd_5 rfl) rfl (by show 2 * 0 + _ ≤ _; exact Nat.le_of_eq rfl) (hb hby at_31) (fun _ _ => ⟨rfl, rfl, (by decide : 1 + 1 ≤ _), (by decide : 2 + 2 ≤ _)⟩)
  dsimp only [Pt.U, Pt.locs, Pt.cells, Pt.slots] at X2 l2 y2 z2 st2 hQ2
  subst l2 y2 z2
  obtain ⟨r_2, s1_2, n1_2, rfl, Nq2, kh2, Po2_0, Po2_1, Po2_2, pq2_0⟩ := hQ2
  have N2 := Fr.app N1 Nq2
  have O2 := O1.keep kh2 all0
  have K2 : Keep h0 T2.heap [] := K1.trans kh2 all0
  obtain ⟨_, _, ⟨T3, L3, k3, n3⟩, -, X3, ⟨Lc3, hQ3, l3, y3, z3⟩, st3⟩ := Jvm.LawKit.callS X2 hx (y := (⟨"java/time/Duration", "ofNanos", "(J)Ljava/time/Duration;"⟩ : MethodName)) hown (mvT hZ (hw _ (List.mem_of_getElem? (i := 0) rfl))) (mvT hZ (hw _ (List.mem_of_getElem? (i := 1) rfl))) (mvT hZ (hw _ (List.mem_of_getElem? (i := 2) rfl))) (mvT hZ (hw _ (List.mem_of_getElem? (i := 3) rfl))) (by decide) (backOf (W := 0) (ofN l Z a0 hw [] xc wz T2.heap n0 O2 G1 G2 G3 G4) hZ (hw _ (List.mem_of_getElem? (i := 3) rfl)) (hw _ (List.mem_of_getElem? (i := 2) rfl)) (by decide) (by decide)) (g := (mkF m 38 #[.val (.long ja), .second, .val (.long jb), .second, .val (.long jc), .second, .val (.int k), .val (.int (2 : Int32)), .val (.long xa), .second, .val (.long xb), .second, .val (.long xc), .second, .val (.ref r_1), .val (.ref r_2), .unset, .unset, .unset, .unset, .unset, .unset, .unset, .unset, .unset, .unset] [(.long xc)])) rfl (by rw [hml]; rfl) (argsL := [(.long xc)]) (rest := []) (lenOf pd_5 rfl) rfl (by show 2 * 0 + _ ≤ _; exact Nat.le_of_eq rfl) (hb hby at_38) (fun _ _ => ⟨rfl, rfl, (by decide : 2 + 1 ≤ _), (by decide : 4 + 2 ≤ _)⟩)
  dsimp only [Pt.U, Pt.locs, Pt.cells, Pt.slots] at X3 l3 y3 z3 st3 hQ3
  subst l3 y3 z3
  obtain ⟨r_3, s1_3, n1_3, rfl, Nq3, kh3, Po3_0, Po3_1, Po3_2, pq3_0⟩ := hQ3
  have N3 := Fr.app N2 Nq3
  have O3 := O2.keep kh3 all0
  have K3 : Keep h0 T3.heap [] := K2.trans kh3 all0
  obtain ⟨T4, h4, X4, e4, E4, A4, D4, U4, st4⟩ := newO X3 hx hZ hown (hw _ (List.mem_of_getElem? (i := 23) rfl)) (hw _ (List.mem_of_getElem? (i := 24) rfl)) (hw _ (List.mem_of_getElem? (i := 25) rfl)) rfl (g := (mkF m 43 #[.val (.long ja), .second, .val (.long jb), .second, .val (.long jc), .second, .val (.int k), .val (.int (2 : Int32)), .val (.long xa), .second, .val (.long xb), .second, .val (.long xc), .second, .val (.ref r_1), .val (.ref r_2), .val (.ref r_3), .unset, .unset, .unset, .unset, .unset, .unset, .unset, .unset, .unset] [])) rfl (hb hby at_43) (by decide) (by decide)
  obtain ⟨b4, gz4⟩ : ∃ z, z = T3.heap.size := ⟨_, rfl⟩
  rw [← gz4] at A4 D4 U4 st4
  have sz_b4 : h0.size ≤ b4 := Nat.le_trans K3.1 (Nat.le_of_eq gz4.symm)
  have g_b4 : n0 ≤ b4 := Nat.le_trans Z0 sz_b4
  have O4 := O3.ext E4
  have K4 : Keep h0 h4 [] := K3.ext E4
  have Fi4_32 : Fld Z h4 b4 "com/example/admitd/admitd/gate/ServiceTime" "latest" "[J" .null := D4 (Or.inr (hw _ (List.mem_of_getElem? (i := 32) rfl))) (ty := (.array .long)) (by decide)
  have Fi4_57 : Fld Z h4 b4 "com/example/admitd/admitd/gate/ServiceTime" "count" "I" (.int (0 : Int32)) := D4 (Or.inl (hw _ (List.mem_of_getElem? (i := 57) rfl))) (ty := .int) (by decide)
  have Fi4_59 : Fld Z h4 b4 "com/example/admitd/admitd/gate/ServiceTime" "next" "I" (.int (0 : Int32)) := D4 (Or.inl (hw _ (List.mem_of_getElem? (i := 59) rfl))) (ty := .int) (by decide)
  have Fi4_61 : Fld Z h4 b4 "com/example/admitd/admitd/gate/ServiceTime" "sum" "J" (.long (0 : Int64)) := D4 (Or.inl (hw _ (List.mem_of_getElem? (i := 61) rfl))) (ty := .long) (by decide)
  obtain ⟨_, _, ⟨T5, L5, k5, n5⟩, -, X5, ⟨Lc5, hQ5, l5, y5, z5⟩, st5⟩ := X4.specialBack hx (y := (⟨"com/example/admitd/admitd/gate/ServiceTime", "<init>", "()V"⟩ : MethodName)) rfl hown (mvT hZ (hw _ (List.mem_of_getElem? (i := 26) rfl))) (mvT hZ (hw _ (List.mem_of_getElem? (i := 27) rfl))) (mvT hZ (hw _ (List.mem_of_getElem? (i := 28) rfl))) (by decide) (backOf (W := 1) (svI l Z a0 hw [] b4 h4 n0 O4 A4 Fi4_32 Fi4_57 Fi4_59 Fi4_61 g_b4) hZ (hw _ (List.mem_of_getElem? (i := 28) rfl)) (hw _ (List.mem_of_getElem? (i := 25) rfl)) (by decide) (by decide)) (g := (mkF m 47 #[.val (.long ja), .second, .val (.long jb), .second, .val (.long jc), .second, .val (.int k), .val (.int (2 : Int32)), .val (.long xa), .second, .val (.long xb), .second, .val (.long xc), .second, .val (.ref r_1), .val (.ref r_2), .val (.ref r_3), .unset, .unset, .unset, .unset, .unset, .unset, .unset, .unset, .unset] [(.ref b4), (.ref b4)])) rfl (by rw [hml]; rfl) (Steps.refl _) (a := b4) (argsL := []) (rest := [(.ref b4)]) (lenOf pd_6 rfl) rfl (by show 2 * 0 + _ ≤ _; exact Nat.le_of_eq rfl) (hb hby at_47) (fun _ _ => ⟨rfl, e4, (by decide : 4 + 1 ≤ _), (by decide : 10 + 32 ≤ _)⟩)
  dsimp only [Pt.U, Pt.locs, Pt.cells, Pt.slots] at X5 l5 y5 z5 st5 hQ5
  subst l5 y5 z5
  obtain ⟨la_5, rfl, Nq5, kh5, fz_la_5, Po5_0, Po5_1, Po5_2, Po5_3, Po5_4, Po5_5⟩ := hQ5
  have N5 := Fr.app N3 Nq5
  have sz_la_5 : h0.size ≤ la_5 := Nat.le_trans K4.1 fz_la_5
  have g_la_5 : n0 ≤ la_5 := Nat.le_trans Z0 sz_la_5
  have O5 := O4.keep kh5 (allS g_b4 all0)
  have K5 : Keep h0 T5.heap [] := K4.trans kh5 (allS (Or.inr sz_b4) all0)
  have c6 : Fld Z T5.heap r_1 "java/time/Duration" "seconds" "J" (.long s1_1) := ((((Po1_1.keep kh2 nin0).keep kh3 nin0).ext E4).keep kh5 (ninS (Nat.ne_of_lt (Nat.lt_of_lt_of_le (((Po1_0.keep kh2).keep kh3)).lt (Nat.le_of_eq gz4.symm))) nin0))
  have c7 : Fld Z T5.heap r_1 "java/time/Duration" "nanos" "I" (.int n1_1) := ((((Po1_2.keep kh2 nin0).keep kh3 nin0).ext E4).keep kh5 (ninS (Nat.ne_of_lt (Nat.lt_of_lt_of_le (((Po1_0.keep kh2).keep kh3)).lt (Nat.le_of_eq gz4.symm))) nin0))
  obtain ⟨cq8, kq8, q8a, q8b, q8c⟩ := isOf hZ rfl Po5_0
  obtain ⟨_, _, ⟨T8, L8, k8, n8⟩, -, X8, ⟨Lc8, hQ8, l8, y8, z8⟩, st8⟩ := X5.virtualBack hx (y := (⟨"com/example/admitd/admitd/gate/ServiceTime", "record", "(Ljava/time/Duration;)V"⟩ : MethodName)) (z := (⟨"com/example/admitd/admitd/gate/ServiceTime", "record", "(Ljava/time/Duration;)V"⟩ : MethodName)) hown (mvT hZ (hw _ (List.mem_of_getElem? (i := 33) rfl))) (mvT hZ (hw _ (List.mem_of_getElem? (i := 34) rfl))) (notFace_of_selects (args := #[]) (mvT hZ (hw _ (List.mem_of_getElem? (i := 36) rfl)))) (mvT hZ (hw _ (List.mem_of_getElem? (i := 36) rfl))) (mvT hZ (hw _ (List.mem_of_getElem? (i := 35) rfl))) (by decide) (backOf (W := 0) (rec0 l Z a0 hw [] b4 r_1 la_5 (0 : Int64) s1_1 n1_1 xa T5.heap n0 O5 Po5_0 Po5_1 Po5_2 Po5_3 Po5_4 ((((Po1_0.keep kh2).keep kh3).ext E4).keep kh5) c6 c7 Po5_5 g_b4 g_la_5 (Nat.ne_of_lt (Nat.lt_of_lt_of_le (A4).lt fz_la_5)) pq1_0) hZ (hw _ (List.mem_of_getElem? (i := 37) rfl)) (hw _ (List.mem_of_getElem? (i := 25) rfl)) (by decide) (by decide)) q8a q8c (g := (mkF m 62 #[.val (.long ja), .second, .val (.long jb), .second, .val (.long jc), .second, .val (.int k), .val (.int (2 : Int32)), .val (.long xa), .second, .val (.long xb), .second, .val (.long xc), .second, .val (.ref r_1), .val (.ref r_2), .val (.ref r_3), .val (.ref b4), .unset, .unset, .unset, .unset, .unset, .unset, .unset, .unset] [(.ref r_1), (.ref b4)])) rfl (by rw [hml]; rfl) (Steps.refl _) (argsL := [(.ref r_1)]) (rest := []) (lenOf pd_8 rfl) rfl (by show 2 * 0 + _ ≤ _; exact Nat.le_of_eq rfl) (hb hby at_62) (fun _ _ => ⟨rfl, rfl, (by decide : 5 + 0 ≤ _), (by decide : 42 + 0 ≤ _)⟩)
  dsimp only [Pt.U, Pt.locs, Pt.cells, Pt.slots] at X8 l8 y8 z8 st8 hQ8
  subst l8 y8 z8
  obtain ⟨rfl, Nq8, kh8, Po8_0, Po8_1, Po8_2, Po8_3, Po8_4, Po8_5⟩ := hQ8
  have N8 := Fr.app N5 Nq8
  have O8 := O5.keep kh8 (allS g_b4 (allS g_la_5 all0))
  have K8 : Keep h0 T8.heap [] := K5.trans kh8 (allS (Or.inr sz_b4) (allS (Or.inr sz_la_5) all0))
  have c9 : Fld Z T8.heap r_2 "java/time/Duration" "seconds" "J" (.long s1_2) := ((((Po2_1.keep kh3 nin0).ext E4).keep kh5 (ninS (Nat.ne_of_lt (Nat.lt_of_lt_of_le ((Po2_0.keep kh3)).lt (Nat.le_of_eq gz4.symm))) nin0)).keep kh8 (ninS (Nat.ne_of_lt (Nat.lt_of_lt_of_le ((Po2_0.keep kh3)).lt (Nat.le_of_eq gz4.symm))) (ninS (Nat.ne_of_lt (Nat.lt_of_lt_of_le (((Po2_0.keep kh3).ext E4)).lt fz_la_5)) nin0)))
  have c10 : Fld Z T8.heap r_2 "java/time/Duration" "nanos" "I" (.int n1_2) := ((((Po2_2.keep kh3 nin0).ext E4).keep kh5 (ninS (Nat.ne_of_lt (Nat.lt_of_lt_of_le ((Po2_0.keep kh3)).lt (Nat.le_of_eq gz4.symm))) nin0)).keep kh8 (ninS (Nat.ne_of_lt (Nat.lt_of_lt_of_le ((Po2_0.keep kh3)).lt (Nat.le_of_eq gz4.symm))) (ninS (Nat.ne_of_lt (Nat.lt_of_lt_of_le (((Po2_0.keep kh3).ext E4)).lt fz_la_5)) nin0)))
  obtain ⟨cq11, kq11, q11a, q11b, q11c⟩ := isOf hZ rfl Po8_0
  obtain ⟨_, _, ⟨T11, L11, k11, n11⟩, -, X11, ⟨Lc11, hQ11, l11, y11, z11⟩, st11⟩ := X8.virtualBack hx (y := (⟨"com/example/admitd/admitd/gate/ServiceTime", "record", "(Ljava/time/Duration;)V"⟩ : MethodName)) (z := (⟨"com/example/admitd/admitd/gate/ServiceTime", "record", "(Ljava/time/Duration;)V"⟩ : MethodName)) hown (mvT hZ (hw _ (List.mem_of_getElem? (i := 33) rfl))) (mvT hZ (hw _ (List.mem_of_getElem? (i := 34) rfl))) (notFace_of_selects (args := #[]) (mvT hZ (hw _ (List.mem_of_getElem? (i := 36) rfl)))) (mvT hZ (hw _ (List.mem_of_getElem? (i := 36) rfl))) (mvT hZ (hw _ (List.mem_of_getElem? (i := 35) rfl))) (by decide) (backOf (W := 0) (rec1 l Z a0 hw [] b4 r_2 la_5 ((0 : Int64) + (maxJ (0 : Int64) xa)) s1_2 n1_2 xb T8.heap n0 O8 Po8_0 Po8_1 Po8_2 Po8_3 Po8_4 ((((Po2_0.keep kh3).ext E4).keep kh5).keep kh8) c9 c10 Po8_5 g_b4 g_la_5 (Nat.ne_of_lt (Nat.lt_of_lt_of_le (A4).lt fz_la_5)) pq2_0) hZ (hw _ (List.mem_of_getElem? (i := 37) rfl)) (hw _ (List.mem_of_getElem? (i := 25) rfl)) (by decide) (by decide)) q11a q11c (g := (mkF m 75 #[.val (.long ja), .second, .val (.long jb), .second, .val (.long jc), .second, .val (.int k), .val (.int (2 : Int32)), .val (.long xa), .second, .val (.long xb), .second, .val (.long xc), .second, .val (.ref r_1), .val (.ref r_2), .val (.ref r_3), .val (.ref b4), .unset, .unset, .unset, .unset, .unset, .unset, .unset, .unset] [(.ref r_2), (.ref b4)])) rfl (by rw [hml]; rfl) (Steps.refl _) (argsL := [(.ref r_2)]) (rest := []) (lenOf pd_8 rfl) rfl (by show 2 * 0 + _ ≤ _; exact Nat.le_of_eq rfl) (hb hby at_75) (fun _ _ => ⟨rfl, rfl, (by decide : 5 + 0 ≤ _), (by decide : 42 + 0 ≤ _)⟩)
  dsimp only [Pt.U, Pt.locs, Pt.cells, Pt.slots] at X11 l11 y11 z11 st11 hQ11
  subst l11 y11 z11
  obtain ⟨rfl, Nq11, kh11, Po11_0, Po11_1, Po11_2, Po11_3, Po11_4, Po11_5⟩ := hQ11
  have N11 := Fr.app N8 Nq11
  have O11 := O8.keep kh11 (allS g_b4 (allS g_la_5 all0))
  have K11 : Keep h0 T11.heap [] := K8.trans kh11 (allS (Or.inr sz_b4) (allS (Or.inr sz_la_5) all0))
  obtain ⟨cq12, kq12, q12a, q12b, q12c⟩ := isOf hZ rfl Po11_0
  obtain ⟨_, _, ⟨T12, L12, k12, n12⟩, -, X12, ⟨Lc12, hQ12, l12, y12, z12⟩, st12⟩ := X11.virtualBack hx (y := (⟨"com/example/admitd/admitd/gate/ServiceTime", "mean", "()Ljava/time/Duration;"⟩ : MethodName)) (z := (⟨"com/example/admitd/admitd/gate/ServiceTime", "mean", "()Ljava/time/Duration;"⟩ : MethodName)) hown (mvT hZ (hw _ (List.mem_of_getElem? (i := 62) rfl))) (mvT hZ (hw _ (List.mem_of_getElem? (i := 63) rfl))) (notFace_of_selects (args := #[]) (mvT hZ (hw _ (List.mem_of_getElem? (i := 65) rfl)))) (mvT hZ (hw _ (List.mem_of_getElem? (i := 65) rfl))) (mvT hZ (hw _ (List.mem_of_getElem? (i := 64) rfl))) (by decide) (backOf (W := 0) (mean1 l Z a0 hw [] b4 (2 : Int32) (((0 : Int64) + (maxJ (0 : Int64) xa)) + (maxJ (0 : Int64) xb)) wz T11.heap n0 O11 G0 G1 G2 G3 G4 Po11_2 Po11_4 (by decide) (by decide)) hZ (hw _ (List.mem_of_getElem? (i := 66) rfl)) (hw _ (List.mem_of_getElem? (i := 25) rfl)) (by decide) (by decide)) q12a q12c (g := (mkF m 93 #[.val (.long ja), .second, .val (.long jb), .second, .val (.long jc), .second, .val (.int k), .val (.int (2 : Int32)), .val (.long xa), .second, .val (.long xb), .second, .val (.long xc), .second, .val (.ref r_1), .val (.ref r_2), .val (.ref r_3), .val (.ref b4), .unset, .unset, .unset, .unset, .unset, .unset, .unset, .unset] [(.ref b4)])) rfl (by rw [hml]; rfl) (Steps.refl _) (argsL := []) (rest := []) (lenOf pd_7 rfl) rfl (by show 2 * 0 + _ ≤ _; exact Nat.le_of_eq rfl) (hb hby at_93) (fun _ _ => ⟨rfl, rfl, (by decide : 5 + 1 ≤ _), (by decide : 42 + 2 ≤ _)⟩)
  dsimp only [Pt.U, Pt.locs, Pt.cells, Pt.slots] at X12 l12 y12 z12 st12 hQ12
  subst l12 y12 z12
  obtain ⟨r_12, s1_12, n1_12, rfl, Nq12, kh12, Po12_0, Po12_1, Po12_2, pq12_0⟩ := hQ12
  have N12 := Fr.app N11 Nq12
  have O12 := O11.keep kh12 all0
  have K12 : Keep h0 T12.heap [] := K11.trans kh12 all0
  obtain ⟨cq13, kq13, q13a, q13b, q13c⟩ := isOf hZ rfl Po12_0
  obtain ⟨_, _, ⟨T13, L13, k13, n13⟩, -, X13, ⟨Lc13, hQ13, l13, y13, z13⟩, st13⟩ := X12.virtualBack hx (y := (⟨"java/time/Duration", "toNanos", "()J"⟩ : MethodName)) (z := (⟨"java/time/Duration", "toNanos", "()J"⟩ : MethodName)) hown (mvT hZ (hw _ (List.mem_of_getElem? (i := 70) rfl))) (mvT hZ (hw _ (List.mem_of_getElem? (i := 39) rfl))) (notFace_of_selects (args := #[]) (mvT hZ (hw _ (List.mem_of_getElem? (i := 41) rfl)))) (mvT hZ (hw _ (List.mem_of_getElem? (i := 41) rfl))) (mvT hZ (hw _ (List.mem_of_getElem? (i := 40) rfl))) (by decide) (backOf (W := 0) (toN l Z a0 hw [] r_12 s1_12 n1_12 (maxJ (1000000 : Int64) ((((0 : Int64) + (maxJ (0 : Int64) xa)) + (maxJ (0 : Int64) xb)) / ((2 : Int32).toInt64))) T12.heap n0 O12 Po12_1 Po12_2 pq12_0) hZ (hw _ (List.mem_of_getElem? (i := 42) rfl)) (hw _ (List.mem_of_getElem? (i := 2) rfl)) (by decide) (by decide)) q13a q13c (g := (mkF m 96 #[.val (.long ja), .second, .val (.long jb), .second, .val (.long jc), .second, .val (.int k), .val (.int (2 : Int32)), .val (.long xa), .second, .val (.long xb), .second, .val (.long xc), .second, .val (.ref r_1), .val (.ref r_2), .val (.ref r_3), .val (.ref b4), .unset, .unset, .unset, .unset, .unset, .unset, .unset, .unset] [(.ref r_12)])) rfl (by rw [hml]; rfl) (Steps.refl _) (argsL := []) (rest := []) (lenOf pd_4 rfl) rfl (by show 2 * 0 + _ ≤ _; exact Nat.le_of_eq rfl) (hb hby at_96) (fun _ _ => ⟨rfl, rfl, (by decide : 6 + 0 ≤ _), (by decide : 44 + 0 ≤ _)⟩)
  dsimp only [Pt.U, Pt.locs, Pt.cells, Pt.slots] at X13 l13 y13 z13 st13 hQ13
  subst l13 y13 z13
  obtain ⟨rfl, Nq13, kh13⟩ := hQ13
  have N13 := Fr.app N12 Nq13
  obtain ⟨_, _, ⟨T14, L14, k14, n14⟩, -, X14, ⟨Lc14, hQ14, l14, y14, z14⟩, st14⟩ := Jvm.LawKit.callS X13 hx (y := (⟨"com/example/admitd/admitd/gate/ServiceTimeMeanPinLaw", "clamp", "(J)J"⟩ : MethodName)) hown (mvT hZ (hw _ (List.mem_of_getElem? (i := 71) rfl))) (mvT hZ (hw _ (List.mem_of_getElem? (i := 72) rfl))) (mvT hZ (hw _ (List.mem_of_getElem? (i := 73) rfl))) (mvT hZ (hw _ (List.mem_of_getElem? (i := 74) rfl))) (by decide) (backOf (W := 0) (clampR l Z a0 hw [] xa T12.heap n0 O12 ) hZ (hw _ (List.mem_of_getElem? (i := 74) rfl)) (hw _ (List.mem_of_getElem? (i := 73) rfl)) (by decide) (by decide)) (g := (mkF m 116 #[.val (.long ja), .second, .val (.long jb), .second, .val (.long jc), .second, .val (.int k), .val (.int (2 : Int32)), .val (.long xa), .second, .val (.long xb), .second, .val (.long xc), .second, .val (.ref r_1), .val (.ref r_2), .val (.ref r_3), .val (.ref b4), .val (.long (maxJ (1000000 : Int64) ((((0 : Int64) + (maxJ (0 : Int64) xa)) + (maxJ (0 : Int64) xb)) / ((2 : Int32).toInt64)))), .second, .unset, .unset, .unset, .unset, .unset, .unset] [(.long xa)])) rfl (by rw [hml]; rfl) (argsL := [(.long xa)]) (rest := []) (lenOf pd_0 rfl) rfl (by show 2 * 0 + _ ≤ _; exact Nat.le_of_eq rfl) (hb hby at_116) (fun _ _ => ⟨rfl, kh13, (by decide : 6 + 0 ≤ _), (by decide : 44 + 0 ≤ _)⟩)
  dsimp only [Pt.U, Pt.locs, Pt.cells, Pt.slots] at X14 l14 y14 z14 st14 hQ14
  subst l14 y14 z14
  obtain ⟨rfl, Nq14, kh14⟩ := hQ14
  have N14 := Fr.app N13 Nq14
  obtain ⟨_, _, ⟨T15, L15, k15, n15⟩, -, X15, ⟨Lc15, hQ15, l15, y15, z15⟩, st15⟩ := Jvm.LawKit.callS X14 hx (y := (⟨"com/example/admitd/admitd/gate/ServiceTimeMeanPinLaw", "clamp", "(J)J"⟩ : MethodName)) hown (mvT hZ (hw _ (List.mem_of_getElem? (i := 71) rfl))) (mvT hZ (hw _ (List.mem_of_getElem? (i := 72) rfl))) (mvT hZ (hw _ (List.mem_of_getElem? (i := 73) rfl))) (mvT hZ (hw _ (List.mem_of_getElem? (i := 74) rfl))) (by decide) (backOf (W := 2) (clampR l Z a0 hw [] xb T12.heap n0 O12 ) hZ (hw _ (List.mem_of_getElem? (i := 74) rfl)) (hw _ (List.mem_of_getElem? (i := 73) rfl)) (by decide) (by decide)) (g := (mkF m 131 #[.val (.long ja), .second, .val (.long jb), .second, .val (.long jc), .second, .val (.int k), .val (.int (2 : Int32)), .val (.long xa), .second, .val (.long xb), .second, .val (.long xc), .second, .val (.ref r_1), .val (.ref r_2), .val (.ref r_3), .val (.ref b4), .val (.long (maxJ (1000000 : Int64) ((((0 : Int64) + (maxJ (0 : Int64) xa)) + (maxJ (0 : Int64) xb)) / ((2 : Int32).toInt64)))), .second, .unset, .unset, .val (.long (clampJ xa)), .second, .unset, .unset] [(.long xb), (.long (clampJ xa))])) rfl (by rw [hml]; rfl) (argsL := [(.long xb)]) (rest := [(.long (clampJ xa))]) (lenOf pd_0 rfl) rfl (by show 2 * 0 + _ ≤ _; exact Nat.le_of_eq rfl) (hb hby at_131) (fun _ _ => ⟨rfl, kh14, (by decide : 6 + 0 ≤ _), (by decide : 44 + 0 ≤ _)⟩)
  dsimp only [Pt.U, Pt.locs, Pt.cells, Pt.slots] at X15 l15 y15 z15 st15 hQ15
  subst l15 y15 z15
  obtain ⟨rfl, Nq15, kh15⟩ := hQ15
  have N15 := Fr.app N14 Nq15
  obtain ⟨fs, hr, hrun, hended, hW, hsame⟩ := X15.leave (v := some (.int (1 : Int32))) (fun h => by rw [Bd.returns] at h; cases h)
  refine ⟨_, _, pre0 _ ?_, hrun, hended, _, _, rfl, ?_, ⟨_, rfl⟩, hW, hsame.mono (by decide) (by decide)⟩
  · show Steps p.tables e below (s₁.setTop (mkF m 0 #[.val (.long ja), .second, .val (.long jb), .second, .val (.long jc), .second, .val (.int k), .unset, .unset, .unset, .unset, .unset, .unset, .unset, .unset, .unset, .unset, .unset, .unset, .unset, .unset, .unset, .unset, .unset, .unset, .unset] [])) _
    refine XS.iload X0.here hx rfl (hb hby at_0) rfl ?_
    show Steps p.tables e below (s₁.setTop (mkF m 2 #[.val (.long ja), .second, .val (.long jb), .second, .val (.long jc), .second, .val (.int k), .unset, .unset, .unset, .unset, .unset, .unset, .unset, .unset, .unset, .unset, .unset, .unset, .unset, .unset, .unset, .unset, .unset, .unset, .unset] [(.int k)])) _
    refine XS.iconst X0.here hx rfl (hb hby at_2) ?_
    show Steps p.tables e below (s₁.setTop (mkF m 3 #[.val (.long ja), .second, .val (.long jb), .second, .val (.long jc), .second, .val (.int k), .unset, .unset, .unset, .unset, .unset, .unset, .unset, .unset, .unset, .unset, .unset, .unset, .unset, .unset, .unset, .unset, .unset, .unset, .unset] [(.int (3 : Int32)), (.int k)])) _
    refine XS.iand X0.here hx rfl (hb hby at_3) rfl ?_
    show Steps p.tables e below (s₁.setTop (mkF m 4 #[.val (.long ja), .second, .val (.long jb), .second, .val (.long jc), .second, .val (.int k), .unset, .unset, .unset, .unset, .unset, .unset, .unset, .unset, .unset, .unset, .unset, .unset, .unset, .unset, .unset, .unset, .unset, .unset, .unset] [(.int (k &&& (3 : Int32)))])) _
    refine castTop (congrArg (fun z_ => (mkF m 4 #[.val (.long ja), .second, .val (.long jb), .second, .val (.long jc), .second, .val (.int k), .unset, .unset, .unset, .unset, .unset, .unset, .unset, .unset, .unset, .unset, .unset, .unset, .unset, .unset, .unset, .unset, .unset, .unset, .unset] [(.int z_)])) (hk : (k &&& (3 : Int32)) = (2 : Int32))) ?_
    show Steps p.tables e below (s₁.setTop (mkF m 4 #[.val (.long ja), .second, .val (.long jb), .second, .val (.long jc), .second, .val (.int k), .unset, .unset, .unset, .unset, .unset, .unset, .unset, .unset, .unset, .unset, .unset, .unset, .unset, .unset, .unset, .unset, .unset, .unset, .unset] [(.int (2 : Int32))])) _
    refine XS.istore X0.here hx rfl (hb hby at_4) rfl (l' := #[.val (.long ja), .second, .val (.long jb), .second, .val (.long jc), .second, .val (.int k), .val (.int (2 : Int32)), .unset, .unset, .unset, .unset, .unset, .unset, .unset, .unset, .unset, .unset, .unset, .unset, .unset, .unset, .unset, .unset, .unset, .unset]) rfl ?_
    show Steps p.tables e below (s₁.setTop (mkF m 6 #[.val (.long ja), .second, .val (.long jb), .second, .val (.long jc), .second, .val (.int k), .val (.int (2 : Int32)), .unset, .unset, .unset, .unset, .unset, .unset, .unset, .unset, .unset, .unset, .unset, .unset, .unset, .unset, .unset, .unset, .unset, .unset] [])) _
    refine XS.lloadN X0.here hx rfl (hb hby at_6) rfl ?_
    show Steps p.tables e below (s₁.setTop (mkF m 7 #[.val (.long ja), .second, .val (.long jb), .second, .val (.long jc), .second, .val (.int k), .val (.int (2 : Int32)), .unset, .unset, .unset, .unset, .unset, .unset, .unset, .unset, .unset, .unset, .unset, .unset, .unset, .unset, .unset, .unset, .unset, .unset] [(.long ja)])) _
    refine XS.iconst X0.here hx rfl (hb hby at_7) ?_
    show Steps p.tables e below (s₁.setTop (mkF m 8 #[.val (.long ja), .second, .val (.long jb), .second, .val (.long jc), .second, .val (.int k), .val (.int (2 : Int32)), .unset, .unset, .unset, .unset, .unset, .unset, .unset, .unset, .unset, .unset, .unset, .unset, .unset, .unset, .unset, .unset, .unset, .unset] [(.int (2 : Int32)), (.long ja)])) _
    refine XS.lshr X0.here hx rfl (hb hby at_8) rfl ?_
    show Steps p.tables e below (s₁.setTop (mkF m 9 #[.val (.long ja), .second, .val (.long jb), .second, .val (.long jc), .second, .val (.int k), .val (.int (2 : Int32)), .unset, .unset, .unset, .unset, .unset, .unset, .unset, .unset, .unset, .unset, .unset, .unset, .unset, .unset, .unset, .unset, .unset, .unset] [(.long (ja >>> ((2 : Int32) &&& 0x3f).toInt64))])) _
    refine castTop (congrArg (fun z_ => (mkF m 9 #[.val (.long ja), .second, .val (.long jb), .second, .val (.long jc), .second, .val (.int k), .val (.int (2 : Int32)), .unset, .unset, .unset, .unset, .unset, .unset, .unset, .unset, .unset, .unset, .unset, .unset, .unset, .unset, .unset, .unset, .unset, .unset] [(.long z_)])) (exa : (ja >>> ((2 : Int32) &&& 0x3f).toInt64) = xa)) ?_
    show Steps p.tables e below (s₁.setTop (mkF m 9 #[.val (.long ja), .second, .val (.long jb), .second, .val (.long jc), .second, .val (.int k), .val (.int (2 : Int32)), .unset, .unset, .unset, .unset, .unset, .unset, .unset, .unset, .unset, .unset, .unset, .unset, .unset, .unset, .unset, .unset, .unset, .unset] [(.long xa)])) _
    refine XS.lstore X0.here hx rfl (hb hby at_9) rfl (l' := #[.val (.long ja), .second, .val (.long jb), .second, .val (.long jc), .second, .val (.int k), .val (.int (2 : Int32)), .val (.long xa), .second, .unset, .unset, .unset, .unset, .unset, .unset, .unset, .unset, .unset, .unset, .unset, .unset, .unset, .unset, .unset, .unset]) rfl ?_
    show Steps p.tables e below (s₁.setTop (mkF m 11 #[.val (.long ja), .second, .val (.long jb), .second, .val (.long jc), .second, .val (.int k), .val (.int (2 : Int32)), .val (.long xa), .second, .unset, .unset, .unset, .unset, .unset, .unset, .unset, .unset, .unset, .unset, .unset, .unset, .unset, .unset, .unset, .unset] [])) _
    refine XS.lloadN X0.here hx rfl (hb hby at_11) rfl ?_
    show Steps p.tables e below (s₁.setTop (mkF m 12 #[.val (.long ja), .second, .val (.long jb), .second, .val (.long jc), .second, .val (.int k), .val (.int (2 : Int32)), .val (.long xa), .second, .unset, .unset, .unset, .unset, .unset, .unset, .unset, .unset, .unset, .unset, .unset, .unset, .unset, .unset, .unset, .unset] [(.long jb)])) _
    refine XS.iconst X0.here hx rfl (hb hby at_12) ?_
    show Steps p.tables e below (s₁.setTop (mkF m 13 #[.val (.long ja), .second, .val (.long jb), .second, .val (.long jc), .second, .val (.int k), .val (.int (2 : Int32)), .val (.long xa), .second, .unset, .unset, .unset, .unset, .unset, .unset, .unset, .unset, .unset, .unset, .unset, .unset, .unset, .unset, .unset, .unset] [(.int (2 : Int32)), (.long jb)])) _
    refine XS.lshr X0.here hx rfl (hb hby at_13) rfl ?_
    show Steps p.tables e below (s₁.setTop (mkF m 14 #[.val (.long ja), .second, .val (.long jb), .second, .val (.long jc), .second, .val (.int k), .val (.int (2 : Int32)), .val (.long xa), .second, .unset, .unset, .unset, .unset, .unset, .unset, .unset, .unset, .unset, .unset, .unset, .unset, .unset, .unset, .unset, .unset] [(.long (jb >>> ((2 : Int32) &&& 0x3f).toInt64))])) _
    refine castTop (congrArg (fun z_ => (mkF m 14 #[.val (.long ja), .second, .val (.long jb), .second, .val (.long jc), .second, .val (.int k), .val (.int (2 : Int32)), .val (.long xa), .second, .unset, .unset, .unset, .unset, .unset, .unset, .unset, .unset, .unset, .unset, .unset, .unset, .unset, .unset, .unset, .unset] [(.long z_)])) (exb : (jb >>> ((2 : Int32) &&& 0x3f).toInt64) = xb)) ?_
    show Steps p.tables e below (s₁.setTop (mkF m 14 #[.val (.long ja), .second, .val (.long jb), .second, .val (.long jc), .second, .val (.int k), .val (.int (2 : Int32)), .val (.long xa), .second, .unset, .unset, .unset, .unset, .unset, .unset, .unset, .unset, .unset, .unset, .unset, .unset, .unset, .unset, .unset, .unset] [(.long xb)])) _
    refine XS.lstore X0.here hx rfl (hb hby at_14) rfl (l' := #[.val (.long ja), .second, .val (.long jb), .second, .val (.long jc), .second, .val (.int k), .val (.int (2 : Int32)), .val (.long xa), .second, .val (.long xb), .second, .unset, .unset, .unset, .unset, .unset, .unset, .unset, .unset, .unset, .unset, .unset, .unset, .unset, .unset]) rfl ?_
    show Steps p.tables e below (s₁.setTop (mkF m 16 #[.val (.long ja), .second, .val (.long jb), .second, .val (.long jc), .second, .val (.int k), .val (.int (2 : Int32)), .val (.long xa), .second, .val (.long xb), .second, .unset, .unset, .unset, .unset, .unset, .unset, .unset, .unset, .unset, .unset, .unset, .unset, .unset, .unset] [])) _
    refine XS.lload X0.here hx rfl (hb hby at_16) rfl ?_
    show Steps p.tables e below (s₁.setTop (mkF m 18 #[.val (.long ja), .second, .val (.long jb), .second, .val (.long jc), .second, .val (.int k), .val (.int (2 : Int32)), .val (.long xa), .second, .val (.long xb), .second, .unset, .unset, .unset, .unset, .unset, .unset, .unset, .unset, .unset, .unset, .unset, .unset, .unset, .unset] [(.long jc)])) _
    refine XS.iconst X0.here hx rfl (hb hby at_18) ?_
    show Steps p.tables e below (s₁.setTop (mkF m 19 #[.val (.long ja), .second, .val (.long jb), .second, .val (.long jc), .second, .val (.int k), .val (.int (2 : Int32)), .val (.long xa), .second, .val (.long xb), .second, .unset, .unset, .unset, .unset, .unset, .unset, .unset, .unset, .unset, .unset, .unset, .unset, .unset, .unset] [(.int (2 : Int32)), (.long jc)])) _
    refine XS.lshr X0.here hx rfl (hb hby at_19) rfl ?_
    show Steps p.tables e below (s₁.setTop (mkF m 20 #[.val (.long ja), .second, .val (.long jb), .second, .val (.long jc), .second, .val (.int k), .val (.int (2 : Int32)), .val (.long xa), .second, .val (.long xb), .second, .unset, .unset, .unset, .unset, .unset, .unset, .unset, .unset, .unset, .unset, .unset, .unset, .unset, .unset] [(.long (jc >>> ((2 : Int32) &&& 0x3f).toInt64))])) _
    refine castTop (congrArg (fun z_ => (mkF m 20 #[.val (.long ja), .second, .val (.long jb), .second, .val (.long jc), .second, .val (.int k), .val (.int (2 : Int32)), .val (.long xa), .second, .val (.long xb), .second, .unset, .unset, .unset, .unset, .unset, .unset, .unset, .unset, .unset, .unset, .unset, .unset, .unset, .unset] [(.long z_)])) (exc : (jc >>> ((2 : Int32) &&& 0x3f).toInt64) = xc)) ?_
    show Steps p.tables e below (s₁.setTop (mkF m 20 #[.val (.long ja), .second, .val (.long jb), .second, .val (.long jc), .second, .val (.int k), .val (.int (2 : Int32)), .val (.long xa), .second, .val (.long xb), .second, .unset, .unset, .unset, .unset, .unset, .unset, .unset, .unset, .unset, .unset, .unset, .unset, .unset, .unset] [(.long xc)])) _
    refine XS.lstore X0.here hx rfl (hb hby at_20) rfl (l' := #[.val (.long ja), .second, .val (.long jb), .second, .val (.long jc), .second, .val (.int k), .val (.int (2 : Int32)), .val (.long xa), .second, .val (.long xb), .second, .val (.long xc), .second, .unset, .unset, .unset, .unset, .unset, .unset, .unset, .unset, .unset, .unset, .unset, .unset]) rfl ?_
    show Steps p.tables e below (s₁.setTop (mkF m 22 #[.val (.long ja), .second, .val (.long jb), .second, .val (.long jc), .second, .val (.int k), .val (.int (2 : Int32)), .val (.long xa), .second, .val (.long xb), .second, .val (.long xc), .second, .unset, .unset, .unset, .unset, .unset, .unset, .unset, .unset, .unset, .unset, .unset, .unset] [])) _
    refine XS.lload X0.here hx rfl (hb hby at_22) rfl ?_
    show Steps p.tables e below (s₁.setTop (mkF m 24 #[.val (.long ja), .second, .val (.long jb), .second, .val (.long jc), .second, .val (.int k), .val (.int (2 : Int32)), .val (.long xa), .second, .val (.long xb), .second, .val (.long xc), .second, .unset, .unset, .unset, .unset, .unset, .unset, .unset, .unset, .unset, .unset, .unset, .unset] [(.long xa)])) _
    refine st1 _ ?_
    show Steps p.tables e below (T1.setTop (mkF m 27 #[.val (.long ja), .second, .val (.long jb), .second, .val (.long jc), .second, .val (.int k), .val (.int (2 : Int32)), .val (.long xa), .second, .val (.long xb), .second, .val (.long xc), .second, .unset, .unset, .unset, .unset, .unset, .unset, .unset, .unset, .unset, .unset, .unset, .unset] [(.ref r_1)])) _
    refine XS.astore X1.here hx rfl (hb hby at_27) rfl rfl (l' := #[.val (.long ja), .second, .val (.long jb), .second, .val (.long jc), .second, .val (.int k), .val (.int (2 : Int32)), .val (.long xa), .second, .val (.long xb), .second, .val (.long xc), .second, .val (.ref r_1), .unset, .unset, .unset, .unset, .unset, .unset, .unset, .unset, .unset, .unset, .unset]) rfl ?_
    show Steps p.tables e below (T1.setTop (mkF m 29 #[.val (.long ja), .second, .val (.long jb), .second, .val (.long jc), .second, .val (.int k), .val (.int (2 : Int32)), .val (.long xa), .second, .val (.long xb), .second, .val (.long xc), .second, .val (.ref r_1), .unset, .unset, .unset, .unset, .unset, .unset, .unset, .unset, .unset, .unset, .unset] [])) _
    refine XS.lload X1.here hx rfl (hb hby at_29) rfl ?_
    show Steps p.tables e below (T1.setTop (mkF m 31 #[.val (.long ja), .second, .val (.long jb), .second, .val (.long jc), .second, .val (.int k), .val (.int (2 : Int32)), .val (.long xa), .second, .val (.long xb), .second, .val (.long xc), .second, .val (.ref r_1), .unset, .unset, .unset, .unset, .unset, .unset, .unset, .unset, .unset, .unset, .unset] [(.long xb)])) _
    refine st2 _ ?_
    show Steps p.tables e below (T2.setTop (mkF m 34 #[.val (.long ja), .second, .val (.long jb), .second, .val (.long jc), .second, .val (.int k), .val (.int (2 : Int32)), .val (.long xa), .second, .val (.long xb), .second, .val (.long xc), .second, .val (.ref r_1), .unset, .unset, .unset, .unset, .unset, .unset, .unset, .unset, .unset, .unset, .unset] [(.ref r_2)])) _
    refine XS.astore X2.here hx rfl (hb hby at_34) rfl rfl (l' := #[.val (.long ja), .second, .val (.long jb), .second, .val (.long jc), .second, .val (.int k), .val (.int (2 : Int32)), .val (.long xa), .second, .val (.long xb), .second, .val (.long xc), .second, .val (.ref r_1), .val (.ref r_2), .unset, .unset, .unset, .unset, .unset, .unset, .unset, .unset, .unset, .unset]) rfl ?_
    show Steps p.tables e below (T2.setTop (mkF m 36 #[.val (.long ja), .second, .val (.long jb), .second, .val (.long jc), .second, .val (.int k), .val (.int (2 : Int32)), .val (.long xa), .second, .val (.long xb), .second, .val (.long xc), .second, .val (.ref r_1), .val (.ref r_2), .unset, .unset, .unset, .unset, .unset, .unset, .unset, .unset, .unset, .unset] [])) _
    refine XS.lload X2.here hx rfl (hb hby at_36) rfl ?_
    show Steps p.tables e below (T2.setTop (mkF m 38 #[.val (.long ja), .second, .val (.long jb), .second, .val (.long jc), .second, .val (.int k), .val (.int (2 : Int32)), .val (.long xa), .second, .val (.long xb), .second, .val (.long xc), .second, .val (.ref r_1), .val (.ref r_2), .unset, .unset, .unset, .unset, .unset, .unset, .unset, .unset, .unset, .unset] [(.long xc)])) _
    refine st3 _ ?_
    show Steps p.tables e below (T3.setTop (mkF m 41 #[.val (.long ja), .second, .val (.long jb), .second, .val (.long jc), .second, .val (.int k), .val (.int (2 : Int32)), .val (.long xa), .second, .val (.long xb), .second, .val (.long xc), .second, .val (.ref r_1), .val (.ref r_2), .unset, .unset, .unset, .unset, .unset, .unset, .unset, .unset, .unset, .unset] [(.ref r_3)])) _
    refine XS.astore X3.here hx rfl (hb hby at_41) rfl rfl (l' := #[.val (.long ja), .second, .val (.long jb), .second, .val (.long jc), .second, .val (.int k), .val (.int (2 : Int32)), .val (.long xa), .second, .val (.long xb), .second, .val (.long xc), .second, .val (.ref r_1), .val (.ref r_2), .val (.ref r_3), .unset, .unset, .unset, .unset, .unset, .unset, .unset, .unset, .unset]) rfl ?_
    show Steps p.tables e below (T3.setTop (mkF m 43 #[.val (.long ja), .second, .val (.long jb), .second, .val (.long jc), .second, .val (.int k), .val (.int (2 : Int32)), .val (.long xa), .second, .val (.long xb), .second, .val (.long xc), .second, .val (.ref r_1), .val (.ref r_2), .val (.ref r_3), .unset, .unset, .unset, .unset, .unset, .unset, .unset, .unset, .unset] [])) _
    refine st4 _ ?_
    show Steps p.tables e below (T4.setTop (mkF m 46 #[.val (.long ja), .second, .val (.long jb), .second, .val (.long jc), .second, .val (.int k), .val (.int (2 : Int32)), .val (.long xa), .second, .val (.long xb), .second, .val (.long xc), .second, .val (.ref r_1), .val (.ref r_2), .val (.ref r_3), .unset, .unset, .unset, .unset, .unset, .unset, .unset, .unset, .unset] [(.ref b4)])) _
    refine XS.dup X4.here hx rfl (hb hby at_46) rfl rfl ?_
    show Steps p.tables e below (T4.setTop (mkF m 47 #[.val (.long ja), .second, .val (.long jb), .second, .val (.long jc), .second, .val (.int k), .val (.int (2 : Int32)), .val (.long xa), .second, .val (.long xb), .second, .val (.long xc), .second, .val (.ref r_1), .val (.ref r_2), .val (.ref r_3), .unset, .unset, .unset, .unset, .unset, .unset, .unset, .unset, .unset] [(.ref b4), (.ref b4)])) _
    refine st5.trans ?_
    show Steps p.tables e below (T5.setTop (mkF m 50 #[.val (.long ja), .second, .val (.long jb), .second, .val (.long jc), .second, .val (.int k), .val (.int (2 : Int32)), .val (.long xa), .second, .val (.long xb), .second, .val (.long xc), .second, .val (.ref r_1), .val (.ref r_2), .val (.ref r_3), .unset, .unset, .unset, .unset, .unset, .unset, .unset, .unset, .unset] [(.ref b4)])) _
    refine XS.astore X5.here hx rfl (hb hby at_50) rfl rfl (l' := #[.val (.long ja), .second, .val (.long jb), .second, .val (.long jc), .second, .val (.int k), .val (.int (2 : Int32)), .val (.long xa), .second, .val (.long xb), .second, .val (.long xc), .second, .val (.ref r_1), .val (.ref r_2), .val (.ref r_3), .val (.ref b4), .unset, .unset, .unset, .unset, .unset, .unset, .unset, .unset]) rfl ?_
    show Steps p.tables e below (T5.setTop (mkF m 52 #[.val (.long ja), .second, .val (.long jb), .second, .val (.long jc), .second, .val (.int k), .val (.int (2 : Int32)), .val (.long xa), .second, .val (.long xb), .second, .val (.long xc), .second, .val (.ref r_1), .val (.ref r_2), .val (.ref r_3), .val (.ref b4), .unset, .unset, .unset, .unset, .unset, .unset, .unset, .unset] [])) _
    refine XS.iload X5.here hx rfl (hb hby at_52) rfl ?_
    show Steps p.tables e below (T5.setTop (mkF m 54 #[.val (.long ja), .second, .val (.long jb), .second, .val (.long jc), .second, .val (.int k), .val (.int (2 : Int32)), .val (.long xa), .second, .val (.long xb), .second, .val (.long xc), .second, .val (.ref r_1), .val (.ref r_2), .val (.ref r_3), .val (.ref b4), .unset, .unset, .unset, .unset, .unset, .unset, .unset, .unset] [(.int (2 : Int32))])) _
    refine XS.iconst X5.here hx rfl (hb hby at_54) ?_
    show Steps p.tables e below (T5.setTop (mkF m 55 #[.val (.long ja), .second, .val (.long jb), .second, .val (.long jc), .second, .val (.int k), .val (.int (2 : Int32)), .val (.long xa), .second, .val (.long xb), .second, .val (.long xc), .second, .val (.ref r_1), .val (.ref r_2), .val (.ref r_3), .val (.ref b4), .unset, .unset, .unset, .unset, .unset, .unset, .unset, .unset] [(.int (1 : Int32)), (.int (2 : Int32))])) _
    refine XS.icmpNo X5.here hx rfl (hb hby at_55) rfl (flt (by decide : ¬ ((2 : Int32) < (1 : Int32)))).1 ?_
    show Steps p.tables e below (T5.setTop (mkF m 58 #[.val (.long ja), .second, .val (.long jb), .second, .val (.long jc), .second, .val (.int k), .val (.int (2 : Int32)), .val (.long xa), .second, .val (.long xb), .second, .val (.long xc), .second, .val (.ref r_1), .val (.ref r_2), .val (.ref r_3), .val (.ref b4), .unset, .unset, .unset, .unset, .unset, .unset, .unset, .unset] [])) _
    refine XS.aload X5.here hx rfl (hb hby at_58) rfl rfl ?_
    show Steps p.tables e below (T5.setTop (mkF m 60 #[.val (.long ja), .second, .val (.long jb), .second, .val (.long jc), .second, .val (.int k), .val (.int (2 : Int32)), .val (.long xa), .second, .val (.long xb), .second, .val (.long xc), .second, .val (.ref r_1), .val (.ref r_2), .val (.ref r_3), .val (.ref b4), .unset, .unset, .unset, .unset, .unset, .unset, .unset, .unset] [(.ref b4)])) _
    refine XS.aload X5.here hx rfl (hb hby at_60) rfl rfl ?_
    show Steps p.tables e below (T5.setTop (mkF m 62 #[.val (.long ja), .second, .val (.long jb), .second, .val (.long jc), .second, .val (.int k), .val (.int (2 : Int32)), .val (.long xa), .second, .val (.long xb), .second, .val (.long xc), .second, .val (.ref r_1), .val (.ref r_2), .val (.ref r_3), .val (.ref b4), .unset, .unset, .unset, .unset, .unset, .unset, .unset, .unset] [(.ref r_1), (.ref b4)])) _
    refine st8.trans ?_
    show Steps p.tables e below (T8.setTop (mkF m 65 #[.val (.long ja), .second, .val (.long jb), .second, .val (.long jc), .second, .val (.int k), .val (.int (2 : Int32)), .val (.long xa), .second, .val (.long xb), .second, .val (.long xc), .second, .val (.ref r_1), .val (.ref r_2), .val (.ref r_3), .val (.ref b4), .unset, .unset, .unset, .unset, .unset, .unset, .unset, .unset] [])) _
    refine XS.iload X8.here hx rfl (hb hby at_65) rfl ?_
    show Steps p.tables e below (T8.setTop (mkF m 67 #[.val (.long ja), .second, .val (.long jb), .second, .val (.long jc), .second, .val (.int k), .val (.int (2 : Int32)), .val (.long xa), .second, .val (.long xb), .second, .val (.long xc), .second, .val (.ref r_1), .val (.ref r_2), .val (.ref r_3), .val (.ref b4), .unset, .unset, .unset, .unset, .unset, .unset, .unset, .unset] [(.int (2 : Int32))])) _
    refine XS.iconst X8.here hx rfl (hb hby at_67) ?_
    show Steps p.tables e below (T8.setTop (mkF m 68 #[.val (.long ja), .second, .val (.long jb), .second, .val (.long jc), .second, .val (.int k), .val (.int (2 : Int32)), .val (.long xa), .second, .val (.long xb), .second, .val (.long xc), .second, .val (.ref r_1), .val (.ref r_2), .val (.ref r_3), .val (.ref b4), .unset, .unset, .unset, .unset, .unset, .unset, .unset, .unset] [(.int (2 : Int32)), (.int (2 : Int32))])) _
    refine XS.icmpNo X8.here hx rfl (hb hby at_68) rfl (flt (by decide : ¬ ((2 : Int32) < (2 : Int32)))).1 ?_
    show Steps p.tables e below (T8.setTop (mkF m 71 #[.val (.long ja), .second, .val (.long jb), .second, .val (.long jc), .second, .val (.int k), .val (.int (2 : Int32)), .val (.long xa), .second, .val (.long xb), .second, .val (.long xc), .second, .val (.ref r_1), .val (.ref r_2), .val (.ref r_3), .val (.ref b4), .unset, .unset, .unset, .unset, .unset, .unset, .unset, .unset] [])) _
    refine XS.aload X8.here hx rfl (hb hby at_71) rfl rfl ?_
    show Steps p.tables e below (T8.setTop (mkF m 73 #[.val (.long ja), .second, .val (.long jb), .second, .val (.long jc), .second, .val (.int k), .val (.int (2 : Int32)), .val (.long xa), .second, .val (.long xb), .second, .val (.long xc), .second, .val (.ref r_1), .val (.ref r_2), .val (.ref r_3), .val (.ref b4), .unset, .unset, .unset, .unset, .unset, .unset, .unset, .unset] [(.ref b4)])) _
    refine XS.aload X8.here hx rfl (hb hby at_73) rfl rfl ?_
    show Steps p.tables e below (T8.setTop (mkF m 75 #[.val (.long ja), .second, .val (.long jb), .second, .val (.long jc), .second, .val (.int k), .val (.int (2 : Int32)), .val (.long xa), .second, .val (.long xb), .second, .val (.long xc), .second, .val (.ref r_1), .val (.ref r_2), .val (.ref r_3), .val (.ref b4), .unset, .unset, .unset, .unset, .unset, .unset, .unset, .unset] [(.ref r_2), (.ref b4)])) _
    refine st11.trans ?_
    show Steps p.tables e below (T11.setTop (mkF m 78 #[.val (.long ja), .second, .val (.long jb), .second, .val (.long jc), .second, .val (.int k), .val (.int (2 : Int32)), .val (.long xa), .second, .val (.long xb), .second, .val (.long xc), .second, .val (.ref r_1), .val (.ref r_2), .val (.ref r_3), .val (.ref b4), .unset, .unset, .unset, .unset, .unset, .unset, .unset, .unset] [])) _
    refine XS.iload X11.here hx rfl (hb hby at_78) rfl ?_
    show Steps p.tables e below (T11.setTop (mkF m 80 #[.val (.long ja), .second, .val (.long jb), .second, .val (.long jc), .second, .val (.int k), .val (.int (2 : Int32)), .val (.long xa), .second, .val (.long xb), .second, .val (.long xc), .second, .val (.ref r_1), .val (.ref r_2), .val (.ref r_3), .val (.ref b4), .unset, .unset, .unset, .unset, .unset, .unset, .unset, .unset] [(.int (2 : Int32))])) _
    refine XS.iconst X11.here hx rfl (hb hby at_80) ?_
    show Steps p.tables e below (T11.setTop (mkF m 81 #[.val (.long ja), .second, .val (.long jb), .second, .val (.long jc), .second, .val (.int k), .val (.int (2 : Int32)), .val (.long xa), .second, .val (.long xb), .second, .val (.long xc), .second, .val (.ref r_1), .val (.ref r_2), .val (.ref r_3), .val (.ref b4), .unset, .unset, .unset, .unset, .unset, .unset, .unset, .unset] [(.int (3 : Int32)), (.int (2 : Int32))])) _
    refine XS.icmpYes X11.here hx rfl (pc0 := 81) (pc' := 91) rfl (hb hby at_81) rfl (tlt (by decide : (2 : Int32) < (3 : Int32))).1 (by decide) (by decide) ?_
    show Steps p.tables e below (T11.setTop (mkF m 91 #[.val (.long ja), .second, .val (.long jb), .second, .val (.long jc), .second, .val (.int k), .val (.int (2 : Int32)), .val (.long xa), .second, .val (.long xb), .second, .val (.long xc), .second, .val (.ref r_1), .val (.ref r_2), .val (.ref r_3), .val (.ref b4), .unset, .unset, .unset, .unset, .unset, .unset, .unset, .unset] [])) _
    refine XS.aload X11.here hx rfl (hb hby at_91) rfl rfl ?_
    show Steps p.tables e below (T11.setTop (mkF m 93 #[.val (.long ja), .second, .val (.long jb), .second, .val (.long jc), .second, .val (.int k), .val (.int (2 : Int32)), .val (.long xa), .second, .val (.long xb), .second, .val (.long xc), .second, .val (.ref r_1), .val (.ref r_2), .val (.ref r_3), .val (.ref b4), .unset, .unset, .unset, .unset, .unset, .unset, .unset, .unset] [(.ref b4)])) _
    refine st12.trans ?_
    show Steps p.tables e below (T12.setTop (mkF m 96 #[.val (.long ja), .second, .val (.long jb), .second, .val (.long jc), .second, .val (.int k), .val (.int (2 : Int32)), .val (.long xa), .second, .val (.long xb), .second, .val (.long xc), .second, .val (.ref r_1), .val (.ref r_2), .val (.ref r_3), .val (.ref b4), .unset, .unset, .unset, .unset, .unset, .unset, .unset, .unset] [(.ref r_12)])) _
    refine st13.trans ?_
    show Steps p.tables e below (T13.setTop (mkF m 99 #[.val (.long ja), .second, .val (.long jb), .second, .val (.long jc), .second, .val (.int k), .val (.int (2 : Int32)), .val (.long xa), .second, .val (.long xb), .second, .val (.long xc), .second, .val (.ref r_1), .val (.ref r_2), .val (.ref r_3), .val (.ref b4), .unset, .unset, .unset, .unset, .unset, .unset, .unset, .unset] [(.long (maxJ (1000000 : Int64) ((((0 : Int64) + (maxJ (0 : Int64) xa)) + (maxJ (0 : Int64) xb)) / ((2 : Int32).toInt64))))])) _
    refine XS.lstore X13.here hx rfl (hb hby at_99) rfl (l' := #[.val (.long ja), .second, .val (.long jb), .second, .val (.long jc), .second, .val (.int k), .val (.int (2 : Int32)), .val (.long xa), .second, .val (.long xb), .second, .val (.long xc), .second, .val (.ref r_1), .val (.ref r_2), .val (.ref r_3), .val (.ref b4), .val (.long (maxJ (1000000 : Int64) ((((0 : Int64) + (maxJ (0 : Int64) xa)) + (maxJ (0 : Int64) xb)) / ((2 : Int32).toInt64)))), .second, .unset, .unset, .unset, .unset, .unset, .unset]) rfl ?_
    show Steps p.tables e below (T13.setTop (mkF m 101 #[.val (.long ja), .second, .val (.long jb), .second, .val (.long jc), .second, .val (.int k), .val (.int (2 : Int32)), .val (.long xa), .second, .val (.long xb), .second, .val (.long xc), .second, .val (.ref r_1), .val (.ref r_2), .val (.ref r_3), .val (.ref b4), .val (.long (maxJ (1000000 : Int64) ((((0 : Int64) + (maxJ (0 : Int64) xa)) + (maxJ (0 : Int64) xb)) / ((2 : Int32).toInt64)))), .second, .unset, .unset, .unset, .unset, .unset, .unset] [])) _
    refine XS.iload X13.here hx rfl (hb hby at_101) rfl ?_
    show Steps p.tables e below (T13.setTop (mkF m 103 #[.val (.long ja), .second, .val (.long jb), .second, .val (.long jc), .second, .val (.int k), .val (.int (2 : Int32)), .val (.long xa), .second, .val (.long xb), .second, .val (.long xc), .second, .val (.ref r_1), .val (.ref r_2), .val (.ref r_3), .val (.ref b4), .val (.long (maxJ (1000000 : Int64) ((((0 : Int64) + (maxJ (0 : Int64) xa)) + (maxJ (0 : Int64) xb)) / ((2 : Int32).toInt64)))), .second, .unset, .unset, .unset, .unset, .unset, .unset] [(.int (2 : Int32))])) _
    refine XS.ifYes X13.here hx rfl (pc0 := 103) (pc' := 114) rfl (hb hby at_103) rfl ((if0 _ _).trans (feq (by decide : ¬ ((2 : Int32) = (0 : Int32)))).2) (by decide) (by decide) ?_
    show Steps p.tables e below (T13.setTop (mkF m 114 #[.val (.long ja), .second, .val (.long jb), .second, .val (.long jc), .second, .val (.int k), .val (.int (2 : Int32)), .val (.long xa), .second, .val (.long xb), .second, .val (.long xc), .second, .val (.ref r_1), .val (.ref r_2), .val (.ref r_3), .val (.ref b4), .val (.long (maxJ (1000000 : Int64) ((((0 : Int64) + (maxJ (0 : Int64) xa)) + (maxJ (0 : Int64) xb)) / ((2 : Int32).toInt64)))), .second, .unset, .unset, .unset, .unset, .unset, .unset] [])) _
    refine XS.lload X13.here hx rfl (hb hby at_114) rfl ?_
    show Steps p.tables e below (T13.setTop (mkF m 116 #[.val (.long ja), .second, .val (.long jb), .second, .val (.long jc), .second, .val (.int k), .val (.int (2 : Int32)), .val (.long xa), .second, .val (.long xb), .second, .val (.long xc), .second, .val (.ref r_1), .val (.ref r_2), .val (.ref r_3), .val (.ref b4), .val (.long (maxJ (1000000 : Int64) ((((0 : Int64) + (maxJ (0 : Int64) xa)) + (maxJ (0 : Int64) xb)) / ((2 : Int32).toInt64)))), .second, .unset, .unset, .unset, .unset, .unset, .unset] [(.long xa)])) _
    refine st14 _ ?_
    show Steps p.tables e below (T14.setTop (mkF m 119 #[.val (.long ja), .second, .val (.long jb), .second, .val (.long jc), .second, .val (.int k), .val (.int (2 : Int32)), .val (.long xa), .second, .val (.long xb), .second, .val (.long xc), .second, .val (.ref r_1), .val (.ref r_2), .val (.ref r_3), .val (.ref b4), .val (.long (maxJ (1000000 : Int64) ((((0 : Int64) + (maxJ (0 : Int64) xa)) + (maxJ (0 : Int64) xb)) / ((2 : Int32).toInt64)))), .second, .unset, .unset, .unset, .unset, .unset, .unset] [(.long (clampJ xa))])) _
    refine XS.lstore X14.here hx rfl (hb hby at_119) rfl (l' := #[.val (.long ja), .second, .val (.long jb), .second, .val (.long jc), .second, .val (.int k), .val (.int (2 : Int32)), .val (.long xa), .second, .val (.long xb), .second, .val (.long xc), .second, .val (.ref r_1), .val (.ref r_2), .val (.ref r_3), .val (.ref b4), .val (.long (maxJ (1000000 : Int64) ((((0 : Int64) + (maxJ (0 : Int64) xa)) + (maxJ (0 : Int64) xb)) / ((2 : Int32).toInt64)))), .second, .unset, .unset, .val (.long (clampJ xa)), .second, .unset, .unset]) rfl ?_
    show Steps p.tables e below (T14.setTop (mkF m 121 #[.val (.long ja), .second, .val (.long jb), .second, .val (.long jc), .second, .val (.int k), .val (.int (2 : Int32)), .val (.long xa), .second, .val (.long xb), .second, .val (.long xc), .second, .val (.ref r_1), .val (.ref r_2), .val (.ref r_3), .val (.ref b4), .val (.long (maxJ (1000000 : Int64) ((((0 : Int64) + (maxJ (0 : Int64) xa)) + (maxJ (0 : Int64) xb)) / ((2 : Int32).toInt64)))), .second, .unset, .unset, .val (.long (clampJ xa)), .second, .unset, .unset] [])) _
    refine XS.iload X14.here hx rfl (hb hby at_121) rfl ?_
    show Steps p.tables e below (T14.setTop (mkF m 123 #[.val (.long ja), .second, .val (.long jb), .second, .val (.long jc), .second, .val (.int k), .val (.int (2 : Int32)), .val (.long xa), .second, .val (.long xb), .second, .val (.long xc), .second, .val (.ref r_1), .val (.ref r_2), .val (.ref r_3), .val (.ref b4), .val (.long (maxJ (1000000 : Int64) ((((0 : Int64) + (maxJ (0 : Int64) xa)) + (maxJ (0 : Int64) xb)) / ((2 : Int32).toInt64)))), .second, .unset, .unset, .val (.long (clampJ xa)), .second, .unset, .unset] [(.int (2 : Int32))])) _
    refine XS.iconst X14.here hx rfl (hb hby at_123) ?_
    show Steps p.tables e below (T14.setTop (mkF m 124 #[.val (.long ja), .second, .val (.long jb), .second, .val (.long jc), .second, .val (.int k), .val (.int (2 : Int32)), .val (.long xa), .second, .val (.long xb), .second, .val (.long xc), .second, .val (.ref r_1), .val (.ref r_2), .val (.ref r_3), .val (.ref b4), .val (.long (maxJ (1000000 : Int64) ((((0 : Int64) + (maxJ (0 : Int64) xa)) + (maxJ (0 : Int64) xb)) / ((2 : Int32).toInt64)))), .second, .unset, .unset, .val (.long (clampJ xa)), .second, .unset, .unset] [(.int (2 : Int32)), (.int (2 : Int32))])) _
    refine XS.icmpNo X14.here hx rfl (hb hby at_124) rfl (flt (by decide : ¬ ((2 : Int32) < (2 : Int32)))).1 ?_
    show Steps p.tables e below (T14.setTop (mkF m 127 #[.val (.long ja), .second, .val (.long jb), .second, .val (.long jc), .second, .val (.int k), .val (.int (2 : Int32)), .val (.long xa), .second, .val (.long xb), .second, .val (.long xc), .second, .val (.ref r_1), .val (.ref r_2), .val (.ref r_3), .val (.ref b4), .val (.long (maxJ (1000000 : Int64) ((((0 : Int64) + (maxJ (0 : Int64) xa)) + (maxJ (0 : Int64) xb)) / ((2 : Int32).toInt64)))), .second, .unset, .unset, .val (.long (clampJ xa)), .second, .unset, .unset] [])) _
    refine XS.lload X14.here hx rfl (hb hby at_127) rfl ?_
    show Steps p.tables e below (T14.setTop (mkF m 129 #[.val (.long ja), .second, .val (.long jb), .second, .val (.long jc), .second, .val (.int k), .val (.int (2 : Int32)), .val (.long xa), .second, .val (.long xb), .second, .val (.long xc), .second, .val (.ref r_1), .val (.ref r_2), .val (.ref r_3), .val (.ref b4), .val (.long (maxJ (1000000 : Int64) ((((0 : Int64) + (maxJ (0 : Int64) xa)) + (maxJ (0 : Int64) xb)) / ((2 : Int32).toInt64)))), .second, .unset, .unset, .val (.long (clampJ xa)), .second, .unset, .unset] [(.long (clampJ xa))])) _
    refine XS.lload X14.here hx rfl (hb hby at_129) rfl ?_
    show Steps p.tables e below (T14.setTop (mkF m 131 #[.val (.long ja), .second, .val (.long jb), .second, .val (.long jc), .second, .val (.int k), .val (.int (2 : Int32)), .val (.long xa), .second, .val (.long xb), .second, .val (.long xc), .second, .val (.ref r_1), .val (.ref r_2), .val (.ref r_3), .val (.ref b4), .val (.long (maxJ (1000000 : Int64) ((((0 : Int64) + (maxJ (0 : Int64) xa)) + (maxJ (0 : Int64) xb)) / ((2 : Int32).toInt64)))), .second, .unset, .unset, .val (.long (clampJ xa)), .second, .unset, .unset] [(.long xb), (.long (clampJ xa))])) _
    refine st15 _ ?_
    show Steps p.tables e below (T15.setTop (mkF m 134 #[.val (.long ja), .second, .val (.long jb), .second, .val (.long jc), .second, .val (.int k), .val (.int (2 : Int32)), .val (.long xa), .second, .val (.long xb), .second, .val (.long xc), .second, .val (.ref r_1), .val (.ref r_2), .val (.ref r_3), .val (.ref b4), .val (.long (maxJ (1000000 : Int64) ((((0 : Int64) + (maxJ (0 : Int64) xa)) + (maxJ (0 : Int64) xb)) / ((2 : Int32).toInt64)))), .second, .unset, .unset, .val (.long (clampJ xa)), .second, .unset, .unset] [(.long (clampJ xb)), (.long (clampJ xa))])) _
    refine XS.ladd X15.here hx rfl (hb hby at_134) rfl ?_
    show Steps p.tables e below (T15.setTop (mkF m 135 #[.val (.long ja), .second, .val (.long jb), .second, .val (.long jc), .second, .val (.int k), .val (.int (2 : Int32)), .val (.long xa), .second, .val (.long xb), .second, .val (.long xc), .second, .val (.ref r_1), .val (.ref r_2), .val (.ref r_3), .val (.ref b4), .val (.long (maxJ (1000000 : Int64) ((((0 : Int64) + (maxJ (0 : Int64) xa)) + (maxJ (0 : Int64) xb)) / ((2 : Int32).toInt64)))), .second, .unset, .unset, .val (.long (clampJ xa)), .second, .unset, .unset] [(.long ((clampJ xa) + (clampJ xb)))])) _
    refine XS.lstore X15.here hx rfl (hb hby at_135) rfl (l' := #[.val (.long ja), .second, .val (.long jb), .second, .val (.long jc), .second, .val (.int k), .val (.int (2 : Int32)), .val (.long xa), .second, .val (.long xb), .second, .val (.long xc), .second, .val (.ref r_1), .val (.ref r_2), .val (.ref r_3), .val (.ref b4), .val (.long (maxJ (1000000 : Int64) ((((0 : Int64) + (maxJ (0 : Int64) xa)) + (maxJ (0 : Int64) xb)) / ((2 : Int32).toInt64)))), .second, .unset, .unset, .val (.long ((clampJ xa) + (clampJ xb))), .second, .unset, .unset]) rfl ?_
    show Steps p.tables e below (T15.setTop (mkF m 137 #[.val (.long ja), .second, .val (.long jb), .second, .val (.long jc), .second, .val (.int k), .val (.int (2 : Int32)), .val (.long xa), .second, .val (.long xb), .second, .val (.long xc), .second, .val (.ref r_1), .val (.ref r_2), .val (.ref r_3), .val (.ref b4), .val (.long (maxJ (1000000 : Int64) ((((0 : Int64) + (maxJ (0 : Int64) xa)) + (maxJ (0 : Int64) xb)) / ((2 : Int32).toInt64)))), .second, .unset, .unset, .val (.long ((clampJ xa) + (clampJ xb))), .second, .unset, .unset] [])) _
    refine XS.iload X15.here hx rfl (hb hby at_137) rfl ?_
    show Steps p.tables e below (T15.setTop (mkF m 139 #[.val (.long ja), .second, .val (.long jb), .second, .val (.long jc), .second, .val (.int k), .val (.int (2 : Int32)), .val (.long xa), .second, .val (.long xb), .second, .val (.long xc), .second, .val (.ref r_1), .val (.ref r_2), .val (.ref r_3), .val (.ref b4), .val (.long (maxJ (1000000 : Int64) ((((0 : Int64) + (maxJ (0 : Int64) xa)) + (maxJ (0 : Int64) xb)) / ((2 : Int32).toInt64)))), .second, .unset, .unset, .val (.long ((clampJ xa) + (clampJ xb))), .second, .unset, .unset] [(.int (2 : Int32))])) _
    refine XS.iconst X15.here hx rfl (hb hby at_139) ?_
    show Steps p.tables e below (T15.setTop (mkF m 140 #[.val (.long ja), .second, .val (.long jb), .second, .val (.long jc), .second, .val (.int k), .val (.int (2 : Int32)), .val (.long xa), .second, .val (.long xb), .second, .val (.long xc), .second, .val (.ref r_1), .val (.ref r_2), .val (.ref r_3), .val (.ref b4), .val (.long (maxJ (1000000 : Int64) ((((0 : Int64) + (maxJ (0 : Int64) xa)) + (maxJ (0 : Int64) xb)) / ((2 : Int32).toInt64)))), .second, .unset, .unset, .val (.long ((clampJ xa) + (clampJ xb))), .second, .unset, .unset] [(.int (3 : Int32)), (.int (2 : Int32))])) _
    refine XS.icmpYes X15.here hx rfl (pc0 := 140) (pc' := 153) rfl (hb hby at_140) rfl (tlt (by decide : (2 : Int32) < (3 : Int32))).1 (by decide) (by decide) ?_
    show Steps p.tables e below (T15.setTop (mkF m 153 #[.val (.long ja), .second, .val (.long jb), .second, .val (.long jc), .second, .val (.int k), .val (.int (2 : Int32)), .val (.long xa), .second, .val (.long xb), .second, .val (.long xc), .second, .val (.ref r_1), .val (.ref r_2), .val (.ref r_3), .val (.ref b4), .val (.long (maxJ (1000000 : Int64) ((((0 : Int64) + (maxJ (0 : Int64) xa)) + (maxJ (0 : Int64) xb)) / ((2 : Int32).toInt64)))), .second, .unset, .unset, .val (.long ((clampJ xa) + (clampJ xb))), .second, .unset, .unset] [])) _
    refine XS.lload X15.here hx rfl (hb hby at_153) rfl ?_
    show Steps p.tables e below (T15.setTop (mkF m 155 #[.val (.long ja), .second, .val (.long jb), .second, .val (.long jc), .second, .val (.int k), .val (.int (2 : Int32)), .val (.long xa), .second, .val (.long xb), .second, .val (.long xc), .second, .val (.ref r_1), .val (.ref r_2), .val (.ref r_3), .val (.ref b4), .val (.long (maxJ (1000000 : Int64) ((((0 : Int64) + (maxJ (0 : Int64) xa)) + (maxJ (0 : Int64) xb)) / ((2 : Int32).toInt64)))), .second, .unset, .unset, .val (.long ((clampJ xa) + (clampJ xb))), .second, .unset, .unset] [(.long ((clampJ xa) + (clampJ xb)))])) _
    refine XS.iload X15.here hx rfl (hb hby at_155) rfl ?_
    show Steps p.tables e below (T15.setTop (mkF m 157 #[.val (.long ja), .second, .val (.long jb), .second, .val (.long jc), .second, .val (.int k), .val (.int (2 : Int32)), .val (.long xa), .second, .val (.long xb), .second, .val (.long xc), .second, .val (.ref r_1), .val (.ref r_2), .val (.ref r_3), .val (.ref b4), .val (.long (maxJ (1000000 : Int64) ((((0 : Int64) + (maxJ (0 : Int64) xa)) + (maxJ (0 : Int64) xb)) / ((2 : Int32).toInt64)))), .second, .unset, .unset, .val (.long ((clampJ xa) + (clampJ xb))), .second, .unset, .unset] [(.int (2 : Int32)), (.long ((clampJ xa) + (clampJ xb)))])) _
    refine XS.i2l X15.here hx rfl (hb hby at_157) rfl ?_
    show Steps p.tables e below (T15.setTop (mkF m 158 #[.val (.long ja), .second, .val (.long jb), .second, .val (.long jc), .second, .val (.int k), .val (.int (2 : Int32)), .val (.long xa), .second, .val (.long xb), .second, .val (.long xc), .second, .val (.ref r_1), .val (.ref r_2), .val (.ref r_3), .val (.ref b4), .val (.long (maxJ (1000000 : Int64) ((((0 : Int64) + (maxJ (0 : Int64) xa)) + (maxJ (0 : Int64) xb)) / ((2 : Int32).toInt64)))), .second, .unset, .unset, .val (.long ((clampJ xa) + (clampJ xb))), .second, .unset, .unset] [(.long ((2 : Int32).toInt64)), (.long ((clampJ xa) + (clampJ xb)))])) _
    refine XS.ldiv X15.here hx rfl (hb hby at_158) rfl (by decide) ?_
    show Steps p.tables e below (T15.setTop (mkF m 159 #[.val (.long ja), .second, .val (.long jb), .second, .val (.long jc), .second, .val (.int k), .val (.int (2 : Int32)), .val (.long xa), .second, .val (.long xb), .second, .val (.long xc), .second, .val (.ref r_1), .val (.ref r_2), .val (.ref r_3), .val (.ref b4), .val (.long (maxJ (1000000 : Int64) ((((0 : Int64) + (maxJ (0 : Int64) xa)) + (maxJ (0 : Int64) xb)) / ((2 : Int32).toInt64)))), .second, .unset, .unset, .val (.long ((clampJ xa) + (clampJ xb))), .second, .unset, .unset] [(.long (((clampJ xa) + (clampJ xb)) / ((2 : Int32).toInt64)))])) _
    refine XS.lstore X15.here hx rfl (hb hby at_159) rfl (l' := #[.val (.long ja), .second, .val (.long jb), .second, .val (.long jc), .second, .val (.int k), .val (.int (2 : Int32)), .val (.long xa), .second, .val (.long xb), .second, .val (.long xc), .second, .val (.ref r_1), .val (.ref r_2), .val (.ref r_3), .val (.ref b4), .val (.long (maxJ (1000000 : Int64) ((((0 : Int64) + (maxJ (0 : Int64) xa)) + (maxJ (0 : Int64) xb)) / ((2 : Int32).toInt64)))), .second, .unset, .unset, .val (.long ((clampJ xa) + (clampJ xb))), .second, .val (.long (((clampJ xa) + (clampJ xb)) / ((2 : Int32).toInt64))), .second]) rfl ?_
    show Steps p.tables e below (T15.setTop (mkF m 161 #[.val (.long ja), .second, .val (.long jb), .second, .val (.long jc), .second, .val (.int k), .val (.int (2 : Int32)), .val (.long xa), .second, .val (.long xb), .second, .val (.long xc), .second, .val (.ref r_1), .val (.ref r_2), .val (.ref r_3), .val (.ref b4), .val (.long (maxJ (1000000 : Int64) ((((0 : Int64) + (maxJ (0 : Int64) xa)) + (maxJ (0 : Int64) xb)) / ((2 : Int32).toInt64)))), .second, .unset, .unset, .val (.long ((clampJ xa) + (clampJ xb))), .second, .val (.long (((clampJ xa) + (clampJ xb)) / ((2 : Int32).toInt64))), .second] [])) _
    refine XS.lload X15.here hx rfl (hb hby at_161) rfl ?_
    show Steps p.tables e below (T15.setTop (mkF m 163 #[.val (.long ja), .second, .val (.long jb), .second, .val (.long jc), .second, .val (.int k), .val (.int (2 : Int32)), .val (.long xa), .second, .val (.long xb), .second, .val (.long xc), .second, .val (.ref r_1), .val (.ref r_2), .val (.ref r_3), .val (.ref b4), .val (.long (maxJ (1000000 : Int64) ((((0 : Int64) + (maxJ (0 : Int64) xa)) + (maxJ (0 : Int64) xb)) / ((2 : Int32).toInt64)))), .second, .unset, .unset, .val (.long ((clampJ xa) + (clampJ xb))), .second, .val (.long (((clampJ xa) + (clampJ xb)) / ((2 : Int32).toInt64))), .second] [(.long (((clampJ xa) + (clampJ xb)) / ((2 : Int32).toInt64)))])) _
    refine X15.ldc2Long hx hown (mvT hZ (hw _ (List.mem_of_getElem? (i := 75) rfl))) (g := (mkF m 163 #[.val (.long ja), .second, .val (.long jb), .second, .val (.long jc), .second, .val (.int k), .val (.int (2 : Int32)), .val (.long xa), .second, .val (.long xb), .second, .val (.long xc), .second, .val (.ref r_1), .val (.ref r_2), .val (.ref r_3), .val (.ref b4), .val (.long (maxJ (1000000 : Int64) ((((0 : Int64) + (maxJ (0 : Int64) xa)) + (maxJ (0 : Int64) xb)) / ((2 : Int32).toInt64)))), .second, .unset, .unset, .val (.long ((clampJ xa) + (clampJ xb))), .second, .val (.long (((clampJ xa) + (clampJ xb)) / ((2 : Int32).toInt64))), .second] [(.long (((clampJ xa) + (clampJ xb)) / ((2 : Int32).toInt64)))])) rfl (hb hby at_163) _ ?_
    show Steps p.tables e below (T15.setTop (mkF m 166 #[.val (.long ja), .second, .val (.long jb), .second, .val (.long jc), .second, .val (.int k), .val (.int (2 : Int32)), .val (.long xa), .second, .val (.long xb), .second, .val (.long xc), .second, .val (.ref r_1), .val (.ref r_2), .val (.ref r_3), .val (.ref b4), .val (.long (maxJ (1000000 : Int64) ((((0 : Int64) + (maxJ (0 : Int64) xa)) + (maxJ (0 : Int64) xb)) / ((2 : Int32).toInt64)))), .second, .unset, .unset, .val (.long ((clampJ xa) + (clampJ xb))), .second, .val (.long (((clampJ xa) + (clampJ xb)) / ((2 : Int32).toInt64))), .second] [(.long (1000000 : Int64)), (.long (((clampJ xa) + (clampJ xb)) / ((2 : Int32).toInt64)))])) _
    refine XS.lcmp X15.here hx rfl (hb hby at_166) rfl ?_
    show Steps p.tables e below (T15.setTop (mkF m 167 #[.val (.long ja), .second, .val (.long jb), .second, .val (.long jc), .second, .val (.int k), .val (.int (2 : Int32)), .val (.long xa), .second, .val (.long xb), .second, .val (.long xc), .second, .val (.ref r_1), .val (.ref r_2), .val (.ref r_3), .val (.ref b4), .val (.long (maxJ (1000000 : Int64) ((((0 : Int64) + (maxJ (0 : Int64) xa)) + (maxJ (0 : Int64) xb)) / ((2 : Int32).toInt64)))), .second, .unset, .unset, .val (.long ((clampJ xa) + (clampJ xb))), .second, .val (.long (((clampJ xa) + (clampJ xb)) / ((2 : Int32).toInt64))), .second] [(.int (lcmpW (((clampJ xa) + (clampJ xb)) / ((2 : Int32).toInt64)) (1000000 : Int64)))])) _
    refine XS.ifNo X15.here hx rfl (hb hby at_167) rfl ((if0 _ _).trans (tlt (hc167 : (lcmpW (((clampJ xa) + (clampJ xb)) / ((2 : Int32).toInt64)) (1000000 : Int64)) < (0 : Int32))).2.1) ?_
    show Steps p.tables e below (T15.setTop (mkF m 170 #[.val (.long ja), .second, .val (.long jb), .second, .val (.long jc), .second, .val (.int k), .val (.int (2 : Int32)), .val (.long xa), .second, .val (.long xb), .second, .val (.long xc), .second, .val (.ref r_1), .val (.ref r_2), .val (.ref r_3), .val (.ref b4), .val (.long (maxJ (1000000 : Int64) ((((0 : Int64) + (maxJ (0 : Int64) xa)) + (maxJ (0 : Int64) xb)) / ((2 : Int32).toInt64)))), .second, .unset, .unset, .val (.long ((clampJ xa) + (clampJ xb))), .second, .val (.long (((clampJ xa) + (clampJ xb)) / ((2 : Int32).toInt64))), .second] [])) _
    refine X15.ldc2Long hx hown (mvT hZ (hw _ (List.mem_of_getElem? (i := 75) rfl))) (g := (mkF m 170 #[.val (.long ja), .second, .val (.long jb), .second, .val (.long jc), .second, .val (.int k), .val (.int (2 : Int32)), .val (.long xa), .second, .val (.long xb), .second, .val (.long xc), .second, .val (.ref r_1), .val (.ref r_2), .val (.ref r_3), .val (.ref b4), .val (.long (maxJ (1000000 : Int64) ((((0 : Int64) + (maxJ (0 : Int64) xa)) + (maxJ (0 : Int64) xb)) / ((2 : Int32).toInt64)))), .second, .unset, .unset, .val (.long ((clampJ xa) + (clampJ xb))), .second, .val (.long (((clampJ xa) + (clampJ xb)) / ((2 : Int32).toInt64))), .second] [])) rfl (hb hby at_170) _ ?_
    show Steps p.tables e below (T15.setTop (mkF m 173 #[.val (.long ja), .second, .val (.long jb), .second, .val (.long jc), .second, .val (.int k), .val (.int (2 : Int32)), .val (.long xa), .second, .val (.long xb), .second, .val (.long xc), .second, .val (.ref r_1), .val (.ref r_2), .val (.ref r_3), .val (.ref b4), .val (.long (maxJ (1000000 : Int64) ((((0 : Int64) + (maxJ (0 : Int64) xa)) + (maxJ (0 : Int64) xb)) / ((2 : Int32).toInt64)))), .second, .unset, .unset, .val (.long ((clampJ xa) + (clampJ xb))), .second, .val (.long (((clampJ xa) + (clampJ xb)) / ((2 : Int32).toInt64))), .second] [(.long (1000000 : Int64))])) _
    refine XS.lstore X15.here hx rfl (hb hby at_173) rfl (l' := #[.val (.long ja), .second, .val (.long jb), .second, .val (.long jc), .second, .val (.int k), .val (.int (2 : Int32)), .val (.long xa), .second, .val (.long xb), .second, .val (.long xc), .second, .val (.ref r_1), .val (.ref r_2), .val (.ref r_3), .val (.ref b4), .val (.long (maxJ (1000000 : Int64) ((((0 : Int64) + (maxJ (0 : Int64) xa)) + (maxJ (0 : Int64) xb)) / ((2 : Int32).toInt64)))), .second, .val (.long (1000000 : Int64)), .second, .val (.long ((clampJ xa) + (clampJ xb))), .second, .val (.long (((clampJ xa) + (clampJ xb)) / ((2 : Int32).toInt64))), .second]) rfl ?_
    show Steps p.tables e below (T15.setTop (mkF m 175 #[.val (.long ja), .second, .val (.long jb), .second, .val (.long jc), .second, .val (.int k), .val (.int (2 : Int32)), .val (.long xa), .second, .val (.long xb), .second, .val (.long xc), .second, .val (.ref r_1), .val (.ref r_2), .val (.ref r_3), .val (.ref b4), .val (.long (maxJ (1000000 : Int64) ((((0 : Int64) + (maxJ (0 : Int64) xa)) + (maxJ (0 : Int64) xb)) / ((2 : Int32).toInt64)))), .second, .val (.long (1000000 : Int64)), .second, .val (.long ((clampJ xa) + (clampJ xb))), .second, .val (.long (((clampJ xa) + (clampJ xb)) / ((2 : Int32).toInt64))), .second] [])) _
    refine XS.goto X15.here hx rfl (pc0 := 175) (pc' := 182) rfl (hb hby at_175) (by decide) (by decide) ?_
    show Steps p.tables e below (T15.setTop (mkF m 182 #[.val (.long ja), .second, .val (.long jb), .second, .val (.long jc), .second, .val (.int k), .val (.int (2 : Int32)), .val (.long xa), .second, .val (.long xb), .second, .val (.long xc), .second, .val (.ref r_1), .val (.ref r_2), .val (.ref r_3), .val (.ref b4), .val (.long (maxJ (1000000 : Int64) ((((0 : Int64) + (maxJ (0 : Int64) xa)) + (maxJ (0 : Int64) xb)) / ((2 : Int32).toInt64)))), .second, .val (.long (1000000 : Int64)), .second, .val (.long ((clampJ xa) + (clampJ xb))), .second, .val (.long (((clampJ xa) + (clampJ xb)) / ((2 : Int32).toInt64))), .second] [])) _
    refine XS.lload X15.here hx rfl (hb hby at_182) rfl ?_
    show Steps p.tables e below (T15.setTop (mkF m 184 #[.val (.long ja), .second, .val (.long jb), .second, .val (.long jc), .second, .val (.int k), .val (.int (2 : Int32)), .val (.long xa), .second, .val (.long xb), .second, .val (.long xc), .second, .val (.ref r_1), .val (.ref r_2), .val (.ref r_3), .val (.ref b4), .val (.long (maxJ (1000000 : Int64) ((((0 : Int64) + (maxJ (0 : Int64) xa)) + (maxJ (0 : Int64) xb)) / ((2 : Int32).toInt64)))), .second, .val (.long (1000000 : Int64)), .second, .val (.long ((clampJ xa) + (clampJ xb))), .second, .val (.long (((clampJ xa) + (clampJ xb)) / ((2 : Int32).toInt64))), .second] [(.long (maxJ (1000000 : Int64) ((((0 : Int64) + (maxJ (0 : Int64) xa)) + (maxJ (0 : Int64) xb)) / ((2 : Int32).toInt64))))])) _
    refine XS.lload X15.here hx rfl (hb hby at_184) rfl ?_
    show Steps p.tables e below (T15.setTop (mkF m 186 #[.val (.long ja), .second, .val (.long jb), .second, .val (.long jc), .second, .val (.int k), .val (.int (2 : Int32)), .val (.long xa), .second, .val (.long xb), .second, .val (.long xc), .second, .val (.ref r_1), .val (.ref r_2), .val (.ref r_3), .val (.ref b4), .val (.long (maxJ (1000000 : Int64) ((((0 : Int64) + (maxJ (0 : Int64) xa)) + (maxJ (0 : Int64) xb)) / ((2 : Int32).toInt64)))), .second, .val (.long (1000000 : Int64)), .second, .val (.long ((clampJ xa) + (clampJ xb))), .second, .val (.long (((clampJ xa) + (clampJ xb)) / ((2 : Int32).toInt64))), .second] [(.long (1000000 : Int64)), (.long (maxJ (1000000 : Int64) ((((0 : Int64) + (maxJ (0 : Int64) xa)) + (maxJ (0 : Int64) xb)) / ((2 : Int32).toInt64))))])) _
    refine XS.lcmp X15.here hx rfl (hb hby at_186) rfl ?_
    show Steps p.tables e below (T15.setTop (mkF m 187 #[.val (.long ja), .second, .val (.long jb), .second, .val (.long jc), .second, .val (.int k), .val (.int (2 : Int32)), .val (.long xa), .second, .val (.long xb), .second, .val (.long xc), .second, .val (.ref r_1), .val (.ref r_2), .val (.ref r_3), .val (.ref b4), .val (.long (maxJ (1000000 : Int64) ((((0 : Int64) + (maxJ (0 : Int64) xa)) + (maxJ (0 : Int64) xb)) / ((2 : Int32).toInt64)))), .second, .val (.long (1000000 : Int64)), .second, .val (.long ((clampJ xa) + (clampJ xb))), .second, .val (.long (((clampJ xa) + (clampJ xb)) / ((2 : Int32).toInt64))), .second] [(.int (lcmpW (maxJ (1000000 : Int64) ((((0 : Int64) + (maxJ (0 : Int64) xa)) + (maxJ (0 : Int64) xb)) / ((2 : Int32).toInt64))) (1000000 : Int64)))])) _
    refine XS.ifNo X15.here hx rfl (hb hby at_187) rfl ((if0 _ _).trans (teq (((lw_eq _ _).mpr (fin_b2 hc167)) : (lcmpW (maxJ (1000000 : Int64) ((((0 : Int64) + (maxJ (0 : Int64) xa)) + (maxJ (0 : Int64) xb)) / ((2 : Int32).toInt64))) (1000000 : Int64)) = (0 : Int32))).2) ?_
    show Steps p.tables e below (T15.setTop (mkF m 190 #[.val (.long ja), .second, .val (.long jb), .second, .val (.long jc), .second, .val (.int k), .val (.int (2 : Int32)), .val (.long xa), .second, .val (.long xb), .second, .val (.long xc), .second, .val (.ref r_1), .val (.ref r_2), .val (.ref r_3), .val (.ref b4), .val (.long (maxJ (1000000 : Int64) ((((0 : Int64) + (maxJ (0 : Int64) xa)) + (maxJ (0 : Int64) xb)) / ((2 : Int32).toInt64)))), .second, .val (.long (1000000 : Int64)), .second, .val (.long ((clampJ xa) + (clampJ xb))), .second, .val (.long (((clampJ xa) + (clampJ xb)) / ((2 : Int32).toInt64))), .second] [])) _
    refine XS.iconst X15.here hx rfl (hb hby at_190) ?_
    show Steps p.tables e below (T15.setTop (mkF m 191 #[.val (.long ja), .second, .val (.long jb), .second, .val (.long jc), .second, .val (.int k), .val (.int (2 : Int32)), .val (.long xa), .second, .val (.long xb), .second, .val (.long xc), .second, .val (.ref r_1), .val (.ref r_2), .val (.ref r_3), .val (.ref b4), .val (.long (maxJ (1000000 : Int64) ((((0 : Int64) + (maxJ (0 : Int64) xa)) + (maxJ (0 : Int64) xb)) / ((2 : Int32).toInt64)))), .second, .val (.long (1000000 : Int64)), .second, .val (.long ((clampJ xa) + (clampJ xb))), .second, .val (.long (((clampJ xa) + (clampJ xb)) / ((2 : Int32).toInt64))), .second] [(.int (1 : Int32))])) _
    refine XS.goto X15.here hx rfl (pc0 := 191) (pc' := 195) rfl (hb hby at_191) (by decide) (by decide) ?_
    show Steps p.tables e below (T15.setTop (mkF m 195 #[.val (.long ja), .second, .val (.long jb), .second, .val (.long jc), .second, .val (.int k), .val (.int (2 : Int32)), .val (.long xa), .second, .val (.long xb), .second, .val (.long xc), .second, .val (.ref r_1), .val (.ref r_2), .val (.ref r_3), .val (.ref b4), .val (.long (maxJ (1000000 : Int64) ((((0 : Int64) + (maxJ (0 : Int64) xa)) + (maxJ (0 : Int64) xb)) / ((2 : Int32).toInt64)))), .second, .val (.long (1000000 : Int64)), .second, .val (.long ((clampJ xa) + (clampJ xb))), .second, .val (.long (((clampJ xa) + (clampJ xb)) / ((2 : Int32).toInt64))), .second] [(.int (1 : Int32))])) _
    exact retN X15 hx (t := .boolean) Bd.returns (by simp) (hb hby at_195) hr
  · show Q_law Z ja jb jc k wz wg h0 n0 _ T15.heap _
    rw [kh15]
    exact ⟨rfl, N15⟩
set_option maxRecDepth 65536 in
set_option maxHeartbeats 40000000 in
theorem law_3a (l : Launch) (Z : State) (a0 : Array Value) (hw : ∀ d ∈ tables_1, d.before a0 Z = true) (ws : List Jvm.Cond) (ja : Int64) (jb : Int64) (jc : Int64) (k : Int32) (wz : Addr) (wg : Addr) (h0 : Heap) (n0 : Nat) (O0 : Old Z n0 h0) (G0 : Sta Z Z.heap "com/example/admitd/admitd/gate/ServiceTime" "LEAST_NANOS" "J" (.long (1000000 : Int64))) (G1 : Sta Z Z.heap "java/time/Duration" "ZERO" "Ljava/time/Duration;" (.ref wz)) (G2 : Exa Z Z.heap wz "java/time/Duration") (G3 : Fld Z Z.heap wz "java/time/Duration" "seconds" "J" (.long (0 : Int64))) (G4 : Fld Z Z.heap wz "java/time/Duration" "nanos" "I" (.int (0 : Int32))) (G5 : Sta Z Z.heap "com/example/admitd/admitd/gate/ServiceTime" "FIRST_GUESS" "Ljava/time/Duration;" (.ref wg)) (G6 : Exa Z Z.heap wg "java/time/Duration") (G7 : Fld Z Z.heap wg "java/time/Duration" "seconds" "J" (.long (1 : Int64))) (G8 : Fld Z Z.heap wg "java/time/Duration" "nanos" "I" (.int (0 : Int32))) (xa : Int64) (xb : Int64) (xc : Int64) (exa : (ja >>> ((2 : Int32) &&& 0x3f).toInt64) = xa) (exb : (jb >>> ((2 : Int32) &&& 0x3f).toInt64) = xb) (exc : (jc >>> ((2 : Int32) &&& 0x3f).toInt64) = xc) (hk : (k &&& (3 : Int32)) = (3 : Int32)) (hc167 : ¬ ((lcmpW ((((clampJ xa) + (clampJ xb)) + (clampJ xc)) / ((3 : Int32).toInt64)) (1000000 : Int64)) < (0 : Int32))) :
    MetFree l x (head1 (Jvm.Cond.code x code maxLocals ret :: ws) room_1) (fun zA zU => zA = #[(.long ja), (.long jb), (.long jc), (.int k)] ∧ Z.Warmed39 zU.vm ∧ zU.heap = h0) (fun _ _ _ _ _ => True) (fun _ zU zo zU' => ∃ zv zL, zo = .returned zv ∧ Q_law Z ja jb jc k wz wg h0 n0 zv zU'.heap zL ∧ FrameEnd zU zo zU' zL room_1.cells room_1.slots) := by
  refine MetFree.of_bodySF (plainFor_of_name pn_4) hisR ?_
  intro p e s m args below meth c s₁ Bd hml0 hP hK
  obtain ⟨rfl, hZ, hh⟩ := hP
  have hx := Bd.exec
  have hby := Bd.bytes
  have hml : c.maxLocals = 26 := hml0
  have hown : s.vm.findClass "com/example/admitd/admitd/gate/ServiceTimeMeanPinLaw" = some m.cls := findClass_of_methodNamed Bd.named
  have hnm := (name_of_methodNamed Bd.named Bd.method).1
  have X0 : Stand p l e room_1 s m #[(.long ja), (.long jb), (.long jc), (.int k)] below meth c s₁ [] 0 0 := Stand.of_body Bd
  have e0 : s₁.heap = h0 := by rw [← hh, Bd.state]; rfl
  have N0 := Fr.nil n0
  have Z0 : n0 ≤ h0.size := O0.1 ▸ O0.2.1
  have pre0 : ∀ zt, Steps p.tables e below (s₁.setTop (mkF m 0 #[.val (.long ja), .second, .val (.long jb), .second, .val (.long jc), .second, .val (.int k), .unset, .unset, .unset, .unset, .unset, .unset, .unset, .unset, .unset, .unset, .unset, .unset, .unset, .unset, .unset, .unset, .unset, .unset, .unset] [])) zt → Steps p.tables e below (s₁.setTop (entryFrame m #[(.long ja), (.long jb), (.long jc), (.int k)] maxLocals)) zt := fun zt zk => castTop (ef_0_JJJI m ja jb jc k) zk
  obtain ⟨_, _, ⟨T1, L1, k1, n1⟩, -, X1, ⟨Lc1, hQ1, l1, y1, z1⟩, st1⟩ := Jvm.LawKit.callS X0 hx (y := (⟨"java/time/Duration", "ofNanos", "(J)Ljava/time/Duration;"⟩ : MethodName)) hown (mvT hZ (hw _ (List.mem_of_getElem? (i := 0) rfl))) (mvT hZ (hw _ (List.mem_of_getElem? (i := 1) rfl))) (mvT hZ (hw _ (List.mem_of_getElem? (i := 2) rfl))) (mvT hZ (hw _ (List.mem_of_getElem? (i := 3) rfl))) (by decide) (backOf (W := 0) (ofN l Z a0 hw [] xa wz h0 n0 O0 G1 G2 G3 G4) hZ (hw _ (List.mem_of_getElem? (i := 3) rfl)) (hw _ (List.mem_of_getElem? (i := 2) rfl)) (by decide) (by decide)) (g := (mkF m 24 #[.val (.long ja), .second, .val (.long jb), .second, .val (.long jc), .second, .val (.int k), .val (.int (3 : Int32)), .val (.long xa), .second, .val (.long xb), .second, .val (.long xc), .second, .unset, .unset, .unset, .unset, .unset, .unset, .unset, .unset, .unset, .unset, .unset, .unset] [(.long xa)])) rfl (by rw [hml]; rfl) (argsL := [(.long xa)]) (rest := []) (lenOf pd_5 rfl) rfl (by show 2 * 0 + _ ≤ _; exact Nat.le_of_eq rfl) (hb hby at_24) (fun _ _ => ⟨rfl, e0, (by decide : 0 + 1 ≤ _), (by decide : 0 + 2 ≤ _)⟩)
  dsimp only [Pt.U, Pt.locs, Pt.cells, Pt.slots] at X1 l1 y1 z1 st1 hQ1
  subst l1 y1 z1
  obtain ⟨r_1, s1_1, n1_1, rfl, Nq1, kh1, Po1_0, Po1_1, Po1_2, pq1_0⟩ := hQ1
  have N1 := Fr.app N0 Nq1
  have O1 := O0.keep kh1 all0
  have K1 : Keep h0 T1.heap [] := (Keep.refl h0 []).trans kh1 all0
  obtain ⟨_, _, ⟨T2, L2, k2, n2⟩, -, X2, ⟨Lc2, hQ2, l2, y2, z2⟩, st2⟩ := Jvm.LawKit.callS X1 hx (y := (⟨"java/time/Duration", "ofNanos", "(J)Ljava/time/Duration;"⟩ : MethodName)) hown (mvT hZ (hw _ (List.mem_of_getElem? (i := 0) rfl))) (mvT hZ (hw _ (List.mem_of_getElem? (i := 1) rfl))) (mvT hZ (hw _ (List.mem_of_getElem? (i := 2) rfl))) (mvT hZ (hw _ (List.mem_of_getElem? (i := 3) rfl))) (by decide) (backOf (W := 0) (ofN l Z a0 hw [] xb wz T1.heap n0 O1 G1 G2 G3 G4) hZ (hw _ (List.mem_of_getElem? (i := 3) rfl)) (hw _ (List.mem_of_getElem? (i := 2) rfl)) (by decide) (by decide)) (g := (mkF m 31 #[.val (.long ja), .second, .val (.long jb), .second, .val (.long jc), .second, .val (.int k), .val (.int (3 : Int32)), .val (.long xa), .second, .val (.long xb), .second, .val (.long xc), .second, .val (.ref r_1), .unset, .unset, .unset, .unset, .unset, .unset, .unset, .unset, .unset, .unset, .unset] [(.long xb)])) rfl (by rw [hml]; rfl) (argsL := [(.long xb)]) (rest := []) (lenOf pd_5 rfl) rfl (by show 2 * 0 + _ ≤ _; exact Nat.le_of_eq rfl) (hb hby at_31) (fun _ _ => ⟨rfl, rfl, (by decide : 1 + 1 ≤ _), (by decide : 2 + 2 ≤ _)⟩)
  dsimp only [Pt.U, Pt.locs, Pt.cells, Pt.slots] at X2 l2 y2 z2 st2 hQ2
  subst l2 y2 z2
  obtain ⟨r_2, s1_2, n1_2, rfl, Nq2, kh2, Po2_0, Po2_1, Po2_2, pq2_0⟩ := hQ2
  have N2 := Fr.app N1 Nq2
  have O2 := O1.keep kh2 all0
  have K2 : Keep h0 T2.heap [] := K1.trans kh2 all0
  obtain ⟨_, _, ⟨T3, L3, k3, n3⟩, -, X3, ⟨Lc3, hQ3, l3, y3, z3⟩, st3⟩ := Jvm.LawKit.callS X2 hx (y := (⟨"java/time/Duration", "ofNanos", "(J)Ljava/time/Duration;"⟩ : MethodName)) hown (mvT hZ (hw _ (List.mem_of_getElem? (i := 0) rfl))) (mvT hZ (hw _ (List.mem_of_getElem? (i := 1) rfl))) (mvT hZ (hw _ (List.mem_of_getElem? (i := 2) rfl))) (mvT hZ (hw _ (List.mem_of_getElem? (i := 3) rfl))) (by decide) (backOf (W := 0) (ofN l Z a0 hw [] xc wz T2.heap n0 O2 G1 G2 G3 G4) hZ (hw _ (List.mem_of_getElem? (i := 3) rfl)) (hw _ (List.mem_of_getElem? (i := 2) rfl)) (by decide) (by decide)) (g := (mkF m 38 #[.val (.long ja), .second, .val (.long jb), .second, .val (.long jc), .second, .val (.int k), .val (.int (3 : Int32)), .val (.long xa), .second, .val (.long xb), .second, .val (.long xc), .second, .val (.ref r_1), .val (.ref r_2), .unset, .unset, .unset, .unset, .unset, .unset, .unset, .unset, .unset, .unset] [(.long xc)])) rfl (by rw [hml]; rfl) (argsL := [(.long xc)]) (rest := []) (lenOf pd_5 rfl) rfl (by show 2 * 0 + _ ≤ _; exact Nat.le_of_eq rfl) (hb hby at_38) (fun _ _ => ⟨rfl, rfl, (by decide : 2 + 1 ≤ _), (by decide : 4 + 2 ≤ _)⟩)
  dsimp only [Pt.U, Pt.locs, Pt.cells, Pt.slots] at X3 l3 y3 z3 st3 hQ3
  subst l3 y3 z3
  obtain ⟨r_3, s1_3, n1_3, rfl, Nq3, kh3, Po3_0, Po3_1, Po3_2, pq3_0⟩ := hQ3
  have N3 := Fr.app N2 Nq3
  have O3 := O2.keep kh3 all0
  have K3 : Keep h0 T3.heap [] := K2.trans kh3 all0
  obtain ⟨T4, h4, X4, e4, E4, A4, D4, U4, st4⟩ := newO X3 hx hZ hown (hw _ (List.mem_of_getElem? (i := 23) rfl)) (hw _ (List.mem_of_getElem? (i := 24) rfl)) (hw _ (List.mem_of_getElem? (i := 25) rfl)) rfl (g := (mkF m 43 #[.val (.long ja), .second, .val (.long jb), .second, .val (.long jc), .second, .val (.int k), .val (.int (3 : Int32)), .val (.long xa), .second, .val (.long xb), .second, .val (.long xc), .second, .val (.ref r_1), .val (.ref r_2), .val (.ref r_3), .unset, .unset, .unset, .unset, .unset, .unset, .unset, .unset, .unset] [])) rfl (hb hby at_43) (by decide) (by decide)
  obtain ⟨b4, gz4⟩ : ∃ z, z = T3.heap.size := ⟨_, rfl⟩
  rw [← gz4] at A4 D4 U4 st4
  have sz_b4 : h0.size ≤ b4 := Nat.le_trans K3.1 (Nat.le_of_eq gz4.symm)
  have g_b4 : n0 ≤ b4 := Nat.le_trans Z0 sz_b4
  have O4 := O3.ext E4
  have K4 : Keep h0 h4 [] := K3.ext E4
  have Fi4_32 : Fld Z h4 b4 "com/example/admitd/admitd/gate/ServiceTime" "latest" "[J" .null := D4 (Or.inr (hw _ (List.mem_of_getElem? (i := 32) rfl))) (ty := (.array .long)) (by decide)
  have Fi4_57 : Fld Z h4 b4 "com/example/admitd/admitd/gate/ServiceTime" "count" "I" (.int (0 : Int32)) := D4 (Or.inl (hw _ (List.mem_of_getElem? (i := 57) rfl))) (ty := .int) (by decide)
  have Fi4_59 : Fld Z h4 b4 "com/example/admitd/admitd/gate/ServiceTime" "next" "I" (.int (0 : Int32)) := D4 (Or.inl (hw _ (List.mem_of_getElem? (i := 59) rfl))) (ty := .int) (by decide)
  have Fi4_61 : Fld Z h4 b4 "com/example/admitd/admitd/gate/ServiceTime" "sum" "J" (.long (0 : Int64)) := D4 (Or.inl (hw _ (List.mem_of_getElem? (i := 61) rfl))) (ty := .long) (by decide)
  obtain ⟨_, _, ⟨T5, L5, k5, n5⟩, -, X5, ⟨Lc5, hQ5, l5, y5, z5⟩, st5⟩ := X4.specialBack hx (y := (⟨"com/example/admitd/admitd/gate/ServiceTime", "<init>", "()V"⟩ : MethodName)) rfl hown (mvT hZ (hw _ (List.mem_of_getElem? (i := 26) rfl))) (mvT hZ (hw _ (List.mem_of_getElem? (i := 27) rfl))) (mvT hZ (hw _ (List.mem_of_getElem? (i := 28) rfl))) (by decide) (backOf (W := 1) (svI l Z a0 hw [] b4 h4 n0 O4 A4 Fi4_32 Fi4_57 Fi4_59 Fi4_61 g_b4) hZ (hw _ (List.mem_of_getElem? (i := 28) rfl)) (hw _ (List.mem_of_getElem? (i := 25) rfl)) (by decide) (by decide)) (g := (mkF m 47 #[.val (.long ja), .second, .val (.long jb), .second, .val (.long jc), .second, .val (.int k), .val (.int (3 : Int32)), .val (.long xa), .second, .val (.long xb), .second, .val (.long xc), .second, .val (.ref r_1), .val (.ref r_2), .val (.ref r_3), .unset, .unset, .unset, .unset, .unset, .unset, .unset, .unset, .unset] [(.ref b4), (.ref b4)])) rfl (by rw [hml]; rfl) (Steps.refl _) (a := b4) (argsL := []) (rest := [(.ref b4)]) (lenOf pd_6 rfl) rfl (by show 2 * 0 + _ ≤ _; exact Nat.le_of_eq rfl) (hb hby at_47) (fun _ _ => ⟨rfl, e4, (by decide : 4 + 1 ≤ _), (by decide : 10 + 32 ≤ _)⟩)
  dsimp only [Pt.U, Pt.locs, Pt.cells, Pt.slots] at X5 l5 y5 z5 st5 hQ5
  subst l5 y5 z5
  obtain ⟨la_5, rfl, Nq5, kh5, fz_la_5, Po5_0, Po5_1, Po5_2, Po5_3, Po5_4, Po5_5⟩ := hQ5
  have N5 := Fr.app N3 Nq5
  have sz_la_5 : h0.size ≤ la_5 := Nat.le_trans K4.1 fz_la_5
  have g_la_5 : n0 ≤ la_5 := Nat.le_trans Z0 sz_la_5
  have O5 := O4.keep kh5 (allS g_b4 all0)
  have K5 : Keep h0 T5.heap [] := K4.trans kh5 (allS (Or.inr sz_b4) all0)
  have c6 : Fld Z T5.heap r_1 "java/time/Duration" "seconds" "J" (.long s1_1) := ((((Po1_1.keep kh2 nin0).keep kh3 nin0).ext E4).keep kh5 (ninS (Nat.ne_of_lt (Nat.lt_of_lt_of_le (((Po1_0.keep kh2).keep kh3)).lt (Nat.le_of_eq gz4.symm))) nin0))
  have c7 : Fld Z T5.heap r_1 "java/time/Duration" "nanos" "I" (.int n1_1) := ((((Po1_2.keep kh2 nin0).keep kh3 nin0).ext E4).keep kh5 (ninS (Nat.ne_of_lt (Nat.lt_of_lt_of_le (((Po1_0.keep kh2).keep kh3)).lt (Nat.le_of_eq gz4.symm))) nin0))
  obtain ⟨cq8, kq8, q8a, q8b, q8c⟩ := isOf hZ rfl Po5_0
  obtain ⟨_, _, ⟨T8, L8, k8, n8⟩, -, X8, ⟨Lc8, hQ8, l8, y8, z8⟩, st8⟩ := X5.virtualBack hx (y := (⟨"com/example/admitd/admitd/gate/ServiceTime", "record", "(Ljava/time/Duration;)V"⟩ : MethodName)) (z := (⟨"com/example/admitd/admitd/gate/ServiceTime", "record", "(Ljava/time/Duration;)V"⟩ : MethodName)) hown (mvT hZ (hw _ (List.mem_of_getElem? (i := 33) rfl))) (mvT hZ (hw _ (List.mem_of_getElem? (i := 34) rfl))) (notFace_of_selects (args := #[]) (mvT hZ (hw _ (List.mem_of_getElem? (i := 36) rfl)))) (mvT hZ (hw _ (List.mem_of_getElem? (i := 36) rfl))) (mvT hZ (hw _ (List.mem_of_getElem? (i := 35) rfl))) (by decide) (backOf (W := 0) (rec0 l Z a0 hw [] b4 r_1 la_5 (0 : Int64) s1_1 n1_1 xa T5.heap n0 O5 Po5_0 Po5_1 Po5_2 Po5_3 Po5_4 ((((Po1_0.keep kh2).keep kh3).ext E4).keep kh5) c6 c7 Po5_5 g_b4 g_la_5 (Nat.ne_of_lt (Nat.lt_of_lt_of_le (A4).lt fz_la_5)) pq1_0) hZ (hw _ (List.mem_of_getElem? (i := 37) rfl)) (hw _ (List.mem_of_getElem? (i := 25) rfl)) (by decide) (by decide)) q8a q8c (g := (mkF m 62 #[.val (.long ja), .second, .val (.long jb), .second, .val (.long jc), .second, .val (.int k), .val (.int (3 : Int32)), .val (.long xa), .second, .val (.long xb), .second, .val (.long xc), .second, .val (.ref r_1), .val (.ref r_2), .val (.ref r_3), .val (.ref b4), .unset, .unset, .unset, .unset, .unset, .unset, .unset, .unset] [(.ref r_1), (.ref b4)])) rfl (by rw [hml]; rfl) (Steps.refl _) (argsL := [(.ref r_1)]) (rest := []) (lenOf pd_8 rfl) rfl (by show 2 * 0 + _ ≤ _; exact Nat.le_of_eq rfl) (hb hby at_62) (fun _ _ => ⟨rfl, rfl, (by decide : 5 + 0 ≤ _), (by decide : 42 + 0 ≤ _)⟩)
  dsimp only [Pt.U, Pt.locs, Pt.cells, Pt.slots] at X8 l8 y8 z8 st8 hQ8
  subst l8 y8 z8
  obtain ⟨rfl, Nq8, kh8, Po8_0, Po8_1, Po8_2, Po8_3, Po8_4, Po8_5⟩ := hQ8
  have N8 := Fr.app N5 Nq8
  have O8 := O5.keep kh8 (allS g_b4 (allS g_la_5 all0))
  have K8 : Keep h0 T8.heap [] := K5.trans kh8 (allS (Or.inr sz_b4) (allS (Or.inr sz_la_5) all0))
  have c9 : Fld Z T8.heap r_2 "java/time/Duration" "seconds" "J" (.long s1_2) := ((((Po2_1.keep kh3 nin0).ext E4).keep kh5 (ninS (Nat.ne_of_lt (Nat.lt_of_lt_of_le ((Po2_0.keep kh3)).lt (Nat.le_of_eq gz4.symm))) nin0)).keep kh8 (ninS (Nat.ne_of_lt (Nat.lt_of_lt_of_le ((Po2_0.keep kh3)).lt (Nat.le_of_eq gz4.symm))) (ninS (Nat.ne_of_lt (Nat.lt_of_lt_of_le (((Po2_0.keep kh3).ext E4)).lt fz_la_5)) nin0)))
  have c10 : Fld Z T8.heap r_2 "java/time/Duration" "nanos" "I" (.int n1_2) := ((((Po2_2.keep kh3 nin0).ext E4).keep kh5 (ninS (Nat.ne_of_lt (Nat.lt_of_lt_of_le ((Po2_0.keep kh3)).lt (Nat.le_of_eq gz4.symm))) nin0)).keep kh8 (ninS (Nat.ne_of_lt (Nat.lt_of_lt_of_le ((Po2_0.keep kh3)).lt (Nat.le_of_eq gz4.symm))) (ninS (Nat.ne_of_lt (Nat.lt_of_lt_of_le (((Po2_0.keep kh3).ext E4)).lt fz_la_5)) nin0)))
  obtain ⟨cq11, kq11, q11a, q11b, q11c⟩ := isOf hZ rfl Po8_0
  obtain ⟨_, _, ⟨T11, L11, k11, n11⟩, -, X11, ⟨Lc11, hQ11, l11, y11, z11⟩, st11⟩ := X8.virtualBack hx (y := (⟨"com/example/admitd/admitd/gate/ServiceTime", "record", "(Ljava/time/Duration;)V"⟩ : MethodName)) (z := (⟨"com/example/admitd/admitd/gate/ServiceTime", "record", "(Ljava/time/Duration;)V"⟩ : MethodName)) hown (mvT hZ (hw _ (List.mem_of_getElem? (i := 33) rfl))) (mvT hZ (hw _ (List.mem_of_getElem? (i := 34) rfl))) (notFace_of_selects (args := #[]) (mvT hZ (hw _ (List.mem_of_getElem? (i := 36) rfl)))) (mvT hZ (hw _ (List.mem_of_getElem? (i := 36) rfl))) (mvT hZ (hw _ (List.mem_of_getElem? (i := 35) rfl))) (by decide) (backOf (W := 0) (rec1 l Z a0 hw [] b4 r_2 la_5 ((0 : Int64) + (maxJ (0 : Int64) xa)) s1_2 n1_2 xb T8.heap n0 O8 Po8_0 Po8_1 Po8_2 Po8_3 Po8_4 ((((Po2_0.keep kh3).ext E4).keep kh5).keep kh8) c9 c10 Po8_5 g_b4 g_la_5 (Nat.ne_of_lt (Nat.lt_of_lt_of_le (A4).lt fz_la_5)) pq2_0) hZ (hw _ (List.mem_of_getElem? (i := 37) rfl)) (hw _ (List.mem_of_getElem? (i := 25) rfl)) (by decide) (by decide)) q11a q11c (g := (mkF m 75 #[.val (.long ja), .second, .val (.long jb), .second, .val (.long jc), .second, .val (.int k), .val (.int (3 : Int32)), .val (.long xa), .second, .val (.long xb), .second, .val (.long xc), .second, .val (.ref r_1), .val (.ref r_2), .val (.ref r_3), .val (.ref b4), .unset, .unset, .unset, .unset, .unset, .unset, .unset, .unset] [(.ref r_2), (.ref b4)])) rfl (by rw [hml]; rfl) (Steps.refl _) (argsL := [(.ref r_2)]) (rest := []) (lenOf pd_8 rfl) rfl (by show 2 * 0 + _ ≤ _; exact Nat.le_of_eq rfl) (hb hby at_75) (fun _ _ => ⟨rfl, rfl, (by decide : 5 + 0 ≤ _), (by decide : 42 + 0 ≤ _)⟩)
  dsimp only [Pt.U, Pt.locs, Pt.cells, Pt.slots] at X11 l11 y11 z11 st11 hQ11
  subst l11 y11 z11
  obtain ⟨rfl, Nq11, kh11, Po11_0, Po11_1, Po11_2, Po11_3, Po11_4, Po11_5⟩ := hQ11
  have N11 := Fr.app N8 Nq11
  have O11 := O8.keep kh11 (allS g_b4 (allS g_la_5 all0))
  have K11 : Keep h0 T11.heap [] := K8.trans kh11 (allS (Or.inr sz_b4) (allS (Or.inr sz_la_5) all0))
  have c12 : Fld Z T11.heap r_3 "java/time/Duration" "seconds" "J" (.long s1_3) := ((((Po3_1.ext E4).keep kh5 (ninS (Nat.ne_of_lt (Nat.lt_of_lt_of_le (Po3_0).lt (Nat.le_of_eq gz4.symm))) nin0)).keep kh8 (ninS (Nat.ne_of_lt (Nat.lt_of_lt_of_le (Po3_0).lt (Nat.le_of_eq gz4.symm))) (ninS (Nat.ne_of_lt (Nat.lt_of_lt_of_le ((Po3_0.ext E4)).lt fz_la_5)) nin0))).keep kh11 (ninS (Nat.ne_of_lt (Nat.lt_of_lt_of_le (Po3_0).lt (Nat.le_of_eq gz4.symm))) (ninS (Nat.ne_of_lt (Nat.lt_of_lt_of_le ((Po3_0.ext E4)).lt fz_la_5)) nin0)))
  have c13 : Fld Z T11.heap r_3 "java/time/Duration" "nanos" "I" (.int n1_3) := ((((Po3_2.ext E4).keep kh5 (ninS (Nat.ne_of_lt (Nat.lt_of_lt_of_le (Po3_0).lt (Nat.le_of_eq gz4.symm))) nin0)).keep kh8 (ninS (Nat.ne_of_lt (Nat.lt_of_lt_of_le (Po3_0).lt (Nat.le_of_eq gz4.symm))) (ninS (Nat.ne_of_lt (Nat.lt_of_lt_of_le ((Po3_0.ext E4)).lt fz_la_5)) nin0))).keep kh11 (ninS (Nat.ne_of_lt (Nat.lt_of_lt_of_le (Po3_0).lt (Nat.le_of_eq gz4.symm))) (ninS (Nat.ne_of_lt (Nat.lt_of_lt_of_le ((Po3_0.ext E4)).lt fz_la_5)) nin0)))
  obtain ⟨cq14, kq14, q14a, q14b, q14c⟩ := isOf hZ rfl Po11_0
  obtain ⟨_, _, ⟨T14, L14, k14, n14⟩, -, X14, ⟨Lc14, hQ14, l14, y14, z14⟩, st14⟩ := X11.virtualBack hx (y := (⟨"com/example/admitd/admitd/gate/ServiceTime", "record", "(Ljava/time/Duration;)V"⟩ : MethodName)) (z := (⟨"com/example/admitd/admitd/gate/ServiceTime", "record", "(Ljava/time/Duration;)V"⟩ : MethodName)) hown (mvT hZ (hw _ (List.mem_of_getElem? (i := 33) rfl))) (mvT hZ (hw _ (List.mem_of_getElem? (i := 34) rfl))) (notFace_of_selects (args := #[]) (mvT hZ (hw _ (List.mem_of_getElem? (i := 36) rfl)))) (mvT hZ (hw _ (List.mem_of_getElem? (i := 36) rfl))) (mvT hZ (hw _ (List.mem_of_getElem? (i := 35) rfl))) (by decide) (backOf (W := 0) (rec2 l Z a0 hw [] b4 r_3 la_5 (((0 : Int64) + (maxJ (0 : Int64) xa)) + (maxJ (0 : Int64) xb)) s1_3 n1_3 xc T11.heap n0 O11 Po11_0 Po11_1 Po11_2 Po11_3 Po11_4 ((((Po3_0.ext E4).keep kh5).keep kh8).keep kh11) c12 c13 Po11_5 g_b4 g_la_5 (Nat.ne_of_lt (Nat.lt_of_lt_of_le (A4).lt fz_la_5)) pq3_0) hZ (hw _ (List.mem_of_getElem? (i := 37) rfl)) (hw _ (List.mem_of_getElem? (i := 25) rfl)) (by decide) (by decide)) q14a q14c (g := (mkF m 88 #[.val (.long ja), .second, .val (.long jb), .second, .val (.long jc), .second, .val (.int k), .val (.int (3 : Int32)), .val (.long xa), .second, .val (.long xb), .second, .val (.long xc), .second, .val (.ref r_1), .val (.ref r_2), .val (.ref r_3), .val (.ref b4), .unset, .unset, .unset, .unset, .unset, .unset, .unset, .unset] [(.ref r_3), (.ref b4)])) rfl (by rw [hml]; rfl) (Steps.refl _) (argsL := [(.ref r_3)]) (rest := []) (lenOf pd_8 rfl) rfl (by show 2 * 0 + _ ≤ _; exact Nat.le_of_eq rfl) (hb hby at_88) (fun _ _ => ⟨rfl, rfl, (by decide : 5 + 0 ≤ _), (by decide : 42 + 0 ≤ _)⟩)
  dsimp only [Pt.U, Pt.locs, Pt.cells, Pt.slots] at X14 l14 y14 z14 st14 hQ14
  subst l14 y14 z14
  obtain ⟨rfl, Nq14, kh14, Po14_0, Po14_1, Po14_2, Po14_3, Po14_4, Po14_5⟩ := hQ14
  have N14 := Fr.app N11 Nq14
  have O14 := O11.keep kh14 (allS g_b4 (allS g_la_5 all0))
  have K14 : Keep h0 T14.heap [] := K11.trans kh14 (allS (Or.inr sz_b4) (allS (Or.inr sz_la_5) all0))
  obtain ⟨cq15, kq15, q15a, q15b, q15c⟩ := isOf hZ rfl Po14_0
  obtain ⟨_, _, ⟨T15, L15, k15, n15⟩, -, X15, ⟨Lc15, hQ15, l15, y15, z15⟩, st15⟩ := X14.virtualBack hx (y := (⟨"com/example/admitd/admitd/gate/ServiceTime", "mean", "()Ljava/time/Duration;"⟩ : MethodName)) (z := (⟨"com/example/admitd/admitd/gate/ServiceTime", "mean", "()Ljava/time/Duration;"⟩ : MethodName)) hown (mvT hZ (hw _ (List.mem_of_getElem? (i := 62) rfl))) (mvT hZ (hw _ (List.mem_of_getElem? (i := 63) rfl))) (notFace_of_selects (args := #[]) (mvT hZ (hw _ (List.mem_of_getElem? (i := 65) rfl)))) (mvT hZ (hw _ (List.mem_of_getElem? (i := 65) rfl))) (mvT hZ (hw _ (List.mem_of_getElem? (i := 64) rfl))) (by decide) (backOf (W := 0) (mean1 l Z a0 hw [] b4 (3 : Int32) ((((0 : Int64) + (maxJ (0 : Int64) xa)) + (maxJ (0 : Int64) xb)) + (maxJ (0 : Int64) xc)) wz T14.heap n0 O14 G0 G1 G2 G3 G4 Po14_2 Po14_4 (by decide) (by decide)) hZ (hw _ (List.mem_of_getElem? (i := 66) rfl)) (hw _ (List.mem_of_getElem? (i := 25) rfl)) (by decide) (by decide)) q15a q15c (g := (mkF m 93 #[.val (.long ja), .second, .val (.long jb), .second, .val (.long jc), .second, .val (.int k), .val (.int (3 : Int32)), .val (.long xa), .second, .val (.long xb), .second, .val (.long xc), .second, .val (.ref r_1), .val (.ref r_2), .val (.ref r_3), .val (.ref b4), .unset, .unset, .unset, .unset, .unset, .unset, .unset, .unset] [(.ref b4)])) rfl (by rw [hml]; rfl) (Steps.refl _) (argsL := []) (rest := []) (lenOf pd_7 rfl) rfl (by show 2 * 0 + _ ≤ _; exact Nat.le_of_eq rfl) (hb hby at_93) (fun _ _ => ⟨rfl, rfl, (by decide : 5 + 1 ≤ _), (by decide : 42 + 2 ≤ _)⟩)
  dsimp only [Pt.U, Pt.locs, Pt.cells, Pt.slots] at X15 l15 y15 z15 st15 hQ15
  subst l15 y15 z15
  obtain ⟨r_15, s1_15, n1_15, rfl, Nq15, kh15, Po15_0, Po15_1, Po15_2, pq15_0⟩ := hQ15
  have N15 := Fr.app N14 Nq15
  have O15 := O14.keep kh15 all0
  have K15 : Keep h0 T15.heap [] := K14.trans kh15 all0
  obtain ⟨cq16, kq16, q16a, q16b, q16c⟩ := isOf hZ rfl Po15_0
  obtain ⟨_, _, ⟨T16, L16, k16, n16⟩, -, X16, ⟨Lc16, hQ16, l16, y16, z16⟩, st16⟩ := X15.virtualBack hx (y := (⟨"java/time/Duration", "toNanos", "()J"⟩ : MethodName)) (z := (⟨"java/time/Duration", "toNanos", "()J"⟩ : MethodName)) hown (mvT hZ (hw _ (List.mem_of_getElem? (i := 70) rfl))) (mvT hZ (hw _ (List.mem_of_getElem? (i := 39) rfl))) (notFace_of_selects (args := #[]) (mvT hZ (hw _ (List.mem_of_getElem? (i := 41) rfl)))) (mvT hZ (hw _ (List.mem_of_getElem? (i := 41) rfl))) (mvT hZ (hw _ (List.mem_of_getElem? (i := 40) rfl))) (by decide) (backOf (W := 0) (toN l Z a0 hw [] r_15 s1_15 n1_15 (maxJ (1000000 : Int64) (((((0 : Int64) + (maxJ (0 : Int64) xa)) + (maxJ (0 : Int64) xb)) + (maxJ (0 : Int64) xc)) / ((3 : Int32).toInt64))) T15.heap n0 O15 Po15_1 Po15_2 pq15_0) hZ (hw _ (List.mem_of_getElem? (i := 42) rfl)) (hw _ (List.mem_of_getElem? (i := 2) rfl)) (by decide) (by decide)) q16a q16c (g := (mkF m 96 #[.val (.long ja), .second, .val (.long jb), .second, .val (.long jc), .second, .val (.int k), .val (.int (3 : Int32)), .val (.long xa), .second, .val (.long xb), .second, .val (.long xc), .second, .val (.ref r_1), .val (.ref r_2), .val (.ref r_3), .val (.ref b4), .unset, .unset, .unset, .unset, .unset, .unset, .unset, .unset] [(.ref r_15)])) rfl (by rw [hml]; rfl) (Steps.refl _) (argsL := []) (rest := []) (lenOf pd_4 rfl) rfl (by show 2 * 0 + _ ≤ _; exact Nat.le_of_eq rfl) (hb hby at_96) (fun _ _ => ⟨rfl, rfl, (by decide : 6 + 0 ≤ _), (by decide : 44 + 0 ≤ _)⟩)
  dsimp only [Pt.U, Pt.locs, Pt.cells, Pt.slots] at X16 l16 y16 z16 st16 hQ16
  subst l16 y16 z16
  obtain ⟨rfl, Nq16, kh16⟩ := hQ16
  have N16 := Fr.app N15 Nq16
  obtain ⟨_, _, ⟨T17, L17, k17, n17⟩, -, X17, ⟨Lc17, hQ17, l17, y17, z17⟩, st17⟩ := Jvm.LawKit.callS X16 hx (y := (⟨"com/example/admitd/admitd/gate/ServiceTimeMeanPinLaw", "clamp", "(J)J"⟩ : MethodName)) hown (mvT hZ (hw _ (List.mem_of_getElem? (i := 71) rfl))) (mvT hZ (hw _ (List.mem_of_getElem? (i := 72) rfl))) (mvT hZ (hw _ (List.mem_of_getElem? (i := 73) rfl))) (mvT hZ (hw _ (List.mem_of_getElem? (i := 74) rfl))) (by decide) (backOf (W := 0) (clampR l Z a0 hw [] xa T15.heap n0 O15 ) hZ (hw _ (List.mem_of_getElem? (i := 74) rfl)) (hw _ (List.mem_of_getElem? (i := 73) rfl)) (by decide) (by decide)) (g := (mkF m 116 #[.val (.long ja), .second, .val (.long jb), .second, .val (.long jc), .second, .val (.int k), .val (.int (3 : Int32)), .val (.long xa), .second, .val (.long xb), .second, .val (.long xc), .second, .val (.ref r_1), .val (.ref r_2), .val (.ref r_3), .val (.ref b4), .val (.long (maxJ (1000000 : Int64) (((((0 : Int64) + (maxJ (0 : Int64) xa)) + (maxJ (0 : Int64) xb)) + (maxJ (0 : Int64) xc)) / ((3 : Int32).toInt64)))), .second, .unset, .unset, .unset, .unset, .unset, .unset] [(.long xa)])) rfl (by rw [hml]; rfl) (argsL := [(.long xa)]) (rest := []) (lenOf pd_0 rfl) rfl (by show 2 * 0 + _ ≤ _; exact Nat.le_of_eq rfl) (hb hby at_116) (fun _ _ => ⟨rfl, kh16, (by decide : 6 + 0 ≤ _), (by decide : 44 + 0 ≤ _)⟩)
  dsimp only [Pt.U, Pt.locs, Pt.cells, Pt.slots] at X17 l17 y17 z17 st17 hQ17
  subst l17 y17 z17
  obtain ⟨rfl, Nq17, kh17⟩ := hQ17
  have N17 := Fr.app N16 Nq17
  obtain ⟨_, _, ⟨T18, L18, k18, n18⟩, -, X18, ⟨Lc18, hQ18, l18, y18, z18⟩, st18⟩ := Jvm.LawKit.callS X17 hx (y := (⟨"com/example/admitd/admitd/gate/ServiceTimeMeanPinLaw", "clamp", "(J)J"⟩ : MethodName)) hown (mvT hZ (hw _ (List.mem_of_getElem? (i := 71) rfl))) (mvT hZ (hw _ (List.mem_of_getElem? (i := 72) rfl))) (mvT hZ (hw _ (List.mem_of_getElem? (i := 73) rfl))) (mvT hZ (hw _ (List.mem_of_getElem? (i := 74) rfl))) (by decide) (backOf (W := 2) (clampR l Z a0 hw [] xb T15.heap n0 O15 ) hZ (hw _ (List.mem_of_getElem? (i := 74) rfl)) (hw _ (List.mem_of_getElem? (i := 73) rfl)) (by decide) (by decide)) (g := (mkF m 131 #[.val (.long ja), .second, .val (.long jb), .second, .val (.long jc), .second, .val (.int k), .val (.int (3 : Int32)), .val (.long xa), .second, .val (.long xb), .second, .val (.long xc), .second, .val (.ref r_1), .val (.ref r_2), .val (.ref r_3), .val (.ref b4), .val (.long (maxJ (1000000 : Int64) (((((0 : Int64) + (maxJ (0 : Int64) xa)) + (maxJ (0 : Int64) xb)) + (maxJ (0 : Int64) xc)) / ((3 : Int32).toInt64)))), .second, .unset, .unset, .val (.long (clampJ xa)), .second, .unset, .unset] [(.long xb), (.long (clampJ xa))])) rfl (by rw [hml]; rfl) (argsL := [(.long xb)]) (rest := [(.long (clampJ xa))]) (lenOf pd_0 rfl) rfl (by show 2 * 0 + _ ≤ _; exact Nat.le_of_eq rfl) (hb hby at_131) (fun _ _ => ⟨rfl, kh17, (by decide : 6 + 0 ≤ _), (by decide : 44 + 0 ≤ _)⟩)
  dsimp only [Pt.U, Pt.locs, Pt.cells, Pt.slots] at X18 l18 y18 z18 st18 hQ18
  subst l18 y18 z18
  obtain ⟨rfl, Nq18, kh18⟩ := hQ18
  have N18 := Fr.app N17 Nq18
  obtain ⟨_, _, ⟨T19, L19, k19, n19⟩, -, X19, ⟨Lc19, hQ19, l19, y19, z19⟩, st19⟩ := Jvm.LawKit.callS X18 hx (y := (⟨"com/example/admitd/admitd/gate/ServiceTimeMeanPinLaw", "clamp", "(J)J"⟩ : MethodName)) hown (mvT hZ (hw _ (List.mem_of_getElem? (i := 71) rfl))) (mvT hZ (hw _ (List.mem_of_getElem? (i := 72) rfl))) (mvT hZ (hw _ (List.mem_of_getElem? (i := 73) rfl))) (mvT hZ (hw _ (List.mem_of_getElem? (i := 74) rfl))) (by decide) (backOf (W := 2) (clampR l Z a0 hw [] xc T15.heap n0 O15 ) hZ (hw _ (List.mem_of_getElem? (i := 74) rfl)) (hw _ (List.mem_of_getElem? (i := 73) rfl)) (by decide) (by decide)) (g := (mkF m 147 #[.val (.long ja), .second, .val (.long jb), .second, .val (.long jc), .second, .val (.int k), .val (.int (3 : Int32)), .val (.long xa), .second, .val (.long xb), .second, .val (.long xc), .second, .val (.ref r_1), .val (.ref r_2), .val (.ref r_3), .val (.ref b4), .val (.long (maxJ (1000000 : Int64) (((((0 : Int64) + (maxJ (0 : Int64) xa)) + (maxJ (0 : Int64) xb)) + (maxJ (0 : Int64) xc)) / ((3 : Int32).toInt64)))), .second, .unset, .unset, .val (.long ((clampJ xa) + (clampJ xb))), .second, .unset, .unset] [(.long xc), (.long ((clampJ xa) + (clampJ xb)))])) rfl (by rw [hml]; rfl) (argsL := [(.long xc)]) (rest := [(.long ((clampJ xa) + (clampJ xb)))]) (lenOf pd_0 rfl) rfl (by show 2 * 0 + _ ≤ _; exact Nat.le_of_eq rfl) (hb hby at_147) (fun _ _ => ⟨rfl, kh18, (by decide : 6 + 0 ≤ _), (by decide : 44 + 0 ≤ _)⟩)
  dsimp only [Pt.U, Pt.locs, Pt.cells, Pt.slots] at X19 l19 y19 z19 st19 hQ19
  subst l19 y19 z19
  obtain ⟨rfl, Nq19, kh19⟩ := hQ19
  have N19 := Fr.app N18 Nq19
  obtain ⟨fs, hr, hrun, hended, hW, hsame⟩ := X19.leave (v := some (.int (1 : Int32))) (fun h => by rw [Bd.returns] at h; cases h)
  refine ⟨_, _, pre0 _ ?_, hrun, hended, _, _, rfl, ?_, ⟨_, rfl⟩, hW, hsame.mono (by decide) (by decide)⟩
  · show Steps p.tables e below (s₁.setTop (mkF m 0 #[.val (.long ja), .second, .val (.long jb), .second, .val (.long jc), .second, .val (.int k), .unset, .unset, .unset, .unset, .unset, .unset, .unset, .unset, .unset, .unset, .unset, .unset, .unset, .unset, .unset, .unset, .unset, .unset, .unset] [])) _
    refine XS.iload X0.here hx rfl (hb hby at_0) rfl ?_
    show Steps p.tables e below (s₁.setTop (mkF m 2 #[.val (.long ja), .second, .val (.long jb), .second, .val (.long jc), .second, .val (.int k), .unset, .unset, .unset, .unset, .unset, .unset, .unset, .unset, .unset, .unset, .unset, .unset, .unset, .unset, .unset, .unset, .unset, .unset, .unset] [(.int k)])) _
    refine XS.iconst X0.here hx rfl (hb hby at_2) ?_
    show Steps p.tables e below (s₁.setTop (mkF m 3 #[.val (.long ja), .second, .val (.long jb), .second, .val (.long jc), .second, .val (.int k), .unset, .unset, .unset, .unset, .unset, .unset, .unset, .unset, .unset, .unset, .unset, .unset, .unset, .unset, .unset, .unset, .unset, .unset, .unset] [(.int (3 : Int32)), (.int k)])) _
    refine XS.iand X0.here hx rfl (hb hby at_3) rfl ?_
    show Steps p.tables e below (s₁.setTop (mkF m 4 #[.val (.long ja), .second, .val (.long jb), .second, .val (.long jc), .second, .val (.int k), .unset, .unset, .unset, .unset, .unset, .unset, .unset, .unset, .unset, .unset, .unset, .unset, .unset, .unset, .unset, .unset, .unset, .unset, .unset] [(.int (k &&& (3 : Int32)))])) _
    refine castTop (congrArg (fun z_ => (mkF m 4 #[.val (.long ja), .second, .val (.long jb), .second, .val (.long jc), .second, .val (.int k), .unset, .unset, .unset, .unset, .unset, .unset, .unset, .unset, .unset, .unset, .unset, .unset, .unset, .unset, .unset, .unset, .unset, .unset, .unset] [(.int z_)])) (hk : (k &&& (3 : Int32)) = (3 : Int32))) ?_
    show Steps p.tables e below (s₁.setTop (mkF m 4 #[.val (.long ja), .second, .val (.long jb), .second, .val (.long jc), .second, .val (.int k), .unset, .unset, .unset, .unset, .unset, .unset, .unset, .unset, .unset, .unset, .unset, .unset, .unset, .unset, .unset, .unset, .unset, .unset, .unset] [(.int (3 : Int32))])) _
    refine XS.istore X0.here hx rfl (hb hby at_4) rfl (l' := #[.val (.long ja), .second, .val (.long jb), .second, .val (.long jc), .second, .val (.int k), .val (.int (3 : Int32)), .unset, .unset, .unset, .unset, .unset, .unset, .unset, .unset, .unset, .unset, .unset, .unset, .unset, .unset, .unset, .unset, .unset, .unset]) rfl ?_
    show Steps p.tables e below (s₁.setTop (mkF m 6 #[.val (.long ja), .second, .val (.long jb), .second, .val (.long jc), .second, .val (.int k), .val (.int (3 : Int32)), .unset, .unset, .unset, .unset, .unset, .unset, .unset, .unset, .unset, .unset, .unset, .unset, .unset, .unset, .unset, .unset, .unset, .unset] [])) _
    refine XS.lloadN X0.here hx rfl (hb hby at_6) rfl ?_
    show Steps p.tables e below (s₁.setTop (mkF m 7 #[.val (.long ja), .second, .val (.long jb), .second, .val (.long jc), .second, .val (.int k), .val (.int (3 : Int32)), .unset, .unset, .unset, .unset, .unset, .unset, .unset, .unset, .unset, .unset, .unset, .unset, .unset, .unset, .unset, .unset, .unset, .unset] [(.long ja)])) _
    refine XS.iconst X0.here hx rfl (hb hby at_7) ?_
    show Steps p.tables e below (s₁.setTop (mkF m 8 #[.val (.long ja), .second, .val (.long jb), .second, .val (.long jc), .second, .val (.int k), .val (.int (3 : Int32)), .unset, .unset, .unset, .unset, .unset, .unset, .unset, .unset, .unset, .unset, .unset, .unset, .unset, .unset, .unset, .unset, .unset, .unset] [(.int (2 : Int32)), (.long ja)])) _
    refine XS.lshr X0.here hx rfl (hb hby at_8) rfl ?_
    show Steps p.tables e below (s₁.setTop (mkF m 9 #[.val (.long ja), .second, .val (.long jb), .second, .val (.long jc), .second, .val (.int k), .val (.int (3 : Int32)), .unset, .unset, .unset, .unset, .unset, .unset, .unset, .unset, .unset, .unset, .unset, .unset, .unset, .unset, .unset, .unset, .unset, .unset] [(.long (ja >>> ((2 : Int32) &&& 0x3f).toInt64))])) _
    refine castTop (congrArg (fun z_ => (mkF m 9 #[.val (.long ja), .second, .val (.long jb), .second, .val (.long jc), .second, .val (.int k), .val (.int (3 : Int32)), .unset, .unset, .unset, .unset, .unset, .unset, .unset, .unset, .unset, .unset, .unset, .unset, .unset, .unset, .unset, .unset, .unset, .unset] [(.long z_)])) (exa : (ja >>> ((2 : Int32) &&& 0x3f).toInt64) = xa)) ?_
    show Steps p.tables e below (s₁.setTop (mkF m 9 #[.val (.long ja), .second, .val (.long jb), .second, .val (.long jc), .second, .val (.int k), .val (.int (3 : Int32)), .unset, .unset, .unset, .unset, .unset, .unset, .unset, .unset, .unset, .unset, .unset, .unset, .unset, .unset, .unset, .unset, .unset, .unset] [(.long xa)])) _
    refine XS.lstore X0.here hx rfl (hb hby at_9) rfl (l' := #[.val (.long ja), .second, .val (.long jb), .second, .val (.long jc), .second, .val (.int k), .val (.int (3 : Int32)), .val (.long xa), .second, .unset, .unset, .unset, .unset, .unset, .unset, .unset, .unset, .unset, .unset, .unset, .unset, .unset, .unset, .unset, .unset]) rfl ?_
    show Steps p.tables e below (s₁.setTop (mkF m 11 #[.val (.long ja), .second, .val (.long jb), .second, .val (.long jc), .second, .val (.int k), .val (.int (3 : Int32)), .val (.long xa), .second, .unset, .unset, .unset, .unset, .unset, .unset, .unset, .unset, .unset, .unset, .unset, .unset, .unset, .unset, .unset, .unset] [])) _
    refine XS.lloadN X0.here hx rfl (hb hby at_11) rfl ?_
    show Steps p.tables e below (s₁.setTop (mkF m 12 #[.val (.long ja), .second, .val (.long jb), .second, .val (.long jc), .second, .val (.int k), .val (.int (3 : Int32)), .val (.long xa), .second, .unset, .unset, .unset, .unset, .unset, .unset, .unset, .unset, .unset, .unset, .unset, .unset, .unset, .unset, .unset, .unset] [(.long jb)])) _
    refine XS.iconst X0.here hx rfl (hb hby at_12) ?_
    show Steps p.tables e below (s₁.setTop (mkF m 13 #[.val (.long ja), .second, .val (.long jb), .second, .val (.long jc), .second, .val (.int k), .val (.int (3 : Int32)), .val (.long xa), .second, .unset, .unset, .unset, .unset, .unset, .unset, .unset, .unset, .unset, .unset, .unset, .unset, .unset, .unset, .unset, .unset] [(.int (2 : Int32)), (.long jb)])) _
    refine XS.lshr X0.here hx rfl (hb hby at_13) rfl ?_
    show Steps p.tables e below (s₁.setTop (mkF m 14 #[.val (.long ja), .second, .val (.long jb), .second, .val (.long jc), .second, .val (.int k), .val (.int (3 : Int32)), .val (.long xa), .second, .unset, .unset, .unset, .unset, .unset, .unset, .unset, .unset, .unset, .unset, .unset, .unset, .unset, .unset, .unset, .unset] [(.long (jb >>> ((2 : Int32) &&& 0x3f).toInt64))])) _
    refine castTop (congrArg (fun z_ => (mkF m 14 #[.val (.long ja), .second, .val (.long jb), .second, .val (.long jc), .second, .val (.int k), .val (.int (3 : Int32)), .val (.long xa), .second, .unset, .unset, .unset, .unset, .unset, .unset, .unset, .unset, .unset, .unset, .unset, .unset, .unset, .unset, .unset, .unset] [(.long z_)])) (exb : (jb >>> ((2 : Int32) &&& 0x3f).toInt64) = xb)) ?_
    show Steps p.tables e below (s₁.setTop (mkF m 14 #[.val (.long ja), .second, .val (.long jb), .second, .val (.long jc), .second, .val (.int k), .val (.int (3 : Int32)), .val (.long xa), .second, .unset, .unset, .unset, .unset, .unset, .unset, .unset, .unset, .unset, .unset, .unset, .unset, .unset, .unset, .unset, .unset] [(.long xb)])) _
    refine XS.lstore X0.here hx rfl (hb hby at_14) rfl (l' := #[.val (.long ja), .second, .val (.long jb), .second, .val (.long jc), .second, .val (.int k), .val (.int (3 : Int32)), .val (.long xa), .second, .val (.long xb), .second, .unset, .unset, .unset, .unset, .unset, .unset, .unset, .unset, .unset, .unset, .unset, .unset, .unset, .unset]) rfl ?_
    show Steps p.tables e below (s₁.setTop (mkF m 16 #[.val (.long ja), .second, .val (.long jb), .second, .val (.long jc), .second, .val (.int k), .val (.int (3 : Int32)), .val (.long xa), .second, .val (.long xb), .second, .unset, .unset, .unset, .unset, .unset, .unset, .unset, .unset, .unset, .unset, .unset, .unset, .unset, .unset] [])) _
    refine XS.lload X0.here hx rfl (hb hby at_16) rfl ?_
    show Steps p.tables e below (s₁.setTop (mkF m 18 #[.val (.long ja), .second, .val (.long jb), .second, .val (.long jc), .second, .val (.int k), .val (.int (3 : Int32)), .val (.long xa), .second, .val (.long xb), .second, .unset, .unset, .unset, .unset, .unset, .unset, .unset, .unset, .unset, .unset, .unset, .unset, .unset, .unset] [(.long jc)])) _
    refine XS.iconst X0.here hx rfl (hb hby at_18) ?_
    show Steps p.tables e below (s₁.setTop (mkF m 19 #[.val (.long ja), .second, .val (.long jb), .second, .val (.long jc), .second, .val (.int k), .val (.int (3 : Int32)), .val (.long xa), .second, .val (.long xb), .second, .unset, .unset, .unset, .unset, .unset, .unset, .unset, .unset, .unset, .unset, .unset, .unset, .unset, .unset] [(.int (2 : Int32)), (.long jc)])) _
    refine XS.lshr X0.here hx rfl (hb hby at_19) rfl ?_
    show Steps p.tables e below (s₁.setTop (mkF m 20 #[.val (.long ja), .second, .val (.long jb), .second, .val (.long jc), .second, .val (.int k), .val (.int (3 : Int32)), .val (.long xa), .second, .val (.long xb), .second, .unset, .unset, .unset, .unset, .unset, .unset, .unset, .unset, .unset, .unset, .unset, .unset, .unset, .unset] [(.long (jc >>> ((2 : Int32) &&& 0x3f).toInt64))])) _
    refine castTop (congrArg (fun z_ => (mkF m 20 #[.val (.long ja), .second, .val (.long jb), .second, .val (.long jc), .second, .val (.int k), .val (.int (3 : Int32)), .val (.long xa), .second, .val (.long xb), .second, .unset, .unset, .unset, .unset, .unset, .unset, .unset, .unset, .unset, .unset, .unset, .unset, .unset, .unset] [(.long z_)])) (exc : (jc >>> ((2 : Int32) &&& 0x3f).toInt64) = xc)) ?_
    show Steps p.tables e below (s₁.setTop (mkF m 20 #[.val (.long ja), .second, .val (.long jb), .second, .val (.long jc), .second, .val (.int k), .val (.int (3 : Int32)), .val (.long xa), .second, .val (.long xb), .second, .unset, .unset, .unset, .unset, .unset, .unset, .unset, .unset, .unset, .unset, .unset, .unset, .unset, .unset] [(.long xc)])) _
    refine XS.lstore X0.here hx rfl (hb hby at_20) rfl (l' := #[.val (.long ja), .second, .val (.long jb), .second, .val (.long jc), .second, .val (.int k), .val (.int (3 : Int32)), .val (.long xa), .second, .val (.long xb), .second, .val (.long xc), .second, .unset, .unset, .unset, .unset, .unset, .unset, .unset, .unset, .unset, .unset, .unset, .unset]) rfl ?_
    show Steps p.tables e below (s₁.setTop (mkF m 22 #[.val (.long ja), .second, .val (.long jb), .second, .val (.long jc), .second, .val (.int k), .val (.int (3 : Int32)), .val (.long xa), .second, .val (.long xb), .second, .val (.long xc), .second, .unset, .unset, .unset, .unset, .unset, .unset, .unset, .unset, .unset, .unset, .unset, .unset] [])) _
    refine XS.lload X0.here hx rfl (hb hby at_22) rfl ?_
    show Steps p.tables e below (s₁.setTop (mkF m 24 #[.val (.long ja), .second, .val (.long jb), .second, .val (.long jc), .second, .val (.int k), .val (.int (3 : Int32)), .val (.long xa), .second, .val (.long xb), .second, .val (.long xc), .second, .unset, .unset, .unset, .unset, .unset, .unset, .unset, .unset, .unset, .unset, .unset, .unset] [(.long xa)])) _
    refine st1 _ ?_
    show Steps p.tables e below (T1.setTop (mkF m 27 #[.val (.long ja), .second, .val (.long jb), .second, .val (.long jc), .second, .val (.int k), .val (.int (3 : Int32)), .val (.long xa), .second, .val (.long xb), .second, .val (.long xc), .second, .unset, .unset, .unset, .unset, .unset, .unset, .unset, .unset, .unset, .unset, .unset, .unset] [(.ref r_1)])) _
    refine XS.astore X1.here hx rfl (hb hby at_27) rfl rfl (l' := #[.val (.long ja), .second, .val (.long jb), .second, .val (.long jc), .second, .val (.int k), .val (.int (3 : Int32)), .val (.long xa), .second, .val (.long xb), .second, .val (.long xc), .second, .val (.ref r_1), .unset, .unset, .unset, .unset, .unset, .unset, .unset, .unset, .unset, .unset, .unset]) rfl ?_
    show Steps p.tables e below (T1.setTop (mkF m 29 #[.val (.long ja), .second, .val (.long jb), .second, .val (.long jc), .second, .val (.int k), .val (.int (3 : Int32)), .val (.long xa), .second, .val (.long xb), .second, .val (.long xc), .second, .val (.ref r_1), .unset, .unset, .unset, .unset, .unset, .unset, .unset, .unset, .unset, .unset, .unset] [])) _
    refine XS.lload X1.here hx rfl (hb hby at_29) rfl ?_
    show Steps p.tables e below (T1.setTop (mkF m 31 #[.val (.long ja), .second, .val (.long jb), .second, .val (.long jc), .second, .val (.int k), .val (.int (3 : Int32)), .val (.long xa), .second, .val (.long xb), .second, .val (.long xc), .second, .val (.ref r_1), .unset, .unset, .unset, .unset, .unset, .unset, .unset, .unset, .unset, .unset, .unset] [(.long xb)])) _
    refine st2 _ ?_
    show Steps p.tables e below (T2.setTop (mkF m 34 #[.val (.long ja), .second, .val (.long jb), .second, .val (.long jc), .second, .val (.int k), .val (.int (3 : Int32)), .val (.long xa), .second, .val (.long xb), .second, .val (.long xc), .second, .val (.ref r_1), .unset, .unset, .unset, .unset, .unset, .unset, .unset, .unset, .unset, .unset, .unset] [(.ref r_2)])) _
    refine XS.astore X2.here hx rfl (hb hby at_34) rfl rfl (l' := #[.val (.long ja), .second, .val (.long jb), .second, .val (.long jc), .second, .val (.int k), .val (.int (3 : Int32)), .val (.long xa), .second, .val (.long xb), .second, .val (.long xc), .second, .val (.ref r_1), .val (.ref r_2), .unset, .unset, .unset, .unset, .unset, .unset, .unset, .unset, .unset, .unset]) rfl ?_
    show Steps p.tables e below (T2.setTop (mkF m 36 #[.val (.long ja), .second, .val (.long jb), .second, .val (.long jc), .second, .val (.int k), .val (.int (3 : Int32)), .val (.long xa), .second, .val (.long xb), .second, .val (.long xc), .second, .val (.ref r_1), .val (.ref r_2), .unset, .unset, .unset, .unset, .unset, .unset, .unset, .unset, .unset, .unset] [])) _
    refine XS.lload X2.here hx rfl (hb hby at_36) rfl ?_
    show Steps p.tables e below (T2.setTop (mkF m 38 #[.val (.long ja), .second, .val (.long jb), .second, .val (.long jc), .second, .val (.int k), .val (.int (3 : Int32)), .val (.long xa), .second, .val (.long xb), .second, .val (.long xc), .second, .val (.ref r_1), .val (.ref r_2), .unset, .unset, .unset, .unset, .unset, .unset, .unset, .unset, .unset, .unset] [(.long xc)])) _
    refine st3 _ ?_
    show Steps p.tables e below (T3.setTop (mkF m 41 #[.val (.long ja), .second, .val (.long jb), .second, .val (.long jc), .second, .val (.int k), .val (.int (3 : Int32)), .val (.long xa), .second, .val (.long xb), .second, .val (.long xc), .second, .val (.ref r_1), .val (.ref r_2), .unset, .unset, .unset, .unset, .unset, .unset, .unset, .unset, .unset, .unset] [(.ref r_3)])) _
    refine XS.astore X3.here hx rfl (hb hby at_41) rfl rfl (l' := #[.val (.long ja), .second, .val (.long jb), .second, .val (.long jc), .second, .val (.int k), .val (.int (3 : Int32)), .val (.long xa), .second, .val (.long xb), .second, .val (.long xc), .second, .val (.ref r_1), .val (.ref r_2), .val (.ref r_3), .unset, .unset, .unset, .unset, .unset, .unset, .unset, .unset, .unset]) rfl ?_
    show Steps p.tables e below (T3.setTop (mkF m 43 #[.val (.long ja), .second, .val (.long jb), .second, .val (.long jc), .second, .val (.int k), .val (.int (3 : Int32)), .val (.long xa), .second, .val (.long xb), .second, .val (.long xc), .second, .val (.ref r_1), .val (.ref r_2), .val (.ref r_3), .unset, .unset, .unset, .unset, .unset, .unset, .unset, .unset, .unset] [])) _
    refine st4 _ ?_
    show Steps p.tables e below (T4.setTop (mkF m 46 #[.val (.long ja), .second, .val (.long jb), .second, .val (.long jc), .second, .val (.int k), .val (.int (3 : Int32)), .val (.long xa), .second, .val (.long xb), .second, .val (.long xc), .second, .val (.ref r_1), .val (.ref r_2), .val (.ref r_3), .unset, .unset, .unset, .unset, .unset, .unset, .unset, .unset, .unset] [(.ref b4)])) _
    refine XS.dup X4.here hx rfl (hb hby at_46) rfl rfl ?_
    show Steps p.tables e below (T4.setTop (mkF m 47 #[.val (.long ja), .second, .val (.long jb), .second, .val (.long jc), .second, .val (.int k), .val (.int (3 : Int32)), .val (.long xa), .second, .val (.long xb), .second, .val (.long xc), .second, .val (.ref r_1), .val (.ref r_2), .val (.ref r_3), .unset, .unset, .unset, .unset, .unset, .unset, .unset, .unset, .unset] [(.ref b4), (.ref b4)])) _
    refine st5.trans ?_
    show Steps p.tables e below (T5.setTop (mkF m 50 #[.val (.long ja), .second, .val (.long jb), .second, .val (.long jc), .second, .val (.int k), .val (.int (3 : Int32)), .val (.long xa), .second, .val (.long xb), .second, .val (.long xc), .second, .val (.ref r_1), .val (.ref r_2), .val (.ref r_3), .unset, .unset, .unset, .unset, .unset, .unset, .unset, .unset, .unset] [(.ref b4)])) _
    refine XS.astore X5.here hx rfl (hb hby at_50) rfl rfl (l' := #[.val (.long ja), .second, .val (.long jb), .second, .val (.long jc), .second, .val (.int k), .val (.int (3 : Int32)), .val (.long xa), .second, .val (.long xb), .second, .val (.long xc), .second, .val (.ref r_1), .val (.ref r_2), .val (.ref r_3), .val (.ref b4), .unset, .unset, .unset, .unset, .unset, .unset, .unset, .unset]) rfl ?_
    show Steps p.tables e below (T5.setTop (mkF m 52 #[.val (.long ja), .second, .val (.long jb), .second, .val (.long jc), .second, .val (.int k), .val (.int (3 : Int32)), .val (.long xa), .second, .val (.long xb), .second, .val (.long xc), .second, .val (.ref r_1), .val (.ref r_2), .val (.ref r_3), .val (.ref b4), .unset, .unset, .unset, .unset, .unset, .unset, .unset, .unset] [])) _
    refine XS.iload X5.here hx rfl (hb hby at_52) rfl ?_
    show Steps p.tables e below (T5.setTop (mkF m 54 #[.val (.long ja), .second, .val (.long jb), .second, .val (.long jc), .second, .val (.int k), .val (.int (3 : Int32)), .val (.long xa), .second, .val (.long xb), .second, .val (.long xc), .second, .val (.ref r_1), .val (.ref r_2), .val (.ref r_3), .val (.ref b4), .unset, .unset, .unset, .unset, .unset, .unset, .unset, .unset] [(.int (3 : Int32))])) _
    refine XS.iconst X5.here hx rfl (hb hby at_54) ?_
    show Steps p.tables e below (T5.setTop (mkF m 55 #[.val (.long ja), .second, .val (.long jb), .second, .val (.long jc), .second, .val (.int k), .val (.int (3 : Int32)), .val (.long xa), .second, .val (.long xb), .second, .val (.long xc), .second, .val (.ref r_1), .val (.ref r_2), .val (.ref r_3), .val (.ref b4), .unset, .unset, .unset, .unset, .unset, .unset, .unset, .unset] [(.int (1 : Int32)), (.int (3 : Int32))])) _
    refine XS.icmpNo X5.here hx rfl (hb hby at_55) rfl (flt (by decide : ¬ ((3 : Int32) < (1 : Int32)))).1 ?_
    show Steps p.tables e below (T5.setTop (mkF m 58 #[.val (.long ja), .second, .val (.long jb), .second, .val (.long jc), .second, .val (.int k), .val (.int (3 : Int32)), .val (.long xa), .second, .val (.long xb), .second, .val (.long xc), .second, .val (.ref r_1), .val (.ref r_2), .val (.ref r_3), .val (.ref b4), .unset, .unset, .unset, .unset, .unset, .unset, .unset, .unset] [])) _
    refine XS.aload X5.here hx rfl (hb hby at_58) rfl rfl ?_
    show Steps p.tables e below (T5.setTop (mkF m 60 #[.val (.long ja), .second, .val (.long jb), .second, .val (.long jc), .second, .val (.int k), .val (.int (3 : Int32)), .val (.long xa), .second, .val (.long xb), .second, .val (.long xc), .second, .val (.ref r_1), .val (.ref r_2), .val (.ref r_3), .val (.ref b4), .unset, .unset, .unset, .unset, .unset, .unset, .unset, .unset] [(.ref b4)])) _
    refine XS.aload X5.here hx rfl (hb hby at_60) rfl rfl ?_
    show Steps p.tables e below (T5.setTop (mkF m 62 #[.val (.long ja), .second, .val (.long jb), .second, .val (.long jc), .second, .val (.int k), .val (.int (3 : Int32)), .val (.long xa), .second, .val (.long xb), .second, .val (.long xc), .second, .val (.ref r_1), .val (.ref r_2), .val (.ref r_3), .val (.ref b4), .unset, .unset, .unset, .unset, .unset, .unset, .unset, .unset] [(.ref r_1), (.ref b4)])) _
    refine st8.trans ?_
    show Steps p.tables e below (T8.setTop (mkF m 65 #[.val (.long ja), .second, .val (.long jb), .second, .val (.long jc), .second, .val (.int k), .val (.int (3 : Int32)), .val (.long xa), .second, .val (.long xb), .second, .val (.long xc), .second, .val (.ref r_1), .val (.ref r_2), .val (.ref r_3), .val (.ref b4), .unset, .unset, .unset, .unset, .unset, .unset, .unset, .unset] [])) _
    refine XS.iload X8.here hx rfl (hb hby at_65) rfl ?_
    show Steps p.tables e below (T8.setTop (mkF m 67 #[.val (.long ja), .second, .val (.long jb), .second, .val (.long jc), .second, .val (.int k), .val (.int (3 : Int32)), .val (.long xa), .second, .val (.long xb), .second, .val (.long xc), .second, .val (.ref r_1), .val (.ref r_2), .val (.ref r_3), .val (.ref b4), .unset, .unset, .unset, .unset, .unset, .unset, .unset, .unset] [(.int (3 : Int32))])) _
    refine XS.iconst X8.here hx rfl (hb hby at_67) ?_
    show Steps p.tables e below (T8.setTop (mkF m 68 #[.val (.long ja), .second, .val (.long jb), .second, .val (.long jc), .second, .val (.int k), .val (.int (3 : Int32)), .val (.long xa), .second, .val (.long xb), .second, .val (.long xc), .second, .val (.ref r_1), .val (.ref r_2), .val (.ref r_3), .val (.ref b4), .unset, .unset, .unset, .unset, .unset, .unset, .unset, .unset] [(.int (2 : Int32)), (.int (3 : Int32))])) _
    refine XS.icmpNo X8.here hx rfl (hb hby at_68) rfl (flt (by decide : ¬ ((3 : Int32) < (2 : Int32)))).1 ?_
    show Steps p.tables e below (T8.setTop (mkF m 71 #[.val (.long ja), .second, .val (.long jb), .second, .val (.long jc), .second, .val (.int k), .val (.int (3 : Int32)), .val (.long xa), .second, .val (.long xb), .second, .val (.long xc), .second, .val (.ref r_1), .val (.ref r_2), .val (.ref r_3), .val (.ref b4), .unset, .unset, .unset, .unset, .unset, .unset, .unset, .unset] [])) _
    refine XS.aload X8.here hx rfl (hb hby at_71) rfl rfl ?_
    show Steps p.tables e below (T8.setTop (mkF m 73 #[.val (.long ja), .second, .val (.long jb), .second, .val (.long jc), .second, .val (.int k), .val (.int (3 : Int32)), .val (.long xa), .second, .val (.long xb), .second, .val (.long xc), .second, .val (.ref r_1), .val (.ref r_2), .val (.ref r_3), .val (.ref b4), .unset, .unset, .unset, .unset, .unset, .unset, .unset, .unset] [(.ref b4)])) _
    refine XS.aload X8.here hx rfl (hb hby at_73) rfl rfl ?_
    show Steps p.tables e below (T8.setTop (mkF m 75 #[.val (.long ja), .second, .val (.long jb), .second, .val (.long jc), .second, .val (.int k), .val (.int (3 : Int32)), .val (.long xa), .second, .val (.long xb), .second, .val (.long xc), .second, .val (.ref r_1), .val (.ref r_2), .val (.ref r_3), .val (.ref b4), .unset, .unset, .unset, .unset, .unset, .unset, .unset, .unset] [(.ref r_2), (.ref b4)])) _
    refine st11.trans ?_
    show Steps p.tables e below (T11.setTop (mkF m 78 #[.val (.long ja), .second, .val (.long jb), .second, .val (.long jc), .second, .val (.int k), .val (.int (3 : Int32)), .val (.long xa), .second, .val (.long xb), .second, .val (.long xc), .second, .val (.ref r_1), .val (.ref r_2), .val (.ref r_3), .val (.ref b4), .unset, .unset, .unset, .unset, .unset, .unset, .unset, .unset] [])) _
    refine XS.iload X11.here hx rfl (hb hby at_78) rfl ?_
    show Steps p.tables e below (T11.setTop (mkF m 80 #[.val (.long ja), .second, .val (.long jb), .second, .val (.long jc), .second, .val (.int k), .val (.int (3 : Int32)), .val (.long xa), .second, .val (.long xb), .second, .val (.long xc), .second, .val (.ref r_1), .val (.ref r_2), .val (.ref r_3), .val (.ref b4), .unset, .unset, .unset, .unset, .unset, .unset, .unset, .unset] [(.int (3 : Int32))])) _
    refine XS.iconst X11.here hx rfl (hb hby at_80) ?_
    show Steps p.tables e below (T11.setTop (mkF m 81 #[.val (.long ja), .second, .val (.long jb), .second, .val (.long jc), .second, .val (.int k), .val (.int (3 : Int32)), .val (.long xa), .second, .val (.long xb), .second, .val (.long xc), .second, .val (.ref r_1), .val (.ref r_2), .val (.ref r_3), .val (.ref b4), .unset, .unset, .unset, .unset, .unset, .unset, .unset, .unset] [(.int (3 : Int32)), (.int (3 : Int32))])) _
    refine XS.icmpNo X11.here hx rfl (hb hby at_81) rfl (flt (by decide : ¬ ((3 : Int32) < (3 : Int32)))).1 ?_
    show Steps p.tables e below (T11.setTop (mkF m 84 #[.val (.long ja), .second, .val (.long jb), .second, .val (.long jc), .second, .val (.int k), .val (.int (3 : Int32)), .val (.long xa), .second, .val (.long xb), .second, .val (.long xc), .second, .val (.ref r_1), .val (.ref r_2), .val (.ref r_3), .val (.ref b4), .unset, .unset, .unset, .unset, .unset, .unset, .unset, .unset] [])) _
    refine XS.aload X11.here hx rfl (hb hby at_84) rfl rfl ?_
    show Steps p.tables e below (T11.setTop (mkF m 86 #[.val (.long ja), .second, .val (.long jb), .second, .val (.long jc), .second, .val (.int k), .val (.int (3 : Int32)), .val (.long xa), .second, .val (.long xb), .second, .val (.long xc), .second, .val (.ref r_1), .val (.ref r_2), .val (.ref r_3), .val (.ref b4), .unset, .unset, .unset, .unset, .unset, .unset, .unset, .unset] [(.ref b4)])) _
    refine XS.aload X11.here hx rfl (hb hby at_86) rfl rfl ?_
    show Steps p.tables e below (T11.setTop (mkF m 88 #[.val (.long ja), .second, .val (.long jb), .second, .val (.long jc), .second, .val (.int k), .val (.int (3 : Int32)), .val (.long xa), .second, .val (.long xb), .second, .val (.long xc), .second, .val (.ref r_1), .val (.ref r_2), .val (.ref r_3), .val (.ref b4), .unset, .unset, .unset, .unset, .unset, .unset, .unset, .unset] [(.ref r_3), (.ref b4)])) _
    refine st14.trans ?_
    show Steps p.tables e below (T14.setTop (mkF m 91 #[.val (.long ja), .second, .val (.long jb), .second, .val (.long jc), .second, .val (.int k), .val (.int (3 : Int32)), .val (.long xa), .second, .val (.long xb), .second, .val (.long xc), .second, .val (.ref r_1), .val (.ref r_2), .val (.ref r_3), .val (.ref b4), .unset, .unset, .unset, .unset, .unset, .unset, .unset, .unset] [])) _
    refine XS.aload X14.here hx rfl (hb hby at_91) rfl rfl ?_
    show Steps p.tables e below (T14.setTop (mkF m 93 #[.val (.long ja), .second, .val (.long jb), .second, .val (.long jc), .second, .val (.int k), .val (.int (3 : Int32)), .val (.long xa), .second, .val (.long xb), .second, .val (.long xc), .second, .val (.ref r_1), .val (.ref r_2), .val (.ref r_3), .val (.ref b4), .unset, .unset, .unset, .unset, .unset, .unset, .unset, .unset] [(.ref b4)])) _
    refine st15.trans ?_
    show Steps p.tables e below (T15.setTop (mkF m 96 #[.val (.long ja), .second, .val (.long jb), .second, .val (.long jc), .second, .val (.int k), .val (.int (3 : Int32)), .val (.long xa), .second, .val (.long xb), .second, .val (.long xc), .second, .val (.ref r_1), .val (.ref r_2), .val (.ref r_3), .val (.ref b4), .unset, .unset, .unset, .unset, .unset, .unset, .unset, .unset] [(.ref r_15)])) _
    refine st16.trans ?_
    show Steps p.tables e below (T16.setTop (mkF m 99 #[.val (.long ja), .second, .val (.long jb), .second, .val (.long jc), .second, .val (.int k), .val (.int (3 : Int32)), .val (.long xa), .second, .val (.long xb), .second, .val (.long xc), .second, .val (.ref r_1), .val (.ref r_2), .val (.ref r_3), .val (.ref b4), .unset, .unset, .unset, .unset, .unset, .unset, .unset, .unset] [(.long (maxJ (1000000 : Int64) (((((0 : Int64) + (maxJ (0 : Int64) xa)) + (maxJ (0 : Int64) xb)) + (maxJ (0 : Int64) xc)) / ((3 : Int32).toInt64))))])) _
    refine XS.lstore X16.here hx rfl (hb hby at_99) rfl (l' := #[.val (.long ja), .second, .val (.long jb), .second, .val (.long jc), .second, .val (.int k), .val (.int (3 : Int32)), .val (.long xa), .second, .val (.long xb), .second, .val (.long xc), .second, .val (.ref r_1), .val (.ref r_2), .val (.ref r_3), .val (.ref b4), .val (.long (maxJ (1000000 : Int64) (((((0 : Int64) + (maxJ (0 : Int64) xa)) + (maxJ (0 : Int64) xb)) + (maxJ (0 : Int64) xc)) / ((3 : Int32).toInt64)))), .second, .unset, .unset, .unset, .unset, .unset, .unset]) rfl ?_
    show Steps p.tables e below (T16.setTop (mkF m 101 #[.val (.long ja), .second, .val (.long jb), .second, .val (.long jc), .second, .val (.int k), .val (.int (3 : Int32)), .val (.long xa), .second, .val (.long xb), .second, .val (.long xc), .second, .val (.ref r_1), .val (.ref r_2), .val (.ref r_3), .val (.ref b4), .val (.long (maxJ (1000000 : Int64) (((((0 : Int64) + (maxJ (0 : Int64) xa)) + (maxJ (0 : Int64) xb)) + (maxJ (0 : Int64) xc)) / ((3 : Int32).toInt64)))), .second, .unset, .unset, .unset, .unset, .unset, .unset] [])) _
    refine XS.iload X16.here hx rfl (hb hby at_101) rfl ?_
    show Steps p.tables e below (T16.setTop (mkF m 103 #[.val (.long ja), .second, .val (.long jb), .second, .val (.long jc), .second, .val (.int k), .val (.int (3 : Int32)), .val (.long xa), .second, .val (.long xb), .second, .val (.long xc), .second, .val (.ref r_1), .val (.ref r_2), .val (.ref r_3), .val (.ref b4), .val (.long (maxJ (1000000 : Int64) (((((0 : Int64) + (maxJ (0 : Int64) xa)) + (maxJ (0 : Int64) xb)) + (maxJ (0 : Int64) xc)) / ((3 : Int32).toInt64)))), .second, .unset, .unset, .unset, .unset, .unset, .unset] [(.int (3 : Int32))])) _
    refine XS.ifYes X16.here hx rfl (pc0 := 103) (pc' := 114) rfl (hb hby at_103) rfl ((if0 _ _).trans (feq (by decide : ¬ ((3 : Int32) = (0 : Int32)))).2) (by decide) (by decide) ?_
    show Steps p.tables e below (T16.setTop (mkF m 114 #[.val (.long ja), .second, .val (.long jb), .second, .val (.long jc), .second, .val (.int k), .val (.int (3 : Int32)), .val (.long xa), .second, .val (.long xb), .second, .val (.long xc), .second, .val (.ref r_1), .val (.ref r_2), .val (.ref r_3), .val (.ref b4), .val (.long (maxJ (1000000 : Int64) (((((0 : Int64) + (maxJ (0 : Int64) xa)) + (maxJ (0 : Int64) xb)) + (maxJ (0 : Int64) xc)) / ((3 : Int32).toInt64)))), .second, .unset, .unset, .unset, .unset, .unset, .unset] [])) _
    refine XS.lload X16.here hx rfl (hb hby at_114) rfl ?_
    show Steps p.tables e below (T16.setTop (mkF m 116 #[.val (.long ja), .second, .val (.long jb), .second, .val (.long jc), .second, .val (.int k), .val (.int (3 : Int32)), .val (.long xa), .second, .val (.long xb), .second, .val (.long xc), .second, .val (.ref r_1), .val (.ref r_2), .val (.ref r_3), .val (.ref b4), .val (.long (maxJ (1000000 : Int64) (((((0 : Int64) + (maxJ (0 : Int64) xa)) + (maxJ (0 : Int64) xb)) + (maxJ (0 : Int64) xc)) / ((3 : Int32).toInt64)))), .second, .unset, .unset, .unset, .unset, .unset, .unset] [(.long xa)])) _
    refine st17 _ ?_
    show Steps p.tables e below (T17.setTop (mkF m 119 #[.val (.long ja), .second, .val (.long jb), .second, .val (.long jc), .second, .val (.int k), .val (.int (3 : Int32)), .val (.long xa), .second, .val (.long xb), .second, .val (.long xc), .second, .val (.ref r_1), .val (.ref r_2), .val (.ref r_3), .val (.ref b4), .val (.long (maxJ (1000000 : Int64) (((((0 : Int64) + (maxJ (0 : Int64) xa)) + (maxJ (0 : Int64) xb)) + (maxJ (0 : Int64) xc)) / ((3 : Int32).toInt64)))), .second, .unset, .unset, .unset, .unset, .unset, .unset] [(.long (clampJ xa))])) _
    refine XS.lstore X17.here hx rfl (hb hby at_119) rfl (l' := #[.val (.long ja), .second, .val (.long jb), .second, .val (.long jc), .second, .val (.int k), .val (.int (3 : Int32)), .val (.long xa), .second, .val (.long xb), .second, .val (.long xc), .second, .val (.ref r_1), .val (.ref r_2), .val (.ref r_3), .val (.ref b4), .val (.long (maxJ (1000000 : Int64) (((((0 : Int64) + (maxJ (0 : Int64) xa)) + (maxJ (0 : Int64) xb)) + (maxJ (0 : Int64) xc)) / ((3 : Int32).toInt64)))), .second, .unset, .unset, .val (.long (clampJ xa)), .second, .unset, .unset]) rfl ?_
    show Steps p.tables e below (T17.setTop (mkF m 121 #[.val (.long ja), .second, .val (.long jb), .second, .val (.long jc), .second, .val (.int k), .val (.int (3 : Int32)), .val (.long xa), .second, .val (.long xb), .second, .val (.long xc), .second, .val (.ref r_1), .val (.ref r_2), .val (.ref r_3), .val (.ref b4), .val (.long (maxJ (1000000 : Int64) (((((0 : Int64) + (maxJ (0 : Int64) xa)) + (maxJ (0 : Int64) xb)) + (maxJ (0 : Int64) xc)) / ((3 : Int32).toInt64)))), .second, .unset, .unset, .val (.long (clampJ xa)), .second, .unset, .unset] [])) _
    refine XS.iload X17.here hx rfl (hb hby at_121) rfl ?_
    show Steps p.tables e below (T17.setTop (mkF m 123 #[.val (.long ja), .second, .val (.long jb), .second, .val (.long jc), .second, .val (.int k), .val (.int (3 : Int32)), .val (.long xa), .second, .val (.long xb), .second, .val (.long xc), .second, .val (.ref r_1), .val (.ref r_2), .val (.ref r_3), .val (.ref b4), .val (.long (maxJ (1000000 : Int64) (((((0 : Int64) + (maxJ (0 : Int64) xa)) + (maxJ (0 : Int64) xb)) + (maxJ (0 : Int64) xc)) / ((3 : Int32).toInt64)))), .second, .unset, .unset, .val (.long (clampJ xa)), .second, .unset, .unset] [(.int (3 : Int32))])) _
    refine XS.iconst X17.here hx rfl (hb hby at_123) ?_
    show Steps p.tables e below (T17.setTop (mkF m 124 #[.val (.long ja), .second, .val (.long jb), .second, .val (.long jc), .second, .val (.int k), .val (.int (3 : Int32)), .val (.long xa), .second, .val (.long xb), .second, .val (.long xc), .second, .val (.ref r_1), .val (.ref r_2), .val (.ref r_3), .val (.ref b4), .val (.long (maxJ (1000000 : Int64) (((((0 : Int64) + (maxJ (0 : Int64) xa)) + (maxJ (0 : Int64) xb)) + (maxJ (0 : Int64) xc)) / ((3 : Int32).toInt64)))), .second, .unset, .unset, .val (.long (clampJ xa)), .second, .unset, .unset] [(.int (2 : Int32)), (.int (3 : Int32))])) _
    refine XS.icmpNo X17.here hx rfl (hb hby at_124) rfl (flt (by decide : ¬ ((3 : Int32) < (2 : Int32)))).1 ?_
    show Steps p.tables e below (T17.setTop (mkF m 127 #[.val (.long ja), .second, .val (.long jb), .second, .val (.long jc), .second, .val (.int k), .val (.int (3 : Int32)), .val (.long xa), .second, .val (.long xb), .second, .val (.long xc), .second, .val (.ref r_1), .val (.ref r_2), .val (.ref r_3), .val (.ref b4), .val (.long (maxJ (1000000 : Int64) (((((0 : Int64) + (maxJ (0 : Int64) xa)) + (maxJ (0 : Int64) xb)) + (maxJ (0 : Int64) xc)) / ((3 : Int32).toInt64)))), .second, .unset, .unset, .val (.long (clampJ xa)), .second, .unset, .unset] [])) _
    refine XS.lload X17.here hx rfl (hb hby at_127) rfl ?_
    show Steps p.tables e below (T17.setTop (mkF m 129 #[.val (.long ja), .second, .val (.long jb), .second, .val (.long jc), .second, .val (.int k), .val (.int (3 : Int32)), .val (.long xa), .second, .val (.long xb), .second, .val (.long xc), .second, .val (.ref r_1), .val (.ref r_2), .val (.ref r_3), .val (.ref b4), .val (.long (maxJ (1000000 : Int64) (((((0 : Int64) + (maxJ (0 : Int64) xa)) + (maxJ (0 : Int64) xb)) + (maxJ (0 : Int64) xc)) / ((3 : Int32).toInt64)))), .second, .unset, .unset, .val (.long (clampJ xa)), .second, .unset, .unset] [(.long (clampJ xa))])) _
    refine XS.lload X17.here hx rfl (hb hby at_129) rfl ?_
    show Steps p.tables e below (T17.setTop (mkF m 131 #[.val (.long ja), .second, .val (.long jb), .second, .val (.long jc), .second, .val (.int k), .val (.int (3 : Int32)), .val (.long xa), .second, .val (.long xb), .second, .val (.long xc), .second, .val (.ref r_1), .val (.ref r_2), .val (.ref r_3), .val (.ref b4), .val (.long (maxJ (1000000 : Int64) (((((0 : Int64) + (maxJ (0 : Int64) xa)) + (maxJ (0 : Int64) xb)) + (maxJ (0 : Int64) xc)) / ((3 : Int32).toInt64)))), .second, .unset, .unset, .val (.long (clampJ xa)), .second, .unset, .unset] [(.long xb), (.long (clampJ xa))])) _
    refine st18 _ ?_
    show Steps p.tables e below (T18.setTop (mkF m 134 #[.val (.long ja), .second, .val (.long jb), .second, .val (.long jc), .second, .val (.int k), .val (.int (3 : Int32)), .val (.long xa), .second, .val (.long xb), .second, .val (.long xc), .second, .val (.ref r_1), .val (.ref r_2), .val (.ref r_3), .val (.ref b4), .val (.long (maxJ (1000000 : Int64) (((((0 : Int64) + (maxJ (0 : Int64) xa)) + (maxJ (0 : Int64) xb)) + (maxJ (0 : Int64) xc)) / ((3 : Int32).toInt64)))), .second, .unset, .unset, .val (.long (clampJ xa)), .second, .unset, .unset] [(.long (clampJ xb)), (.long (clampJ xa))])) _
    refine XS.ladd X18.here hx rfl (hb hby at_134) rfl ?_
    show Steps p.tables e below (T18.setTop (mkF m 135 #[.val (.long ja), .second, .val (.long jb), .second, .val (.long jc), .second, .val (.int k), .val (.int (3 : Int32)), .val (.long xa), .second, .val (.long xb), .second, .val (.long xc), .second, .val (.ref r_1), .val (.ref r_2), .val (.ref r_3), .val (.ref b4), .val (.long (maxJ (1000000 : Int64) (((((0 : Int64) + (maxJ (0 : Int64) xa)) + (maxJ (0 : Int64) xb)) + (maxJ (0 : Int64) xc)) / ((3 : Int32).toInt64)))), .second, .unset, .unset, .val (.long (clampJ xa)), .second, .unset, .unset] [(.long ((clampJ xa) + (clampJ xb)))])) _
    refine XS.lstore X18.here hx rfl (hb hby at_135) rfl (l' := #[.val (.long ja), .second, .val (.long jb), .second, .val (.long jc), .second, .val (.int k), .val (.int (3 : Int32)), .val (.long xa), .second, .val (.long xb), .second, .val (.long xc), .second, .val (.ref r_1), .val (.ref r_2), .val (.ref r_3), .val (.ref b4), .val (.long (maxJ (1000000 : Int64) (((((0 : Int64) + (maxJ (0 : Int64) xa)) + (maxJ (0 : Int64) xb)) + (maxJ (0 : Int64) xc)) / ((3 : Int32).toInt64)))), .second, .unset, .unset, .val (.long ((clampJ xa) + (clampJ xb))), .second, .unset, .unset]) rfl ?_
    show Steps p.tables e below (T18.setTop (mkF m 137 #[.val (.long ja), .second, .val (.long jb), .second, .val (.long jc), .second, .val (.int k), .val (.int (3 : Int32)), .val (.long xa), .second, .val (.long xb), .second, .val (.long xc), .second, .val (.ref r_1), .val (.ref r_2), .val (.ref r_3), .val (.ref b4), .val (.long (maxJ (1000000 : Int64) (((((0 : Int64) + (maxJ (0 : Int64) xa)) + (maxJ (0 : Int64) xb)) + (maxJ (0 : Int64) xc)) / ((3 : Int32).toInt64)))), .second, .unset, .unset, .val (.long ((clampJ xa) + (clampJ xb))), .second, .unset, .unset] [])) _
    refine XS.iload X18.here hx rfl (hb hby at_137) rfl ?_
    show Steps p.tables e below (T18.setTop (mkF m 139 #[.val (.long ja), .second, .val (.long jb), .second, .val (.long jc), .second, .val (.int k), .val (.int (3 : Int32)), .val (.long xa), .second, .val (.long xb), .second, .val (.long xc), .second, .val (.ref r_1), .val (.ref r_2), .val (.ref r_3), .val (.ref b4), .val (.long (maxJ (1000000 : Int64) (((((0 : Int64) + (maxJ (0 : Int64) xa)) + (maxJ (0 : Int64) xb)) + (maxJ (0 : Int64) xc)) / ((3 : Int32).toInt64)))), .second, .unset, .unset, .val (.long ((clampJ xa) + (clampJ xb))), .second, .unset, .unset] [(.int (3 : Int32))])) _
    refine XS.iconst X18.here hx rfl (hb hby at_139) ?_
    show Steps p.tables e below (T18.setTop (mkF m 140 #[.val (.long ja), .second, .val (.long jb), .second, .val (.long jc), .second, .val (.int k), .val (.int (3 : Int32)), .val (.long xa), .second, .val (.long xb), .second, .val (.long xc), .second, .val (.ref r_1), .val (.ref r_2), .val (.ref r_3), .val (.ref b4), .val (.long (maxJ (1000000 : Int64) (((((0 : Int64) + (maxJ (0 : Int64) xa)) + (maxJ (0 : Int64) xb)) + (maxJ (0 : Int64) xc)) / ((3 : Int32).toInt64)))), .second, .unset, .unset, .val (.long ((clampJ xa) + (clampJ xb))), .second, .unset, .unset] [(.int (3 : Int32)), (.int (3 : Int32))])) _
    refine XS.icmpNo X18.here hx rfl (hb hby at_140) rfl (flt (by decide : ¬ ((3 : Int32) < (3 : Int32)))).1 ?_
    show Steps p.tables e below (T18.setTop (mkF m 143 #[.val (.long ja), .second, .val (.long jb), .second, .val (.long jc), .second, .val (.int k), .val (.int (3 : Int32)), .val (.long xa), .second, .val (.long xb), .second, .val (.long xc), .second, .val (.ref r_1), .val (.ref r_2), .val (.ref r_3), .val (.ref b4), .val (.long (maxJ (1000000 : Int64) (((((0 : Int64) + (maxJ (0 : Int64) xa)) + (maxJ (0 : Int64) xb)) + (maxJ (0 : Int64) xc)) / ((3 : Int32).toInt64)))), .second, .unset, .unset, .val (.long ((clampJ xa) + (clampJ xb))), .second, .unset, .unset] [])) _
    refine XS.lload X18.here hx rfl (hb hby at_143) rfl ?_
    show Steps p.tables e below (T18.setTop (mkF m 145 #[.val (.long ja), .second, .val (.long jb), .second, .val (.long jc), .second, .val (.int k), .val (.int (3 : Int32)), .val (.long xa), .second, .val (.long xb), .second, .val (.long xc), .second, .val (.ref r_1), .val (.ref r_2), .val (.ref r_3), .val (.ref b4), .val (.long (maxJ (1000000 : Int64) (((((0 : Int64) + (maxJ (0 : Int64) xa)) + (maxJ (0 : Int64) xb)) + (maxJ (0 : Int64) xc)) / ((3 : Int32).toInt64)))), .second, .unset, .unset, .val (.long ((clampJ xa) + (clampJ xb))), .second, .unset, .unset] [(.long ((clampJ xa) + (clampJ xb)))])) _
    refine XS.lload X18.here hx rfl (hb hby at_145) rfl ?_
    show Steps p.tables e below (T18.setTop (mkF m 147 #[.val (.long ja), .second, .val (.long jb), .second, .val (.long jc), .second, .val (.int k), .val (.int (3 : Int32)), .val (.long xa), .second, .val (.long xb), .second, .val (.long xc), .second, .val (.ref r_1), .val (.ref r_2), .val (.ref r_3), .val (.ref b4), .val (.long (maxJ (1000000 : Int64) (((((0 : Int64) + (maxJ (0 : Int64) xa)) + (maxJ (0 : Int64) xb)) + (maxJ (0 : Int64) xc)) / ((3 : Int32).toInt64)))), .second, .unset, .unset, .val (.long ((clampJ xa) + (clampJ xb))), .second, .unset, .unset] [(.long xc), (.long ((clampJ xa) + (clampJ xb)))])) _
    refine st19 _ ?_
    show Steps p.tables e below (T19.setTop (mkF m 150 #[.val (.long ja), .second, .val (.long jb), .second, .val (.long jc), .second, .val (.int k), .val (.int (3 : Int32)), .val (.long xa), .second, .val (.long xb), .second, .val (.long xc), .second, .val (.ref r_1), .val (.ref r_2), .val (.ref r_3), .val (.ref b4), .val (.long (maxJ (1000000 : Int64) (((((0 : Int64) + (maxJ (0 : Int64) xa)) + (maxJ (0 : Int64) xb)) + (maxJ (0 : Int64) xc)) / ((3 : Int32).toInt64)))), .second, .unset, .unset, .val (.long ((clampJ xa) + (clampJ xb))), .second, .unset, .unset] [(.long (clampJ xc)), (.long ((clampJ xa) + (clampJ xb)))])) _
    refine XS.ladd X19.here hx rfl (hb hby at_150) rfl ?_
    show Steps p.tables e below (T19.setTop (mkF m 151 #[.val (.long ja), .second, .val (.long jb), .second, .val (.long jc), .second, .val (.int k), .val (.int (3 : Int32)), .val (.long xa), .second, .val (.long xb), .second, .val (.long xc), .second, .val (.ref r_1), .val (.ref r_2), .val (.ref r_3), .val (.ref b4), .val (.long (maxJ (1000000 : Int64) (((((0 : Int64) + (maxJ (0 : Int64) xa)) + (maxJ (0 : Int64) xb)) + (maxJ (0 : Int64) xc)) / ((3 : Int32).toInt64)))), .second, .unset, .unset, .val (.long ((clampJ xa) + (clampJ xb))), .second, .unset, .unset] [(.long (((clampJ xa) + (clampJ xb)) + (clampJ xc)))])) _
    refine XS.lstore X19.here hx rfl (hb hby at_151) rfl (l' := #[.val (.long ja), .second, .val (.long jb), .second, .val (.long jc), .second, .val (.int k), .val (.int (3 : Int32)), .val (.long xa), .second, .val (.long xb), .second, .val (.long xc), .second, .val (.ref r_1), .val (.ref r_2), .val (.ref r_3), .val (.ref b4), .val (.long (maxJ (1000000 : Int64) (((((0 : Int64) + (maxJ (0 : Int64) xa)) + (maxJ (0 : Int64) xb)) + (maxJ (0 : Int64) xc)) / ((3 : Int32).toInt64)))), .second, .unset, .unset, .val (.long (((clampJ xa) + (clampJ xb)) + (clampJ xc))), .second, .unset, .unset]) rfl ?_
    show Steps p.tables e below (T19.setTop (mkF m 153 #[.val (.long ja), .second, .val (.long jb), .second, .val (.long jc), .second, .val (.int k), .val (.int (3 : Int32)), .val (.long xa), .second, .val (.long xb), .second, .val (.long xc), .second, .val (.ref r_1), .val (.ref r_2), .val (.ref r_3), .val (.ref b4), .val (.long (maxJ (1000000 : Int64) (((((0 : Int64) + (maxJ (0 : Int64) xa)) + (maxJ (0 : Int64) xb)) + (maxJ (0 : Int64) xc)) / ((3 : Int32).toInt64)))), .second, .unset, .unset, .val (.long (((clampJ xa) + (clampJ xb)) + (clampJ xc))), .second, .unset, .unset] [])) _
    refine XS.lload X19.here hx rfl (hb hby at_153) rfl ?_
    show Steps p.tables e below (T19.setTop (mkF m 155 #[.val (.long ja), .second, .val (.long jb), .second, .val (.long jc), .second, .val (.int k), .val (.int (3 : Int32)), .val (.long xa), .second, .val (.long xb), .second, .val (.long xc), .second, .val (.ref r_1), .val (.ref r_2), .val (.ref r_3), .val (.ref b4), .val (.long (maxJ (1000000 : Int64) (((((0 : Int64) + (maxJ (0 : Int64) xa)) + (maxJ (0 : Int64) xb)) + (maxJ (0 : Int64) xc)) / ((3 : Int32).toInt64)))), .second, .unset, .unset, .val (.long (((clampJ xa) + (clampJ xb)) + (clampJ xc))), .second, .unset, .unset] [(.long (((clampJ xa) + (clampJ xb)) + (clampJ xc)))])) _
    refine XS.iload X19.here hx rfl (hb hby at_155) rfl ?_
    show Steps p.tables e below (T19.setTop (mkF m 157 #[.val (.long ja), .second, .val (.long jb), .second, .val (.long jc), .second, .val (.int k), .val (.int (3 : Int32)), .val (.long xa), .second, .val (.long xb), .second, .val (.long xc), .second, .val (.ref r_1), .val (.ref r_2), .val (.ref r_3), .val (.ref b4), .val (.long (maxJ (1000000 : Int64) (((((0 : Int64) + (maxJ (0 : Int64) xa)) + (maxJ (0 : Int64) xb)) + (maxJ (0 : Int64) xc)) / ((3 : Int32).toInt64)))), .second, .unset, .unset, .val (.long (((clampJ xa) + (clampJ xb)) + (clampJ xc))), .second, .unset, .unset] [(.int (3 : Int32)), (.long (((clampJ xa) + (clampJ xb)) + (clampJ xc)))])) _
    refine XS.i2l X19.here hx rfl (hb hby at_157) rfl ?_
    show Steps p.tables e below (T19.setTop (mkF m 158 #[.val (.long ja), .second, .val (.long jb), .second, .val (.long jc), .second, .val (.int k), .val (.int (3 : Int32)), .val (.long xa), .second, .val (.long xb), .second, .val (.long xc), .second, .val (.ref r_1), .val (.ref r_2), .val (.ref r_3), .val (.ref b4), .val (.long (maxJ (1000000 : Int64) (((((0 : Int64) + (maxJ (0 : Int64) xa)) + (maxJ (0 : Int64) xb)) + (maxJ (0 : Int64) xc)) / ((3 : Int32).toInt64)))), .second, .unset, .unset, .val (.long (((clampJ xa) + (clampJ xb)) + (clampJ xc))), .second, .unset, .unset] [(.long ((3 : Int32).toInt64)), (.long (((clampJ xa) + (clampJ xb)) + (clampJ xc)))])) _
    refine XS.ldiv X19.here hx rfl (hb hby at_158) rfl (by decide) ?_
    show Steps p.tables e below (T19.setTop (mkF m 159 #[.val (.long ja), .second, .val (.long jb), .second, .val (.long jc), .second, .val (.int k), .val (.int (3 : Int32)), .val (.long xa), .second, .val (.long xb), .second, .val (.long xc), .second, .val (.ref r_1), .val (.ref r_2), .val (.ref r_3), .val (.ref b4), .val (.long (maxJ (1000000 : Int64) (((((0 : Int64) + (maxJ (0 : Int64) xa)) + (maxJ (0 : Int64) xb)) + (maxJ (0 : Int64) xc)) / ((3 : Int32).toInt64)))), .second, .unset, .unset, .val (.long (((clampJ xa) + (clampJ xb)) + (clampJ xc))), .second, .unset, .unset] [(.long ((((clampJ xa) + (clampJ xb)) + (clampJ xc)) / ((3 : Int32).toInt64)))])) _
    refine XS.lstore X19.here hx rfl (hb hby at_159) rfl (l' := #[.val (.long ja), .second, .val (.long jb), .second, .val (.long jc), .second, .val (.int k), .val (.int (3 : Int32)), .val (.long xa), .second, .val (.long xb), .second, .val (.long xc), .second, .val (.ref r_1), .val (.ref r_2), .val (.ref r_3), .val (.ref b4), .val (.long (maxJ (1000000 : Int64) (((((0 : Int64) + (maxJ (0 : Int64) xa)) + (maxJ (0 : Int64) xb)) + (maxJ (0 : Int64) xc)) / ((3 : Int32).toInt64)))), .second, .unset, .unset, .val (.long (((clampJ xa) + (clampJ xb)) + (clampJ xc))), .second, .val (.long ((((clampJ xa) + (clampJ xb)) + (clampJ xc)) / ((3 : Int32).toInt64))), .second]) rfl ?_
    show Steps p.tables e below (T19.setTop (mkF m 161 #[.val (.long ja), .second, .val (.long jb), .second, .val (.long jc), .second, .val (.int k), .val (.int (3 : Int32)), .val (.long xa), .second, .val (.long xb), .second, .val (.long xc), .second, .val (.ref r_1), .val (.ref r_2), .val (.ref r_3), .val (.ref b4), .val (.long (maxJ (1000000 : Int64) (((((0 : Int64) + (maxJ (0 : Int64) xa)) + (maxJ (0 : Int64) xb)) + (maxJ (0 : Int64) xc)) / ((3 : Int32).toInt64)))), .second, .unset, .unset, .val (.long (((clampJ xa) + (clampJ xb)) + (clampJ xc))), .second, .val (.long ((((clampJ xa) + (clampJ xb)) + (clampJ xc)) / ((3 : Int32).toInt64))), .second] [])) _
    refine XS.lload X19.here hx rfl (hb hby at_161) rfl ?_
    show Steps p.tables e below (T19.setTop (mkF m 163 #[.val (.long ja), .second, .val (.long jb), .second, .val (.long jc), .second, .val (.int k), .val (.int (3 : Int32)), .val (.long xa), .second, .val (.long xb), .second, .val (.long xc), .second, .val (.ref r_1), .val (.ref r_2), .val (.ref r_3), .val (.ref b4), .val (.long (maxJ (1000000 : Int64) (((((0 : Int64) + (maxJ (0 : Int64) xa)) + (maxJ (0 : Int64) xb)) + (maxJ (0 : Int64) xc)) / ((3 : Int32).toInt64)))), .second, .unset, .unset, .val (.long (((clampJ xa) + (clampJ xb)) + (clampJ xc))), .second, .val (.long ((((clampJ xa) + (clampJ xb)) + (clampJ xc)) / ((3 : Int32).toInt64))), .second] [(.long ((((clampJ xa) + (clampJ xb)) + (clampJ xc)) / ((3 : Int32).toInt64)))])) _
    refine X19.ldc2Long hx hown (mvT hZ (hw _ (List.mem_of_getElem? (i := 75) rfl))) (g := (mkF m 163 #[.val (.long ja), .second, .val (.long jb), .second, .val (.long jc), .second, .val (.int k), .val (.int (3 : Int32)), .val (.long xa), .second, .val (.long xb), .second, .val (.long xc), .second, .val (.ref r_1), .val (.ref r_2), .val (.ref r_3), .val (.ref b4), .val (.long (maxJ (1000000 : Int64) (((((0 : Int64) + (maxJ (0 : Int64) xa)) + (maxJ (0 : Int64) xb)) + (maxJ (0 : Int64) xc)) / ((3 : Int32).toInt64)))), .second, .unset, .unset, .val (.long (((clampJ xa) + (clampJ xb)) + (clampJ xc))), .second, .val (.long ((((clampJ xa) + (clampJ xb)) + (clampJ xc)) / ((3 : Int32).toInt64))), .second] [(.long ((((clampJ xa) + (clampJ xb)) + (clampJ xc)) / ((3 : Int32).toInt64)))])) rfl (hb hby at_163) _ ?_
    show Steps p.tables e below (T19.setTop (mkF m 166 #[.val (.long ja), .second, .val (.long jb), .second, .val (.long jc), .second, .val (.int k), .val (.int (3 : Int32)), .val (.long xa), .second, .val (.long xb), .second, .val (.long xc), .second, .val (.ref r_1), .val (.ref r_2), .val (.ref r_3), .val (.ref b4), .val (.long (maxJ (1000000 : Int64) (((((0 : Int64) + (maxJ (0 : Int64) xa)) + (maxJ (0 : Int64) xb)) + (maxJ (0 : Int64) xc)) / ((3 : Int32).toInt64)))), .second, .unset, .unset, .val (.long (((clampJ xa) + (clampJ xb)) + (clampJ xc))), .second, .val (.long ((((clampJ xa) + (clampJ xb)) + (clampJ xc)) / ((3 : Int32).toInt64))), .second] [(.long (1000000 : Int64)), (.long ((((clampJ xa) + (clampJ xb)) + (clampJ xc)) / ((3 : Int32).toInt64)))])) _
    refine XS.lcmp X19.here hx rfl (hb hby at_166) rfl ?_
    show Steps p.tables e below (T19.setTop (mkF m 167 #[.val (.long ja), .second, .val (.long jb), .second, .val (.long jc), .second, .val (.int k), .val (.int (3 : Int32)), .val (.long xa), .second, .val (.long xb), .second, .val (.long xc), .second, .val (.ref r_1), .val (.ref r_2), .val (.ref r_3), .val (.ref b4), .val (.long (maxJ (1000000 : Int64) (((((0 : Int64) + (maxJ (0 : Int64) xa)) + (maxJ (0 : Int64) xb)) + (maxJ (0 : Int64) xc)) / ((3 : Int32).toInt64)))), .second, .unset, .unset, .val (.long (((clampJ xa) + (clampJ xb)) + (clampJ xc))), .second, .val (.long ((((clampJ xa) + (clampJ xb)) + (clampJ xc)) / ((3 : Int32).toInt64))), .second] [(.int (lcmpW ((((clampJ xa) + (clampJ xb)) + (clampJ xc)) / ((3 : Int32).toInt64)) (1000000 : Int64)))])) _
    refine XS.ifYes X19.here hx rfl (pc0 := 167) (pc' := 178) rfl (hb hby at_167) rfl ((if0 _ _).trans (flt (hc167 : ¬ ((lcmpW ((((clampJ xa) + (clampJ xb)) + (clampJ xc)) / ((3 : Int32).toInt64)) (1000000 : Int64)) < (0 : Int32)))).2.1) (by decide) (by decide) ?_
    show Steps p.tables e below (T19.setTop (mkF m 178 #[.val (.long ja), .second, .val (.long jb), .second, .val (.long jc), .second, .val (.int k), .val (.int (3 : Int32)), .val (.long xa), .second, .val (.long xb), .second, .val (.long xc), .second, .val (.ref r_1), .val (.ref r_2), .val (.ref r_3), .val (.ref b4), .val (.long (maxJ (1000000 : Int64) (((((0 : Int64) + (maxJ (0 : Int64) xa)) + (maxJ (0 : Int64) xb)) + (maxJ (0 : Int64) xc)) / ((3 : Int32).toInt64)))), .second, .unset, .unset, .val (.long (((clampJ xa) + (clampJ xb)) + (clampJ xc))), .second, .val (.long ((((clampJ xa) + (clampJ xb)) + (clampJ xc)) / ((3 : Int32).toInt64))), .second] [])) _
    refine XS.lload X19.here hx rfl (hb hby at_178) rfl ?_
    show Steps p.tables e below (T19.setTop (mkF m 180 #[.val (.long ja), .second, .val (.long jb), .second, .val (.long jc), .second, .val (.int k), .val (.int (3 : Int32)), .val (.long xa), .second, .val (.long xb), .second, .val (.long xc), .second, .val (.ref r_1), .val (.ref r_2), .val (.ref r_3), .val (.ref b4), .val (.long (maxJ (1000000 : Int64) (((((0 : Int64) + (maxJ (0 : Int64) xa)) + (maxJ (0 : Int64) xb)) + (maxJ (0 : Int64) xc)) / ((3 : Int32).toInt64)))), .second, .unset, .unset, .val (.long (((clampJ xa) + (clampJ xb)) + (clampJ xc))), .second, .val (.long ((((clampJ xa) + (clampJ xb)) + (clampJ xc)) / ((3 : Int32).toInt64))), .second] [(.long ((((clampJ xa) + (clampJ xb)) + (clampJ xc)) / ((3 : Int32).toInt64)))])) _
    refine XS.lstore X19.here hx rfl (hb hby at_180) rfl (l' := #[.val (.long ja), .second, .val (.long jb), .second, .val (.long jc), .second, .val (.int k), .val (.int (3 : Int32)), .val (.long xa), .second, .val (.long xb), .second, .val (.long xc), .second, .val (.ref r_1), .val (.ref r_2), .val (.ref r_3), .val (.ref b4), .val (.long (maxJ (1000000 : Int64) (((((0 : Int64) + (maxJ (0 : Int64) xa)) + (maxJ (0 : Int64) xb)) + (maxJ (0 : Int64) xc)) / ((3 : Int32).toInt64)))), .second, .val (.long ((((clampJ xa) + (clampJ xb)) + (clampJ xc)) / ((3 : Int32).toInt64))), .second, .val (.long (((clampJ xa) + (clampJ xb)) + (clampJ xc))), .second, .val (.long ((((clampJ xa) + (clampJ xb)) + (clampJ xc)) / ((3 : Int32).toInt64))), .second]) rfl ?_
    show Steps p.tables e below (T19.setTop (mkF m 182 #[.val (.long ja), .second, .val (.long jb), .second, .val (.long jc), .second, .val (.int k), .val (.int (3 : Int32)), .val (.long xa), .second, .val (.long xb), .second, .val (.long xc), .second, .val (.ref r_1), .val (.ref r_2), .val (.ref r_3), .val (.ref b4), .val (.long (maxJ (1000000 : Int64) (((((0 : Int64) + (maxJ (0 : Int64) xa)) + (maxJ (0 : Int64) xb)) + (maxJ (0 : Int64) xc)) / ((3 : Int32).toInt64)))), .second, .val (.long ((((clampJ xa) + (clampJ xb)) + (clampJ xc)) / ((3 : Int32).toInt64))), .second, .val (.long (((clampJ xa) + (clampJ xb)) + (clampJ xc))), .second, .val (.long ((((clampJ xa) + (clampJ xb)) + (clampJ xc)) / ((3 : Int32).toInt64))), .second] [])) _
    refine XS.lload X19.here hx rfl (hb hby at_182) rfl ?_
    show Steps p.tables e below (T19.setTop (mkF m 184 #[.val (.long ja), .second, .val (.long jb), .second, .val (.long jc), .second, .val (.int k), .val (.int (3 : Int32)), .val (.long xa), .second, .val (.long xb), .second, .val (.long xc), .second, .val (.ref r_1), .val (.ref r_2), .val (.ref r_3), .val (.ref b4), .val (.long (maxJ (1000000 : Int64) (((((0 : Int64) + (maxJ (0 : Int64) xa)) + (maxJ (0 : Int64) xb)) + (maxJ (0 : Int64) xc)) / ((3 : Int32).toInt64)))), .second, .val (.long ((((clampJ xa) + (clampJ xb)) + (clampJ xc)) / ((3 : Int32).toInt64))), .second, .val (.long (((clampJ xa) + (clampJ xb)) + (clampJ xc))), .second, .val (.long ((((clampJ xa) + (clampJ xb)) + (clampJ xc)) / ((3 : Int32).toInt64))), .second] [(.long (maxJ (1000000 : Int64) (((((0 : Int64) + (maxJ (0 : Int64) xa)) + (maxJ (0 : Int64) xb)) + (maxJ (0 : Int64) xc)) / ((3 : Int32).toInt64))))])) _
    refine XS.lload X19.here hx rfl (hb hby at_184) rfl ?_
    show Steps p.tables e below (T19.setTop (mkF m 186 #[.val (.long ja), .second, .val (.long jb), .second, .val (.long jc), .second, .val (.int k), .val (.int (3 : Int32)), .val (.long xa), .second, .val (.long xb), .second, .val (.long xc), .second, .val (.ref r_1), .val (.ref r_2), .val (.ref r_3), .val (.ref b4), .val (.long (maxJ (1000000 : Int64) (((((0 : Int64) + (maxJ (0 : Int64) xa)) + (maxJ (0 : Int64) xb)) + (maxJ (0 : Int64) xc)) / ((3 : Int32).toInt64)))), .second, .val (.long ((((clampJ xa) + (clampJ xb)) + (clampJ xc)) / ((3 : Int32).toInt64))), .second, .val (.long (((clampJ xa) + (clampJ xb)) + (clampJ xc))), .second, .val (.long ((((clampJ xa) + (clampJ xb)) + (clampJ xc)) / ((3 : Int32).toInt64))), .second] [(.long ((((clampJ xa) + (clampJ xb)) + (clampJ xc)) / ((3 : Int32).toInt64))), (.long (maxJ (1000000 : Int64) (((((0 : Int64) + (maxJ (0 : Int64) xa)) + (maxJ (0 : Int64) xb)) + (maxJ (0 : Int64) xc)) / ((3 : Int32).toInt64))))])) _
    refine XS.lcmp X19.here hx rfl (hb hby at_186) rfl ?_
    show Steps p.tables e below (T19.setTop (mkF m 187 #[.val (.long ja), .second, .val (.long jb), .second, .val (.long jc), .second, .val (.int k), .val (.int (3 : Int32)), .val (.long xa), .second, .val (.long xb), .second, .val (.long xc), .second, .val (.ref r_1), .val (.ref r_2), .val (.ref r_3), .val (.ref b4), .val (.long (maxJ (1000000 : Int64) (((((0 : Int64) + (maxJ (0 : Int64) xa)) + (maxJ (0 : Int64) xb)) + (maxJ (0 : Int64) xc)) / ((3 : Int32).toInt64)))), .second, .val (.long ((((clampJ xa) + (clampJ xb)) + (clampJ xc)) / ((3 : Int32).toInt64))), .second, .val (.long (((clampJ xa) + (clampJ xb)) + (clampJ xc))), .second, .val (.long ((((clampJ xa) + (clampJ xb)) + (clampJ xc)) / ((3 : Int32).toInt64))), .second] [(.int (lcmpW (maxJ (1000000 : Int64) (((((0 : Int64) + (maxJ (0 : Int64) xa)) + (maxJ (0 : Int64) xb)) + (maxJ (0 : Int64) xc)) / ((3 : Int32).toInt64))) ((((clampJ xa) + (clampJ xb)) + (clampJ xc)) / ((3 : Int32).toInt64))))])) _
    refine XS.ifNo X19.here hx rfl (hb hby at_187) rfl ((if0 _ _).trans (teq (((lw_eq _ _).mpr (fin_a3 hc167)) : (lcmpW (maxJ (1000000 : Int64) (((((0 : Int64) + (maxJ (0 : Int64) xa)) + (maxJ (0 : Int64) xb)) + (maxJ (0 : Int64) xc)) / ((3 : Int32).toInt64))) ((((clampJ xa) + (clampJ xb)) + (clampJ xc)) / ((3 : Int32).toInt64))) = (0 : Int32))).2) ?_
    show Steps p.tables e below (T19.setTop (mkF m 190 #[.val (.long ja), .second, .val (.long jb), .second, .val (.long jc), .second, .val (.int k), .val (.int (3 : Int32)), .val (.long xa), .second, .val (.long xb), .second, .val (.long xc), .second, .val (.ref r_1), .val (.ref r_2), .val (.ref r_3), .val (.ref b4), .val (.long (maxJ (1000000 : Int64) (((((0 : Int64) + (maxJ (0 : Int64) xa)) + (maxJ (0 : Int64) xb)) + (maxJ (0 : Int64) xc)) / ((3 : Int32).toInt64)))), .second, .val (.long ((((clampJ xa) + (clampJ xb)) + (clampJ xc)) / ((3 : Int32).toInt64))), .second, .val (.long (((clampJ xa) + (clampJ xb)) + (clampJ xc))), .second, .val (.long ((((clampJ xa) + (clampJ xb)) + (clampJ xc)) / ((3 : Int32).toInt64))), .second] [])) _
    refine XS.iconst X19.here hx rfl (hb hby at_190) ?_
    show Steps p.tables e below (T19.setTop (mkF m 191 #[.val (.long ja), .second, .val (.long jb), .second, .val (.long jc), .second, .val (.int k), .val (.int (3 : Int32)), .val (.long xa), .second, .val (.long xb), .second, .val (.long xc), .second, .val (.ref r_1), .val (.ref r_2), .val (.ref r_3), .val (.ref b4), .val (.long (maxJ (1000000 : Int64) (((((0 : Int64) + (maxJ (0 : Int64) xa)) + (maxJ (0 : Int64) xb)) + (maxJ (0 : Int64) xc)) / ((3 : Int32).toInt64)))), .second, .val (.long ((((clampJ xa) + (clampJ xb)) + (clampJ xc)) / ((3 : Int32).toInt64))), .second, .val (.long (((clampJ xa) + (clampJ xb)) + (clampJ xc))), .second, .val (.long ((((clampJ xa) + (clampJ xb)) + (clampJ xc)) / ((3 : Int32).toInt64))), .second] [(.int (1 : Int32))])) _
    refine XS.goto X19.here hx rfl (pc0 := 191) (pc' := 195) rfl (hb hby at_191) (by decide) (by decide) ?_
    show Steps p.tables e below (T19.setTop (mkF m 195 #[.val (.long ja), .second, .val (.long jb), .second, .val (.long jc), .second, .val (.int k), .val (.int (3 : Int32)), .val (.long xa), .second, .val (.long xb), .second, .val (.long xc), .second, .val (.ref r_1), .val (.ref r_2), .val (.ref r_3), .val (.ref b4), .val (.long (maxJ (1000000 : Int64) (((((0 : Int64) + (maxJ (0 : Int64) xa)) + (maxJ (0 : Int64) xb)) + (maxJ (0 : Int64) xc)) / ((3 : Int32).toInt64)))), .second, .val (.long ((((clampJ xa) + (clampJ xb)) + (clampJ xc)) / ((3 : Int32).toInt64))), .second, .val (.long (((clampJ xa) + (clampJ xb)) + (clampJ xc))), .second, .val (.long ((((clampJ xa) + (clampJ xb)) + (clampJ xc)) / ((3 : Int32).toInt64))), .second] [(.int (1 : Int32))])) _
    exact retN X19 hx (t := .boolean) Bd.returns (by simp) (hb hby at_195) hr
  · show Q_law Z ja jb jc k wz wg h0 n0 _ T19.heap _
    rw [kh19]
    exact ⟨rfl, N19⟩
set_option maxRecDepth 65536 in
set_option maxHeartbeats 40000000 in
theorem law_3b (l : Launch) (Z : State) (a0 : Array Value) (hw : ∀ d ∈ tables_1, d.before a0 Z = true) (ws : List Jvm.Cond) (ja : Int64) (jb : Int64) (jc : Int64) (k : Int32) (wz : Addr) (wg : Addr) (h0 : Heap) (n0 : Nat) (O0 : Old Z n0 h0) (G0 : Sta Z Z.heap "com/example/admitd/admitd/gate/ServiceTime" "LEAST_NANOS" "J" (.long (1000000 : Int64))) (G1 : Sta Z Z.heap "java/time/Duration" "ZERO" "Ljava/time/Duration;" (.ref wz)) (G2 : Exa Z Z.heap wz "java/time/Duration") (G3 : Fld Z Z.heap wz "java/time/Duration" "seconds" "J" (.long (0 : Int64))) (G4 : Fld Z Z.heap wz "java/time/Duration" "nanos" "I" (.int (0 : Int32))) (G5 : Sta Z Z.heap "com/example/admitd/admitd/gate/ServiceTime" "FIRST_GUESS" "Ljava/time/Duration;" (.ref wg)) (G6 : Exa Z Z.heap wg "java/time/Duration") (G7 : Fld Z Z.heap wg "java/time/Duration" "seconds" "J" (.long (1 : Int64))) (G8 : Fld Z Z.heap wg "java/time/Duration" "nanos" "I" (.int (0 : Int32))) (xa : Int64) (xb : Int64) (xc : Int64) (exa : (ja >>> ((2 : Int32) &&& 0x3f).toInt64) = xa) (exb : (jb >>> ((2 : Int32) &&& 0x3f).toInt64) = xb) (exc : (jc >>> ((2 : Int32) &&& 0x3f).toInt64) = xc) (hk : (k &&& (3 : Int32)) = (3 : Int32)) (hc167 : (lcmpW ((((clampJ xa) + (clampJ xb)) + (clampJ xc)) / ((3 : Int32).toInt64)) (1000000 : Int64)) < (0 : Int32)) :
    MetFree l x (head1 (Jvm.Cond.code x code maxLocals ret :: ws) room_1) (fun zA zU => zA = #[(.long ja), (.long jb), (.long jc), (.int k)] ∧ Z.Warmed39 zU.vm ∧ zU.heap = h0) (fun _ _ _ _ _ => True) (fun _ zU zo zU' => ∃ zv zL, zo = .returned zv ∧ Q_law Z ja jb jc k wz wg h0 n0 zv zU'.heap zL ∧ FrameEnd zU zo zU' zL room_1.cells room_1.slots) := by
  refine MetFree.of_bodySF (plainFor_of_name pn_4) hisR ?_
  intro p e s m args below meth c s₁ Bd hml0 hP hK
  obtain ⟨rfl, hZ, hh⟩ := hP
  have hx := Bd.exec
  have hby := Bd.bytes
  have hml : c.maxLocals = 26 := hml0
  have hown : s.vm.findClass "com/example/admitd/admitd/gate/ServiceTimeMeanPinLaw" = some m.cls := findClass_of_methodNamed Bd.named
  have hnm := (name_of_methodNamed Bd.named Bd.method).1
  have X0 : Stand p l e room_1 s m #[(.long ja), (.long jb), (.long jc), (.int k)] below meth c s₁ [] 0 0 := Stand.of_body Bd
  have e0 : s₁.heap = h0 := by rw [← hh, Bd.state]; rfl
  have N0 := Fr.nil n0
  have Z0 : n0 ≤ h0.size := O0.1 ▸ O0.2.1
  have pre0 : ∀ zt, Steps p.tables e below (s₁.setTop (mkF m 0 #[.val (.long ja), .second, .val (.long jb), .second, .val (.long jc), .second, .val (.int k), .unset, .unset, .unset, .unset, .unset, .unset, .unset, .unset, .unset, .unset, .unset, .unset, .unset, .unset, .unset, .unset, .unset, .unset, .unset] [])) zt → Steps p.tables e below (s₁.setTop (entryFrame m #[(.long ja), (.long jb), (.long jc), (.int k)] maxLocals)) zt := fun zt zk => castTop (ef_0_JJJI m ja jb jc k) zk
  obtain ⟨_, _, ⟨T1, L1, k1, n1⟩, -, X1, ⟨Lc1, hQ1, l1, y1, z1⟩, st1⟩ := Jvm.LawKit.callS X0 hx (y := (⟨"java/time/Duration", "ofNanos", "(J)Ljava/time/Duration;"⟩ : MethodName)) hown (mvT hZ (hw _ (List.mem_of_getElem? (i := 0) rfl))) (mvT hZ (hw _ (List.mem_of_getElem? (i := 1) rfl))) (mvT hZ (hw _ (List.mem_of_getElem? (i := 2) rfl))) (mvT hZ (hw _ (List.mem_of_getElem? (i := 3) rfl))) (by decide) (backOf (W := 0) (ofN l Z a0 hw [] xa wz h0 n0 O0 G1 G2 G3 G4) hZ (hw _ (List.mem_of_getElem? (i := 3) rfl)) (hw _ (List.mem_of_getElem? (i := 2) rfl)) (by decide) (by decide)) (g := (mkF m 24 #[.val (.long ja), .second, .val (.long jb), .second, .val (.long jc), .second, .val (.int k), .val (.int (3 : Int32)), .val (.long xa), .second, .val (.long xb), .second, .val (.long xc), .second, .unset, .unset, .unset, .unset, .unset, .unset, .unset, .unset, .unset, .unset, .unset, .unset] [(.long xa)])) rfl (by rw [hml]; rfl) (argsL := [(.long xa)]) (rest := []) (lenOf pd_5 rfl) rfl (by show 2 * 0 + _ ≤ _; exact Nat.le_of_eq rfl) (hb hby at_24) (fun _ _ => ⟨rfl, e0, (by decide : 0 + 1 ≤ _), (by decide : 0 + 2 ≤ _)⟩)
  dsimp only [Pt.U, Pt.locs, Pt.cells, Pt.slots] at X1 l1 y1 z1 st1 hQ1
  subst l1 y1 z1
  obtain ⟨r_1, s1_1, n1_1, rfl, Nq1, kh1, Po1_0, Po1_1, Po1_2, pq1_0⟩ := hQ1
  have N1 := Fr.app N0 Nq1
  have O1 := O0.keep kh1 all0
  have K1 : Keep h0 T1.heap [] := (Keep.refl h0 []).trans kh1 all0
  obtain ⟨_, _, ⟨T2, L2, k2, n2⟩, -, X2, ⟨Lc2, hQ2, l2, y2, z2⟩, st2⟩ := Jvm.LawKit.callS X1 hx (y := (⟨"java/time/Duration", "ofNanos", "(J)Ljava/time/Duration;"⟩ : MethodName)) hown (mvT hZ (hw _ (List.mem_of_getElem? (i := 0) rfl))) (mvT hZ (hw _ (List.mem_of_getElem? (i := 1) rfl))) (mvT hZ (hw _ (List.mem_of_getElem? (i := 2) rfl))) (mvT hZ (hw _ (List.mem_of_getElem? (i := 3) rfl))) (by decide) (backOf (W := 0) (ofN l Z a0 hw [] xb wz T1.heap n0 O1 G1 G2 G3 G4) hZ (hw _ (List.mem_of_getElem? (i := 3) rfl)) (hw _ (List.mem_of_getElem? (i := 2) rfl)) (by decide) (by decide)) (g := (mkF m 31 #[.val (.long ja), .second, .val (.long jb), .second, .val (.long jc), .second, .val (.int k), .val (.int (3 : Int32)), .val (.long xa), .second, .val (.long xb), .second, .val (.long xc), .second, .val (.ref r_1), .unset, .unset, .unset, .unset, .unset, .unset, .unset, .unset, .unset, .unset, .unset] [(.long xb)])) rfl (by rw [hml]; rfl) (argsL := [(.long xb)]) (rest := []) (lenOf pd_5 rfl) rfl (by show 2 * 0 + _ ≤ _; exact Nat.le_of_eq rfl) (hb hby at_31) (fun _ _ => ⟨rfl, rfl, (by decide : 1 + 1 ≤ _), (by decide : 2 + 2 ≤ _)⟩)
  dsimp only [Pt.U, Pt.locs, Pt.cells, Pt.slots] at X2 l2 y2 z2 st2 hQ2
  subst l2 y2 z2
  obtain ⟨r_2, s1_2, n1_2, rfl, Nq2, kh2, Po2_0, Po2_1, Po2_2, pq2_0⟩ := hQ2
  have N2 := Fr.app N1 Nq2
  have O2 := O1.keep kh2 all0
  have K2 : Keep h0 T2.heap [] := K1.trans kh2 all0
  obtain ⟨_, _, ⟨T3, L3, k3, n3⟩, -, X3, ⟨Lc3, hQ3, l3, y3, z3⟩, st3⟩ := Jvm.LawKit.callS X2 hx (y := (⟨"java/time/Duration", "ofNanos", "(J)Ljava/time/Duration;"⟩ : MethodName)) hown (mvT hZ (hw _ (List.mem_of_getElem? (i := 0) rfl))) (mvT hZ (hw _ (List.mem_of_getElem? (i := 1) rfl))) (mvT hZ (hw _ (List.mem_of_getElem? (i := 2) rfl))) (mvT hZ (hw _ (List.mem_of_getElem? (i := 3) rfl))) (by decide) (backOf (W := 0) (ofN l Z a0 hw [] xc wz T2.heap n0 O2 G1 G2 G3 G4) hZ (hw _ (List.mem_of_getElem? (i := 3) rfl)) (hw _ (List.mem_of_getElem? (i := 2) rfl)) (by decide) (by decide)) (g := (mkF m 38 #[.val (.long ja), .second, .val (.long jb), .second, .val (.long jc), .second, .val (.int k), .val (.int (3 : Int32)), .val (.long xa), .second, .val (.long xb), .second, .val (.long xc), .second, .val (.ref r_1), .val (.ref r_2), .unset, .unset, .unset, .unset, .unset, .unset, .unset, .unset, .unset, .unset] [(.long xc)])) rfl (by rw [hml]; rfl) (argsL := [(.long xc)]) (rest := []) (lenOf pd_5 rfl) rfl (by show 2 * 0 + _ ≤ _; exact Nat.le_of_eq rfl) (hb hby at_38) (fun _ _ => ⟨rfl, rfl, (by decide : 2 + 1 ≤ _), (by decide : 4 + 2 ≤ _)⟩)
  dsimp only [Pt.U, Pt.locs, Pt.cells, Pt.slots] at X3 l3 y3 z3 st3 hQ3
  subst l3 y3 z3
  obtain ⟨r_3, s1_3, n1_3, rfl, Nq3, kh3, Po3_0, Po3_1, Po3_2, pq3_0⟩ := hQ3
  have N3 := Fr.app N2 Nq3
  have O3 := O2.keep kh3 all0
  have K3 : Keep h0 T3.heap [] := K2.trans kh3 all0
  obtain ⟨T4, h4, X4, e4, E4, A4, D4, U4, st4⟩ := newO X3 hx hZ hown (hw _ (List.mem_of_getElem? (i := 23) rfl)) (hw _ (List.mem_of_getElem? (i := 24) rfl)) (hw _ (List.mem_of_getElem? (i := 25) rfl)) rfl (g := (mkF m 43 #[.val (.long ja), .second, .val (.long jb), .second, .val (.long jc), .second, .val (.int k), .val (.int (3 : Int32)), .val (.long xa), .second, .val (.long xb), .second, .val (.long xc), .second, .val (.ref r_1), .val (.ref r_2), .val (.ref r_3), .unset, .unset, .unset, .unset, .unset, .unset, .unset, .unset, .unset] [])) rfl (hb hby at_43) (by decide) (by decide)
  obtain ⟨b4, gz4⟩ : ∃ z, z = T3.heap.size := ⟨_, rfl⟩
  rw [← gz4] at A4 D4 U4 st4
  have sz_b4 : h0.size ≤ b4 := Nat.le_trans K3.1 (Nat.le_of_eq gz4.symm)
  have g_b4 : n0 ≤ b4 := Nat.le_trans Z0 sz_b4
  have O4 := O3.ext E4
  have K4 : Keep h0 h4 [] := K3.ext E4
  have Fi4_32 : Fld Z h4 b4 "com/example/admitd/admitd/gate/ServiceTime" "latest" "[J" .null := D4 (Or.inr (hw _ (List.mem_of_getElem? (i := 32) rfl))) (ty := (.array .long)) (by decide)
  have Fi4_57 : Fld Z h4 b4 "com/example/admitd/admitd/gate/ServiceTime" "count" "I" (.int (0 : Int32)) := D4 (Or.inl (hw _ (List.mem_of_getElem? (i := 57) rfl))) (ty := .int) (by decide)
  have Fi4_59 : Fld Z h4 b4 "com/example/admitd/admitd/gate/ServiceTime" "next" "I" (.int (0 : Int32)) := D4 (Or.inl (hw _ (List.mem_of_getElem? (i := 59) rfl))) (ty := .int) (by decide)
  have Fi4_61 : Fld Z h4 b4 "com/example/admitd/admitd/gate/ServiceTime" "sum" "J" (.long (0 : Int64)) := D4 (Or.inl (hw _ (List.mem_of_getElem? (i := 61) rfl))) (ty := .long) (by decide)
  obtain ⟨_, _, ⟨T5, L5, k5, n5⟩, -, X5, ⟨Lc5, hQ5, l5, y5, z5⟩, st5⟩ := X4.specialBack hx (y := (⟨"com/example/admitd/admitd/gate/ServiceTime", "<init>", "()V"⟩ : MethodName)) rfl hown (mvT hZ (hw _ (List.mem_of_getElem? (i := 26) rfl))) (mvT hZ (hw _ (List.mem_of_getElem? (i := 27) rfl))) (mvT hZ (hw _ (List.mem_of_getElem? (i := 28) rfl))) (by decide) (backOf (W := 1) (svI l Z a0 hw [] b4 h4 n0 O4 A4 Fi4_32 Fi4_57 Fi4_59 Fi4_61 g_b4) hZ (hw _ (List.mem_of_getElem? (i := 28) rfl)) (hw _ (List.mem_of_getElem? (i := 25) rfl)) (by decide) (by decide)) (g := (mkF m 47 #[.val (.long ja), .second, .val (.long jb), .second, .val (.long jc), .second, .val (.int k), .val (.int (3 : Int32)), .val (.long xa), .second, .val (.long xb), .second, .val (.long xc), .second, .val (.ref r_1), .val (.ref r_2), .val (.ref r_3), .unset, .unset, .unset, .unset, .unset, .unset, .unset, .unset, .unset] [(.ref b4), (.ref b4)])) rfl (by rw [hml]; rfl) (Steps.refl _) (a := b4) (argsL := []) (rest := [(.ref b4)]) (lenOf pd_6 rfl) rfl (by show 2 * 0 + _ ≤ _; exact Nat.le_of_eq rfl) (hb hby at_47) (fun _ _ => ⟨rfl, e4, (by decide : 4 + 1 ≤ _), (by decide : 10 + 32 ≤ _)⟩)
  dsimp only [Pt.U, Pt.locs, Pt.cells, Pt.slots] at X5 l5 y5 z5 st5 hQ5
  subst l5 y5 z5
  obtain ⟨la_5, rfl, Nq5, kh5, fz_la_5, Po5_0, Po5_1, Po5_2, Po5_3, Po5_4, Po5_5⟩ := hQ5
  have N5 := Fr.app N3 Nq5
  have sz_la_5 : h0.size ≤ la_5 := Nat.le_trans K4.1 fz_la_5
  have g_la_5 : n0 ≤ la_5 := Nat.le_trans Z0 sz_la_5
  have O5 := O4.keep kh5 (allS g_b4 all0)
  have K5 : Keep h0 T5.heap [] := K4.trans kh5 (allS (Or.inr sz_b4) all0)
  have c6 : Fld Z T5.heap r_1 "java/time/Duration" "seconds" "J" (.long s1_1) := ((((Po1_1.keep kh2 nin0).keep kh3 nin0).ext E4).keep kh5 (ninS (Nat.ne_of_lt (Nat.lt_of_lt_of_le (((Po1_0.keep kh2).keep kh3)).lt (Nat.le_of_eq gz4.symm))) nin0))
  have c7 : Fld Z T5.heap r_1 "java/time/Duration" "nanos" "I" (.int n1_1) := ((((Po1_2.keep kh2 nin0).keep kh3 nin0).ext E4).keep kh5 (ninS (Nat.ne_of_lt (Nat.lt_of_lt_of_le (((Po1_0.keep kh2).keep kh3)).lt (Nat.le_of_eq gz4.symm))) nin0))
  obtain ⟨cq8, kq8, q8a, q8b, q8c⟩ := isOf hZ rfl Po5_0
  obtain ⟨_, _, ⟨T8, L8, k8, n8⟩, -, X8, ⟨Lc8, hQ8, l8, y8, z8⟩, st8⟩ := X5.virtualBack hx (y := (⟨"com/example/admitd/admitd/gate/ServiceTime", "record", "(Ljava/time/Duration;)V"⟩ : MethodName)) (z := (⟨"com/example/admitd/admitd/gate/ServiceTime", "record", "(Ljava/time/Duration;)V"⟩ : MethodName)) hown (mvT hZ (hw _ (List.mem_of_getElem? (i := 33) rfl))) (mvT hZ (hw _ (List.mem_of_getElem? (i := 34) rfl))) (notFace_of_selects (args := #[]) (mvT hZ (hw _ (List.mem_of_getElem? (i := 36) rfl)))) (mvT hZ (hw _ (List.mem_of_getElem? (i := 36) rfl))) (mvT hZ (hw _ (List.mem_of_getElem? (i := 35) rfl))) (by decide) (backOf (W := 0) (rec0 l Z a0 hw [] b4 r_1 la_5 (0 : Int64) s1_1 n1_1 xa T5.heap n0 O5 Po5_0 Po5_1 Po5_2 Po5_3 Po5_4 ((((Po1_0.keep kh2).keep kh3).ext E4).keep kh5) c6 c7 Po5_5 g_b4 g_la_5 (Nat.ne_of_lt (Nat.lt_of_lt_of_le (A4).lt fz_la_5)) pq1_0) hZ (hw _ (List.mem_of_getElem? (i := 37) rfl)) (hw _ (List.mem_of_getElem? (i := 25) rfl)) (by decide) (by decide)) q8a q8c (g := (mkF m 62 #[.val (.long ja), .second, .val (.long jb), .second, .val (.long jc), .second, .val (.int k), .val (.int (3 : Int32)), .val (.long xa), .second, .val (.long xb), .second, .val (.long xc), .second, .val (.ref r_1), .val (.ref r_2), .val (.ref r_3), .val (.ref b4), .unset, .unset, .unset, .unset, .unset, .unset, .unset, .unset] [(.ref r_1), (.ref b4)])) rfl (by rw [hml]; rfl) (Steps.refl _) (argsL := [(.ref r_1)]) (rest := []) (lenOf pd_8 rfl) rfl (by show 2 * 0 + _ ≤ _; exact Nat.le_of_eq rfl) (hb hby at_62) (fun _ _ => ⟨rfl, rfl, (by decide : 5 + 0 ≤ _), (by decide : 42 + 0 ≤ _)⟩)
  dsimp only [Pt.U, Pt.locs, Pt.cells, Pt.slots] at X8 l8 y8 z8 st8 hQ8
  subst l8 y8 z8
  obtain ⟨rfl, Nq8, kh8, Po8_0, Po8_1, Po8_2, Po8_3, Po8_4, Po8_5⟩ := hQ8
  have N8 := Fr.app N5 Nq8
  have O8 := O5.keep kh8 (allS g_b4 (allS g_la_5 all0))
  have K8 : Keep h0 T8.heap [] := K5.trans kh8 (allS (Or.inr sz_b4) (allS (Or.inr sz_la_5) all0))
  have c9 : Fld Z T8.heap r_2 "java/time/Duration" "seconds" "J" (.long s1_2) := ((((Po2_1.keep kh3 nin0).ext E4).keep kh5 (ninS (Nat.ne_of_lt (Nat.lt_of_lt_of_le ((Po2_0.keep kh3)).lt (Nat.le_of_eq gz4.symm))) nin0)).keep kh8 (ninS (Nat.ne_of_lt (Nat.lt_of_lt_of_le ((Po2_0.keep kh3)).lt (Nat.le_of_eq gz4.symm))) (ninS (Nat.ne_of_lt (Nat.lt_of_lt_of_le (((Po2_0.keep kh3).ext E4)).lt fz_la_5)) nin0)))
  have c10 : Fld Z T8.heap r_2 "java/time/Duration" "nanos" "I" (.int n1_2) := ((((Po2_2.keep kh3 nin0).ext E4).keep kh5 (ninS (Nat.ne_of_lt (Nat.lt_of_lt_of_le ((Po2_0.keep kh3)).lt (Nat.le_of_eq gz4.symm))) nin0)).keep kh8 (ninS (Nat.ne_of_lt (Nat.lt_of_lt_of_le ((Po2_0.keep kh3)).lt (Nat.le_of_eq gz4.symm))) (ninS (Nat.ne_of_lt (Nat.lt_of_lt_of_le (((Po2_0.keep kh3).ext E4)).lt fz_la_5)) nin0)))
  obtain ⟨cq11, kq11, q11a, q11b, q11c⟩ := isOf hZ rfl Po8_0
  obtain ⟨_, _, ⟨T11, L11, k11, n11⟩, -, X11, ⟨Lc11, hQ11, l11, y11, z11⟩, st11⟩ := X8.virtualBack hx (y := (⟨"com/example/admitd/admitd/gate/ServiceTime", "record", "(Ljava/time/Duration;)V"⟩ : MethodName)) (z := (⟨"com/example/admitd/admitd/gate/ServiceTime", "record", "(Ljava/time/Duration;)V"⟩ : MethodName)) hown (mvT hZ (hw _ (List.mem_of_getElem? (i := 33) rfl))) (mvT hZ (hw _ (List.mem_of_getElem? (i := 34) rfl))) (notFace_of_selects (args := #[]) (mvT hZ (hw _ (List.mem_of_getElem? (i := 36) rfl)))) (mvT hZ (hw _ (List.mem_of_getElem? (i := 36) rfl))) (mvT hZ (hw _ (List.mem_of_getElem? (i := 35) rfl))) (by decide) (backOf (W := 0) (rec1 l Z a0 hw [] b4 r_2 la_5 ((0 : Int64) + (maxJ (0 : Int64) xa)) s1_2 n1_2 xb T8.heap n0 O8 Po8_0 Po8_1 Po8_2 Po8_3 Po8_4 ((((Po2_0.keep kh3).ext E4).keep kh5).keep kh8) c9 c10 Po8_5 g_b4 g_la_5 (Nat.ne_of_lt (Nat.lt_of_lt_of_le (A4).lt fz_la_5)) pq2_0) hZ (hw _ (List.mem_of_getElem? (i := 37) rfl)) (hw _ (List.mem_of_getElem? (i := 25) rfl)) (by decide) (by decide)) q11a q11c (g := (mkF m 75 #[.val (.long ja), .second, .val (.long jb), .second, .val (.long jc), .second, .val (.int k), .val (.int (3 : Int32)), .val (.long xa), .second, .val (.long xb), .second, .val (.long xc), .second, .val (.ref r_1), .val (.ref r_2), .val (.ref r_3), .val (.ref b4), .unset, .unset, .unset, .unset, .unset, .unset, .unset, .unset] [(.ref r_2), (.ref b4)])) rfl (by rw [hml]; rfl) (Steps.refl _) (argsL := [(.ref r_2)]) (rest := []) (lenOf pd_8 rfl) rfl (by show 2 * 0 + _ ≤ _; exact Nat.le_of_eq rfl) (hb hby at_75) (fun _ _ => ⟨rfl, rfl, (by decide : 5 + 0 ≤ _), (by decide : 42 + 0 ≤ _)⟩)
  dsimp only [Pt.U, Pt.locs, Pt.cells, Pt.slots] at X11 l11 y11 z11 st11 hQ11
  subst l11 y11 z11
  obtain ⟨rfl, Nq11, kh11, Po11_0, Po11_1, Po11_2, Po11_3, Po11_4, Po11_5⟩ := hQ11
  have N11 := Fr.app N8 Nq11
  have O11 := O8.keep kh11 (allS g_b4 (allS g_la_5 all0))
  have K11 : Keep h0 T11.heap [] := K8.trans kh11 (allS (Or.inr sz_b4) (allS (Or.inr sz_la_5) all0))
  have c12 : Fld Z T11.heap r_3 "java/time/Duration" "seconds" "J" (.long s1_3) := ((((Po3_1.ext E4).keep kh5 (ninS (Nat.ne_of_lt (Nat.lt_of_lt_of_le (Po3_0).lt (Nat.le_of_eq gz4.symm))) nin0)).keep kh8 (ninS (Nat.ne_of_lt (Nat.lt_of_lt_of_le (Po3_0).lt (Nat.le_of_eq gz4.symm))) (ninS (Nat.ne_of_lt (Nat.lt_of_lt_of_le ((Po3_0.ext E4)).lt fz_la_5)) nin0))).keep kh11 (ninS (Nat.ne_of_lt (Nat.lt_of_lt_of_le (Po3_0).lt (Nat.le_of_eq gz4.symm))) (ninS (Nat.ne_of_lt (Nat.lt_of_lt_of_le ((Po3_0.ext E4)).lt fz_la_5)) nin0)))
  have c13 : Fld Z T11.heap r_3 "java/time/Duration" "nanos" "I" (.int n1_3) := ((((Po3_2.ext E4).keep kh5 (ninS (Nat.ne_of_lt (Nat.lt_of_lt_of_le (Po3_0).lt (Nat.le_of_eq gz4.symm))) nin0)).keep kh8 (ninS (Nat.ne_of_lt (Nat.lt_of_lt_of_le (Po3_0).lt (Nat.le_of_eq gz4.symm))) (ninS (Nat.ne_of_lt (Nat.lt_of_lt_of_le ((Po3_0.ext E4)).lt fz_la_5)) nin0))).keep kh11 (ninS (Nat.ne_of_lt (Nat.lt_of_lt_of_le (Po3_0).lt (Nat.le_of_eq gz4.symm))) (ninS (Nat.ne_of_lt (Nat.lt_of_lt_of_le ((Po3_0.ext E4)).lt fz_la_5)) nin0)))
  obtain ⟨cq14, kq14, q14a, q14b, q14c⟩ := isOf hZ rfl Po11_0
  obtain ⟨_, _, ⟨T14, L14, k14, n14⟩, -, X14, ⟨Lc14, hQ14, l14, y14, z14⟩, st14⟩ := X11.virtualBack hx (y := (⟨"com/example/admitd/admitd/gate/ServiceTime", "record", "(Ljava/time/Duration;)V"⟩ : MethodName)) (z := (⟨"com/example/admitd/admitd/gate/ServiceTime", "record", "(Ljava/time/Duration;)V"⟩ : MethodName)) hown (mvT hZ (hw _ (List.mem_of_getElem? (i := 33) rfl))) (mvT hZ (hw _ (List.mem_of_getElem? (i := 34) rfl))) (notFace_of_selects (args := #[]) (mvT hZ (hw _ (List.mem_of_getElem? (i := 36) rfl)))) (mvT hZ (hw _ (List.mem_of_getElem? (i := 36) rfl))) (mvT hZ (hw _ (List.mem_of_getElem? (i := 35) rfl))) (by decide) (backOf (W := 0) (rec2 l Z a0 hw [] b4 r_3 la_5 (((0 : Int64) + (maxJ (0 : Int64) xa)) + (maxJ (0 : Int64) xb)) s1_3 n1_3 xc T11.heap n0 O11 Po11_0 Po11_1 Po11_2 Po11_3 Po11_4 ((((Po3_0.ext E4).keep kh5).keep kh8).keep kh11) c12 c13 Po11_5 g_b4 g_la_5 (Nat.ne_of_lt (Nat.lt_of_lt_of_le (A4).lt fz_la_5)) pq3_0) hZ (hw _ (List.mem_of_getElem? (i := 37) rfl)) (hw _ (List.mem_of_getElem? (i := 25) rfl)) (by decide) (by decide)) q14a q14c (g := (mkF m 88 #[.val (.long ja), .second, .val (.long jb), .second, .val (.long jc), .second, .val (.int k), .val (.int (3 : Int32)), .val (.long xa), .second, .val (.long xb), .second, .val (.long xc), .second, .val (.ref r_1), .val (.ref r_2), .val (.ref r_3), .val (.ref b4), .unset, .unset, .unset, .unset, .unset, .unset, .unset, .unset] [(.ref r_3), (.ref b4)])) rfl (by rw [hml]; rfl) (Steps.refl _) (argsL := [(.ref r_3)]) (rest := []) (lenOf pd_8 rfl) rfl (by show 2 * 0 + _ ≤ _; exact Nat.le_of_eq rfl) (hb hby at_88) (fun _ _ => ⟨rfl, rfl, (by decide : 5 + 0 ≤ _), (by decide : 42 + 0 ≤ _)⟩)
  dsimp only [Pt.U, Pt.locs, Pt.cells, Pt.slots] at X14 l14 y14 z14 st14 hQ14
  subst l14 y14 z14
  obtain ⟨rfl, Nq14, kh14, Po14_0, Po14_1, Po14_2, Po14_3, Po14_4, Po14_5⟩ := hQ14
  have N14 := Fr.app N11 Nq14
  have O14 := O11.keep kh14 (allS g_b4 (allS g_la_5 all0))
  have K14 : Keep h0 T14.heap [] := K11.trans kh14 (allS (Or.inr sz_b4) (allS (Or.inr sz_la_5) all0))
  obtain ⟨cq15, kq15, q15a, q15b, q15c⟩ := isOf hZ rfl Po14_0
  obtain ⟨_, _, ⟨T15, L15, k15, n15⟩, -, X15, ⟨Lc15, hQ15, l15, y15, z15⟩, st15⟩ := X14.virtualBack hx (y := (⟨"com/example/admitd/admitd/gate/ServiceTime", "mean", "()Ljava/time/Duration;"⟩ : MethodName)) (z := (⟨"com/example/admitd/admitd/gate/ServiceTime", "mean", "()Ljava/time/Duration;"⟩ : MethodName)) hown (mvT hZ (hw _ (List.mem_of_getElem? (i := 62) rfl))) (mvT hZ (hw _ (List.mem_of_getElem? (i := 63) rfl))) (notFace_of_selects (args := #[]) (mvT hZ (hw _ (List.mem_of_getElem? (i := 65) rfl)))) (mvT hZ (hw _ (List.mem_of_getElem? (i := 65) rfl))) (mvT hZ (hw _ (List.mem_of_getElem? (i := 64) rfl))) (by decide) (backOf (W := 0) (mean1 l Z a0 hw [] b4 (3 : Int32) ((((0 : Int64) + (maxJ (0 : Int64) xa)) + (maxJ (0 : Int64) xb)) + (maxJ (0 : Int64) xc)) wz T14.heap n0 O14 G0 G1 G2 G3 G4 Po14_2 Po14_4 (by decide) (by decide)) hZ (hw _ (List.mem_of_getElem? (i := 66) rfl)) (hw _ (List.mem_of_getElem? (i := 25) rfl)) (by decide) (by decide)) q15a q15c (g := (mkF m 93 #[.val (.long ja), .second, .val (.long jb), .second, .val (.long jc), .second, .val (.int k), .val (.int (3 : Int32)), .val (.long xa), .second, .val (.long xb), .second, .val (.long xc), .second, .val (.ref r_1), .val (.ref r_2), .val (.ref r_3), .val (.ref b4), .unset, .unset, .unset, .unset, .unset, .unset, .unset, .unset] [(.ref b4)])) rfl (by rw [hml]; rfl) (Steps.refl _) (argsL := []) (rest := []) (lenOf pd_7 rfl) rfl (by show 2 * 0 + _ ≤ _; exact Nat.le_of_eq rfl) (hb hby at_93) (fun _ _ => ⟨rfl, rfl, (by decide : 5 + 1 ≤ _), (by decide : 42 + 2 ≤ _)⟩)
  dsimp only [Pt.U, Pt.locs, Pt.cells, Pt.slots] at X15 l15 y15 z15 st15 hQ15
  subst l15 y15 z15
  obtain ⟨r_15, s1_15, n1_15, rfl, Nq15, kh15, Po15_0, Po15_1, Po15_2, pq15_0⟩ := hQ15
  have N15 := Fr.app N14 Nq15
  have O15 := O14.keep kh15 all0
  have K15 : Keep h0 T15.heap [] := K14.trans kh15 all0
  obtain ⟨cq16, kq16, q16a, q16b, q16c⟩ := isOf hZ rfl Po15_0
  obtain ⟨_, _, ⟨T16, L16, k16, n16⟩, -, X16, ⟨Lc16, hQ16, l16, y16, z16⟩, st16⟩ := X15.virtualBack hx (y := (⟨"java/time/Duration", "toNanos", "()J"⟩ : MethodName)) (z := (⟨"java/time/Duration", "toNanos", "()J"⟩ : MethodName)) hown (mvT hZ (hw _ (List.mem_of_getElem? (i := 70) rfl))) (mvT hZ (hw _ (List.mem_of_getElem? (i := 39) rfl))) (notFace_of_selects (args := #[]) (mvT hZ (hw _ (List.mem_of_getElem? (i := 41) rfl)))) (mvT hZ (hw _ (List.mem_of_getElem? (i := 41) rfl))) (mvT hZ (hw _ (List.mem_of_getElem? (i := 40) rfl))) (by decide) (backOf (W := 0) (toN l Z a0 hw [] r_15 s1_15 n1_15 (maxJ (1000000 : Int64) (((((0 : Int64) + (maxJ (0 : Int64) xa)) + (maxJ (0 : Int64) xb)) + (maxJ (0 : Int64) xc)) / ((3 : Int32).toInt64))) T15.heap n0 O15 Po15_1 Po15_2 pq15_0) hZ (hw _ (List.mem_of_getElem? (i := 42) rfl)) (hw _ (List.mem_of_getElem? (i := 2) rfl)) (by decide) (by decide)) q16a q16c (g := (mkF m 96 #[.val (.long ja), .second, .val (.long jb), .second, .val (.long jc), .second, .val (.int k), .val (.int (3 : Int32)), .val (.long xa), .second, .val (.long xb), .second, .val (.long xc), .second, .val (.ref r_1), .val (.ref r_2), .val (.ref r_3), .val (.ref b4), .unset, .unset, .unset, .unset, .unset, .unset, .unset, .unset] [(.ref r_15)])) rfl (by rw [hml]; rfl) (Steps.refl _) (argsL := []) (rest := []) (lenOf pd_4 rfl) rfl (by show 2 * 0 + _ ≤ _; exact Nat.le_of_eq rfl) (hb hby at_96) (fun _ _ => ⟨rfl, rfl, (by decide : 6 + 0 ≤ _), (by decide : 44 + 0 ≤ _)⟩)
  dsimp only [Pt.U, Pt.locs, Pt.cells, Pt.slots] at X16 l16 y16 z16 st16 hQ16
  subst l16 y16 z16
  obtain ⟨rfl, Nq16, kh16⟩ := hQ16
  have N16 := Fr.app N15 Nq16
  obtain ⟨_, _, ⟨T17, L17, k17, n17⟩, -, X17, ⟨Lc17, hQ17, l17, y17, z17⟩, st17⟩ := Jvm.LawKit.callS X16 hx (y := (⟨"com/example/admitd/admitd/gate/ServiceTimeMeanPinLaw", "clamp", "(J)J"⟩ : MethodName)) hown (mvT hZ (hw _ (List.mem_of_getElem? (i := 71) rfl))) (mvT hZ (hw _ (List.mem_of_getElem? (i := 72) rfl))) (mvT hZ (hw _ (List.mem_of_getElem? (i := 73) rfl))) (mvT hZ (hw _ (List.mem_of_getElem? (i := 74) rfl))) (by decide) (backOf (W := 0) (clampR l Z a0 hw [] xa T15.heap n0 O15 ) hZ (hw _ (List.mem_of_getElem? (i := 74) rfl)) (hw _ (List.mem_of_getElem? (i := 73) rfl)) (by decide) (by decide)) (g := (mkF m 116 #[.val (.long ja), .second, .val (.long jb), .second, .val (.long jc), .second, .val (.int k), .val (.int (3 : Int32)), .val (.long xa), .second, .val (.long xb), .second, .val (.long xc), .second, .val (.ref r_1), .val (.ref r_2), .val (.ref r_3), .val (.ref b4), .val (.long (maxJ (1000000 : Int64) (((((0 : Int64) + (maxJ (0 : Int64) xa)) + (maxJ (0 : Int64) xb)) + (maxJ (0 : Int64) xc)) / ((3 : Int32).toInt64)))), .second, .unset, .unset, .unset, .unset, .unset, .unset] [(.long xa)])) rfl (by rw [hml]; rfl) (argsL := [(.long xa)]) (rest := []) (lenOf pd_0 rfl) rfl (by show 2 * 0 + _ ≤ _; exact Nat.le_of_eq rfl) (hb hby at_116) (fun _ _ => ⟨rfl, kh16, (by decide : 6 + 0 ≤ _), (by decide : 44 + 0 ≤ _)⟩)
  dsimp only [Pt.U, Pt.locs, Pt.cells, Pt.slots] at X17 l17 y17 z17 st17 hQ17
  subst l17 y17 z17
  obtain ⟨rfl, Nq17, kh17⟩ := hQ17
  have N17 := Fr.app N16 Nq17
  obtain ⟨_, _, ⟨T18, L18, k18, n18⟩, -, X18, ⟨Lc18, hQ18, l18, y18, z18⟩, st18⟩ := Jvm.LawKit.callS X17 hx (y := (⟨"com/example/admitd/admitd/gate/ServiceTimeMeanPinLaw", "clamp", "(J)J"⟩ : MethodName)) hown (mvT hZ (hw _ (List.mem_of_getElem? (i := 71) rfl))) (mvT hZ (hw _ (List.mem_of_getElem? (i := 72) rfl))) (mvT hZ (hw _ (List.mem_of_getElem? (i := 73) rfl))) (mvT hZ (hw _ (List.mem_of_getElem? (i := 74) rfl))) (by decide) (backOf (W := 2) (clampR l Z a0 hw [] xb T15.heap n0 O15 ) hZ (hw _ (List.mem_of_getElem? (i := 74) rfl)) (hw _ (List.mem_of_getElem? (i := 73) rfl)) (by decide) (by decide)) (g := (mkF m 131 #[.val (.long ja), .second, .val (.long jb), .second, .val (.long jc), .second, .val (.int k), .val (.int (3 : Int32)), .val (.long xa), .second, .val (.long xb), .second, .val (.long xc), .second, .val (.ref r_1), .val (.ref r_2), .val (.ref r_3), .val (.ref b4), .val (.long (maxJ (1000000 : Int64) (((((0 : Int64) + (maxJ (0 : Int64) xa)) + (maxJ (0 : Int64) xb)) + (maxJ (0 : Int64) xc)) / ((3 : Int32).toInt64)))), .second, .unset, .unset, .val (.long (clampJ xa)), .second, .unset, .unset] [(.long xb), (.long (clampJ xa))])) rfl (by rw [hml]; rfl) (argsL := [(.long xb)]) (rest := [(.long (clampJ xa))]) (lenOf pd_0 rfl) rfl (by show 2 * 0 + _ ≤ _; exact Nat.le_of_eq rfl) (hb hby at_131) (fun _ _ => ⟨rfl, kh17, (by decide : 6 + 0 ≤ _), (by decide : 44 + 0 ≤ _)⟩)
  dsimp only [Pt.U, Pt.locs, Pt.cells, Pt.slots] at X18 l18 y18 z18 st18 hQ18
  subst l18 y18 z18
  obtain ⟨rfl, Nq18, kh18⟩ := hQ18
  have N18 := Fr.app N17 Nq18
  obtain ⟨_, _, ⟨T19, L19, k19, n19⟩, -, X19, ⟨Lc19, hQ19, l19, y19, z19⟩, st19⟩ := Jvm.LawKit.callS X18 hx (y := (⟨"com/example/admitd/admitd/gate/ServiceTimeMeanPinLaw", "clamp", "(J)J"⟩ : MethodName)) hown (mvT hZ (hw _ (List.mem_of_getElem? (i := 71) rfl))) (mvT hZ (hw _ (List.mem_of_getElem? (i := 72) rfl))) (mvT hZ (hw _ (List.mem_of_getElem? (i := 73) rfl))) (mvT hZ (hw _ (List.mem_of_getElem? (i := 74) rfl))) (by decide) (backOf (W := 2) (clampR l Z a0 hw [] xc T15.heap n0 O15 ) hZ (hw _ (List.mem_of_getElem? (i := 74) rfl)) (hw _ (List.mem_of_getElem? (i := 73) rfl)) (by decide) (by decide)) (g := (mkF m 147 #[.val (.long ja), .second, .val (.long jb), .second, .val (.long jc), .second, .val (.int k), .val (.int (3 : Int32)), .val (.long xa), .second, .val (.long xb), .second, .val (.long xc), .second, .val (.ref r_1), .val (.ref r_2), .val (.ref r_3), .val (.ref b4), .val (.long (maxJ (1000000 : Int64) (((((0 : Int64) + (maxJ (0 : Int64) xa)) + (maxJ (0 : Int64) xb)) + (maxJ (0 : Int64) xc)) / ((3 : Int32).toInt64)))), .second, .unset, .unset, .val (.long ((clampJ xa) + (clampJ xb))), .second, .unset, .unset] [(.long xc), (.long ((clampJ xa) + (clampJ xb)))])) rfl (by rw [hml]; rfl) (argsL := [(.long xc)]) (rest := [(.long ((clampJ xa) + (clampJ xb)))]) (lenOf pd_0 rfl) rfl (by show 2 * 0 + _ ≤ _; exact Nat.le_of_eq rfl) (hb hby at_147) (fun _ _ => ⟨rfl, kh18, (by decide : 6 + 0 ≤ _), (by decide : 44 + 0 ≤ _)⟩)
  dsimp only [Pt.U, Pt.locs, Pt.cells, Pt.slots] at X19 l19 y19 z19 st19 hQ19
  subst l19 y19 z19
  obtain ⟨rfl, Nq19, kh19⟩ := hQ19
  have N19 := Fr.app N18 Nq19
  obtain ⟨fs, hr, hrun, hended, hW, hsame⟩ := X19.leave (v := some (.int (1 : Int32))) (fun h => by rw [Bd.returns] at h; cases h)
  refine ⟨_, _, pre0 _ ?_, hrun, hended, _, _, rfl, ?_, ⟨_, rfl⟩, hW, hsame.mono (by decide) (by decide)⟩
  · show Steps p.tables e below (s₁.setTop (mkF m 0 #[.val (.long ja), .second, .val (.long jb), .second, .val (.long jc), .second, .val (.int k), .unset, .unset, .unset, .unset, .unset, .unset, .unset, .unset, .unset, .unset, .unset, .unset, .unset, .unset, .unset, .unset, .unset, .unset, .unset] [])) _
    refine XS.iload X0.here hx rfl (hb hby at_0) rfl ?_
    show Steps p.tables e below (s₁.setTop (mkF m 2 #[.val (.long ja), .second, .val (.long jb), .second, .val (.long jc), .second, .val (.int k), .unset, .unset, .unset, .unset, .unset, .unset, .unset, .unset, .unset, .unset, .unset, .unset, .unset, .unset, .unset, .unset, .unset, .unset, .unset] [(.int k)])) _
    refine XS.iconst X0.here hx rfl (hb hby at_2) ?_
    show Steps p.tables e below (s₁.setTop (mkF m 3 #[.val (.long ja), .second, .val (.long jb), .second, .val (.long jc), .second, .val (.int k), .unset, .unset, .unset, .unset, .unset, .unset, .unset, .unset, .unset, .unset, .unset, .unset, .unset, .unset, .unset, .unset, .unset, .unset, .unset] [(.int (3 : Int32)), (.int k)])) _
    refine XS.iand X0.here hx rfl (hb hby at_3) rfl ?_
    show Steps p.tables e below (s₁.setTop (mkF m 4 #[.val (.long ja), .second, .val (.long jb), .second, .val (.long jc), .second, .val (.int k), .unset, .unset, .unset, .unset, .unset, .unset, .unset, .unset, .unset, .unset, .unset, .unset, .unset, .unset, .unset, .unset, .unset, .unset, .unset] [(.int (k &&& (3 : Int32)))])) _
    refine castTop (congrArg (fun z_ => (mkF m 4 #[.val (.long ja), .second, .val (.long jb), .second, .val (.long jc), .second, .val (.int k), .unset, .unset, .unset, .unset, .unset, .unset, .unset, .unset, .unset, .unset, .unset, .unset, .unset, .unset, .unset, .unset, .unset, .unset, .unset] [(.int z_)])) (hk : (k &&& (3 : Int32)) = (3 : Int32))) ?_
    show Steps p.tables e below (s₁.setTop (mkF m 4 #[.val (.long ja), .second, .val (.long jb), .second, .val (.long jc), .second, .val (.int k), .unset, .unset, .unset, .unset, .unset, .unset, .unset, .unset, .unset, .unset, .unset, .unset, .unset, .unset, .unset, .unset, .unset, .unset, .unset] [(.int (3 : Int32))])) _
    refine XS.istore X0.here hx rfl (hb hby at_4) rfl (l' := #[.val (.long ja), .second, .val (.long jb), .second, .val (.long jc), .second, .val (.int k), .val (.int (3 : Int32)), .unset, .unset, .unset, .unset, .unset, .unset, .unset, .unset, .unset, .unset, .unset, .unset, .unset, .unset, .unset, .unset, .unset, .unset]) rfl ?_
    show Steps p.tables e below (s₁.setTop (mkF m 6 #[.val (.long ja), .second, .val (.long jb), .second, .val (.long jc), .second, .val (.int k), .val (.int (3 : Int32)), .unset, .unset, .unset, .unset, .unset, .unset, .unset, .unset, .unset, .unset, .unset, .unset, .unset, .unset, .unset, .unset, .unset, .unset] [])) _
    refine XS.lloadN X0.here hx rfl (hb hby at_6) rfl ?_
    show Steps p.tables e below (s₁.setTop (mkF m 7 #[.val (.long ja), .second, .val (.long jb), .second, .val (.long jc), .second, .val (.int k), .val (.int (3 : Int32)), .unset, .unset, .unset, .unset, .unset, .unset, .unset, .unset, .unset, .unset, .unset, .unset, .unset, .unset, .unset, .unset, .unset, .unset] [(.long ja)])) _
    refine XS.iconst X0.here hx rfl (hb hby at_7) ?_
    show Steps p.tables e below (s₁.setTop (mkF m 8 #[.val (.long ja), .second, .val (.long jb), .second, .val (.long jc), .second, .val (.int k), .val (.int (3 : Int32)), .unset, .unset, .unset, .unset, .unset, .unset, .unset, .unset, .unset, .unset, .unset, .unset, .unset, .unset, .unset, .unset, .unset, .unset] [(.int (2 : Int32)), (.long ja)])) _
    refine XS.lshr X0.here hx rfl (hb hby at_8) rfl ?_
    show Steps p.tables e below (s₁.setTop (mkF m 9 #[.val (.long ja), .second, .val (.long jb), .second, .val (.long jc), .second, .val (.int k), .val (.int (3 : Int32)), .unset, .unset, .unset, .unset, .unset, .unset, .unset, .unset, .unset, .unset, .unset, .unset, .unset, .unset, .unset, .unset, .unset, .unset] [(.long (ja >>> ((2 : Int32) &&& 0x3f).toInt64))])) _
    refine castTop (congrArg (fun z_ => (mkF m 9 #[.val (.long ja), .second, .val (.long jb), .second, .val (.long jc), .second, .val (.int k), .val (.int (3 : Int32)), .unset, .unset, .unset, .unset, .unset, .unset, .unset, .unset, .unset, .unset, .unset, .unset, .unset, .unset, .unset, .unset, .unset, .unset] [(.long z_)])) (exa : (ja >>> ((2 : Int32) &&& 0x3f).toInt64) = xa)) ?_
    show Steps p.tables e below (s₁.setTop (mkF m 9 #[.val (.long ja), .second, .val (.long jb), .second, .val (.long jc), .second, .val (.int k), .val (.int (3 : Int32)), .unset, .unset, .unset, .unset, .unset, .unset, .unset, .unset, .unset, .unset, .unset, .unset, .unset, .unset, .unset, .unset, .unset, .unset] [(.long xa)])) _
    refine XS.lstore X0.here hx rfl (hb hby at_9) rfl (l' := #[.val (.long ja), .second, .val (.long jb), .second, .val (.long jc), .second, .val (.int k), .val (.int (3 : Int32)), .val (.long xa), .second, .unset, .unset, .unset, .unset, .unset, .unset, .unset, .unset, .unset, .unset, .unset, .unset, .unset, .unset, .unset, .unset]) rfl ?_
    show Steps p.tables e below (s₁.setTop (mkF m 11 #[.val (.long ja), .second, .val (.long jb), .second, .val (.long jc), .second, .val (.int k), .val (.int (3 : Int32)), .val (.long xa), .second, .unset, .unset, .unset, .unset, .unset, .unset, .unset, .unset, .unset, .unset, .unset, .unset, .unset, .unset, .unset, .unset] [])) _
    refine XS.lloadN X0.here hx rfl (hb hby at_11) rfl ?_
    show Steps p.tables e below (s₁.setTop (mkF m 12 #[.val (.long ja), .second, .val (.long jb), .second, .val (.long jc), .second, .val (.int k), .val (.int (3 : Int32)), .val (.long xa), .second, .unset, .unset, .unset, .unset, .unset, .unset, .unset, .unset, .unset, .unset, .unset, .unset, .unset, .unset, .unset, .unset] [(.long jb)])) _
    refine XS.iconst X0.here hx rfl (hb hby at_12) ?_
    show Steps p.tables e below (s₁.setTop (mkF m 13 #[.val (.long ja), .second, .val (.long jb), .second, .val (.long jc), .second, .val (.int k), .val (.int (3 : Int32)), .val (.long xa), .second, .unset, .unset, .unset, .unset, .unset, .unset, .unset, .unset, .unset, .unset, .unset, .unset, .unset, .unset, .unset, .unset] [(.int (2 : Int32)), (.long jb)])) _
    refine XS.lshr X0.here hx rfl (hb hby at_13) rfl ?_
    show Steps p.tables e below (s₁.setTop (mkF m 14 #[.val (.long ja), .second, .val (.long jb), .second, .val (.long jc), .second, .val (.int k), .val (.int (3 : Int32)), .val (.long xa), .second, .unset, .unset, .unset, .unset, .unset, .unset, .unset, .unset, .unset, .unset, .unset, .unset, .unset, .unset, .unset, .unset] [(.long (jb >>> ((2 : Int32) &&& 0x3f).toInt64))])) _
    refine castTop (congrArg (fun z_ => (mkF m 14 #[.val (.long ja), .second, .val (.long jb), .second, .val (.long jc), .second, .val (.int k), .val (.int (3 : Int32)), .val (.long xa), .second, .unset, .unset, .unset, .unset, .unset, .unset, .unset, .unset, .unset, .unset, .unset, .unset, .unset, .unset, .unset, .unset] [(.long z_)])) (exb : (jb >>> ((2 : Int32) &&& 0x3f).toInt64) = xb)) ?_
    show Steps p.tables e below (s₁.setTop (mkF m 14 #[.val (.long ja), .second, .val (.long jb), .second, .val (.long jc), .second, .val (.int k), .val (.int (3 : Int32)), .val (.long xa), .second, .unset, .unset, .unset, .unset, .unset, .unset, .unset, .unset, .unset, .unset, .unset, .unset, .unset, .unset, .unset, .unset] [(.long xb)])) _
    refine XS.lstore X0.here hx rfl (hb hby at_14) rfl (l' := #[.val (.long ja), .second, .val (.long jb), .second, .val (.long jc), .second, .val (.int k), .val (.int (3 : Int32)), .val (.long xa), .second, .val (.long xb), .second, .unset, .unset, .unset, .unset, .unset, .unset, .unset, .unset, .unset, .unset, .unset, .unset, .unset, .unset]) rfl ?_
    show Steps p.tables e below (s₁.setTop (mkF m 16 #[.val (.long ja), .second, .val (.long jb), .second, .val (.long jc), .second, .val (.int k), .val (.int (3 : Int32)), .val (.long xa), .second, .val (.long xb), .second, .unset, .unset, .unset, .unset, .unset, .unset, .unset, .unset, .unset, .unset, .unset, .unset, .unset, .unset] [])) _
    refine XS.lload X0.here hx rfl (hb hby at_16) rfl ?_
    show Steps p.tables e below (s₁.setTop (mkF m 18 #[.val (.long ja), .second, .val (.long jb), .second, .val (.long jc), .second, .val (.int k), .val (.int (3 : Int32)), .val (.long xa), .second, .val (.long xb), .second, .unset, .unset, .unset, .unset, .unset, .unset, .unset, .unset, .unset, .unset, .unset, .unset, .unset, .unset] [(.long jc)])) _
    refine XS.iconst X0.here hx rfl (hb hby at_18) ?_
    show Steps p.tables e below (s₁.setTop (mkF m 19 #[.val (.long ja), .second, .val (.long jb), .second, .val (.long jc), .second, .val (.int k), .val (.int (3 : Int32)), .val (.long xa), .second, .val (.long xb), .second, .unset, .unset, .unset, .unset, .unset, .unset, .unset, .unset, .unset, .unset, .unset, .unset, .unset, .unset] [(.int (2 : Int32)), (.long jc)])) _
    refine XS.lshr X0.here hx rfl (hb hby at_19) rfl ?_
    show Steps p.tables e below (s₁.setTop (mkF m 20 #[.val (.long ja), .second, .val (.long jb), .second, .val (.long jc), .second, .val (.int k), .val (.int (3 : Int32)), .val (.long xa), .second, .val (.long xb), .second, .unset, .unset, .unset, .unset, .unset, .unset, .unset, .unset, .unset, .unset, .unset, .unset, .unset, .unset] [(.long (jc >>> ((2 : Int32) &&& 0x3f).toInt64))])) _
    refine castTop (congrArg (fun z_ => (mkF m 20 #[.val (.long ja), .second, .val (.long jb), .second, .val (.long jc), .second, .val (.int k), .val (.int (3 : Int32)), .val (.long xa), .second, .val (.long xb), .second, .unset, .unset, .unset, .unset, .unset, .unset, .unset, .unset, .unset, .unset, .unset, .unset, .unset, .unset] [(.long z_)])) (exc : (jc >>> ((2 : Int32) &&& 0x3f).toInt64) = xc)) ?_
    show Steps p.tables e below (s₁.setTop (mkF m 20 #[.val (.long ja), .second, .val (.long jb), .second, .val (.long jc), .second, .val (.int k), .val (.int (3 : Int32)), .val (.long xa), .second, .val (.long xb), .second, .unset, .unset, .unset, .unset, .unset, .unset, .unset, .unset, .unset, .unset, .unset, .unset, .unset, .unset] [(.long xc)])) _
    refine XS.lstore X0.here hx rfl (hb hby at_20) rfl (l' := #[.val (.long ja), .second, .val (.long jb), .second, .val (.long jc), .second, .val (.int k), .val (.int (3 : Int32)), .val (.long xa), .second, .val (.long xb), .second, .val (.long xc), .second, .unset, .unset, .unset, .unset, .unset, .unset, .unset, .unset, .unset, .unset, .unset, .unset]) rfl ?_
    show Steps p.tables e below (s₁.setTop (mkF m 22 #[.val (.long ja), .second, .val (.long jb), .second, .val (.long jc), .second, .val (.int k), .val (.int (3 : Int32)), .val (.long xa), .second, .val (.long xb), .second, .val (.long xc), .second, .unset, .unset, .unset, .unset, .unset, .unset, .unset, .unset, .unset, .unset, .unset, .unset] [])) _
    refine XS.lload X0.here hx rfl (hb hby at_22) rfl ?_
    show Steps p.tables e below (s₁.setTop (mkF m 24 #[.val (.long ja), .second, .val (.long jb), .second, .val (.long jc), .second, .val (.int k), .val (.int (3 : Int32)), .val (.long xa), .second, .val (.long xb), .second, .val (.long xc), .second, .unset, .unset, .unset, .unset, .unset, .unset, .unset, .unset, .unset, .unset, .unset, .unset] [(.long xa)])) _
    refine st1 _ ?_
    show Steps p.tables e below (T1.setTop (mkF m 27 #[.val (.long ja), .second, .val (.long jb), .second, .val (.long jc), .second, .val (.int k), .val (.int (3 : Int32)), .val (.long xa), .second, .val (.long xb), .second, .val (.long xc), .second, .unset, .unset, .unset, .unset, .unset, .unset, .unset, .unset, .unset, .unset, .unset, .unset] [(.ref r_1)])) _
    refine XS.astore X1.here hx rfl (hb hby at_27) rfl rfl (l' := #[.val (.long ja), .second, .val (.long jb), .second, .val (.long jc), .second, .val (.int k), .val (.int (3 : Int32)), .val (.long xa), .second, .val (.long xb), .second, .val (.long xc), .second, .val (.ref r_1), .unset, .unset, .unset, .unset, .unset, .unset, .unset, .unset, .unset, .unset, .unset]) rfl ?_
    show Steps p.tables e below (T1.setTop (mkF m 29 #[.val (.long ja), .second, .val (.long jb), .second, .val (.long jc), .second, .val (.int k), .val (.int (3 : Int32)), .val (.long xa), .second, .val (.long xb), .second, .val (.long xc), .second, .val (.ref r_1), .unset, .unset, .unset, .unset, .unset, .unset, .unset, .unset, .unset, .unset, .unset] [])) _
    refine XS.lload X1.here hx rfl (hb hby at_29) rfl ?_
    show Steps p.tables e below (T1.setTop (mkF m 31 #[.val (.long ja), .second, .val (.long jb), .second, .val (.long jc), .second, .val (.int k), .val (.int (3 : Int32)), .val (.long xa), .second, .val (.long xb), .second, .val (.long xc), .second, .val (.ref r_1), .unset, .unset, .unset, .unset, .unset, .unset, .unset, .unset, .unset, .unset, .unset] [(.long xb)])) _
    refine st2 _ ?_
    show Steps p.tables e below (T2.setTop (mkF m 34 #[.val (.long ja), .second, .val (.long jb), .second, .val (.long jc), .second, .val (.int k), .val (.int (3 : Int32)), .val (.long xa), .second, .val (.long xb), .second, .val (.long xc), .second, .val (.ref r_1), .unset, .unset, .unset, .unset, .unset, .unset, .unset, .unset, .unset, .unset, .unset] [(.ref r_2)])) _
    refine XS.astore X2.here hx rfl (hb hby at_34) rfl rfl (l' := #[.val (.long ja), .second, .val (.long jb), .second, .val (.long jc), .second, .val (.int k), .val (.int (3 : Int32)), .val (.long xa), .second, .val (.long xb), .second, .val (.long xc), .second, .val (.ref r_1), .val (.ref r_2), .unset, .unset, .unset, .unset, .unset, .unset, .unset, .unset, .unset, .unset]) rfl ?_
    show Steps p.tables e below (T2.setTop (mkF m 36 #[.val (.long ja), .second, .val (.long jb), .second, .val (.long jc), .second, .val (.int k), .val (.int (3 : Int32)), .val (.long xa), .second, .val (.long xb), .second, .val (.long xc), .second, .val (.ref r_1), .val (.ref r_2), .unset, .unset, .unset, .unset, .unset, .unset, .unset, .unset, .unset, .unset] [])) _
    refine XS.lload X2.here hx rfl (hb hby at_36) rfl ?_
    show Steps p.tables e below (T2.setTop (mkF m 38 #[.val (.long ja), .second, .val (.long jb), .second, .val (.long jc), .second, .val (.int k), .val (.int (3 : Int32)), .val (.long xa), .second, .val (.long xb), .second, .val (.long xc), .second, .val (.ref r_1), .val (.ref r_2), .unset, .unset, .unset, .unset, .unset, .unset, .unset, .unset, .unset, .unset] [(.long xc)])) _
    refine st3 _ ?_
    show Steps p.tables e below (T3.setTop (mkF m 41 #[.val (.long ja), .second, .val (.long jb), .second, .val (.long jc), .second, .val (.int k), .val (.int (3 : Int32)), .val (.long xa), .second, .val (.long xb), .second, .val (.long xc), .second, .val (.ref r_1), .val (.ref r_2), .unset, .unset, .unset, .unset, .unset, .unset, .unset, .unset, .unset, .unset] [(.ref r_3)])) _
    refine XS.astore X3.here hx rfl (hb hby at_41) rfl rfl (l' := #[.val (.long ja), .second, .val (.long jb), .second, .val (.long jc), .second, .val (.int k), .val (.int (3 : Int32)), .val (.long xa), .second, .val (.long xb), .second, .val (.long xc), .second, .val (.ref r_1), .val (.ref r_2), .val (.ref r_3), .unset, .unset, .unset, .unset, .unset, .unset, .unset, .unset, .unset]) rfl ?_
    show Steps p.tables e below (T3.setTop (mkF m 43 #[.val (.long ja), .second, .val (.long jb), .second, .val (.long jc), .second, .val (.int k), .val (.int (3 : Int32)), .val (.long xa), .second, .val (.long xb), .second, .val (.long xc), .second, .val (.ref r_1), .val (.ref r_2), .val (.ref r_3), .unset, .unset, .unset, .unset, .unset, .unset, .unset, .unset, .unset] [])) _
    refine st4 _ ?_
    show Steps p.tables e below (T4.setTop (mkF m 46 #[.val (.long ja), .second, .val (.long jb), .second, .val (.long jc), .second, .val (.int k), .val (.int (3 : Int32)), .val (.long xa), .second, .val (.long xb), .second, .val (.long xc), .second, .val (.ref r_1), .val (.ref r_2), .val (.ref r_3), .unset, .unset, .unset, .unset, .unset, .unset, .unset, .unset, .unset] [(.ref b4)])) _
    refine XS.dup X4.here hx rfl (hb hby at_46) rfl rfl ?_
    show Steps p.tables e below (T4.setTop (mkF m 47 #[.val (.long ja), .second, .val (.long jb), .second, .val (.long jc), .second, .val (.int k), .val (.int (3 : Int32)), .val (.long xa), .second, .val (.long xb), .second, .val (.long xc), .second, .val (.ref r_1), .val (.ref r_2), .val (.ref r_3), .unset, .unset, .unset, .unset, .unset, .unset, .unset, .unset, .unset] [(.ref b4), (.ref b4)])) _
    refine st5.trans ?_
    show Steps p.tables e below (T5.setTop (mkF m 50 #[.val (.long ja), .second, .val (.long jb), .second, .val (.long jc), .second, .val (.int k), .val (.int (3 : Int32)), .val (.long xa), .second, .val (.long xb), .second, .val (.long xc), .second, .val (.ref r_1), .val (.ref r_2), .val (.ref r_3), .unset, .unset, .unset, .unset, .unset, .unset, .unset, .unset, .unset] [(.ref b4)])) _
    refine XS.astore X5.here hx rfl (hb hby at_50) rfl rfl (l' := #[.val (.long ja), .second, .val (.long jb), .second, .val (.long jc), .second, .val (.int k), .val (.int (3 : Int32)), .val (.long xa), .second, .val (.long xb), .second, .val (.long xc), .second, .val (.ref r_1), .val (.ref r_2), .val (.ref r_3), .val (.ref b4), .unset, .unset, .unset, .unset, .unset, .unset, .unset, .unset]) rfl ?_
    show Steps p.tables e below (T5.setTop (mkF m 52 #[.val (.long ja), .second, .val (.long jb), .second, .val (.long jc), .second, .val (.int k), .val (.int (3 : Int32)), .val (.long xa), .second, .val (.long xb), .second, .val (.long xc), .second, .val (.ref r_1), .val (.ref r_2), .val (.ref r_3), .val (.ref b4), .unset, .unset, .unset, .unset, .unset, .unset, .unset, .unset] [])) _
    refine XS.iload X5.here hx rfl (hb hby at_52) rfl ?_
    show Steps p.tables e below (T5.setTop (mkF m 54 #[.val (.long ja), .second, .val (.long jb), .second, .val (.long jc), .second, .val (.int k), .val (.int (3 : Int32)), .val (.long xa), .second, .val (.long xb), .second, .val (.long xc), .second, .val (.ref r_1), .val (.ref r_2), .val (.ref r_3), .val (.ref b4), .unset, .unset, .unset, .unset, .unset, .unset, .unset, .unset] [(.int (3 : Int32))])) _
    refine XS.iconst X5.here hx rfl (hb hby at_54) ?_
    show Steps p.tables e below (T5.setTop (mkF m 55 #[.val (.long ja), .second, .val (.long jb), .second, .val (.long jc), .second, .val (.int k), .val (.int (3 : Int32)), .val (.long xa), .second, .val (.long xb), .second, .val (.long xc), .second, .val (.ref r_1), .val (.ref r_2), .val (.ref r_3), .val (.ref b4), .unset, .unset, .unset, .unset, .unset, .unset, .unset, .unset] [(.int (1 : Int32)), (.int (3 : Int32))])) _
    refine XS.icmpNo X5.here hx rfl (hb hby at_55) rfl (flt (by decide : ¬ ((3 : Int32) < (1 : Int32)))).1 ?_
    show Steps p.tables e below (T5.setTop (mkF m 58 #[.val (.long ja), .second, .val (.long jb), .second, .val (.long jc), .second, .val (.int k), .val (.int (3 : Int32)), .val (.long xa), .second, .val (.long xb), .second, .val (.long xc), .second, .val (.ref r_1), .val (.ref r_2), .val (.ref r_3), .val (.ref b4), .unset, .unset, .unset, .unset, .unset, .unset, .unset, .unset] [])) _
    refine XS.aload X5.here hx rfl (hb hby at_58) rfl rfl ?_
    show Steps p.tables e below (T5.setTop (mkF m 60 #[.val (.long ja), .second, .val (.long jb), .second, .val (.long jc), .second, .val (.int k), .val (.int (3 : Int32)), .val (.long xa), .second, .val (.long xb), .second, .val (.long xc), .second, .val (.ref r_1), .val (.ref r_2), .val (.ref r_3), .val (.ref b4), .unset, .unset, .unset, .unset, .unset, .unset, .unset, .unset] [(.ref b4)])) _
    refine XS.aload X5.here hx rfl (hb hby at_60) rfl rfl ?_
    show Steps p.tables e below (T5.setTop (mkF m 62 #[.val (.long ja), .second, .val (.long jb), .second, .val (.long jc), .second, .val (.int k), .val (.int (3 : Int32)), .val (.long xa), .second, .val (.long xb), .second, .val (.long xc), .second, .val (.ref r_1), .val (.ref r_2), .val (.ref r_3), .val (.ref b4), .unset, .unset, .unset, .unset, .unset, .unset, .unset, .unset] [(.ref r_1), (.ref b4)])) _
    refine st8.trans ?_
    show Steps p.tables e below (T8.setTop (mkF m 65 #[.val (.long ja), .second, .val (.long jb), .second, .val (.long jc), .second, .val (.int k), .val (.int (3 : Int32)), .val (.long xa), .second, .val (.long xb), .second, .val (.long xc), .second, .val (.ref r_1), .val (.ref r_2), .val (.ref r_3), .val (.ref b4), .unset, .unset, .unset, .unset, .unset, .unset, .unset, .unset] [])) _
    refine XS.iload X8.here hx rfl (hb hby at_65) rfl ?_
    show Steps p.tables e below (T8.setTop (mkF m 67 #[.val (.long ja), .second, .val (.long jb), .second, .val (.long jc), .second, .val (.int k), .val (.int (3 : Int32)), .val (.long xa), .second, .val (.long xb), .second, .val (.long xc), .second, .val (.ref r_1), .val (.ref r_2), .val (.ref r_3), .val (.ref b4), .unset, .unset, .unset, .unset, .unset, .unset, .unset, .unset] [(.int (3 : Int32))])) _
    refine XS.iconst X8.here hx rfl (hb hby at_67) ?_
    show Steps p.tables e below (T8.setTop (mkF m 68 #[.val (.long ja), .second, .val (.long jb), .second, .val (.long jc), .second, .val (.int k), .val (.int (3 : Int32)), .val (.long xa), .second, .val (.long xb), .second, .val (.long xc), .second, .val (.ref r_1), .val (.ref r_2), .val (.ref r_3), .val (.ref b4), .unset, .unset, .unset, .unset, .unset, .unset, .unset, .unset] [(.int (2 : Int32)), (.int (3 : Int32))])) _
    refine XS.icmpNo X8.here hx rfl (hb hby at_68) rfl (flt (by decide : ¬ ((3 : Int32) < (2 : Int32)))).1 ?_
    show Steps p.tables e below (T8.setTop (mkF m 71 #[.val (.long ja), .second, .val (.long jb), .second, .val (.long jc), .second, .val (.int k), .val (.int (3 : Int32)), .val (.long xa), .second, .val (.long xb), .second, .val (.long xc), .second, .val (.ref r_1), .val (.ref r_2), .val (.ref r_3), .val (.ref b4), .unset, .unset, .unset, .unset, .unset, .unset, .unset, .unset] [])) _
    refine XS.aload X8.here hx rfl (hb hby at_71) rfl rfl ?_
    show Steps p.tables e below (T8.setTop (mkF m 73 #[.val (.long ja), .second, .val (.long jb), .second, .val (.long jc), .second, .val (.int k), .val (.int (3 : Int32)), .val (.long xa), .second, .val (.long xb), .second, .val (.long xc), .second, .val (.ref r_1), .val (.ref r_2), .val (.ref r_3), .val (.ref b4), .unset, .unset, .unset, .unset, .unset, .unset, .unset, .unset] [(.ref b4)])) _
    refine XS.aload X8.here hx rfl (hb hby at_73) rfl rfl ?_
    show Steps p.tables e below (T8.setTop (mkF m 75 #[.val (.long ja), .second, .val (.long jb), .second, .val (.long jc), .second, .val (.int k), .val (.int (3 : Int32)), .val (.long xa), .second, .val (.long xb), .second, .val (.long xc), .second, .val (.ref r_1), .val (.ref r_2), .val (.ref r_3), .val (.ref b4), .unset, .unset, .unset, .unset, .unset, .unset, .unset, .unset] [(.ref r_2), (.ref b4)])) _
    refine st11.trans ?_
    show Steps p.tables e below (T11.setTop (mkF m 78 #[.val (.long ja), .second, .val (.long jb), .second, .val (.long jc), .second, .val (.int k), .val (.int (3 : Int32)), .val (.long xa), .second, .val (.long xb), .second, .val (.long xc), .second, .val (.ref r_1), .val (.ref r_2), .val (.ref r_3), .val (.ref b4), .unset, .unset, .unset, .unset, .unset, .unset, .unset, .unset] [])) _
    refine XS.iload X11.here hx rfl (hb hby at_78) rfl ?_
    show Steps p.tables e below (T11.setTop (mkF m 80 #[.val (.long ja), .second, .val (.long jb), .second, .val (.long jc), .second, .val (.int k), .val (.int (3 : Int32)), .val (.long xa), .second, .val (.long xb), .second, .val (.long xc), .second, .val (.ref r_1), .val (.ref r_2), .val (.ref r_3), .val (.ref b4), .unset, .unset, .unset, .unset, .unset, .unset, .unset, .unset] [(.int (3 : Int32))])) _
    refine XS.iconst X11.here hx rfl (hb hby at_80) ?_
    show Steps p.tables e below (T11.setTop (mkF m 81 #[.val (.long ja), .second, .val (.long jb), .second, .val (.long jc), .second, .val (.int k), .val (.int (3 : Int32)), .val (.long xa), .second, .val (.long xb), .second, .val (.long xc), .second, .val (.ref r_1), .val (.ref r_2), .val (.ref r_3), .val (.ref b4), .unset, .unset, .unset, .unset, .unset, .unset, .unset, .unset] [(.int (3 : Int32)), (.int (3 : Int32))])) _
    refine XS.icmpNo X11.here hx rfl (hb hby at_81) rfl (flt (by decide : ¬ ((3 : Int32) < (3 : Int32)))).1 ?_
    show Steps p.tables e below (T11.setTop (mkF m 84 #[.val (.long ja), .second, .val (.long jb), .second, .val (.long jc), .second, .val (.int k), .val (.int (3 : Int32)), .val (.long xa), .second, .val (.long xb), .second, .val (.long xc), .second, .val (.ref r_1), .val (.ref r_2), .val (.ref r_3), .val (.ref b4), .unset, .unset, .unset, .unset, .unset, .unset, .unset, .unset] [])) _
    refine XS.aload X11.here hx rfl (hb hby at_84) rfl rfl ?_
    show Steps p.tables e below (T11.setTop (mkF m 86 #[.val (.long ja), .second, .val (.long jb), .second, .val (.long jc), .second, .val (.int k), .val (.int (3 : Int32)), .val (.long xa), .second, .val (.long xb), .second, .val (.long xc), .second, .val (.ref r_1), .val (.ref r_2), .val (.ref r_3), .val (.ref b4), .unset, .unset, .unset, .unset, .unset, .unset, .unset, .unset] [(.ref b4)])) _
    refine XS.aload X11.here hx rfl (hb hby at_86) rfl rfl ?_
    show Steps p.tables e below (T11.setTop (mkF m 88 #[.val (.long ja), .second, .val (.long jb), .second, .val (.long jc), .second, .val (.int k), .val (.int (3 : Int32)), .val (.long xa), .second, .val (.long xb), .second, .val (.long xc), .second, .val (.ref r_1), .val (.ref r_2), .val (.ref r_3), .val (.ref b4), .unset, .unset, .unset, .unset, .unset, .unset, .unset, .unset] [(.ref r_3), (.ref b4)])) _
    refine st14.trans ?_
    show Steps p.tables e below (T14.setTop (mkF m 91 #[.val (.long ja), .second, .val (.long jb), .second, .val (.long jc), .second, .val (.int k), .val (.int (3 : Int32)), .val (.long xa), .second, .val (.long xb), .second, .val (.long xc), .second, .val (.ref r_1), .val (.ref r_2), .val (.ref r_3), .val (.ref b4), .unset, .unset, .unset, .unset, .unset, .unset, .unset, .unset] [])) _
    refine XS.aload X14.here hx rfl (hb hby at_91) rfl rfl ?_
    show Steps p.tables e below (T14.setTop (mkF m 93 #[.val (.long ja), .second, .val (.long jb), .second, .val (.long jc), .second, .val (.int k), .val (.int (3 : Int32)), .val (.long xa), .second, .val (.long xb), .second, .val (.long xc), .second, .val (.ref r_1), .val (.ref r_2), .val (.ref r_3), .val (.ref b4), .unset, .unset, .unset, .unset, .unset, .unset, .unset, .unset] [(.ref b4)])) _
    refine st15.trans ?_
    show Steps p.tables e below (T15.setTop (mkF m 96 #[.val (.long ja), .second, .val (.long jb), .second, .val (.long jc), .second, .val (.int k), .val (.int (3 : Int32)), .val (.long xa), .second, .val (.long xb), .second, .val (.long xc), .second, .val (.ref r_1), .val (.ref r_2), .val (.ref r_3), .val (.ref b4), .unset, .unset, .unset, .unset, .unset, .unset, .unset, .unset] [(.ref r_15)])) _
    refine st16.trans ?_
    show Steps p.tables e below (T16.setTop (mkF m 99 #[.val (.long ja), .second, .val (.long jb), .second, .val (.long jc), .second, .val (.int k), .val (.int (3 : Int32)), .val (.long xa), .second, .val (.long xb), .second, .val (.long xc), .second, .val (.ref r_1), .val (.ref r_2), .val (.ref r_3), .val (.ref b4), .unset, .unset, .unset, .unset, .unset, .unset, .unset, .unset] [(.long (maxJ (1000000 : Int64) (((((0 : Int64) + (maxJ (0 : Int64) xa)) + (maxJ (0 : Int64) xb)) + (maxJ (0 : Int64) xc)) / ((3 : Int32).toInt64))))])) _
    refine XS.lstore X16.here hx rfl (hb hby at_99) rfl (l' := #[.val (.long ja), .second, .val (.long jb), .second, .val (.long jc), .second, .val (.int k), .val (.int (3 : Int32)), .val (.long xa), .second, .val (.long xb), .second, .val (.long xc), .second, .val (.ref r_1), .val (.ref r_2), .val (.ref r_3), .val (.ref b4), .val (.long (maxJ (1000000 : Int64) (((((0 : Int64) + (maxJ (0 : Int64) xa)) + (maxJ (0 : Int64) xb)) + (maxJ (0 : Int64) xc)) / ((3 : Int32).toInt64)))), .second, .unset, .unset, .unset, .unset, .unset, .unset]) rfl ?_
    show Steps p.tables e below (T16.setTop (mkF m 101 #[.val (.long ja), .second, .val (.long jb), .second, .val (.long jc), .second, .val (.int k), .val (.int (3 : Int32)), .val (.long xa), .second, .val (.long xb), .second, .val (.long xc), .second, .val (.ref r_1), .val (.ref r_2), .val (.ref r_3), .val (.ref b4), .val (.long (maxJ (1000000 : Int64) (((((0 : Int64) + (maxJ (0 : Int64) xa)) + (maxJ (0 : Int64) xb)) + (maxJ (0 : Int64) xc)) / ((3 : Int32).toInt64)))), .second, .unset, .unset, .unset, .unset, .unset, .unset] [])) _
    refine XS.iload X16.here hx rfl (hb hby at_101) rfl ?_
    show Steps p.tables e below (T16.setTop (mkF m 103 #[.val (.long ja), .second, .val (.long jb), .second, .val (.long jc), .second, .val (.int k), .val (.int (3 : Int32)), .val (.long xa), .second, .val (.long xb), .second, .val (.long xc), .second, .val (.ref r_1), .val (.ref r_2), .val (.ref r_3), .val (.ref b4), .val (.long (maxJ (1000000 : Int64) (((((0 : Int64) + (maxJ (0 : Int64) xa)) + (maxJ (0 : Int64) xb)) + (maxJ (0 : Int64) xc)) / ((3 : Int32).toInt64)))), .second, .unset, .unset, .unset, .unset, .unset, .unset] [(.int (3 : Int32))])) _
    refine XS.ifYes X16.here hx rfl (pc0 := 103) (pc' := 114) rfl (hb hby at_103) rfl ((if0 _ _).trans (feq (by decide : ¬ ((3 : Int32) = (0 : Int32)))).2) (by decide) (by decide) ?_
    show Steps p.tables e below (T16.setTop (mkF m 114 #[.val (.long ja), .second, .val (.long jb), .second, .val (.long jc), .second, .val (.int k), .val (.int (3 : Int32)), .val (.long xa), .second, .val (.long xb), .second, .val (.long xc), .second, .val (.ref r_1), .val (.ref r_2), .val (.ref r_3), .val (.ref b4), .val (.long (maxJ (1000000 : Int64) (((((0 : Int64) + (maxJ (0 : Int64) xa)) + (maxJ (0 : Int64) xb)) + (maxJ (0 : Int64) xc)) / ((3 : Int32).toInt64)))), .second, .unset, .unset, .unset, .unset, .unset, .unset] [])) _
    refine XS.lload X16.here hx rfl (hb hby at_114) rfl ?_
    show Steps p.tables e below (T16.setTop (mkF m 116 #[.val (.long ja), .second, .val (.long jb), .second, .val (.long jc), .second, .val (.int k), .val (.int (3 : Int32)), .val (.long xa), .second, .val (.long xb), .second, .val (.long xc), .second, .val (.ref r_1), .val (.ref r_2), .val (.ref r_3), .val (.ref b4), .val (.long (maxJ (1000000 : Int64) (((((0 : Int64) + (maxJ (0 : Int64) xa)) + (maxJ (0 : Int64) xb)) + (maxJ (0 : Int64) xc)) / ((3 : Int32).toInt64)))), .second, .unset, .unset, .unset, .unset, .unset, .unset] [(.long xa)])) _
    refine st17 _ ?_
    show Steps p.tables e below (T17.setTop (mkF m 119 #[.val (.long ja), .second, .val (.long jb), .second, .val (.long jc), .second, .val (.int k), .val (.int (3 : Int32)), .val (.long xa), .second, .val (.long xb), .second, .val (.long xc), .second, .val (.ref r_1), .val (.ref r_2), .val (.ref r_3), .val (.ref b4), .val (.long (maxJ (1000000 : Int64) (((((0 : Int64) + (maxJ (0 : Int64) xa)) + (maxJ (0 : Int64) xb)) + (maxJ (0 : Int64) xc)) / ((3 : Int32).toInt64)))), .second, .unset, .unset, .unset, .unset, .unset, .unset] [(.long (clampJ xa))])) _
    refine XS.lstore X17.here hx rfl (hb hby at_119) rfl (l' := #[.val (.long ja), .second, .val (.long jb), .second, .val (.long jc), .second, .val (.int k), .val (.int (3 : Int32)), .val (.long xa), .second, .val (.long xb), .second, .val (.long xc), .second, .val (.ref r_1), .val (.ref r_2), .val (.ref r_3), .val (.ref b4), .val (.long (maxJ (1000000 : Int64) (((((0 : Int64) + (maxJ (0 : Int64) xa)) + (maxJ (0 : Int64) xb)) + (maxJ (0 : Int64) xc)) / ((3 : Int32).toInt64)))), .second, .unset, .unset, .val (.long (clampJ xa)), .second, .unset, .unset]) rfl ?_
    show Steps p.tables e below (T17.setTop (mkF m 121 #[.val (.long ja), .second, .val (.long jb), .second, .val (.long jc), .second, .val (.int k), .val (.int (3 : Int32)), .val (.long xa), .second, .val (.long xb), .second, .val (.long xc), .second, .val (.ref r_1), .val (.ref r_2), .val (.ref r_3), .val (.ref b4), .val (.long (maxJ (1000000 : Int64) (((((0 : Int64) + (maxJ (0 : Int64) xa)) + (maxJ (0 : Int64) xb)) + (maxJ (0 : Int64) xc)) / ((3 : Int32).toInt64)))), .second, .unset, .unset, .val (.long (clampJ xa)), .second, .unset, .unset] [])) _
    refine XS.iload X17.here hx rfl (hb hby at_121) rfl ?_
    show Steps p.tables e below (T17.setTop (mkF m 123 #[.val (.long ja), .second, .val (.long jb), .second, .val (.long jc), .second, .val (.int k), .val (.int (3 : Int32)), .val (.long xa), .second, .val (.long xb), .second, .val (.long xc), .second, .val (.ref r_1), .val (.ref r_2), .val (.ref r_3), .val (.ref b4), .val (.long (maxJ (1000000 : Int64) (((((0 : Int64) + (maxJ (0 : Int64) xa)) + (maxJ (0 : Int64) xb)) + (maxJ (0 : Int64) xc)) / ((3 : Int32).toInt64)))), .second, .unset, .unset, .val (.long (clampJ xa)), .second, .unset, .unset] [(.int (3 : Int32))])) _
    refine XS.iconst X17.here hx rfl (hb hby at_123) ?_
    show Steps p.tables e below (T17.setTop (mkF m 124 #[.val (.long ja), .second, .val (.long jb), .second, .val (.long jc), .second, .val (.int k), .val (.int (3 : Int32)), .val (.long xa), .second, .val (.long xb), .second, .val (.long xc), .second, .val (.ref r_1), .val (.ref r_2), .val (.ref r_3), .val (.ref b4), .val (.long (maxJ (1000000 : Int64) (((((0 : Int64) + (maxJ (0 : Int64) xa)) + (maxJ (0 : Int64) xb)) + (maxJ (0 : Int64) xc)) / ((3 : Int32).toInt64)))), .second, .unset, .unset, .val (.long (clampJ xa)), .second, .unset, .unset] [(.int (2 : Int32)), (.int (3 : Int32))])) _
    refine XS.icmpNo X17.here hx rfl (hb hby at_124) rfl (flt (by decide : ¬ ((3 : Int32) < (2 : Int32)))).1 ?_
    show Steps p.tables e below (T17.setTop (mkF m 127 #[.val (.long ja), .second, .val (.long jb), .second, .val (.long jc), .second, .val (.int k), .val (.int (3 : Int32)), .val (.long xa), .second, .val (.long xb), .second, .val (.long xc), .second, .val (.ref r_1), .val (.ref r_2), .val (.ref r_3), .val (.ref b4), .val (.long (maxJ (1000000 : Int64) (((((0 : Int64) + (maxJ (0 : Int64) xa)) + (maxJ (0 : Int64) xb)) + (maxJ (0 : Int64) xc)) / ((3 : Int32).toInt64)))), .second, .unset, .unset, .val (.long (clampJ xa)), .second, .unset, .unset] [])) _
    refine XS.lload X17.here hx rfl (hb hby at_127) rfl ?_
    show Steps p.tables e below (T17.setTop (mkF m 129 #[.val (.long ja), .second, .val (.long jb), .second, .val (.long jc), .second, .val (.int k), .val (.int (3 : Int32)), .val (.long xa), .second, .val (.long xb), .second, .val (.long xc), .second, .val (.ref r_1), .val (.ref r_2), .val (.ref r_3), .val (.ref b4), .val (.long (maxJ (1000000 : Int64) (((((0 : Int64) + (maxJ (0 : Int64) xa)) + (maxJ (0 : Int64) xb)) + (maxJ (0 : Int64) xc)) / ((3 : Int32).toInt64)))), .second, .unset, .unset, .val (.long (clampJ xa)), .second, .unset, .unset] [(.long (clampJ xa))])) _
    refine XS.lload X17.here hx rfl (hb hby at_129) rfl ?_
    show Steps p.tables e below (T17.setTop (mkF m 131 #[.val (.long ja), .second, .val (.long jb), .second, .val (.long jc), .second, .val (.int k), .val (.int (3 : Int32)), .val (.long xa), .second, .val (.long xb), .second, .val (.long xc), .second, .val (.ref r_1), .val (.ref r_2), .val (.ref r_3), .val (.ref b4), .val (.long (maxJ (1000000 : Int64) (((((0 : Int64) + (maxJ (0 : Int64) xa)) + (maxJ (0 : Int64) xb)) + (maxJ (0 : Int64) xc)) / ((3 : Int32).toInt64)))), .second, .unset, .unset, .val (.long (clampJ xa)), .second, .unset, .unset] [(.long xb), (.long (clampJ xa))])) _
    refine st18 _ ?_
    show Steps p.tables e below (T18.setTop (mkF m 134 #[.val (.long ja), .second, .val (.long jb), .second, .val (.long jc), .second, .val (.int k), .val (.int (3 : Int32)), .val (.long xa), .second, .val (.long xb), .second, .val (.long xc), .second, .val (.ref r_1), .val (.ref r_2), .val (.ref r_3), .val (.ref b4), .val (.long (maxJ (1000000 : Int64) (((((0 : Int64) + (maxJ (0 : Int64) xa)) + (maxJ (0 : Int64) xb)) + (maxJ (0 : Int64) xc)) / ((3 : Int32).toInt64)))), .second, .unset, .unset, .val (.long (clampJ xa)), .second, .unset, .unset] [(.long (clampJ xb)), (.long (clampJ xa))])) _
    refine XS.ladd X18.here hx rfl (hb hby at_134) rfl ?_
    show Steps p.tables e below (T18.setTop (mkF m 135 #[.val (.long ja), .second, .val (.long jb), .second, .val (.long jc), .second, .val (.int k), .val (.int (3 : Int32)), .val (.long xa), .second, .val (.long xb), .second, .val (.long xc), .second, .val (.ref r_1), .val (.ref r_2), .val (.ref r_3), .val (.ref b4), .val (.long (maxJ (1000000 : Int64) (((((0 : Int64) + (maxJ (0 : Int64) xa)) + (maxJ (0 : Int64) xb)) + (maxJ (0 : Int64) xc)) / ((3 : Int32).toInt64)))), .second, .unset, .unset, .val (.long (clampJ xa)), .second, .unset, .unset] [(.long ((clampJ xa) + (clampJ xb)))])) _
    refine XS.lstore X18.here hx rfl (hb hby at_135) rfl (l' := #[.val (.long ja), .second, .val (.long jb), .second, .val (.long jc), .second, .val (.int k), .val (.int (3 : Int32)), .val (.long xa), .second, .val (.long xb), .second, .val (.long xc), .second, .val (.ref r_1), .val (.ref r_2), .val (.ref r_3), .val (.ref b4), .val (.long (maxJ (1000000 : Int64) (((((0 : Int64) + (maxJ (0 : Int64) xa)) + (maxJ (0 : Int64) xb)) + (maxJ (0 : Int64) xc)) / ((3 : Int32).toInt64)))), .second, .unset, .unset, .val (.long ((clampJ xa) + (clampJ xb))), .second, .unset, .unset]) rfl ?_
    show Steps p.tables e below (T18.setTop (mkF m 137 #[.val (.long ja), .second, .val (.long jb), .second, .val (.long jc), .second, .val (.int k), .val (.int (3 : Int32)), .val (.long xa), .second, .val (.long xb), .second, .val (.long xc), .second, .val (.ref r_1), .val (.ref r_2), .val (.ref r_3), .val (.ref b4), .val (.long (maxJ (1000000 : Int64) (((((0 : Int64) + (maxJ (0 : Int64) xa)) + (maxJ (0 : Int64) xb)) + (maxJ (0 : Int64) xc)) / ((3 : Int32).toInt64)))), .second, .unset, .unset, .val (.long ((clampJ xa) + (clampJ xb))), .second, .unset, .unset] [])) _
    refine XS.iload X18.here hx rfl (hb hby at_137) rfl ?_
    show Steps p.tables e below (T18.setTop (mkF m 139 #[.val (.long ja), .second, .val (.long jb), .second, .val (.long jc), .second, .val (.int k), .val (.int (3 : Int32)), .val (.long xa), .second, .val (.long xb), .second, .val (.long xc), .second, .val (.ref r_1), .val (.ref r_2), .val (.ref r_3), .val (.ref b4), .val (.long (maxJ (1000000 : Int64) (((((0 : Int64) + (maxJ (0 : Int64) xa)) + (maxJ (0 : Int64) xb)) + (maxJ (0 : Int64) xc)) / ((3 : Int32).toInt64)))), .second, .unset, .unset, .val (.long ((clampJ xa) + (clampJ xb))), .second, .unset, .unset] [(.int (3 : Int32))])) _
    refine XS.iconst X18.here hx rfl (hb hby at_139) ?_
    show Steps p.tables e below (T18.setTop (mkF m 140 #[.val (.long ja), .second, .val (.long jb), .second, .val (.long jc), .second, .val (.int k), .val (.int (3 : Int32)), .val (.long xa), .second, .val (.long xb), .second, .val (.long xc), .second, .val (.ref r_1), .val (.ref r_2), .val (.ref r_3), .val (.ref b4), .val (.long (maxJ (1000000 : Int64) (((((0 : Int64) + (maxJ (0 : Int64) xa)) + (maxJ (0 : Int64) xb)) + (maxJ (0 : Int64) xc)) / ((3 : Int32).toInt64)))), .second, .unset, .unset, .val (.long ((clampJ xa) + (clampJ xb))), .second, .unset, .unset] [(.int (3 : Int32)), (.int (3 : Int32))])) _
    refine XS.icmpNo X18.here hx rfl (hb hby at_140) rfl (flt (by decide : ¬ ((3 : Int32) < (3 : Int32)))).1 ?_
    show Steps p.tables e below (T18.setTop (mkF m 143 #[.val (.long ja), .second, .val (.long jb), .second, .val (.long jc), .second, .val (.int k), .val (.int (3 : Int32)), .val (.long xa), .second, .val (.long xb), .second, .val (.long xc), .second, .val (.ref r_1), .val (.ref r_2), .val (.ref r_3), .val (.ref b4), .val (.long (maxJ (1000000 : Int64) (((((0 : Int64) + (maxJ (0 : Int64) xa)) + (maxJ (0 : Int64) xb)) + (maxJ (0 : Int64) xc)) / ((3 : Int32).toInt64)))), .second, .unset, .unset, .val (.long ((clampJ xa) + (clampJ xb))), .second, .unset, .unset] [])) _
    refine XS.lload X18.here hx rfl (hb hby at_143) rfl ?_
    show Steps p.tables e below (T18.setTop (mkF m 145 #[.val (.long ja), .second, .val (.long jb), .second, .val (.long jc), .second, .val (.int k), .val (.int (3 : Int32)), .val (.long xa), .second, .val (.long xb), .second, .val (.long xc), .second, .val (.ref r_1), .val (.ref r_2), .val (.ref r_3), .val (.ref b4), .val (.long (maxJ (1000000 : Int64) (((((0 : Int64) + (maxJ (0 : Int64) xa)) + (maxJ (0 : Int64) xb)) + (maxJ (0 : Int64) xc)) / ((3 : Int32).toInt64)))), .second, .unset, .unset, .val (.long ((clampJ xa) + (clampJ xb))), .second, .unset, .unset] [(.long ((clampJ xa) + (clampJ xb)))])) _
    refine XS.lload X18.here hx rfl (hb hby at_145) rfl ?_
    show Steps p.tables e below (T18.setTop (mkF m 147 #[.val (.long ja), .second, .val (.long jb), .second, .val (.long jc), .second, .val (.int k), .val (.int (3 : Int32)), .val (.long xa), .second, .val (.long xb), .second, .val (.long xc), .second, .val (.ref r_1), .val (.ref r_2), .val (.ref r_3), .val (.ref b4), .val (.long (maxJ (1000000 : Int64) (((((0 : Int64) + (maxJ (0 : Int64) xa)) + (maxJ (0 : Int64) xb)) + (maxJ (0 : Int64) xc)) / ((3 : Int32).toInt64)))), .second, .unset, .unset, .val (.long ((clampJ xa) + (clampJ xb))), .second, .unset, .unset] [(.long xc), (.long ((clampJ xa) + (clampJ xb)))])) _
    refine st19 _ ?_
    show Steps p.tables e below (T19.setTop (mkF m 150 #[.val (.long ja), .second, .val (.long jb), .second, .val (.long jc), .second, .val (.int k), .val (.int (3 : Int32)), .val (.long xa), .second, .val (.long xb), .second, .val (.long xc), .second, .val (.ref r_1), .val (.ref r_2), .val (.ref r_3), .val (.ref b4), .val (.long (maxJ (1000000 : Int64) (((((0 : Int64) + (maxJ (0 : Int64) xa)) + (maxJ (0 : Int64) xb)) + (maxJ (0 : Int64) xc)) / ((3 : Int32).toInt64)))), .second, .unset, .unset, .val (.long ((clampJ xa) + (clampJ xb))), .second, .unset, .unset] [(.long (clampJ xc)), (.long ((clampJ xa) + (clampJ xb)))])) _
    refine XS.ladd X19.here hx rfl (hb hby at_150) rfl ?_
    show Steps p.tables e below (T19.setTop (mkF m 151 #[.val (.long ja), .second, .val (.long jb), .second, .val (.long jc), .second, .val (.int k), .val (.int (3 : Int32)), .val (.long xa), .second, .val (.long xb), .second, .val (.long xc), .second, .val (.ref r_1), .val (.ref r_2), .val (.ref r_3), .val (.ref b4), .val (.long (maxJ (1000000 : Int64) (((((0 : Int64) + (maxJ (0 : Int64) xa)) + (maxJ (0 : Int64) xb)) + (maxJ (0 : Int64) xc)) / ((3 : Int32).toInt64)))), .second, .unset, .unset, .val (.long ((clampJ xa) + (clampJ xb))), .second, .unset, .unset] [(.long (((clampJ xa) + (clampJ xb)) + (clampJ xc)))])) _
    refine XS.lstore X19.here hx rfl (hb hby at_151) rfl (l' := #[.val (.long ja), .second, .val (.long jb), .second, .val (.long jc), .second, .val (.int k), .val (.int (3 : Int32)), .val (.long xa), .second, .val (.long xb), .second, .val (.long xc), .second, .val (.ref r_1), .val (.ref r_2), .val (.ref r_3), .val (.ref b4), .val (.long (maxJ (1000000 : Int64) (((((0 : Int64) + (maxJ (0 : Int64) xa)) + (maxJ (0 : Int64) xb)) + (maxJ (0 : Int64) xc)) / ((3 : Int32).toInt64)))), .second, .unset, .unset, .val (.long (((clampJ xa) + (clampJ xb)) + (clampJ xc))), .second, .unset, .unset]) rfl ?_
    show Steps p.tables e below (T19.setTop (mkF m 153 #[.val (.long ja), .second, .val (.long jb), .second, .val (.long jc), .second, .val (.int k), .val (.int (3 : Int32)), .val (.long xa), .second, .val (.long xb), .second, .val (.long xc), .second, .val (.ref r_1), .val (.ref r_2), .val (.ref r_3), .val (.ref b4), .val (.long (maxJ (1000000 : Int64) (((((0 : Int64) + (maxJ (0 : Int64) xa)) + (maxJ (0 : Int64) xb)) + (maxJ (0 : Int64) xc)) / ((3 : Int32).toInt64)))), .second, .unset, .unset, .val (.long (((clampJ xa) + (clampJ xb)) + (clampJ xc))), .second, .unset, .unset] [])) _
    refine XS.lload X19.here hx rfl (hb hby at_153) rfl ?_
    show Steps p.tables e below (T19.setTop (mkF m 155 #[.val (.long ja), .second, .val (.long jb), .second, .val (.long jc), .second, .val (.int k), .val (.int (3 : Int32)), .val (.long xa), .second, .val (.long xb), .second, .val (.long xc), .second, .val (.ref r_1), .val (.ref r_2), .val (.ref r_3), .val (.ref b4), .val (.long (maxJ (1000000 : Int64) (((((0 : Int64) + (maxJ (0 : Int64) xa)) + (maxJ (0 : Int64) xb)) + (maxJ (0 : Int64) xc)) / ((3 : Int32).toInt64)))), .second, .unset, .unset, .val (.long (((clampJ xa) + (clampJ xb)) + (clampJ xc))), .second, .unset, .unset] [(.long (((clampJ xa) + (clampJ xb)) + (clampJ xc)))])) _
    refine XS.iload X19.here hx rfl (hb hby at_155) rfl ?_
    show Steps p.tables e below (T19.setTop (mkF m 157 #[.val (.long ja), .second, .val (.long jb), .second, .val (.long jc), .second, .val (.int k), .val (.int (3 : Int32)), .val (.long xa), .second, .val (.long xb), .second, .val (.long xc), .second, .val (.ref r_1), .val (.ref r_2), .val (.ref r_3), .val (.ref b4), .val (.long (maxJ (1000000 : Int64) (((((0 : Int64) + (maxJ (0 : Int64) xa)) + (maxJ (0 : Int64) xb)) + (maxJ (0 : Int64) xc)) / ((3 : Int32).toInt64)))), .second, .unset, .unset, .val (.long (((clampJ xa) + (clampJ xb)) + (clampJ xc))), .second, .unset, .unset] [(.int (3 : Int32)), (.long (((clampJ xa) + (clampJ xb)) + (clampJ xc)))])) _
    refine XS.i2l X19.here hx rfl (hb hby at_157) rfl ?_
    show Steps p.tables e below (T19.setTop (mkF m 158 #[.val (.long ja), .second, .val (.long jb), .second, .val (.long jc), .second, .val (.int k), .val (.int (3 : Int32)), .val (.long xa), .second, .val (.long xb), .second, .val (.long xc), .second, .val (.ref r_1), .val (.ref r_2), .val (.ref r_3), .val (.ref b4), .val (.long (maxJ (1000000 : Int64) (((((0 : Int64) + (maxJ (0 : Int64) xa)) + (maxJ (0 : Int64) xb)) + (maxJ (0 : Int64) xc)) / ((3 : Int32).toInt64)))), .second, .unset, .unset, .val (.long (((clampJ xa) + (clampJ xb)) + (clampJ xc))), .second, .unset, .unset] [(.long ((3 : Int32).toInt64)), (.long (((clampJ xa) + (clampJ xb)) + (clampJ xc)))])) _
    refine XS.ldiv X19.here hx rfl (hb hby at_158) rfl (by decide) ?_
    show Steps p.tables e below (T19.setTop (mkF m 159 #[.val (.long ja), .second, .val (.long jb), .second, .val (.long jc), .second, .val (.int k), .val (.int (3 : Int32)), .val (.long xa), .second, .val (.long xb), .second, .val (.long xc), .second, .val (.ref r_1), .val (.ref r_2), .val (.ref r_3), .val (.ref b4), .val (.long (maxJ (1000000 : Int64) (((((0 : Int64) + (maxJ (0 : Int64) xa)) + (maxJ (0 : Int64) xb)) + (maxJ (0 : Int64) xc)) / ((3 : Int32).toInt64)))), .second, .unset, .unset, .val (.long (((clampJ xa) + (clampJ xb)) + (clampJ xc))), .second, .unset, .unset] [(.long ((((clampJ xa) + (clampJ xb)) + (clampJ xc)) / ((3 : Int32).toInt64)))])) _
    refine XS.lstore X19.here hx rfl (hb hby at_159) rfl (l' := #[.val (.long ja), .second, .val (.long jb), .second, .val (.long jc), .second, .val (.int k), .val (.int (3 : Int32)), .val (.long xa), .second, .val (.long xb), .second, .val (.long xc), .second, .val (.ref r_1), .val (.ref r_2), .val (.ref r_3), .val (.ref b4), .val (.long (maxJ (1000000 : Int64) (((((0 : Int64) + (maxJ (0 : Int64) xa)) + (maxJ (0 : Int64) xb)) + (maxJ (0 : Int64) xc)) / ((3 : Int32).toInt64)))), .second, .unset, .unset, .val (.long (((clampJ xa) + (clampJ xb)) + (clampJ xc))), .second, .val (.long ((((clampJ xa) + (clampJ xb)) + (clampJ xc)) / ((3 : Int32).toInt64))), .second]) rfl ?_
    show Steps p.tables e below (T19.setTop (mkF m 161 #[.val (.long ja), .second, .val (.long jb), .second, .val (.long jc), .second, .val (.int k), .val (.int (3 : Int32)), .val (.long xa), .second, .val (.long xb), .second, .val (.long xc), .second, .val (.ref r_1), .val (.ref r_2), .val (.ref r_3), .val (.ref b4), .val (.long (maxJ (1000000 : Int64) (((((0 : Int64) + (maxJ (0 : Int64) xa)) + (maxJ (0 : Int64) xb)) + (maxJ (0 : Int64) xc)) / ((3 : Int32).toInt64)))), .second, .unset, .unset, .val (.long (((clampJ xa) + (clampJ xb)) + (clampJ xc))), .second, .val (.long ((((clampJ xa) + (clampJ xb)) + (clampJ xc)) / ((3 : Int32).toInt64))), .second] [])) _
    refine XS.lload X19.here hx rfl (hb hby at_161) rfl ?_
    show Steps p.tables e below (T19.setTop (mkF m 163 #[.val (.long ja), .second, .val (.long jb), .second, .val (.long jc), .second, .val (.int k), .val (.int (3 : Int32)), .val (.long xa), .second, .val (.long xb), .second, .val (.long xc), .second, .val (.ref r_1), .val (.ref r_2), .val (.ref r_3), .val (.ref b4), .val (.long (maxJ (1000000 : Int64) (((((0 : Int64) + (maxJ (0 : Int64) xa)) + (maxJ (0 : Int64) xb)) + (maxJ (0 : Int64) xc)) / ((3 : Int32).toInt64)))), .second, .unset, .unset, .val (.long (((clampJ xa) + (clampJ xb)) + (clampJ xc))), .second, .val (.long ((((clampJ xa) + (clampJ xb)) + (clampJ xc)) / ((3 : Int32).toInt64))), .second] [(.long ((((clampJ xa) + (clampJ xb)) + (clampJ xc)) / ((3 : Int32).toInt64)))])) _
    refine X19.ldc2Long hx hown (mvT hZ (hw _ (List.mem_of_getElem? (i := 75) rfl))) (g := (mkF m 163 #[.val (.long ja), .second, .val (.long jb), .second, .val (.long jc), .second, .val (.int k), .val (.int (3 : Int32)), .val (.long xa), .second, .val (.long xb), .second, .val (.long xc), .second, .val (.ref r_1), .val (.ref r_2), .val (.ref r_3), .val (.ref b4), .val (.long (maxJ (1000000 : Int64) (((((0 : Int64) + (maxJ (0 : Int64) xa)) + (maxJ (0 : Int64) xb)) + (maxJ (0 : Int64) xc)) / ((3 : Int32).toInt64)))), .second, .unset, .unset, .val (.long (((clampJ xa) + (clampJ xb)) + (clampJ xc))), .second, .val (.long ((((clampJ xa) + (clampJ xb)) + (clampJ xc)) / ((3 : Int32).toInt64))), .second] [(.long ((((clampJ xa) + (clampJ xb)) + (clampJ xc)) / ((3 : Int32).toInt64)))])) rfl (hb hby at_163) _ ?_
    show Steps p.tables e below (T19.setTop (mkF m 166 #[.val (.long ja), .second, .val (.long jb), .second, .val (.long jc), .second, .val (.int k), .val (.int (3 : Int32)), .val (.long xa), .second, .val (.long xb), .second, .val (.long xc), .second, .val (.ref r_1), .val (.ref r_2), .val (.ref r_3), .val (.ref b4), .val (.long (maxJ (1000000 : Int64) (((((0 : Int64) + (maxJ (0 : Int64) xa)) + (maxJ (0 : Int64) xb)) + (maxJ (0 : Int64) xc)) / ((3 : Int32).toInt64)))), .second, .unset, .unset, .val (.long (((clampJ xa) + (clampJ xb)) + (clampJ xc))), .second, .val (.long ((((clampJ xa) + (clampJ xb)) + (clampJ xc)) / ((3 : Int32).toInt64))), .second] [(.long (1000000 : Int64)), (.long ((((clampJ xa) + (clampJ xb)) + (clampJ xc)) / ((3 : Int32).toInt64)))])) _
    refine XS.lcmp X19.here hx rfl (hb hby at_166) rfl ?_
    show Steps p.tables e below (T19.setTop (mkF m 167 #[.val (.long ja), .second, .val (.long jb), .second, .val (.long jc), .second, .val (.int k), .val (.int (3 : Int32)), .val (.long xa), .second, .val (.long xb), .second, .val (.long xc), .second, .val (.ref r_1), .val (.ref r_2), .val (.ref r_3), .val (.ref b4), .val (.long (maxJ (1000000 : Int64) (((((0 : Int64) + (maxJ (0 : Int64) xa)) + (maxJ (0 : Int64) xb)) + (maxJ (0 : Int64) xc)) / ((3 : Int32).toInt64)))), .second, .unset, .unset, .val (.long (((clampJ xa) + (clampJ xb)) + (clampJ xc))), .second, .val (.long ((((clampJ xa) + (clampJ xb)) + (clampJ xc)) / ((3 : Int32).toInt64))), .second] [(.int (lcmpW ((((clampJ xa) + (clampJ xb)) + (clampJ xc)) / ((3 : Int32).toInt64)) (1000000 : Int64)))])) _
    refine XS.ifNo X19.here hx rfl (hb hby at_167) rfl ((if0 _ _).trans (tlt (hc167 : (lcmpW ((((clampJ xa) + (clampJ xb)) + (clampJ xc)) / ((3 : Int32).toInt64)) (1000000 : Int64)) < (0 : Int32))).2.1) ?_
    show Steps p.tables e below (T19.setTop (mkF m 170 #[.val (.long ja), .second, .val (.long jb), .second, .val (.long jc), .second, .val (.int k), .val (.int (3 : Int32)), .val (.long xa), .second, .val (.long xb), .second, .val (.long xc), .second, .val (.ref r_1), .val (.ref r_2), .val (.ref r_3), .val (.ref b4), .val (.long (maxJ (1000000 : Int64) (((((0 : Int64) + (maxJ (0 : Int64) xa)) + (maxJ (0 : Int64) xb)) + (maxJ (0 : Int64) xc)) / ((3 : Int32).toInt64)))), .second, .unset, .unset, .val (.long (((clampJ xa) + (clampJ xb)) + (clampJ xc))), .second, .val (.long ((((clampJ xa) + (clampJ xb)) + (clampJ xc)) / ((3 : Int32).toInt64))), .second] [])) _
    refine X19.ldc2Long hx hown (mvT hZ (hw _ (List.mem_of_getElem? (i := 75) rfl))) (g := (mkF m 170 #[.val (.long ja), .second, .val (.long jb), .second, .val (.long jc), .second, .val (.int k), .val (.int (3 : Int32)), .val (.long xa), .second, .val (.long xb), .second, .val (.long xc), .second, .val (.ref r_1), .val (.ref r_2), .val (.ref r_3), .val (.ref b4), .val (.long (maxJ (1000000 : Int64) (((((0 : Int64) + (maxJ (0 : Int64) xa)) + (maxJ (0 : Int64) xb)) + (maxJ (0 : Int64) xc)) / ((3 : Int32).toInt64)))), .second, .unset, .unset, .val (.long (((clampJ xa) + (clampJ xb)) + (clampJ xc))), .second, .val (.long ((((clampJ xa) + (clampJ xb)) + (clampJ xc)) / ((3 : Int32).toInt64))), .second] [])) rfl (hb hby at_170) _ ?_
    show Steps p.tables e below (T19.setTop (mkF m 173 #[.val (.long ja), .second, .val (.long jb), .second, .val (.long jc), .second, .val (.int k), .val (.int (3 : Int32)), .val (.long xa), .second, .val (.long xb), .second, .val (.long xc), .second, .val (.ref r_1), .val (.ref r_2), .val (.ref r_3), .val (.ref b4), .val (.long (maxJ (1000000 : Int64) (((((0 : Int64) + (maxJ (0 : Int64) xa)) + (maxJ (0 : Int64) xb)) + (maxJ (0 : Int64) xc)) / ((3 : Int32).toInt64)))), .second, .unset, .unset, .val (.long (((clampJ xa) + (clampJ xb)) + (clampJ xc))), .second, .val (.long ((((clampJ xa) + (clampJ xb)) + (clampJ xc)) / ((3 : Int32).toInt64))), .second] [(.long (1000000 : Int64))])) _
    refine XS.lstore X19.here hx rfl (hb hby at_173) rfl (l' := #[.val (.long ja), .second, .val (.long jb), .second, .val (.long jc), .second, .val (.int k), .val (.int (3 : Int32)), .val (.long xa), .second, .val (.long xb), .second, .val (.long xc), .second, .val (.ref r_1), .val (.ref r_2), .val (.ref r_3), .val (.ref b4), .val (.long (maxJ (1000000 : Int64) (((((0 : Int64) + (maxJ (0 : Int64) xa)) + (maxJ (0 : Int64) xb)) + (maxJ (0 : Int64) xc)) / ((3 : Int32).toInt64)))), .second, .val (.long (1000000 : Int64)), .second, .val (.long (((clampJ xa) + (clampJ xb)) + (clampJ xc))), .second, .val (.long ((((clampJ xa) + (clampJ xb)) + (clampJ xc)) / ((3 : Int32).toInt64))), .second]) rfl ?_
    show Steps p.tables e below (T19.setTop (mkF m 175 #[.val (.long ja), .second, .val (.long jb), .second, .val (.long jc), .second, .val (.int k), .val (.int (3 : Int32)), .val (.long xa), .second, .val (.long xb), .second, .val (.long xc), .second, .val (.ref r_1), .val (.ref r_2), .val (.ref r_3), .val (.ref b4), .val (.long (maxJ (1000000 : Int64) (((((0 : Int64) + (maxJ (0 : Int64) xa)) + (maxJ (0 : Int64) xb)) + (maxJ (0 : Int64) xc)) / ((3 : Int32).toInt64)))), .second, .val (.long (1000000 : Int64)), .second, .val (.long (((clampJ xa) + (clampJ xb)) + (clampJ xc))), .second, .val (.long ((((clampJ xa) + (clampJ xb)) + (clampJ xc)) / ((3 : Int32).toInt64))), .second] [])) _
    refine XS.goto X19.here hx rfl (pc0 := 175) (pc' := 182) rfl (hb hby at_175) (by decide) (by decide) ?_
    show Steps p.tables e below (T19.setTop (mkF m 182 #[.val (.long ja), .second, .val (.long jb), .second, .val (.long jc), .second, .val (.int k), .val (.int (3 : Int32)), .val (.long xa), .second, .val (.long xb), .second, .val (.long xc), .second, .val (.ref r_1), .val (.ref r_2), .val (.ref r_3), .val (.ref b4), .val (.long (maxJ (1000000 : Int64) (((((0 : Int64) + (maxJ (0 : Int64) xa)) + (maxJ (0 : Int64) xb)) + (maxJ (0 : Int64) xc)) / ((3 : Int32).toInt64)))), .second, .val (.long (1000000 : Int64)), .second, .val (.long (((clampJ xa) + (clampJ xb)) + (clampJ xc))), .second, .val (.long ((((clampJ xa) + (clampJ xb)) + (clampJ xc)) / ((3 : Int32).toInt64))), .second] [])) _
    refine XS.lload X19.here hx rfl (hb hby at_182) rfl ?_
    show Steps p.tables e below (T19.setTop (mkF m 184 #[.val (.long ja), .second, .val (.long jb), .second, .val (.long jc), .second, .val (.int k), .val (.int (3 : Int32)), .val (.long xa), .second, .val (.long xb), .second, .val (.long xc), .second, .val (.ref r_1), .val (.ref r_2), .val (.ref r_3), .val (.ref b4), .val (.long (maxJ (1000000 : Int64) (((((0 : Int64) + (maxJ (0 : Int64) xa)) + (maxJ (0 : Int64) xb)) + (maxJ (0 : Int64) xc)) / ((3 : Int32).toInt64)))), .second, .val (.long (1000000 : Int64)), .second, .val (.long (((clampJ xa) + (clampJ xb)) + (clampJ xc))), .second, .val (.long ((((clampJ xa) + (clampJ xb)) + (clampJ xc)) / ((3 : Int32).toInt64))), .second] [(.long (maxJ (1000000 : Int64) (((((0 : Int64) + (maxJ (0 : Int64) xa)) + (maxJ (0 : Int64) xb)) + (maxJ (0 : Int64) xc)) / ((3 : Int32).toInt64))))])) _
    refine XS.lload X19.here hx rfl (hb hby at_184) rfl ?_
    show Steps p.tables e below (T19.setTop (mkF m 186 #[.val (.long ja), .second, .val (.long jb), .second, .val (.long jc), .second, .val (.int k), .val (.int (3 : Int32)), .val (.long xa), .second, .val (.long xb), .second, .val (.long xc), .second, .val (.ref r_1), .val (.ref r_2), .val (.ref r_3), .val (.ref b4), .val (.long (maxJ (1000000 : Int64) (((((0 : Int64) + (maxJ (0 : Int64) xa)) + (maxJ (0 : Int64) xb)) + (maxJ (0 : Int64) xc)) / ((3 : Int32).toInt64)))), .second, .val (.long (1000000 : Int64)), .second, .val (.long (((clampJ xa) + (clampJ xb)) + (clampJ xc))), .second, .val (.long ((((clampJ xa) + (clampJ xb)) + (clampJ xc)) / ((3 : Int32).toInt64))), .second] [(.long (1000000 : Int64)), (.long (maxJ (1000000 : Int64) (((((0 : Int64) + (maxJ (0 : Int64) xa)) + (maxJ (0 : Int64) xb)) + (maxJ (0 : Int64) xc)) / ((3 : Int32).toInt64))))])) _
    refine XS.lcmp X19.here hx rfl (hb hby at_186) rfl ?_
    show Steps p.tables e below (T19.setTop (mkF m 187 #[.val (.long ja), .second, .val (.long jb), .second, .val (.long jc), .second, .val (.int k), .val (.int (3 : Int32)), .val (.long xa), .second, .val (.long xb), .second, .val (.long xc), .second, .val (.ref r_1), .val (.ref r_2), .val (.ref r_3), .val (.ref b4), .val (.long (maxJ (1000000 : Int64) (((((0 : Int64) + (maxJ (0 : Int64) xa)) + (maxJ (0 : Int64) xb)) + (maxJ (0 : Int64) xc)) / ((3 : Int32).toInt64)))), .second, .val (.long (1000000 : Int64)), .second, .val (.long (((clampJ xa) + (clampJ xb)) + (clampJ xc))), .second, .val (.long ((((clampJ xa) + (clampJ xb)) + (clampJ xc)) / ((3 : Int32).toInt64))), .second] [(.int (lcmpW (maxJ (1000000 : Int64) (((((0 : Int64) + (maxJ (0 : Int64) xa)) + (maxJ (0 : Int64) xb)) + (maxJ (0 : Int64) xc)) / ((3 : Int32).toInt64))) (1000000 : Int64)))])) _
    refine XS.ifNo X19.here hx rfl (hb hby at_187) rfl ((if0 _ _).trans (teq (((lw_eq _ _).mpr (fin_b3 hc167)) : (lcmpW (maxJ (1000000 : Int64) (((((0 : Int64) + (maxJ (0 : Int64) xa)) + (maxJ (0 : Int64) xb)) + (maxJ (0 : Int64) xc)) / ((3 : Int32).toInt64))) (1000000 : Int64)) = (0 : Int32))).2) ?_
    show Steps p.tables e below (T19.setTop (mkF m 190 #[.val (.long ja), .second, .val (.long jb), .second, .val (.long jc), .second, .val (.int k), .val (.int (3 : Int32)), .val (.long xa), .second, .val (.long xb), .second, .val (.long xc), .second, .val (.ref r_1), .val (.ref r_2), .val (.ref r_3), .val (.ref b4), .val (.long (maxJ (1000000 : Int64) (((((0 : Int64) + (maxJ (0 : Int64) xa)) + (maxJ (0 : Int64) xb)) + (maxJ (0 : Int64) xc)) / ((3 : Int32).toInt64)))), .second, .val (.long (1000000 : Int64)), .second, .val (.long (((clampJ xa) + (clampJ xb)) + (clampJ xc))), .second, .val (.long ((((clampJ xa) + (clampJ xb)) + (clampJ xc)) / ((3 : Int32).toInt64))), .second] [])) _
    refine XS.iconst X19.here hx rfl (hb hby at_190) ?_
    show Steps p.tables e below (T19.setTop (mkF m 191 #[.val (.long ja), .second, .val (.long jb), .second, .val (.long jc), .second, .val (.int k), .val (.int (3 : Int32)), .val (.long xa), .second, .val (.long xb), .second, .val (.long xc), .second, .val (.ref r_1), .val (.ref r_2), .val (.ref r_3), .val (.ref b4), .val (.long (maxJ (1000000 : Int64) (((((0 : Int64) + (maxJ (0 : Int64) xa)) + (maxJ (0 : Int64) xb)) + (maxJ (0 : Int64) xc)) / ((3 : Int32).toInt64)))), .second, .val (.long (1000000 : Int64)), .second, .val (.long (((clampJ xa) + (clampJ xb)) + (clampJ xc))), .second, .val (.long ((((clampJ xa) + (clampJ xb)) + (clampJ xc)) / ((3 : Int32).toInt64))), .second] [(.int (1 : Int32))])) _
    refine XS.goto X19.here hx rfl (pc0 := 191) (pc' := 195) rfl (hb hby at_191) (by decide) (by decide) ?_
    show Steps p.tables e below (T19.setTop (mkF m 195 #[.val (.long ja), .second, .val (.long jb), .second, .val (.long jc), .second, .val (.int k), .val (.int (3 : Int32)), .val (.long xa), .second, .val (.long xb), .second, .val (.long xc), .second, .val (.ref r_1), .val (.ref r_2), .val (.ref r_3), .val (.ref b4), .val (.long (maxJ (1000000 : Int64) (((((0 : Int64) + (maxJ (0 : Int64) xa)) + (maxJ (0 : Int64) xb)) + (maxJ (0 : Int64) xc)) / ((3 : Int32).toInt64)))), .second, .val (.long (1000000 : Int64)), .second, .val (.long (((clampJ xa) + (clampJ xb)) + (clampJ xc))), .second, .val (.long ((((clampJ xa) + (clampJ xb)) + (clampJ xc)) / ((3 : Int32).toInt64))), .second] [(.int (1 : Int32))])) _
    exact retN X19 hx (t := .boolean) Bd.returns (by simp) (hb hby at_195) hr
  · show Q_law Z ja jb jc k wz wg h0 n0 _ T19.heap _
    rw [kh19]
    exact ⟨rfl, N19⟩
set_option maxRecDepth 65536 in
set_option maxHeartbeats 40000000 in
theorem law (l : Launch) (Z : State) (a0 : Array Value) (hw : ∀ d ∈ tables_1, d.before a0 Z = true) (ws : List Jvm.Cond) (ja : Int64) (jb : Int64) (jc : Int64) (k : Int32) (wz : Addr) (wg : Addr) (h0 : Heap) (n0 : Nat) (O0 : Old Z n0 h0) (G0 : Sta Z Z.heap "com/example/admitd/admitd/gate/ServiceTime" "LEAST_NANOS" "J" (.long (1000000 : Int64))) (G1 : Sta Z Z.heap "java/time/Duration" "ZERO" "Ljava/time/Duration;" (.ref wz)) (G2 : Exa Z Z.heap wz "java/time/Duration") (G3 : Fld Z Z.heap wz "java/time/Duration" "seconds" "J" (.long (0 : Int64))) (G4 : Fld Z Z.heap wz "java/time/Duration" "nanos" "I" (.int (0 : Int32))) (G5 : Sta Z Z.heap "com/example/admitd/admitd/gate/ServiceTime" "FIRST_GUESS" "Ljava/time/Duration;" (.ref wg)) (G6 : Exa Z Z.heap wg "java/time/Duration") (G7 : Fld Z Z.heap wg "java/time/Duration" "seconds" "J" (.long (1 : Int64))) (G8 : Fld Z Z.heap wg "java/time/Duration" "nanos" "I" (.int (0 : Int32))) :
    MetFree l x (head1 (Jvm.Cond.code x code maxLocals ret :: ws) room_1) (fun zA zU => zA = #[(.long ja), (.long jb), (.long jc), (.int k)] ∧ Z.Warmed39 zU.vm ∧ zU.heap = h0) (fun _ _ _ _ _ => True) (fun _ zU zo zU' => ∃ zv zL, zo = .returned zv ∧ Q_law Z ja jb jc k wz wg h0 n0 zv zU'.heap zL ∧ FrameEnd zU zo zU' zL room_1.cells room_1.slots) := by
  have hk4 := own_and3 k
  by_cases k0 : (k &&& (3 : Int32)) = (0 : Int32)
  · exact law_0 l Z a0 hw ws ja jb jc k wz wg h0 n0 O0 G0 G1 G2 G3 G4 G5 G6 G7 G8 _ _ _ rfl rfl rfl k0
  · by_cases k1 : (k &&& (3 : Int32)) = (1 : Int32)
    · by_cases h : (lcmpW ((clampJ (ja >>> ((2 : Int32) &&& 0x3f).toInt64)) / ((1 : Int32).toInt64)) (1000000 : Int64)) < (0 : Int32)
      · exact law_1b l Z a0 hw ws ja jb jc k wz wg h0 n0 O0 G0 G1 G2 G3 G4 G5 G6 G7 G8 _ _ _ rfl rfl rfl k1 h
      · exact law_1a l Z a0 hw ws ja jb jc k wz wg h0 n0 O0 G0 G1 G2 G3 G4 G5 G6 G7 G8 _ _ _ rfl rfl rfl k1 h
    · by_cases k2 : (k &&& (3 : Int32)) = (2 : Int32)
      · by_cases h : (lcmpW (((clampJ (ja >>> ((2 : Int32) &&& 0x3f).toInt64)) + (clampJ (jb >>> ((2 : Int32) &&& 0x3f).toInt64))) / ((2 : Int32).toInt64)) (1000000 : Int64)) < (0 : Int32)
        · exact law_2b l Z a0 hw ws ja jb jc k wz wg h0 n0 O0 G0 G1 G2 G3 G4 G5 G6 G7 G8 _ _ _ rfl rfl rfl k2 h
        · exact law_2a l Z a0 hw ws ja jb jc k wz wg h0 n0 O0 G0 G1 G2 G3 G4 G5 G6 G7 G8 _ _ _ rfl rfl rfl k2 h
      · have k3 : (k &&& (3 : Int32)) = (3 : Int32) := by exact hk4.elim (fun h => absurd h k0) fun h => h.elim (fun h => absurd h k1) fun h => h.elim (fun h => absurd h k2) id
        by_cases h : (lcmpW ((((clampJ (ja >>> ((2 : Int32) &&& 0x3f).toInt64)) + (clampJ (jb >>> ((2 : Int32) &&& 0x3f).toInt64))) + (clampJ (jc >>> ((2 : Int32) &&& 0x3f).toInt64))) / ((3 : Int32).toInt64)) (1000000 : Int64)) < (0 : Int32)
        · exact law_3b l Z a0 hw ws ja jb jc k wz wg h0 n0 O0 G0 G1 G2 G3 G4 G5 G6 G7 G8 _ _ _ rfl rfl rfl k3 h
        · exact law_3a l Z a0 hw ws ja jb jc k wz wg h0 n0 O0 G0 G1 G2 G3 G4 G5 G6 G7 G8 _ _ _ rfl rfl rfl k3 h
set_option maxRecDepth 65536 in
set_option maxHeartbeats 40000000 in
theorem comes_1 {Post : Tables → Env → Array Value → State → Outcome → State → Prop} (hpost : ∀ tb e args s v u, (limb_1_1.after args s (.returned v) u = true ∧ limb_1_2.after args s (.returned v) u = true ∧ True) → FrameEnd s (.returned v) u (Jvm.fieldLocs frame_1_writes args s ++ Jvm.arrayLocs frame_1_arrays args s ++ Jvm.staticLocs frame_1_statics s) 24 192 → Post tb e args s (.returned v) u) :
    ArmFor flags0 classFile x code maxLocals ret World_1 tables_1 room_1 Calls_1 rest_1 Pre_1 Post := by
  intro l hfl _ _ p e ha hc hk s m args below hf hA hF happ hP
  obtain ⟨hcalls, hrest, hpre⟩ := hP
  obtain ⟨-, -, -, hnamed, -, -, -, hat⟩ := (Spec.applies_iff hf).mp happ
  obtain ⟨hg, hn⟩ := and_e (Cond.before_iff.mp (show (Jvm.Cond.and given_1 narrow_1).before args s = true from hpre))
  obtain ⟨gA0, gB0⟩ := and_e hg
  obtain ⟨gA1, gB1⟩ := and_e gB0
  obtain ⟨gA2, gB2⟩ := and_e gB1
  obtain ⟨gA3, gB3⟩ := and_e gB2
  obtain ⟨w0, w1, w2, w3, rfl⟩ : ∃ w0 w1 w2 w3 : Value, args = #[w0, w1, w2, w3] := by
    have hs : args.size = 4 := by simpa [Cond.value, given_1] using gA0
    obtain ⟨L⟩ := args
    match L, hs with
    | [w0, w1, w2, w3], _ => exact ⟨w0, w1, w2, w3, rfl⟩
  have hw := fun d (hd : d ∈ tables_1) => atoms_spec (ws := Jvm.Cond.code x code maxLocals ret :: tables_1) hat d (List.mem_cons_of_mem _ hd)
  have hfit : Fit s := fun {y c} hc i hi => by
    obtain ⟨ha, rfl⟩ := Array.getElem?_eq_some_iff.mp hc
    have q := List.all_eq_true.mp ((Array.all_eq_true_iff_forall_mem.mp hF) _ (Array.getElem_mem ha)) i (List.mem_range.mpr hi)
    simpa [Array.getElem?_eq_getElem hi] using q
  obtain ⟨hsets, hown0⟩ := atoms_of _ (rest_1_c_eq ▸ (show rest_1_c.before _ s = true from hrest))
  have hr0 := Cond.before_iff.mp hown0
  obtain ⟨i0, ei0⟩ := isL_v gA1
  obtain rfl : w0 = (.long i0) := Option.some.inj ei0
  obtain ⟨i1, ei1⟩ := isL_v gA2
  obtain rfl : w1 = (.long i1) := Option.some.inj ei1
  obtain ⟨i2, ei2⟩ := isL_v gA3
  obtain rfl : w2 = (.long i2) := Option.some.inj ei2
  obtain ⟨i3, ei3⟩ := is_v gB3
  obtain rfl : w3 = (.int i3) := Option.some.inj ei3
  obtain ⟨g1, hn⟩ := and_e hn
  obtain ⟨g2, hn⟩ := and_e hn
  obtain ⟨g3, g4⟩ := and_e hn
  obtain ⟨wg, vg, Eg⟩ := own_exa g2
  have Fg1 := own_fld vg (own_eqL g3)
  have Fg2 := own_fld vg (own_eqI g4)
  have SL := Sta.start (own_eqL g1) (Or.inr ⟨(hw _ (List.mem_of_getElem? (i := 25) rfl)), (hw _ (List.mem_of_getElem? (i := 68) rfl))⟩)
  have SG := Sta.start vg (Or.inr ⟨(hw _ (List.mem_of_getElem? (i := 25) rfl)), (hw _ (List.mem_of_getElem? (i := 77) rfl))⟩)
  obtain ⟨wz, vz, Ez⟩ := own_exa (Cond.before_iff.mp (hsets _ (List.mem_of_getElem? (i := 2) rfl)))
  have Fz1 := own_fld vz (own_eqL (Cond.before_iff.mp (hsets _ (List.mem_of_getElem? (i := 3) rfl))))
  have Fz2 := own_fld vz (own_eqI (Cond.before_iff.mp (hsets _ (List.mem_of_getElem? (i := 4) rfl))))
  have SZ := Sta.start vz (Or.inl (hsets _ (List.mem_of_getElem? (i := 1) rfl)))
  obtain ⟨n, o, h1, h2, h3, _, L, rfl, ⟨rfl, N⟩, hq⟩ := law l s _ hw tables_1 i0 i1 i2 i3 wz wg s.heap s.heap.size (Old.start s) SL SZ Ez Fz1 Fz2 SG Eg Fg1 Fg2 p e ha hc hk s m _ below hf ((Spec.applies_iff_loose hf).mp happ).1 ⟨rfl, State.Warmed39.refl s, rfl⟩ trivial
  refine ⟨n, _, h1, h2, h3, hpost _ _ _ _ _ _ ⟨Cond.after_iff.mpr rfl, Cond.after_iff.mpr (eq_i res_at (Term.int_eval (1)) rfl), trivial⟩ ⟨hq.1, hq.2.1, (hq.2.2.sift fun y hy => Or.inr (N y hy)).mono (by decide) (by decide)⟩⟩
theorem main_1_1 : Claimed_1_1 := comes_1 fun _ _ _ _ _ _ h hF => ⟨h.1, hF⟩
theorem main_1_2 : Claimed_1_2 := comes_1 fun _ _ _ _ _ _ h hF => ⟨h.2.1, hF⟩
end Jvm.Pilot.@@N@@
namespace Jvm.Pilot.@@N@@
open Jvm Jvm.ClassFile Sem Op Lib Jvm.Free Jvm.Stand Jvm.Pilot.@@N@@.Jvm.D
/-! MADE BY PROGRAM (witnessworld.py) out of the Statement's table words and the real class files: 15 classes; the members and pool entries that the words name. The judged class is class 1, her method 1. -/
namespace start1
open Jvm.ClassFile
def u (s : String) : CpInfo := .utf8 (stringToUtf16 s)
/-- a pool by its gaps: so many unusable entries, then the entry; so many at the end -/
def gap : Nat → List CpInfo → List CpInfo
  | 0, r => r
  | n + 1, r => .unusable :: gap n r
def poolList (es : List (Nat × CpInfo)) (last : Nat) : List CpInfo := es.foldr (fun e r => gap e.1 (e.2 :: r)) (gap last [])
def pool (es : List (Nat × CpInfo)) (last : Nat) : Array CpInfo := ⟨poolList es last⟩
def fileOf (pool : Array CpInfo) (this : Nat) (attrs : Array Attribute := #[]) (ms : Array MethodInfo := #[]) (fl : Nat := 33) (sup : Nat := 0) (ifs : Array Nat := #[]) (fds : Array FieldInfo := #[]) : ClassFile where
  minorVersion := 0
  majorVersion := 65
  constantPool := pool
  accessFlags := fl
  thisClass := this
  superClass := sup
  interfaces := ifs
  fields := fds
  methods := ms
  attributes := attrs
def plain (name : String) (sup : Option ClassId) : Class where
  name := name
  kind := .ordinary
  loader := none
  accessFlags := 33
  super := sup
  interfaces := #[]
  cf := none
  fields := #[]
  methods := #[]
  instanceTypes := #[]
  staticTypes := #[]
  resolved := #[]
  callSites := []
  init := .initialized
  statics := none
  mirror := none

def pool0 : Array CpInfo := pool [(5, u "<init>"), (0, u "()V"), (1, .class_ 10), (1, u "java/lang/Object")] 113

def k0c0 : Code := { maxStack := 0, maxLocals := 1, code := object_method_1_code, exceptionTable := #[], attributes := #[] }
def k0m0 : Method := { name := "<init>", desc := "()V", sig := { parameters := [], returnType := none }, accessFlags := 1, code := some k0c0 }
/-- java/lang/Object -/
def k0 : Class := { plain "java/lang/Object" none with
  accessFlags := 33
  interfaces := #[]
  cf := some (fileOf pool0 8 #[] #[{ accessFlags := 1, nameIndex := 5, descriptorIndex := 6, attributes := #[] }] 33 0 #[] #[])
  fields := #[]
  methods := #[k0m0]
  instanceTypes := #[]
  staticTypes := #[]
  resolved := Array.replicate 124 none
  statics := none }

def pool1 : Array CpInfo := pool [(2, .class_ 4), (0, .nameAndType 5 6), (0, u "java/lang/Object"), (0, u "<init>"), (0, u "()V"), (0, .methodref 8 9), (0, .class_ 10), (0, .nameAndType 11 12), (0, u "java/time/Duration"), (0, u "ofNanos"), (0, u "(J)Ljava/time/Duration;"), (0, .class_ 14), (0, u "com/example/admitd/admitd/gate/ServiceTime"), (0, .methodref 13 3), (0, .methodref 13 17), (0, .nameAndType 18 19), (0, u "record"), (0, u "(Ljava/time/Duration;)V"), (0, .methodref 13 21), (0, .nameAndType 22 23), (0, u "mean"), (0, u "()Ljava/time/Duration;"), (0, .methodref 8 25), (0, .nameAndType 26 27), (0, u "toNanos"), (0, u "()J"), (0, .long 1000000000), (1, .methodref 31 32), (0, .class_ 33), (0, .nameAndType 34 35), (0, u "com/example/admitd/admitd/gate/ServiceTimeMeanPinLaw"), (0, u "clamp"), (0, u "(J)J"), (0, .long 1000000), (3, u "law"), (0, u "(JJJI)Z")] 3

def k1m0 : Method := { name := "<init>", desc := "()V", sig := { parameters := [], returnType := none }, accessFlags := 1, code := none }
def k1c1 : Code := { maxStack := 4, maxLocals := 26, code := code, exceptionTable := #[], attributes := #[] }
def k1m1 : Method := { name := "law", desc := "(JJJI)Z", sig := { parameters := [.long, .long, .long, .int], returnType := some .boolean }, accessFlags := 9, code := some k1c1 }
def k1c2 : Code := { maxStack := 4, maxLocals := 2, code := method_3_code, exceptionTable := #[], attributes := #[] }
def k1m2 : Method := { name := "clamp", desc := "(J)J", sig := { parameters := [.long], returnType := some .long }, accessFlags := 10, code := some k1c2 }
/-- com/example/admitd/admitd/gate/ServiceTimeMeanPinLaw -/
def k1 : Class := { plain "com/example/admitd/admitd/gate/ServiceTimeMeanPinLaw" (some 0) with
  accessFlags := 49
  interfaces := #[]
  cf := some (fileOf pool1 31 #[] #[{ accessFlags := 1, nameIndex := 5, descriptorIndex := 6, attributes := #[] }, { accessFlags := 9, nameIndex := 40, descriptorIndex := 41, attributes := #[] }, { accessFlags := 10, nameIndex := 34, descriptorIndex := 35, attributes := #[] }] 49 2 #[] #[])
  fields := #[]
  methods := #[k1m0, k1m1, k1m2]
  instanceTypes := #[]
  staticTypes := #[]
  resolved := Array.replicate 45 none
  statics := none }

def pool2 : Array CpInfo := pool [(1, .class_ 2), (0, u "java/time/temporal/TemporalAmount"), (0, .class_ 4), (0, u "java/lang/Object")] 11

/-- java/time/temporal/TemporalAmount -/
def k2 : Class := { plain "java/time/temporal/TemporalAmount" (some 0) with
  accessFlags := 1537
  interfaces := #[]
  cf := some (fileOf pool2 1 #[] #[] 1537 3 #[] #[])
  fields := #[]
  methods := #[]
  instanceTypes := #[]
  staticTypes := #[]
  resolved := Array.replicate 16 none
  statics := none }

def pool3 : Array CpInfo := pool [(1, .class_ 2), (0, u "java/lang/Comparable"), (0, .class_ 4), (0, u "java/lang/Object")] 7

/-- java/lang/Comparable -/
def k3 : Class := { plain "java/lang/Comparable" (some 0) with
  accessFlags := 1537
  interfaces := #[]
  cf := some (fileOf pool3 1 #[] #[] 1537 3 #[] #[])
  fields := #[]
  methods := #[]
  instanceTypes := #[]
  staticTypes := #[]
  resolved := Array.replicate 12 none
  statics := none }

def pool4 : Array CpInfo := pool [(1, .class_ 2), (0, u "java/io/Serializable"), (0, .class_ 4), (0, u "java/lang/Object")] 2

/-- java/io/Serializable -/
def k4 : Class := { plain "java/io/Serializable" (some 0) with
  accessFlags := 1537
  interfaces := #[]
  cf := some (fileOf pool4 1 #[] #[] 1537 3 #[] #[])
  fields := #[]
  methods := #[]
  instanceTypes := #[]
  staticTypes := #[]
  resolved := Array.replicate 7 none
  statics := none }

def pool5 : Array CpInfo := pool [(5, .class_ 7), (1, u "java/lang/Math"), (0, u "multiplyExact"), (1, .methodref 11 12), (0, .class_ 13), (0, .nameAndType 14 15), (0, u "java/time/Duration"), (0, u "create"), (0, u "(JI)Ljava/time/Duration;"), (0, .long 1000000000), (4, u "(JJ)J"), (0, .methodref 5 23), (0, .nameAndType 24 21), (0, u "addExact"), (6, .integer 1000000000), (0, .fieldref 11 33), (0, .nameAndType 34 35), (0, u "ZERO"), (0, u "Ljava/time/Duration;"), (13, .class_ 51), (1, u "java/time/temporal/TemporalAmount"), (27, .class_ 81), (1, u "java/time/Duration$Lazy"), (35, u "seconds"), (21, u "<init>"), (17, .nameAndType 139 158), (0, u "()V"), (39, u "ofNanos"), (0, u "(J)Ljava/time/Duration;"), (15, .methodref 11 216), (0, .nameAndType 139 217), (0, u "(JI)V"), (0, .methodref 219 157), (0, .class_ 220), (0, u "java/lang/Object"), (0, .fieldref 11 222), (0, .nameAndType 117 223), (0, u "J"), (0, .fieldref 11 225), (0, .nameAndType 226 227), (0, u "nanos"), (0, u "I"), (11, .class_ 241), (1, u "java/time/Duration$DurationUnits"), (9, u "()J"), (17, .class_ 271), (1, u "java/time/Duration$1"), (17, .methodref 5 290), (0, .nameAndType 8 21), (72, u "BI_NANOS_PER_SECOND"), (0, u "Ljava/math/BigInteger;"), (46, u "toNanos"), (73, .class_ 486), (0, u "java/lang/Comparable"), (0, .class_ 488), (0, u "java/io/Serializable"), (0, u "serialVersionUID")] 166

def k5c0 : Code := { maxStack := 4, maxLocals := 5, code := jdk_2316_method_7_code, exceptionTable := #[], attributes := #[] }
def k5m0 : Method := { name := "ofNanos", desc := "(J)Ljava/time/Duration;", sig := { parameters := [.long], returnType := some (.object "java/time/Duration") }, accessFlags := 9, code := some k5c0 }
def k5c1 : Code := { maxStack := 5, maxLocals := 3, code := jdk_2316_method_16_code, exceptionTable := #[], attributes := #[] }
def k5m1 : Method := { name := "create", desc := "(JI)Ljava/time/Duration;", sig := { parameters := [.long, .int], returnType := some (.object "java/time/Duration") }, accessFlags := 10, code := some k5c1 }
def k5c2 : Code := { maxStack := 3, maxLocals := 4, code := jdk_2316_method_17_code, exceptionTable := #[], attributes := #[] }
def k5m2 : Method := { name := "<init>", desc := "(JI)V", sig := { parameters := [.long, .int], returnType := none }, accessFlags := 2, code := some k5c2 }
def k5c3 : Code := { maxStack := 4, maxLocals := 7, code := jdk_2316_method_58_code, exceptionTable := #[], attributes := #[] }
def k5m3 : Method := { name := "toNanos", desc := "()J", sig := { parameters := [], returnType := some .long }, accessFlags := 1, code := some k5c3 }
/-- java/time/Duration -/
def k5 : Class := { plain "java/time/Duration" (some 0) with
  accessFlags := 49
  interfaces := #[2, 3, 4]
  cf := some (fileOf pool5 11 #[.nestMembers #[269, 239, 79]] #[{ accessFlags := 9, nameIndex := 198, descriptorIndex := 199, attributes := #[] }, { accessFlags := 10, nameIndex := 14, descriptorIndex := 15, attributes := #[] }, { accessFlags := 2, nameIndex := 139, descriptorIndex := 217, attributes := #[] }, { accessFlags := 1, nameIndex := 411, descriptorIndex := 251, attributes := #[] }] 49 219 #[49, 485, 487] #[{ accessFlags := 25, nameIndex := 34, descriptorIndex := 35, attributes := #[] }, { accessFlags := 26, nameIndex := 489, descriptorIndex := 223, attributes := #[] }, { accessFlags := 26, nameIndex := 363, descriptorIndex := 364, attributes := #[] }, { accessFlags := 18, nameIndex := 117, descriptorIndex := 223, attributes := #[] }, { accessFlags := 18, nameIndex := 226, descriptorIndex := 227, attributes := #[] }])
  fields := #[{ name := "ZERO", type := (.object "java/time/Duration"), accessFlags := 25, slot := 0, constantValue := 0 }, { name := "serialVersionUID", type := .long, accessFlags := 26, slot := 1, constantValue := 0 }, { name := "BI_NANOS_PER_SECOND", type := (.object "java/math/BigInteger"), accessFlags := 26, slot := 2, constantValue := 0 }, { name := "seconds", type := .long, accessFlags := 18, slot := 0, constantValue := 0 }, { name := "nanos", type := .int, accessFlags := 18, slot := 1, constantValue := 0 }]
  methods := #[k5m0, k5m1, k5m2, k5m3]
  instanceTypes := #[.long, .int]
  staticTypes := #[(.object "java/time/Duration"), .long, (.object "java/math/BigInteger")]
  resolved := Array.replicate 656 none
  statics := some 0 }

def pool6 : Array CpInfo := pool [(1, .methodref 2 3), (0, .class_ 4), (0, .nameAndType 5 6), (0, u "java/lang/Object"), (0, u "<init>"), (0, u "()V"), (0, .class_ 8), (0, u "com/example/admitd/admitd/gate/ServiceTime"), (0, .fieldref 7 10), (0, .nameAndType 11 12), (0, u "latest"), (0, u "[J"), (0, .methodref 14 15), (0, .class_ 16), (0, .nameAndType 17 18), (0, u "java/time/Duration"), (0, u "toNanos"), (0, u "()J"), (0, .methodref 20 21), (0, .class_ 22), (0, .nameAndType 23 24), (0, u "java/lang/Math"), (0, u "max"), (0, u "(JJ)J"), (0, .fieldref 7 26), (0, .nameAndType 27 28), (0, u "count"), (0, u "I"), (0, .fieldref 7 30), (0, .nameAndType 31 32), (0, u "sum"), (0, u "J"), (0, .fieldref 7 34), (0, .nameAndType 35 28), (0, u "next"), (0, .fieldref 7 37), (0, .nameAndType 38 39), (0, u "FIRST_GUESS"), (0, u "Ljava/time/Duration;"), (0, .fieldref 7 41), (0, .nameAndType 42 32), (0, u "LEAST_NANOS"), (0, .methodref 14 44), (0, .nameAndType 45 46), (0, u "ofNanos"), (0, u "(J)Ljava/time/Duration;"), (6, u "KEPT"), (4, u "record"), (0, u "(Ljava/time/Duration;)V"), (1, u "mean"), (0, u "()Ljava/time/Duration;")] 3

def k6c0 : Code := { maxStack := 2, maxLocals := 1, code := prog_9_method_1_code, exceptionTable := #[], attributes := #[] }
def k6m0 : Method := { name := "<init>", desc := "()V", sig := { parameters := [], returnType := none }, accessFlags := 0, code := some k6c0 }
def k6c1 : Code := { maxStack := 5, maxLocals := 4, code := prog_9_method_2_code, exceptionTable := #[], attributes := #[] }
def k6m1 : Method := { name := "record", desc := "(Ljava/time/Duration;)V", sig := { parameters := [(.object "java/time/Duration")], returnType := none }, accessFlags := 1, code := some k6c1 }
def k6c2 : Code := { maxStack := 6, maxLocals := 1, code := prog_9_method_3_code, exceptionTable := #[], attributes := #[] }
def k6m2 : Method := { name := "mean", desc := "()Ljava/time/Duration;", sig := { parameters := [], returnType := some (.object "java/time/Duration") }, accessFlags := 1, code := some k6c2 }
/-- com/example/admitd/admitd/gate/ServiceTime -/
def k6 : Class := { plain "com/example/admitd/admitd/gate/ServiceTime" (some 0) with
  accessFlags := 48
  interfaces := #[]
  cf := some (fileOf pool6 7 #[] #[{ accessFlags := 0, nameIndex := 5, descriptorIndex := 6, attributes := #[] }, { accessFlags := 1, nameIndex := 58, descriptorIndex := 59, attributes := #[] }, { accessFlags := 1, nameIndex := 61, descriptorIndex := 62, attributes := #[] }] 48 2 #[] #[{ accessFlags := 26, nameIndex := 53, descriptorIndex := 28, attributes := #[] }, { accessFlags := 26, nameIndex := 38, descriptorIndex := 39, attributes := #[] }, { accessFlags := 26, nameIndex := 42, descriptorIndex := 32, attributes := #[] }, { accessFlags := 18, nameIndex := 11, descriptorIndex := 12, attributes := #[] }, { accessFlags := 2, nameIndex := 27, descriptorIndex := 28, attributes := #[] }, { accessFlags := 2, nameIndex := 35, descriptorIndex := 28, attributes := #[] }, { accessFlags := 2, nameIndex := 31, descriptorIndex := 32, attributes := #[] }])
  fields := #[{ name := "KEPT", type := .int, accessFlags := 26, slot := 0, constantValue := 0 }, { name := "FIRST_GUESS", type := (.object "java/time/Duration"), accessFlags := 26, slot := 1, constantValue := 0 }, { name := "LEAST_NANOS", type := .long, accessFlags := 26, slot := 2, constantValue := 0 }, { name := "latest", type := (.array .long), accessFlags := 18, slot := 0, constantValue := 0 }, { name := "count", type := .int, accessFlags := 2, slot := 1, constantValue := 0 }, { name := "next", type := .int, accessFlags := 2, slot := 2, constantValue := 0 }, { name := "sum", type := .long, accessFlags := 2, slot := 3, constantValue := 0 }]
  methods := #[k6m0, k6m1, k6m2]
  instanceTypes := #[(.array .long), .int, .int, .long]
  staticTypes := #[.int, (.object "java/time/Duration"), .long]
  resolved := Array.replicate 66 none
  statics := some 1 }

def pool7 : Array CpInfo := pool [(1, .class_ 2), (0, u "java/lang/Math"), (1, .class_ 6), (1, u "java/lang/Object"), (0, u "<init>"), (0, u "()V"), (89, .class_ 100), (1, u "java/lang/Math$RandomNumberGeneratorHolder"), (19, u "multiplyExact"), (0, u "(JJ)J"), (0, .methodref 1 123), (0, .nameAndType 124 125), (0, u "abs"), (0, u "(J)J"), (2, .long 9223372036854775808), (43, u "negativeZeroFloatBits"), (0, u "J"), (2, u "negativeZeroDoubleBits"), (21, u "max"), (46, u "$assertionsDisabled"), (0, u "Z"), (91, u "twoToTheDoubleScaleDown"), (0, u "D"), (4, u "twoToTheDoubleScaleUp"), (9, u "E"), (3, u "PI"), (2, u "TAU"), (2, u "DEGREES_TO_RADIANS"), (0, u "RADIANS_TO_DEGREES"), (27, u "addExact")] 66

def k7m0 : Method := { name := "<init>", desc := "()V", sig := { parameters := [], returnType := none }, accessFlags := 2, code := none }
def k7c1 : Code := { maxStack := 6, maxLocals := 6, code := jdk_29_method_25_code, exceptionTable := #[], attributes := #[] }
def k7m1 : Method := { name := "addExact", desc := "(JJ)J", sig := { parameters := [.long, .long], returnType := some .long }, accessFlags := 9, code := some k7c1 }
def k7c2 : Code := { maxStack := 4, maxLocals := 10, code := jdk_29_method_30_code, exceptionTable := #[], attributes := #[] }
def k7m2 : Method := { name := "multiplyExact", desc := "(JJ)J", sig := { parameters := [.long, .long], returnType := some .long }, accessFlags := 9, code := some k7c2 }
def k7c3 : Code := { maxStack := 4, maxLocals := 2, code := jdk_29_method_61_code, exceptionTable := #[], attributes := #[] }
def k7m3 : Method := { name := "abs", desc := "(J)J", sig := { parameters := [.long], returnType := some .long }, accessFlags := 9, code := some k7c3 }
def k7c4 : Code := { maxStack := 4, maxLocals := 4, code := jdk_29_method_66_code, exceptionTable := #[], attributes := #[] }
def k7m4 : Method := { name := "max", desc := "(JJ)J", sig := { parameters := [.long, .long], returnType := some .long }, accessFlags := 9, code := some k7c4 }
/-- java/lang/Math -/
def k7 : Class := { plain "java/lang/Math" (some 0) with
  accessFlags := 49
  interfaces := #[]
  cf := some (fileOf pool7 1 #[.nestMembers #[98]] #[{ accessFlags := 2, nameIndex := 7, descriptorIndex := 8, attributes := #[] }, { accessFlags := 9, nameIndex := 393, descriptorIndex := 121, attributes := #[] }, { accessFlags := 9, nameIndex := 120, descriptorIndex := 121, attributes := #[] }, { accessFlags := 9, nameIndex := 124, descriptorIndex := 125, attributes := #[] }, { accessFlags := 9, nameIndex := 198, descriptorIndex := 121, attributes := #[] }] 49 4 #[] #[{ accessFlags := 25, nameIndex := 354, descriptorIndex := 339, attributes := #[] }, { accessFlags := 25, nameIndex := 358, descriptorIndex := 339, attributes := #[] }, { accessFlags := 25, nameIndex := 361, descriptorIndex := 339, attributes := #[] }, { accessFlags := 26, nameIndex := 364, descriptorIndex := 339, attributes := #[] }, { accessFlags := 26, nameIndex := 365, descriptorIndex := 339, attributes := #[] }, { accessFlags := 26, nameIndex := 172, descriptorIndex := 173, attributes := #[] }, { accessFlags := 26, nameIndex := 176, descriptorIndex := 173, attributes := #[] }, { accessFlags := 8, nameIndex := 344, descriptorIndex := 339, attributes := #[] }, { accessFlags := 8, nameIndex := 338, descriptorIndex := 339, attributes := #[] }, { accessFlags := 4120, nameIndex := 245, descriptorIndex := 246, attributes := #[] }])
  fields := #[{ name := "E", type := .double, accessFlags := 25, slot := 0, constantValue := 0 }, { name := "PI", type := .double, accessFlags := 25, slot := 1, constantValue := 0 }, { name := "TAU", type := .double, accessFlags := 25, slot := 2, constantValue := 0 }, { name := "DEGREES_TO_RADIANS", type := .double, accessFlags := 26, slot := 3, constantValue := 0 }, { name := "RADIANS_TO_DEGREES", type := .double, accessFlags := 26, slot := 4, constantValue := 0 }, { name := "negativeZeroFloatBits", type := .long, accessFlags := 26, slot := 5, constantValue := 0 }, { name := "negativeZeroDoubleBits", type := .long, accessFlags := 26, slot := 6, constantValue := 0 }, { name := "twoToTheDoubleScaleUp", type := .double, accessFlags := 8, slot := 7, constantValue := 0 }, { name := "twoToTheDoubleScaleDown", type := .double, accessFlags := 8, slot := 8, constantValue := 0 }, { name := "$assertionsDisabled", type := .boolean, accessFlags := 4120, slot := 9, constantValue := 0 }]
  methods := #[k7m0, k7m1, k7m2, k7m3, k7m4]
  instanceTypes := #[]
  staticTypes := #[.double, .double, .double, .double, .double, .long, .long, .double, .double, .boolean]
  resolved := Array.replicate 460 none
  statics := none }

def pool8 : Array CpInfo := pool [(1, u "java/lang/Cloneable"), (0, .class_ 1), (0, u "java/lang/Object"), (0, .class_ 3)] 3

/-- java/lang/Cloneable -/
def k8 : Class := { plain "java/lang/Cloneable" (some 0) with
  accessFlags := 1537
  interfaces := #[]
  cf := some (fileOf pool8 2 #[] #[] 1537 4 #[] #[])
  fields := #[]
  methods := #[]
  instanceTypes := #[]
  staticTypes := #[]
  resolved := Array.replicate 8 none
  statics := none }

/-- the primitive byte -/
def k9 : Class := { plain "byte" none with kind := .primitive 'B', accessFlags := 0x411 }
/-- [B -/
def k10 : Class := { plain "[B" (some 0) with kind := .array 9 .byte, interfaces := #[8, 4], accessFlags := 1041 }

/-- the primitive int -/
def k11 : Class := { plain "int" none with kind := .primitive 'I', accessFlags := 0x411 }
/-- [I -/
def k12 : Class := { plain "[I" (some 0) with kind := .array 11 .int, interfaces := #[8, 4], accessFlags := 1041 }

/-- the primitive long -/
def k13 : Class := { plain "long" none with kind := .primitive 'J', accessFlags := 0x411 }
/-- [J -/
def k14 : Class := { plain "[J" (some 0) with kind := .array 13 .long, interfaces := #[8, 4], accessFlags := 1041 }

def heap : Heap := #[{ cls := 5, slots := #[.ref 2, .long 0, .null], vm := .statics 5 },
  { cls := 6, slots := #[.int 0, .ref 3, .long 1000000], vm := .statics 6 },
  { cls := 5, slots := #[.long 0, .int 0], vm := .none },
  { cls := 5, slots := #[.long 1, .int 0], vm := .none }]
def classes : Array Class := #[k0, k1, k2, k3, k4, k5, k6, k7, k8, k9, k10, k11, k12, k13, k14]
def interned : List (Array UInt16 × Addr) := []
def slotsUsed : Nat := 10
def theMethod : MethodId := ⟨1, 1⟩
def args0 : Array Value := #[.long 5, .long 7, .long 9, .int 3]
def aboutOver (below : List Frame) : State where
  vm := { classes := classes, interned := interned.toArray }
  heap := heap
  slotsUsed := slotsUsed
  threads := #[{ frames := .invoking theMethod args0 :: below }]
def below0 : List Frame := [.native { method := ⟨0, 0⟩, args := #[] }]
def about1 : State := aboutOver below0
def p0 : Program := .bare "" "" ""
def e0 : Env := launch0.env 0 0 0
theorem w_frames : about1.frames = Frame.invoking theMethod args0 :: below0 := rfl
set_option maxRecDepth 65536 in
theorem w_args : argsFit about1.vm theMethod args0 = true := by decide +kernel
set_option maxRecDepth 65536 in
theorem w_heap : heapFits about1 = true := by decide +kernel
set_option maxRecDepth 65536 in
theorem w_runnable : about1.curStatus? = some .runnable := by decide +kernel
set_option maxRecDepth 65536 in
theorem w_alone : about1.alone = true := by decide +kernel
set_option maxRecDepth 65536 in
theorem w_named : about1.methodNamed? x = some theMethod := by decide +kernel
set_option maxRecDepth 65536 in
theorem w_hears : about1.hears theMethod below0 = true := by decide +kernel
set_option maxRecDepth 65536 in
theorem w_ripe : about1.ripe theMethod args0 below0 = true := by decide +kernel
theorem w_running : about1.status = .running := rfl
set_option maxRecDepth 65536 in
theorem w_room : about1.hasRoom e0.platform room_1 = true :=
  launch0.hasRoom_least _ room_1 (by decide +kernel) (by decide +kernel) (by decide +kernel) (by decide +kernel) (by decide +kernel) (by decide +kernel)
theorem allAtoms_all (ts : List Jvm.Cond) (a : Array Jvm.Value) (st : Jvm.State) : (allAtoms ts).before a st = ts.all (fun c => c.before a st) := by
  induction ts with
  | nil => rfl
  | cons c t ih =>
    show (Jvm.Cond.and c (allAtoms t)).before a st = _
    rw [Jvm.Cond.before_and, ih, List.all_cons]
def words1 : List Jvm.Cond := Jvm.Cond.code x code maxLocals ret :: tables_1
/-- a 'code' word, met by the world's own term for the bytes: nothing is compared byte by byte -/
theorem code_word {y : MethodName} {bytes : ByteArray} {mx : Nat} {rt : Option FieldType} {a : Array Value} {s : State} {m : MethodId} {meth : Method} {c : Code} (h1 : s.methodNamed? y = some m) (h2 : s.vm.method? m = some meth) (h3 : meth.code = some c) (h4 : c.code = bytes)
    (h5 : (c.maxLocals == mx && c.exceptionTable.isEmpty && decide (c.maxStack ≤ mostOperands) && decide (meth.sig.returnType = rt) && !meth.locks && decide (parseMethodDescriptor y.desc = some meth.sig)) = true) : (Jvm.Cond.code y bytes mx rt).before a s = true := by
  simp only [Bool.and_eq_true, beq_iff_eq, Bool.not_eq_true', decide_eq_true_eq] at h5
  obtain ⟨⟨⟨⟨⟨g1, g2⟩, g3⟩, g4⟩, g5⟩, g6⟩ := h5
  simp [Cond.before, Cond.holds, Cond.value, h1, h2, h3, h4, g1, g2, g3, g4, g5, g6]
def isCode : Jvm.Cond → Bool
  | .code _ _ _ _ => true
  | _ => false
theorem all_split {L : List Jvm.Cond} {P : Jvm.Cond → Bool} (h1 : L.all (fun c => isCode c || P c) = true) (h2 : ∀ c ∈ L.filter isCode, P c = true) : L.all P = true := by
  refine List.all_eq_true.mpr fun c hc => ?_
  have h := List.all_eq_true.mp h1 c hc
  rcases Bool.eq_false_or_eq_true (isCode c) with hi | hi
  · exact h2 c (List.mem_filter.mpr ⟨hc, hi⟩)
  · simpa [hi] using h
set_option maxRecDepth 65536 in
theorem w_c0 : (Jvm.Cond.code x code maxLocals ret).before args0 about1 = true := code_word (m := ⟨1, 1⟩) (meth := k1m1) (c := k1c1) (by decide +kernel) rfl rfl rfl (by decide +kernel)
set_option maxRecDepth 65536 in
theorem w_c1 : (Jvm.Cond.code ({ cls := "java/time/Duration", name := "ofNanos", desc := "(J)Ljava/time/Duration;" } : Jvm.MethodName) jdk_2316_method_7_code (5 : Nat) (Option.some (Jvm.ClassFile.FieldType.object "java/time/Duration"))).before args0 about1 = true := code_word (m := ⟨5, 0⟩) (meth := k5m0) (c := k5c0) (by decide +kernel) rfl rfl rfl (by decide +kernel)
set_option maxRecDepth 65536 in
theorem w_c2 : (Jvm.Cond.code ({ cls := "java/time/Duration", name := "create", desc := "(JI)Ljava/time/Duration;" } : Jvm.MethodName) jdk_2316_method_16_code (3 : Nat) (Option.some (Jvm.ClassFile.FieldType.object "java/time/Duration"))).before args0 about1 = true := code_word (m := ⟨5, 1⟩) (meth := k5m1) (c := k5c1) (by decide +kernel) rfl rfl rfl (by decide +kernel)
set_option maxRecDepth 65536 in
theorem w_c3 : (Jvm.Cond.code ({ cls := "java/time/Duration", name := "<init>", desc := "(JI)V" } : Jvm.MethodName) jdk_2316_method_17_code (4 : Nat) (Option.none : Option Jvm.ClassFile.FieldType)).before args0 about1 = true := code_word (m := ⟨5, 2⟩) (meth := k5m2) (c := k5c2) (by decide +kernel) rfl rfl rfl (by decide +kernel)
set_option maxRecDepth 65536 in
theorem w_c4 : (Jvm.Cond.code ({ cls := "java/lang/Object", name := "<init>", desc := "()V" } : Jvm.MethodName) object_method_1_code (1 : Nat) (Option.none : Option Jvm.ClassFile.FieldType)).before args0 about1 = true := code_word (m := ⟨0, 0⟩) (meth := k0m0) (c := k0c0) (by decide +kernel) rfl rfl rfl (by decide +kernel)
set_option maxRecDepth 65536 in
theorem w_c5 : (Jvm.Cond.code ({ cls := "com/example/admitd/admitd/gate/ServiceTime", name := "<init>", desc := "()V" } : Jvm.MethodName) prog_9_method_1_code (1 : Nat) (Option.none : Option Jvm.ClassFile.FieldType)).before args0 about1 = true := code_word (m := ⟨6, 0⟩) (meth := k6m0) (c := k6c0) (by decide +kernel) rfl rfl rfl (by decide +kernel)
set_option maxRecDepth 65536 in
theorem w_c6 : (Jvm.Cond.code ({ cls := "com/example/admitd/admitd/gate/ServiceTime", name := "record", desc := "(Ljava/time/Duration;)V" } : Jvm.MethodName) prog_9_method_2_code (4 : Nat) (Option.none : Option Jvm.ClassFile.FieldType)).before args0 about1 = true := code_word (m := ⟨6, 1⟩) (meth := k6m1) (c := k6c1) (by decide +kernel) rfl rfl rfl (by decide +kernel)
set_option maxRecDepth 65536 in
theorem w_c7 : (Jvm.Cond.code ({ cls := "java/time/Duration", name := "toNanos", desc := "()J" } : Jvm.MethodName) jdk_2316_method_58_code (7 : Nat) (Option.some Jvm.ClassFile.FieldType.long)).before args0 about1 = true := code_word (m := ⟨5, 3⟩) (meth := k5m3) (c := k5c3) (by decide +kernel) rfl rfl rfl (by decide +kernel)
set_option maxRecDepth 65536 in
theorem w_c8 : (Jvm.Cond.code ({ cls := "java/lang/Math", name := "multiplyExact", desc := "(JJ)J" } : Jvm.MethodName) jdk_29_method_30_code (10 : Nat) (Option.some Jvm.ClassFile.FieldType.long)).before args0 about1 = true := code_word (m := ⟨7, 2⟩) (meth := k7m2) (c := k7c2) (by decide +kernel) rfl rfl rfl (by decide +kernel)
set_option maxRecDepth 65536 in
theorem w_c9 : (Jvm.Cond.code ({ cls := "java/lang/Math", name := "abs", desc := "(J)J" } : Jvm.MethodName) jdk_29_method_61_code (2 : Nat) (Option.some Jvm.ClassFile.FieldType.long)).before args0 about1 = true := code_word (m := ⟨7, 3⟩) (meth := k7m3) (c := k7c3) (by decide +kernel) rfl rfl rfl (by decide +kernel)
set_option maxRecDepth 65536 in
theorem w_c10 : (Jvm.Cond.code ({ cls := "java/lang/Math", name := "addExact", desc := "(JJ)J" } : Jvm.MethodName) jdk_29_method_25_code (6 : Nat) (Option.some Jvm.ClassFile.FieldType.long)).before args0 about1 = true := code_word (m := ⟨7, 1⟩) (meth := k7m1) (c := k7c1) (by decide +kernel) rfl rfl rfl (by decide +kernel)
set_option maxRecDepth 65536 in
theorem w_c11 : (Jvm.Cond.code ({ cls := "java/lang/Math", name := "max", desc := "(JJ)J" } : Jvm.MethodName) jdk_29_method_66_code (4 : Nat) (Option.some Jvm.ClassFile.FieldType.long)).before args0 about1 = true := code_word (m := ⟨7, 4⟩) (meth := k7m4) (c := k7c4) (by decide +kernel) rfl rfl rfl (by decide +kernel)
set_option maxRecDepth 65536 in
theorem w_c12 : (Jvm.Cond.code ({ cls := "com/example/admitd/admitd/gate/ServiceTime", name := "mean", desc := "()Ljava/time/Duration;" } : Jvm.MethodName) prog_9_method_3_code (1 : Nat) (Option.some (Jvm.ClassFile.FieldType.object "java/time/Duration"))).before args0 about1 = true := code_word (m := ⟨6, 2⟩) (meth := k6m2) (c := k6c2) (by decide +kernel) rfl rfl rfl (by decide +kernel)
set_option maxRecDepth 65536 in
theorem w_c13 : (Jvm.Cond.code ({ cls := "com/example/admitd/admitd/gate/ServiceTimeMeanPinLaw", name := "clamp", desc := "(J)J" } : Jvm.MethodName) method_3_code (2 : Nat) (Option.some Jvm.ClassFile.FieldType.long)).before args0 about1 = true := code_word (m := ⟨1, 2⟩) (meth := k1m2) (c := k1c2) (by decide +kernel) rfl rfl rfl (by decide +kernel)
def codes1 : List Jvm.Cond := [Jvm.Cond.code x code maxLocals ret, Jvm.Cond.code ({ cls := "java/time/Duration", name := "ofNanos", desc := "(J)Ljava/time/Duration;" } : Jvm.MethodName) jdk_2316_method_7_code (5 : Nat) (Option.some (Jvm.ClassFile.FieldType.object "java/time/Duration")), Jvm.Cond.code ({ cls := "java/time/Duration", name := "create", desc := "(JI)Ljava/time/Duration;" } : Jvm.MethodName) jdk_2316_method_16_code (3 : Nat) (Option.some (Jvm.ClassFile.FieldType.object "java/time/Duration")), Jvm.Cond.code ({ cls := "java/time/Duration", name := "<init>", desc := "(JI)V" } : Jvm.MethodName) jdk_2316_method_17_code (4 : Nat) (Option.none : Option Jvm.ClassFile.FieldType), Jvm.Cond.code ({ cls := "java/lang/Object", name := "<init>", desc := "()V" } : Jvm.MethodName) object_method_1_code (1 : Nat) (Option.none : Option Jvm.ClassFile.FieldType), Jvm.Cond.code ({ cls := "com/example/admitd/admitd/gate/ServiceTime", name := "<init>", desc := "()V" } : Jvm.MethodName) prog_9_method_1_code (1 : Nat) (Option.none : Option Jvm.ClassFile.FieldType), Jvm.Cond.code ({ cls := "com/example/admitd/admitd/gate/ServiceTime", name := "record", desc := "(Ljava/time/Duration;)V" } : Jvm.MethodName) prog_9_method_2_code (4 : Nat) (Option.none : Option Jvm.ClassFile.FieldType), Jvm.Cond.code ({ cls := "java/time/Duration", name := "toNanos", desc := "()J" } : Jvm.MethodName) jdk_2316_method_58_code (7 : Nat) (Option.some Jvm.ClassFile.FieldType.long), Jvm.Cond.code ({ cls := "java/lang/Math", name := "multiplyExact", desc := "(JJ)J" } : Jvm.MethodName) jdk_29_method_30_code (10 : Nat) (Option.some Jvm.ClassFile.FieldType.long), Jvm.Cond.code ({ cls := "java/lang/Math", name := "abs", desc := "(J)J" } : Jvm.MethodName) jdk_29_method_61_code (2 : Nat) (Option.some Jvm.ClassFile.FieldType.long), Jvm.Cond.code ({ cls := "java/lang/Math", name := "addExact", desc := "(JJ)J" } : Jvm.MethodName) jdk_29_method_25_code (6 : Nat) (Option.some Jvm.ClassFile.FieldType.long), Jvm.Cond.code ({ cls := "java/lang/Math", name := "max", desc := "(JJ)J" } : Jvm.MethodName) jdk_29_method_66_code (4 : Nat) (Option.some Jvm.ClassFile.FieldType.long), Jvm.Cond.code ({ cls := "com/example/admitd/admitd/gate/ServiceTime", name := "mean", desc := "()Ljava/time/Duration;" } : Jvm.MethodName) prog_9_method_3_code (1 : Nat) (Option.some (Jvm.ClassFile.FieldType.object "java/time/Duration")), Jvm.Cond.code ({ cls := "com/example/admitd/admitd/gate/ServiceTimeMeanPinLaw", name := "clamp", desc := "(J)J" } : Jvm.MethodName) method_3_code (2 : Nat) (Option.some Jvm.ClassFile.FieldType.long)]
set_option maxRecDepth 65536 in
theorem codes_eq : words1.filter isCode = codes1 := rfl
theorem w_codes : ∀ c ∈ words1.filter isCode, c.before args0 about1 = true := by
  rw [codes_eq]
  intro c hc
  simp only [codes1, List.mem_cons, List.not_mem_nil, or_false] at hc
  rcases hc with rfl | rfl | rfl | rfl | rfl | rfl | rfl | rfl | rfl | rfl | rfl | rfl | rfl | rfl
  · exact w_c0
  · exact w_c1
  · exact w_c2
  · exact w_c3
  · exact w_c4
  · exact w_c5
  · exact w_c6
  · exact w_c7
  · exact w_c8
  · exact w_c9
  · exact w_c10
  · exact w_c11
  · exact w_c12
  · exact w_c13
set_option maxRecDepth 65536 in
theorem w_t1 : (words1.take 24).all (fun c => isCode c || c.before args0 about1) = true := by decide +kernel
set_option maxRecDepth 65536 in
theorem w_t2 : ((words1.drop 24).take 24).all (fun c => isCode c || c.before args0 about1) = true := by decide +kernel
set_option maxRecDepth 65536 in
theorem w_t3 : (((words1.drop 24).drop 24).take 24).all (fun c => isCode c || c.before args0 about1) = true := by decide +kernel
set_option maxRecDepth 65536 in
theorem w_t4 : (((words1.drop 24).drop 24).drop 24).all (fun c => isCode c || c.before args0 about1) = true := by decide +kernel
theorem w_tables : (allAtoms (Jvm.Cond.code x code maxLocals ret :: tables_1)).before args0 about1 = true := by
  rw [allAtoms_all]
  show words1.all (fun c => c.before args0 about1) = true
  refine all_split ?_ w_codes
  rw [← List.take_append_drop 24 words1, List.all_append, w_t1, ← List.take_append_drop 24 (words1.drop 24), List.all_append, w_t2, ← List.take_append_drop 24 ((words1.drop 24).drop 24), List.all_append, w_t3, w_t4]
  rfl
set_option maxRecDepth 65536 in
theorem w_rest : rest_1_c.before args0 about1 = true := by decide +kernel
set_option maxRecDepth 65536 in
theorem w_case : (Jvm.Cond.and given_1 narrow_1).before args0 about1 = true := by decide +kernel
theorem w_applies : (headSpec (Jvm.Cond.code x code maxLocals ret :: tables_1) room_1).applies x e0.platform about1 = true :=
  (Spec.applies_iff w_frames).mpr ⟨w_running, w_runnable, w_alone, w_named, w_hears, w_ripe, w_room, w_tables⟩
theorem atStart : AtStart classFile x code maxLocals ret World_1 tables_1 room_1 Calls_1 rest_1 Pre_1 launch0 p0 e0 about1 theMethod args0 below0 :=
  ⟨lists_1, trivial, launch0.admits_env _ _ _, launch0.least_env, fairChoices_fair.cas, fairChoices_fair.clock, w_frames, w_args, w_heap, w_applies, trivial, w_rest, w_case⟩
end start1
theorem witness_1 : WitnessClaimed_1 := ⟨start1.p0, start1.e0, start1.about1, start1.theMethod, start1.args0, start1.below0, start1.atStart⟩
end Jvm.Pilot.@@N@@
