import JvmDerived
import JvmDerived.Pilot.@@N@@Statement
import JvmDerived.Pilot.@@N@@Code
set_option linter.unusedVariables false
set_option linter.unusedSimpArgs false
namespace Jvm.RoadKit
open Sem ClassFile Op Lib Jvm.Stand Jvm.Free Jvm.LawKit
section New
variable {p : Program} {l : Launch} {e : Env} {R : Room} {s : State} {m : MethodId} {args : Array Value} {below : List Frame} {meth : Method} {c : Code} {T : State} {locs : List Loc} {cells slots : Nat}
theorem retI (X : Stand p l e R s m args below meth c T locs cells slots) (hx : p.tables.exec = Jvm.exec) {pc : Nat} {Ls : Array Slot} {z : Int32} {rest : List Value} (hret : meth.sig.returnType = some .int) (hd : decode c.code pc = .ok (.ireturn, 1)) {fs : List Frame}
    (hl : ∀ (f : JFrame) (acts : List Action), f.method = m → f.locked = none → f.entered = [] → (doReturn e (T.setTop f) acts (some (.int z))).1 = T.setFrames fs) : Steps p.tables e below (T.setTop (mkF m pc Ls (.int z :: rest))) (T.setFrames fs) := by
  have hm' : T.vm.method? m = some meth := X.method'
  have hn : narrow .int (.int z) = .int z := rfl
  show Steps p.tables e below (T.setTop { method := m, pc := pc, locals := Ls, stack := _ :: rest, locked := none }) _
  jvm_step X.here [X.here.top, hx, hd, hm', hret, hn]
  first | (intro acts; rw [hl _ acts rfl rfl rfl]) | rw [hl _ _ rfl rfl rfl]
  exact Steps.refl _
theorem Arr.at_ {Z : State} {h : Heap} {a : Addr} {cl : Cell} {ty : FieldType} (A : Arr Z h a cl ty) {U : State} (q : U.heap = h) : U.heap[a]? = some cl := by rw [q]; exact A.1
end New
end Jvm.RoadKit
namespace Jvm.Pilot.@@N@@
open Jvm Jvm.ClassFile Sem Op Lib Jvm.Free Jvm.Stand Jvm.LawKit Jvm.RoadKit Bundle Jvm.Pilot.@@N@@.Jvm.D
theorem own_eqI {args : Array Value} {first s : State} {o : Option Outcome} {idx : List Nat} {t : Term} {n : Int32} (h : (Jvm.Cond.eq t (.int n)).value args first o s idx = some true) : t.eval args first o idx s = some (.int n) := by
  cases ht : t.eval args first o idx s with
  | none => simp [Jvm.Cond.value, Term.eval, ht] at h
  | some x => cases x <;> simp [Jvm.Cond.value, Term.eval, ht] at h ⊢; exact h
theorem own_eqL {args : Array Value} {first s : State} {o : Option Outcome} {idx : List Nat} {t : Term} {n : Int64} (h : (Jvm.Cond.eq t (.long n)).value args first o s idx = some true) : t.eval args first o idx s = some (.long n) := by
  cases ht : t.eval args first o idx s with
  | none => simp [Jvm.Cond.value, Term.eval, ht] at h
  | some x => cases x <;> simp [Jvm.Cond.value, Term.eval, ht] at h ⊢; exact h
theorem own_fld {args : Array Value} {Z : State} {t : Term} {a : Addr} {C n d : String} {v : Value} (ht : t.eval args Z none [] Z = some (.ref a)) (h : (Term.field t C n d).eval args Z none [] Z = some v) : Fld Z Z.heap a C n d v := Fld.start ((fld_at ht).symm.trans h)
theorem own_exa {args : Array Value} {Z : State} {t : Term} {C : String} (h : (Jvm.Cond.exactly t C).value args Z none Z [] = some true) : ∃ a, t.eval args Z none [] Z = some (.ref a) ∧ Exa Z Z.heap a C := by
  obtain ⟨a, e⟩ := exa_v h
  exact ⟨a, e, Exa.start e h⟩
def ArF (Z : State) (h : Heap) (a : Addr) (n : Int32) (f : Nat → Int32) : Prop := ∃ c : Cell, Arr Z h a c .int ∧ c.slots.size = n.toNatClampNeg ∧ ¬ n < 0 ∧ ∀ k, k < c.slots.size → c.slots[k]? = some (.int (f k))
theorem ArF.lt {Z : State} {h : Heap} {a : Addr} {n : Int32} {f : Nat → Int32} (F : ArF Z h a n f) : a < h.size := by obtain ⟨c, A, -⟩ := F; exact A.lt
theorem ArF.ext {Z : State} {h h' : Heap} {a : Addr} {n : Int32} {f : Nat → Int32} (F : ArF Z h a n f) (E : Ext h h') : ArF Z h' a n f := by obtain ⟨c, A, r⟩ := F; exact ⟨c, A.ext E, r⟩
theorem ArF.keep {Z : State} {h h' : Heap} {a : Addr} {n : Int32} {f : Nat → Int32} {ws : List Addr} (F : ArF Z h a n f) (K : Keep h h' ws) (q : a ∉ ws) : ArF Z h' a n f := by obtain ⟨c, A, r⟩ := F; exact ⟨c, ⟨K.2.1 a c A.1 q, A.2⟩, r⟩
theorem ArF.of {Z : State} {h : Heap} {a : Addr} {k : ClassId} {n : Int32} {f : Nat → Int32} {vs : List Value} {dv : Value} (F : Arv Z h a k .int n vs dv) (H : ∀ i, i < n.toNatClampNeg → vs.getD i dv = .int (f i)) : ArF Z h a n f := by
  obtain ⟨c, A, -, S, N, Hs, -⟩ := F
  exact ⟨c, A, S, N, fun i hi => (Hs i hi).trans (by rw [H i (S ▸ hi)])⟩
def minI (x y : Int32) : Int32 := if y < x then y else x
def maxI (x y : Int32) : Int32 := if x < y then y else x
def pick3 (s0 s1 s2 : Int32) : Nat → Int32
  | 0 => s0
  | 1 => s1
  | _ => s2
def eqF (nn mm : Int32) (f g : Nat → Int32) (i j : Int32) : Int32 := if i < nn then if j < mm then if f i.toNatClampNeg = g j.toNatClampNeg then 1 else 0 else 0 else 0
def mrg (nn mm : Int32) (f g : Nat → Int32) : Nat → Int32 → Int32 → Int32 → Int32
  | 0, _, _, sh => sh
  | k + 1, i, j, sh => if i < nn then if j < mm then if f i.toNatClampNeg = g j.toNatClampNeg then mrg nn mm f g k (i + 1) (j + 1) (sh + 1) else if f i.toNatClampNeg < g j.toNatClampNeg then mrg nn mm f g k (i + 1) j sh else mrg nn mm f g k i (j + 1) sh else sh else sh
def lkD (nn mm : Int32) (f g : Nat → Int32) (cc : Int32) : UInt64 := if ((nn + mm) + ((2 : Int32) * cc)) = (0 : Int32) then FP.dconst1 else FP.ddiv (FP.dmul (4611686018427387904 : UInt64) (FP.i2d (mrg nn mm f g 6 (0 : Int32) (0 : Int32) cc))) (FP.i2d ((nn + mm) + ((2 : Int32) * cc)))
def oc (x y : Int32) : Nat := if x < y then 0 else if x = y then 1 else 2
def mo (n m : Nat) (M : Nat → Nat → Nat) : Nat → Nat → Nat → Nat
  | 0, _, _ => 0
  | k + 1, i, j => if i < n then if j < m then if M i j = 1 then mo n m M k (i + 1) (j + 1) + 1 else if M i j = 0 then mo n m M k (i + 1) j else mo n m M k i (j + 1) else 0 else 0
def eN (n m : Nat) (M : Nat → Nat → Nat) (i j : Nat) : Nat := if i < n then if j < m then if M i j = 1 then 1 else 0 else 0 else 0
def mat (a00 a01 a02 a10 a11 a12 a20 a21 a22 : Nat) : Nat → Nat → Nat
  | 0, 0 => a00
  | 0, 1 => a01
  | 0, _ => a02
  | 1, 0 => a10
  | 1, 1 => a11
  | 1, _ => a12
  | _, 0 => a20
  | _, 1 => a21
  | _, _ => a22
def mxN (n m : Nat) (M : Nat → Nat → Nat) : Nat := max (max (max (max (max (eN n m M 0 0 + eN n m M 1 1 + eN n m M 2 2) (eN n m M 0 0 + eN n m M 1 2 + eN n m M 2 1)) (eN n m M 0 1 + eN n m M 1 0 + eN n m M 2 2)) (eN n m M 0 1 + eN n m M 1 2 + eN n m M 2 0)) (eN n m M 0 2 + eN n m M 1 0 + eN n m M 2 1)) (eN n m M 0 2 + eN n m M 1 1 + eN n m M 2 0)
set_option maxRecDepth 65536 in
theorem own_chk : ([0, 1, 2].all fun a00 => [0, 1, 2].all fun a01 => !(decide (a01 ≤ a00)) || ([0, 1, 2].all fun a02 => !(decide (a02 ≤ a01)) || ([0, 1, 2].all fun a10 => !(decide (a00 ≤ a10)) || ([0, 1, 2].all fun a11 => !(decide (a01 ≤ a11 ∧ a11 ≤ a10)) || ([0, 1, 2].all fun a12 => !(decide (a02 ≤ a12 ∧ a12 ≤ a11)) || ([0, 1, 2].all fun a20 => !(decide (a10 ≤ a20)) || ([0, 1, 2].all fun a21 => !(decide (a11 ≤ a21 ∧ a21 ≤ a20)) || ([0, 1, 2].all fun a22 => !(decide (a12 ≤ a22 ∧ a22 ≤ a21)) || ([0, 1, 2, 3].all fun n => [0, 1, 2, 3].all fun m => decide (mo n m (mat a00 a01 a02 a10 a11 a12 a20 a21 a22) 6 0 0 = mxN n m (mat a00 a01 a02 a10 a11 a12 a20 a21 a22))))))))))) = true := by decide +kernel
theorem all3 {P : Nat → Bool} (h : [0, 1, 2].all P = true) {a : Nat} (ha : a < 3) : P a = true := by
  have q : a ∈ [0, 1, 2] := by
    match a, ha with
    | 0, _ => simp
    | 1, _ => simp
    | 2, _ => simp
  exact List.all_eq_true.mp h a q
theorem all4 {P : Nat → Bool} (h : [0, 1, 2, 3].all P = true) {a : Nat} (ha : a < 4) : P a = true := by
  have q : a ∈ [0, 1, 2, 3] := by
    match a, ha with
    | 0, _ => simp
    | 1, _ => simp
    | 2, _ => simp
    | 3, _ => simp
  exact List.all_eq_true.mp h a q
theorem imp3 {b c : Bool} (h : (!b || c) = true) (hb : b = true) : c = true := by subst hb; simpa using h
theorem own_dec {a00 a01 a02 a10 a11 a12 a20 a21 a22 : Nat} (h00 : a00 < 3) (h01 : a01 < 3) (c01 : a01 ≤ a00) (h02 : a02 < 3) (c02 : a02 ≤ a01) (h10 : a10 < 3) (c10 : a00 ≤ a10) (h11 : a11 < 3) (c11 : a01 ≤ a11 ∧ a11 ≤ a10) (h12 : a12 < 3) (c12 : a02 ≤ a12 ∧ a12 ≤ a11) (h20 : a20 < 3) (c20 : a10 ≤ a20) (h21 : a21 < 3) (c21 : a11 ≤ a21 ∧ a21 ≤ a20) (h22 : a22 < 3) (c22 : a12 ≤ a22 ∧ a22 ≤ a21) {n m : Nat} (hn : n < 4) (hm : m < 4) : mo n m (mat a00 a01 a02 a10 a11 a12 a20 a21 a22) 6 0 0 = mxN n m (mat a00 a01 a02 a10 a11 a12 a20 a21 a22) := by
  have k0 := all3 own_chk h00
  have k1 := imp3 (all3 k0 h01) (decide_eq_true c01)
  have k2 := imp3 (all3 k1 h02) (decide_eq_true c02)
  have k3 := imp3 (all3 k2 h10) (decide_eq_true c10)
  have k4 := imp3 (all3 k3 h11) (decide_eq_true c11)
  have k5 := imp3 (all3 k4 h12) (decide_eq_true c12)
  have k6 := imp3 (all3 k5 h20) (decide_eq_true c20)
  have k7 := imp3 (all3 k6 h21) (decide_eq_true c21)
  have k8 := imp3 (all3 k7 h22) (decide_eq_true c22)
  exact of_decide_eq_true (all4 (all4 k8 hn) hm)
theorem oc_lt (x y : Int32) : oc x y < 3 := by unfold oc; split <;> (try split) <;> omega
theorem oc_1 (x y : Int32) : oc x y = 1 ↔ x = y := by
  unfold oc; split
  · rename_i h; constructor
    · intro q; omega
    · intro q; subst q; rw [Int32.lt_iff_toInt_lt] at h; omega
  · split <;> simp_all
theorem oc_0 (x y : Int32) : oc x y = 0 ↔ x < y := by
  unfold oc; split
  · rename_i h; simp [h]
  · rename_i h; split <;> simp [h]
theorem oc_l {x x' y : Int32} (h : x.toInt ≤ x'.toInt) : oc x y ≤ oc x' y := by
  unfold oc; simp only [Int32.lt_iff_toInt_lt, ← Int32.toInt_inj]; split <;> (try split) <;> (try split) <;> (try split) <;> omega
theorem oc_r {x y y' : Int32} (h : y.toInt ≤ y'.toInt) : oc x y' ≤ oc x y := by
  unfold oc; simp only [Int32.lt_iff_toInt_lt, ← Int32.toInt_inj]; split <;> (try split) <;> (try split) <;> (try split) <;> omega
theorem mat_oc (s0 s1 s2 t0 t1 t2 : Int32) : (fun i j => oc (pick3 s0 s1 s2 i) (pick3 t0 t1 t2 j)) = mat (oc s0 t0) (oc s0 t1) (oc s0 t2) (oc s1 t0) (oc s1 t1) (oc s1 t2) (oc s2 t0) (oc s2 t1) (oc s2 t2) := by
  funext i j
  match i, j with
  | 0, 0 => rfl
  | 0, 1 => rfl
  | 0, j + 2 => rfl
  | 1, 0 => rfl
  | 1, 1 => rfl
  | 1, j + 2 => rfl
  | i + 2, 0 => rfl
  | i + 2, 1 => rfl
  | i + 2, j + 2 => rfl
theorem own_mo {s0 s1 s2 t0 t1 t2 : Int32} (h1 : s0.toInt ≤ s1.toInt) (h2 : s1.toInt ≤ s2.toInt) (h3 : t0.toInt ≤ t1.toInt) (h4 : t1.toInt ≤ t2.toInt) {n m : Nat} (hn : n < 4) (hm : m < 4) :
    mo n m (fun i j => oc (pick3 s0 s1 s2 i) (pick3 t0 t1 t2 j)) 6 0 0 = mxN n m (fun i j => oc (pick3 s0 s1 s2 i) (pick3 t0 t1 t2 j)) := by
  rw [mat_oc]
  exact own_dec (oc_lt _ _) (oc_lt _ _) (oc_r h3) (oc_lt _ _) (oc_r h4) (oc_lt _ _) (oc_l h1) (oc_lt _ _) ⟨oc_l h1, oc_r h3⟩ (oc_lt _ _) ⟨oc_l h1, oc_r h4⟩ (oc_lt _ _) (oc_l h2) (oc_lt _ _) ⟨oc_l h2, oc_r h3⟩ (oc_lt _ _) ⟨oc_l h2, oc_r h4⟩ hn hm
theorem ofN_toInt {i : Nat} (h : i < 100) : (Int32.ofNat i).toInt = i := len_toInt (by omega)
theorem ofN_lt {i n : Nat} (hi : i < 100) (hn : n < 100) : Int32.ofNat i < Int32.ofNat n ↔ i < n := by rw [Int32.lt_iff_toInt_lt, ofN_toInt hi, ofN_toInt hn]; omega
theorem ofN_nat {i : Nat} (h : i < 100) : (Int32.ofNat i).toNatClampNeg = i := by show (Int32.ofNat i).toInt.toNat = i; rw [ofN_toInt h]; omega
theorem ofN_add {i j : Nat} (h : i < 100) (h' : j < 100) : Int32.ofNat i + Int32.ofNat j = Int32.ofNat (i + j) := by
  apply Int32.toInt_inj.mp
  have q := c_iadd (Int32.ofNat i) (Int32.ofNat j); have r := rng32 (Int32.ofNat i + Int32.ofNat j)
  rw [ofN_toInt h, ofN_toInt h'] at q
  rw [show (Int32.ofNat (i + j)).toInt = ((i + j : Nat) : Int) from len_toInt (by omega)]; omega
theorem ofN_max {x y : Nat} (hx : x < 100) (hy : y < 100) : maxI (Int32.ofNat x) (Int32.ofNat y) = Int32.ofNat (max x y) := by
  unfold maxI
  split <;> rename_i h <;> rw [ofN_lt hx hy] at h
  · rw [Nat.max_eq_right (by omega)]
  · rw [Nat.max_eq_left (by omega)]
theorem own_assoc (x y z : Int32) : x + y + z = x + (y + z) := Int32.add_assoc x y z
theorem mo_le (n m : Nat) (M : Nat → Nat → Nat) : ∀ k i j, mo n m M k i j ≤ k := by
  intro k
  induction k with
  | zero => intro i j; exact Nat.le_refl _
  | succ k ih =>
    intro i j
    have a := ih (i + 1) (j + 1); have b := ih (i + 1) j; have c := ih i (j + 1)
    unfold mo
    split
    · split
      · split
        · omega
        · split <;> omega
      · omega
    · omega
theorem mrg_mo {n m : Nat} (hn : n ≤ 3) (hm : m ≤ 3) (f g : Nat → Int32) : ∀ (k i j : Nat) (sh : Int32), k ≤ 6 → i ≤ n → j ≤ m →
    mrg (Int32.ofNat n) (Int32.ofNat m) f g k (Int32.ofNat i) (Int32.ofNat j) sh = sh + Int32.ofNat (mo n m (fun i j => oc (f i) (g j)) k i j) := by
  intro k
  induction k with
  | zero => intro i j sh _ _ _; show sh = sh + 0; rw [Int32.add_zero]
  | succ k ih =>
    intro i j sh hk hi hj
    have e1 : Int32.ofNat i + 1 = Int32.ofNat (i + 1) := ofN_add (j := 1) (by omega) (by omega)
    have e2 : Int32.ofNat j + 1 = Int32.ofNat (j + 1) := ofN_add (j := 1) (by omega) (by omega)
    have z : sh = sh + Int32.ofNat 0 := (Int32.add_zero sh).symm
    unfold mrg mo
    rw [ofN_nat (i := i) (by omega), ofN_nat (i := j) (by omega), e1, e2]
    by_cases c1 : i < n
    · rw [if_pos ((ofN_lt (by omega) (by omega)).mpr c1), if_pos c1]
      by_cases c2 : j < m
      · rw [if_pos ((ofN_lt (by omega) (by omega)).mpr c2), if_pos c2]
        by_cases c3 : f i = g j
        · rw [if_pos c3, if_pos ((oc_1 _ _).mpr c3), ih (i + 1) (j + 1) (sh + 1) (by omega) (by omega) (by omega), own_assoc]
          have := mo_le n m (fun i j => oc (f i) (g j)) k (i + 1) (j + 1)
          rw [show (1 : Int32) + Int32.ofNat (mo n m (fun i j => oc (f i) (g j)) k (i + 1) (j + 1)) = Int32.ofNat (1 + mo n m (fun i j => oc (f i) (g j)) k (i + 1) (j + 1)) from ofN_add (i := 1) (by omega) (by omega), Nat.add_comm 1]
        · rw [if_neg c3, if_neg (fun q => c3 ((oc_1 _ _).mp q))]
          by_cases c4 : f i < g j
          · rw [if_pos c4, if_pos ((oc_0 _ _).mpr c4), ih (i + 1) j sh (by omega) (by omega) (by omega)]
          · rw [if_neg c4, if_neg (fun q => c4 ((oc_0 _ _).mp q)), ih i (j + 1) sh (by omega) (by omega) (by omega)]
      · rw [if_neg (fun q => c2 ((ofN_lt (by omega) (by omega)).mp q)), if_neg c2]; exact z
    · rw [if_neg (fun q => c1 ((ofN_lt (by omega) (by omega)).mp q)), if_neg c1]; exact z
theorem eqF_eN {n m i j : Nat} (hn : n ≤ 3) (hm : m ≤ 3) (hi : i < 3) (hj : j < 3) (f g : Nat → Int32) : eqF (Int32.ofNat n) (Int32.ofNat m) f g (Int32.ofNat i) (Int32.ofNat j) = Int32.ofNat (eN n m (fun i j => oc (f i) (g j)) i j) := by
  unfold eqF eN
  rw [ofN_nat (i := i) (by omega), ofN_nat (i := j) (by omega)]
  by_cases c1 : i < n
  · rw [if_pos ((ofN_lt (by omega) (by omega)).mpr c1), if_pos c1]
    by_cases c2 : j < m
    · rw [if_pos ((ofN_lt (by omega) (by omega)).mpr c2), if_pos c2]
      by_cases c3 : f i = g j
      · rw [if_pos c3, if_pos ((oc_1 _ _).mpr c3)]; rfl
      · rw [if_neg c3, if_neg (fun q => c3 ((oc_1 _ _).mp q))]; rfl
    · rw [if_neg (fun q => c2 ((ofN_lt (by omega) (by omega)).mp q)), if_neg c2]; rfl
  · rw [if_neg (fun q => c1 ((ofN_lt (by omega) (by omega)).mp q)), if_neg c1]; rfl
theorem eN_le (n m : Nat) (M : Nat → Nat → Nat) (i j : Nat) : eN n m M i j ≤ 1 := by unfold eN; split <;> (try split) <;> (try split) <;> omega
theorem own_min (x y : Int32) : (minI x y).toInt = min x.toInt y.toInt := by unfold minI; split <;> rename_i h <;> rw [Int32.lt_iff_toInt_lt] at h <;> omega
theorem own_max (x y : Int32) : (maxI x y).toInt = max x.toInt y.toInt := by unfold maxI; split <;> rename_i h <;> rw [Int32.lt_iff_toInt_lt] at h <;> omega
def s0V (x y z : Int32) : Int32 := minI x (minI y z)
def s1V (x y z : Int32) : Int32 := maxI (minI x y) (minI (maxI x y) z)
def s2V (x y z : Int32) : Int32 := maxI x (maxI y z)
theorem s_01 (x y z : Int32) : (s0V x y z).toInt ≤ (s1V x y z).toInt := by unfold s0V s1V; simp only [own_min, own_max]; omega
theorem s_12 (x y z : Int32) : (s1V x y z).toInt ≤ (s2V x y z).toInt := by unfold s1V s2V; simp only [own_min, own_max]; omega
theorem own_len (k : Int32) : ∃ n : Nat, n ≤ 3 ∧ (k &&& (3 : Int32)) = Int32.ofNat n := by
  have h : (k &&& (3 : Int32)).toBitVec.toNat ≤ 3 := by rw [Int32.toBitVec_and, BitVec.toNat_and]; exact Nat.and_le_right
  refine ⟨_, h, ?_⟩
  apply Int32.toBitVec_inj.mp
  apply BitVec.eq_of_toNat_eq
  show _ = (BitVec.ofNat 32 _).toNat
  rw [BitVec.toNat_ofNat]; omega
/-- the law's count and the method's are one -/
theorem own_main {nn mm : Int32} {n m : Nat} (hn : n ≤ 3) (hm : m ≤ 3) (en : nn = Int32.ofNat n) (em : mm = Int32.ofNat m) {x y z x' y' z' : Int32} {f g : Nat → Int32} (hf : pick3 (s0V x y z) (s1V x y z) (s2V x y z) = f) (hg : pick3 (s0V x' y' z') (s1V x' y' z') (s2V x' y' z') = g)
    {e00 e01 e02 e10 e11 e12 e20 e21 e22 m1 m2 m3 m4 m5 cc : Int32} (h00 : eqF nn mm f g 0 0 = e00) (h01 : eqF nn mm f g 0 1 = e01) (h02 : eqF nn mm f g 0 2 = e02) (h10 : eqF nn mm f g 1 0 = e10) (h11 : eqF nn mm f g 1 1 = e11) (h12 : eqF nn mm f g 1 2 = e12) (h20 : eqF nn mm f g 2 0 = e20) (h21 : eqF nn mm f g 2 1 = e21) (h22 : eqF nn mm f g 2 2 = e22)
    (g1 : maxI ((e00 + e11) + e22) ((e00 + e12) + e21) = m1) (g2 : maxI m1 ((e01 + e10) + e22) = m2) (g3 : maxI m2 ((e01 + e12) + e20) = m3) (g4 : maxI m3 ((e02 + e10) + e21) = m4) (g5 : maxI m4 ((e02 + e11) + e20) = m5) :
    mrg nn mm f g 6 (0 : Int32) (0 : Int32) cc = cc + m5 := by
  subst en em
  have k := mrg_mo hn hm f g 6 0 0 cc (by omega) (by omega) (by omega)
  have k' : mrg (Int32.ofNat n) (Int32.ofNat m) f g 6 (0 : Int32) (0 : Int32) cc = cc + Int32.ofNat (mo n m (fun i j => oc (f i) (g j)) 6 0 0) := k
  rw [k']
  refine congrArg (cc + ·) ?_
  have q : mo n m (fun i j => oc (f i) (g j)) 6 0 0 = mxN n m (fun i j => oc (f i) (g j)) := by
    subst hf hg; exact own_mo (s_01 _ _ _) (s_12 _ _ _) (s_01 _ _ _) (s_12 _ _ _) (by omega) (by omega)
  rw [q]
  have E := fun i j (hi : i < 3) (hj : j < 3) => eqF_eN (i := i) (j := j) hn hm hi hj f g
  have L := fun i j => eN_le n m (fun i j => oc (f i) (g j)) i j
  generalize (fun i j => oc (f i) (g j)) = M at *
  have E00 : e00 = Int32.ofNat (eN n m M 0 0) := h00.symm.trans (E 0 0 (by omega) (by omega))
  have E01 : e01 = Int32.ofNat (eN n m M 0 1) := h01.symm.trans (E 0 1 (by omega) (by omega))
  have E02 : e02 = Int32.ofNat (eN n m M 0 2) := h02.symm.trans (E 0 2 (by omega) (by omega))
  have E10 : e10 = Int32.ofNat (eN n m M 1 0) := h10.symm.trans (E 1 0 (by omega) (by omega))
  have E11 : e11 = Int32.ofNat (eN n m M 1 1) := h11.symm.trans (E 1 1 (by omega) (by omega))
  have E12 : e12 = Int32.ofNat (eN n m M 1 2) := h12.symm.trans (E 1 2 (by omega) (by omega))
  have E20 : e20 = Int32.ofNat (eN n m M 2 0) := h20.symm.trans (E 2 0 (by omega) (by omega))
  have E21 : e21 = Int32.ofNat (eN n m M 2 1) := h21.symm.trans (E 2 1 (by omega) (by omega))
  have E22 : e22 = Int32.ofNat (eN n m M 2 2) := h22.symm.trans (E 2 2 (by omega) (by omega))
  have L00 := L 0 0; have L01 := L 0 1; have L02 := L 0 2; have L10 := L 1 0; have L11 := L 1 1; have L12 := L 1 2; have L20 := L 2 0; have L21 := L 2 1; have L22 := L 2 2
  unfold mxN
  generalize eN n m M 0 0 = a00 at *; generalize eN n m M 0 1 = a01 at *; generalize eN n m M 0 2 = a02 at *; generalize eN n m M 1 0 = a10 at *; generalize eN n m M 1 1 = a11 at *; generalize eN n m M 1 2 = a12 at *; generalize eN n m M 2 0 = a20 at *; generalize eN n m M 2 1 = a21 at *; generalize eN n m M 2 2 = a22 at *
  have S3 : ∀ {x y z : Nat}, x ≤ 1 → y ≤ 1 → z ≤ 1 → Int32.ofNat x + Int32.ofNat y + Int32.ofNat z = Int32.ofNat (x + y + z) := fun hx hy hz => by rw [ofN_add (by omega) (by omega), ofN_add (by omega) (by omega)]
  rw [← g5, ← g4, ← g3, ← g2, ← g1, E00, E01, E02, E10, E11, E12, E20, E21, E22, S3 L00 L11 L22, S3 L00 L12 L21, S3 L01 L10 L22, S3 L01 L12 L20, S3 L02 L10 L21, S3 L02 L11 L20,
    ofN_max (by omega) (by omega), ofN_max (by omega) (by omega), ofN_max (by omega) (by omega), ofN_max (by omega) (by omega), ofN_max (by omega) (by omega)]
theorem q2_fin : Jvm.Free.Fl.Fin64 (4611686018427387904 : UInt64) := by unfold Jvm.Free.Fl.Fin64; decide
theorem nn_mul (x : Int32) : Jvm.Free.Fl.NoNaN64 (FP.dmul (4611686018427387904 : UInt64) (FP.i2d x)) := Jvm.Free.Fl.dmul_out q2_fin (Jvm.Free.Fl.i2d_fin x)
theorem nn_div (x : Int32) {y : Int32} (h : ¬ (y = 0)) : Jvm.Free.Fl.NoNaN64 (FP.ddiv (FP.dmul (4611686018427387904 : UInt64) (FP.i2d x)) (FP.i2d y)) := Jvm.Free.Fl.ddiv_out (nn_mul x) (Jvm.Free.Fl.i2d_fin y) (Jvm.Free.Fl.i2d_nz h)
theorem nn_one : Jvm.Free.Fl.NoNaN64 FP.dconst1 := by unfold Jvm.Free.Fl.NoNaN64; decide +kernel

def Q_minR (Z : State) (x : Int32) (y : Int32) (h0 : Heap) (n0 : Nat) (v : Option Value) (h : Heap) (L : List Loc) : Prop := v = some (.int (minI x y)) ∧ Fr n0 L ∧ h = h0
theorem d1_0 : decode jdk_29_method_69_code 0 = .ok (.iload_n 0, 1) := by decide +kernel
theorem d1_1 : decode jdk_29_method_69_code 1 = .ok (.iload_n 1, 1) := by decide +kernel
theorem d1_2 : decode jdk_29_method_69_code 2 = .ok (.if_icmp .gt 7, 3) := by decide +kernel
theorem d1_9 : decode jdk_29_method_69_code 9 = .ok (.iload_n 1, 1) := by decide +kernel
theorem d1_10 : decode jdk_29_method_69_code 10 = .ok (.ireturn, 1) := by decide +kernel
theorem ef_1_II (m : MethodId) (x0 : Int32) (x1 : Int32) : entryFrame m #[(.int x0), (.int x1)] 2 = mkF m 0 #[.val (.int x0), .val (.int x1)] [] := by first | (simp [entryFrame, mkF, argsToLocals, Value.category]; done) | rfl
set_option maxRecDepth 65536 in
set_option maxHeartbeats 40000000 in
theorem minR_1 (l : Launch) (Z : State) (a0 : Array Value) (hw : ∀ d ∈ tables_1, d.before a0 Z = true) (ws : List Jvm.Cond) (x : Int32) (y : Int32) (h0 : Heap) (n0 : Nat) (Z0 : n0 ≤ h0.size) (hc2 : y < x) :
    MetFree l (⟨"java/lang/Math", "min", "(II)I"⟩ : MethodName) (head1 (Jvm.Cond.code (⟨"java/lang/Math", "min", "(II)I"⟩ : MethodName) jdk_29_method_69_code 2 (some .int) :: ws) ({ frames := 0, cells := 0, slots := 0, locals := 0 } : Room)) (fun zA zU => zA = #[(.int x), (.int y)] ∧ Z.Warmed39 zU.vm ∧ zU.heap = h0) (fun _ _ _ _ _ => True) (fun _ zU zo zU' => ∃ zv zL, zo = .returned zv ∧ Q_minR Z x y h0 n0 zv zU'.heap zL ∧ FrameEnd zU zo zU' zL ({ frames := 0, cells := 0, slots := 0, locals := 0 } : Room).cells ({ frames := 0, cells := 0, slots := 0, locals := 0 } : Room).slots) := by
  refine MetFree.of_bodySF (Jvm.Free.JP.mathPlain rfl (by decide +kernel)) hisR ?_
  intro p e s m args below meth c s₁ Bd hml0 hP hK
  obtain ⟨rfl, hZ, hh⟩ := hP
  have hx := Bd.exec
  have hby := Bd.bytes
  have hml : c.maxLocals = 2 := hml0
  have hown : s.vm.findClass "java/lang/Math" = some m.cls := findClass_of_methodNamed Bd.named
  have hnm := (name_of_methodNamed Bd.named Bd.method).1
  have X0 : Stand p l e ({ frames := 0, cells := 0, slots := 0, locals := 0 } : Room) s m #[(.int x), (.int y)] below meth c s₁ [] 0 0 := Stand.of_body Bd
  have e0 : s₁.heap = h0 := by rw [← hh, Bd.state]; rfl
  have N0 := Fr.nil n0
  have pre0 : ∀ zt, Steps p.tables e below (s₁.setTop (mkF m 0 #[.val (.int x), .val (.int y)] [])) zt → Steps p.tables e below (s₁.setTop (entryFrame m #[(.int x), (.int y)] 2)) zt := fun zt zk => castTop (ef_1_II m x y) zk
  obtain ⟨fs, hr, hrun, hended, hW, hsame⟩ := X0.leave (v := some (.int y)) (fun h => by rw [Bd.returns] at h; cases h)
  refine ⟨_, _, pre0 _ ?_, hrun, hended, _, _, rfl, ?_, ⟨_, rfl⟩, hW, hsame.mono (by decide) (by decide)⟩
  · show Steps p.tables e below (s₁.setTop (mkF m 0 #[.val (.int x), .val (.int y)] [])) _
    refine XS.iloadN X0.here hx rfl (hb hby d1_0) rfl ?_
    show Steps p.tables e below (s₁.setTop (mkF m 1 #[.val (.int x), .val (.int y)] [(.int x)])) _
    refine XS.iloadN X0.here hx rfl (hb hby d1_1) rfl ?_
    show Steps p.tables e below (s₁.setTop (mkF m 2 #[.val (.int x), .val (.int y)] [(.int y), (.int x)])) _
    refine XS.icmpYes X0.here hx rfl (pc0 := 2) (pc' := 9) rfl (hb hby d1_2) rfl (tlt (hc2 : y < x)).2.2.1 (by decide) (by decide) ?_
    show Steps p.tables e below (s₁.setTop (mkF m 9 #[.val (.int x), .val (.int y)] [])) _
    refine XS.iloadN X0.here hx rfl (hb hby d1_9) rfl ?_
    show Steps p.tables e below (s₁.setTop (mkF m 10 #[.val (.int x), .val (.int y)] [(.int y)])) _
    exact retI X0 hx Bd.returns (hb hby d1_10) hr
  · show Q_minR Z x y h0 n0 _ s₁.heap _
    rw [e0]
    exact ⟨by rw [minI, if_pos hc2], N0, rfl⟩
theorem d1_5 : decode jdk_29_method_69_code 5 = .ok (.iload_n 0, 1) := by decide +kernel
theorem d1_6 : decode jdk_29_method_69_code 6 = .ok (.goto 4, 3) := by decide +kernel
set_option maxRecDepth 65536 in
set_option maxHeartbeats 40000000 in
theorem minR_2 (l : Launch) (Z : State) (a0 : Array Value) (hw : ∀ d ∈ tables_1, d.before a0 Z = true) (ws : List Jvm.Cond) (x : Int32) (y : Int32) (h0 : Heap) (n0 : Nat) (Z0 : n0 ≤ h0.size) (hc2 : ¬ (y < x)) :
    MetFree l (⟨"java/lang/Math", "min", "(II)I"⟩ : MethodName) (head1 (Jvm.Cond.code (⟨"java/lang/Math", "min", "(II)I"⟩ : MethodName) jdk_29_method_69_code 2 (some .int) :: ws) ({ frames := 0, cells := 0, slots := 0, locals := 0 } : Room)) (fun zA zU => zA = #[(.int x), (.int y)] ∧ Z.Warmed39 zU.vm ∧ zU.heap = h0) (fun _ _ _ _ _ => True) (fun _ zU zo zU' => ∃ zv zL, zo = .returned zv ∧ Q_minR Z x y h0 n0 zv zU'.heap zL ∧ FrameEnd zU zo zU' zL ({ frames := 0, cells := 0, slots := 0, locals := 0 } : Room).cells ({ frames := 0, cells := 0, slots := 0, locals := 0 } : Room).slots) := by
  refine MetFree.of_bodySF (Jvm.Free.JP.mathPlain rfl (by decide +kernel)) hisR ?_
  intro p e s m args below meth c s₁ Bd hml0 hP hK
  obtain ⟨rfl, hZ, hh⟩ := hP
  have hx := Bd.exec
  have hby := Bd.bytes
  have hml : c.maxLocals = 2 := hml0
  have hown : s.vm.findClass "java/lang/Math" = some m.cls := findClass_of_methodNamed Bd.named
  have hnm := (name_of_methodNamed Bd.named Bd.method).1
  have X0 : Stand p l e ({ frames := 0, cells := 0, slots := 0, locals := 0 } : Room) s m #[(.int x), (.int y)] below meth c s₁ [] 0 0 := Stand.of_body Bd
  have e0 : s₁.heap = h0 := by rw [← hh, Bd.state]; rfl
  have N0 := Fr.nil n0
  have pre0 : ∀ zt, Steps p.tables e below (s₁.setTop (mkF m 0 #[.val (.int x), .val (.int y)] [])) zt → Steps p.tables e below (s₁.setTop (entryFrame m #[(.int x), (.int y)] 2)) zt := fun zt zk => castTop (ef_1_II m x y) zk
  obtain ⟨fs, hr, hrun, hended, hW, hsame⟩ := X0.leave (v := some (.int x)) (fun h => by rw [Bd.returns] at h; cases h)
  refine ⟨_, _, pre0 _ ?_, hrun, hended, _, _, rfl, ?_, ⟨_, rfl⟩, hW, hsame.mono (by decide) (by decide)⟩
  · show Steps p.tables e below (s₁.setTop (mkF m 0 #[.val (.int x), .val (.int y)] [])) _
    refine XS.iloadN X0.here hx rfl (hb hby d1_0) rfl ?_
    show Steps p.tables e below (s₁.setTop (mkF m 1 #[.val (.int x), .val (.int y)] [(.int x)])) _
    refine XS.iloadN X0.here hx rfl (hb hby d1_1) rfl ?_
    show Steps p.tables e below (s₁.setTop (mkF m 2 #[.val (.int x), .val (.int y)] [(.int y), (.int x)])) _
    refine XS.icmpNo X0.here hx rfl (hb hby d1_2) rfl (flt (hc2 : ¬ (y < x))).2.2.1 ?_
    show Steps p.tables e below (s₁.setTop (mkF m 5 #[.val (.int x), .val (.int y)] [])) _
    refine XS.iloadN X0.here hx rfl (hb hby d1_5) rfl ?_
    show Steps p.tables e below (s₁.setTop (mkF m 6 #[.val (.int x), .val (.int y)] [(.int x)])) _
    refine XS.goto X0.here hx rfl (pc0 := 6) (pc' := 10) rfl (hb hby d1_6) (by decide) (by decide) ?_
    show Steps p.tables e below (s₁.setTop (mkF m 10 #[.val (.int x), .val (.int y)] [(.int x)])) _
    exact retI X0 hx Bd.returns (hb hby d1_10) hr
  · show Q_minR Z x y h0 n0 _ s₁.heap _
    rw [e0]
    exact ⟨by rw [minI, if_neg hc2], N0, rfl⟩
set_option maxRecDepth 65536 in
set_option maxHeartbeats 40000000 in
theorem minR (l : Launch) (Z : State) (a0 : Array Value) (hw : ∀ d ∈ tables_1, d.before a0 Z = true) (ws : List Jvm.Cond) (x : Int32) (y : Int32) (h0 : Heap) (n0 : Nat) (Z0 : n0 ≤ h0.size) :
    MetFree l (⟨"java/lang/Math", "min", "(II)I"⟩ : MethodName) (head1 (Jvm.Cond.code (⟨"java/lang/Math", "min", "(II)I"⟩ : MethodName) jdk_29_method_69_code 2 (some .int) :: ws) ({ frames := 0, cells := 0, slots := 0, locals := 0 } : Room)) (fun zA zU => zA = #[(.int x), (.int y)] ∧ Z.Warmed39 zU.vm ∧ zU.heap = h0) (fun _ _ _ _ _ => True) (fun _ zU zo zU' => ∃ zv zL, zo = .returned zv ∧ Q_minR Z x y h0 n0 zv zU'.heap zL ∧ FrameEnd zU zo zU' zL ({ frames := 0, cells := 0, slots := 0, locals := 0 } : Room).cells ({ frames := 0, cells := 0, slots := 0, locals := 0 } : Room).slots) := by
  by_cases h1 : y < x
  · exact minR_1 l Z a0 hw ws x y h0 n0 Z0  h1
  · exact minR_2 l Z a0 hw ws x y h0 n0 Z0  h1
def Q_maxR (Z : State) (x : Int32) (y : Int32) (h0 : Heap) (n0 : Nat) (v : Option Value) (h : Heap) (L : List Loc) : Prop := v = some (.int (maxI x y)) ∧ Fr n0 L ∧ h = h0
theorem d2_0 : decode jdk_29_method_65_code 0 = .ok (.iload_n 0, 1) := by decide +kernel
theorem d2_1 : decode jdk_29_method_65_code 1 = .ok (.iload_n 1, 1) := by decide +kernel
theorem d2_2 : decode jdk_29_method_65_code 2 = .ok (.if_icmp .lt 7, 3) := by decide +kernel
theorem d2_9 : decode jdk_29_method_65_code 9 = .ok (.iload_n 1, 1) := by decide +kernel
theorem d2_10 : decode jdk_29_method_65_code 10 = .ok (.ireturn, 1) := by decide +kernel
theorem ef_2_II (m : MethodId) (x0 : Int32) (x1 : Int32) : entryFrame m #[(.int x0), (.int x1)] 2 = mkF m 0 #[.val (.int x0), .val (.int x1)] [] := by first | (simp [entryFrame, mkF, argsToLocals, Value.category]; done) | rfl
set_option maxRecDepth 65536 in
set_option maxHeartbeats 40000000 in
theorem maxR_1 (l : Launch) (Z : State) (a0 : Array Value) (hw : ∀ d ∈ tables_1, d.before a0 Z = true) (ws : List Jvm.Cond) (x : Int32) (y : Int32) (h0 : Heap) (n0 : Nat) (Z0 : n0 ≤ h0.size) (hc2 : x < y) :
    MetFree l (⟨"java/lang/Math", "max", "(II)I"⟩ : MethodName) (head1 (Jvm.Cond.code (⟨"java/lang/Math", "max", "(II)I"⟩ : MethodName) jdk_29_method_65_code 2 (some .int) :: ws) ({ frames := 0, cells := 0, slots := 0, locals := 0 } : Room)) (fun zA zU => zA = #[(.int x), (.int y)] ∧ Z.Warmed39 zU.vm ∧ zU.heap = h0) (fun _ _ _ _ _ => True) (fun _ zU zo zU' => ∃ zv zL, zo = .returned zv ∧ Q_maxR Z x y h0 n0 zv zU'.heap zL ∧ FrameEnd zU zo zU' zL ({ frames := 0, cells := 0, slots := 0, locals := 0 } : Room).cells ({ frames := 0, cells := 0, slots := 0, locals := 0 } : Room).slots) := by
  refine MetFree.of_bodySF (Jvm.Free.JP.mathPlain rfl (by decide +kernel)) hisR ?_
  intro p e s m args below meth c s₁ Bd hml0 hP hK
  obtain ⟨rfl, hZ, hh⟩ := hP
  have hx := Bd.exec
  have hby := Bd.bytes
  have hml : c.maxLocals = 2 := hml0
  have hown : s.vm.findClass "java/lang/Math" = some m.cls := findClass_of_methodNamed Bd.named
  have hnm := (name_of_methodNamed Bd.named Bd.method).1
  have X0 : Stand p l e ({ frames := 0, cells := 0, slots := 0, locals := 0 } : Room) s m #[(.int x), (.int y)] below meth c s₁ [] 0 0 := Stand.of_body Bd
  have e0 : s₁.heap = h0 := by rw [← hh, Bd.state]; rfl
  have N0 := Fr.nil n0
  have pre0 : ∀ zt, Steps p.tables e below (s₁.setTop (mkF m 0 #[.val (.int x), .val (.int y)] [])) zt → Steps p.tables e below (s₁.setTop (entryFrame m #[(.int x), (.int y)] 2)) zt := fun zt zk => castTop (ef_2_II m x y) zk
  obtain ⟨fs, hr, hrun, hended, hW, hsame⟩ := X0.leave (v := some (.int y)) (fun h => by rw [Bd.returns] at h; cases h)
  refine ⟨_, _, pre0 _ ?_, hrun, hended, _, _, rfl, ?_, ⟨_, rfl⟩, hW, hsame.mono (by decide) (by decide)⟩
  · show Steps p.tables e below (s₁.setTop (mkF m 0 #[.val (.int x), .val (.int y)] [])) _
    refine XS.iloadN X0.here hx rfl (hb hby d2_0) rfl ?_
    show Steps p.tables e below (s₁.setTop (mkF m 1 #[.val (.int x), .val (.int y)] [(.int x)])) _
    refine XS.iloadN X0.here hx rfl (hb hby d2_1) rfl ?_
    show Steps p.tables e below (s₁.setTop (mkF m 2 #[.val (.int x), .val (.int y)] [(.int y), (.int x)])) _
    refine XS.icmpYes X0.here hx rfl (pc0 := 2) (pc' := 9) rfl (hb hby d2_2) rfl (tlt (hc2 : x < y)).1 (by decide) (by decide) ?_
    show Steps p.tables e below (s₁.setTop (mkF m 9 #[.val (.int x), .val (.int y)] [])) _
    refine XS.iloadN X0.here hx rfl (hb hby d2_9) rfl ?_
    show Steps p.tables e below (s₁.setTop (mkF m 10 #[.val (.int x), .val (.int y)] [(.int y)])) _
    exact retI X0 hx Bd.returns (hb hby d2_10) hr
  · show Q_maxR Z x y h0 n0 _ s₁.heap _
    rw [e0]
    exact ⟨by rw [maxI, if_pos hc2], N0, rfl⟩
theorem d2_5 : decode jdk_29_method_65_code 5 = .ok (.iload_n 0, 1) := by decide +kernel
theorem d2_6 : decode jdk_29_method_65_code 6 = .ok (.goto 4, 3) := by decide +kernel
set_option maxRecDepth 65536 in
set_option maxHeartbeats 40000000 in
theorem maxR_2 (l : Launch) (Z : State) (a0 : Array Value) (hw : ∀ d ∈ tables_1, d.before a0 Z = true) (ws : List Jvm.Cond) (x : Int32) (y : Int32) (h0 : Heap) (n0 : Nat) (Z0 : n0 ≤ h0.size) (hc2 : ¬ (x < y)) :
    MetFree l (⟨"java/lang/Math", "max", "(II)I"⟩ : MethodName) (head1 (Jvm.Cond.code (⟨"java/lang/Math", "max", "(II)I"⟩ : MethodName) jdk_29_method_65_code 2 (some .int) :: ws) ({ frames := 0, cells := 0, slots := 0, locals := 0 } : Room)) (fun zA zU => zA = #[(.int x), (.int y)] ∧ Z.Warmed39 zU.vm ∧ zU.heap = h0) (fun _ _ _ _ _ => True) (fun _ zU zo zU' => ∃ zv zL, zo = .returned zv ∧ Q_maxR Z x y h0 n0 zv zU'.heap zL ∧ FrameEnd zU zo zU' zL ({ frames := 0, cells := 0, slots := 0, locals := 0 } : Room).cells ({ frames := 0, cells := 0, slots := 0, locals := 0 } : Room).slots) := by
  refine MetFree.of_bodySF (Jvm.Free.JP.mathPlain rfl (by decide +kernel)) hisR ?_
  intro p e s m args below meth c s₁ Bd hml0 hP hK
  obtain ⟨rfl, hZ, hh⟩ := hP
  have hx := Bd.exec
  have hby := Bd.bytes
  have hml : c.maxLocals = 2 := hml0
  have hown : s.vm.findClass "java/lang/Math" = some m.cls := findClass_of_methodNamed Bd.named
  have hnm := (name_of_methodNamed Bd.named Bd.method).1
  have X0 : Stand p l e ({ frames := 0, cells := 0, slots := 0, locals := 0 } : Room) s m #[(.int x), (.int y)] below meth c s₁ [] 0 0 := Stand.of_body Bd
  have e0 : s₁.heap = h0 := by rw [← hh, Bd.state]; rfl
  have N0 := Fr.nil n0
  have pre0 : ∀ zt, Steps p.tables e below (s₁.setTop (mkF m 0 #[.val (.int x), .val (.int y)] [])) zt → Steps p.tables e below (s₁.setTop (entryFrame m #[(.int x), (.int y)] 2)) zt := fun zt zk => castTop (ef_2_II m x y) zk
  obtain ⟨fs, hr, hrun, hended, hW, hsame⟩ := X0.leave (v := some (.int x)) (fun h => by rw [Bd.returns] at h; cases h)
  refine ⟨_, _, pre0 _ ?_, hrun, hended, _, _, rfl, ?_, ⟨_, rfl⟩, hW, hsame.mono (by decide) (by decide)⟩
  · show Steps p.tables e below (s₁.setTop (mkF m 0 #[.val (.int x), .val (.int y)] [])) _
    refine XS.iloadN X0.here hx rfl (hb hby d2_0) rfl ?_
    show Steps p.tables e below (s₁.setTop (mkF m 1 #[.val (.int x), .val (.int y)] [(.int x)])) _
    refine XS.iloadN X0.here hx rfl (hb hby d2_1) rfl ?_
    show Steps p.tables e below (s₁.setTop (mkF m 2 #[.val (.int x), .val (.int y)] [(.int y), (.int x)])) _
    refine XS.icmpNo X0.here hx rfl (hb hby d2_2) rfl (flt (hc2 : ¬ (x < y))).1 ?_
    show Steps p.tables e below (s₁.setTop (mkF m 5 #[.val (.int x), .val (.int y)] [])) _
    refine XS.iloadN X0.here hx rfl (hb hby d2_5) rfl ?_
    show Steps p.tables e below (s₁.setTop (mkF m 6 #[.val (.int x), .val (.int y)] [(.int x)])) _
    refine XS.goto X0.here hx rfl (pc0 := 6) (pc' := 10) rfl (hb hby d2_6) (by decide) (by decide) ?_
    show Steps p.tables e below (s₁.setTop (mkF m 10 #[.val (.int x), .val (.int y)] [(.int x)])) _
    exact retI X0 hx Bd.returns (hb hby d2_10) hr
  · show Q_maxR Z x y h0 n0 _ s₁.heap _
    rw [e0]
    exact ⟨by rw [maxI, if_neg hc2], N0, rfl⟩
set_option maxRecDepth 65536 in
set_option maxHeartbeats 40000000 in
theorem maxR (l : Launch) (Z : State) (a0 : Array Value) (hw : ∀ d ∈ tables_1, d.before a0 Z = true) (ws : List Jvm.Cond) (x : Int32) (y : Int32) (h0 : Heap) (n0 : Nat) (Z0 : n0 ≤ h0.size) :
    MetFree l (⟨"java/lang/Math", "max", "(II)I"⟩ : MethodName) (head1 (Jvm.Cond.code (⟨"java/lang/Math", "max", "(II)I"⟩ : MethodName) jdk_29_method_65_code 2 (some .int) :: ws) ({ frames := 0, cells := 0, slots := 0, locals := 0 } : Room)) (fun zA zU => zA = #[(.int x), (.int y)] ∧ Z.Warmed39 zU.vm ∧ zU.heap = h0) (fun _ _ _ _ _ => True) (fun _ zU zo zU' => ∃ zv zL, zo = .returned zv ∧ Q_maxR Z x y h0 n0 zv zU'.heap zL ∧ FrameEnd zU zo zU' zL ({ frames := 0, cells := 0, slots := 0, locals := 0 } : Room).cells ({ frames := 0, cells := 0, slots := 0, locals := 0 } : Room).slots) := by
  by_cases h1 : x < y
  · exact maxR_1 l Z a0 hw ws x y h0 n0 Z0  h1
  · exact maxR_2 l Z a0 hw ws x y h0 n0 Z0  h1
def Q_take0 (Z : State) (x : Int32) (y : Int32) (z : Int32) (f : Nat → Int32) (h0 : Heap) (n0 : Nat) (v : Option Value) (h : Heap) (L : List Loc) : Prop := ∃ r : Addr, v = some (.ref r) ∧ Fr n0 L ∧ Keep h0 h [] ∧ h0.size ≤ r ∧ ArF Z h r (0 : Int32) f
theorem d3_0 : decode method_4_code 0 = .ok (.iload_n 1, 1) := by decide +kernel
theorem d3_1 : decode method_4_code 1 = .ok (.iload_n 2, 1) := by decide +kernel
theorem d3_2 : decode method_4_code 2 = .ok (.iload_n 3, 1) := by decide +kernel
theorem d3_3 : decode method_4_code 3 = .ok (.invokestatic 33, 3) := by decide +kernel
theorem pd_0 : parseMethodDescriptor "(II)I" = some ⟨[.int, .int], some .int⟩ := by decide +kernel
theorem d3_6 : decode method_4_code 6 = .ok (.invokestatic 33, 3) := by decide +kernel
theorem d3_9 : decode method_4_code 9 = .ok (.istore 4, 2) := by decide +kernel
theorem d3_11 : decode method_4_code 11 = .ok (.iload_n 1, 1) := by decide +kernel
theorem d3_12 : decode method_4_code 12 = .ok (.iload_n 2, 1) := by decide +kernel
theorem d3_13 : decode method_4_code 13 = .ok (.iload_n 3, 1) := by decide +kernel
theorem d3_14 : decode method_4_code 14 = .ok (.invokestatic 19, 3) := by decide +kernel
theorem d3_17 : decode method_4_code 17 = .ok (.invokestatic 19, 3) := by decide +kernel
theorem d3_20 : decode method_4_code 20 = .ok (.istore 5, 2) := by decide +kernel
theorem d3_22 : decode method_4_code 22 = .ok (.iload_n 1, 1) := by decide +kernel
theorem d3_23 : decode method_4_code 23 = .ok (.iload_n 2, 1) := by decide +kernel
theorem d3_24 : decode method_4_code 24 = .ok (.invokestatic 33, 3) := by decide +kernel
theorem d3_27 : decode method_4_code 27 = .ok (.iload_n 1, 1) := by decide +kernel
theorem d3_28 : decode method_4_code 28 = .ok (.iload_n 2, 1) := by decide +kernel
theorem d3_29 : decode method_4_code 29 = .ok (.invokestatic 19, 3) := by decide +kernel
theorem d3_32 : decode method_4_code 32 = .ok (.iload_n 3, 1) := by decide +kernel
theorem d3_33 : decode method_4_code 33 = .ok (.invokestatic 33, 3) := by decide +kernel
theorem d3_36 : decode method_4_code 36 = .ok (.invokestatic 19, 3) := by decide +kernel
theorem d3_39 : decode method_4_code 39 = .ok (.istore 6, 2) := by decide +kernel
theorem d3_41 : decode method_4_code 41 = .ok (.iload_n 0, 1) := by decide +kernel
theorem d3_42 : decode method_4_code 42 = .ok (.newarray .int, 2) := by decide +kernel
theorem d3_44 : decode method_4_code 44 = .ok (.astore 7, 2) := by decide +kernel
theorem d3_46 : decode method_4_code 46 = .ok (.iload_n 0, 1) := by decide +kernel
theorem d3_47 : decode method_4_code 47 = .ok (.ifCond .le 9, 3) := by decide +kernel
theorem d3_56 : decode method_4_code 56 = .ok (.iload_n 0, 1) := by decide +kernel
theorem d3_57 : decode method_4_code 57 = .ok (.iconst 1, 1) := by decide +kernel
theorem d3_58 : decode method_4_code 58 = .ok (.if_icmp .le 9, 3) := by decide +kernel
theorem d3_67 : decode method_4_code 67 = .ok (.iload_n 0, 1) := by decide +kernel
theorem d3_68 : decode method_4_code 68 = .ok (.iconst 2, 1) := by decide +kernel
theorem d3_69 : decode method_4_code 69 = .ok (.if_icmp .le 9, 3) := by decide +kernel
theorem d3_78 : decode method_4_code 78 = .ok (.aload 7, 2) := by decide +kernel
theorem d3_80 : decode method_4_code 80 = .ok (.areturn, 1) := by decide +kernel
theorem pn_4 : plainName "com/example/recital/recital/document/WordsLikenessPinLaw" = true := by first | (simp [plainName, overriddenIn]; done) | decide +kernel
theorem ef_3_IIII (m : MethodId) (x0 : Int32) (x1 : Int32) (x2 : Int32) (x3 : Int32) : entryFrame m #[(.int x0), (.int x1), (.int x2), (.int x3)] 8 = mkF m 0 #[.val (.int x0), .val (.int x1), .val (.int x2), .val (.int x3), .unset, .unset, .unset, .unset] [] := by first | (simp [entryFrame, mkF, argsToLocals, Value.category]; done) | rfl
set_option maxRecDepth 65536 in
set_option maxHeartbeats 40000000 in
theorem take0 (l : Launch) (Z : State) (a0 : Array Value) (hw : ∀ d ∈ tables_1, d.before a0 Z = true) (ws : List Jvm.Cond) (x : Int32) (y : Int32) (z : Int32) (f : Nat → Int32) (h0 : Heap) (n0 : Nat) (Z0 : n0 ≤ h0.size) (hf : pick3 (s0V x y z) (s1V x y z) (s2V x y z) = f) :
    MetFree l (⟨"com/example/recital/recital/document/WordsLikenessPinLaw", "sortedTake", "(IIII)[I"⟩ : MethodName) (head1 (Jvm.Cond.code (⟨"com/example/recital/recital/document/WordsLikenessPinLaw", "sortedTake", "(IIII)[I"⟩ : MethodName) method_4_code 8 (some (.array .int)) :: ws) ({ frames := 1, cells := 1, slots := 3, locals := 15 } : Room)) (fun zA zU => zA = #[(.int (0 : Int32)), (.int x), (.int y), (.int z)] ∧ Z.Warmed39 zU.vm ∧ zU.heap = h0) (fun _ _ _ _ _ => True) (fun _ zU zo zU' => ∃ zv zL, zo = .returned zv ∧ Q_take0 Z x y z f h0 n0 zv zU'.heap zL ∧ FrameEnd zU zo zU' zL ({ frames := 1, cells := 1, slots := 3, locals := 15 } : Room).cells ({ frames := 1, cells := 1, slots := 3, locals := 15 } : Room).slots) := by
  refine MetFree.of_bodySF (plainFor_of_name pn_4) hisR ?_
  intro p e s m args below meth c s₁ Bd hml0 hP hK
  obtain ⟨rfl, hZ, hh⟩ := hP
  have hx := Bd.exec
  have hby := Bd.bytes
  have hml : c.maxLocals = 8 := hml0
  have hown : s.vm.findClass "com/example/recital/recital/document/WordsLikenessPinLaw" = some m.cls := findClass_of_methodNamed Bd.named
  have hnm := (name_of_methodNamed Bd.named Bd.method).1
  have X0 : Stand p l e ({ frames := 1, cells := 1, slots := 3, locals := 15 } : Room) s m #[(.int (0 : Int32)), (.int x), (.int y), (.int z)] below meth c s₁ [] 0 0 := Stand.of_body Bd
  have e0 : s₁.heap = h0 := by rw [← hh, Bd.state]; rfl
  have N0 := Fr.nil n0
  have pre0 : ∀ zt, Steps p.tables e below (s₁.setTop (mkF m 0 #[.val (.int (0 : Int32)), .val (.int x), .val (.int y), .val (.int z), .unset, .unset, .unset, .unset] [])) zt → Steps p.tables e below (s₁.setTop (entryFrame m #[(.int (0 : Int32)), (.int x), (.int y), (.int z)] 8)) zt := fun zt zk => castTop (ef_3_IIII m (0 : Int32) x y z) zk
  obtain ⟨_, _, ⟨T1, L1, k1, n1⟩, -, X1, ⟨Lc1, hQ1, l1, y1, z1⟩, st1⟩ := Jvm.LawKit.callS X0 hx (y := (⟨"java/lang/Math", "min", "(II)I"⟩ : MethodName)) hown (mvT hZ (hw _ (List.mem_of_getElem? (i := 6) rfl))) (mvT hZ (hw _ (List.mem_of_getElem? (i := 7) rfl))) (mvT hZ (hw _ (List.mem_of_getElem? (i := 8) rfl))) (mvT hZ (hw _ (List.mem_of_getElem? (i := 9) rfl))) (by decide) (backOf (W := 1) (minR l Z a0 hw [] y z h0 n0 (Nat.le_trans Z0 (Keep.refl h0 []).1) ) hZ (hw _ (List.mem_of_getElem? (i := 9) rfl)) (hw _ (List.mem_of_getElem? (i := 8) rfl)) (by decide) (by decide)) (g := (mkF m 3 #[.val (.int (0 : Int32)), .val (.int x), .val (.int y), .val (.int z), .unset, .unset, .unset, .unset] [(.int z), (.int y), (.int x)])) rfl (by rw [hml]; rfl) (argsL := [(.int y), (.int z)]) (rest := [(.int x)]) (lenOf pd_0 rfl) rfl (by show 2 * 0 + _ ≤ _; exact Nat.le_of_eq rfl) (hb hby d3_3) (fun _ _ => ⟨rfl, e0, (by decide : 0 + 0 ≤ _), (by decide : 0 + 0 ≤ _)⟩)
  dsimp only [Pt.U, Pt.locs, Pt.cells, Pt.slots] at X1 l1 y1 z1 st1 hQ1
  subst l1 y1 z1
  obtain ⟨rfl, Nq1, kh1⟩ := hQ1
  have N1 := Fr.app N0 Nq1
  obtain ⟨_, _, ⟨T2, L2, k2, n2⟩, -, X2, ⟨Lc2, hQ2, l2, y2, z2⟩, st2⟩ := Jvm.LawKit.callS X1 hx (y := (⟨"java/lang/Math", "min", "(II)I"⟩ : MethodName)) hown (mvT hZ (hw _ (List.mem_of_getElem? (i := 6) rfl))) (mvT hZ (hw _ (List.mem_of_getElem? (i := 7) rfl))) (mvT hZ (hw _ (List.mem_of_getElem? (i := 8) rfl))) (mvT hZ (hw _ (List.mem_of_getElem? (i := 9) rfl))) (by decide) (backOf (W := 0) (minR l Z a0 hw [] x (minI y z) h0 n0 (Nat.le_trans Z0 (Keep.refl h0 []).1) ) hZ (hw _ (List.mem_of_getElem? (i := 9) rfl)) (hw _ (List.mem_of_getElem? (i := 8) rfl)) (by decide) (by decide)) (g := (mkF m 6 #[.val (.int (0 : Int32)), .val (.int x), .val (.int y), .val (.int z), .unset, .unset, .unset, .unset] [(.int (minI y z)), (.int x)])) rfl (by rw [hml]; rfl) (argsL := [(.int x), (.int (minI y z))]) (rest := []) (lenOf pd_0 rfl) rfl (by show 2 * 0 + _ ≤ _; exact Nat.le_of_eq rfl) (hb hby d3_6) (fun _ _ => ⟨rfl, kh1, (by decide : 0 + 0 ≤ _), (by decide : 0 + 0 ≤ _)⟩)
  dsimp only [Pt.U, Pt.locs, Pt.cells, Pt.slots] at X2 l2 y2 z2 st2 hQ2
  subst l2 y2 z2
  obtain ⟨rfl, Nq2, kh2⟩ := hQ2
  have N2 := Fr.app N1 Nq2
  obtain ⟨_, _, ⟨T3, L3, k3, n3⟩, -, X3, ⟨Lc3, hQ3, l3, y3, z3⟩, st3⟩ := Jvm.LawKit.callS X2 hx (y := (⟨"java/lang/Math", "max", "(II)I"⟩ : MethodName)) hown (mvT hZ (hw _ (List.mem_of_getElem? (i := 10) rfl))) (mvT hZ (hw _ (List.mem_of_getElem? (i := 11) rfl))) (mvT hZ (hw _ (List.mem_of_getElem? (i := 8) rfl))) (mvT hZ (hw _ (List.mem_of_getElem? (i := 12) rfl))) (by decide) (backOf (W := 1) (maxR l Z a0 hw [] y z h0 n0 (Nat.le_trans Z0 (Keep.refl h0 []).1) ) hZ (hw _ (List.mem_of_getElem? (i := 12) rfl)) (hw _ (List.mem_of_getElem? (i := 8) rfl)) (by decide) (by decide)) (g := (mkF m 14 #[.val (.int (0 : Int32)), .val (.int x), .val (.int y), .val (.int z), .val (.int (minI x (minI y z))), .unset, .unset, .unset] [(.int z), (.int y), (.int x)])) rfl (by rw [hml]; rfl) (argsL := [(.int y), (.int z)]) (rest := [(.int x)]) (lenOf pd_0 rfl) rfl (by show 2 * 0 + _ ≤ _; exact Nat.le_of_eq rfl) (hb hby d3_14) (fun _ _ => ⟨rfl, kh2, (by decide : 0 + 0 ≤ _), (by decide : 0 + 0 ≤ _)⟩)
  dsimp only [Pt.U, Pt.locs, Pt.cells, Pt.slots] at X3 l3 y3 z3 st3 hQ3
  subst l3 y3 z3
  obtain ⟨rfl, Nq3, kh3⟩ := hQ3
  have N3 := Fr.app N2 Nq3
  obtain ⟨_, _, ⟨T4, L4, k4, n4⟩, -, X4, ⟨Lc4, hQ4, l4, y4, z4⟩, st4⟩ := Jvm.LawKit.callS X3 hx (y := (⟨"java/lang/Math", "max", "(II)I"⟩ : MethodName)) hown (mvT hZ (hw _ (List.mem_of_getElem? (i := 10) rfl))) (mvT hZ (hw _ (List.mem_of_getElem? (i := 11) rfl))) (mvT hZ (hw _ (List.mem_of_getElem? (i := 8) rfl))) (mvT hZ (hw _ (List.mem_of_getElem? (i := 12) rfl))) (by decide) (backOf (W := 0) (maxR l Z a0 hw [] x (maxI y z) h0 n0 (Nat.le_trans Z0 (Keep.refl h0 []).1) ) hZ (hw _ (List.mem_of_getElem? (i := 12) rfl)) (hw _ (List.mem_of_getElem? (i := 8) rfl)) (by decide) (by decide)) (g := (mkF m 17 #[.val (.int (0 : Int32)), .val (.int x), .val (.int y), .val (.int z), .val (.int (minI x (minI y z))), .unset, .unset, .unset] [(.int (maxI y z)), (.int x)])) rfl (by rw [hml]; rfl) (argsL := [(.int x), (.int (maxI y z))]) (rest := []) (lenOf pd_0 rfl) rfl (by show 2 * 0 + _ ≤ _; exact Nat.le_of_eq rfl) (hb hby d3_17) (fun _ _ => ⟨rfl, kh3, (by decide : 0 + 0 ≤ _), (by decide : 0 + 0 ≤ _)⟩)
  dsimp only [Pt.U, Pt.locs, Pt.cells, Pt.slots] at X4 l4 y4 z4 st4 hQ4
  subst l4 y4 z4
  obtain ⟨rfl, Nq4, kh4⟩ := hQ4
  have N4 := Fr.app N3 Nq4
  obtain ⟨_, _, ⟨T5, L5, k5, n5⟩, -, X5, ⟨Lc5, hQ5, l5, y5, z5⟩, st5⟩ := Jvm.LawKit.callS X4 hx (y := (⟨"java/lang/Math", "min", "(II)I"⟩ : MethodName)) hown (mvT hZ (hw _ (List.mem_of_getElem? (i := 6) rfl))) (mvT hZ (hw _ (List.mem_of_getElem? (i := 7) rfl))) (mvT hZ (hw _ (List.mem_of_getElem? (i := 8) rfl))) (mvT hZ (hw _ (List.mem_of_getElem? (i := 9) rfl))) (by decide) (backOf (W := 0) (minR l Z a0 hw [] x y h0 n0 (Nat.le_trans Z0 (Keep.refl h0 []).1) ) hZ (hw _ (List.mem_of_getElem? (i := 9) rfl)) (hw _ (List.mem_of_getElem? (i := 8) rfl)) (by decide) (by decide)) (g := (mkF m 24 #[.val (.int (0 : Int32)), .val (.int x), .val (.int y), .val (.int z), .val (.int (minI x (minI y z))), .val (.int (maxI x (maxI y z))), .unset, .unset] [(.int y), (.int x)])) rfl (by rw [hml]; rfl) (argsL := [(.int x), (.int y)]) (rest := []) (lenOf pd_0 rfl) rfl (by show 2 * 0 + _ ≤ _; exact Nat.le_of_eq rfl) (hb hby d3_24) (fun _ _ => ⟨rfl, kh4, (by decide : 0 + 0 ≤ _), (by decide : 0 + 0 ≤ _)⟩)
  dsimp only [Pt.U, Pt.locs, Pt.cells, Pt.slots] at X5 l5 y5 z5 st5 hQ5
  subst l5 y5 z5
  obtain ⟨rfl, Nq5, kh5⟩ := hQ5
  have N5 := Fr.app N4 Nq5
  obtain ⟨_, _, ⟨T6, L6, k6, n6⟩, -, X6, ⟨Lc6, hQ6, l6, y6, z6⟩, st6⟩ := Jvm.LawKit.callS X5 hx (y := (⟨"java/lang/Math", "max", "(II)I"⟩ : MethodName)) hown (mvT hZ (hw _ (List.mem_of_getElem? (i := 10) rfl))) (mvT hZ (hw _ (List.mem_of_getElem? (i := 11) rfl))) (mvT hZ (hw _ (List.mem_of_getElem? (i := 8) rfl))) (mvT hZ (hw _ (List.mem_of_getElem? (i := 12) rfl))) (by decide) (backOf (W := 1) (maxR l Z a0 hw [] x y h0 n0 (Nat.le_trans Z0 (Keep.refl h0 []).1) ) hZ (hw _ (List.mem_of_getElem? (i := 12) rfl)) (hw _ (List.mem_of_getElem? (i := 8) rfl)) (by decide) (by decide)) (g := (mkF m 29 #[.val (.int (0 : Int32)), .val (.int x), .val (.int y), .val (.int z), .val (.int (minI x (minI y z))), .val (.int (maxI x (maxI y z))), .unset, .unset] [(.int y), (.int x), (.int (minI x y))])) rfl (by rw [hml]; rfl) (argsL := [(.int x), (.int y)]) (rest := [(.int (minI x y))]) (lenOf pd_0 rfl) rfl (by show 2 * 0 + _ ≤ _; exact Nat.le_of_eq rfl) (hb hby d3_29) (fun _ _ => ⟨rfl, kh5, (by decide : 0 + 0 ≤ _), (by decide : 0 + 0 ≤ _)⟩)
  dsimp only [Pt.U, Pt.locs, Pt.cells, Pt.slots] at X6 l6 y6 z6 st6 hQ6
  subst l6 y6 z6
  obtain ⟨rfl, Nq6, kh6⟩ := hQ6
  have N6 := Fr.app N5 Nq6
  obtain ⟨_, _, ⟨T7, L7, k7, n7⟩, -, X7, ⟨Lc7, hQ7, l7, y7, z7⟩, st7⟩ := Jvm.LawKit.callS X6 hx (y := (⟨"java/lang/Math", "min", "(II)I"⟩ : MethodName)) hown (mvT hZ (hw _ (List.mem_of_getElem? (i := 6) rfl))) (mvT hZ (hw _ (List.mem_of_getElem? (i := 7) rfl))) (mvT hZ (hw _ (List.mem_of_getElem? (i := 8) rfl))) (mvT hZ (hw _ (List.mem_of_getElem? (i := 9) rfl))) (by decide) (backOf (W := 1) (minR l Z a0 hw [] (maxI x y) z h0 n0 (Nat.le_trans Z0 (Keep.refl h0 []).1) ) hZ (hw _ (List.mem_of_getElem? (i := 9) rfl)) (hw _ (List.mem_of_getElem? (i := 8) rfl)) (by decide) (by decide)) (g := (mkF m 33 #[.val (.int (0 : Int32)), .val (.int x), .val (.int y), .val (.int z), .val (.int (minI x (minI y z))), .val (.int (maxI x (maxI y z))), .unset, .unset] [(.int z), (.int (maxI x y)), (.int (minI x y))])) rfl (by rw [hml]; rfl) (argsL := [(.int (maxI x y)), (.int z)]) (rest := [(.int (minI x y))]) (lenOf pd_0 rfl) rfl (by show 2 * 0 + _ ≤ _; exact Nat.le_of_eq rfl) (hb hby d3_33) (fun _ _ => ⟨rfl, kh6, (by decide : 0 + 0 ≤ _), (by decide : 0 + 0 ≤ _)⟩)
  dsimp only [Pt.U, Pt.locs, Pt.cells, Pt.slots] at X7 l7 y7 z7 st7 hQ7
  subst l7 y7 z7
  obtain ⟨rfl, Nq7, kh7⟩ := hQ7
  have N7 := Fr.app N6 Nq7
  obtain ⟨_, _, ⟨T8, L8, k8, n8⟩, -, X8, ⟨Lc8, hQ8, l8, y8, z8⟩, st8⟩ := Jvm.LawKit.callS X7 hx (y := (⟨"java/lang/Math", "max", "(II)I"⟩ : MethodName)) hown (mvT hZ (hw _ (List.mem_of_getElem? (i := 10) rfl))) (mvT hZ (hw _ (List.mem_of_getElem? (i := 11) rfl))) (mvT hZ (hw _ (List.mem_of_getElem? (i := 8) rfl))) (mvT hZ (hw _ (List.mem_of_getElem? (i := 12) rfl))) (by decide) (backOf (W := 0) (maxR l Z a0 hw [] (minI x y) (minI (maxI x y) z) h0 n0 (Nat.le_trans Z0 (Keep.refl h0 []).1) ) hZ (hw _ (List.mem_of_getElem? (i := 12) rfl)) (hw _ (List.mem_of_getElem? (i := 8) rfl)) (by decide) (by decide)) (g := (mkF m 36 #[.val (.int (0 : Int32)), .val (.int x), .val (.int y), .val (.int z), .val (.int (minI x (minI y z))), .val (.int (maxI x (maxI y z))), .unset, .unset] [(.int (minI (maxI x y) z)), (.int (minI x y))])) rfl (by rw [hml]; rfl) (argsL := [(.int (minI x y)), (.int (minI (maxI x y) z))]) (rest := []) (lenOf pd_0 rfl) rfl (by show 2 * 0 + _ ≤ _; exact Nat.le_of_eq rfl) (hb hby d3_36) (fun _ _ => ⟨rfl, kh7, (by decide : 0 + 0 ≤ _), (by decide : 0 + 0 ≤ _)⟩)
  dsimp only [Pt.U, Pt.locs, Pt.cells, Pt.slots] at X8 l8 y8 z8 st8 hQ8
  subst l8 y8 z8
  obtain ⟨rfl, Nq8, kh8⟩ := hQ8
  have N8 := Fr.app N7 Nq8
  obtain ⟨T9, h9, k9, X9, e9, E9, A9, st9⟩ := newP X8 hx hZ (hw _ (List.mem_of_getElem? (i := 13) rfl)) kh8 (g := (mkF m 42 #[.val (.int (0 : Int32)), .val (.int x), .val (.int y), .val (.int z), .val (.int (minI x (minI y z))), .val (.int (maxI x (maxI y z))), .val (.int (maxI (minI x y) (minI (maxI x y) z))), .unset] [(.int (0 : Int32))])) rfl (hb hby d3_42) rfl (by decide) (cap := 0) (by decide) (by decide) (by decide) (by decide)
  obtain ⟨b9, gz9⟩ : ∃ z, z = h0.size := ⟨_, rfl⟩
  rw [← gz9] at A9 st9
  have sz_b9 : h0.size ≤ b9 := Nat.le_trans (Keep.refl h0 []).1 (Nat.le_of_eq gz9.symm)
  have g_b9 : n0 ≤ b9 := Nat.le_trans Z0 sz_b9
  have K9 : Keep h0 h9 [] := (Keep.refl h0 []).ext E9
  have V9 : Arv Z h9 b9 k9 .int (0 : Int32) [] (.int (0 : Int32)) := (Arv.new A9 (by decide)).pad (pad_rep [] (.int (0 : Int32)) 0)
  obtain ⟨fs, hr, hrun, hended, hW, hsame⟩ := X9.leave (v := some (.ref b9)) (fun h => by rw [Bd.returns] at h; cases h)
  refine ⟨_, _, pre0 _ ?_, hrun, hended, _, _, rfl, ?_, ⟨_, rfl⟩, hW, hsame.mono (by decide) (by decide)⟩
  · show Steps p.tables e below (s₁.setTop (mkF m 0 #[.val (.int (0 : Int32)), .val (.int x), .val (.int y), .val (.int z), .unset, .unset, .unset, .unset] [])) _
    refine XS.iloadN X0.here hx rfl (hb hby d3_0) rfl ?_
    show Steps p.tables e below (s₁.setTop (mkF m 1 #[.val (.int (0 : Int32)), .val (.int x), .val (.int y), .val (.int z), .unset, .unset, .unset, .unset] [(.int x)])) _
    refine XS.iloadN X0.here hx rfl (hb hby d3_1) rfl ?_
    show Steps p.tables e below (s₁.setTop (mkF m 2 #[.val (.int (0 : Int32)), .val (.int x), .val (.int y), .val (.int z), .unset, .unset, .unset, .unset] [(.int y), (.int x)])) _
    refine XS.iloadN X0.here hx rfl (hb hby d3_2) rfl ?_
    show Steps p.tables e below (s₁.setTop (mkF m 3 #[.val (.int (0 : Int32)), .val (.int x), .val (.int y), .val (.int z), .unset, .unset, .unset, .unset] [(.int z), (.int y), (.int x)])) _
    refine st1 _ ?_
    show Steps p.tables e below (T1.setTop (mkF m 6 #[.val (.int (0 : Int32)), .val (.int x), .val (.int y), .val (.int z), .unset, .unset, .unset, .unset] [(.int (minI y z)), (.int x)])) _
    refine st2 _ ?_
    show Steps p.tables e below (T2.setTop (mkF m 9 #[.val (.int (0 : Int32)), .val (.int x), .val (.int y), .val (.int z), .unset, .unset, .unset, .unset] [(.int (minI x (minI y z)))])) _
    refine XS.istore X2.here hx rfl (hb hby d3_9) rfl (l' := #[.val (.int (0 : Int32)), .val (.int x), .val (.int y), .val (.int z), .val (.int (minI x (minI y z))), .unset, .unset, .unset]) rfl ?_
    show Steps p.tables e below (T2.setTop (mkF m 11 #[.val (.int (0 : Int32)), .val (.int x), .val (.int y), .val (.int z), .val (.int (minI x (minI y z))), .unset, .unset, .unset] [])) _
    refine XS.iloadN X2.here hx rfl (hb hby d3_11) rfl ?_
    show Steps p.tables e below (T2.setTop (mkF m 12 #[.val (.int (0 : Int32)), .val (.int x), .val (.int y), .val (.int z), .val (.int (minI x (minI y z))), .unset, .unset, .unset] [(.int x)])) _
    refine XS.iloadN X2.here hx rfl (hb hby d3_12) rfl ?_
    show Steps p.tables e below (T2.setTop (mkF m 13 #[.val (.int (0 : Int32)), .val (.int x), .val (.int y), .val (.int z), .val (.int (minI x (minI y z))), .unset, .unset, .unset] [(.int y), (.int x)])) _
    refine XS.iloadN X2.here hx rfl (hb hby d3_13) rfl ?_
    show Steps p.tables e below (T2.setTop (mkF m 14 #[.val (.int (0 : Int32)), .val (.int x), .val (.int y), .val (.int z), .val (.int (minI x (minI y z))), .unset, .unset, .unset] [(.int z), (.int y), (.int x)])) _
    refine st3 _ ?_
    show Steps p.tables e below (T3.setTop (mkF m 17 #[.val (.int (0 : Int32)), .val (.int x), .val (.int y), .val (.int z), .val (.int (minI x (minI y z))), .unset, .unset, .unset] [(.int (maxI y z)), (.int x)])) _
    refine st4 _ ?_
    show Steps p.tables e below (T4.setTop (mkF m 20 #[.val (.int (0 : Int32)), .val (.int x), .val (.int y), .val (.int z), .val (.int (minI x (minI y z))), .unset, .unset, .unset] [(.int (maxI x (maxI y z)))])) _
    refine XS.istore X4.here hx rfl (hb hby d3_20) rfl (l' := #[.val (.int (0 : Int32)), .val (.int x), .val (.int y), .val (.int z), .val (.int (minI x (minI y z))), .val (.int (maxI x (maxI y z))), .unset, .unset]) rfl ?_
    show Steps p.tables e below (T4.setTop (mkF m 22 #[.val (.int (0 : Int32)), .val (.int x), .val (.int y), .val (.int z), .val (.int (minI x (minI y z))), .val (.int (maxI x (maxI y z))), .unset, .unset] [])) _
    refine XS.iloadN X4.here hx rfl (hb hby d3_22) rfl ?_
    show Steps p.tables e below (T4.setTop (mkF m 23 #[.val (.int (0 : Int32)), .val (.int x), .val (.int y), .val (.int z), .val (.int (minI x (minI y z))), .val (.int (maxI x (maxI y z))), .unset, .unset] [(.int x)])) _
    refine XS.iloadN X4.here hx rfl (hb hby d3_23) rfl ?_
    show Steps p.tables e below (T4.setTop (mkF m 24 #[.val (.int (0 : Int32)), .val (.int x), .val (.int y), .val (.int z), .val (.int (minI x (minI y z))), .val (.int (maxI x (maxI y z))), .unset, .unset] [(.int y), (.int x)])) _
    refine st5 _ ?_
    show Steps p.tables e below (T5.setTop (mkF m 27 #[.val (.int (0 : Int32)), .val (.int x), .val (.int y), .val (.int z), .val (.int (minI x (minI y z))), .val (.int (maxI x (maxI y z))), .unset, .unset] [(.int (minI x y))])) _
    refine XS.iloadN X5.here hx rfl (hb hby d3_27) rfl ?_
    show Steps p.tables e below (T5.setTop (mkF m 28 #[.val (.int (0 : Int32)), .val (.int x), .val (.int y), .val (.int z), .val (.int (minI x (minI y z))), .val (.int (maxI x (maxI y z))), .unset, .unset] [(.int x), (.int (minI x y))])) _
    refine XS.iloadN X5.here hx rfl (hb hby d3_28) rfl ?_
    show Steps p.tables e below (T5.setTop (mkF m 29 #[.val (.int (0 : Int32)), .val (.int x), .val (.int y), .val (.int z), .val (.int (minI x (minI y z))), .val (.int (maxI x (maxI y z))), .unset, .unset] [(.int y), (.int x), (.int (minI x y))])) _
    refine st6 _ ?_
    show Steps p.tables e below (T6.setTop (mkF m 32 #[.val (.int (0 : Int32)), .val (.int x), .val (.int y), .val (.int z), .val (.int (minI x (minI y z))), .val (.int (maxI x (maxI y z))), .unset, .unset] [(.int (maxI x y)), (.int (minI x y))])) _
    refine XS.iloadN X6.here hx rfl (hb hby d3_32) rfl ?_
    show Steps p.tables e below (T6.setTop (mkF m 33 #[.val (.int (0 : Int32)), .val (.int x), .val (.int y), .val (.int z), .val (.int (minI x (minI y z))), .val (.int (maxI x (maxI y z))), .unset, .unset] [(.int z), (.int (maxI x y)), (.int (minI x y))])) _
    refine st7 _ ?_
    show Steps p.tables e below (T7.setTop (mkF m 36 #[.val (.int (0 : Int32)), .val (.int x), .val (.int y), .val (.int z), .val (.int (minI x (minI y z))), .val (.int (maxI x (maxI y z))), .unset, .unset] [(.int (minI (maxI x y) z)), (.int (minI x y))])) _
    refine st8 _ ?_
    show Steps p.tables e below (T8.setTop (mkF m 39 #[.val (.int (0 : Int32)), .val (.int x), .val (.int y), .val (.int z), .val (.int (minI x (minI y z))), .val (.int (maxI x (maxI y z))), .unset, .unset] [(.int (maxI (minI x y) (minI (maxI x y) z)))])) _
    refine XS.istore X8.here hx rfl (hb hby d3_39) rfl (l' := #[.val (.int (0 : Int32)), .val (.int x), .val (.int y), .val (.int z), .val (.int (minI x (minI y z))), .val (.int (maxI x (maxI y z))), .val (.int (maxI (minI x y) (minI (maxI x y) z))), .unset]) rfl ?_
    show Steps p.tables e below (T8.setTop (mkF m 41 #[.val (.int (0 : Int32)), .val (.int x), .val (.int y), .val (.int z), .val (.int (minI x (minI y z))), .val (.int (maxI x (maxI y z))), .val (.int (maxI (minI x y) (minI (maxI x y) z))), .unset] [])) _
    refine XS.iloadN X8.here hx rfl (hb hby d3_41) rfl ?_
    show Steps p.tables e below (T8.setTop (mkF m 42 #[.val (.int (0 : Int32)), .val (.int x), .val (.int y), .val (.int z), .val (.int (minI x (minI y z))), .val (.int (maxI x (maxI y z))), .val (.int (maxI (minI x y) (minI (maxI x y) z))), .unset] [(.int (0 : Int32))])) _
    refine st9 _ ?_
    show Steps p.tables e below (T9.setTop (mkF m 44 #[.val (.int (0 : Int32)), .val (.int x), .val (.int y), .val (.int z), .val (.int (minI x (minI y z))), .val (.int (maxI x (maxI y z))), .val (.int (maxI (minI x y) (minI (maxI x y) z))), .unset] [(.ref b9)])) _
    refine XS.astore X9.here hx rfl (hb hby d3_44) rfl rfl (l' := #[.val (.int (0 : Int32)), .val (.int x), .val (.int y), .val (.int z), .val (.int (minI x (minI y z))), .val (.int (maxI x (maxI y z))), .val (.int (maxI (minI x y) (minI (maxI x y) z))), .val (.ref b9)]) rfl ?_
    show Steps p.tables e below (T9.setTop (mkF m 46 #[.val (.int (0 : Int32)), .val (.int x), .val (.int y), .val (.int z), .val (.int (minI x (minI y z))), .val (.int (maxI x (maxI y z))), .val (.int (maxI (minI x y) (minI (maxI x y) z))), .val (.ref b9)] [])) _
    refine XS.iloadN X9.here hx rfl (hb hby d3_46) rfl ?_
    show Steps p.tables e below (T9.setTop (mkF m 47 #[.val (.int (0 : Int32)), .val (.int x), .val (.int y), .val (.int z), .val (.int (minI x (minI y z))), .val (.int (maxI x (maxI y z))), .val (.int (maxI (minI x y) (minI (maxI x y) z))), .val (.ref b9)] [(.int (0 : Int32))])) _
    refine XS.ifYes X9.here hx rfl (pc0 := 47) (pc' := 56) rfl (hb hby d3_47) rfl ((if0 _ _).trans (flt (by decide : ¬ ((0 : Int32) < (0 : Int32)))).2.2.2) (by decide) (by decide) ?_
    show Steps p.tables e below (T9.setTop (mkF m 56 #[.val (.int (0 : Int32)), .val (.int x), .val (.int y), .val (.int z), .val (.int (minI x (minI y z))), .val (.int (maxI x (maxI y z))), .val (.int (maxI (minI x y) (minI (maxI x y) z))), .val (.ref b9)] [])) _
    refine XS.iloadN X9.here hx rfl (hb hby d3_56) rfl ?_
    show Steps p.tables e below (T9.setTop (mkF m 57 #[.val (.int (0 : Int32)), .val (.int x), .val (.int y), .val (.int z), .val (.int (minI x (minI y z))), .val (.int (maxI x (maxI y z))), .val (.int (maxI (minI x y) (minI (maxI x y) z))), .val (.ref b9)] [(.int (0 : Int32))])) _
    refine XS.iconst X9.here hx rfl (hb hby d3_57) ?_
    show Steps p.tables e below (T9.setTop (mkF m 58 #[.val (.int (0 : Int32)), .val (.int x), .val (.int y), .val (.int z), .val (.int (minI x (minI y z))), .val (.int (maxI x (maxI y z))), .val (.int (maxI (minI x y) (minI (maxI x y) z))), .val (.ref b9)] [(.int (1 : Int32)), (.int (0 : Int32))])) _
    refine XS.icmpYes X9.here hx rfl (pc0 := 58) (pc' := 67) rfl (hb hby d3_58) rfl (flt (by decide : ¬ ((1 : Int32) < (0 : Int32)))).2.2.2 (by decide) (by decide) ?_
    show Steps p.tables e below (T9.setTop (mkF m 67 #[.val (.int (0 : Int32)), .val (.int x), .val (.int y), .val (.int z), .val (.int (minI x (minI y z))), .val (.int (maxI x (maxI y z))), .val (.int (maxI (minI x y) (minI (maxI x y) z))), .val (.ref b9)] [])) _
    refine XS.iloadN X9.here hx rfl (hb hby d3_67) rfl ?_
    show Steps p.tables e below (T9.setTop (mkF m 68 #[.val (.int (0 : Int32)), .val (.int x), .val (.int y), .val (.int z), .val (.int (minI x (minI y z))), .val (.int (maxI x (maxI y z))), .val (.int (maxI (minI x y) (minI (maxI x y) z))), .val (.ref b9)] [(.int (0 : Int32))])) _
    refine XS.iconst X9.here hx rfl (hb hby d3_68) ?_
    show Steps p.tables e below (T9.setTop (mkF m 69 #[.val (.int (0 : Int32)), .val (.int x), .val (.int y), .val (.int z), .val (.int (minI x (minI y z))), .val (.int (maxI x (maxI y z))), .val (.int (maxI (minI x y) (minI (maxI x y) z))), .val (.ref b9)] [(.int (2 : Int32)), (.int (0 : Int32))])) _
    refine XS.icmpYes X9.here hx rfl (pc0 := 69) (pc' := 78) rfl (hb hby d3_69) rfl (flt (by decide : ¬ ((2 : Int32) < (0 : Int32)))).2.2.2 (by decide) (by decide) ?_
    show Steps p.tables e below (T9.setTop (mkF m 78 #[.val (.int (0 : Int32)), .val (.int x), .val (.int y), .val (.int z), .val (.int (minI x (minI y z))), .val (.int (maxI x (maxI y z))), .val (.int (maxI (minI x y) (minI (maxI x y) z))), .val (.ref b9)] [])) _
    refine XS.aload X9.here hx rfl (hb hby d3_78) rfl rfl ?_
    show Steps p.tables e below (T9.setTop (mkF m 80 #[.val (.int (0 : Int32)), .val (.int x), .val (.int y), .val (.int z), .val (.int (minI x (minI y z))), .val (.int (maxI x (maxI y z))), .val (.int (maxI (minI x y) (minI (maxI x y) z))), .val (.ref b9)] [(.ref b9)])) _
    jvm_step X9.here [X9.here.top, hx, (hb hby d3_80), X9.method', Bd.returns, Value.isRef, FieldType.isReference]
    first | (intro acts; rw [hr _ acts rfl rfl rfl]) | rw [hr _ _ rfl rfl rfl]
    exact Steps.refl _
  · show Q_take0 Z x y z f h0 n0 _ T9.heap _
    rw [e9]
    exact ⟨b9, rfl, N8, K9, sz_b9, (ArF.of V9 (fun i hi => absurd hi (Nat.not_lt_zero _)))⟩
def Q_take1 (Z : State) (x : Int32) (y : Int32) (z : Int32) (f : Nat → Int32) (h0 : Heap) (n0 : Nat) (v : Option Value) (h : Heap) (L : List Loc) : Prop := ∃ r : Addr, v = some (.ref r) ∧ Fr n0 L ∧ Keep h0 h [] ∧ h0.size ≤ r ∧ ArF Z h r (1 : Int32) f
theorem d3_50 : decode method_4_code 50 = .ok (.aload 7, 2) := by decide +kernel
theorem d3_52 : decode method_4_code 52 = .ok (.iconst 0, 1) := by decide +kernel
theorem d3_53 : decode method_4_code 53 = .ok (.iload 4, 2) := by decide +kernel
theorem d3_55 : decode method_4_code 55 = .ok (.iastore, 1) := by decide +kernel
set_option maxRecDepth 65536 in
set_option maxHeartbeats 40000000 in
theorem take1 (l : Launch) (Z : State) (a0 : Array Value) (hw : ∀ d ∈ tables_1, d.before a0 Z = true) (ws : List Jvm.Cond) (x : Int32) (y : Int32) (z : Int32) (f : Nat → Int32) (h0 : Heap) (n0 : Nat) (Z0 : n0 ≤ h0.size) (hf : pick3 (s0V x y z) (s1V x y z) (s2V x y z) = f) :
    MetFree l (⟨"com/example/recital/recital/document/WordsLikenessPinLaw", "sortedTake", "(IIII)[I"⟩ : MethodName) (head1 (Jvm.Cond.code (⟨"com/example/recital/recital/document/WordsLikenessPinLaw", "sortedTake", "(IIII)[I"⟩ : MethodName) method_4_code 8 (some (.array .int)) :: ws) ({ frames := 1, cells := 1, slots := 3, locals := 15 } : Room)) (fun zA zU => zA = #[(.int (1 : Int32)), (.int x), (.int y), (.int z)] ∧ Z.Warmed39 zU.vm ∧ zU.heap = h0) (fun _ _ _ _ _ => True) (fun _ zU zo zU' => ∃ zv zL, zo = .returned zv ∧ Q_take1 Z x y z f h0 n0 zv zU'.heap zL ∧ FrameEnd zU zo zU' zL ({ frames := 1, cells := 1, slots := 3, locals := 15 } : Room).cells ({ frames := 1, cells := 1, slots := 3, locals := 15 } : Room).slots) := by
  refine MetFree.of_bodySF (plainFor_of_name pn_4) hisR ?_
  intro p e s m args below meth c s₁ Bd hml0 hP hK
  obtain ⟨rfl, hZ, hh⟩ := hP
  have hx := Bd.exec
  have hby := Bd.bytes
  have hml : c.maxLocals = 8 := hml0
  have hown : s.vm.findClass "com/example/recital/recital/document/WordsLikenessPinLaw" = some m.cls := findClass_of_methodNamed Bd.named
  have hnm := (name_of_methodNamed Bd.named Bd.method).1
  have X0 : Stand p l e ({ frames := 1, cells := 1, slots := 3, locals := 15 } : Room) s m #[(.int (1 : Int32)), (.int x), (.int y), (.int z)] below meth c s₁ [] 0 0 := Stand.of_body Bd
  have e0 : s₁.heap = h0 := by rw [← hh, Bd.state]; rfl
  have N0 := Fr.nil n0
  have pre0 : ∀ zt, Steps p.tables e below (s₁.setTop (mkF m 0 #[.val (.int (1 : Int32)), .val (.int x), .val (.int y), .val (.int z), .unset, .unset, .unset, .unset] [])) zt → Steps p.tables e below (s₁.setTop (entryFrame m #[(.int (1 : Int32)), (.int x), (.int y), (.int z)] 8)) zt := fun zt zk => castTop (ef_3_IIII m (1 : Int32) x y z) zk
  obtain ⟨_, _, ⟨T1, L1, k1, n1⟩, -, X1, ⟨Lc1, hQ1, l1, y1, z1⟩, st1⟩ := Jvm.LawKit.callS X0 hx (y := (⟨"java/lang/Math", "min", "(II)I"⟩ : MethodName)) hown (mvT hZ (hw _ (List.mem_of_getElem? (i := 6) rfl))) (mvT hZ (hw _ (List.mem_of_getElem? (i := 7) rfl))) (mvT hZ (hw _ (List.mem_of_getElem? (i := 8) rfl))) (mvT hZ (hw _ (List.mem_of_getElem? (i := 9) rfl))) (by decide) (backOf (W := 1) (minR l Z a0 hw [] y z h0 n0 (Nat.le_trans Z0 (Keep.refl h0 []).1) ) hZ (hw _ (List.mem_of_getElem? (i := 9) rfl)) (hw _ (List.mem_of_getElem? (i := 8) rfl)) (by decide) (by decide)) (g := (mkF m 3 #[.val (.int (1 : Int32)), .val (.int x), .val (.int y), .val (.int z), .unset, .unset, .unset, .unset] [(.int z), (.int y), (.int x)])) rfl (by rw [hml]; rfl) (argsL := [(.int y), (.int z)]) (rest := [(.int x)]) (lenOf pd_0 rfl) rfl (by show 2 * 0 + _ ≤ _; exact Nat.le_of_eq rfl) (hb hby d3_3) (fun _ _ => ⟨rfl, e0, (by decide : 0 + 0 ≤ _), (by decide : 0 + 0 ≤ _)⟩)
  dsimp only [Pt.U, Pt.locs, Pt.cells, Pt.slots] at X1 l1 y1 z1 st1 hQ1
  subst l1 y1 z1
  obtain ⟨rfl, Nq1, kh1⟩ := hQ1
  have N1 := Fr.app N0 Nq1
  obtain ⟨_, _, ⟨T2, L2, k2, n2⟩, -, X2, ⟨Lc2, hQ2, l2, y2, z2⟩, st2⟩ := Jvm.LawKit.callS X1 hx (y := (⟨"java/lang/Math", "min", "(II)I"⟩ : MethodName)) hown (mvT hZ (hw _ (List.mem_of_getElem? (i := 6) rfl))) (mvT hZ (hw _ (List.mem_of_getElem? (i := 7) rfl))) (mvT hZ (hw _ (List.mem_of_getElem? (i := 8) rfl))) (mvT hZ (hw _ (List.mem_of_getElem? (i := 9) rfl))) (by decide) (backOf (W := 0) (minR l Z a0 hw [] x (minI y z) h0 n0 (Nat.le_trans Z0 (Keep.refl h0 []).1) ) hZ (hw _ (List.mem_of_getElem? (i := 9) rfl)) (hw _ (List.mem_of_getElem? (i := 8) rfl)) (by decide) (by decide)) (g := (mkF m 6 #[.val (.int (1 : Int32)), .val (.int x), .val (.int y), .val (.int z), .unset, .unset, .unset, .unset] [(.int (minI y z)), (.int x)])) rfl (by rw [hml]; rfl) (argsL := [(.int x), (.int (minI y z))]) (rest := []) (lenOf pd_0 rfl) rfl (by show 2 * 0 + _ ≤ _; exact Nat.le_of_eq rfl) (hb hby d3_6) (fun _ _ => ⟨rfl, kh1, (by decide : 0 + 0 ≤ _), (by decide : 0 + 0 ≤ _)⟩)
  dsimp only [Pt.U, Pt.locs, Pt.cells, Pt.slots] at X2 l2 y2 z2 st2 hQ2
  subst l2 y2 z2
  obtain ⟨rfl, Nq2, kh2⟩ := hQ2
  have N2 := Fr.app N1 Nq2
  obtain ⟨_, _, ⟨T3, L3, k3, n3⟩, -, X3, ⟨Lc3, hQ3, l3, y3, z3⟩, st3⟩ := Jvm.LawKit.callS X2 hx (y := (⟨"java/lang/Math", "max", "(II)I"⟩ : MethodName)) hown (mvT hZ (hw _ (List.mem_of_getElem? (i := 10) rfl))) (mvT hZ (hw _ (List.mem_of_getElem? (i := 11) rfl))) (mvT hZ (hw _ (List.mem_of_getElem? (i := 8) rfl))) (mvT hZ (hw _ (List.mem_of_getElem? (i := 12) rfl))) (by decide) (backOf (W := 1) (maxR l Z a0 hw [] y z h0 n0 (Nat.le_trans Z0 (Keep.refl h0 []).1) ) hZ (hw _ (List.mem_of_getElem? (i := 12) rfl)) (hw _ (List.mem_of_getElem? (i := 8) rfl)) (by decide) (by decide)) (g := (mkF m 14 #[.val (.int (1 : Int32)), .val (.int x), .val (.int y), .val (.int z), .val (.int (minI x (minI y z))), .unset, .unset, .unset] [(.int z), (.int y), (.int x)])) rfl (by rw [hml]; rfl) (argsL := [(.int y), (.int z)]) (rest := [(.int x)]) (lenOf pd_0 rfl) rfl (by show 2 * 0 + _ ≤ _; exact Nat.le_of_eq rfl) (hb hby d3_14) (fun _ _ => ⟨rfl, kh2, (by decide : 0 + 0 ≤ _), (by decide : 0 + 0 ≤ _)⟩)
  dsimp only [Pt.U, Pt.locs, Pt.cells, Pt.slots] at X3 l3 y3 z3 st3 hQ3
  subst l3 y3 z3
  obtain ⟨rfl, Nq3, kh3⟩ := hQ3
  have N3 := Fr.app N2 Nq3
  obtain ⟨_, _, ⟨T4, L4, k4, n4⟩, -, X4, ⟨Lc4, hQ4, l4, y4, z4⟩, st4⟩ := Jvm.LawKit.callS X3 hx (y := (⟨"java/lang/Math", "max", "(II)I"⟩ : MethodName)) hown (mvT hZ (hw _ (List.mem_of_getElem? (i := 10) rfl))) (mvT hZ (hw _ (List.mem_of_getElem? (i := 11) rfl))) (mvT hZ (hw _ (List.mem_of_getElem? (i := 8) rfl))) (mvT hZ (hw _ (List.mem_of_getElem? (i := 12) rfl))) (by decide) (backOf (W := 0) (maxR l Z a0 hw [] x (maxI y z) h0 n0 (Nat.le_trans Z0 (Keep.refl h0 []).1) ) hZ (hw _ (List.mem_of_getElem? (i := 12) rfl)) (hw _ (List.mem_of_getElem? (i := 8) rfl)) (by decide) (by decide)) (g := (mkF m 17 #[.val (.int (1 : Int32)), .val (.int x), .val (.int y), .val (.int z), .val (.int (minI x (minI y z))), .unset, .unset, .unset] [(.int (maxI y z)), (.int x)])) rfl (by rw [hml]; rfl) (argsL := [(.int x), (.int (maxI y z))]) (rest := []) (lenOf pd_0 rfl) rfl (by show 2 * 0 + _ ≤ _; exact Nat.le_of_eq rfl) (hb hby d3_17) (fun _ _ => ⟨rfl, kh3, (by decide : 0 + 0 ≤ _), (by decide : 0 + 0 ≤ _)⟩)
  dsimp only [Pt.U, Pt.locs, Pt.cells, Pt.slots] at X4 l4 y4 z4 st4 hQ4
  subst l4 y4 z4
  obtain ⟨rfl, Nq4, kh4⟩ := hQ4
  have N4 := Fr.app N3 Nq4
  obtain ⟨_, _, ⟨T5, L5, k5, n5⟩, -, X5, ⟨Lc5, hQ5, l5, y5, z5⟩, st5⟩ := Jvm.LawKit.callS X4 hx (y := (⟨"java/lang/Math", "min", "(II)I"⟩ : MethodName)) hown (mvT hZ (hw _ (List.mem_of_getElem? (i := 6) rfl))) (mvT hZ (hw _ (List.mem_of_getElem? (i := 7) rfl))) (mvT hZ (hw _ (List.mem_of_getElem? (i := 8) rfl))) (mvT hZ (hw _ (List.mem_of_getElem? (i := 9) rfl))) (by decide) (backOf (W := 0) (minR l Z a0 hw [] x y h0 n0 (Nat.le_trans Z0 (Keep.refl h0 []).1) ) hZ (hw _ (List.mem_of_getElem? (i := 9) rfl)) (hw _ (List.mem_of_getElem? (i := 8) rfl)) (by decide) (by decide)) (g := (mkF m 24 #[.val (.int (1 : Int32)), .val (.int x), .val (.int y), .val (.int z), .val (.int (minI x (minI y z))), .val (.int (maxI x (maxI y z))), .unset, .unset] [(.int y), (.int x)])) rfl (by rw [hml]; rfl) (argsL := [(.int x), (.int y)]) (rest := []) (lenOf pd_0 rfl) rfl (by show 2 * 0 + _ ≤ _; exact Nat.le_of_eq rfl) (hb hby d3_24) (fun _ _ => ⟨rfl, kh4, (by decide : 0 + 0 ≤ _), (by decide : 0 + 0 ≤ _)⟩)
  dsimp only [Pt.U, Pt.locs, Pt.cells, Pt.slots] at X5 l5 y5 z5 st5 hQ5
  subst l5 y5 z5
  obtain ⟨rfl, Nq5, kh5⟩ := hQ5
  have N5 := Fr.app N4 Nq5
  obtain ⟨_, _, ⟨T6, L6, k6, n6⟩, -, X6, ⟨Lc6, hQ6, l6, y6, z6⟩, st6⟩ := Jvm.LawKit.callS X5 hx (y := (⟨"java/lang/Math", "max", "(II)I"⟩ : MethodName)) hown (mvT hZ (hw _ (List.mem_of_getElem? (i := 10) rfl))) (mvT hZ (hw _ (List.mem_of_getElem? (i := 11) rfl))) (mvT hZ (hw _ (List.mem_of_getElem? (i := 8) rfl))) (mvT hZ (hw _ (List.mem_of_getElem? (i := 12) rfl))) (by decide) (backOf (W := 1) (maxR l Z a0 hw [] x y h0 n0 (Nat.le_trans Z0 (Keep.refl h0 []).1) ) hZ (hw _ (List.mem_of_getElem? (i := 12) rfl)) (hw _ (List.mem_of_getElem? (i := 8) rfl)) (by decide) (by decide)) (g := (mkF m 29 #[.val (.int (1 : Int32)), .val (.int x), .val (.int y), .val (.int z), .val (.int (minI x (minI y z))), .val (.int (maxI x (maxI y z))), .unset, .unset] [(.int y), (.int x), (.int (minI x y))])) rfl (by rw [hml]; rfl) (argsL := [(.int x), (.int y)]) (rest := [(.int (minI x y))]) (lenOf pd_0 rfl) rfl (by show 2 * 0 + _ ≤ _; exact Nat.le_of_eq rfl) (hb hby d3_29) (fun _ _ => ⟨rfl, kh5, (by decide : 0 + 0 ≤ _), (by decide : 0 + 0 ≤ _)⟩)
  dsimp only [Pt.U, Pt.locs, Pt.cells, Pt.slots] at X6 l6 y6 z6 st6 hQ6
  subst l6 y6 z6
  obtain ⟨rfl, Nq6, kh6⟩ := hQ6
  have N6 := Fr.app N5 Nq6
  obtain ⟨_, _, ⟨T7, L7, k7, n7⟩, -, X7, ⟨Lc7, hQ7, l7, y7, z7⟩, st7⟩ := Jvm.LawKit.callS X6 hx (y := (⟨"java/lang/Math", "min", "(II)I"⟩ : MethodName)) hown (mvT hZ (hw _ (List.mem_of_getElem? (i := 6) rfl))) (mvT hZ (hw _ (List.mem_of_getElem? (i := 7) rfl))) (mvT hZ (hw _ (List.mem_of_getElem? (i := 8) rfl))) (mvT hZ (hw _ (List.mem_of_getElem? (i := 9) rfl))) (by decide) (backOf (W := 1) (minR l Z a0 hw [] (maxI x y) z h0 n0 (Nat.le_trans Z0 (Keep.refl h0 []).1) ) hZ (hw _ (List.mem_of_getElem? (i := 9) rfl)) (hw _ (List.mem_of_getElem? (i := 8) rfl)) (by decide) (by decide)) (g := (mkF m 33 #[.val (.int (1 : Int32)), .val (.int x), .val (.int y), .val (.int z), .val (.int (minI x (minI y z))), .val (.int (maxI x (maxI y z))), .unset, .unset] [(.int z), (.int (maxI x y)), (.int (minI x y))])) rfl (by rw [hml]; rfl) (argsL := [(.int (maxI x y)), (.int z)]) (rest := [(.int (minI x y))]) (lenOf pd_0 rfl) rfl (by show 2 * 0 + _ ≤ _; exact Nat.le_of_eq rfl) (hb hby d3_33) (fun _ _ => ⟨rfl, kh6, (by decide : 0 + 0 ≤ _), (by decide : 0 + 0 ≤ _)⟩)
  dsimp only [Pt.U, Pt.locs, Pt.cells, Pt.slots] at X7 l7 y7 z7 st7 hQ7
  subst l7 y7 z7
  obtain ⟨rfl, Nq7, kh7⟩ := hQ7
  have N7 := Fr.app N6 Nq7
  obtain ⟨_, _, ⟨T8, L8, k8, n8⟩, -, X8, ⟨Lc8, hQ8, l8, y8, z8⟩, st8⟩ := Jvm.LawKit.callS X7 hx (y := (⟨"java/lang/Math", "max", "(II)I"⟩ : MethodName)) hown (mvT hZ (hw _ (List.mem_of_getElem? (i := 10) rfl))) (mvT hZ (hw _ (List.mem_of_getElem? (i := 11) rfl))) (mvT hZ (hw _ (List.mem_of_getElem? (i := 8) rfl))) (mvT hZ (hw _ (List.mem_of_getElem? (i := 12) rfl))) (by decide) (backOf (W := 0) (maxR l Z a0 hw [] (minI x y) (minI (maxI x y) z) h0 n0 (Nat.le_trans Z0 (Keep.refl h0 []).1) ) hZ (hw _ (List.mem_of_getElem? (i := 12) rfl)) (hw _ (List.mem_of_getElem? (i := 8) rfl)) (by decide) (by decide)) (g := (mkF m 36 #[.val (.int (1 : Int32)), .val (.int x), .val (.int y), .val (.int z), .val (.int (minI x (minI y z))), .val (.int (maxI x (maxI y z))), .unset, .unset] [(.int (minI (maxI x y) z)), (.int (minI x y))])) rfl (by rw [hml]; rfl) (argsL := [(.int (minI x y)), (.int (minI (maxI x y) z))]) (rest := []) (lenOf pd_0 rfl) rfl (by show 2 * 0 + _ ≤ _; exact Nat.le_of_eq rfl) (hb hby d3_36) (fun _ _ => ⟨rfl, kh7, (by decide : 0 + 0 ≤ _), (by decide : 0 + 0 ≤ _)⟩)
  dsimp only [Pt.U, Pt.locs, Pt.cells, Pt.slots] at X8 l8 y8 z8 st8 hQ8
  subst l8 y8 z8
  obtain ⟨rfl, Nq8, kh8⟩ := hQ8
  have N8 := Fr.app N7 Nq8
  obtain ⟨T9, h9, k9, X9, e9, E9, A9, st9⟩ := newP X8 hx hZ (hw _ (List.mem_of_getElem? (i := 13) rfl)) kh8 (g := (mkF m 42 #[.val (.int (1 : Int32)), .val (.int x), .val (.int y), .val (.int z), .val (.int (minI x (minI y z))), .val (.int (maxI x (maxI y z))), .val (.int (maxI (minI x y) (minI (maxI x y) z))), .unset] [(.int (1 : Int32))])) rfl (hb hby d3_42) rfl (by decide) (cap := 1) (by decide) (by decide) (by decide) (by decide)
  obtain ⟨b9, gz9⟩ : ∃ z, z = h0.size := ⟨_, rfl⟩
  rw [← gz9] at A9 st9
  have sz_b9 : h0.size ≤ b9 := Nat.le_trans (Keep.refl h0 []).1 (Nat.le_of_eq gz9.symm)
  have g_b9 : n0 ≤ b9 := Nat.le_trans Z0 sz_b9
  have K9 : Keep h0 h9 [] := (Keep.refl h0 []).ext E9
  have V9 : Arv Z h9 b9 k9 .int (1 : Int32) [(.int (0 : Int32))] (.int (0 : Int32)) := (Arv.new A9 (by decide)).pad (pad_rep [] (.int (0 : Int32)) 1)
  obtain ⟨cl10, Ar10, q10, Sz10, Ng10, Hs10, Gs10⟩ := (id V9)
  have hin10 : ¬ ((0 : Int32) < 0 ∨ cl10.slots.size ≤ ((0 : Int32)).toNatClampNeg) := inb_of Sz10 ⟨by decide, by decide⟩
  obtain ⟨T10, h10, X10, e10, W10, st10⟩ := stI X9 hx hZ e9 Ar10 (j := (0 : Int32)) hin10 (g := (mkF m 55 #[.val (.int (1 : Int32)), .val (.int x), .val (.int y), .val (.int z), .val (.int (minI x (minI y z))), .val (.int (maxI x (maxI y z))), .val (.int (maxI (minI x y) (minI (maxI x y) z))), .val (.ref b9)] [(.int (minI x (minI y z))), (.int (0 : Int32)), (.ref b9)])) rfl rfl (hb hby d3_55)
  have V10 := Arv.set Ar10 q10 Sz10 Ng10 Hs10 Gs10 rfl W10 0 rfl (Nat.le_of_ble_eq_true rfl)
  have K10 : Keep h0 h10 [] := K9.wr W10 (Or.inr sz_b9)
  have N10 := Fr.snoc X10 N8 g_b9
  have V10 : Arv Z h10 b9 k9 .int (1 : Int32) [(.int (minI x (minI y z)))] (.int (0 : Int32)) := V10
  obtain ⟨fs, hr, hrun, hended, hW, hsame⟩ := X10.leave (v := some (.ref b9)) (fun h => by rw [Bd.returns] at h; cases h)
  refine ⟨_, _, pre0 _ ?_, hrun, hended, _, _, rfl, ?_, ⟨_, rfl⟩, hW, hsame.mono (by decide) (by decide)⟩
  · show Steps p.tables e below (s₁.setTop (mkF m 0 #[.val (.int (1 : Int32)), .val (.int x), .val (.int y), .val (.int z), .unset, .unset, .unset, .unset] [])) _
    refine XS.iloadN X0.here hx rfl (hb hby d3_0) rfl ?_
    show Steps p.tables e below (s₁.setTop (mkF m 1 #[.val (.int (1 : Int32)), .val (.int x), .val (.int y), .val (.int z), .unset, .unset, .unset, .unset] [(.int x)])) _
    refine XS.iloadN X0.here hx rfl (hb hby d3_1) rfl ?_
    show Steps p.tables e below (s₁.setTop (mkF m 2 #[.val (.int (1 : Int32)), .val (.int x), .val (.int y), .val (.int z), .unset, .unset, .unset, .unset] [(.int y), (.int x)])) _
    refine XS.iloadN X0.here hx rfl (hb hby d3_2) rfl ?_
    show Steps p.tables e below (s₁.setTop (mkF m 3 #[.val (.int (1 : Int32)), .val (.int x), .val (.int y), .val (.int z), .unset, .unset, .unset, .unset] [(.int z), (.int y), (.int x)])) _
    refine st1 _ ?_
    show Steps p.tables e below (T1.setTop (mkF m 6 #[.val (.int (1 : Int32)), .val (.int x), .val (.int y), .val (.int z), .unset, .unset, .unset, .unset] [(.int (minI y z)), (.int x)])) _
    refine st2 _ ?_
    show Steps p.tables e below (T2.setTop (mkF m 9 #[.val (.int (1 : Int32)), .val (.int x), .val (.int y), .val (.int z), .unset, .unset, .unset, .unset] [(.int (minI x (minI y z)))])) _
    refine XS.istore X2.here hx rfl (hb hby d3_9) rfl (l' := #[.val (.int (1 : Int32)), .val (.int x), .val (.int y), .val (.int z), .val (.int (minI x (minI y z))), .unset, .unset, .unset]) rfl ?_
    show Steps p.tables e below (T2.setTop (mkF m 11 #[.val (.int (1 : Int32)), .val (.int x), .val (.int y), .val (.int z), .val (.int (minI x (minI y z))), .unset, .unset, .unset] [])) _
    refine XS.iloadN X2.here hx rfl (hb hby d3_11) rfl ?_
    show Steps p.tables e below (T2.setTop (mkF m 12 #[.val (.int (1 : Int32)), .val (.int x), .val (.int y), .val (.int z), .val (.int (minI x (minI y z))), .unset, .unset, .unset] [(.int x)])) _
    refine XS.iloadN X2.here hx rfl (hb hby d3_12) rfl ?_
    show Steps p.tables e below (T2.setTop (mkF m 13 #[.val (.int (1 : Int32)), .val (.int x), .val (.int y), .val (.int z), .val (.int (minI x (minI y z))), .unset, .unset, .unset] [(.int y), (.int x)])) _
    refine XS.iloadN X2.here hx rfl (hb hby d3_13) rfl ?_
    show Steps p.tables e below (T2.setTop (mkF m 14 #[.val (.int (1 : Int32)), .val (.int x), .val (.int y), .val (.int z), .val (.int (minI x (minI y z))), .unset, .unset, .unset] [(.int z), (.int y), (.int x)])) _
    refine st3 _ ?_
    show Steps p.tables e below (T3.setTop (mkF m 17 #[.val (.int (1 : Int32)), .val (.int x), .val (.int y), .val (.int z), .val (.int (minI x (minI y z))), .unset, .unset, .unset] [(.int (maxI y z)), (.int x)])) _
    refine st4 _ ?_
    show Steps p.tables e below (T4.setTop (mkF m 20 #[.val (.int (1 : Int32)), .val (.int x), .val (.int y), .val (.int z), .val (.int (minI x (minI y z))), .unset, .unset, .unset] [(.int (maxI x (maxI y z)))])) _
    refine XS.istore X4.here hx rfl (hb hby d3_20) rfl (l' := #[.val (.int (1 : Int32)), .val (.int x), .val (.int y), .val (.int z), .val (.int (minI x (minI y z))), .val (.int (maxI x (maxI y z))), .unset, .unset]) rfl ?_
    show Steps p.tables e below (T4.setTop (mkF m 22 #[.val (.int (1 : Int32)), .val (.int x), .val (.int y), .val (.int z), .val (.int (minI x (minI y z))), .val (.int (maxI x (maxI y z))), .unset, .unset] [])) _
    refine XS.iloadN X4.here hx rfl (hb hby d3_22) rfl ?_
    show Steps p.tables e below (T4.setTop (mkF m 23 #[.val (.int (1 : Int32)), .val (.int x), .val (.int y), .val (.int z), .val (.int (minI x (minI y z))), .val (.int (maxI x (maxI y z))), .unset, .unset] [(.int x)])) _
    refine XS.iloadN X4.here hx rfl (hb hby d3_23) rfl ?_
    show Steps p.tables e below (T4.setTop (mkF m 24 #[.val (.int (1 : Int32)), .val (.int x), .val (.int y), .val (.int z), .val (.int (minI x (minI y z))), .val (.int (maxI x (maxI y z))), .unset, .unset] [(.int y), (.int x)])) _
    refine st5 _ ?_
    show Steps p.tables e below (T5.setTop (mkF m 27 #[.val (.int (1 : Int32)), .val (.int x), .val (.int y), .val (.int z), .val (.int (minI x (minI y z))), .val (.int (maxI x (maxI y z))), .unset, .unset] [(.int (minI x y))])) _
    refine XS.iloadN X5.here hx rfl (hb hby d3_27) rfl ?_
    show Steps p.tables e below (T5.setTop (mkF m 28 #[.val (.int (1 : Int32)), .val (.int x), .val (.int y), .val (.int z), .val (.int (minI x (minI y z))), .val (.int (maxI x (maxI y z))), .unset, .unset] [(.int x), (.int (minI x y))])) _
    refine XS.iloadN X5.here hx rfl (hb hby d3_28) rfl ?_
    show Steps p.tables e below (T5.setTop (mkF m 29 #[.val (.int (1 : Int32)), .val (.int x), .val (.int y), .val (.int z), .val (.int (minI x (minI y z))), .val (.int (maxI x (maxI y z))), .unset, .unset] [(.int y), (.int x), (.int (minI x y))])) _
    refine st6 _ ?_
    show Steps p.tables e below (T6.setTop (mkF m 32 #[.val (.int (1 : Int32)), .val (.int x), .val (.int y), .val (.int z), .val (.int (minI x (minI y z))), .val (.int (maxI x (maxI y z))), .unset, .unset] [(.int (maxI x y)), (.int (minI x y))])) _
    refine XS.iloadN X6.here hx rfl (hb hby d3_32) rfl ?_
    show Steps p.tables e below (T6.setTop (mkF m 33 #[.val (.int (1 : Int32)), .val (.int x), .val (.int y), .val (.int z), .val (.int (minI x (minI y z))), .val (.int (maxI x (maxI y z))), .unset, .unset] [(.int z), (.int (maxI x y)), (.int (minI x y))])) _
    refine st7 _ ?_
    show Steps p.tables e below (T7.setTop (mkF m 36 #[.val (.int (1 : Int32)), .val (.int x), .val (.int y), .val (.int z), .val (.int (minI x (minI y z))), .val (.int (maxI x (maxI y z))), .unset, .unset] [(.int (minI (maxI x y) z)), (.int (minI x y))])) _
    refine st8 _ ?_
    show Steps p.tables e below (T8.setTop (mkF m 39 #[.val (.int (1 : Int32)), .val (.int x), .val (.int y), .val (.int z), .val (.int (minI x (minI y z))), .val (.int (maxI x (maxI y z))), .unset, .unset] [(.int (maxI (minI x y) (minI (maxI x y) z)))])) _
    refine XS.istore X8.here hx rfl (hb hby d3_39) rfl (l' := #[.val (.int (1 : Int32)), .val (.int x), .val (.int y), .val (.int z), .val (.int (minI x (minI y z))), .val (.int (maxI x (maxI y z))), .val (.int (maxI (minI x y) (minI (maxI x y) z))), .unset]) rfl ?_
    show Steps p.tables e below (T8.setTop (mkF m 41 #[.val (.int (1 : Int32)), .val (.int x), .val (.int y), .val (.int z), .val (.int (minI x (minI y z))), .val (.int (maxI x (maxI y z))), .val (.int (maxI (minI x y) (minI (maxI x y) z))), .unset] [])) _
    refine XS.iloadN X8.here hx rfl (hb hby d3_41) rfl ?_
    show Steps p.tables e below (T8.setTop (mkF m 42 #[.val (.int (1 : Int32)), .val (.int x), .val (.int y), .val (.int z), .val (.int (minI x (minI y z))), .val (.int (maxI x (maxI y z))), .val (.int (maxI (minI x y) (minI (maxI x y) z))), .unset] [(.int (1 : Int32))])) _
    refine st9 _ ?_
    show Steps p.tables e below (T9.setTop (mkF m 44 #[.val (.int (1 : Int32)), .val (.int x), .val (.int y), .val (.int z), .val (.int (minI x (minI y z))), .val (.int (maxI x (maxI y z))), .val (.int (maxI (minI x y) (minI (maxI x y) z))), .unset] [(.ref b9)])) _
    refine XS.astore X9.here hx rfl (hb hby d3_44) rfl rfl (l' := #[.val (.int (1 : Int32)), .val (.int x), .val (.int y), .val (.int z), .val (.int (minI x (minI y z))), .val (.int (maxI x (maxI y z))), .val (.int (maxI (minI x y) (minI (maxI x y) z))), .val (.ref b9)]) rfl ?_
    show Steps p.tables e below (T9.setTop (mkF m 46 #[.val (.int (1 : Int32)), .val (.int x), .val (.int y), .val (.int z), .val (.int (minI x (minI y z))), .val (.int (maxI x (maxI y z))), .val (.int (maxI (minI x y) (minI (maxI x y) z))), .val (.ref b9)] [])) _
    refine XS.iloadN X9.here hx rfl (hb hby d3_46) rfl ?_
    show Steps p.tables e below (T9.setTop (mkF m 47 #[.val (.int (1 : Int32)), .val (.int x), .val (.int y), .val (.int z), .val (.int (minI x (minI y z))), .val (.int (maxI x (maxI y z))), .val (.int (maxI (minI x y) (minI (maxI x y) z))), .val (.ref b9)] [(.int (1 : Int32))])) _
    refine XS.ifNo X9.here hx rfl (hb hby d3_47) rfl ((if0 _ _).trans (tlt (by decide : (0 : Int32) < (1 : Int32))).2.2.2) ?_
    show Steps p.tables e below (T9.setTop (mkF m 50 #[.val (.int (1 : Int32)), .val (.int x), .val (.int y), .val (.int z), .val (.int (minI x (minI y z))), .val (.int (maxI x (maxI y z))), .val (.int (maxI (minI x y) (minI (maxI x y) z))), .val (.ref b9)] [])) _
    refine XS.aload X9.here hx rfl (hb hby d3_50) rfl rfl ?_
    show Steps p.tables e below (T9.setTop (mkF m 52 #[.val (.int (1 : Int32)), .val (.int x), .val (.int y), .val (.int z), .val (.int (minI x (minI y z))), .val (.int (maxI x (maxI y z))), .val (.int (maxI (minI x y) (minI (maxI x y) z))), .val (.ref b9)] [(.ref b9)])) _
    refine XS.iconst X9.here hx rfl (hb hby d3_52) ?_
    show Steps p.tables e below (T9.setTop (mkF m 53 #[.val (.int (1 : Int32)), .val (.int x), .val (.int y), .val (.int z), .val (.int (minI x (minI y z))), .val (.int (maxI x (maxI y z))), .val (.int (maxI (minI x y) (minI (maxI x y) z))), .val (.ref b9)] [(.int (0 : Int32)), (.ref b9)])) _
    refine XS.iload X9.here hx rfl (hb hby d3_53) rfl ?_
    show Steps p.tables e below (T9.setTop (mkF m 55 #[.val (.int (1 : Int32)), .val (.int x), .val (.int y), .val (.int z), .val (.int (minI x (minI y z))), .val (.int (maxI x (maxI y z))), .val (.int (maxI (minI x y) (minI (maxI x y) z))), .val (.ref b9)] [(.int (minI x (minI y z))), (.int (0 : Int32)), (.ref b9)])) _
    refine st10 _ ?_
    show Steps p.tables e below (T10.setTop (mkF m 56 #[.val (.int (1 : Int32)), .val (.int x), .val (.int y), .val (.int z), .val (.int (minI x (minI y z))), .val (.int (maxI x (maxI y z))), .val (.int (maxI (minI x y) (minI (maxI x y) z))), .val (.ref b9)] [])) _
    refine XS.iloadN X10.here hx rfl (hb hby d3_56) rfl ?_
    show Steps p.tables e below (T10.setTop (mkF m 57 #[.val (.int (1 : Int32)), .val (.int x), .val (.int y), .val (.int z), .val (.int (minI x (minI y z))), .val (.int (maxI x (maxI y z))), .val (.int (maxI (minI x y) (minI (maxI x y) z))), .val (.ref b9)] [(.int (1 : Int32))])) _
    refine XS.iconst X10.here hx rfl (hb hby d3_57) ?_
    show Steps p.tables e below (T10.setTop (mkF m 58 #[.val (.int (1 : Int32)), .val (.int x), .val (.int y), .val (.int z), .val (.int (minI x (minI y z))), .val (.int (maxI x (maxI y z))), .val (.int (maxI (minI x y) (minI (maxI x y) z))), .val (.ref b9)] [(.int (1 : Int32)), (.int (1 : Int32))])) _
    refine XS.icmpYes X10.here hx rfl (pc0 := 58) (pc' := 67) rfl (hb hby d3_58) rfl (flt (by decide : ¬ ((1 : Int32) < (1 : Int32)))).2.2.2 (by decide) (by decide) ?_
    show Steps p.tables e below (T10.setTop (mkF m 67 #[.val (.int (1 : Int32)), .val (.int x), .val (.int y), .val (.int z), .val (.int (minI x (minI y z))), .val (.int (maxI x (maxI y z))), .val (.int (maxI (minI x y) (minI (maxI x y) z))), .val (.ref b9)] [])) _
    refine XS.iloadN X10.here hx rfl (hb hby d3_67) rfl ?_
    show Steps p.tables e below (T10.setTop (mkF m 68 #[.val (.int (1 : Int32)), .val (.int x), .val (.int y), .val (.int z), .val (.int (minI x (minI y z))), .val (.int (maxI x (maxI y z))), .val (.int (maxI (minI x y) (minI (maxI x y) z))), .val (.ref b9)] [(.int (1 : Int32))])) _
    refine XS.iconst X10.here hx rfl (hb hby d3_68) ?_
    show Steps p.tables e below (T10.setTop (mkF m 69 #[.val (.int (1 : Int32)), .val (.int x), .val (.int y), .val (.int z), .val (.int (minI x (minI y z))), .val (.int (maxI x (maxI y z))), .val (.int (maxI (minI x y) (minI (maxI x y) z))), .val (.ref b9)] [(.int (2 : Int32)), (.int (1 : Int32))])) _
    refine XS.icmpYes X10.here hx rfl (pc0 := 69) (pc' := 78) rfl (hb hby d3_69) rfl (flt (by decide : ¬ ((2 : Int32) < (1 : Int32)))).2.2.2 (by decide) (by decide) ?_
    show Steps p.tables e below (T10.setTop (mkF m 78 #[.val (.int (1 : Int32)), .val (.int x), .val (.int y), .val (.int z), .val (.int (minI x (minI y z))), .val (.int (maxI x (maxI y z))), .val (.int (maxI (minI x y) (minI (maxI x y) z))), .val (.ref b9)] [])) _
    refine XS.aload X10.here hx rfl (hb hby d3_78) rfl rfl ?_
    show Steps p.tables e below (T10.setTop (mkF m 80 #[.val (.int (1 : Int32)), .val (.int x), .val (.int y), .val (.int z), .val (.int (minI x (minI y z))), .val (.int (maxI x (maxI y z))), .val (.int (maxI (minI x y) (minI (maxI x y) z))), .val (.ref b9)] [(.ref b9)])) _
    jvm_step X10.here [X10.here.top, hx, (hb hby d3_80), X10.method', Bd.returns, Value.isRef, FieldType.isReference]
    first | (intro acts; rw [hr _ acts rfl rfl rfl]) | rw [hr _ _ rfl rfl rfl]
    exact Steps.refl _
  · show Q_take1 Z x y z f h0 n0 _ T10.heap _
    rw [e10]
    exact ⟨b9, rfl, N10, K10, sz_b9, (ArF.of V10 (fun i hi => by rw [← hf]; match i, hi with | 0, _ => rfl))⟩
def Q_take2 (Z : State) (x : Int32) (y : Int32) (z : Int32) (f : Nat → Int32) (h0 : Heap) (n0 : Nat) (v : Option Value) (h : Heap) (L : List Loc) : Prop := ∃ r : Addr, v = some (.ref r) ∧ Fr n0 L ∧ Keep h0 h [] ∧ h0.size ≤ r ∧ ArF Z h r (2 : Int32) f
theorem d3_61 : decode method_4_code 61 = .ok (.aload 7, 2) := by decide +kernel
theorem d3_63 : decode method_4_code 63 = .ok (.iconst 1, 1) := by decide +kernel
theorem d3_64 : decode method_4_code 64 = .ok (.iload 6, 2) := by decide +kernel
theorem d3_66 : decode method_4_code 66 = .ok (.iastore, 1) := by decide +kernel
set_option maxRecDepth 65536 in
set_option maxHeartbeats 40000000 in
theorem take2 (l : Launch) (Z : State) (a0 : Array Value) (hw : ∀ d ∈ tables_1, d.before a0 Z = true) (ws : List Jvm.Cond) (x : Int32) (y : Int32) (z : Int32) (f : Nat → Int32) (h0 : Heap) (n0 : Nat) (Z0 : n0 ≤ h0.size) (hf : pick3 (s0V x y z) (s1V x y z) (s2V x y z) = f) :
    MetFree l (⟨"com/example/recital/recital/document/WordsLikenessPinLaw", "sortedTake", "(IIII)[I"⟩ : MethodName) (head1 (Jvm.Cond.code (⟨"com/example/recital/recital/document/WordsLikenessPinLaw", "sortedTake", "(IIII)[I"⟩ : MethodName) method_4_code 8 (some (.array .int)) :: ws) ({ frames := 1, cells := 1, slots := 3, locals := 15 } : Room)) (fun zA zU => zA = #[(.int (2 : Int32)), (.int x), (.int y), (.int z)] ∧ Z.Warmed39 zU.vm ∧ zU.heap = h0) (fun _ _ _ _ _ => True) (fun _ zU zo zU' => ∃ zv zL, zo = .returned zv ∧ Q_take2 Z x y z f h0 n0 zv zU'.heap zL ∧ FrameEnd zU zo zU' zL ({ frames := 1, cells := 1, slots := 3, locals := 15 } : Room).cells ({ frames := 1, cells := 1, slots := 3, locals := 15 } : Room).slots) := by
  refine MetFree.of_bodySF (plainFor_of_name pn_4) hisR ?_
  intro p e s m args below meth c s₁ Bd hml0 hP hK
  obtain ⟨rfl, hZ, hh⟩ := hP
  have hx := Bd.exec
  have hby := Bd.bytes
  have hml : c.maxLocals = 8 := hml0
  have hown : s.vm.findClass "com/example/recital/recital/document/WordsLikenessPinLaw" = some m.cls := findClass_of_methodNamed Bd.named
  have hnm := (name_of_methodNamed Bd.named Bd.method).1
  have X0 : Stand p l e ({ frames := 1, cells := 1, slots := 3, locals := 15 } : Room) s m #[(.int (2 : Int32)), (.int x), (.int y), (.int z)] below meth c s₁ [] 0 0 := Stand.of_body Bd
  have e0 : s₁.heap = h0 := by rw [← hh, Bd.state]; rfl
  have N0 := Fr.nil n0
  have pre0 : ∀ zt, Steps p.tables e below (s₁.setTop (mkF m 0 #[.val (.int (2 : Int32)), .val (.int x), .val (.int y), .val (.int z), .unset, .unset, .unset, .unset] [])) zt → Steps p.tables e below (s₁.setTop (entryFrame m #[(.int (2 : Int32)), (.int x), (.int y), (.int z)] 8)) zt := fun zt zk => castTop (ef_3_IIII m (2 : Int32) x y z) zk
  obtain ⟨_, _, ⟨T1, L1, k1, n1⟩, -, X1, ⟨Lc1, hQ1, l1, y1, z1⟩, st1⟩ := Jvm.LawKit.callS X0 hx (y := (⟨"java/lang/Math", "min", "(II)I"⟩ : MethodName)) hown (mvT hZ (hw _ (List.mem_of_getElem? (i := 6) rfl))) (mvT hZ (hw _ (List.mem_of_getElem? (i := 7) rfl))) (mvT hZ (hw _ (List.mem_of_getElem? (i := 8) rfl))) (mvT hZ (hw _ (List.mem_of_getElem? (i := 9) rfl))) (by decide) (backOf (W := 1) (minR l Z a0 hw [] y z h0 n0 (Nat.le_trans Z0 (Keep.refl h0 []).1) ) hZ (hw _ (List.mem_of_getElem? (i := 9) rfl)) (hw _ (List.mem_of_getElem? (i := 8) rfl)) (by decide) (by decide)) (g := (mkF m 3 #[.val (.int (2 : Int32)), .val (.int x), .val (.int y), .val (.int z), .unset, .unset, .unset, .unset] [(.int z), (.int y), (.int x)])) rfl (by rw [hml]; rfl) (argsL := [(.int y), (.int z)]) (rest := [(.int x)]) (lenOf pd_0 rfl) rfl (by show 2 * 0 + _ ≤ _; exact Nat.le_of_eq rfl) (hb hby d3_3) (fun _ _ => ⟨rfl, e0, (by decide : 0 + 0 ≤ _), (by decide : 0 + 0 ≤ _)⟩)
  dsimp only [Pt.U, Pt.locs, Pt.cells, Pt.slots] at X1 l1 y1 z1 st1 hQ1
  subst l1 y1 z1
  obtain ⟨rfl, Nq1, kh1⟩ := hQ1
  have N1 := Fr.app N0 Nq1
  obtain ⟨_, _, ⟨T2, L2, k2, n2⟩, -, X2, ⟨Lc2, hQ2, l2, y2, z2⟩, st2⟩ := Jvm.LawKit.callS X1 hx (y := (⟨"java/lang/Math", "min", "(II)I"⟩ : MethodName)) hown (mvT hZ (hw _ (List.mem_of_getElem? (i := 6) rfl))) (mvT hZ (hw _ (List.mem_of_getElem? (i := 7) rfl))) (mvT hZ (hw _ (List.mem_of_getElem? (i := 8) rfl))) (mvT hZ (hw _ (List.mem_of_getElem? (i := 9) rfl))) (by decide) (backOf (W := 0) (minR l Z a0 hw [] x (minI y z) h0 n0 (Nat.le_trans Z0 (Keep.refl h0 []).1) ) hZ (hw _ (List.mem_of_getElem? (i := 9) rfl)) (hw _ (List.mem_of_getElem? (i := 8) rfl)) (by decide) (by decide)) (g := (mkF m 6 #[.val (.int (2 : Int32)), .val (.int x), .val (.int y), .val (.int z), .unset, .unset, .unset, .unset] [(.int (minI y z)), (.int x)])) rfl (by rw [hml]; rfl) (argsL := [(.int x), (.int (minI y z))]) (rest := []) (lenOf pd_0 rfl) rfl (by show 2 * 0 + _ ≤ _; exact Nat.le_of_eq rfl) (hb hby d3_6) (fun _ _ => ⟨rfl, kh1, (by decide : 0 + 0 ≤ _), (by decide : 0 + 0 ≤ _)⟩)
  dsimp only [Pt.U, Pt.locs, Pt.cells, Pt.slots] at X2 l2 y2 z2 st2 hQ2
  subst l2 y2 z2
  obtain ⟨rfl, Nq2, kh2⟩ := hQ2
  have N2 := Fr.app N1 Nq2
  obtain ⟨_, _, ⟨T3, L3, k3, n3⟩, -, X3, ⟨Lc3, hQ3, l3, y3, z3⟩, st3⟩ := Jvm.LawKit.callS X2 hx (y := (⟨"java/lang/Math", "max", "(II)I"⟩ : MethodName)) hown (mvT hZ (hw _ (List.mem_of_getElem? (i := 10) rfl))) (mvT hZ (hw _ (List.mem_of_getElem? (i := 11) rfl))) (mvT hZ (hw _ (List.mem_of_getElem? (i := 8) rfl))) (mvT hZ (hw _ (List.mem_of_getElem? (i := 12) rfl))) (by decide) (backOf (W := 1) (maxR l Z a0 hw [] y z h0 n0 (Nat.le_trans Z0 (Keep.refl h0 []).1) ) hZ (hw _ (List.mem_of_getElem? (i := 12) rfl)) (hw _ (List.mem_of_getElem? (i := 8) rfl)) (by decide) (by decide)) (g := (mkF m 14 #[.val (.int (2 : Int32)), .val (.int x), .val (.int y), .val (.int z), .val (.int (minI x (minI y z))), .unset, .unset, .unset] [(.int z), (.int y), (.int x)])) rfl (by rw [hml]; rfl) (argsL := [(.int y), (.int z)]) (rest := [(.int x)]) (lenOf pd_0 rfl) rfl (by show 2 * 0 + _ ≤ _; exact Nat.le_of_eq rfl) (hb hby d3_14) (fun _ _ => ⟨rfl, kh2, (by decide : 0 + 0 ≤ _), (by decide : 0 + 0 ≤ _)⟩)
  dsimp only [Pt.U, Pt.locs, Pt.cells, Pt.slots] at X3 l3 y3 z3 st3 hQ3
  subst l3 y3 z3
  obtain ⟨rfl, Nq3, kh3⟩ := hQ3
  have N3 := Fr.app N2 Nq3
  obtain ⟨_, _, ⟨T4, L4, k4, n4⟩, -, X4, ⟨Lc4, hQ4, l4, y4, z4⟩, st4⟩ := Jvm.LawKit.callS X3 hx (y := (⟨"java/lang/Math", "max", "(II)I"⟩ : MethodName)) hown (mvT hZ (hw _ (List.mem_of_getElem? (i := 10) rfl))) (mvT hZ (hw _ (List.mem_of_getElem? (i := 11) rfl))) (mvT hZ (hw _ (List.mem_of_getElem? (i := 8) rfl))) (mvT hZ (hw _ (List.mem_of_getElem? (i := 12) rfl))) (by decide) (backOf (W := 0) (maxR l Z a0 hw [] x (maxI y z) h0 n0 (Nat.le_trans Z0 (Keep.refl h0 []).1) ) hZ (hw _ (List.mem_of_getElem? (i := 12) rfl)) (hw _ (List.mem_of_getElem? (i := 8) rfl)) (by decide) (by decide)) (g := (mkF m 17 #[.val (.int (2 : Int32)), .val (.int x), .val (.int y), .val (.int z), .val (.int (minI x (minI y z))), .unset, .unset, .unset] [(.int (maxI y z)), (.int x)])) rfl (by rw [hml]; rfl) (argsL := [(.int x), (.int (maxI y z))]) (rest := []) (lenOf pd_0 rfl) rfl (by show 2 * 0 + _ ≤ _; exact Nat.le_of_eq rfl) (hb hby d3_17) (fun _ _ => ⟨rfl, kh3, (by decide : 0 + 0 ≤ _), (by decide : 0 + 0 ≤ _)⟩)
  dsimp only [Pt.U, Pt.locs, Pt.cells, Pt.slots] at X4 l4 y4 z4 st4 hQ4
  subst l4 y4 z4
  obtain ⟨rfl, Nq4, kh4⟩ := hQ4
  have N4 := Fr.app N3 Nq4
  obtain ⟨_, _, ⟨T5, L5, k5, n5⟩, -, X5, ⟨Lc5, hQ5, l5, y5, z5⟩, st5⟩ := Jvm.LawKit.callS X4 hx (y := (⟨"java/lang/Math", "min", "(II)I"⟩ : MethodName)) hown (mvT hZ (hw _ (List.mem_of_getElem? (i := 6) rfl))) (mvT hZ (hw _ (List.mem_of_getElem? (i := 7) rfl))) (mvT hZ (hw _ (List.mem_of_getElem? (i := 8) rfl))) (mvT hZ (hw _ (List.mem_of_getElem? (i := 9) rfl))) (by decide) (backOf (W := 0) (minR l Z a0 hw [] x y h0 n0 (Nat.le_trans Z0 (Keep.refl h0 []).1) ) hZ (hw _ (List.mem_of_getElem? (i := 9) rfl)) (hw _ (List.mem_of_getElem? (i := 8) rfl)) (by decide) (by decide)) (g := (mkF m 24 #[.val (.int (2 : Int32)), .val (.int x), .val (.int y), .val (.int z), .val (.int (minI x (minI y z))), .val (.int (maxI x (maxI y z))), .unset, .unset] [(.int y), (.int x)])) rfl (by rw [hml]; rfl) (argsL := [(.int x), (.int y)]) (rest := []) (lenOf pd_0 rfl) rfl (by show 2 * 0 + _ ≤ _; exact Nat.le_of_eq rfl) (hb hby d3_24) (fun _ _ => ⟨rfl, kh4, (by decide : 0 + 0 ≤ _), (by decide : 0 + 0 ≤ _)⟩)
  dsimp only [Pt.U, Pt.locs, Pt.cells, Pt.slots] at X5 l5 y5 z5 st5 hQ5
  subst l5 y5 z5
  obtain ⟨rfl, Nq5, kh5⟩ := hQ5
  have N5 := Fr.app N4 Nq5
  obtain ⟨_, _, ⟨T6, L6, k6, n6⟩, -, X6, ⟨Lc6, hQ6, l6, y6, z6⟩, st6⟩ := Jvm.LawKit.callS X5 hx (y := (⟨"java/lang/Math", "max", "(II)I"⟩ : MethodName)) hown (mvT hZ (hw _ (List.mem_of_getElem? (i := 10) rfl))) (mvT hZ (hw _ (List.mem_of_getElem? (i := 11) rfl))) (mvT hZ (hw _ (List.mem_of_getElem? (i := 8) rfl))) (mvT hZ (hw _ (List.mem_of_getElem? (i := 12) rfl))) (by decide) (backOf (W := 1) (maxR l Z a0 hw [] x y h0 n0 (Nat.le_trans Z0 (Keep.refl h0 []).1) ) hZ (hw _ (List.mem_of_getElem? (i := 12) rfl)) (hw _ (List.mem_of_getElem? (i := 8) rfl)) (by decide) (by decide)) (g := (mkF m 29 #[.val (.int (2 : Int32)), .val (.int x), .val (.int y), .val (.int z), .val (.int (minI x (minI y z))), .val (.int (maxI x (maxI y z))), .unset, .unset] [(.int y), (.int x), (.int (minI x y))])) rfl (by rw [hml]; rfl) (argsL := [(.int x), (.int y)]) (rest := [(.int (minI x y))]) (lenOf pd_0 rfl) rfl (by show 2 * 0 + _ ≤ _; exact Nat.le_of_eq rfl) (hb hby d3_29) (fun _ _ => ⟨rfl, kh5, (by decide : 0 + 0 ≤ _), (by decide : 0 + 0 ≤ _)⟩)
  dsimp only [Pt.U, Pt.locs, Pt.cells, Pt.slots] at X6 l6 y6 z6 st6 hQ6
  subst l6 y6 z6
  obtain ⟨rfl, Nq6, kh6⟩ := hQ6
  have N6 := Fr.app N5 Nq6
  obtain ⟨_, _, ⟨T7, L7, k7, n7⟩, -, X7, ⟨Lc7, hQ7, l7, y7, z7⟩, st7⟩ := Jvm.LawKit.callS X6 hx (y := (⟨"java/lang/Math", "min", "(II)I"⟩ : MethodName)) hown (mvT hZ (hw _ (List.mem_of_getElem? (i := 6) rfl))) (mvT hZ (hw _ (List.mem_of_getElem? (i := 7) rfl))) (mvT hZ (hw _ (List.mem_of_getElem? (i := 8) rfl))) (mvT hZ (hw _ (List.mem_of_getElem? (i := 9) rfl))) (by decide) (backOf (W := 1) (minR l Z a0 hw [] (maxI x y) z h0 n0 (Nat.le_trans Z0 (Keep.refl h0 []).1) ) hZ (hw _ (List.mem_of_getElem? (i := 9) rfl)) (hw _ (List.mem_of_getElem? (i := 8) rfl)) (by decide) (by decide)) (g := (mkF m 33 #[.val (.int (2 : Int32)), .val (.int x), .val (.int y), .val (.int z), .val (.int (minI x (minI y z))), .val (.int (maxI x (maxI y z))), .unset, .unset] [(.int z), (.int (maxI x y)), (.int (minI x y))])) rfl (by rw [hml]; rfl) (argsL := [(.int (maxI x y)), (.int z)]) (rest := [(.int (minI x y))]) (lenOf pd_0 rfl) rfl (by show 2 * 0 + _ ≤ _; exact Nat.le_of_eq rfl) (hb hby d3_33) (fun _ _ => ⟨rfl, kh6, (by decide : 0 + 0 ≤ _), (by decide : 0 + 0 ≤ _)⟩)
  dsimp only [Pt.U, Pt.locs, Pt.cells, Pt.slots] at X7 l7 y7 z7 st7 hQ7
  subst l7 y7 z7
  obtain ⟨rfl, Nq7, kh7⟩ := hQ7
  have N7 := Fr.app N6 Nq7
  obtain ⟨_, _, ⟨T8, L8, k8, n8⟩, -, X8, ⟨Lc8, hQ8, l8, y8, z8⟩, st8⟩ := Jvm.LawKit.callS X7 hx (y := (⟨"java/lang/Math", "max", "(II)I"⟩ : MethodName)) hown (mvT hZ (hw _ (List.mem_of_getElem? (i := 10) rfl))) (mvT hZ (hw _ (List.mem_of_getElem? (i := 11) rfl))) (mvT hZ (hw _ (List.mem_of_getElem? (i := 8) rfl))) (mvT hZ (hw _ (List.mem_of_getElem? (i := 12) rfl))) (by decide) (backOf (W := 0) (maxR l Z a0 hw [] (minI x y) (minI (maxI x y) z) h0 n0 (Nat.le_trans Z0 (Keep.refl h0 []).1) ) hZ (hw _ (List.mem_of_getElem? (i := 12) rfl)) (hw _ (List.mem_of_getElem? (i := 8) rfl)) (by decide) (by decide)) (g := (mkF m 36 #[.val (.int (2 : Int32)), .val (.int x), .val (.int y), .val (.int z), .val (.int (minI x (minI y z))), .val (.int (maxI x (maxI y z))), .unset, .unset] [(.int (minI (maxI x y) z)), (.int (minI x y))])) rfl (by rw [hml]; rfl) (argsL := [(.int (minI x y)), (.int (minI (maxI x y) z))]) (rest := []) (lenOf pd_0 rfl) rfl (by show 2 * 0 + _ ≤ _; exact Nat.le_of_eq rfl) (hb hby d3_36) (fun _ _ => ⟨rfl, kh7, (by decide : 0 + 0 ≤ _), (by decide : 0 + 0 ≤ _)⟩)
  dsimp only [Pt.U, Pt.locs, Pt.cells, Pt.slots] at X8 l8 y8 z8 st8 hQ8
  subst l8 y8 z8
  obtain ⟨rfl, Nq8, kh8⟩ := hQ8
  have N8 := Fr.app N7 Nq8
  obtain ⟨T9, h9, k9, X9, e9, E9, A9, st9⟩ := newP X8 hx hZ (hw _ (List.mem_of_getElem? (i := 13) rfl)) kh8 (g := (mkF m 42 #[.val (.int (2 : Int32)), .val (.int x), .val (.int y), .val (.int z), .val (.int (minI x (minI y z))), .val (.int (maxI x (maxI y z))), .val (.int (maxI (minI x y) (minI (maxI x y) z))), .unset] [(.int (2 : Int32))])) rfl (hb hby d3_42) rfl (by decide) (cap := 2) (by decide) (by decide) (by decide) (by decide)
  obtain ⟨b9, gz9⟩ : ∃ z, z = h0.size := ⟨_, rfl⟩
  rw [← gz9] at A9 st9
  have sz_b9 : h0.size ≤ b9 := Nat.le_trans (Keep.refl h0 []).1 (Nat.le_of_eq gz9.symm)
  have g_b9 : n0 ≤ b9 := Nat.le_trans Z0 sz_b9
  have K9 : Keep h0 h9 [] := (Keep.refl h0 []).ext E9
  have V9 : Arv Z h9 b9 k9 .int (2 : Int32) [(.int (0 : Int32)), (.int (0 : Int32))] (.int (0 : Int32)) := (Arv.new A9 (by decide)).pad (pad_rep [] (.int (0 : Int32)) 2)
  obtain ⟨cl10, Ar10, q10, Sz10, Ng10, Hs10, Gs10⟩ := (id V9)
  have hin10 : ¬ ((0 : Int32) < 0 ∨ cl10.slots.size ≤ ((0 : Int32)).toNatClampNeg) := inb_of Sz10 ⟨by decide, by decide⟩
  obtain ⟨T10, h10, X10, e10, W10, st10⟩ := stI X9 hx hZ e9 Ar10 (j := (0 : Int32)) hin10 (g := (mkF m 55 #[.val (.int (2 : Int32)), .val (.int x), .val (.int y), .val (.int z), .val (.int (minI x (minI y z))), .val (.int (maxI x (maxI y z))), .val (.int (maxI (minI x y) (minI (maxI x y) z))), .val (.ref b9)] [(.int (minI x (minI y z))), (.int (0 : Int32)), (.ref b9)])) rfl rfl (hb hby d3_55)
  have V10 := Arv.set Ar10 q10 Sz10 Ng10 Hs10 Gs10 rfl W10 0 rfl (Nat.le_of_ble_eq_true rfl)
  have K10 : Keep h0 h10 [] := K9.wr W10 (Or.inr sz_b9)
  have N10 := Fr.snoc X10 N8 g_b9
  have V10 : Arv Z h10 b9 k9 .int (2 : Int32) [(.int (minI x (minI y z))), (.int (0 : Int32))] (.int (0 : Int32)) := V10
  obtain ⟨cl11, Ar11, q11, Sz11, Ng11, Hs11, Gs11⟩ := (id V10)
  have hin11 : ¬ ((1 : Int32) < 0 ∨ cl11.slots.size ≤ ((1 : Int32)).toNatClampNeg) := inb_of Sz11 ⟨by decide, by decide⟩
  obtain ⟨T11, h11, X11, e11, W11, st11⟩ := stI X10 hx hZ e10 Ar11 (j := (1 : Int32)) hin11 (g := (mkF m 66 #[.val (.int (2 : Int32)), .val (.int x), .val (.int y), .val (.int z), .val (.int (minI x (minI y z))), .val (.int (maxI x (maxI y z))), .val (.int (maxI (minI x y) (minI (maxI x y) z))), .val (.ref b9)] [(.int (maxI (minI x y) (minI (maxI x y) z))), (.int (1 : Int32)), (.ref b9)])) rfl rfl (hb hby d3_66)
  have V11 := Arv.set Ar11 q11 Sz11 Ng11 Hs11 Gs11 rfl W11 1 rfl (Nat.le_of_ble_eq_true rfl)
  have K11 : Keep h0 h11 [] := K10.wr W11 (Or.inr sz_b9)
  have N11 := Fr.snoc X11 N10 g_b9
  have V11 : Arv Z h11 b9 k9 .int (2 : Int32) [(.int (minI x (minI y z))), (.int (maxI (minI x y) (minI (maxI x y) z)))] (.int (0 : Int32)) := V11
  obtain ⟨fs, hr, hrun, hended, hW, hsame⟩ := X11.leave (v := some (.ref b9)) (fun h => by rw [Bd.returns] at h; cases h)
  refine ⟨_, _, pre0 _ ?_, hrun, hended, _, _, rfl, ?_, ⟨_, rfl⟩, hW, hsame.mono (by decide) (by decide)⟩
  · show Steps p.tables e below (s₁.setTop (mkF m 0 #[.val (.int (2 : Int32)), .val (.int x), .val (.int y), .val (.int z), .unset, .unset, .unset, .unset] [])) _
    refine XS.iloadN X0.here hx rfl (hb hby d3_0) rfl ?_
    show Steps p.tables e below (s₁.setTop (mkF m 1 #[.val (.int (2 : Int32)), .val (.int x), .val (.int y), .val (.int z), .unset, .unset, .unset, .unset] [(.int x)])) _
    refine XS.iloadN X0.here hx rfl (hb hby d3_1) rfl ?_
    show Steps p.tables e below (s₁.setTop (mkF m 2 #[.val (.int (2 : Int32)), .val (.int x), .val (.int y), .val (.int z), .unset, .unset, .unset, .unset] [(.int y), (.int x)])) _
    refine XS.iloadN X0.here hx rfl (hb hby d3_2) rfl ?_
    show Steps p.tables e below (s₁.setTop (mkF m 3 #[.val (.int (2 : Int32)), .val (.int x), .val (.int y), .val (.int z), .unset, .unset, .unset, .unset] [(.int z), (.int y), (.int x)])) _
    refine st1 _ ?_
    show Steps p.tables e below (T1.setTop (mkF m 6 #[.val (.int (2 : Int32)), .val (.int x), .val (.int y), .val (.int z), .unset, .unset, .unset, .unset] [(.int (minI y z)), (.int x)])) _
    refine st2 _ ?_
    show Steps p.tables e below (T2.setTop (mkF m 9 #[.val (.int (2 : Int32)), .val (.int x), .val (.int y), .val (.int z), .unset, .unset, .unset, .unset] [(.int (minI x (minI y z)))])) _
    refine XS.istore X2.here hx rfl (hb hby d3_9) rfl (l' := #[.val (.int (2 : Int32)), .val (.int x), .val (.int y), .val (.int z), .val (.int (minI x (minI y z))), .unset, .unset, .unset]) rfl ?_
    show Steps p.tables e below (T2.setTop (mkF m 11 #[.val (.int (2 : Int32)), .val (.int x), .val (.int y), .val (.int z), .val (.int (minI x (minI y z))), .unset, .unset, .unset] [])) _
    refine XS.iloadN X2.here hx rfl (hb hby d3_11) rfl ?_
    show Steps p.tables e below (T2.setTop (mkF m 12 #[.val (.int (2 : Int32)), .val (.int x), .val (.int y), .val (.int z), .val (.int (minI x (minI y z))), .unset, .unset, .unset] [(.int x)])) _
    refine XS.iloadN X2.here hx rfl (hb hby d3_12) rfl ?_
    show Steps p.tables e below (T2.setTop (mkF m 13 #[.val (.int (2 : Int32)), .val (.int x), .val (.int y), .val (.int z), .val (.int (minI x (minI y z))), .unset, .unset, .unset] [(.int y), (.int x)])) _
    refine XS.iloadN X2.here hx rfl (hb hby d3_13) rfl ?_
    show Steps p.tables e below (T2.setTop (mkF m 14 #[.val (.int (2 : Int32)), .val (.int x), .val (.int y), .val (.int z), .val (.int (minI x (minI y z))), .unset, .unset, .unset] [(.int z), (.int y), (.int x)])) _
    refine st3 _ ?_
    show Steps p.tables e below (T3.setTop (mkF m 17 #[.val (.int (2 : Int32)), .val (.int x), .val (.int y), .val (.int z), .val (.int (minI x (minI y z))), .unset, .unset, .unset] [(.int (maxI y z)), (.int x)])) _
    refine st4 _ ?_
    show Steps p.tables e below (T4.setTop (mkF m 20 #[.val (.int (2 : Int32)), .val (.int x), .val (.int y), .val (.int z), .val (.int (minI x (minI y z))), .unset, .unset, .unset] [(.int (maxI x (maxI y z)))])) _
    refine XS.istore X4.here hx rfl (hb hby d3_20) rfl (l' := #[.val (.int (2 : Int32)), .val (.int x), .val (.int y), .val (.int z), .val (.int (minI x (minI y z))), .val (.int (maxI x (maxI y z))), .unset, .unset]) rfl ?_
    show Steps p.tables e below (T4.setTop (mkF m 22 #[.val (.int (2 : Int32)), .val (.int x), .val (.int y), .val (.int z), .val (.int (minI x (minI y z))), .val (.int (maxI x (maxI y z))), .unset, .unset] [])) _
    refine XS.iloadN X4.here hx rfl (hb hby d3_22) rfl ?_
    show Steps p.tables e below (T4.setTop (mkF m 23 #[.val (.int (2 : Int32)), .val (.int x), .val (.int y), .val (.int z), .val (.int (minI x (minI y z))), .val (.int (maxI x (maxI y z))), .unset, .unset] [(.int x)])) _
    refine XS.iloadN X4.here hx rfl (hb hby d3_23) rfl ?_
    show Steps p.tables e below (T4.setTop (mkF m 24 #[.val (.int (2 : Int32)), .val (.int x), .val (.int y), .val (.int z), .val (.int (minI x (minI y z))), .val (.int (maxI x (maxI y z))), .unset, .unset] [(.int y), (.int x)])) _
    refine st5 _ ?_
    show Steps p.tables e below (T5.setTop (mkF m 27 #[.val (.int (2 : Int32)), .val (.int x), .val (.int y), .val (.int z), .val (.int (minI x (minI y z))), .val (.int (maxI x (maxI y z))), .unset, .unset] [(.int (minI x y))])) _
    refine XS.iloadN X5.here hx rfl (hb hby d3_27) rfl ?_
    show Steps p.tables e below (T5.setTop (mkF m 28 #[.val (.int (2 : Int32)), .val (.int x), .val (.int y), .val (.int z), .val (.int (minI x (minI y z))), .val (.int (maxI x (maxI y z))), .unset, .unset] [(.int x), (.int (minI x y))])) _
    refine XS.iloadN X5.here hx rfl (hb hby d3_28) rfl ?_
    show Steps p.tables e below (T5.setTop (mkF m 29 #[.val (.int (2 : Int32)), .val (.int x), .val (.int y), .val (.int z), .val (.int (minI x (minI y z))), .val (.int (maxI x (maxI y z))), .unset, .unset] [(.int y), (.int x), (.int (minI x y))])) _
    refine st6 _ ?_
    show Steps p.tables e below (T6.setTop (mkF m 32 #[.val (.int (2 : Int32)), .val (.int x), .val (.int y), .val (.int z), .val (.int (minI x (minI y z))), .val (.int (maxI x (maxI y z))), .unset, .unset] [(.int (maxI x y)), (.int (minI x y))])) _
    refine XS.iloadN X6.here hx rfl (hb hby d3_32) rfl ?_
    show Steps p.tables e below (T6.setTop (mkF m 33 #[.val (.int (2 : Int32)), .val (.int x), .val (.int y), .val (.int z), .val (.int (minI x (minI y z))), .val (.int (maxI x (maxI y z))), .unset, .unset] [(.int z), (.int (maxI x y)), (.int (minI x y))])) _
    refine st7 _ ?_
    show Steps p.tables e below (T7.setTop (mkF m 36 #[.val (.int (2 : Int32)), .val (.int x), .val (.int y), .val (.int z), .val (.int (minI x (minI y z))), .val (.int (maxI x (maxI y z))), .unset, .unset] [(.int (minI (maxI x y) z)), (.int (minI x y))])) _
    refine st8 _ ?_
    show Steps p.tables e below (T8.setTop (mkF m 39 #[.val (.int (2 : Int32)), .val (.int x), .val (.int y), .val (.int z), .val (.int (minI x (minI y z))), .val (.int (maxI x (maxI y z))), .unset, .unset] [(.int (maxI (minI x y) (minI (maxI x y) z)))])) _
    refine XS.istore X8.here hx rfl (hb hby d3_39) rfl (l' := #[.val (.int (2 : Int32)), .val (.int x), .val (.int y), .val (.int z), .val (.int (minI x (minI y z))), .val (.int (maxI x (maxI y z))), .val (.int (maxI (minI x y) (minI (maxI x y) z))), .unset]) rfl ?_
    show Steps p.tables e below (T8.setTop (mkF m 41 #[.val (.int (2 : Int32)), .val (.int x), .val (.int y), .val (.int z), .val (.int (minI x (minI y z))), .val (.int (maxI x (maxI y z))), .val (.int (maxI (minI x y) (minI (maxI x y) z))), .unset] [])) _
    refine XS.iloadN X8.here hx rfl (hb hby d3_41) rfl ?_
    show Steps p.tables e below (T8.setTop (mkF m 42 #[.val (.int (2 : Int32)), .val (.int x), .val (.int y), .val (.int z), .val (.int (minI x (minI y z))), .val (.int (maxI x (maxI y z))), .val (.int (maxI (minI x y) (minI (maxI x y) z))), .unset] [(.int (2 : Int32))])) _
    refine st9 _ ?_
    show Steps p.tables e below (T9.setTop (mkF m 44 #[.val (.int (2 : Int32)), .val (.int x), .val (.int y), .val (.int z), .val (.int (minI x (minI y z))), .val (.int (maxI x (maxI y z))), .val (.int (maxI (minI x y) (minI (maxI x y) z))), .unset] [(.ref b9)])) _
    refine XS.astore X9.here hx rfl (hb hby d3_44) rfl rfl (l' := #[.val (.int (2 : Int32)), .val (.int x), .val (.int y), .val (.int z), .val (.int (minI x (minI y z))), .val (.int (maxI x (maxI y z))), .val (.int (maxI (minI x y) (minI (maxI x y) z))), .val (.ref b9)]) rfl ?_
    show Steps p.tables e below (T9.setTop (mkF m 46 #[.val (.int (2 : Int32)), .val (.int x), .val (.int y), .val (.int z), .val (.int (minI x (minI y z))), .val (.int (maxI x (maxI y z))), .val (.int (maxI (minI x y) (minI (maxI x y) z))), .val (.ref b9)] [])) _
    refine XS.iloadN X9.here hx rfl (hb hby d3_46) rfl ?_
    show Steps p.tables e below (T9.setTop (mkF m 47 #[.val (.int (2 : Int32)), .val (.int x), .val (.int y), .val (.int z), .val (.int (minI x (minI y z))), .val (.int (maxI x (maxI y z))), .val (.int (maxI (minI x y) (minI (maxI x y) z))), .val (.ref b9)] [(.int (2 : Int32))])) _
    refine XS.ifNo X9.here hx rfl (hb hby d3_47) rfl ((if0 _ _).trans (tlt (by decide : (0 : Int32) < (2 : Int32))).2.2.2) ?_
    show Steps p.tables e below (T9.setTop (mkF m 50 #[.val (.int (2 : Int32)), .val (.int x), .val (.int y), .val (.int z), .val (.int (minI x (minI y z))), .val (.int (maxI x (maxI y z))), .val (.int (maxI (minI x y) (minI (maxI x y) z))), .val (.ref b9)] [])) _
    refine XS.aload X9.here hx rfl (hb hby d3_50) rfl rfl ?_
    show Steps p.tables e below (T9.setTop (mkF m 52 #[.val (.int (2 : Int32)), .val (.int x), .val (.int y), .val (.int z), .val (.int (minI x (minI y z))), .val (.int (maxI x (maxI y z))), .val (.int (maxI (minI x y) (minI (maxI x y) z))), .val (.ref b9)] [(.ref b9)])) _
    refine XS.iconst X9.here hx rfl (hb hby d3_52) ?_
    show Steps p.tables e below (T9.setTop (mkF m 53 #[.val (.int (2 : Int32)), .val (.int x), .val (.int y), .val (.int z), .val (.int (minI x (minI y z))), .val (.int (maxI x (maxI y z))), .val (.int (maxI (minI x y) (minI (maxI x y) z))), .val (.ref b9)] [(.int (0 : Int32)), (.ref b9)])) _
    refine XS.iload X9.here hx rfl (hb hby d3_53) rfl ?_
    show Steps p.tables e below (T9.setTop (mkF m 55 #[.val (.int (2 : Int32)), .val (.int x), .val (.int y), .val (.int z), .val (.int (minI x (minI y z))), .val (.int (maxI x (maxI y z))), .val (.int (maxI (minI x y) (minI (maxI x y) z))), .val (.ref b9)] [(.int (minI x (minI y z))), (.int (0 : Int32)), (.ref b9)])) _
    refine st10 _ ?_
    show Steps p.tables e below (T10.setTop (mkF m 56 #[.val (.int (2 : Int32)), .val (.int x), .val (.int y), .val (.int z), .val (.int (minI x (minI y z))), .val (.int (maxI x (maxI y z))), .val (.int (maxI (minI x y) (minI (maxI x y) z))), .val (.ref b9)] [])) _
    refine XS.iloadN X10.here hx rfl (hb hby d3_56) rfl ?_
    show Steps p.tables e below (T10.setTop (mkF m 57 #[.val (.int (2 : Int32)), .val (.int x), .val (.int y), .val (.int z), .val (.int (minI x (minI y z))), .val (.int (maxI x (maxI y z))), .val (.int (maxI (minI x y) (minI (maxI x y) z))), .val (.ref b9)] [(.int (2 : Int32))])) _
    refine XS.iconst X10.here hx rfl (hb hby d3_57) ?_
    show Steps p.tables e below (T10.setTop (mkF m 58 #[.val (.int (2 : Int32)), .val (.int x), .val (.int y), .val (.int z), .val (.int (minI x (minI y z))), .val (.int (maxI x (maxI y z))), .val (.int (maxI (minI x y) (minI (maxI x y) z))), .val (.ref b9)] [(.int (1 : Int32)), (.int (2 : Int32))])) _
    refine XS.icmpNo X10.here hx rfl (hb hby d3_58) rfl (tlt (by decide : (1 : Int32) < (2 : Int32))).2.2.2 ?_
    show Steps p.tables e below (T10.setTop (mkF m 61 #[.val (.int (2 : Int32)), .val (.int x), .val (.int y), .val (.int z), .val (.int (minI x (minI y z))), .val (.int (maxI x (maxI y z))), .val (.int (maxI (minI x y) (minI (maxI x y) z))), .val (.ref b9)] [])) _
    refine XS.aload X10.here hx rfl (hb hby d3_61) rfl rfl ?_
    show Steps p.tables e below (T10.setTop (mkF m 63 #[.val (.int (2 : Int32)), .val (.int x), .val (.int y), .val (.int z), .val (.int (minI x (minI y z))), .val (.int (maxI x (maxI y z))), .val (.int (maxI (minI x y) (minI (maxI x y) z))), .val (.ref b9)] [(.ref b9)])) _
    refine XS.iconst X10.here hx rfl (hb hby d3_63) ?_
    show Steps p.tables e below (T10.setTop (mkF m 64 #[.val (.int (2 : Int32)), .val (.int x), .val (.int y), .val (.int z), .val (.int (minI x (minI y z))), .val (.int (maxI x (maxI y z))), .val (.int (maxI (minI x y) (minI (maxI x y) z))), .val (.ref b9)] [(.int (1 : Int32)), (.ref b9)])) _
    refine XS.iload X10.here hx rfl (hb hby d3_64) rfl ?_
    show Steps p.tables e below (T10.setTop (mkF m 66 #[.val (.int (2 : Int32)), .val (.int x), .val (.int y), .val (.int z), .val (.int (minI x (minI y z))), .val (.int (maxI x (maxI y z))), .val (.int (maxI (minI x y) (minI (maxI x y) z))), .val (.ref b9)] [(.int (maxI (minI x y) (minI (maxI x y) z))), (.int (1 : Int32)), (.ref b9)])) _
    refine st11 _ ?_
    show Steps p.tables e below (T11.setTop (mkF m 67 #[.val (.int (2 : Int32)), .val (.int x), .val (.int y), .val (.int z), .val (.int (minI x (minI y z))), .val (.int (maxI x (maxI y z))), .val (.int (maxI (minI x y) (minI (maxI x y) z))), .val (.ref b9)] [])) _
    refine XS.iloadN X11.here hx rfl (hb hby d3_67) rfl ?_
    show Steps p.tables e below (T11.setTop (mkF m 68 #[.val (.int (2 : Int32)), .val (.int x), .val (.int y), .val (.int z), .val (.int (minI x (minI y z))), .val (.int (maxI x (maxI y z))), .val (.int (maxI (minI x y) (minI (maxI x y) z))), .val (.ref b9)] [(.int (2 : Int32))])) _
    refine XS.iconst X11.here hx rfl (hb hby d3_68) ?_
    show Steps p.tables e below (T11.setTop (mkF m 69 #[.val (.int (2 : Int32)), .val (.int x), .val (.int y), .val (.int z), .val (.int (minI x (minI y z))), .val (.int (maxI x (maxI y z))), .val (.int (maxI (minI x y) (minI (maxI x y) z))), .val (.ref b9)] [(.int (2 : Int32)), (.int (2 : Int32))])) _
    refine XS.icmpYes X11.here hx rfl (pc0 := 69) (pc' := 78) rfl (hb hby d3_69) rfl (flt (by decide : ¬ ((2 : Int32) < (2 : Int32)))).2.2.2 (by decide) (by decide) ?_
    show Steps p.tables e below (T11.setTop (mkF m 78 #[.val (.int (2 : Int32)), .val (.int x), .val (.int y), .val (.int z), .val (.int (minI x (minI y z))), .val (.int (maxI x (maxI y z))), .val (.int (maxI (minI x y) (minI (maxI x y) z))), .val (.ref b9)] [])) _
    refine XS.aload X11.here hx rfl (hb hby d3_78) rfl rfl ?_
    show Steps p.tables e below (T11.setTop (mkF m 80 #[.val (.int (2 : Int32)), .val (.int x), .val (.int y), .val (.int z), .val (.int (minI x (minI y z))), .val (.int (maxI x (maxI y z))), .val (.int (maxI (minI x y) (minI (maxI x y) z))), .val (.ref b9)] [(.ref b9)])) _
    jvm_step X11.here [X11.here.top, hx, (hb hby d3_80), X11.method', Bd.returns, Value.isRef, FieldType.isReference]
    first | (intro acts; rw [hr _ acts rfl rfl rfl]) | rw [hr _ _ rfl rfl rfl]
    exact Steps.refl _
  · show Q_take2 Z x y z f h0 n0 _ T11.heap _
    rw [e11]
    exact ⟨b9, rfl, N11, K11, sz_b9, (ArF.of V11 (fun i hi => by rw [← hf]; match i, hi with | 0, _ => rfl | 1, _ => rfl))⟩
def Q_take3 (Z : State) (x : Int32) (y : Int32) (z : Int32) (f : Nat → Int32) (h0 : Heap) (n0 : Nat) (v : Option Value) (h : Heap) (L : List Loc) : Prop := ∃ r : Addr, v = some (.ref r) ∧ Fr n0 L ∧ Keep h0 h [] ∧ h0.size ≤ r ∧ ArF Z h r (3 : Int32) f
theorem d3_72 : decode method_4_code 72 = .ok (.aload 7, 2) := by decide +kernel
theorem d3_74 : decode method_4_code 74 = .ok (.iconst 2, 1) := by decide +kernel
theorem d3_75 : decode method_4_code 75 = .ok (.iload 5, 2) := by decide +kernel
theorem d3_77 : decode method_4_code 77 = .ok (.iastore, 1) := by decide +kernel
set_option maxRecDepth 65536 in
set_option maxHeartbeats 40000000 in
theorem take3 (l : Launch) (Z : State) (a0 : Array Value) (hw : ∀ d ∈ tables_1, d.before a0 Z = true) (ws : List Jvm.Cond) (x : Int32) (y : Int32) (z : Int32) (f : Nat → Int32) (h0 : Heap) (n0 : Nat) (Z0 : n0 ≤ h0.size) (hf : pick3 (s0V x y z) (s1V x y z) (s2V x y z) = f) :
    MetFree l (⟨"com/example/recital/recital/document/WordsLikenessPinLaw", "sortedTake", "(IIII)[I"⟩ : MethodName) (head1 (Jvm.Cond.code (⟨"com/example/recital/recital/document/WordsLikenessPinLaw", "sortedTake", "(IIII)[I"⟩ : MethodName) method_4_code 8 (some (.array .int)) :: ws) ({ frames := 1, cells := 1, slots := 3, locals := 15 } : Room)) (fun zA zU => zA = #[(.int (3 : Int32)), (.int x), (.int y), (.int z)] ∧ Z.Warmed39 zU.vm ∧ zU.heap = h0) (fun _ _ _ _ _ => True) (fun _ zU zo zU' => ∃ zv zL, zo = .returned zv ∧ Q_take3 Z x y z f h0 n0 zv zU'.heap zL ∧ FrameEnd zU zo zU' zL ({ frames := 1, cells := 1, slots := 3, locals := 15 } : Room).cells ({ frames := 1, cells := 1, slots := 3, locals := 15 } : Room).slots) := by
  refine MetFree.of_bodySF (plainFor_of_name pn_4) hisR ?_
  intro p e s m args below meth c s₁ Bd hml0 hP hK
  obtain ⟨rfl, hZ, hh⟩ := hP
  have hx := Bd.exec
  have hby := Bd.bytes
  have hml : c.maxLocals = 8 := hml0
  have hown : s.vm.findClass "com/example/recital/recital/document/WordsLikenessPinLaw" = some m.cls := findClass_of_methodNamed Bd.named
  have hnm := (name_of_methodNamed Bd.named Bd.method).1
  have X0 : Stand p l e ({ frames := 1, cells := 1, slots := 3, locals := 15 } : Room) s m #[(.int (3 : Int32)), (.int x), (.int y), (.int z)] below meth c s₁ [] 0 0 := Stand.of_body Bd
  have e0 : s₁.heap = h0 := by rw [← hh, Bd.state]; rfl
  have N0 := Fr.nil n0
  have pre0 : ∀ zt, Steps p.tables e below (s₁.setTop (mkF m 0 #[.val (.int (3 : Int32)), .val (.int x), .val (.int y), .val (.int z), .unset, .unset, .unset, .unset] [])) zt → Steps p.tables e below (s₁.setTop (entryFrame m #[(.int (3 : Int32)), (.int x), (.int y), (.int z)] 8)) zt := fun zt zk => castTop (ef_3_IIII m (3 : Int32) x y z) zk
  obtain ⟨_, _, ⟨T1, L1, k1, n1⟩, -, X1, ⟨Lc1, hQ1, l1, y1, z1⟩, st1⟩ := Jvm.LawKit.callS X0 hx (y := (⟨"java/lang/Math", "min", "(II)I"⟩ : MethodName)) hown (mvT hZ (hw _ (List.mem_of_getElem? (i := 6) rfl))) (mvT hZ (hw _ (List.mem_of_getElem? (i := 7) rfl))) (mvT hZ (hw _ (List.mem_of_getElem? (i := 8) rfl))) (mvT hZ (hw _ (List.mem_of_getElem? (i := 9) rfl))) (by decide) (backOf (W := 1) (minR l Z a0 hw [] y z h0 n0 (Nat.le_trans Z0 (Keep.refl h0 []).1) ) hZ (hw _ (List.mem_of_getElem? (i := 9) rfl)) (hw _ (List.mem_of_getElem? (i := 8) rfl)) (by decide) (by decide)) (g := (mkF m 3 #[.val (.int (3 : Int32)), .val (.int x), .val (.int y), .val (.int z), .unset, .unset, .unset, .unset] [(.int z), (.int y), (.int x)])) rfl (by rw [hml]; rfl) (argsL := [(.int y), (.int z)]) (rest := [(.int x)]) (lenOf pd_0 rfl) rfl (by show 2 * 0 + _ ≤ _; exact Nat.le_of_eq rfl) (hb hby d3_3) (fun _ _ => ⟨rfl, e0, (by decide : 0 + 0 ≤ _), (by decide : 0 + 0 ≤ _)⟩)
  dsimp only [Pt.U, Pt.locs, Pt.cells, Pt.slots] at X1 l1 y1 z1 st1 hQ1
  subst l1 y1 z1
  obtain ⟨rfl, Nq1, kh1⟩ := hQ1
  have N1 := Fr.app N0 Nq1
  obtain ⟨_, _, ⟨T2, L2, k2, n2⟩, -, X2, ⟨Lc2, hQ2, l2, y2, z2⟩, st2⟩ := Jvm.LawKit.callS X1 hx (y := (⟨"java/lang/Math", "min", "(II)I"⟩ : MethodName)) hown (mvT hZ (hw _ (List.mem_of_getElem? (i := 6) rfl))) (mvT hZ (hw _ (List.mem_of_getElem? (i := 7) rfl))) (mvT hZ (hw _ (List.mem_of_getElem? (i := 8) rfl))) (mvT hZ (hw _ (List.mem_of_getElem? (i := 9) rfl))) (by decide) (backOf (W := 0) (minR l Z a0 hw [] x (minI y z) h0 n0 (Nat.le_trans Z0 (Keep.refl h0 []).1) ) hZ (hw _ (List.mem_of_getElem? (i := 9) rfl)) (hw _ (List.mem_of_getElem? (i := 8) rfl)) (by decide) (by decide)) (g := (mkF m 6 #[.val (.int (3 : Int32)), .val (.int x), .val (.int y), .val (.int z), .unset, .unset, .unset, .unset] [(.int (minI y z)), (.int x)])) rfl (by rw [hml]; rfl) (argsL := [(.int x), (.int (minI y z))]) (rest := []) (lenOf pd_0 rfl) rfl (by show 2 * 0 + _ ≤ _; exact Nat.le_of_eq rfl) (hb hby d3_6) (fun _ _ => ⟨rfl, kh1, (by decide : 0 + 0 ≤ _), (by decide : 0 + 0 ≤ _)⟩)
  dsimp only [Pt.U, Pt.locs, Pt.cells, Pt.slots] at X2 l2 y2 z2 st2 hQ2
  subst l2 y2 z2
  obtain ⟨rfl, Nq2, kh2⟩ := hQ2
  have N2 := Fr.app N1 Nq2
  obtain ⟨_, _, ⟨T3, L3, k3, n3⟩, -, X3, ⟨Lc3, hQ3, l3, y3, z3⟩, st3⟩ := Jvm.LawKit.callS X2 hx (y := (⟨"java/lang/Math", "max", "(II)I"⟩ : MethodName)) hown (mvT hZ (hw _ (List.mem_of_getElem? (i := 10) rfl))) (mvT hZ (hw _ (List.mem_of_getElem? (i := 11) rfl))) (mvT hZ (hw _ (List.mem_of_getElem? (i := 8) rfl))) (mvT hZ (hw _ (List.mem_of_getElem? (i := 12) rfl))) (by decide) (backOf (W := 1) (maxR l Z a0 hw [] y z h0 n0 (Nat.le_trans Z0 (Keep.refl h0 []).1) ) hZ (hw _ (List.mem_of_getElem? (i := 12) rfl)) (hw _ (List.mem_of_getElem? (i := 8) rfl)) (by decide) (by decide)) (g := (mkF m 14 #[.val (.int (3 : Int32)), .val (.int x), .val (.int y), .val (.int z), .val (.int (minI x (minI y z))), .unset, .unset, .unset] [(.int z), (.int y), (.int x)])) rfl (by rw [hml]; rfl) (argsL := [(.int y), (.int z)]) (rest := [(.int x)]) (lenOf pd_0 rfl) rfl (by show 2 * 0 + _ ≤ _; exact Nat.le_of_eq rfl) (hb hby d3_14) (fun _ _ => ⟨rfl, kh2, (by decide : 0 + 0 ≤ _), (by decide : 0 + 0 ≤ _)⟩)
  dsimp only [Pt.U, Pt.locs, Pt.cells, Pt.slots] at X3 l3 y3 z3 st3 hQ3
  subst l3 y3 z3
  obtain ⟨rfl, Nq3, kh3⟩ := hQ3
  have N3 := Fr.app N2 Nq3
  obtain ⟨_, _, ⟨T4, L4, k4, n4⟩, -, X4, ⟨Lc4, hQ4, l4, y4, z4⟩, st4⟩ := Jvm.LawKit.callS X3 hx (y := (⟨"java/lang/Math", "max", "(II)I"⟩ : MethodName)) hown (mvT hZ (hw _ (List.mem_of_getElem? (i := 10) rfl))) (mvT hZ (hw _ (List.mem_of_getElem? (i := 11) rfl))) (mvT hZ (hw _ (List.mem_of_getElem? (i := 8) rfl))) (mvT hZ (hw _ (List.mem_of_getElem? (i := 12) rfl))) (by decide) (backOf (W := 0) (maxR l Z a0 hw [] x (maxI y z) h0 n0 (Nat.le_trans Z0 (Keep.refl h0 []).1) ) hZ (hw _ (List.mem_of_getElem? (i := 12) rfl)) (hw _ (List.mem_of_getElem? (i := 8) rfl)) (by decide) (by decide)) (g := (mkF m 17 #[.val (.int (3 : Int32)), .val (.int x), .val (.int y), .val (.int z), .val (.int (minI x (minI y z))), .unset, .unset, .unset] [(.int (maxI y z)), (.int x)])) rfl (by rw [hml]; rfl) (argsL := [(.int x), (.int (maxI y z))]) (rest := []) (lenOf pd_0 rfl) rfl (by show 2 * 0 + _ ≤ _; exact Nat.le_of_eq rfl) (hb hby d3_17) (fun _ _ => ⟨rfl, kh3, (by decide : 0 + 0 ≤ _), (by decide : 0 + 0 ≤ _)⟩)
  dsimp only [Pt.U, Pt.locs, Pt.cells, Pt.slots] at X4 l4 y4 z4 st4 hQ4
  subst l4 y4 z4
  obtain ⟨rfl, Nq4, kh4⟩ := hQ4
  have N4 := Fr.app N3 Nq4
  obtain ⟨_, _, ⟨T5, L5, k5, n5⟩, -, X5, ⟨Lc5, hQ5, l5, y5, z5⟩, st5⟩ := Jvm.LawKit.callS X4 hx (y := (⟨"java/lang/Math", "min", "(II)I"⟩ : MethodName)) hown (mvT hZ (hw _ (List.mem_of_getElem? (i := 6) rfl))) (mvT hZ (hw _ (List.mem_of_getElem? (i := 7) rfl))) (mvT hZ (hw _ (List.mem_of_getElem? (i := 8) rfl))) (mvT hZ (hw _ (List.mem_of_getElem? (i := 9) rfl))) (by decide) (backOf (W := 0) (minR l Z a0 hw [] x y h0 n0 (Nat.le_trans Z0 (Keep.refl h0 []).1) ) hZ (hw _ (List.mem_of_getElem? (i := 9) rfl)) (hw _ (List.mem_of_getElem? (i := 8) rfl)) (by decide) (by decide)) (g := (mkF m 24 #[.val (.int (3 : Int32)), .val (.int x), .val (.int y), .val (.int z), .val (.int (minI x (minI y z))), .val (.int (maxI x (maxI y z))), .unset, .unset] [(.int y), (.int x)])) rfl (by rw [hml]; rfl) (argsL := [(.int x), (.int y)]) (rest := []) (lenOf pd_0 rfl) rfl (by show 2 * 0 + _ ≤ _; exact Nat.le_of_eq rfl) (hb hby d3_24) (fun _ _ => ⟨rfl, kh4, (by decide : 0 + 0 ≤ _), (by decide : 0 + 0 ≤ _)⟩)
  dsimp only [Pt.U, Pt.locs, Pt.cells, Pt.slots] at X5 l5 y5 z5 st5 hQ5
  subst l5 y5 z5
  obtain ⟨rfl, Nq5, kh5⟩ := hQ5
  have N5 := Fr.app N4 Nq5
  obtain ⟨_, _, ⟨T6, L6, k6, n6⟩, -, X6, ⟨Lc6, hQ6, l6, y6, z6⟩, st6⟩ := Jvm.LawKit.callS X5 hx (y := (⟨"java/lang/Math", "max", "(II)I"⟩ : MethodName)) hown (mvT hZ (hw _ (List.mem_of_getElem? (i := 10) rfl))) (mvT hZ (hw _ (List.mem_of_getElem? (i := 11) rfl))) (mvT hZ (hw _ (List.mem_of_getElem? (i := 8) rfl))) (mvT hZ (hw _ (List.mem_of_getElem? (i := 12) rfl))) (by decide) (backOf (W := 1) (maxR l Z a0 hw [] x y h0 n0 (Nat.le_trans Z0 (Keep.refl h0 []).1) ) hZ (hw _ (List.mem_of_getElem? (i := 12) rfl)) (hw _ (List.mem_of_getElem? (i := 8) rfl)) (by decide) (by decide)) (g := (mkF m 29 #[.val (.int (3 : Int32)), .val (.int x), .val (.int y), .val (.int z), .val (.int (minI x (minI y z))), .val (.int (maxI x (maxI y z))), .unset, .unset] [(.int y), (.int x), (.int (minI x y))])) rfl (by rw [hml]; rfl) (argsL := [(.int x), (.int y)]) (rest := [(.int (minI x y))]) (lenOf pd_0 rfl) rfl (by show 2 * 0 + _ ≤ _; exact Nat.le_of_eq rfl) (hb hby d3_29) (fun _ _ => ⟨rfl, kh5, (by decide : 0 + 0 ≤ _), (by decide : 0 + 0 ≤ _)⟩)
  dsimp only [Pt.U, Pt.locs, Pt.cells, Pt.slots] at X6 l6 y6 z6 st6 hQ6
  subst l6 y6 z6
  obtain ⟨rfl, Nq6, kh6⟩ := hQ6
  have N6 := Fr.app N5 Nq6
  obtain ⟨_, _, ⟨T7, L7, k7, n7⟩, -, X7, ⟨Lc7, hQ7, l7, y7, z7⟩, st7⟩ := Jvm.LawKit.callS X6 hx (y := (⟨"java/lang/Math", "min", "(II)I"⟩ : MethodName)) hown (mvT hZ (hw _ (List.mem_of_getElem? (i := 6) rfl))) (mvT hZ (hw _ (List.mem_of_getElem? (i := 7) rfl))) (mvT hZ (hw _ (List.mem_of_getElem? (i := 8) rfl))) (mvT hZ (hw _ (List.mem_of_getElem? (i := 9) rfl))) (by decide) (backOf (W := 1) (minR l Z a0 hw [] (maxI x y) z h0 n0 (Nat.le_trans Z0 (Keep.refl h0 []).1) ) hZ (hw _ (List.mem_of_getElem? (i := 9) rfl)) (hw _ (List.mem_of_getElem? (i := 8) rfl)) (by decide) (by decide)) (g := (mkF m 33 #[.val (.int (3 : Int32)), .val (.int x), .val (.int y), .val (.int z), .val (.int (minI x (minI y z))), .val (.int (maxI x (maxI y z))), .unset, .unset] [(.int z), (.int (maxI x y)), (.int (minI x y))])) rfl (by rw [hml]; rfl) (argsL := [(.int (maxI x y)), (.int z)]) (rest := [(.int (minI x y))]) (lenOf pd_0 rfl) rfl (by show 2 * 0 + _ ≤ _; exact Nat.le_of_eq rfl) (hb hby d3_33) (fun _ _ => ⟨rfl, kh6, (by decide : 0 + 0 ≤ _), (by decide : 0 + 0 ≤ _)⟩)
  dsimp only [Pt.U, Pt.locs, Pt.cells, Pt.slots] at X7 l7 y7 z7 st7 hQ7
  subst l7 y7 z7
  obtain ⟨rfl, Nq7, kh7⟩ := hQ7
  have N7 := Fr.app N6 Nq7
  obtain ⟨_, _, ⟨T8, L8, k8, n8⟩, -, X8, ⟨Lc8, hQ8, l8, y8, z8⟩, st8⟩ := Jvm.LawKit.callS X7 hx (y := (⟨"java/lang/Math", "max", "(II)I"⟩ : MethodName)) hown (mvT hZ (hw _ (List.mem_of_getElem? (i := 10) rfl))) (mvT hZ (hw _ (List.mem_of_getElem? (i := 11) rfl))) (mvT hZ (hw _ (List.mem_of_getElem? (i := 8) rfl))) (mvT hZ (hw _ (List.mem_of_getElem? (i := 12) rfl))) (by decide) (backOf (W := 0) (maxR l Z a0 hw [] (minI x y) (minI (maxI x y) z) h0 n0 (Nat.le_trans Z0 (Keep.refl h0 []).1) ) hZ (hw _ (List.mem_of_getElem? (i := 12) rfl)) (hw _ (List.mem_of_getElem? (i := 8) rfl)) (by decide) (by decide)) (g := (mkF m 36 #[.val (.int (3 : Int32)), .val (.int x), .val (.int y), .val (.int z), .val (.int (minI x (minI y z))), .val (.int (maxI x (maxI y z))), .unset, .unset] [(.int (minI (maxI x y) z)), (.int (minI x y))])) rfl (by rw [hml]; rfl) (argsL := [(.int (minI x y)), (.int (minI (maxI x y) z))]) (rest := []) (lenOf pd_0 rfl) rfl (by show 2 * 0 + _ ≤ _; exact Nat.le_of_eq rfl) (hb hby d3_36) (fun _ _ => ⟨rfl, kh7, (by decide : 0 + 0 ≤ _), (by decide : 0 + 0 ≤ _)⟩)
  dsimp only [Pt.U, Pt.locs, Pt.cells, Pt.slots] at X8 l8 y8 z8 st8 hQ8
  subst l8 y8 z8
  obtain ⟨rfl, Nq8, kh8⟩ := hQ8
  have N8 := Fr.app N7 Nq8
  obtain ⟨T9, h9, k9, X9, e9, E9, A9, st9⟩ := newP X8 hx hZ (hw _ (List.mem_of_getElem? (i := 13) rfl)) kh8 (g := (mkF m 42 #[.val (.int (3 : Int32)), .val (.int x), .val (.int y), .val (.int z), .val (.int (minI x (minI y z))), .val (.int (maxI x (maxI y z))), .val (.int (maxI (minI x y) (minI (maxI x y) z))), .unset] [(.int (3 : Int32))])) rfl (hb hby d3_42) rfl (by decide) (cap := 3) (by decide) (by decide) (by decide) (by decide)
  obtain ⟨b9, gz9⟩ : ∃ z, z = h0.size := ⟨_, rfl⟩
  rw [← gz9] at A9 st9
  have sz_b9 : h0.size ≤ b9 := Nat.le_trans (Keep.refl h0 []).1 (Nat.le_of_eq gz9.symm)
  have g_b9 : n0 ≤ b9 := Nat.le_trans Z0 sz_b9
  have K9 : Keep h0 h9 [] := (Keep.refl h0 []).ext E9
  have V9 : Arv Z h9 b9 k9 .int (3 : Int32) [(.int (0 : Int32)), (.int (0 : Int32)), (.int (0 : Int32))] (.int (0 : Int32)) := (Arv.new A9 (by decide)).pad (pad_rep [] (.int (0 : Int32)) 3)
  obtain ⟨cl10, Ar10, q10, Sz10, Ng10, Hs10, Gs10⟩ := (id V9)
  have hin10 : ¬ ((0 : Int32) < 0 ∨ cl10.slots.size ≤ ((0 : Int32)).toNatClampNeg) := inb_of Sz10 ⟨by decide, by decide⟩
  obtain ⟨T10, h10, X10, e10, W10, st10⟩ := stI X9 hx hZ e9 Ar10 (j := (0 : Int32)) hin10 (g := (mkF m 55 #[.val (.int (3 : Int32)), .val (.int x), .val (.int y), .val (.int z), .val (.int (minI x (minI y z))), .val (.int (maxI x (maxI y z))), .val (.int (maxI (minI x y) (minI (maxI x y) z))), .val (.ref b9)] [(.int (minI x (minI y z))), (.int (0 : Int32)), (.ref b9)])) rfl rfl (hb hby d3_55)
  have V10 := Arv.set Ar10 q10 Sz10 Ng10 Hs10 Gs10 rfl W10 0 rfl (Nat.le_of_ble_eq_true rfl)
  have K10 : Keep h0 h10 [] := K9.wr W10 (Or.inr sz_b9)
  have N10 := Fr.snoc X10 N8 g_b9
  have V10 : Arv Z h10 b9 k9 .int (3 : Int32) [(.int (minI x (minI y z))), (.int (0 : Int32)), (.int (0 : Int32))] (.int (0 : Int32)) := V10
  obtain ⟨cl11, Ar11, q11, Sz11, Ng11, Hs11, Gs11⟩ := (id V10)
  have hin11 : ¬ ((1 : Int32) < 0 ∨ cl11.slots.size ≤ ((1 : Int32)).toNatClampNeg) := inb_of Sz11 ⟨by decide, by decide⟩
  obtain ⟨T11, h11, X11, e11, W11, st11⟩ := stI X10 hx hZ e10 Ar11 (j := (1 : Int32)) hin11 (g := (mkF m 66 #[.val (.int (3 : Int32)), .val (.int x), .val (.int y), .val (.int z), .val (.int (minI x (minI y z))), .val (.int (maxI x (maxI y z))), .val (.int (maxI (minI x y) (minI (maxI x y) z))), .val (.ref b9)] [(.int (maxI (minI x y) (minI (maxI x y) z))), (.int (1 : Int32)), (.ref b9)])) rfl rfl (hb hby d3_66)
  have V11 := Arv.set Ar11 q11 Sz11 Ng11 Hs11 Gs11 rfl W11 1 rfl (Nat.le_of_ble_eq_true rfl)
  have K11 : Keep h0 h11 [] := K10.wr W11 (Or.inr sz_b9)
  have N11 := Fr.snoc X11 N10 g_b9
  have V11 : Arv Z h11 b9 k9 .int (3 : Int32) [(.int (minI x (minI y z))), (.int (maxI (minI x y) (minI (maxI x y) z))), (.int (0 : Int32))] (.int (0 : Int32)) := V11
  obtain ⟨cl12, Ar12, q12, Sz12, Ng12, Hs12, Gs12⟩ := (id V11)
  have hin12 : ¬ ((2 : Int32) < 0 ∨ cl12.slots.size ≤ ((2 : Int32)).toNatClampNeg) := inb_of Sz12 ⟨by decide, by decide⟩
  obtain ⟨T12, h12, X12, e12, W12, st12⟩ := stI X11 hx hZ e11 Ar12 (j := (2 : Int32)) hin12 (g := (mkF m 77 #[.val (.int (3 : Int32)), .val (.int x), .val (.int y), .val (.int z), .val (.int (minI x (minI y z))), .val (.int (maxI x (maxI y z))), .val (.int (maxI (minI x y) (minI (maxI x y) z))), .val (.ref b9)] [(.int (maxI x (maxI y z))), (.int (2 : Int32)), (.ref b9)])) rfl rfl (hb hby d3_77)
  have V12 := Arv.set Ar12 q12 Sz12 Ng12 Hs12 Gs12 rfl W12 2 rfl (Nat.le_of_ble_eq_true rfl)
  have K12 : Keep h0 h12 [] := K11.wr W12 (Or.inr sz_b9)
  have N12 := Fr.snoc X12 N11 g_b9
  have V12 : Arv Z h12 b9 k9 .int (3 : Int32) [(.int (minI x (minI y z))), (.int (maxI (minI x y) (minI (maxI x y) z))), (.int (maxI x (maxI y z)))] (.int (0 : Int32)) := V12
  obtain ⟨fs, hr, hrun, hended, hW, hsame⟩ := X12.leave (v := some (.ref b9)) (fun h => by rw [Bd.returns] at h; cases h)
  refine ⟨_, _, pre0 _ ?_, hrun, hended, _, _, rfl, ?_, ⟨_, rfl⟩, hW, hsame.mono (by decide) (by decide)⟩
  · show Steps p.tables e below (s₁.setTop (mkF m 0 #[.val (.int (3 : Int32)), .val (.int x), .val (.int y), .val (.int z), .unset, .unset, .unset, .unset] [])) _
    refine XS.iloadN X0.here hx rfl (hb hby d3_0) rfl ?_
    show Steps p.tables e below (s₁.setTop (mkF m 1 #[.val (.int (3 : Int32)), .val (.int x), .val (.int y), .val (.int z), .unset, .unset, .unset, .unset] [(.int x)])) _
    refine XS.iloadN X0.here hx rfl (hb hby d3_1) rfl ?_
    show Steps p.tables e below (s₁.setTop (mkF m 2 #[.val (.int (3 : Int32)), .val (.int x), .val (.int y), .val (.int z), .unset, .unset, .unset, .unset] [(.int y), (.int x)])) _
    refine XS.iloadN X0.here hx rfl (hb hby d3_2) rfl ?_
    show Steps p.tables e below (s₁.setTop (mkF m 3 #[.val (.int (3 : Int32)), .val (.int x), .val (.int y), .val (.int z), .unset, .unset, .unset, .unset] [(.int z), (.int y), (.int x)])) _
    refine st1 _ ?_
    show Steps p.tables e below (T1.setTop (mkF m 6 #[.val (.int (3 : Int32)), .val (.int x), .val (.int y), .val (.int z), .unset, .unset, .unset, .unset] [(.int (minI y z)), (.int x)])) _
    refine st2 _ ?_
    show Steps p.tables e below (T2.setTop (mkF m 9 #[.val (.int (3 : Int32)), .val (.int x), .val (.int y), .val (.int z), .unset, .unset, .unset, .unset] [(.int (minI x (minI y z)))])) _
    refine XS.istore X2.here hx rfl (hb hby d3_9) rfl (l' := #[.val (.int (3 : Int32)), .val (.int x), .val (.int y), .val (.int z), .val (.int (minI x (minI y z))), .unset, .unset, .unset]) rfl ?_
    show Steps p.tables e below (T2.setTop (mkF m 11 #[.val (.int (3 : Int32)), .val (.int x), .val (.int y), .val (.int z), .val (.int (minI x (minI y z))), .unset, .unset, .unset] [])) _
    refine XS.iloadN X2.here hx rfl (hb hby d3_11) rfl ?_
    show Steps p.tables e below (T2.setTop (mkF m 12 #[.val (.int (3 : Int32)), .val (.int x), .val (.int y), .val (.int z), .val (.int (minI x (minI y z))), .unset, .unset, .unset] [(.int x)])) _
    refine XS.iloadN X2.here hx rfl (hb hby d3_12) rfl ?_
    show Steps p.tables e below (T2.setTop (mkF m 13 #[.val (.int (3 : Int32)), .val (.int x), .val (.int y), .val (.int z), .val (.int (minI x (minI y z))), .unset, .unset, .unset] [(.int y), (.int x)])) _
    refine XS.iloadN X2.here hx rfl (hb hby d3_13) rfl ?_
    show Steps p.tables e below (T2.setTop (mkF m 14 #[.val (.int (3 : Int32)), .val (.int x), .val (.int y), .val (.int z), .val (.int (minI x (minI y z))), .unset, .unset, .unset] [(.int z), (.int y), (.int x)])) _
    refine st3 _ ?_
    show Steps p.tables e below (T3.setTop (mkF m 17 #[.val (.int (3 : Int32)), .val (.int x), .val (.int y), .val (.int z), .val (.int (minI x (minI y z))), .unset, .unset, .unset] [(.int (maxI y z)), (.int x)])) _
    refine st4 _ ?_
    show Steps p.tables e below (T4.setTop (mkF m 20 #[.val (.int (3 : Int32)), .val (.int x), .val (.int y), .val (.int z), .val (.int (minI x (minI y z))), .unset, .unset, .unset] [(.int (maxI x (maxI y z)))])) _
    refine XS.istore X4.here hx rfl (hb hby d3_20) rfl (l' := #[.val (.int (3 : Int32)), .val (.int x), .val (.int y), .val (.int z), .val (.int (minI x (minI y z))), .val (.int (maxI x (maxI y z))), .unset, .unset]) rfl ?_
    show Steps p.tables e below (T4.setTop (mkF m 22 #[.val (.int (3 : Int32)), .val (.int x), .val (.int y), .val (.int z), .val (.int (minI x (minI y z))), .val (.int (maxI x (maxI y z))), .unset, .unset] [])) _
    refine XS.iloadN X4.here hx rfl (hb hby d3_22) rfl ?_
    show Steps p.tables e below (T4.setTop (mkF m 23 #[.val (.int (3 : Int32)), .val (.int x), .val (.int y), .val (.int z), .val (.int (minI x (minI y z))), .val (.int (maxI x (maxI y z))), .unset, .unset] [(.int x)])) _
    refine XS.iloadN X4.here hx rfl (hb hby d3_23) rfl ?_
    show Steps p.tables e below (T4.setTop (mkF m 24 #[.val (.int (3 : Int32)), .val (.int x), .val (.int y), .val (.int z), .val (.int (minI x (minI y z))), .val (.int (maxI x (maxI y z))), .unset, .unset] [(.int y), (.int x)])) _
    refine st5 _ ?_
    show Steps p.tables e below (T5.setTop (mkF m 27 #[.val (.int (3 : Int32)), .val (.int x), .val (.int y), .val (.int z), .val (.int (minI x (minI y z))), .val (.int (maxI x (maxI y z))), .unset, .unset] [(.int (minI x y))])) _
    refine XS.iloadN X5.here hx rfl (hb hby d3_27) rfl ?_
    show Steps p.tables e below (T5.setTop (mkF m 28 #[.val (.int (3 : Int32)), .val (.int x), .val (.int y), .val (.int z), .val (.int (minI x (minI y z))), .val (.int (maxI x (maxI y z))), .unset, .unset] [(.int x), (.int (minI x y))])) _
    refine XS.iloadN X5.here hx rfl (hb hby d3_28) rfl ?_
    show Steps p.tables e below (T5.setTop (mkF m 29 #[.val (.int (3 : Int32)), .val (.int x), .val (.int y), .val (.int z), .val (.int (minI x (minI y z))), .val (.int (maxI x (maxI y z))), .unset, .unset] [(.int y), (.int x), (.int (minI x y))])) _
    refine st6 _ ?_
    show Steps p.tables e below (T6.setTop (mkF m 32 #[.val (.int (3 : Int32)), .val (.int x), .val (.int y), .val (.int z), .val (.int (minI x (minI y z))), .val (.int (maxI x (maxI y z))), .unset, .unset] [(.int (maxI x y)), (.int (minI x y))])) _
    refine XS.iloadN X6.here hx rfl (hb hby d3_32) rfl ?_
    show Steps p.tables e below (T6.setTop (mkF m 33 #[.val (.int (3 : Int32)), .val (.int x), .val (.int y), .val (.int z), .val (.int (minI x (minI y z))), .val (.int (maxI x (maxI y z))), .unset, .unset] [(.int z), (.int (maxI x y)), (.int (minI x y))])) _
    refine st7 _ ?_
    show Steps p.tables e below (T7.setTop (mkF m 36 #[.val (.int (3 : Int32)), .val (.int x), .val (.int y), .val (.int z), .val (.int (minI x (minI y z))), .val (.int (maxI x (maxI y z))), .unset, .unset] [(.int (minI (maxI x y) z)), (.int (minI x y))])) _
    refine st8 _ ?_
    show Steps p.tables e below (T8.setTop (mkF m 39 #[.val (.int (3 : Int32)), .val (.int x), .val (.int y), .val (.int z), .val (.int (minI x (minI y z))), .val (.int (maxI x (maxI y z))), .unset, .unset] [(.int (maxI (minI x y) (minI (maxI x y) z)))])) _
    refine XS.istore X8.here hx rfl (hb hby d3_39) rfl (l' := #[.val (.int (3 : Int32)), .val (.int x), .val (.int y), .val (.int z), .val (.int (minI x (minI y z))), .val (.int (maxI x (maxI y z))), .val (.int (maxI (minI x y) (minI (maxI x y) z))), .unset]) rfl ?_
    show Steps p.tables e below (T8.setTop (mkF m 41 #[.val (.int (3 : Int32)), .val (.int x), .val (.int y), .val (.int z), .val (.int (minI x (minI y z))), .val (.int (maxI x (maxI y z))), .val (.int (maxI (minI x y) (minI (maxI x y) z))), .unset] [])) _
    refine XS.iloadN X8.here hx rfl (hb hby d3_41) rfl ?_
    show Steps p.tables e below (T8.setTop (mkF m 42 #[.val (.int (3 : Int32)), .val (.int x), .val (.int y), .val (.int z), .val (.int (minI x (minI y z))), .val (.int (maxI x (maxI y z))), .val (.int (maxI (minI x y) (minI (maxI x y) z))), .unset] [(.int (3 : Int32))])) _
    refine st9 _ ?_
    show Steps p.tables e below (T9.setTop (mkF m 44 #[.val (.int (3 : Int32)), .val (.int x), .val (.int y), .val (.int z), .val (.int (minI x (minI y z))), .val (.int (maxI x (maxI y z))), .val (.int (maxI (minI x y) (minI (maxI x y) z))), .unset] [(.ref b9)])) _
    refine XS.astore X9.here hx rfl (hb hby d3_44) rfl rfl (l' := #[.val (.int (3 : Int32)), .val (.int x), .val (.int y), .val (.int z), .val (.int (minI x (minI y z))), .val (.int (maxI x (maxI y z))), .val (.int (maxI (minI x y) (minI (maxI x y) z))), .val (.ref b9)]) rfl ?_
    show Steps p.tables e below (T9.setTop (mkF m 46 #[.val (.int (3 : Int32)), .val (.int x), .val (.int y), .val (.int z), .val (.int (minI x (minI y z))), .val (.int (maxI x (maxI y z))), .val (.int (maxI (minI x y) (minI (maxI x y) z))), .val (.ref b9)] [])) _
    refine XS.iloadN X9.here hx rfl (hb hby d3_46) rfl ?_
    show Steps p.tables e below (T9.setTop (mkF m 47 #[.val (.int (3 : Int32)), .val (.int x), .val (.int y), .val (.int z), .val (.int (minI x (minI y z))), .val (.int (maxI x (maxI y z))), .val (.int (maxI (minI x y) (minI (maxI x y) z))), .val (.ref b9)] [(.int (3 : Int32))])) _
    refine XS.ifNo X9.here hx rfl (hb hby d3_47) rfl ((if0 _ _).trans (tlt (by decide : (0 : Int32) < (3 : Int32))).2.2.2) ?_
    show Steps p.tables e below (T9.setTop (mkF m 50 #[.val (.int (3 : Int32)), .val (.int x), .val (.int y), .val (.int z), .val (.int (minI x (minI y z))), .val (.int (maxI x (maxI y z))), .val (.int (maxI (minI x y) (minI (maxI x y) z))), .val (.ref b9)] [])) _
    refine XS.aload X9.here hx rfl (hb hby d3_50) rfl rfl ?_
    show Steps p.tables e below (T9.setTop (mkF m 52 #[.val (.int (3 : Int32)), .val (.int x), .val (.int y), .val (.int z), .val (.int (minI x (minI y z))), .val (.int (maxI x (maxI y z))), .val (.int (maxI (minI x y) (minI (maxI x y) z))), .val (.ref b9)] [(.ref b9)])) _
    refine XS.iconst X9.here hx rfl (hb hby d3_52) ?_
    show Steps p.tables e below (T9.setTop (mkF m 53 #[.val (.int (3 : Int32)), .val (.int x), .val (.int y), .val (.int z), .val (.int (minI x (minI y z))), .val (.int (maxI x (maxI y z))), .val (.int (maxI (minI x y) (minI (maxI x y) z))), .val (.ref b9)] [(.int (0 : Int32)), (.ref b9)])) _
    refine XS.iload X9.here hx rfl (hb hby d3_53) rfl ?_
    show Steps p.tables e below (T9.setTop (mkF m 55 #[.val (.int (3 : Int32)), .val (.int x), .val (.int y), .val (.int z), .val (.int (minI x (minI y z))), .val (.int (maxI x (maxI y z))), .val (.int (maxI (minI x y) (minI (maxI x y) z))), .val (.ref b9)] [(.int (minI x (minI y z))), (.int (0 : Int32)), (.ref b9)])) _
    refine st10 _ ?_
    show Steps p.tables e below (T10.setTop (mkF m 56 #[.val (.int (3 : Int32)), .val (.int x), .val (.int y), .val (.int z), .val (.int (minI x (minI y z))), .val (.int (maxI x (maxI y z))), .val (.int (maxI (minI x y) (minI (maxI x y) z))), .val (.ref b9)] [])) _
    refine XS.iloadN X10.here hx rfl (hb hby d3_56) rfl ?_
    show Steps p.tables e below (T10.setTop (mkF m 57 #[.val (.int (3 : Int32)), .val (.int x), .val (.int y), .val (.int z), .val (.int (minI x (minI y z))), .val (.int (maxI x (maxI y z))), .val (.int (maxI (minI x y) (minI (maxI x y) z))), .val (.ref b9)] [(.int (3 : Int32))])) _
    refine XS.iconst X10.here hx rfl (hb hby d3_57) ?_
    show Steps p.tables e below (T10.setTop (mkF m 58 #[.val (.int (3 : Int32)), .val (.int x), .val (.int y), .val (.int z), .val (.int (minI x (minI y z))), .val (.int (maxI x (maxI y z))), .val (.int (maxI (minI x y) (minI (maxI x y) z))), .val (.ref b9)] [(.int (1 : Int32)), (.int (3 : Int32))])) _
    refine XS.icmpNo X10.here hx rfl (hb hby d3_58) rfl (tlt (by decide : (1 : Int32) < (3 : Int32))).2.2.2 ?_
    show Steps p.tables e below (T10.setTop (mkF m 61 #[.val (.int (3 : Int32)), .val (.int x), .val (.int y), .val (.int z), .val (.int (minI x (minI y z))), .val (.int (maxI x (maxI y z))), .val (.int (maxI (minI x y) (minI (maxI x y) z))), .val (.ref b9)] [])) _
    refine XS.aload X10.here hx rfl (hb hby d3_61) rfl rfl ?_
    show Steps p.tables e below (T10.setTop (mkF m 63 #[.val (.int (3 : Int32)), .val (.int x), .val (.int y), .val (.int z), .val (.int (minI x (minI y z))), .val (.int (maxI x (maxI y z))), .val (.int (maxI (minI x y) (minI (maxI x y) z))), .val (.ref b9)] [(.ref b9)])) _
    refine XS.iconst X10.here hx rfl (hb hby d3_63) ?_
    show Steps p.tables e below (T10.setTop (mkF m 64 #[.val (.int (3 : Int32)), .val (.int x), .val (.int y), .val (.int z), .val (.int (minI x (minI y z))), .val (.int (maxI x (maxI y z))), .val (.int (maxI (minI x y) (minI (maxI x y) z))), .val (.ref b9)] [(.int (1 : Int32)), (.ref b9)])) _
    refine XS.iload X10.here hx rfl (hb hby d3_64) rfl ?_
    show Steps p.tables e below (T10.setTop (mkF m 66 #[.val (.int (3 : Int32)), .val (.int x), .val (.int y), .val (.int z), .val (.int (minI x (minI y z))), .val (.int (maxI x (maxI y z))), .val (.int (maxI (minI x y) (minI (maxI x y) z))), .val (.ref b9)] [(.int (maxI (minI x y) (minI (maxI x y) z))), (.int (1 : Int32)), (.ref b9)])) _
    refine st11 _ ?_
    show Steps p.tables e below (T11.setTop (mkF m 67 #[.val (.int (3 : Int32)), .val (.int x), .val (.int y), .val (.int z), .val (.int (minI x (minI y z))), .val (.int (maxI x (maxI y z))), .val (.int (maxI (minI x y) (minI (maxI x y) z))), .val (.ref b9)] [])) _
    refine XS.iloadN X11.here hx rfl (hb hby d3_67) rfl ?_
    show Steps p.tables e below (T11.setTop (mkF m 68 #[.val (.int (3 : Int32)), .val (.int x), .val (.int y), .val (.int z), .val (.int (minI x (minI y z))), .val (.int (maxI x (maxI y z))), .val (.int (maxI (minI x y) (minI (maxI x y) z))), .val (.ref b9)] [(.int (3 : Int32))])) _
    refine XS.iconst X11.here hx rfl (hb hby d3_68) ?_
    show Steps p.tables e below (T11.setTop (mkF m 69 #[.val (.int (3 : Int32)), .val (.int x), .val (.int y), .val (.int z), .val (.int (minI x (minI y z))), .val (.int (maxI x (maxI y z))), .val (.int (maxI (minI x y) (minI (maxI x y) z))), .val (.ref b9)] [(.int (2 : Int32)), (.int (3 : Int32))])) _
    refine XS.icmpNo X11.here hx rfl (hb hby d3_69) rfl (tlt (by decide : (2 : Int32) < (3 : Int32))).2.2.2 ?_
    show Steps p.tables e below (T11.setTop (mkF m 72 #[.val (.int (3 : Int32)), .val (.int x), .val (.int y), .val (.int z), .val (.int (minI x (minI y z))), .val (.int (maxI x (maxI y z))), .val (.int (maxI (minI x y) (minI (maxI x y) z))), .val (.ref b9)] [])) _
    refine XS.aload X11.here hx rfl (hb hby d3_72) rfl rfl ?_
    show Steps p.tables e below (T11.setTop (mkF m 74 #[.val (.int (3 : Int32)), .val (.int x), .val (.int y), .val (.int z), .val (.int (minI x (minI y z))), .val (.int (maxI x (maxI y z))), .val (.int (maxI (minI x y) (minI (maxI x y) z))), .val (.ref b9)] [(.ref b9)])) _
    refine XS.iconst X11.here hx rfl (hb hby d3_74) ?_
    show Steps p.tables e below (T11.setTop (mkF m 75 #[.val (.int (3 : Int32)), .val (.int x), .val (.int y), .val (.int z), .val (.int (minI x (minI y z))), .val (.int (maxI x (maxI y z))), .val (.int (maxI (minI x y) (minI (maxI x y) z))), .val (.ref b9)] [(.int (2 : Int32)), (.ref b9)])) _
    refine XS.iload X11.here hx rfl (hb hby d3_75) rfl ?_
    show Steps p.tables e below (T11.setTop (mkF m 77 #[.val (.int (3 : Int32)), .val (.int x), .val (.int y), .val (.int z), .val (.int (minI x (minI y z))), .val (.int (maxI x (maxI y z))), .val (.int (maxI (minI x y) (minI (maxI x y) z))), .val (.ref b9)] [(.int (maxI x (maxI y z))), (.int (2 : Int32)), (.ref b9)])) _
    refine st12 _ ?_
    show Steps p.tables e below (T12.setTop (mkF m 78 #[.val (.int (3 : Int32)), .val (.int x), .val (.int y), .val (.int z), .val (.int (minI x (minI y z))), .val (.int (maxI x (maxI y z))), .val (.int (maxI (minI x y) (minI (maxI x y) z))), .val (.ref b9)] [])) _
    refine XS.aload X12.here hx rfl (hb hby d3_78) rfl rfl ?_
    show Steps p.tables e below (T12.setTop (mkF m 80 #[.val (.int (3 : Int32)), .val (.int x), .val (.int y), .val (.int z), .val (.int (minI x (minI y z))), .val (.int (maxI x (maxI y z))), .val (.int (maxI (minI x y) (minI (maxI x y) z))), .val (.ref b9)] [(.ref b9)])) _
    jvm_step X12.here [X12.here.top, hx, (hb hby d3_80), X12.method', Bd.returns, Value.isRef, FieldType.isReference]
    first | (intro acts; rw [hr _ acts rfl rfl rfl]) | rw [hr _ _ rfl rfl rfl]
    exact Steps.refl _
  · show Q_take3 Z x y z f h0 n0 _ T12.heap _
    rw [e12]
    exact ⟨b9, rfl, N12, K12, sz_b9, (ArF.of V12 (fun i hi => by rw [← hf]; match i, hi with | 0, _ => rfl | 1, _ => rfl | 2, _ => rfl))⟩
def Q_take (Z : State) (n : Int32) (x : Int32) (y : Int32) (z : Int32) (f : Nat → Int32) (h0 : Heap) (n0 : Nat) (v : Option Value) (h : Heap) (L : List Loc) : Prop := ∃ r : Addr, v = some (.ref r) ∧ Fr n0 L ∧ Keep h0 h [] ∧ h0.size ≤ r ∧ ArF Z h r n f
set_option maxRecDepth 65536 in
set_option maxHeartbeats 40000000 in
theorem take (l : Launch) (Z : State) (a0 : Array Value) (hw : ∀ d ∈ tables_1, d.before a0 Z = true) (ws : List Jvm.Cond) (n : Int32) (x : Int32) (y : Int32) (z : Int32) (f : Nat → Int32) (h0 : Heap) (n0 : Nat) (Z0 : n0 ≤ h0.size) (hn : n = 0 ∨ n = 1 ∨ n = 2 ∨ n = 3) (hf : pick3 (s0V x y z) (s1V x y z) (s2V x y z) = f) :
    MetFree l (⟨"com/example/recital/recital/document/WordsLikenessPinLaw", "sortedTake", "(IIII)[I"⟩ : MethodName) (head1 (Jvm.Cond.code (⟨"com/example/recital/recital/document/WordsLikenessPinLaw", "sortedTake", "(IIII)[I"⟩ : MethodName) method_4_code 8 (some (.array .int)) :: ws) ({ frames := 1, cells := 1, slots := 3, locals := 15 } : Room)) (fun zA zU => zA = #[(.int n), (.int x), (.int y), (.int z)] ∧ Z.Warmed39 zU.vm ∧ zU.heap = h0) (fun _ _ _ _ _ => True) (fun _ zU zo zU' => ∃ zv zL, zo = .returned zv ∧ Q_take Z n x y z f h0 n0 zv zU'.heap zL ∧ FrameEnd zU zo zU' zL ({ frames := 1, cells := 1, slots := 3, locals := 15 } : Room).cells ({ frames := 1, cells := 1, slots := 3, locals := 15 } : Room).slots) := by
  rcases hn with rfl | rfl | rfl | rfl
  · exact take0 l Z a0 hw ws x y z f h0 n0 Z0 hf
  · exact take1 l Z a0 hw ws x y z f h0 n0 Z0 hf
  · exact take2 l Z a0 hw ws x y z f h0 n0 Z0 hf
  · exact take3 l Z a0 hw ws x y z f h0 n0 Z0 hf
def Q_eqR (Z : State) (a : Addr) (i : Int32) (b : Addr) (j : Int32) (nn : Int32) (mm : Int32) (f : Nat → Int32) (g : Nat → Int32) (h0 : Heap) (n0 : Nat) (v : Option Value) (h : Heap) (L : List Loc) : Prop := v = some (.int (eqF nn mm f g i j)) ∧ Fr n0 L ∧ h = h0
theorem d5_0 : decode method_3_code 0 = .ok (.iload_n 1, 1) := by decide +kernel
theorem d5_1 : decode method_3_code 1 = .ok (.aload_n 0, 1) := by decide +kernel
theorem d5_2 : decode method_3_code 2 = .ok (.arraylength, 1) := by decide +kernel
theorem d5_3 : decode method_3_code 3 = .ok (.if_icmp .ge 20, 3) := by decide +kernel
theorem d5_23 : decode method_3_code 23 = .ok (.iconst 0, 1) := by decide +kernel
theorem d5_24 : decode method_3_code 24 = .ok (.ireturn, 1) := by decide +kernel
theorem ef_5_RIRI (m : MethodId) (x0 : Addr) (x1 : Int32) (x2 : Addr) (x3 : Int32) : entryFrame m #[(.ref x0), (.int x1), (.ref x2), (.int x3)] 4 = mkF m 0 #[.val (.ref x0), .val (.int x1), .val (.ref x2), .val (.int x3)] [] := by first | (simp [entryFrame, mkF, argsToLocals, Value.category]; done) | rfl
set_option maxRecDepth 65536 in
set_option maxHeartbeats 40000000 in
theorem eqR_1 (l : Launch) (Z : State) (a0 : Array Value) (hw : ∀ d ∈ tables_1, d.before a0 Z = true) (ws : List Jvm.Cond) (a : Addr) (i : Int32) (b : Addr) (j : Int32) (nn : Int32) (mm : Int32) (f : Nat → Int32) (g : Nat → Int32) (h0 : Heap) (n0 : Nat) (Z0 : n0 ≤ h0.size) (P0 : ArF Z h0 a nn f) (P1 : ArF Z h0 b mm g) (hi : ¬ i < 0) (hj : ¬ j < 0) (hc3 : ¬ (i < nn)) :
    MetFree l (⟨"com/example/recital/recital/document/WordsLikenessPinLaw", "eq", "([II[II)I"⟩ : MethodName) (head1 (Jvm.Cond.code (⟨"com/example/recital/recital/document/WordsLikenessPinLaw", "eq", "([II[II)I"⟩ : MethodName) method_3_code 4 (some .int) :: ws) ({ frames := 0, cells := 0, slots := 0, locals := 0 } : Room)) (fun zA zU => zA = #[(.ref a), (.int i), (.ref b), (.int j)] ∧ Z.Warmed39 zU.vm ∧ zU.heap = h0) (fun _ _ _ _ _ => True) (fun _ zU zo zU' => ∃ zv zL, zo = .returned zv ∧ Q_eqR Z a i b j nn mm f g h0 n0 zv zU'.heap zL ∧ FrameEnd zU zo zU' zL ({ frames := 0, cells := 0, slots := 0, locals := 0 } : Room).cells ({ frames := 0, cells := 0, slots := 0, locals := 0 } : Room).slots) := by
  refine MetFree.of_bodySF (plainFor_of_name pn_4) hisR ?_
  intro p e s m args below meth c s₁ Bd hml0 hP hK
  obtain ⟨rfl, hZ, hh⟩ := hP
  have hx := Bd.exec
  have hby := Bd.bytes
  have hml : c.maxLocals = 4 := hml0
  have hown : s.vm.findClass "com/example/recital/recital/document/WordsLikenessPinLaw" = some m.cls := findClass_of_methodNamed Bd.named
  have hnm := (name_of_methodNamed Bd.named Bd.method).1
  have X0 : Stand p l e ({ frames := 0, cells := 0, slots := 0, locals := 0 } : Room) s m #[(.ref a), (.int i), (.ref b), (.int j)] below meth c s₁ [] 0 0 := Stand.of_body Bd
  have e0 : s₁.heap = h0 := by rw [← hh, Bd.state]; rfl
  have N0 := Fr.nil n0
  have pre0 : ∀ zt, Steps p.tables e below (s₁.setTop (mkF m 0 #[.val (.ref a), .val (.int i), .val (.ref b), .val (.int j)] [])) zt → Steps p.tables e below (s₁.setTop (entryFrame m #[(.ref a), (.int i), (.ref b), (.int j)] 4)) zt := fun zt zk => castTop (ef_5_RIRI m a i b j) zk
  obtain ⟨cl1, Ar1, Sz1, Ng1, -⟩ := (id P0)
  obtain ⟨fs, hr, hrun, hended, hW, hsame⟩ := X0.leave (v := some (.int (0 : Int32))) (fun h => by rw [Bd.returns] at h; cases h)
  refine ⟨_, _, pre0 _ ?_, hrun, hended, _, _, rfl, ?_, ⟨_, rfl⟩, hW, hsame.mono (by decide) (by decide)⟩
  · show Steps p.tables e below (s₁.setTop (mkF m 0 #[.val (.ref a), .val (.int i), .val (.ref b), .val (.int j)] [])) _
    refine XS.iloadN X0.here hx rfl (hb hby d5_0) rfl ?_
    show Steps p.tables e below (s₁.setTop (mkF m 1 #[.val (.ref a), .val (.int i), .val (.ref b), .val (.int j)] [(.int i)])) _
    refine XS.aloadN X0.here hx rfl (hb hby d5_1) rfl rfl ?_
    show Steps p.tables e below (s₁.setTop (mkF m 2 #[.val (.ref a), .val (.int i), .val (.ref b), .val (.int j)] [(.ref a), (.int i)])) _
    refine X0.arraylength hx (Ar1.at_ e0) (State.isArrayOf_alike hZ.alike Ar1.2.1) (g := (mkF m 2 #[.val (.ref a), .val (.int i), .val (.ref b), .val (.int j)] [(.ref a), (.int i)])) rfl rfl (hb hby d5_2) _ ?_
    rw [len_of Sz1 Ng1]
    show Steps p.tables e below (s₁.setTop (mkF m 3 #[.val (.ref a), .val (.int i), .val (.ref b), .val (.int j)] [(.int nn), (.int i)])) _
    refine XS.icmpYes X0.here hx rfl (pc0 := 3) (pc' := 23) rfl (hb hby d5_3) rfl (flt (hc3 : ¬ (i < nn))).2.1 (by decide) (by decide) ?_
    show Steps p.tables e below (s₁.setTop (mkF m 23 #[.val (.ref a), .val (.int i), .val (.ref b), .val (.int j)] [])) _
    refine XS.iconst X0.here hx rfl (hb hby d5_23) ?_
    show Steps p.tables e below (s₁.setTop (mkF m 24 #[.val (.ref a), .val (.int i), .val (.ref b), .val (.int j)] [(.int (0 : Int32))])) _
    exact retI X0 hx Bd.returns (hb hby d5_24) hr
  · show Q_eqR Z a i b j nn mm f g h0 n0 _ s₁.heap _
    rw [e0]
    exact ⟨by rw [eqF, if_neg hc3], N0, rfl⟩
theorem d5_6 : decode method_3_code 6 = .ok (.iload_n 3, 1) := by decide +kernel
theorem d5_7 : decode method_3_code 7 = .ok (.aload_n 2, 1) := by decide +kernel
theorem d5_8 : decode method_3_code 8 = .ok (.arraylength, 1) := by decide +kernel
theorem d5_9 : decode method_3_code 9 = .ok (.if_icmp .ge 14, 3) := by decide +kernel
set_option maxRecDepth 65536 in
set_option maxHeartbeats 40000000 in
theorem eqR_2 (l : Launch) (Z : State) (a0 : Array Value) (hw : ∀ d ∈ tables_1, d.before a0 Z = true) (ws : List Jvm.Cond) (a : Addr) (i : Int32) (b : Addr) (j : Int32) (nn : Int32) (mm : Int32) (f : Nat → Int32) (g : Nat → Int32) (h0 : Heap) (n0 : Nat) (Z0 : n0 ≤ h0.size) (P0 : ArF Z h0 a nn f) (P1 : ArF Z h0 b mm g) (hi : ¬ i < 0) (hj : ¬ j < 0) (hc3 : i < nn) (hc9 : ¬ (j < mm)) :
    MetFree l (⟨"com/example/recital/recital/document/WordsLikenessPinLaw", "eq", "([II[II)I"⟩ : MethodName) (head1 (Jvm.Cond.code (⟨"com/example/recital/recital/document/WordsLikenessPinLaw", "eq", "([II[II)I"⟩ : MethodName) method_3_code 4 (some .int) :: ws) ({ frames := 0, cells := 0, slots := 0, locals := 0 } : Room)) (fun zA zU => zA = #[(.ref a), (.int i), (.ref b), (.int j)] ∧ Z.Warmed39 zU.vm ∧ zU.heap = h0) (fun _ _ _ _ _ => True) (fun _ zU zo zU' => ∃ zv zL, zo = .returned zv ∧ Q_eqR Z a i b j nn mm f g h0 n0 zv zU'.heap zL ∧ FrameEnd zU zo zU' zL ({ frames := 0, cells := 0, slots := 0, locals := 0 } : Room).cells ({ frames := 0, cells := 0, slots := 0, locals := 0 } : Room).slots) := by
  refine MetFree.of_bodySF (plainFor_of_name pn_4) hisR ?_
  intro p e s m args below meth c s₁ Bd hml0 hP hK
  obtain ⟨rfl, hZ, hh⟩ := hP
  have hx := Bd.exec
  have hby := Bd.bytes
  have hml : c.maxLocals = 4 := hml0
  have hown : s.vm.findClass "com/example/recital/recital/document/WordsLikenessPinLaw" = some m.cls := findClass_of_methodNamed Bd.named
  have hnm := (name_of_methodNamed Bd.named Bd.method).1
  have X0 : Stand p l e ({ frames := 0, cells := 0, slots := 0, locals := 0 } : Room) s m #[(.ref a), (.int i), (.ref b), (.int j)] below meth c s₁ [] 0 0 := Stand.of_body Bd
  have e0 : s₁.heap = h0 := by rw [← hh, Bd.state]; rfl
  have N0 := Fr.nil n0
  have pre0 : ∀ zt, Steps p.tables e below (s₁.setTop (mkF m 0 #[.val (.ref a), .val (.int i), .val (.ref b), .val (.int j)] [])) zt → Steps p.tables e below (s₁.setTop (entryFrame m #[(.ref a), (.int i), (.ref b), (.int j)] 4)) zt := fun zt zk => castTop (ef_5_RIRI m a i b j) zk
  obtain ⟨cl1, Ar1, Sz1, Ng1, -⟩ := (id P0)
  obtain ⟨cl2, Ar2, Sz2, Ng2, -⟩ := (id P1)
  obtain ⟨fs, hr, hrun, hended, hW, hsame⟩ := X0.leave (v := some (.int (0 : Int32))) (fun h => by rw [Bd.returns] at h; cases h)
  refine ⟨_, _, pre0 _ ?_, hrun, hended, _, _, rfl, ?_, ⟨_, rfl⟩, hW, hsame.mono (by decide) (by decide)⟩
  · show Steps p.tables e below (s₁.setTop (mkF m 0 #[.val (.ref a), .val (.int i), .val (.ref b), .val (.int j)] [])) _
    refine XS.iloadN X0.here hx rfl (hb hby d5_0) rfl ?_
    show Steps p.tables e below (s₁.setTop (mkF m 1 #[.val (.ref a), .val (.int i), .val (.ref b), .val (.int j)] [(.int i)])) _
    refine XS.aloadN X0.here hx rfl (hb hby d5_1) rfl rfl ?_
    show Steps p.tables e below (s₁.setTop (mkF m 2 #[.val (.ref a), .val (.int i), .val (.ref b), .val (.int j)] [(.ref a), (.int i)])) _
    refine X0.arraylength hx (Ar1.at_ e0) (State.isArrayOf_alike hZ.alike Ar1.2.1) (g := (mkF m 2 #[.val (.ref a), .val (.int i), .val (.ref b), .val (.int j)] [(.ref a), (.int i)])) rfl rfl (hb hby d5_2) _ ?_
    rw [len_of Sz1 Ng1]
    show Steps p.tables e below (s₁.setTop (mkF m 3 #[.val (.ref a), .val (.int i), .val (.ref b), .val (.int j)] [(.int nn), (.int i)])) _
    refine XS.icmpNo X0.here hx rfl (hb hby d5_3) rfl (tlt (hc3 : i < nn)).2.1 ?_
    show Steps p.tables e below (s₁.setTop (mkF m 6 #[.val (.ref a), .val (.int i), .val (.ref b), .val (.int j)] [])) _
    refine XS.iloadN X0.here hx rfl (hb hby d5_6) rfl ?_
    show Steps p.tables e below (s₁.setTop (mkF m 7 #[.val (.ref a), .val (.int i), .val (.ref b), .val (.int j)] [(.int j)])) _
    refine XS.aloadN X0.here hx rfl (hb hby d5_7) rfl rfl ?_
    show Steps p.tables e below (s₁.setTop (mkF m 8 #[.val (.ref a), .val (.int i), .val (.ref b), .val (.int j)] [(.ref b), (.int j)])) _
    refine X0.arraylength hx (Ar2.at_ e0) (State.isArrayOf_alike hZ.alike Ar2.2.1) (g := (mkF m 8 #[.val (.ref a), .val (.int i), .val (.ref b), .val (.int j)] [(.ref b), (.int j)])) rfl rfl (hb hby d5_8) _ ?_
    rw [len_of Sz2 Ng2]
    show Steps p.tables e below (s₁.setTop (mkF m 9 #[.val (.ref a), .val (.int i), .val (.ref b), .val (.int j)] [(.int mm), (.int j)])) _
    refine XS.icmpYes X0.here hx rfl (pc0 := 9) (pc' := 23) rfl (hb hby d5_9) rfl (flt (hc9 : ¬ (j < mm))).2.1 (by decide) (by decide) ?_
    show Steps p.tables e below (s₁.setTop (mkF m 23 #[.val (.ref a), .val (.int i), .val (.ref b), .val (.int j)] [])) _
    refine XS.iconst X0.here hx rfl (hb hby d5_23) ?_
    show Steps p.tables e below (s₁.setTop (mkF m 24 #[.val (.ref a), .val (.int i), .val (.ref b), .val (.int j)] [(.int (0 : Int32))])) _
    exact retI X0 hx Bd.returns (hb hby d5_24) hr
  · show Q_eqR Z a i b j nn mm f g h0 n0 _ s₁.heap _
    rw [e0]
    exact ⟨by rw [eqF, if_pos hc3, if_neg hc9], N0, rfl⟩
theorem d5_12 : decode method_3_code 12 = .ok (.aload_n 0, 1) := by decide +kernel
theorem d5_13 : decode method_3_code 13 = .ok (.iload_n 1, 1) := by decide +kernel
theorem d5_14 : decode method_3_code 14 = .ok (.iaload, 1) := by decide +kernel
theorem d5_15 : decode method_3_code 15 = .ok (.aload_n 2, 1) := by decide +kernel
theorem d5_16 : decode method_3_code 16 = .ok (.iload_n 3, 1) := by decide +kernel
theorem d5_17 : decode method_3_code 17 = .ok (.iaload, 1) := by decide +kernel
theorem d5_18 : decode method_3_code 18 = .ok (.if_icmp .ne 5, 3) := by decide +kernel
set_option maxRecDepth 65536 in
set_option maxHeartbeats 40000000 in
theorem eqR_3 (l : Launch) (Z : State) (a0 : Array Value) (hw : ∀ d ∈ tables_1, d.before a0 Z = true) (ws : List Jvm.Cond) (a : Addr) (i : Int32) (b : Addr) (j : Int32) (nn : Int32) (mm : Int32) (f : Nat → Int32) (g : Nat → Int32) (h0 : Heap) (n0 : Nat) (Z0 : n0 ≤ h0.size) (P0 : ArF Z h0 a nn f) (P1 : ArF Z h0 b mm g) (hi : ¬ i < 0) (hj : ¬ j < 0) (hc3 : i < nn) (hc9 : j < mm) (hc18 : ¬ ((f (i).toNatClampNeg) = (g (j).toNatClampNeg))) :
    MetFree l (⟨"com/example/recital/recital/document/WordsLikenessPinLaw", "eq", "([II[II)I"⟩ : MethodName) (head1 (Jvm.Cond.code (⟨"com/example/recital/recital/document/WordsLikenessPinLaw", "eq", "([II[II)I"⟩ : MethodName) method_3_code 4 (some .int) :: ws) ({ frames := 0, cells := 0, slots := 0, locals := 0 } : Room)) (fun zA zU => zA = #[(.ref a), (.int i), (.ref b), (.int j)] ∧ Z.Warmed39 zU.vm ∧ zU.heap = h0) (fun _ _ _ _ _ => True) (fun _ zU zo zU' => ∃ zv zL, zo = .returned zv ∧ Q_eqR Z a i b j nn mm f g h0 n0 zv zU'.heap zL ∧ FrameEnd zU zo zU' zL ({ frames := 0, cells := 0, slots := 0, locals := 0 } : Room).cells ({ frames := 0, cells := 0, slots := 0, locals := 0 } : Room).slots) := by
  refine MetFree.of_bodySF (plainFor_of_name pn_4) hisR ?_
  intro p e s m args below meth c s₁ Bd hml0 hP hK
  obtain ⟨rfl, hZ, hh⟩ := hP
  have hx := Bd.exec
  have hby := Bd.bytes
  have hml : c.maxLocals = 4 := hml0
  have hown : s.vm.findClass "com/example/recital/recital/document/WordsLikenessPinLaw" = some m.cls := findClass_of_methodNamed Bd.named
  have hnm := (name_of_methodNamed Bd.named Bd.method).1
  have X0 : Stand p l e ({ frames := 0, cells := 0, slots := 0, locals := 0 } : Room) s m #[(.ref a), (.int i), (.ref b), (.int j)] below meth c s₁ [] 0 0 := Stand.of_body Bd
  have e0 : s₁.heap = h0 := by rw [← hh, Bd.state]; rfl
  have N0 := Fr.nil n0
  have pre0 : ∀ zt, Steps p.tables e below (s₁.setTop (mkF m 0 #[.val (.ref a), .val (.int i), .val (.ref b), .val (.int j)] [])) zt → Steps p.tables e below (s₁.setTop (entryFrame m #[(.ref a), (.int i), (.ref b), (.int j)] 4)) zt := fun zt zk => castTop (ef_5_RIRI m a i b j) zk
  obtain ⟨cl1, Ar1, Sz1, Ng1, -⟩ := (id P0)
  obtain ⟨cl2, Ar2, Sz2, Ng2, -⟩ := (id P1)
  obtain ⟨cl3, Ar3, Sz3, Ng3, Vs3⟩ := (id P0)
  have hin3 : ¬ (i < 0 ∨ cl3.slots.size ≤ (i).toNatClampNeg) := inb_of Sz3 ⟨hi, hc3⟩
  have hat3 : cl3.slots[(i).toNatClampNeg]? = some (.int (f (i).toNatClampNeg)) := Vs3 _ (Nat.lt_of_not_le fun q => hin3 (Or.inr q))
  obtain ⟨cl4, Ar4, Sz4, Ng4, Vs4⟩ := (id P1)
  have hin4 : ¬ (j < 0 ∨ cl4.slots.size ≤ (j).toNatClampNeg) := inb_of Sz4 ⟨hj, hc9⟩
  have hat4 : cl4.slots[(j).toNatClampNeg]? = some (.int (g (j).toNatClampNeg)) := Vs4 _ (Nat.lt_of_not_le fun q => hin4 (Or.inr q))
  obtain ⟨fs, hr, hrun, hended, hW, hsame⟩ := X0.leave (v := some (.int (0 : Int32))) (fun h => by rw [Bd.returns] at h; cases h)
  refine ⟨_, _, pre0 _ ?_, hrun, hended, _, _, rfl, ?_, ⟨_, rfl⟩, hW, hsame.mono (by decide) (by decide)⟩
  · show Steps p.tables e below (s₁.setTop (mkF m 0 #[.val (.ref a), .val (.int i), .val (.ref b), .val (.int j)] [])) _
    refine XS.iloadN X0.here hx rfl (hb hby d5_0) rfl ?_
    show Steps p.tables e below (s₁.setTop (mkF m 1 #[.val (.ref a), .val (.int i), .val (.ref b), .val (.int j)] [(.int i)])) _
    refine XS.aloadN X0.here hx rfl (hb hby d5_1) rfl rfl ?_
    show Steps p.tables e below (s₁.setTop (mkF m 2 #[.val (.ref a), .val (.int i), .val (.ref b), .val (.int j)] [(.ref a), (.int i)])) _
    refine X0.arraylength hx (Ar1.at_ e0) (State.isArrayOf_alike hZ.alike Ar1.2.1) (g := (mkF m 2 #[.val (.ref a), .val (.int i), .val (.ref b), .val (.int j)] [(.ref a), (.int i)])) rfl rfl (hb hby d5_2) _ ?_
    rw [len_of Sz1 Ng1]
    show Steps p.tables e below (s₁.setTop (mkF m 3 #[.val (.ref a), .val (.int i), .val (.ref b), .val (.int j)] [(.int nn), (.int i)])) _
    refine XS.icmpNo X0.here hx rfl (hb hby d5_3) rfl (tlt (hc3 : i < nn)).2.1 ?_
    show Steps p.tables e below (s₁.setTop (mkF m 6 #[.val (.ref a), .val (.int i), .val (.ref b), .val (.int j)] [])) _
    refine XS.iloadN X0.here hx rfl (hb hby d5_6) rfl ?_
    show Steps p.tables e below (s₁.setTop (mkF m 7 #[.val (.ref a), .val (.int i), .val (.ref b), .val (.int j)] [(.int j)])) _
    refine XS.aloadN X0.here hx rfl (hb hby d5_7) rfl rfl ?_
    show Steps p.tables e below (s₁.setTop (mkF m 8 #[.val (.ref a), .val (.int i), .val (.ref b), .val (.int j)] [(.ref b), (.int j)])) _
    refine X0.arraylength hx (Ar2.at_ e0) (State.isArrayOf_alike hZ.alike Ar2.2.1) (g := (mkF m 8 #[.val (.ref a), .val (.int i), .val (.ref b), .val (.int j)] [(.ref b), (.int j)])) rfl rfl (hb hby d5_8) _ ?_
    rw [len_of Sz2 Ng2]
    show Steps p.tables e below (s₁.setTop (mkF m 9 #[.val (.ref a), .val (.int i), .val (.ref b), .val (.int j)] [(.int mm), (.int j)])) _
    refine XS.icmpNo X0.here hx rfl (hb hby d5_9) rfl (tlt (hc9 : j < mm)).2.1 ?_
    show Steps p.tables e below (s₁.setTop (mkF m 12 #[.val (.ref a), .val (.int i), .val (.ref b), .val (.int j)] [])) _
    refine XS.aloadN X0.here hx rfl (hb hby d5_12) rfl rfl ?_
    show Steps p.tables e below (s₁.setTop (mkF m 13 #[.val (.ref a), .val (.int i), .val (.ref b), .val (.int j)] [(.ref a)])) _
    refine XS.iloadN X0.here hx rfl (hb hby d5_13) rfl ?_
    show Steps p.tables e below (s₁.setTop (mkF m 14 #[.val (.ref a), .val (.int i), .val (.ref b), .val (.int j)] [(.int i), (.ref a)])) _
    refine X0.iaload hx (j := i) (v := (.int (f (i).toNatClampNeg))) (Ar3.at_ e0) (State.isArrayOf_alike hZ.alike Ar3.2.1) Ar3.2.2 hin3 hat3 (g := (mkF m 14 #[.val (.ref a), .val (.int i), .val (.ref b), .val (.int j)] [(.int i), (.ref a)])) rfl rfl (hb hby d5_14) _ ?_
    show Steps p.tables e below (s₁.setTop (mkF m 15 #[.val (.ref a), .val (.int i), .val (.ref b), .val (.int j)] [(.int (f (i).toNatClampNeg))])) _
    refine XS.aloadN X0.here hx rfl (hb hby d5_15) rfl rfl ?_
    show Steps p.tables e below (s₁.setTop (mkF m 16 #[.val (.ref a), .val (.int i), .val (.ref b), .val (.int j)] [(.ref b), (.int (f (i).toNatClampNeg))])) _
    refine XS.iloadN X0.here hx rfl (hb hby d5_16) rfl ?_
    show Steps p.tables e below (s₁.setTop (mkF m 17 #[.val (.ref a), .val (.int i), .val (.ref b), .val (.int j)] [(.int j), (.ref b), (.int (f (i).toNatClampNeg))])) _
    refine X0.iaload hx (j := j) (v := (.int (g (j).toNatClampNeg))) (Ar4.at_ e0) (State.isArrayOf_alike hZ.alike Ar4.2.1) Ar4.2.2 hin4 hat4 (g := (mkF m 17 #[.val (.ref a), .val (.int i), .val (.ref b), .val (.int j)] [(.int j), (.ref b), (.int (f (i).toNatClampNeg))])) rfl rfl (hb hby d5_17) _ ?_
    show Steps p.tables e below (s₁.setTop (mkF m 18 #[.val (.ref a), .val (.int i), .val (.ref b), .val (.int j)] [(.int (g (j).toNatClampNeg)), (.int (f (i).toNatClampNeg))])) _
    refine XS.icmpYes X0.here hx rfl (pc0 := 18) (pc' := 23) rfl (hb hby d5_18) rfl (feq (hc18 : ¬ ((f (i).toNatClampNeg) = (g (j).toNatClampNeg)))).2 (by decide) (by decide) ?_
    show Steps p.tables e below (s₁.setTop (mkF m 23 #[.val (.ref a), .val (.int i), .val (.ref b), .val (.int j)] [])) _
    refine XS.iconst X0.here hx rfl (hb hby d5_23) ?_
    show Steps p.tables e below (s₁.setTop (mkF m 24 #[.val (.ref a), .val (.int i), .val (.ref b), .val (.int j)] [(.int (0 : Int32))])) _
    exact retI X0 hx Bd.returns (hb hby d5_24) hr
  · show Q_eqR Z a i b j nn mm f g h0 n0 _ s₁.heap _
    rw [e0]
    exact ⟨by rw [eqF, if_pos hc3, if_pos hc9, if_neg hc18], N0, rfl⟩
theorem d5_21 : decode method_3_code 21 = .ok (.iconst 1, 1) := by decide +kernel
theorem d5_22 : decode method_3_code 22 = .ok (.ireturn, 1) := by decide +kernel
set_option maxRecDepth 65536 in
set_option maxHeartbeats 40000000 in
theorem eqR_4 (l : Launch) (Z : State) (a0 : Array Value) (hw : ∀ d ∈ tables_1, d.before a0 Z = true) (ws : List Jvm.Cond) (a : Addr) (i : Int32) (b : Addr) (j : Int32) (nn : Int32) (mm : Int32) (f : Nat → Int32) (g : Nat → Int32) (h0 : Heap) (n0 : Nat) (Z0 : n0 ≤ h0.size) (P0 : ArF Z h0 a nn f) (P1 : ArF Z h0 b mm g) (hi : ¬ i < 0) (hj : ¬ j < 0) (hc3 : i < nn) (hc9 : j < mm) (hc18 : (f (i).toNatClampNeg) = (g (j).toNatClampNeg)) :
    MetFree l (⟨"com/example/recital/recital/document/WordsLikenessPinLaw", "eq", "([II[II)I"⟩ : MethodName) (head1 (Jvm.Cond.code (⟨"com/example/recital/recital/document/WordsLikenessPinLaw", "eq", "([II[II)I"⟩ : MethodName) method_3_code 4 (some .int) :: ws) ({ frames := 0, cells := 0, slots := 0, locals := 0 } : Room)) (fun zA zU => zA = #[(.ref a), (.int i), (.ref b), (.int j)] ∧ Z.Warmed39 zU.vm ∧ zU.heap = h0) (fun _ _ _ _ _ => True) (fun _ zU zo zU' => ∃ zv zL, zo = .returned zv ∧ Q_eqR Z a i b j nn mm f g h0 n0 zv zU'.heap zL ∧ FrameEnd zU zo zU' zL ({ frames := 0, cells := 0, slots := 0, locals := 0 } : Room).cells ({ frames := 0, cells := 0, slots := 0, locals := 0 } : Room).slots) := by
  refine MetFree.of_bodySF (plainFor_of_name pn_4) hisR ?_
  intro p e s m args below meth c s₁ Bd hml0 hP hK
  obtain ⟨rfl, hZ, hh⟩ := hP
  have hx := Bd.exec
  have hby := Bd.bytes
  have hml : c.maxLocals = 4 := hml0
  have hown : s.vm.findClass "com/example/recital/recital/document/WordsLikenessPinLaw" = some m.cls := findClass_of_methodNamed Bd.named
  have hnm := (name_of_methodNamed Bd.named Bd.method).1
  have X0 : Stand p l e ({ frames := 0, cells := 0, slots := 0, locals := 0 } : Room) s m #[(.ref a), (.int i), (.ref b), (.int j)] below meth c s₁ [] 0 0 := Stand.of_body Bd
  have e0 : s₁.heap = h0 := by rw [← hh, Bd.state]; rfl
  have N0 := Fr.nil n0
  have pre0 : ∀ zt, Steps p.tables e below (s₁.setTop (mkF m 0 #[.val (.ref a), .val (.int i), .val (.ref b), .val (.int j)] [])) zt → Steps p.tables e below (s₁.setTop (entryFrame m #[(.ref a), (.int i), (.ref b), (.int j)] 4)) zt := fun zt zk => castTop (ef_5_RIRI m a i b j) zk
  obtain ⟨cl1, Ar1, Sz1, Ng1, -⟩ := (id P0)
  obtain ⟨cl2, Ar2, Sz2, Ng2, -⟩ := (id P1)
  obtain ⟨cl3, Ar3, Sz3, Ng3, Vs3⟩ := (id P0)
  have hin3 : ¬ (i < 0 ∨ cl3.slots.size ≤ (i).toNatClampNeg) := inb_of Sz3 ⟨hi, hc3⟩
  have hat3 : cl3.slots[(i).toNatClampNeg]? = some (.int (f (i).toNatClampNeg)) := Vs3 _ (Nat.lt_of_not_le fun q => hin3 (Or.inr q))
  obtain ⟨cl4, Ar4, Sz4, Ng4, Vs4⟩ := (id P1)
  have hin4 : ¬ (j < 0 ∨ cl4.slots.size ≤ (j).toNatClampNeg) := inb_of Sz4 ⟨hj, hc9⟩
  have hat4 : cl4.slots[(j).toNatClampNeg]? = some (.int (g (j).toNatClampNeg)) := Vs4 _ (Nat.lt_of_not_le fun q => hin4 (Or.inr q))
  obtain ⟨fs, hr, hrun, hended, hW, hsame⟩ := X0.leave (v := some (.int (1 : Int32))) (fun h => by rw [Bd.returns] at h; cases h)
  refine ⟨_, _, pre0 _ ?_, hrun, hended, _, _, rfl, ?_, ⟨_, rfl⟩, hW, hsame.mono (by decide) (by decide)⟩
  · show Steps p.tables e below (s₁.setTop (mkF m 0 #[.val (.ref a), .val (.int i), .val (.ref b), .val (.int j)] [])) _
    refine XS.iloadN X0.here hx rfl (hb hby d5_0) rfl ?_
    show Steps p.tables e below (s₁.setTop (mkF m 1 #[.val (.ref a), .val (.int i), .val (.ref b), .val (.int j)] [(.int i)])) _
    refine XS.aloadN X0.here hx rfl (hb hby d5_1) rfl rfl ?_
    show Steps p.tables e below (s₁.setTop (mkF m 2 #[.val (.ref a), .val (.int i), .val (.ref b), .val (.int j)] [(.ref a), (.int i)])) _
    refine X0.arraylength hx (Ar1.at_ e0) (State.isArrayOf_alike hZ.alike Ar1.2.1) (g := (mkF m 2 #[.val (.ref a), .val (.int i), .val (.ref b), .val (.int j)] [(.ref a), (.int i)])) rfl rfl (hb hby d5_2) _ ?_
    rw [len_of Sz1 Ng1]
    show Steps p.tables e below (s₁.setTop (mkF m 3 #[.val (.ref a), .val (.int i), .val (.ref b), .val (.int j)] [(.int nn), (.int i)])) _
    refine XS.icmpNo X0.here hx rfl (hb hby d5_3) rfl (tlt (hc3 : i < nn)).2.1 ?_
    show Steps p.tables e below (s₁.setTop (mkF m 6 #[.val (.ref a), .val (.int i), .val (.ref b), .val (.int j)] [])) _
    refine XS.iloadN X0.here hx rfl (hb hby d5_6) rfl ?_
    show Steps p.tables e below (s₁.setTop (mkF m 7 #[.val (.ref a), .val (.int i), .val (.ref b), .val (.int j)] [(.int j)])) _
    refine XS.aloadN X0.here hx rfl (hb hby d5_7) rfl rfl ?_
    show Steps p.tables e below (s₁.setTop (mkF m 8 #[.val (.ref a), .val (.int i), .val (.ref b), .val (.int j)] [(.ref b), (.int j)])) _
    refine X0.arraylength hx (Ar2.at_ e0) (State.isArrayOf_alike hZ.alike Ar2.2.1) (g := (mkF m 8 #[.val (.ref a), .val (.int i), .val (.ref b), .val (.int j)] [(.ref b), (.int j)])) rfl rfl (hb hby d5_8) _ ?_
    rw [len_of Sz2 Ng2]
    show Steps p.tables e below (s₁.setTop (mkF m 9 #[.val (.ref a), .val (.int i), .val (.ref b), .val (.int j)] [(.int mm), (.int j)])) _
    refine XS.icmpNo X0.here hx rfl (hb hby d5_9) rfl (tlt (hc9 : j < mm)).2.1 ?_
    show Steps p.tables e below (s₁.setTop (mkF m 12 #[.val (.ref a), .val (.int i), .val (.ref b), .val (.int j)] [])) _
    refine XS.aloadN X0.here hx rfl (hb hby d5_12) rfl rfl ?_
    show Steps p.tables e below (s₁.setTop (mkF m 13 #[.val (.ref a), .val (.int i), .val (.ref b), .val (.int j)] [(.ref a)])) _
    refine XS.iloadN X0.here hx rfl (hb hby d5_13) rfl ?_
    show Steps p.tables e below (s₁.setTop (mkF m 14 #[.val (.ref a), .val (.int i), .val (.ref b), .val (.int j)] [(.int i), (.ref a)])) _
    refine X0.iaload hx (j := i) (v := (.int (f (i).toNatClampNeg))) (Ar3.at_ e0) (State.isArrayOf_alike hZ.alike Ar3.2.1) Ar3.2.2 hin3 hat3 (g := (mkF m 14 #[.val (.ref a), .val (.int i), .val (.ref b), .val (.int j)] [(.int i), (.ref a)])) rfl rfl (hb hby d5_14) _ ?_
    show Steps p.tables e below (s₁.setTop (mkF m 15 #[.val (.ref a), .val (.int i), .val (.ref b), .val (.int j)] [(.int (f (i).toNatClampNeg))])) _
    refine XS.aloadN X0.here hx rfl (hb hby d5_15) rfl rfl ?_
    show Steps p.tables e below (s₁.setTop (mkF m 16 #[.val (.ref a), .val (.int i), .val (.ref b), .val (.int j)] [(.ref b), (.int (f (i).toNatClampNeg))])) _
    refine XS.iloadN X0.here hx rfl (hb hby d5_16) rfl ?_
    show Steps p.tables e below (s₁.setTop (mkF m 17 #[.val (.ref a), .val (.int i), .val (.ref b), .val (.int j)] [(.int j), (.ref b), (.int (f (i).toNatClampNeg))])) _
    refine X0.iaload hx (j := j) (v := (.int (g (j).toNatClampNeg))) (Ar4.at_ e0) (State.isArrayOf_alike hZ.alike Ar4.2.1) Ar4.2.2 hin4 hat4 (g := (mkF m 17 #[.val (.ref a), .val (.int i), .val (.ref b), .val (.int j)] [(.int j), (.ref b), (.int (f (i).toNatClampNeg))])) rfl rfl (hb hby d5_17) _ ?_
    show Steps p.tables e below (s₁.setTop (mkF m 18 #[.val (.ref a), .val (.int i), .val (.ref b), .val (.int j)] [(.int (g (j).toNatClampNeg)), (.int (f (i).toNatClampNeg))])) _
    refine XS.icmpNo X0.here hx rfl (hb hby d5_18) rfl (teq (hc18 : (f (i).toNatClampNeg) = (g (j).toNatClampNeg))).2 ?_
    show Steps p.tables e below (s₁.setTop (mkF m 21 #[.val (.ref a), .val (.int i), .val (.ref b), .val (.int j)] [])) _
    refine XS.iconst X0.here hx rfl (hb hby d5_21) ?_
    show Steps p.tables e below (s₁.setTop (mkF m 22 #[.val (.ref a), .val (.int i), .val (.ref b), .val (.int j)] [(.int (1 : Int32))])) _
    exact retI X0 hx Bd.returns (hb hby d5_22) hr
  · show Q_eqR Z a i b j nn mm f g h0 n0 _ s₁.heap _
    rw [e0]
    exact ⟨by rw [eqF, if_pos hc3, if_pos hc9, if_pos hc18], N0, rfl⟩
set_option maxRecDepth 65536 in
set_option maxHeartbeats 40000000 in
theorem eqR (l : Launch) (Z : State) (a0 : Array Value) (hw : ∀ d ∈ tables_1, d.before a0 Z = true) (ws : List Jvm.Cond) (a : Addr) (i : Int32) (b : Addr) (j : Int32) (nn : Int32) (mm : Int32) (f : Nat → Int32) (g : Nat → Int32) (h0 : Heap) (n0 : Nat) (Z0 : n0 ≤ h0.size) (P0 : ArF Z h0 a nn f) (P1 : ArF Z h0 b mm g) (hi : ¬ i < 0) (hj : ¬ j < 0) :
    MetFree l (⟨"com/example/recital/recital/document/WordsLikenessPinLaw", "eq", "([II[II)I"⟩ : MethodName) (head1 (Jvm.Cond.code (⟨"com/example/recital/recital/document/WordsLikenessPinLaw", "eq", "([II[II)I"⟩ : MethodName) method_3_code 4 (some .int) :: ws) ({ frames := 0, cells := 0, slots := 0, locals := 0 } : Room)) (fun zA zU => zA = #[(.ref a), (.int i), (.ref b), (.int j)] ∧ Z.Warmed39 zU.vm ∧ zU.heap = h0) (fun _ _ _ _ _ => True) (fun _ zU zo zU' => ∃ zv zL, zo = .returned zv ∧ Q_eqR Z a i b j nn mm f g h0 n0 zv zU'.heap zL ∧ FrameEnd zU zo zU' zL ({ frames := 0, cells := 0, slots := 0, locals := 0 } : Room).cells ({ frames := 0, cells := 0, slots := 0, locals := 0 } : Room).slots) := by
  by_cases h1 : i < nn
  · by_cases h2 : j < mm
    · by_cases h3 : (f (i).toNatClampNeg) = (g (j).toNatClampNeg)
      · exact eqR_4 l Z a0 hw ws a i b j nn mm f g h0 n0 Z0 P0 P1 hi hj h1 h2 h3
      · exact eqR_3 l Z a0 hw ws a i b j nn mm f g h0 n0 Z0 P0 P1 hi hj h1 h2 h3
    · exact eqR_2 l Z a0 hw ws a i b j nn mm f g h0 n0 Z0 P0 P1 hi hj h1 h2
  · exact eqR_1 l Z a0 hw ws a i b j nn mm f g h0 n0 Z0 P0 P1 hi hj h1
theorem d6_25 : decode prog_81_method_3_code 25 = .ok (.iload 5, 2) := by decide +kernel
theorem d6_27 : decode prog_81_method_3_code 27 = .ok (.aload_n 0, 1) := by decide +kernel
theorem d6_28 : decode prog_81_method_3_code 28 = .ok (.arraylength, 1) := by decide +kernel
theorem d6_29 : decode prog_81_method_3_code 29 = .ok (.if_icmp .ge 56, 3) := by decide +kernel
set_option maxRecDepth 65536 in
set_option maxHeartbeats 40000000 in
theorem lk_x1 {p : Program} {l : Launch} {e : Env} {R : Room} {s : State} {m : MethodId} {args : Array Value} {below : List Frame} {meth : Method} {c : Code} {T0 : State} {locs : List Loc} {cells slots : Nat} {Z : State} {h0 : Heap} {a b : Addr} {cc al sh i j nn mm : Int32} {f g : Nat → Int32} (X0 : Stand p l e R s m args below meth c T0 locs cells slots) (hx : p.tables.exec = Jvm.exec) (hZ : Z.Warmed39 s.vm) (hby : c.code = prog_81_method_3_code) (e0 : T0.heap = h0) (A : ArF Z h0 a nn f) (B : ArF Z h0 b mm g) (hi : ¬ i < 0) (hj : ¬ j < 0) (hc29 : ¬ (i < nn)) :
    ∀ target, Steps p.tables e below (T0.setTop (mkF m 85 #[.val (.ref a), .val (.ref b), .val (.int cc), .val (.int al), .val (.int sh), .val (.int i), .val (.int j)] [])) target → Steps p.tables e below (T0.setTop (mkF m 25 #[.val (.ref a), .val (.ref b), .val (.int cc), .val (.int al), .val (.int sh), .val (.int i), .val (.int j)] [])) target := by
  intro target kt
  obtain ⟨cl1, Ar1, Sz1, Ng1, -⟩ := (id A)
  show Steps p.tables e below (T0.setTop (mkF m 25 #[.val (.ref a), .val (.ref b), .val (.int cc), .val (.int al), .val (.int sh), .val (.int i), .val (.int j)] [])) target
  refine XS.iload X0.here hx rfl (hb hby d6_25) rfl ?_
  show Steps p.tables e below (T0.setTop (mkF m 27 #[.val (.ref a), .val (.ref b), .val (.int cc), .val (.int al), .val (.int sh), .val (.int i), .val (.int j)] [(.int i)])) target
  refine XS.aloadN X0.here hx rfl (hb hby d6_27) rfl rfl ?_
  show Steps p.tables e below (T0.setTop (mkF m 28 #[.val (.ref a), .val (.ref b), .val (.int cc), .val (.int al), .val (.int sh), .val (.int i), .val (.int j)] [(.ref a), (.int i)])) target
  refine X0.arraylength hx (Ar1.at_ e0) (State.isArrayOf_alike hZ.alike Ar1.2.1) (g := (mkF m 28 #[.val (.ref a), .val (.ref b), .val (.int cc), .val (.int al), .val (.int sh), .val (.int i), .val (.int j)] [(.ref a), (.int i)])) rfl rfl (hb hby d6_28) _ ?_
  rw [len_of Sz1 Ng1]
  show Steps p.tables e below (T0.setTop (mkF m 29 #[.val (.ref a), .val (.ref b), .val (.int cc), .val (.int al), .val (.int sh), .val (.int i), .val (.int j)] [(.int nn), (.int i)])) target
  refine XS.icmpYes X0.here hx rfl (pc0 := 29) (pc' := 85) rfl (hb hby d6_29) rfl (flt (hc29 : ¬ (i < nn))).2.1 (by decide) (by decide) ?_
  show Steps p.tables e below (T0.setTop (mkF m 85 #[.val (.ref a), .val (.ref b), .val (.int cc), .val (.int al), .val (.int sh), .val (.int i), .val (.int j)] [])) target
  exact kt
theorem d6_32 : decode prog_81_method_3_code 32 = .ok (.iload 6, 2) := by decide +kernel
theorem d6_34 : decode prog_81_method_3_code 34 = .ok (.aload_n 1, 1) := by decide +kernel
theorem d6_35 : decode prog_81_method_3_code 35 = .ok (.arraylength, 1) := by decide +kernel
theorem d6_36 : decode prog_81_method_3_code 36 = .ok (.if_icmp .ge 49, 3) := by decide +kernel
set_option maxRecDepth 65536 in
set_option maxHeartbeats 40000000 in
theorem lk_x2 {p : Program} {l : Launch} {e : Env} {R : Room} {s : State} {m : MethodId} {args : Array Value} {below : List Frame} {meth : Method} {c : Code} {T0 : State} {locs : List Loc} {cells slots : Nat} {Z : State} {h0 : Heap} {a b : Addr} {cc al sh i j nn mm : Int32} {f g : Nat → Int32} (X0 : Stand p l e R s m args below meth c T0 locs cells slots) (hx : p.tables.exec = Jvm.exec) (hZ : Z.Warmed39 s.vm) (hby : c.code = prog_81_method_3_code) (e0 : T0.heap = h0) (A : ArF Z h0 a nn f) (B : ArF Z h0 b mm g) (hi : ¬ i < 0) (hj : ¬ j < 0) (hc29 : i < nn) (hc36 : ¬ (j < mm)) :
    ∀ target, Steps p.tables e below (T0.setTop (mkF m 85 #[.val (.ref a), .val (.ref b), .val (.int cc), .val (.int al), .val (.int sh), .val (.int i), .val (.int j)] [])) target → Steps p.tables e below (T0.setTop (mkF m 25 #[.val (.ref a), .val (.ref b), .val (.int cc), .val (.int al), .val (.int sh), .val (.int i), .val (.int j)] [])) target := by
  intro target kt
  obtain ⟨cl1, Ar1, Sz1, Ng1, -⟩ := (id A)
  obtain ⟨cl2, Ar2, Sz2, Ng2, -⟩ := (id B)
  show Steps p.tables e below (T0.setTop (mkF m 25 #[.val (.ref a), .val (.ref b), .val (.int cc), .val (.int al), .val (.int sh), .val (.int i), .val (.int j)] [])) target
  refine XS.iload X0.here hx rfl (hb hby d6_25) rfl ?_
  show Steps p.tables e below (T0.setTop (mkF m 27 #[.val (.ref a), .val (.ref b), .val (.int cc), .val (.int al), .val (.int sh), .val (.int i), .val (.int j)] [(.int i)])) target
  refine XS.aloadN X0.here hx rfl (hb hby d6_27) rfl rfl ?_
  show Steps p.tables e below (T0.setTop (mkF m 28 #[.val (.ref a), .val (.ref b), .val (.int cc), .val (.int al), .val (.int sh), .val (.int i), .val (.int j)] [(.ref a), (.int i)])) target
  refine X0.arraylength hx (Ar1.at_ e0) (State.isArrayOf_alike hZ.alike Ar1.2.1) (g := (mkF m 28 #[.val (.ref a), .val (.ref b), .val (.int cc), .val (.int al), .val (.int sh), .val (.int i), .val (.int j)] [(.ref a), (.int i)])) rfl rfl (hb hby d6_28) _ ?_
  rw [len_of Sz1 Ng1]
  show Steps p.tables e below (T0.setTop (mkF m 29 #[.val (.ref a), .val (.ref b), .val (.int cc), .val (.int al), .val (.int sh), .val (.int i), .val (.int j)] [(.int nn), (.int i)])) target
  refine XS.icmpNo X0.here hx rfl (hb hby d6_29) rfl (tlt (hc29 : i < nn)).2.1 ?_
  show Steps p.tables e below (T0.setTop (mkF m 32 #[.val (.ref a), .val (.ref b), .val (.int cc), .val (.int al), .val (.int sh), .val (.int i), .val (.int j)] [])) target
  refine XS.iload X0.here hx rfl (hb hby d6_32) rfl ?_
  show Steps p.tables e below (T0.setTop (mkF m 34 #[.val (.ref a), .val (.ref b), .val (.int cc), .val (.int al), .val (.int sh), .val (.int i), .val (.int j)] [(.int j)])) target
  refine XS.aloadN X0.here hx rfl (hb hby d6_34) rfl rfl ?_
  show Steps p.tables e below (T0.setTop (mkF m 35 #[.val (.ref a), .val (.ref b), .val (.int cc), .val (.int al), .val (.int sh), .val (.int i), .val (.int j)] [(.ref b), (.int j)])) target
  refine X0.arraylength hx (Ar2.at_ e0) (State.isArrayOf_alike hZ.alike Ar2.2.1) (g := (mkF m 35 #[.val (.ref a), .val (.ref b), .val (.int cc), .val (.int al), .val (.int sh), .val (.int i), .val (.int j)] [(.ref b), (.int j)])) rfl rfl (hb hby d6_35) _ ?_
  rw [len_of Sz2 Ng2]
  show Steps p.tables e below (T0.setTop (mkF m 36 #[.val (.ref a), .val (.ref b), .val (.int cc), .val (.int al), .val (.int sh), .val (.int i), .val (.int j)] [(.int mm), (.int j)])) target
  refine XS.icmpYes X0.here hx rfl (pc0 := 36) (pc' := 85) rfl (hb hby d6_36) rfl (flt (hc36 : ¬ (j < mm))).2.1 (by decide) (by decide) ?_
  show Steps p.tables e below (T0.setTop (mkF m 85 #[.val (.ref a), .val (.ref b), .val (.int cc), .val (.int al), .val (.int sh), .val (.int i), .val (.int j)] [])) target
  exact kt
theorem d6_39 : decode prog_81_method_3_code 39 = .ok (.aload_n 0, 1) := by decide +kernel
theorem d6_40 : decode prog_81_method_3_code 40 = .ok (.iload 5, 2) := by decide +kernel
theorem d6_42 : decode prog_81_method_3_code 42 = .ok (.iaload, 1) := by decide +kernel
theorem d6_43 : decode prog_81_method_3_code 43 = .ok (.aload_n 1, 1) := by decide +kernel
theorem d6_44 : decode prog_81_method_3_code 44 = .ok (.iload 6, 2) := by decide +kernel
theorem d6_46 : decode prog_81_method_3_code 46 = .ok (.iaload, 1) := by decide +kernel
theorem d6_47 : decode prog_81_method_3_code 47 = .ok (.if_icmp .ne 15, 3) := by decide +kernel
theorem d6_50 : decode prog_81_method_3_code 50 = .ok (.iinc 4 1, 3) := by decide +kernel
theorem d6_53 : decode prog_81_method_3_code 53 = .ok (.iinc 5 1, 3) := by decide +kernel
theorem d6_56 : decode prog_81_method_3_code 56 = .ok (.iinc 6 1, 3) := by decide +kernel
theorem d6_59 : decode prog_81_method_3_code 59 = .ok (.goto (-34), 3) := by decide +kernel
set_option maxRecDepth 65536 in
set_option maxHeartbeats 40000000 in
theorem lk_eq {p : Program} {l : Launch} {e : Env} {R : Room} {s : State} {m : MethodId} {args : Array Value} {below : List Frame} {meth : Method} {c : Code} {T0 : State} {locs : List Loc} {cells slots : Nat} {Z : State} {h0 : Heap} {a b : Addr} {cc al sh i j nn mm : Int32} {f g : Nat → Int32} (X0 : Stand p l e R s m args below meth c T0 locs cells slots) (hx : p.tables.exec = Jvm.exec) (hZ : Z.Warmed39 s.vm) (hby : c.code = prog_81_method_3_code) (e0 : T0.heap = h0) (A : ArF Z h0 a nn f) (B : ArF Z h0 b mm g) (hi : ¬ i < 0) (hj : ¬ j < 0) (hc29 : i < nn) (hc36 : j < mm) (hc47 : (f (i).toNatClampNeg) = (g (j).toNatClampNeg)) :
    ∀ target, Steps p.tables e below (T0.setTop (mkF m 25 #[.val (.ref a), .val (.ref b), .val (.int cc), .val (.int al), .val (.int (sh + (1 : Int32))), .val (.int (i + (1 : Int32))), .val (.int (j + (1 : Int32)))] [])) target → Steps p.tables e below (T0.setTop (mkF m 25 #[.val (.ref a), .val (.ref b), .val (.int cc), .val (.int al), .val (.int sh), .val (.int i), .val (.int j)] [])) target := by
  intro target kt
  obtain ⟨cl1, Ar1, Sz1, Ng1, -⟩ := (id A)
  obtain ⟨cl2, Ar2, Sz2, Ng2, -⟩ := (id B)
  obtain ⟨cl3, Ar3, Sz3, Ng3, Vs3⟩ := (id A)
  have hin3 : ¬ (i < 0 ∨ cl3.slots.size ≤ (i).toNatClampNeg) := inb_of Sz3 ⟨hi, hc29⟩
  have hat3 : cl3.slots[(i).toNatClampNeg]? = some (.int (f (i).toNatClampNeg)) := Vs3 _ (Nat.lt_of_not_le fun q => hin3 (Or.inr q))
  obtain ⟨cl4, Ar4, Sz4, Ng4, Vs4⟩ := (id B)
  have hin4 : ¬ (j < 0 ∨ cl4.slots.size ≤ (j).toNatClampNeg) := inb_of Sz4 ⟨hj, hc36⟩
  have hat4 : cl4.slots[(j).toNatClampNeg]? = some (.int (g (j).toNatClampNeg)) := Vs4 _ (Nat.lt_of_not_le fun q => hin4 (Or.inr q))
  show Steps p.tables e below (T0.setTop (mkF m 25 #[.val (.ref a), .val (.ref b), .val (.int cc), .val (.int al), .val (.int sh), .val (.int i), .val (.int j)] [])) target
  refine XS.iload X0.here hx rfl (hb hby d6_25) rfl ?_
  show Steps p.tables e below (T0.setTop (mkF m 27 #[.val (.ref a), .val (.ref b), .val (.int cc), .val (.int al), .val (.int sh), .val (.int i), .val (.int j)] [(.int i)])) target
  refine XS.aloadN X0.here hx rfl (hb hby d6_27) rfl rfl ?_
  show Steps p.tables e below (T0.setTop (mkF m 28 #[.val (.ref a), .val (.ref b), .val (.int cc), .val (.int al), .val (.int sh), .val (.int i), .val (.int j)] [(.ref a), (.int i)])) target
  refine X0.arraylength hx (Ar1.at_ e0) (State.isArrayOf_alike hZ.alike Ar1.2.1) (g := (mkF m 28 #[.val (.ref a), .val (.ref b), .val (.int cc), .val (.int al), .val (.int sh), .val (.int i), .val (.int j)] [(.ref a), (.int i)])) rfl rfl (hb hby d6_28) _ ?_
  rw [len_of Sz1 Ng1]
  show Steps p.tables e below (T0.setTop (mkF m 29 #[.val (.ref a), .val (.ref b), .val (.int cc), .val (.int al), .val (.int sh), .val (.int i), .val (.int j)] [(.int nn), (.int i)])) target
  refine XS.icmpNo X0.here hx rfl (hb hby d6_29) rfl (tlt (hc29 : i < nn)).2.1 ?_
  show Steps p.tables e below (T0.setTop (mkF m 32 #[.val (.ref a), .val (.ref b), .val (.int cc), .val (.int al), .val (.int sh), .val (.int i), .val (.int j)] [])) target
  refine XS.iload X0.here hx rfl (hb hby d6_32) rfl ?_
  show Steps p.tables e below (T0.setTop (mkF m 34 #[.val (.ref a), .val (.ref b), .val (.int cc), .val (.int al), .val (.int sh), .val (.int i), .val (.int j)] [(.int j)])) target
  refine XS.aloadN X0.here hx rfl (hb hby d6_34) rfl rfl ?_
  show Steps p.tables e below (T0.setTop (mkF m 35 #[.val (.ref a), .val (.ref b), .val (.int cc), .val (.int al), .val (.int sh), .val (.int i), .val (.int j)] [(.ref b), (.int j)])) target
  refine X0.arraylength hx (Ar2.at_ e0) (State.isArrayOf_alike hZ.alike Ar2.2.1) (g := (mkF m 35 #[.val (.ref a), .val (.ref b), .val (.int cc), .val (.int al), .val (.int sh), .val (.int i), .val (.int j)] [(.ref b), (.int j)])) rfl rfl (hb hby d6_35) _ ?_
  rw [len_of Sz2 Ng2]
  show Steps p.tables e below (T0.setTop (mkF m 36 #[.val (.ref a), .val (.ref b), .val (.int cc), .val (.int al), .val (.int sh), .val (.int i), .val (.int j)] [(.int mm), (.int j)])) target
  refine XS.icmpNo X0.here hx rfl (hb hby d6_36) rfl (tlt (hc36 : j < mm)).2.1 ?_
  show Steps p.tables e below (T0.setTop (mkF m 39 #[.val (.ref a), .val (.ref b), .val (.int cc), .val (.int al), .val (.int sh), .val (.int i), .val (.int j)] [])) target
  refine XS.aloadN X0.here hx rfl (hb hby d6_39) rfl rfl ?_
  show Steps p.tables e below (T0.setTop (mkF m 40 #[.val (.ref a), .val (.ref b), .val (.int cc), .val (.int al), .val (.int sh), .val (.int i), .val (.int j)] [(.ref a)])) target
  refine XS.iload X0.here hx rfl (hb hby d6_40) rfl ?_
  show Steps p.tables e below (T0.setTop (mkF m 42 #[.val (.ref a), .val (.ref b), .val (.int cc), .val (.int al), .val (.int sh), .val (.int i), .val (.int j)] [(.int i), (.ref a)])) target
  refine X0.iaload hx (j := i) (v := (.int (f (i).toNatClampNeg))) (Ar3.at_ e0) (State.isArrayOf_alike hZ.alike Ar3.2.1) Ar3.2.2 hin3 hat3 (g := (mkF m 42 #[.val (.ref a), .val (.ref b), .val (.int cc), .val (.int al), .val (.int sh), .val (.int i), .val (.int j)] [(.int i), (.ref a)])) rfl rfl (hb hby d6_42) _ ?_
  show Steps p.tables e below (T0.setTop (mkF m 43 #[.val (.ref a), .val (.ref b), .val (.int cc), .val (.int al), .val (.int sh), .val (.int i), .val (.int j)] [(.int (f (i).toNatClampNeg))])) target
  refine XS.aloadN X0.here hx rfl (hb hby d6_43) rfl rfl ?_
  show Steps p.tables e below (T0.setTop (mkF m 44 #[.val (.ref a), .val (.ref b), .val (.int cc), .val (.int al), .val (.int sh), .val (.int i), .val (.int j)] [(.ref b), (.int (f (i).toNatClampNeg))])) target
  refine XS.iload X0.here hx rfl (hb hby d6_44) rfl ?_
  show Steps p.tables e below (T0.setTop (mkF m 46 #[.val (.ref a), .val (.ref b), .val (.int cc), .val (.int al), .val (.int sh), .val (.int i), .val (.int j)] [(.int j), (.ref b), (.int (f (i).toNatClampNeg))])) target
  refine X0.iaload hx (j := j) (v := (.int (g (j).toNatClampNeg))) (Ar4.at_ e0) (State.isArrayOf_alike hZ.alike Ar4.2.1) Ar4.2.2 hin4 hat4 (g := (mkF m 46 #[.val (.ref a), .val (.ref b), .val (.int cc), .val (.int al), .val (.int sh), .val (.int i), .val (.int j)] [(.int j), (.ref b), (.int (f (i).toNatClampNeg))])) rfl rfl (hb hby d6_46) _ ?_
  show Steps p.tables e below (T0.setTop (mkF m 47 #[.val (.ref a), .val (.ref b), .val (.int cc), .val (.int al), .val (.int sh), .val (.int i), .val (.int j)] [(.int (g (j).toNatClampNeg)), (.int (f (i).toNatClampNeg))])) target
  refine XS.icmpNo X0.here hx rfl (hb hby d6_47) rfl (teq (hc47 : (f (i).toNatClampNeg) = (g (j).toNatClampNeg))).2 ?_
  show Steps p.tables e below (T0.setTop (mkF m 50 #[.val (.ref a), .val (.ref b), .val (.int cc), .val (.int al), .val (.int sh), .val (.int i), .val (.int j)] [])) target
  refine XS.iinc X0.here hx rfl (hb hby d6_50) rfl (l' := #[.val (.ref a), .val (.ref b), .val (.int cc), .val (.int al), .val (.int (sh + (1 : Int32))), .val (.int i), .val (.int j)]) rfl ?_
  show Steps p.tables e below (T0.setTop (mkF m 53 #[.val (.ref a), .val (.ref b), .val (.int cc), .val (.int al), .val (.int (sh + (1 : Int32))), .val (.int i), .val (.int j)] [])) target
  refine XS.iinc X0.here hx rfl (hb hby d6_53) rfl (l' := #[.val (.ref a), .val (.ref b), .val (.int cc), .val (.int al), .val (.int (sh + (1 : Int32))), .val (.int (i + (1 : Int32))), .val (.int j)]) rfl ?_
  show Steps p.tables e below (T0.setTop (mkF m 56 #[.val (.ref a), .val (.ref b), .val (.int cc), .val (.int al), .val (.int (sh + (1 : Int32))), .val (.int (i + (1 : Int32))), .val (.int j)] [])) target
  refine XS.iinc X0.here hx rfl (hb hby d6_56) rfl (l' := #[.val (.ref a), .val (.ref b), .val (.int cc), .val (.int al), .val (.int (sh + (1 : Int32))), .val (.int (i + (1 : Int32))), .val (.int (j + (1 : Int32)))]) rfl ?_
  show Steps p.tables e below (T0.setTop (mkF m 59 #[.val (.ref a), .val (.ref b), .val (.int cc), .val (.int al), .val (.int (sh + (1 : Int32))), .val (.int (i + (1 : Int32))), .val (.int (j + (1 : Int32)))] [])) target
  refine XS.goto X0.here hx rfl (pc0 := 59) (pc' := 25) rfl (hb hby d6_59) (by decide) (by decide) ?_
  show Steps p.tables e below (T0.setTop (mkF m 25 #[.val (.ref a), .val (.ref b), .val (.int cc), .val (.int al), .val (.int (sh + (1 : Int32))), .val (.int (i + (1 : Int32))), .val (.int (j + (1 : Int32)))] [])) target
  exact kt
theorem d6_62 : decode prog_81_method_3_code 62 = .ok (.aload_n 0, 1) := by decide +kernel
theorem d6_63 : decode prog_81_method_3_code 63 = .ok (.iload 5, 2) := by decide +kernel
theorem d6_65 : decode prog_81_method_3_code 65 = .ok (.iaload, 1) := by decide +kernel
theorem d6_66 : decode prog_81_method_3_code 66 = .ok (.aload_n 1, 1) := by decide +kernel
theorem d6_67 : decode prog_81_method_3_code 67 = .ok (.iload 6, 2) := by decide +kernel
theorem d6_69 : decode prog_81_method_3_code 69 = .ok (.iaload, 1) := by decide +kernel
theorem d6_70 : decode prog_81_method_3_code 70 = .ok (.if_icmp .ge 9, 3) := by decide +kernel
theorem d6_73 : decode prog_81_method_3_code 73 = .ok (.iinc 5 1, 3) := by decide +kernel
theorem d6_76 : decode prog_81_method_3_code 76 = .ok (.goto (-51), 3) := by decide +kernel
set_option maxRecDepth 65536 in
set_option maxHeartbeats 40000000 in
theorem lk_lt {p : Program} {l : Launch} {e : Env} {R : Room} {s : State} {m : MethodId} {args : Array Value} {below : List Frame} {meth : Method} {c : Code} {T0 : State} {locs : List Loc} {cells slots : Nat} {Z : State} {h0 : Heap} {a b : Addr} {cc al sh i j nn mm : Int32} {f g : Nat → Int32} (X0 : Stand p l e R s m args below meth c T0 locs cells slots) (hx : p.tables.exec = Jvm.exec) (hZ : Z.Warmed39 s.vm) (hby : c.code = prog_81_method_3_code) (e0 : T0.heap = h0) (A : ArF Z h0 a nn f) (B : ArF Z h0 b mm g) (hi : ¬ i < 0) (hj : ¬ j < 0) (hc29 : i < nn) (hc36 : j < mm) (hc47 : ¬ ((f (i).toNatClampNeg) = (g (j).toNatClampNeg))) (hc70 : (f (i).toNatClampNeg) < (g (j).toNatClampNeg)) :
    ∀ target, Steps p.tables e below (T0.setTop (mkF m 25 #[.val (.ref a), .val (.ref b), .val (.int cc), .val (.int al), .val (.int sh), .val (.int (i + (1 : Int32))), .val (.int j)] [])) target → Steps p.tables e below (T0.setTop (mkF m 25 #[.val (.ref a), .val (.ref b), .val (.int cc), .val (.int al), .val (.int sh), .val (.int i), .val (.int j)] [])) target := by
  intro target kt
  obtain ⟨cl1, Ar1, Sz1, Ng1, -⟩ := (id A)
  obtain ⟨cl2, Ar2, Sz2, Ng2, -⟩ := (id B)
  obtain ⟨cl3, Ar3, Sz3, Ng3, Vs3⟩ := (id A)
  have hin3 : ¬ (i < 0 ∨ cl3.slots.size ≤ (i).toNatClampNeg) := inb_of Sz3 ⟨hi, hc29⟩
  have hat3 : cl3.slots[(i).toNatClampNeg]? = some (.int (f (i).toNatClampNeg)) := Vs3 _ (Nat.lt_of_not_le fun q => hin3 (Or.inr q))
  obtain ⟨cl4, Ar4, Sz4, Ng4, Vs4⟩ := (id B)
  have hin4 : ¬ (j < 0 ∨ cl4.slots.size ≤ (j).toNatClampNeg) := inb_of Sz4 ⟨hj, hc36⟩
  have hat4 : cl4.slots[(j).toNatClampNeg]? = some (.int (g (j).toNatClampNeg)) := Vs4 _ (Nat.lt_of_not_le fun q => hin4 (Or.inr q))
  obtain ⟨cl5, Ar5, Sz5, Ng5, Vs5⟩ := (id A)
  have hin5 : ¬ (i < 0 ∨ cl5.slots.size ≤ (i).toNatClampNeg) := inb_of Sz5 ⟨hi, hc29⟩
  have hat5 : cl5.slots[(i).toNatClampNeg]? = some (.int (f (i).toNatClampNeg)) := Vs5 _ (Nat.lt_of_not_le fun q => hin5 (Or.inr q))
  obtain ⟨cl6, Ar6, Sz6, Ng6, Vs6⟩ := (id B)
  have hin6 : ¬ (j < 0 ∨ cl6.slots.size ≤ (j).toNatClampNeg) := inb_of Sz6 ⟨hj, hc36⟩
  have hat6 : cl6.slots[(j).toNatClampNeg]? = some (.int (g (j).toNatClampNeg)) := Vs6 _ (Nat.lt_of_not_le fun q => hin6 (Or.inr q))
  show Steps p.tables e below (T0.setTop (mkF m 25 #[.val (.ref a), .val (.ref b), .val (.int cc), .val (.int al), .val (.int sh), .val (.int i), .val (.int j)] [])) target
  refine XS.iload X0.here hx rfl (hb hby d6_25) rfl ?_
  show Steps p.tables e below (T0.setTop (mkF m 27 #[.val (.ref a), .val (.ref b), .val (.int cc), .val (.int al), .val (.int sh), .val (.int i), .val (.int j)] [(.int i)])) target
  refine XS.aloadN X0.here hx rfl (hb hby d6_27) rfl rfl ?_
  show Steps p.tables e below (T0.setTop (mkF m 28 #[.val (.ref a), .val (.ref b), .val (.int cc), .val (.int al), .val (.int sh), .val (.int i), .val (.int j)] [(.ref a), (.int i)])) target
  refine X0.arraylength hx (Ar1.at_ e0) (State.isArrayOf_alike hZ.alike Ar1.2.1) (g := (mkF m 28 #[.val (.ref a), .val (.ref b), .val (.int cc), .val (.int al), .val (.int sh), .val (.int i), .val (.int j)] [(.ref a), (.int i)])) rfl rfl (hb hby d6_28) _ ?_
  rw [len_of Sz1 Ng1]
  show Steps p.tables e below (T0.setTop (mkF m 29 #[.val (.ref a), .val (.ref b), .val (.int cc), .val (.int al), .val (.int sh), .val (.int i), .val (.int j)] [(.int nn), (.int i)])) target
  refine XS.icmpNo X0.here hx rfl (hb hby d6_29) rfl (tlt (hc29 : i < nn)).2.1 ?_
  show Steps p.tables e below (T0.setTop (mkF m 32 #[.val (.ref a), .val (.ref b), .val (.int cc), .val (.int al), .val (.int sh), .val (.int i), .val (.int j)] [])) target
  refine XS.iload X0.here hx rfl (hb hby d6_32) rfl ?_
  show Steps p.tables e below (T0.setTop (mkF m 34 #[.val (.ref a), .val (.ref b), .val (.int cc), .val (.int al), .val (.int sh), .val (.int i), .val (.int j)] [(.int j)])) target
  refine XS.aloadN X0.here hx rfl (hb hby d6_34) rfl rfl ?_
  show Steps p.tables e below (T0.setTop (mkF m 35 #[.val (.ref a), .val (.ref b), .val (.int cc), .val (.int al), .val (.int sh), .val (.int i), .val (.int j)] [(.ref b), (.int j)])) target
  refine X0.arraylength hx (Ar2.at_ e0) (State.isArrayOf_alike hZ.alike Ar2.2.1) (g := (mkF m 35 #[.val (.ref a), .val (.ref b), .val (.int cc), .val (.int al), .val (.int sh), .val (.int i), .val (.int j)] [(.ref b), (.int j)])) rfl rfl (hb hby d6_35) _ ?_
  rw [len_of Sz2 Ng2]
  show Steps p.tables e below (T0.setTop (mkF m 36 #[.val (.ref a), .val (.ref b), .val (.int cc), .val (.int al), .val (.int sh), .val (.int i), .val (.int j)] [(.int mm), (.int j)])) target
  refine XS.icmpNo X0.here hx rfl (hb hby d6_36) rfl (tlt (hc36 : j < mm)).2.1 ?_
  show Steps p.tables e below (T0.setTop (mkF m 39 #[.val (.ref a), .val (.ref b), .val (.int cc), .val (.int al), .val (.int sh), .val (.int i), .val (.int j)] [])) target
  refine XS.aloadN X0.here hx rfl (hb hby d6_39) rfl rfl ?_
  show Steps p.tables e below (T0.setTop (mkF m 40 #[.val (.ref a), .val (.ref b), .val (.int cc), .val (.int al), .val (.int sh), .val (.int i), .val (.int j)] [(.ref a)])) target
  refine XS.iload X0.here hx rfl (hb hby d6_40) rfl ?_
  show Steps p.tables e below (T0.setTop (mkF m 42 #[.val (.ref a), .val (.ref b), .val (.int cc), .val (.int al), .val (.int sh), .val (.int i), .val (.int j)] [(.int i), (.ref a)])) target
  refine X0.iaload hx (j := i) (v := (.int (f (i).toNatClampNeg))) (Ar3.at_ e0) (State.isArrayOf_alike hZ.alike Ar3.2.1) Ar3.2.2 hin3 hat3 (g := (mkF m 42 #[.val (.ref a), .val (.ref b), .val (.int cc), .val (.int al), .val (.int sh), .val (.int i), .val (.int j)] [(.int i), (.ref a)])) rfl rfl (hb hby d6_42) _ ?_
  show Steps p.tables e below (T0.setTop (mkF m 43 #[.val (.ref a), .val (.ref b), .val (.int cc), .val (.int al), .val (.int sh), .val (.int i), .val (.int j)] [(.int (f (i).toNatClampNeg))])) target
  refine XS.aloadN X0.here hx rfl (hb hby d6_43) rfl rfl ?_
  show Steps p.tables e below (T0.setTop (mkF m 44 #[.val (.ref a), .val (.ref b), .val (.int cc), .val (.int al), .val (.int sh), .val (.int i), .val (.int j)] [(.ref b), (.int (f (i).toNatClampNeg))])) target
  refine XS.iload X0.here hx rfl (hb hby d6_44) rfl ?_
  show Steps p.tables e below (T0.setTop (mkF m 46 #[.val (.ref a), .val (.ref b), .val (.int cc), .val (.int al), .val (.int sh), .val (.int i), .val (.int j)] [(.int j), (.ref b), (.int (f (i).toNatClampNeg))])) target
  refine X0.iaload hx (j := j) (v := (.int (g (j).toNatClampNeg))) (Ar4.at_ e0) (State.isArrayOf_alike hZ.alike Ar4.2.1) Ar4.2.2 hin4 hat4 (g := (mkF m 46 #[.val (.ref a), .val (.ref b), .val (.int cc), .val (.int al), .val (.int sh), .val (.int i), .val (.int j)] [(.int j), (.ref b), (.int (f (i).toNatClampNeg))])) rfl rfl (hb hby d6_46) _ ?_
  show Steps p.tables e below (T0.setTop (mkF m 47 #[.val (.ref a), .val (.ref b), .val (.int cc), .val (.int al), .val (.int sh), .val (.int i), .val (.int j)] [(.int (g (j).toNatClampNeg)), (.int (f (i).toNatClampNeg))])) target
  refine XS.icmpYes X0.here hx rfl (pc0 := 47) (pc' := 62) rfl (hb hby d6_47) rfl (feq (hc47 : ¬ ((f (i).toNatClampNeg) = (g (j).toNatClampNeg)))).2 (by decide) (by decide) ?_
  show Steps p.tables e below (T0.setTop (mkF m 62 #[.val (.ref a), .val (.ref b), .val (.int cc), .val (.int al), .val (.int sh), .val (.int i), .val (.int j)] [])) target
  refine XS.aloadN X0.here hx rfl (hb hby d6_62) rfl rfl ?_
  show Steps p.tables e below (T0.setTop (mkF m 63 #[.val (.ref a), .val (.ref b), .val (.int cc), .val (.int al), .val (.int sh), .val (.int i), .val (.int j)] [(.ref a)])) target
  refine XS.iload X0.here hx rfl (hb hby d6_63) rfl ?_
  show Steps p.tables e below (T0.setTop (mkF m 65 #[.val (.ref a), .val (.ref b), .val (.int cc), .val (.int al), .val (.int sh), .val (.int i), .val (.int j)] [(.int i), (.ref a)])) target
  refine X0.iaload hx (j := i) (v := (.int (f (i).toNatClampNeg))) (Ar5.at_ e0) (State.isArrayOf_alike hZ.alike Ar5.2.1) Ar5.2.2 hin5 hat5 (g := (mkF m 65 #[.val (.ref a), .val (.ref b), .val (.int cc), .val (.int al), .val (.int sh), .val (.int i), .val (.int j)] [(.int i), (.ref a)])) rfl rfl (hb hby d6_65) _ ?_
  show Steps p.tables e below (T0.setTop (mkF m 66 #[.val (.ref a), .val (.ref b), .val (.int cc), .val (.int al), .val (.int sh), .val (.int i), .val (.int j)] [(.int (f (i).toNatClampNeg))])) target
  refine XS.aloadN X0.here hx rfl (hb hby d6_66) rfl rfl ?_
  show Steps p.tables e below (T0.setTop (mkF m 67 #[.val (.ref a), .val (.ref b), .val (.int cc), .val (.int al), .val (.int sh), .val (.int i), .val (.int j)] [(.ref b), (.int (f (i).toNatClampNeg))])) target
  refine XS.iload X0.here hx rfl (hb hby d6_67) rfl ?_
  show Steps p.tables e below (T0.setTop (mkF m 69 #[.val (.ref a), .val (.ref b), .val (.int cc), .val (.int al), .val (.int sh), .val (.int i), .val (.int j)] [(.int j), (.ref b), (.int (f (i).toNatClampNeg))])) target
  refine X0.iaload hx (j := j) (v := (.int (g (j).toNatClampNeg))) (Ar6.at_ e0) (State.isArrayOf_alike hZ.alike Ar6.2.1) Ar6.2.2 hin6 hat6 (g := (mkF m 69 #[.val (.ref a), .val (.ref b), .val (.int cc), .val (.int al), .val (.int sh), .val (.int i), .val (.int j)] [(.int j), (.ref b), (.int (f (i).toNatClampNeg))])) rfl rfl (hb hby d6_69) _ ?_
  show Steps p.tables e below (T0.setTop (mkF m 70 #[.val (.ref a), .val (.ref b), .val (.int cc), .val (.int al), .val (.int sh), .val (.int i), .val (.int j)] [(.int (g (j).toNatClampNeg)), (.int (f (i).toNatClampNeg))])) target
  refine XS.icmpNo X0.here hx rfl (hb hby d6_70) rfl (tlt (hc70 : (f (i).toNatClampNeg) < (g (j).toNatClampNeg))).2.1 ?_
  show Steps p.tables e below (T0.setTop (mkF m 73 #[.val (.ref a), .val (.ref b), .val (.int cc), .val (.int al), .val (.int sh), .val (.int i), .val (.int j)] [])) target
  refine XS.iinc X0.here hx rfl (hb hby d6_73) rfl (l' := #[.val (.ref a), .val (.ref b), .val (.int cc), .val (.int al), .val (.int sh), .val (.int (i + (1 : Int32))), .val (.int j)]) rfl ?_
  show Steps p.tables e below (T0.setTop (mkF m 76 #[.val (.ref a), .val (.ref b), .val (.int cc), .val (.int al), .val (.int sh), .val (.int (i + (1 : Int32))), .val (.int j)] [])) target
  refine XS.goto X0.here hx rfl (pc0 := 76) (pc' := 25) rfl (hb hby d6_76) (by decide) (by decide) ?_
  show Steps p.tables e below (T0.setTop (mkF m 25 #[.val (.ref a), .val (.ref b), .val (.int cc), .val (.int al), .val (.int sh), .val (.int (i + (1 : Int32))), .val (.int j)] [])) target
  exact kt
theorem d6_79 : decode prog_81_method_3_code 79 = .ok (.iinc 6 1, 3) := by decide +kernel
theorem d6_82 : decode prog_81_method_3_code 82 = .ok (.goto (-57), 3) := by decide +kernel
set_option maxRecDepth 65536 in
set_option maxHeartbeats 40000000 in
theorem lk_gt {p : Program} {l : Launch} {e : Env} {R : Room} {s : State} {m : MethodId} {args : Array Value} {below : List Frame} {meth : Method} {c : Code} {T0 : State} {locs : List Loc} {cells slots : Nat} {Z : State} {h0 : Heap} {a b : Addr} {cc al sh i j nn mm : Int32} {f g : Nat → Int32} (X0 : Stand p l e R s m args below meth c T0 locs cells slots) (hx : p.tables.exec = Jvm.exec) (hZ : Z.Warmed39 s.vm) (hby : c.code = prog_81_method_3_code) (e0 : T0.heap = h0) (A : ArF Z h0 a nn f) (B : ArF Z h0 b mm g) (hi : ¬ i < 0) (hj : ¬ j < 0) (hc29 : i < nn) (hc36 : j < mm) (hc47 : ¬ ((f (i).toNatClampNeg) = (g (j).toNatClampNeg))) (hc70 : ¬ ((f (i).toNatClampNeg) < (g (j).toNatClampNeg))) :
    ∀ target, Steps p.tables e below (T0.setTop (mkF m 25 #[.val (.ref a), .val (.ref b), .val (.int cc), .val (.int al), .val (.int sh), .val (.int i), .val (.int (j + (1 : Int32)))] [])) target → Steps p.tables e below (T0.setTop (mkF m 25 #[.val (.ref a), .val (.ref b), .val (.int cc), .val (.int al), .val (.int sh), .val (.int i), .val (.int j)] [])) target := by
  intro target kt
  obtain ⟨cl1, Ar1, Sz1, Ng1, -⟩ := (id A)
  obtain ⟨cl2, Ar2, Sz2, Ng2, -⟩ := (id B)
  obtain ⟨cl3, Ar3, Sz3, Ng3, Vs3⟩ := (id A)
  have hin3 : ¬ (i < 0 ∨ cl3.slots.size ≤ (i).toNatClampNeg) := inb_of Sz3 ⟨hi, hc29⟩
  have hat3 : cl3.slots[(i).toNatClampNeg]? = some (.int (f (i).toNatClampNeg)) := Vs3 _ (Nat.lt_of_not_le fun q => hin3 (Or.inr q))
  obtain ⟨cl4, Ar4, Sz4, Ng4, Vs4⟩ := (id B)
  have hin4 : ¬ (j < 0 ∨ cl4.slots.size ≤ (j).toNatClampNeg) := inb_of Sz4 ⟨hj, hc36⟩
  have hat4 : cl4.slots[(j).toNatClampNeg]? = some (.int (g (j).toNatClampNeg)) := Vs4 _ (Nat.lt_of_not_le fun q => hin4 (Or.inr q))
  obtain ⟨cl5, Ar5, Sz5, Ng5, Vs5⟩ := (id A)
  have hin5 : ¬ (i < 0 ∨ cl5.slots.size ≤ (i).toNatClampNeg) := inb_of Sz5 ⟨hi, hc29⟩
  have hat5 : cl5.slots[(i).toNatClampNeg]? = some (.int (f (i).toNatClampNeg)) := Vs5 _ (Nat.lt_of_not_le fun q => hin5 (Or.inr q))
  obtain ⟨cl6, Ar6, Sz6, Ng6, Vs6⟩ := (id B)
  have hin6 : ¬ (j < 0 ∨ cl6.slots.size ≤ (j).toNatClampNeg) := inb_of Sz6 ⟨hj, hc36⟩
  have hat6 : cl6.slots[(j).toNatClampNeg]? = some (.int (g (j).toNatClampNeg)) := Vs6 _ (Nat.lt_of_not_le fun q => hin6 (Or.inr q))
  show Steps p.tables e below (T0.setTop (mkF m 25 #[.val (.ref a), .val (.ref b), .val (.int cc), .val (.int al), .val (.int sh), .val (.int i), .val (.int j)] [])) target
  refine XS.iload X0.here hx rfl (hb hby d6_25) rfl ?_
  show Steps p.tables e below (T0.setTop (mkF m 27 #[.val (.ref a), .val (.ref b), .val (.int cc), .val (.int al), .val (.int sh), .val (.int i), .val (.int j)] [(.int i)])) target
  refine XS.aloadN X0.here hx rfl (hb hby d6_27) rfl rfl ?_
  show Steps p.tables e below (T0.setTop (mkF m 28 #[.val (.ref a), .val (.ref b), .val (.int cc), .val (.int al), .val (.int sh), .val (.int i), .val (.int j)] [(.ref a), (.int i)])) target
  refine X0.arraylength hx (Ar1.at_ e0) (State.isArrayOf_alike hZ.alike Ar1.2.1) (g := (mkF m 28 #[.val (.ref a), .val (.ref b), .val (.int cc), .val (.int al), .val (.int sh), .val (.int i), .val (.int j)] [(.ref a), (.int i)])) rfl rfl (hb hby d6_28) _ ?_
  rw [len_of Sz1 Ng1]
  show Steps p.tables e below (T0.setTop (mkF m 29 #[.val (.ref a), .val (.ref b), .val (.int cc), .val (.int al), .val (.int sh), .val (.int i), .val (.int j)] [(.int nn), (.int i)])) target
  refine XS.icmpNo X0.here hx rfl (hb hby d6_29) rfl (tlt (hc29 : i < nn)).2.1 ?_
  show Steps p.tables e below (T0.setTop (mkF m 32 #[.val (.ref a), .val (.ref b), .val (.int cc), .val (.int al), .val (.int sh), .val (.int i), .val (.int j)] [])) target
  refine XS.iload X0.here hx rfl (hb hby d6_32) rfl ?_
  show Steps p.tables e below (T0.setTop (mkF m 34 #[.val (.ref a), .val (.ref b), .val (.int cc), .val (.int al), .val (.int sh), .val (.int i), .val (.int j)] [(.int j)])) target
  refine XS.aloadN X0.here hx rfl (hb hby d6_34) rfl rfl ?_
  show Steps p.tables e below (T0.setTop (mkF m 35 #[.val (.ref a), .val (.ref b), .val (.int cc), .val (.int al), .val (.int sh), .val (.int i), .val (.int j)] [(.ref b), (.int j)])) target
  refine X0.arraylength hx (Ar2.at_ e0) (State.isArrayOf_alike hZ.alike Ar2.2.1) (g := (mkF m 35 #[.val (.ref a), .val (.ref b), .val (.int cc), .val (.int al), .val (.int sh), .val (.int i), .val (.int j)] [(.ref b), (.int j)])) rfl rfl (hb hby d6_35) _ ?_
  rw [len_of Sz2 Ng2]
  show Steps p.tables e below (T0.setTop (mkF m 36 #[.val (.ref a), .val (.ref b), .val (.int cc), .val (.int al), .val (.int sh), .val (.int i), .val (.int j)] [(.int mm), (.int j)])) target
  refine XS.icmpNo X0.here hx rfl (hb hby d6_36) rfl (tlt (hc36 : j < mm)).2.1 ?_
  show Steps p.tables e below (T0.setTop (mkF m 39 #[.val (.ref a), .val (.ref b), .val (.int cc), .val (.int al), .val (.int sh), .val (.int i), .val (.int j)] [])) target
  refine XS.aloadN X0.here hx rfl (hb hby d6_39) rfl rfl ?_
  show Steps p.tables e below (T0.setTop (mkF m 40 #[.val (.ref a), .val (.ref b), .val (.int cc), .val (.int al), .val (.int sh), .val (.int i), .val (.int j)] [(.ref a)])) target
  refine XS.iload X0.here hx rfl (hb hby d6_40) rfl ?_
  show Steps p.tables e below (T0.setTop (mkF m 42 #[.val (.ref a), .val (.ref b), .val (.int cc), .val (.int al), .val (.int sh), .val (.int i), .val (.int j)] [(.int i), (.ref a)])) target
  refine X0.iaload hx (j := i) (v := (.int (f (i).toNatClampNeg))) (Ar3.at_ e0) (State.isArrayOf_alike hZ.alike Ar3.2.1) Ar3.2.2 hin3 hat3 (g := (mkF m 42 #[.val (.ref a), .val (.ref b), .val (.int cc), .val (.int al), .val (.int sh), .val (.int i), .val (.int j)] [(.int i), (.ref a)])) rfl rfl (hb hby d6_42) _ ?_
  show Steps p.tables e below (T0.setTop (mkF m 43 #[.val (.ref a), .val (.ref b), .val (.int cc), .val (.int al), .val (.int sh), .val (.int i), .val (.int j)] [(.int (f (i).toNatClampNeg))])) target
  refine XS.aloadN X0.here hx rfl (hb hby d6_43) rfl rfl ?_
  show Steps p.tables e below (T0.setTop (mkF m 44 #[.val (.ref a), .val (.ref b), .val (.int cc), .val (.int al), .val (.int sh), .val (.int i), .val (.int j)] [(.ref b), (.int (f (i).toNatClampNeg))])) target
  refine XS.iload X0.here hx rfl (hb hby d6_44) rfl ?_
  show Steps p.tables e below (T0.setTop (mkF m 46 #[.val (.ref a), .val (.ref b), .val (.int cc), .val (.int al), .val (.int sh), .val (.int i), .val (.int j)] [(.int j), (.ref b), (.int (f (i).toNatClampNeg))])) target
  refine X0.iaload hx (j := j) (v := (.int (g (j).toNatClampNeg))) (Ar4.at_ e0) (State.isArrayOf_alike hZ.alike Ar4.2.1) Ar4.2.2 hin4 hat4 (g := (mkF m 46 #[.val (.ref a), .val (.ref b), .val (.int cc), .val (.int al), .val (.int sh), .val (.int i), .val (.int j)] [(.int j), (.ref b), (.int (f (i).toNatClampNeg))])) rfl rfl (hb hby d6_46) _ ?_
  show Steps p.tables e below (T0.setTop (mkF m 47 #[.val (.ref a), .val (.ref b), .val (.int cc), .val (.int al), .val (.int sh), .val (.int i), .val (.int j)] [(.int (g (j).toNatClampNeg)), (.int (f (i).toNatClampNeg))])) target
  refine XS.icmpYes X0.here hx rfl (pc0 := 47) (pc' := 62) rfl (hb hby d6_47) rfl (feq (hc47 : ¬ ((f (i).toNatClampNeg) = (g (j).toNatClampNeg)))).2 (by decide) (by decide) ?_
  show Steps p.tables e below (T0.setTop (mkF m 62 #[.val (.ref a), .val (.ref b), .val (.int cc), .val (.int al), .val (.int sh), .val (.int i), .val (.int j)] [])) target
  refine XS.aloadN X0.here hx rfl (hb hby d6_62) rfl rfl ?_
  show Steps p.tables e below (T0.setTop (mkF m 63 #[.val (.ref a), .val (.ref b), .val (.int cc), .val (.int al), .val (.int sh), .val (.int i), .val (.int j)] [(.ref a)])) target
  refine XS.iload X0.here hx rfl (hb hby d6_63) rfl ?_
  show Steps p.tables e below (T0.setTop (mkF m 65 #[.val (.ref a), .val (.ref b), .val (.int cc), .val (.int al), .val (.int sh), .val (.int i), .val (.int j)] [(.int i), (.ref a)])) target
  refine X0.iaload hx (j := i) (v := (.int (f (i).toNatClampNeg))) (Ar5.at_ e0) (State.isArrayOf_alike hZ.alike Ar5.2.1) Ar5.2.2 hin5 hat5 (g := (mkF m 65 #[.val (.ref a), .val (.ref b), .val (.int cc), .val (.int al), .val (.int sh), .val (.int i), .val (.int j)] [(.int i), (.ref a)])) rfl rfl (hb hby d6_65) _ ?_
  show Steps p.tables e below (T0.setTop (mkF m 66 #[.val (.ref a), .val (.ref b), .val (.int cc), .val (.int al), .val (.int sh), .val (.int i), .val (.int j)] [(.int (f (i).toNatClampNeg))])) target
  refine XS.aloadN X0.here hx rfl (hb hby d6_66) rfl rfl ?_
  show Steps p.tables e below (T0.setTop (mkF m 67 #[.val (.ref a), .val (.ref b), .val (.int cc), .val (.int al), .val (.int sh), .val (.int i), .val (.int j)] [(.ref b), (.int (f (i).toNatClampNeg))])) target
  refine XS.iload X0.here hx rfl (hb hby d6_67) rfl ?_
  show Steps p.tables e below (T0.setTop (mkF m 69 #[.val (.ref a), .val (.ref b), .val (.int cc), .val (.int al), .val (.int sh), .val (.int i), .val (.int j)] [(.int j), (.ref b), (.int (f (i).toNatClampNeg))])) target
  refine X0.iaload hx (j := j) (v := (.int (g (j).toNatClampNeg))) (Ar6.at_ e0) (State.isArrayOf_alike hZ.alike Ar6.2.1) Ar6.2.2 hin6 hat6 (g := (mkF m 69 #[.val (.ref a), .val (.ref b), .val (.int cc), .val (.int al), .val (.int sh), .val (.int i), .val (.int j)] [(.int j), (.ref b), (.int (f (i).toNatClampNeg))])) rfl rfl (hb hby d6_69) _ ?_
  show Steps p.tables e below (T0.setTop (mkF m 70 #[.val (.ref a), .val (.ref b), .val (.int cc), .val (.int al), .val (.int sh), .val (.int i), .val (.int j)] [(.int (g (j).toNatClampNeg)), (.int (f (i).toNatClampNeg))])) target
  refine XS.icmpYes X0.here hx rfl (pc0 := 70) (pc' := 79) rfl (hb hby d6_70) rfl (flt (hc70 : ¬ ((f (i).toNatClampNeg) < (g (j).toNatClampNeg)))).2.1 (by decide) (by decide) ?_
  show Steps p.tables e below (T0.setTop (mkF m 79 #[.val (.ref a), .val (.ref b), .val (.int cc), .val (.int al), .val (.int sh), .val (.int i), .val (.int j)] [])) target
  refine XS.iinc X0.here hx rfl (hb hby d6_79) rfl (l' := #[.val (.ref a), .val (.ref b), .val (.int cc), .val (.int al), .val (.int sh), .val (.int i), .val (.int (j + (1 : Int32)))]) rfl ?_
  show Steps p.tables e below (T0.setTop (mkF m 82 #[.val (.ref a), .val (.ref b), .val (.int cc), .val (.int al), .val (.int sh), .val (.int i), .val (.int (j + (1 : Int32)))] [])) target
  refine XS.goto X0.here hx rfl (pc0 := 82) (pc' := 25) rfl (hb hby d6_82) (by decide) (by decide) ?_
  show Steps p.tables e below (T0.setTop (mkF m 25 #[.val (.ref a), .val (.ref b), .val (.int cc), .val (.int al), .val (.int sh), .val (.int i), .val (.int (j + (1 : Int32)))] [])) target
  exact kt
theorem i_suc {i nn : Int32} (h : i < nn) (h0 : ¬ i < 0) (h3 : nn.toInt ≤ 3) : (i + (1 : Int32)).toInt = i.toInt + 1 := by
  have q := c_iadd i 1; have r := rng32 (i + 1); have o : (1 : Int32).toInt = 1 := rfl; have z : (0 : Int32).toInt = 0 := rfl
  rw [Int32.lt_iff_toInt_lt] at h h0; omega
theorem lk_loop {p : Program} {l : Launch} {e : Env} {R : Room} {s : State} {m : MethodId} {args : Array Value} {below : List Frame} {meth : Method} {c : Code} {T0 : State} {locs : List Loc} {cells slots : Nat} {Z : State} {h0 : Heap} {a b : Addr} {cc al nn mm : Int32} {f g : Nat → Int32}
    (X0 : Stand p l e R s m args below meth c T0 locs cells slots) (hx : p.tables.exec = Jvm.exec) (hZ : Z.Warmed39 s.vm) (hby : c.code = prog_81_method_3_code) (e0 : T0.heap = h0) (A : ArF Z h0 a nn f) (B : ArF Z h0 b mm g) (h3 : nn.toInt ≤ 3) (h4 : mm.toInt ≤ 3) :
    ∀ (k : Nat) (sh i j : Int32), ¬ i < 0 → ¬ j < 0 → i.toInt ≤ nn.toInt → j.toInt ≤ mm.toInt → (nn.toInt - i.toInt) + (mm.toInt - j.toInt) ≤ k →
      ∃ i' j', ∀ target, Steps p.tables e below (T0.setTop (mkF m 85 #[.val (.ref a), .val (.ref b), .val (.int cc), .val (.int al), .val (.int (mrg nn mm f g k i j sh)), .val (.int i'), .val (.int j')] [])) target → Steps p.tables e below (T0.setTop (mkF m 25 #[.val (.ref a), .val (.ref b), .val (.int cc), .val (.int al), .val (.int sh), .val (.int i), .val (.int j)] [])) target := by
  intro k
  induction k with
  | zero =>
    intro sh i j hi hj h1 h2 hk
    have q : ¬ i < nn := by rw [Int32.lt_iff_toInt_lt]; omega
    exact ⟨i, j, lk_x1 X0 hx hZ hby e0 A B hi hj q⟩
  | succ k ih =>
    intro sh i j hi hj h1 h2 hk
    have z : (0 : Int32).toInt = 0 := rfl
    by_cases c1 : i < nn
    · by_cases c2 : j < mm
      · have s1 := i_suc c1 hi h3
        have s2 := i_suc c2 hj h4
        have n1 : ¬ (i + (1 : Int32)) < 0 := by rw [Int32.lt_iff_toInt_lt] at hi ⊢; omega
        have n2 : ¬ (j + (1 : Int32)) < 0 := by rw [Int32.lt_iff_toInt_lt] at hj ⊢; omega
        have c1' := c1; have c2' := c2
        rw [Int32.lt_iff_toInt_lt] at c1' c2'
        by_cases c3 : f i.toNatClampNeg = g j.toNatClampNeg
        · obtain ⟨i', j', st⟩ := ih (sh + 1) (i + 1) (j + 1) n1 n2 (by omega) (by omega) (by omega)
          refine ⟨i', j', fun target kt => lk_eq X0 hx hZ hby e0 A B hi hj c1 c2 c3 target (st target ?_)⟩
          rw [mrg, if_pos c1, if_pos c2, if_pos c3] at kt; exact kt
        · by_cases c4 : f i.toNatClampNeg < g j.toNatClampNeg
          · obtain ⟨i', j', st⟩ := ih sh (i + 1) j n1 hj (by omega) (by omega) (by omega)
            refine ⟨i', j', fun target kt => lk_lt X0 hx hZ hby e0 A B hi hj c1 c2 c3 c4 target (st target ?_)⟩
            rw [mrg, if_pos c1, if_pos c2, if_neg c3, if_pos c4] at kt; exact kt
          · obtain ⟨i', j', st⟩ := ih sh i (j + 1) hi n2 (by omega) (by omega) (by omega)
            refine ⟨i', j', fun target kt => lk_gt X0 hx hZ hby e0 A B hi hj c1 c2 c3 c4 target (st target ?_)⟩
            rw [mrg, if_pos c1, if_pos c2, if_neg c3, if_neg c4] at kt; exact kt
      · refine ⟨i, j, fun target kt => lk_x2 X0 hx hZ hby e0 A B hi hj c1 c2 target ?_⟩
        rw [mrg, if_pos c1, if_neg c2] at kt; exact kt
    · refine ⟨i, j, fun target kt => lk_x1 X0 hx hZ hby e0 A B hi hj c1 target ?_⟩
      rw [mrg, if_neg c1] at kt; exact kt
def Q_lkR (Z : State) (a : Addr) (b : Addr) (cc : Int32) (nn : Int32) (mm : Int32) (f : Nat → Int32) (g : Nat → Int32) (h0 : Heap) (n0 : Nat) (v : Option Value) (h : Heap) (L : List Loc) : Prop := v = some (.double (lkD nn mm f g cc)) ∧ Fr n0 L ∧ h = h0
theorem d6_0 : decode prog_81_method_3_code 0 = .ok (.aload_n 0, 1) := by decide +kernel
theorem d6_1 : decode prog_81_method_3_code 1 = .ok (.arraylength, 1) := by decide +kernel
theorem d6_2 : decode prog_81_method_3_code 2 = .ok (.aload_n 1, 1) := by decide +kernel
theorem d6_3 : decode prog_81_method_3_code 3 = .ok (.arraylength, 1) := by decide +kernel
theorem d6_4 : decode prog_81_method_3_code 4 = .ok (.iadd, 1) := by decide +kernel
theorem d6_5 : decode prog_81_method_3_code 5 = .ok (.iconst 2, 1) := by decide +kernel
theorem d6_6 : decode prog_81_method_3_code 6 = .ok (.iload_n 2, 1) := by decide +kernel
theorem d6_7 : decode prog_81_method_3_code 7 = .ok (.imul, 1) := by decide +kernel
theorem d6_8 : decode prog_81_method_3_code 8 = .ok (.iadd, 1) := by decide +kernel
theorem d6_9 : decode prog_81_method_3_code 9 = .ok (.istore_n 3, 1) := by decide +kernel
theorem d6_10 : decode prog_81_method_3_code 10 = .ok (.iload_n 3, 1) := by decide +kernel
theorem d6_11 : decode prog_81_method_3_code 11 = .ok (.ifCond .ne 5, 3) := by decide +kernel
theorem d6_14 : decode prog_81_method_3_code 14 = .ok (.dconst 1, 1) := by decide +kernel
theorem d6_15 : decode prog_81_method_3_code 15 = .ok (.dreturn, 1) := by decide +kernel
theorem pn_7 : plainName "com/example/recital/recital/document/Words" = true := by first | (simp [plainName, overriddenIn]; done) | decide +kernel
theorem ef_6_RRI (m : MethodId) (x0 : Addr) (x1 : Addr) (x2 : Int32) : entryFrame m #[(.ref x0), (.ref x1), (.int x2)] 7 = mkF m 0 #[.val (.ref x0), .val (.ref x1), .val (.int x2), .unset, .unset, .unset, .unset] [] := by first | (simp [entryFrame, mkF, argsToLocals, Value.category]; done) | rfl
set_option maxRecDepth 65536 in
set_option maxHeartbeats 40000000 in
theorem lkR_1 (l : Launch) (Z : State) (a0 : Array Value) (hw : ∀ d ∈ tables_1, d.before a0 Z = true) (ws : List Jvm.Cond) (a : Addr) (b : Addr) (cc : Int32) (nn : Int32) (mm : Int32) (f : Nat → Int32) (g : Nat → Int32) (h0 : Heap) (n0 : Nat) (Z0 : n0 ≤ h0.size) (P0 : ArF Z h0 a nn f) (P1 : ArF Z h0 b mm g) (h3 : nn.toInt ≤ 3) (h4 : mm.toInt ≤ 3) (hc11 : ((nn + mm) + ((2 : Int32) * cc)) = (0 : Int32)) :
    MetFree l (⟨"com/example/recital/recital/document/Words", "likeness", "([I[II)D"⟩ : MethodName) (head1 (Jvm.Cond.code (⟨"com/example/recital/recital/document/Words", "likeness", "([I[II)D"⟩ : MethodName) prog_81_method_3_code 7 (some .double) :: ws) ({ frames := 0, cells := 0, slots := 0, locals := 0 } : Room)) (fun zA zU => zA = #[(.ref a), (.ref b), (.int cc)] ∧ Z.Warmed39 zU.vm ∧ zU.heap = h0) (fun _ _ _ _ _ => True) (fun _ zU zo zU' => ∃ zv zL, zo = .returned zv ∧ Q_lkR Z a b cc nn mm f g h0 n0 zv zU'.heap zL ∧ FrameEnd zU zo zU' zL ({ frames := 0, cells := 0, slots := 0, locals := 0 } : Room).cells ({ frames := 0, cells := 0, slots := 0, locals := 0 } : Room).slots) := by
  refine MetFree.of_bodySF (plainFor_of_name pn_7) hisR ?_
  intro p e s m args below meth c s₁ Bd hml0 hP hK
  obtain ⟨rfl, hZ, hh⟩ := hP
  have hx := Bd.exec
  have hby := Bd.bytes
  have hml : c.maxLocals = 7 := hml0
  have hown : s.vm.findClass "com/example/recital/recital/document/Words" = some m.cls := findClass_of_methodNamed Bd.named
  have hnm := (name_of_methodNamed Bd.named Bd.method).1
  have X0 : Stand p l e ({ frames := 0, cells := 0, slots := 0, locals := 0 } : Room) s m #[(.ref a), (.ref b), (.int cc)] below meth c s₁ [] 0 0 := Stand.of_body Bd
  have e0 : s₁.heap = h0 := by rw [← hh, Bd.state]; rfl
  have N0 := Fr.nil n0
  have pre0 : ∀ zt, Steps p.tables e below (s₁.setTop (mkF m 0 #[.val (.ref a), .val (.ref b), .val (.int cc), .unset, .unset, .unset, .unset] [])) zt → Steps p.tables e below (s₁.setTop (entryFrame m #[(.ref a), (.ref b), (.int cc)] 7)) zt := fun zt zk => castTop (ef_6_RRI m a b cc) zk
  obtain ⟨cl1, Ar1, Sz1, Ng1, -⟩ := (id P0)
  obtain ⟨cl2, Ar2, Sz2, Ng2, -⟩ := (id P1)
  obtain ⟨fs, hr, hrun, hended, hW, hsame⟩ := X0.leave (v := some (.double FP.dconst1)) (fun h => by rw [Bd.returns] at h; cases h)
  refine ⟨_, _, pre0 _ ?_, hrun, hended, _, _, rfl, ?_, ⟨_, rfl⟩, hW, hsame.mono (by decide) (by decide)⟩
  · show Steps p.tables e below (s₁.setTop (mkF m 0 #[.val (.ref a), .val (.ref b), .val (.int cc), .unset, .unset, .unset, .unset] [])) _
    refine XS.aloadN X0.here hx rfl (hb hby d6_0) rfl rfl ?_
    show Steps p.tables e below (s₁.setTop (mkF m 1 #[.val (.ref a), .val (.ref b), .val (.int cc), .unset, .unset, .unset, .unset] [(.ref a)])) _
    refine X0.arraylength hx (Ar1.at_ e0) (State.isArrayOf_alike hZ.alike Ar1.2.1) (g := (mkF m 1 #[.val (.ref a), .val (.ref b), .val (.int cc), .unset, .unset, .unset, .unset] [(.ref a)])) rfl rfl (hb hby d6_1) _ ?_
    rw [len_of Sz1 Ng1]
    show Steps p.tables e below (s₁.setTop (mkF m 2 #[.val (.ref a), .val (.ref b), .val (.int cc), .unset, .unset, .unset, .unset] [(.int nn)])) _
    refine XS.aloadN X0.here hx rfl (hb hby d6_2) rfl rfl ?_
    show Steps p.tables e below (s₁.setTop (mkF m 3 #[.val (.ref a), .val (.ref b), .val (.int cc), .unset, .unset, .unset, .unset] [(.ref b), (.int nn)])) _
    refine X0.arraylength hx (Ar2.at_ e0) (State.isArrayOf_alike hZ.alike Ar2.2.1) (g := (mkF m 3 #[.val (.ref a), .val (.ref b), .val (.int cc), .unset, .unset, .unset, .unset] [(.ref b), (.int nn)])) rfl rfl (hb hby d6_3) _ ?_
    rw [len_of Sz2 Ng2]
    show Steps p.tables e below (s₁.setTop (mkF m 4 #[.val (.ref a), .val (.ref b), .val (.int cc), .unset, .unset, .unset, .unset] [(.int mm), (.int nn)])) _
    refine XS.iadd X0.here hx rfl (hb hby d6_4) rfl ?_
    show Steps p.tables e below (s₁.setTop (mkF m 5 #[.val (.ref a), .val (.ref b), .val (.int cc), .unset, .unset, .unset, .unset] [(.int (nn + mm))])) _
    refine XS.iconst X0.here hx rfl (hb hby d6_5) ?_
    show Steps p.tables e below (s₁.setTop (mkF m 6 #[.val (.ref a), .val (.ref b), .val (.int cc), .unset, .unset, .unset, .unset] [(.int (2 : Int32)), (.int (nn + mm))])) _
    refine XS.iloadN X0.here hx rfl (hb hby d6_6) rfl ?_
    show Steps p.tables e below (s₁.setTop (mkF m 7 #[.val (.ref a), .val (.ref b), .val (.int cc), .unset, .unset, .unset, .unset] [(.int cc), (.int (2 : Int32)), (.int (nn + mm))])) _
    refine XS.imul X0.here hx rfl (hb hby d6_7) rfl ?_
    show Steps p.tables e below (s₁.setTop (mkF m 8 #[.val (.ref a), .val (.ref b), .val (.int cc), .unset, .unset, .unset, .unset] [(.int ((2 : Int32) * cc)), (.int (nn + mm))])) _
    refine XS.iadd X0.here hx rfl (hb hby d6_8) rfl ?_
    show Steps p.tables e below (s₁.setTop (mkF m 9 #[.val (.ref a), .val (.ref b), .val (.int cc), .unset, .unset, .unset, .unset] [(.int ((nn + mm) + ((2 : Int32) * cc)))])) _
    refine XS.istoreN X0.here hx rfl (hb hby d6_9) rfl (l' := #[.val (.ref a), .val (.ref b), .val (.int cc), .val (.int ((nn + mm) + ((2 : Int32) * cc))), .unset, .unset, .unset]) rfl ?_
    show Steps p.tables e below (s₁.setTop (mkF m 10 #[.val (.ref a), .val (.ref b), .val (.int cc), .val (.int ((nn + mm) + ((2 : Int32) * cc))), .unset, .unset, .unset] [])) _
    refine XS.iloadN X0.here hx rfl (hb hby d6_10) rfl ?_
    show Steps p.tables e below (s₁.setTop (mkF m 11 #[.val (.ref a), .val (.ref b), .val (.int cc), .val (.int ((nn + mm) + ((2 : Int32) * cc))), .unset, .unset, .unset] [(.int ((nn + mm) + ((2 : Int32) * cc)))])) _
    refine XS.ifNo X0.here hx rfl (hb hby d6_11) rfl ((if0 _ _).trans (teq (hc11 : ((nn + mm) + ((2 : Int32) * cc)) = (0 : Int32))).2) ?_
    show Steps p.tables e below (s₁.setTop (mkF m 14 #[.val (.ref a), .val (.ref b), .val (.int cc), .val (.int ((nn + mm) + ((2 : Int32) * cc))), .unset, .unset, .unset] [])) _
    refine XS.dconst1 X0.here hx rfl (hb hby d6_14) rfl ?_
    show Steps p.tables e below (s₁.setTop (mkF m 15 #[.val (.ref a), .val (.ref b), .val (.int cc), .val (.int ((nn + mm) + ((2 : Int32) * cc))), .unset, .unset, .unset] [(.double FP.dconst1)])) _
    jvm_step X0.here [X0.here.top, hx, (hb hby d6_15), X0.method', Bd.returns, narrow]
    first | (intro acts; rw [hr _ acts rfl rfl rfl]) | rw [hr _ _ rfl rfl rfl]
    exact Steps.refl _
  · show Q_lkR Z a b cc nn mm f g h0 n0 _ s₁.heap _
    rw [e0]
    exact ⟨by rw [lkD, if_pos hc11], N0, rfl⟩
theorem own_nn {Z : State} {h : Heap} {a : Addr} {n : Int32} {f : Nat → Int32} (F : ArF Z h a n f) : (0 : Int32).toInt ≤ n.toInt := by
  obtain ⟨c, -, -, N, -⟩ := F; rw [Int32.lt_iff_toInt_lt] at N; omega
theorem d6_16 : decode prog_81_method_3_code 16 = .ok (.iload_n 2, 1) := by decide +kernel
theorem d6_17 : decode prog_81_method_3_code 17 = .ok (.istore 4, 2) := by decide +kernel
theorem d6_19 : decode prog_81_method_3_code 19 = .ok (.iconst 0, 1) := by decide +kernel
theorem d6_20 : decode prog_81_method_3_code 20 = .ok (.istore 5, 2) := by decide +kernel
theorem d6_22 : decode prog_81_method_3_code 22 = .ok (.iconst 0, 1) := by decide +kernel
theorem d6_23 : decode prog_81_method_3_code 23 = .ok (.istore 6, 2) := by decide +kernel
theorem d6_85 : decode prog_81_method_3_code 85 = .ok (.ldc2_w 64, 3) := by decide +kernel
theorem d6_88 : decode prog_81_method_3_code 88 = .ok (.iload 4, 2) := by decide +kernel
theorem d6_90 : decode prog_81_method_3_code 90 = .ok (.i2d, 1) := by decide +kernel
theorem d6_91 : decode prog_81_method_3_code 91 = .ok (.dmul, 1) := by decide +kernel
theorem d6_92 : decode prog_81_method_3_code 92 = .ok (.iload_n 3, 1) := by decide +kernel
theorem d6_93 : decode prog_81_method_3_code 93 = .ok (.i2d, 1) := by decide +kernel
theorem d6_94 : decode prog_81_method_3_code 94 = .ok (.ddiv, 1) := by decide +kernel
theorem d6_95 : decode prog_81_method_3_code 95 = .ok (.dreturn, 1) := by decide +kernel
set_option maxRecDepth 65536 in
set_option maxHeartbeats 40000000 in
theorem lkR_2 (l : Launch) (Z : State) (a0 : Array Value) (hw : ∀ d ∈ tables_1, d.before a0 Z = true) (ws : List Jvm.Cond) (a : Addr) (b : Addr) (cc : Int32) (nn : Int32) (mm : Int32) (f : Nat → Int32) (g : Nat → Int32) (h0 : Heap) (n0 : Nat) (Z0 : n0 ≤ h0.size) (P0 : ArF Z h0 a nn f) (P1 : ArF Z h0 b mm g) (h3 : nn.toInt ≤ 3) (h4 : mm.toInt ≤ 3) (hc11 : ¬ (((nn + mm) + ((2 : Int32) * cc)) = (0 : Int32))) :
    MetFree l (⟨"com/example/recital/recital/document/Words", "likeness", "([I[II)D"⟩ : MethodName) (head1 (Jvm.Cond.code (⟨"com/example/recital/recital/document/Words", "likeness", "([I[II)D"⟩ : MethodName) prog_81_method_3_code 7 (some .double) :: ws) ({ frames := 0, cells := 0, slots := 0, locals := 0 } : Room)) (fun zA zU => zA = #[(.ref a), (.ref b), (.int cc)] ∧ Z.Warmed39 zU.vm ∧ zU.heap = h0) (fun _ _ _ _ _ => True) (fun _ zU zo zU' => ∃ zv zL, zo = .returned zv ∧ Q_lkR Z a b cc nn mm f g h0 n0 zv zU'.heap zL ∧ FrameEnd zU zo zU' zL ({ frames := 0, cells := 0, slots := 0, locals := 0 } : Room).cells ({ frames := 0, cells := 0, slots := 0, locals := 0 } : Room).slots) := by
  refine MetFree.of_bodySF (plainFor_of_name pn_7) hisR ?_
  intro p e s m args below meth c s₁ Bd hml0 hP hK
  obtain ⟨rfl, hZ, hh⟩ := hP
  have hx := Bd.exec
  have hby := Bd.bytes
  have hml : c.maxLocals = 7 := hml0
  have hown : s.vm.findClass "com/example/recital/recital/document/Words" = some m.cls := findClass_of_methodNamed Bd.named
  have hnm := (name_of_methodNamed Bd.named Bd.method).1
  have X0 : Stand p l e ({ frames := 0, cells := 0, slots := 0, locals := 0 } : Room) s m #[(.ref a), (.ref b), (.int cc)] below meth c s₁ [] 0 0 := Stand.of_body Bd
  have e0 : s₁.heap = h0 := by rw [← hh, Bd.state]; rfl
  have N0 := Fr.nil n0
  have pre0 : ∀ zt, Steps p.tables e below (s₁.setTop (mkF m 0 #[.val (.ref a), .val (.ref b), .val (.int cc), .unset, .unset, .unset, .unset] [])) zt → Steps p.tables e below (s₁.setTop (entryFrame m #[(.ref a), (.ref b), (.int cc)] 7)) zt := fun zt zk => castTop (ef_6_RRI m a b cc) zk
  obtain ⟨cl1, Ar1, Sz1, Ng1, -⟩ := (id P0)
  obtain ⟨cl2, Ar2, Sz2, Ng2, -⟩ := (id P1)
  obtain ⟨i3, j3, st3⟩ := lk_loop (cc := cc) (al := ((nn + mm) + ((2 : Int32) * cc))) X0 hx hZ hby e0 P0 P1 h3 h4 6 cc (0 : Int32) (0 : Int32) (by decide) (by decide) (own_nn P0) (own_nn P1) (by have : (0 : Int32).toInt = 0 := rfl; omega)
  obtain ⟨fs, hr, hrun, hended, hW, hsame⟩ := X0.leave (v := some (.double (FP.ddiv (FP.dmul (4611686018427387904 : UInt64) (FP.i2d (mrg nn mm f g 6 (0 : Int32) (0 : Int32) cc))) (FP.i2d ((nn + mm) + ((2 : Int32) * cc)))))) (fun h => by rw [Bd.returns] at h; cases h)
  refine ⟨_, _, pre0 _ ?_, hrun, hended, _, _, rfl, ?_, ⟨_, rfl⟩, hW, hsame.mono (by decide) (by decide)⟩
  · show Steps p.tables e below (s₁.setTop (mkF m 0 #[.val (.ref a), .val (.ref b), .val (.int cc), .unset, .unset, .unset, .unset] [])) _
    refine XS.aloadN X0.here hx rfl (hb hby d6_0) rfl rfl ?_
    show Steps p.tables e below (s₁.setTop (mkF m 1 #[.val (.ref a), .val (.ref b), .val (.int cc), .unset, .unset, .unset, .unset] [(.ref a)])) _
    refine X0.arraylength hx (Ar1.at_ e0) (State.isArrayOf_alike hZ.alike Ar1.2.1) (g := (mkF m 1 #[.val (.ref a), .val (.ref b), .val (.int cc), .unset, .unset, .unset, .unset] [(.ref a)])) rfl rfl (hb hby d6_1) _ ?_
    rw [len_of Sz1 Ng1]
    show Steps p.tables e below (s₁.setTop (mkF m 2 #[.val (.ref a), .val (.ref b), .val (.int cc), .unset, .unset, .unset, .unset] [(.int nn)])) _
    refine XS.aloadN X0.here hx rfl (hb hby d6_2) rfl rfl ?_
    show Steps p.tables e below (s₁.setTop (mkF m 3 #[.val (.ref a), .val (.ref b), .val (.int cc), .unset, .unset, .unset, .unset] [(.ref b), (.int nn)])) _
    refine X0.arraylength hx (Ar2.at_ e0) (State.isArrayOf_alike hZ.alike Ar2.2.1) (g := (mkF m 3 #[.val (.ref a), .val (.ref b), .val (.int cc), .unset, .unset, .unset, .unset] [(.ref b), (.int nn)])) rfl rfl (hb hby d6_3) _ ?_
    rw [len_of Sz2 Ng2]
    show Steps p.tables e below (s₁.setTop (mkF m 4 #[.val (.ref a), .val (.ref b), .val (.int cc), .unset, .unset, .unset, .unset] [(.int mm), (.int nn)])) _
    refine XS.iadd X0.here hx rfl (hb hby d6_4) rfl ?_
    show Steps p.tables e below (s₁.setTop (mkF m 5 #[.val (.ref a), .val (.ref b), .val (.int cc), .unset, .unset, .unset, .unset] [(.int (nn + mm))])) _
    refine XS.iconst X0.here hx rfl (hb hby d6_5) ?_
    show Steps p.tables e below (s₁.setTop (mkF m 6 #[.val (.ref a), .val (.ref b), .val (.int cc), .unset, .unset, .unset, .unset] [(.int (2 : Int32)), (.int (nn + mm))])) _
    refine XS.iloadN X0.here hx rfl (hb hby d6_6) rfl ?_
    show Steps p.tables e below (s₁.setTop (mkF m 7 #[.val (.ref a), .val (.ref b), .val (.int cc), .unset, .unset, .unset, .unset] [(.int cc), (.int (2 : Int32)), (.int (nn + mm))])) _
    refine XS.imul X0.here hx rfl (hb hby d6_7) rfl ?_
    show Steps p.tables e below (s₁.setTop (mkF m 8 #[.val (.ref a), .val (.ref b), .val (.int cc), .unset, .unset, .unset, .unset] [(.int ((2 : Int32) * cc)), (.int (nn + mm))])) _
    refine XS.iadd X0.here hx rfl (hb hby d6_8) rfl ?_
    show Steps p.tables e below (s₁.setTop (mkF m 9 #[.val (.ref a), .val (.ref b), .val (.int cc), .unset, .unset, .unset, .unset] [(.int ((nn + mm) + ((2 : Int32) * cc)))])) _
    refine XS.istoreN X0.here hx rfl (hb hby d6_9) rfl (l' := #[.val (.ref a), .val (.ref b), .val (.int cc), .val (.int ((nn + mm) + ((2 : Int32) * cc))), .unset, .unset, .unset]) rfl ?_
    show Steps p.tables e below (s₁.setTop (mkF m 10 #[.val (.ref a), .val (.ref b), .val (.int cc), .val (.int ((nn + mm) + ((2 : Int32) * cc))), .unset, .unset, .unset] [])) _
    refine XS.iloadN X0.here hx rfl (hb hby d6_10) rfl ?_
    show Steps p.tables e below (s₁.setTop (mkF m 11 #[.val (.ref a), .val (.ref b), .val (.int cc), .val (.int ((nn + mm) + ((2 : Int32) * cc))), .unset, .unset, .unset] [(.int ((nn + mm) + ((2 : Int32) * cc)))])) _
    refine XS.ifYes X0.here hx rfl (pc0 := 11) (pc' := 16) rfl (hb hby d6_11) rfl ((if0 _ _).trans (feq (hc11 : ¬ (((nn + mm) + ((2 : Int32) * cc)) = (0 : Int32)))).2) (by decide) (by decide) ?_
    show Steps p.tables e below (s₁.setTop (mkF m 16 #[.val (.ref a), .val (.ref b), .val (.int cc), .val (.int ((nn + mm) + ((2 : Int32) * cc))), .unset, .unset, .unset] [])) _
    refine XS.iloadN X0.here hx rfl (hb hby d6_16) rfl ?_
    show Steps p.tables e below (s₁.setTop (mkF m 17 #[.val (.ref a), .val (.ref b), .val (.int cc), .val (.int ((nn + mm) + ((2 : Int32) * cc))), .unset, .unset, .unset] [(.int cc)])) _
    refine XS.istore X0.here hx rfl (hb hby d6_17) rfl (l' := #[.val (.ref a), .val (.ref b), .val (.int cc), .val (.int ((nn + mm) + ((2 : Int32) * cc))), .val (.int cc), .unset, .unset]) rfl ?_
    show Steps p.tables e below (s₁.setTop (mkF m 19 #[.val (.ref a), .val (.ref b), .val (.int cc), .val (.int ((nn + mm) + ((2 : Int32) * cc))), .val (.int cc), .unset, .unset] [])) _
    refine XS.iconst X0.here hx rfl (hb hby d6_19) ?_
    show Steps p.tables e below (s₁.setTop (mkF m 20 #[.val (.ref a), .val (.ref b), .val (.int cc), .val (.int ((nn + mm) + ((2 : Int32) * cc))), .val (.int cc), .unset, .unset] [(.int (0 : Int32))])) _
    refine XS.istore X0.here hx rfl (hb hby d6_20) rfl (l' := #[.val (.ref a), .val (.ref b), .val (.int cc), .val (.int ((nn + mm) + ((2 : Int32) * cc))), .val (.int cc), .val (.int (0 : Int32)), .unset]) rfl ?_
    show Steps p.tables e below (s₁.setTop (mkF m 22 #[.val (.ref a), .val (.ref b), .val (.int cc), .val (.int ((nn + mm) + ((2 : Int32) * cc))), .val (.int cc), .val (.int (0 : Int32)), .unset] [])) _
    refine XS.iconst X0.here hx rfl (hb hby d6_22) ?_
    show Steps p.tables e below (s₁.setTop (mkF m 23 #[.val (.ref a), .val (.ref b), .val (.int cc), .val (.int ((nn + mm) + ((2 : Int32) * cc))), .val (.int cc), .val (.int (0 : Int32)), .unset] [(.int (0 : Int32))])) _
    refine XS.istore X0.here hx rfl (hb hby d6_23) rfl (l' := #[.val (.ref a), .val (.ref b), .val (.int cc), .val (.int ((nn + mm) + ((2 : Int32) * cc))), .val (.int cc), .val (.int (0 : Int32)), .val (.int (0 : Int32))]) rfl ?_
    show Steps p.tables e below (s₁.setTop (mkF m 25 #[.val (.ref a), .val (.ref b), .val (.int cc), .val (.int ((nn + mm) + ((2 : Int32) * cc))), .val (.int cc), .val (.int (0 : Int32)), .val (.int (0 : Int32))] [])) _
    refine st3 _ ?_
    show Steps p.tables e below (s₁.setTop (mkF m 85 #[.val (.ref a), .val (.ref b), .val (.int cc), .val (.int ((nn + mm) + ((2 : Int32) * cc))), .val (.int (mrg nn mm f g 6 (0 : Int32) (0 : Int32) cc)), .val (.int i3), .val (.int j3)] [])) _
    refine X0.ldc2DoubleC hx hown (mvT hZ (hw _ (List.mem_of_getElem? (i := 22) rfl))) (g := (mkF m 85 #[.val (.ref a), .val (.ref b), .val (.int cc), .val (.int ((nn + mm) + ((2 : Int32) * cc))), .val (.int (mrg nn mm f g 6 (0 : Int32) (0 : Int32) cc)), .val (.int i3), .val (.int j3)] [])) rfl (hb hby d6_85) _ ?_
    show Steps p.tables e below (s₁.setTop (mkF m 88 #[.val (.ref a), .val (.ref b), .val (.int cc), .val (.int ((nn + mm) + ((2 : Int32) * cc))), .val (.int (mrg nn mm f g 6 (0 : Int32) (0 : Int32) cc)), .val (.int i3), .val (.int j3)] [(.double (4611686018427387904 : UInt64))])) _
    refine XS.iload X0.here hx rfl (hb hby d6_88) rfl ?_
    show Steps p.tables e below (s₁.setTop (mkF m 90 #[.val (.ref a), .val (.ref b), .val (.int cc), .val (.int ((nn + mm) + ((2 : Int32) * cc))), .val (.int (mrg nn mm f g 6 (0 : Int32) (0 : Int32) cc)), .val (.int i3), .val (.int j3)] [(.int (mrg nn mm f g 6 (0 : Int32) (0 : Int32) cc)), (.double (4611686018427387904 : UInt64))])) _
    refine XS.i2dS X0.here hx rfl (hb hby d6_90) rfl rfl ?_
    show Steps p.tables e below (s₁.setTop (mkF m 91 #[.val (.ref a), .val (.ref b), .val (.int cc), .val (.int ((nn + mm) + ((2 : Int32) * cc))), .val (.int (mrg nn mm f g 6 (0 : Int32) (0 : Int32) cc)), .val (.int i3), .val (.int j3)] [(.double (FP.i2d (mrg nn mm f g 6 (0 : Int32) (0 : Int32) cc))), (.double (4611686018427387904 : UInt64))])) _
    refine XS.dmulS X0.here hx rfl (hb hby d6_91) rfl (nn_mul _) rfl ?_
    show Steps p.tables e below (s₁.setTop (mkF m 92 #[.val (.ref a), .val (.ref b), .val (.int cc), .val (.int ((nn + mm) + ((2 : Int32) * cc))), .val (.int (mrg nn mm f g 6 (0 : Int32) (0 : Int32) cc)), .val (.int i3), .val (.int j3)] [(.double (FP.dmul (4611686018427387904 : UInt64) (FP.i2d (mrg nn mm f g 6 (0 : Int32) (0 : Int32) cc))))])) _
    refine XS.iloadN X0.here hx rfl (hb hby d6_92) rfl ?_
    show Steps p.tables e below (s₁.setTop (mkF m 93 #[.val (.ref a), .val (.ref b), .val (.int cc), .val (.int ((nn + mm) + ((2 : Int32) * cc))), .val (.int (mrg nn mm f g 6 (0 : Int32) (0 : Int32) cc)), .val (.int i3), .val (.int j3)] [(.int ((nn + mm) + ((2 : Int32) * cc))), (.double (FP.dmul (4611686018427387904 : UInt64) (FP.i2d (mrg nn mm f g 6 (0 : Int32) (0 : Int32) cc))))])) _
    refine XS.i2dS X0.here hx rfl (hb hby d6_93) rfl rfl ?_
    show Steps p.tables e below (s₁.setTop (mkF m 94 #[.val (.ref a), .val (.ref b), .val (.int cc), .val (.int ((nn + mm) + ((2 : Int32) * cc))), .val (.int (mrg nn mm f g 6 (0 : Int32) (0 : Int32) cc)), .val (.int i3), .val (.int j3)] [(.double (FP.i2d ((nn + mm) + ((2 : Int32) * cc)))), (.double (FP.dmul (4611686018427387904 : UInt64) (FP.i2d (mrg nn mm f g 6 (0 : Int32) (0 : Int32) cc))))])) _
    refine XS.ddivS X0.here hx rfl (hb hby d6_94) rfl (nn_div _ hc11) rfl ?_
    show Steps p.tables e below (s₁.setTop (mkF m 95 #[.val (.ref a), .val (.ref b), .val (.int cc), .val (.int ((nn + mm) + ((2 : Int32) * cc))), .val (.int (mrg nn mm f g 6 (0 : Int32) (0 : Int32) cc)), .val (.int i3), .val (.int j3)] [(.double (FP.ddiv (FP.dmul (4611686018427387904 : UInt64) (FP.i2d (mrg nn mm f g 6 (0 : Int32) (0 : Int32) cc))) (FP.i2d ((nn + mm) + ((2 : Int32) * cc)))))])) _
    jvm_step X0.here [X0.here.top, hx, (hb hby d6_95), X0.method', Bd.returns, narrow]
    first | (intro acts; rw [hr _ acts rfl rfl rfl]) | rw [hr _ _ rfl rfl rfl]
    exact Steps.refl _
  · show Q_lkR Z a b cc nn mm f g h0 n0 _ s₁.heap _
    rw [e0]
    exact ⟨by rw [lkD, if_neg hc11], N0, rfl⟩
set_option maxRecDepth 65536 in
set_option maxHeartbeats 40000000 in
theorem lkR (l : Launch) (Z : State) (a0 : Array Value) (hw : ∀ d ∈ tables_1, d.before a0 Z = true) (ws : List Jvm.Cond) (a : Addr) (b : Addr) (cc : Int32) (nn : Int32) (mm : Int32) (f : Nat → Int32) (g : Nat → Int32) (h0 : Heap) (n0 : Nat) (Z0 : n0 ≤ h0.size) (P0 : ArF Z h0 a nn f) (P1 : ArF Z h0 b mm g) (h3 : nn.toInt ≤ 3) (h4 : mm.toInt ≤ 3) :
    MetFree l (⟨"com/example/recital/recital/document/Words", "likeness", "([I[II)D"⟩ : MethodName) (head1 (Jvm.Cond.code (⟨"com/example/recital/recital/document/Words", "likeness", "([I[II)D"⟩ : MethodName) prog_81_method_3_code 7 (some .double) :: ws) ({ frames := 0, cells := 0, slots := 0, locals := 0 } : Room)) (fun zA zU => zA = #[(.ref a), (.ref b), (.int cc)] ∧ Z.Warmed39 zU.vm ∧ zU.heap = h0) (fun _ _ _ _ _ => True) (fun _ zU zo zU' => ∃ zv zL, zo = .returned zv ∧ Q_lkR Z a b cc nn mm f g h0 n0 zv zU'.heap zL ∧ FrameEnd zU zo zU' zL ({ frames := 0, cells := 0, slots := 0, locals := 0 } : Room).cells ({ frames := 0, cells := 0, slots := 0, locals := 0 } : Room).slots) := by
  by_cases h1 : ((nn + mm) + ((2 : Int32) * cc)) = (0 : Int32)
  · exact lkR_1 l Z a0 hw ws a b cc nn mm f g h0 n0 Z0 P0 P1 h3 h4 h1
  · exact lkR_2 l Z a0 hw ws a b cc nn mm f g h0 n0 Z0 P0 P1 h3 h4 h1
theorem own_4 {k : Int32} {n : Nat} (h : n ≤ 3) (e : k = Int32.ofNat n) : k = 0 ∨ k = 1 ∨ k = 2 ∨ k = 3 := by
  subst e
  have g : n = 0 ∨ n = 1 ∨ n = 2 ∨ n = 3 := by omega
  rcases g with rfl | rfl | rfl | rfl
  · exact Or.inl rfl
  · exact Or.inr (Or.inl rfl)
  · exact Or.inr (Or.inr (Or.inl rfl))
  · exact Or.inr (Or.inr (Or.inr rfl))
theorem own_3 {k : Int32} {n : Nat} (h : n ≤ 3) (e : k = Int32.ofNat n) : k.toInt ≤ 3 := by subst e; rw [ofN_toInt (by omega)]; omega
def Q_law (Z : State) (ja : Int64) (a2 : Int32) (jb : Int64) (b2 : Int32) (co : Int32) (ln : Int32) (h0 : Heap) (n0 : Nat) (v : Option Value) (h : Heap) (L : List Loc) : Prop := v = some (.int (1 : Int32)) ∧ Fr n0 L
theorem pd_1 : parseMethodDescriptor "(IIII)[I" = some ⟨[.int, .int, .int, .int], some (.array .int)⟩ := by decide +kernel
theorem pd_2 : parseMethodDescriptor "([II[II)I" = some ⟨[(.array .int), .int, (.array .int), .int], some .int⟩ := by decide +kernel
theorem pd_3 : parseMethodDescriptor "([I[II)D" = some ⟨[(.array .int), (.array .int), .int], some .double⟩ := by decide +kernel
theorem ef_0_JIJIII (m : MethodId) (x0 : Int64) (x1 : Int32) (x2 : Int64) (x3 : Int32) (x4 : Int32) (x5 : Int32) : entryFrame m #[(.long x0), (.int x1), (.long x2), (.int x3), (.int x4), (.int x5)] maxLocals = mkF m 0 #[.val (.long x0), .second, .val (.int x1), .val (.long x2), .second, .val (.int x3), .val (.int x4), .val (.int x5), .unset, .unset, .unset, .unset, .unset, .unset, .unset, .unset, .unset, .unset, .unset, .unset, .unset, .unset, .unset, .unset, .unset, .unset, .unset, .unset, .unset] [] := by first | (simp [entryFrame, mkF, argsToLocals, Value.category, maxLocals]; done) | rfl
set_option maxRecDepth 65536 in
set_option maxHeartbeats 40000000 in
theorem law_1 (l : Launch) (Z : State) (a0 : Array Value) (hw : ∀ d ∈ tables_1, d.before a0 Z = true) (ws : List Jvm.Cond) (ja : Int64) (a2 : Int32) (jb : Int64) (b2 : Int32) (co : Int32) (ln : Int32) (h0 : Heap) (n0 : Nat) (O0 : Old Z n0 h0) (nn : Int32) (mm : Int32) (cc : Int32) (f : Nat → Int32) (g : Nat → Int32) (e00 : Int32) (e01 : Int32) (e02 : Int32) (e10 : Int32) (e11 : Int32) (e12 : Int32) (e20 : Int32) (e21 : Int32) (e22 : Int32) (m1 : Int32) (m2 : Int32) (m3 : Int32) (m4 : Int32) (m5 : Int32) (al : Int32) (hla : (ln &&& (3 : Int32)) = nn) (hlb : (((ln.toUInt32 >>> ((2 : Int32) &&& 31).toUInt32).toInt32) &&& (3 : Int32)) = mm) (hcc : ((co &&& (2147483647 : Int32)) % (1073741820 : Int32)) = cc) (hnn : nn = 0 ∨ nn = 1 ∨ nn = 2 ∨ nn = 3) (hmm : mm = 0 ∨ mm = 1 ∨ mm = 2 ∨ mm = 3) (hn3 : nn.toInt ≤ 3) (hm3 : mm.toInt ≤ 3) (hf : pick3 (s0V (ja.toInt32) ((ja.toUInt64 >>> ((32 : Int32) &&& 0x3f).toInt64.toUInt64).toInt64.toInt32) a2) (s1V (ja.toInt32) ((ja.toUInt64 >>> ((32 : Int32) &&& 0x3f).toInt64.toUInt64).toInt64.toInt32) a2) (s2V (ja.toInt32) ((ja.toUInt64 >>> ((32 : Int32) &&& 0x3f).toInt64.toUInt64).toInt64.toInt32) a2) = f) (hg : pick3 (s0V (jb.toInt32) ((jb.toUInt64 >>> ((32 : Int32) &&& 0x3f).toInt64.toUInt64).toInt64.toInt32) b2) (s1V (jb.toInt32) ((jb.toUInt64 >>> ((32 : Int32) &&& 0x3f).toInt64.toUInt64).toInt64.toInt32) b2) (s2V (jb.toInt32) ((jb.toUInt64 >>> ((32 : Int32) &&& 0x3f).toInt64.toUInt64).toInt64.toInt32) b2) = g) (h00 : (eqF nn mm f g (0 : Int32) (0 : Int32)) = e00) (h01 : (eqF nn mm f g (0 : Int32) (1 : Int32)) = e01) (h02 : (eqF nn mm f g (0 : Int32) (2 : Int32)) = e02) (h10 : (eqF nn mm f g (1 : Int32) (0 : Int32)) = e10) (h11 : (eqF nn mm f g (1 : Int32) (1 : Int32)) = e11) (h12 : (eqF nn mm f g (1 : Int32) (2 : Int32)) = e12) (h20 : (eqF nn mm f g (2 : Int32) (0 : Int32)) = e20) (h21 : (eqF nn mm f g (2 : Int32) (1 : Int32)) = e21) (h22 : (eqF nn mm f g (2 : Int32) (2 : Int32)) = e22) (g1 : (maxI ((e00 + e11) + e22) ((e00 + e12) + e21)) = m1) (g2 : (maxI m1 ((e01 + e10) + e22)) = m2) (g3 : (maxI m2 ((e01 + e12) + e20)) = m3) (g4 : (maxI m3 ((e02 + e10) + e21)) = m4) (g5 : (maxI m4 ((e02 + e11) + e20)) = m5) (hal : ((nn + mm) + ((2 : Int32) * cc)) = al) (hmr : mrg nn mm f g 6 (0 : Int32) (0 : Int32) cc = cc + m5) (hc260 : al = (0 : Int32)) :
    MetFree l x (head1 (Jvm.Cond.code x code maxLocals ret :: ws) room_1) (fun zA zU => zA = #[(.long ja), (.int a2), (.long jb), (.int b2), (.int co), (.int ln)] ∧ Z.Warmed39 zU.vm ∧ zU.heap = h0) (fun _ _ _ _ _ => True) (fun _ zU zo zU' => ∃ zv zL, zo = .returned zv ∧ Q_law Z ja a2 jb b2 co ln h0 n0 zv zU'.heap zL ∧ FrameEnd zU zo zU' zL room_1.cells room_1.slots) := by
  refine MetFree.of_bodySF (plainFor_of_name pn_4) hisR ?_
  intro p e s m args below meth c s₁ Bd hml0 hP hK
  obtain ⟨rfl, hZ, hh⟩ := hP
  have hx := Bd.exec
  have hby := Bd.bytes
  have hml : c.maxLocals = 29 := hml0
  have hown : s.vm.findClass "com/example/recital/recital/document/WordsLikenessPinLaw" = some m.cls := findClass_of_methodNamed Bd.named
  have hnm := (name_of_methodNamed Bd.named Bd.method).1
  have X0 : Stand p l e room_1 s m #[(.long ja), (.int a2), (.long jb), (.int b2), (.int co), (.int ln)] below meth c s₁ [] 0 0 := Stand.of_body Bd
  have e0 : s₁.heap = h0 := by rw [← hh, Bd.state]; rfl
  have N0 := Fr.nil n0
  have Z0 : n0 ≤ h0.size := O0.1 ▸ O0.2.1
  have pre0 : ∀ zt, Steps p.tables e below (s₁.setTop (mkF m 0 #[.val (.long ja), .second, .val (.int a2), .val (.long jb), .second, .val (.int b2), .val (.int co), .val (.int ln), .unset, .unset, .unset, .unset, .unset, .unset, .unset, .unset, .unset, .unset, .unset, .unset, .unset, .unset, .unset, .unset, .unset, .unset, .unset, .unset, .unset] [])) zt → Steps p.tables e below (s₁.setTop (entryFrame m #[(.long ja), (.int a2), (.long jb), (.int b2), (.int co), (.int ln)] maxLocals)) zt := fun zt zk => castTop (ef_0_JIJIII m ja a2 jb b2 co ln) zk
  obtain ⟨_, _, ⟨T1, L1, k1, n1⟩, -, X1, ⟨Lc1, hQ1, l1, y1, z1⟩, st1⟩ := Jvm.LawKit.callS X0 hx (y := (⟨"com/example/recital/recital/document/WordsLikenessPinLaw", "sortedTake", "(IIII)[I"⟩ : MethodName)) hown (mvT hZ (hw _ (List.mem_of_getElem? (i := 2) rfl))) (mvT hZ (hw _ (List.mem_of_getElem? (i := 3) rfl))) (mvT hZ (hw _ (List.mem_of_getElem? (i := 4) rfl))) (mvT hZ (hw _ (List.mem_of_getElem? (i := 5) rfl))) (by decide) (backOf (W := 0) (take l Z a0 hw [] nn (ja.toInt32) (((ja.toUInt64 >>> ((32 : Int32) &&& 0x3f).toInt64.toUInt64).toInt64).toInt32) a2 f h0 n0 (Nat.le_trans Z0 (Keep.refl h0 []).1) hnn hf) hZ (hw _ (List.mem_of_getElem? (i := 5) rfl)) (hw _ (List.mem_of_getElem? (i := 4) rfl)) (by decide) (by decide)) (g := (mkF m 34 #[.val (.long ja), .second, .val (.int a2), .val (.long jb), .second, .val (.int b2), .val (.int co), .val (.int ln), .val (.int nn), .val (.int mm), .val (.int cc), .unset, .unset, .unset, .unset, .unset, .unset, .unset, .unset, .unset, .unset, .unset, .unset, .unset, .unset, .unset, .unset, .unset, .unset] [(.int a2), (.int (((ja.toUInt64 >>> ((32 : Int32) &&& 0x3f).toInt64.toUInt64).toInt64).toInt32)), (.int (ja.toInt32)), (.int nn)])) rfl (by rw [hml]; rfl) (argsL := [(.int nn), (.int (ja.toInt32)), (.int (((ja.toUInt64 >>> ((32 : Int32) &&& 0x3f).toInt64.toUInt64).toInt64).toInt32)), (.int a2)]) (rest := []) (lenOf pd_1 rfl) rfl (by show 2 * 0 + _ ≤ _; exact Nat.le_of_eq rfl) (hb hby at_34) (fun _ _ => ⟨rfl, e0, (by decide : 0 + 1 ≤ _), (by decide : 0 + 3 ≤ _)⟩)
  dsimp only [Pt.U, Pt.locs, Pt.cells, Pt.slots] at X1 l1 y1 z1 st1 hQ1
  subst l1 y1 z1
  obtain ⟨r_1, rfl, Nq1, kh1, fz_r_1, Po1_0⟩ := hQ1
  have N1 := Fr.app N0 Nq1
  have sz_r_1 : h0.size ≤ r_1 := Nat.le_trans (Keep.refl h0 []).1 fz_r_1
  have g_r_1 : n0 ≤ r_1 := Nat.le_trans Z0 sz_r_1
  have O1 := O0.keep kh1 all0
  have K1 : Keep h0 T1.heap [] := (Keep.refl h0 []).trans kh1 all0
  obtain ⟨_, _, ⟨T2, L2, k2, n2⟩, -, X2, ⟨Lc2, hQ2, l2, y2, z2⟩, st2⟩ := Jvm.LawKit.callS X1 hx (y := (⟨"com/example/recital/recital/document/WordsLikenessPinLaw", "sortedTake", "(IIII)[I"⟩ : MethodName)) hown (mvT hZ (hw _ (List.mem_of_getElem? (i := 2) rfl))) (mvT hZ (hw _ (List.mem_of_getElem? (i := 3) rfl))) (mvT hZ (hw _ (List.mem_of_getElem? (i := 4) rfl))) (mvT hZ (hw _ (List.mem_of_getElem? (i := 5) rfl))) (by decide) (backOf (W := 0) (take l Z a0 hw [] mm (jb.toInt32) (((jb.toUInt64 >>> ((32 : Int32) &&& 0x3f).toInt64.toUInt64).toInt64).toInt32) b2 g T1.heap n0 (Nat.le_trans Z0 K1.1) hmm hg) hZ (hw _ (List.mem_of_getElem? (i := 5) rfl)) (hw _ (List.mem_of_getElem? (i := 4) rfl)) (by decide) (by decide)) (g := (mkF m 50 #[.val (.long ja), .second, .val (.int a2), .val (.long jb), .second, .val (.int b2), .val (.int co), .val (.int ln), .val (.int nn), .val (.int mm), .val (.int cc), .val (.ref r_1), .unset, .unset, .unset, .unset, .unset, .unset, .unset, .unset, .unset, .unset, .unset, .unset, .unset, .unset, .unset, .unset, .unset] [(.int b2), (.int (((jb.toUInt64 >>> ((32 : Int32) &&& 0x3f).toInt64.toUInt64).toInt64).toInt32)), (.int (jb.toInt32)), (.int mm)])) rfl (by rw [hml]; rfl) (argsL := [(.int mm), (.int (jb.toInt32)), (.int (((jb.toUInt64 >>> ((32 : Int32) &&& 0x3f).toInt64.toUInt64).toInt64).toInt32)), (.int b2)]) (rest := []) (lenOf pd_1 rfl) rfl (by show 2 * 0 + _ ≤ _; exact Nat.le_of_eq rfl) (hb hby at_50) (fun _ _ => ⟨rfl, rfl, (by decide : 1 + 1 ≤ _), (by decide : 3 + 3 ≤ _)⟩)
  dsimp only [Pt.U, Pt.locs, Pt.cells, Pt.slots] at X2 l2 y2 z2 st2 hQ2
  subst l2 y2 z2
  obtain ⟨r_2, rfl, Nq2, kh2, fz_r_2, Po2_0⟩ := hQ2
  have N2 := Fr.app N1 Nq2
  have sz_r_2 : h0.size ≤ r_2 := Nat.le_trans K1.1 fz_r_2
  have g_r_2 : n0 ≤ r_2 := Nat.le_trans Z0 sz_r_2
  have O2 := O1.keep kh2 all0
  have K2 : Keep h0 T2.heap [] := K1.trans kh2 all0
  obtain ⟨_, _, ⟨T3, L3, k3, n3⟩, -, X3, ⟨Lc3, hQ3, l3, y3, z3⟩, st3⟩ := Jvm.LawKit.callS X2 hx (y := (⟨"com/example/recital/recital/document/WordsLikenessPinLaw", "eq", "([II[II)I"⟩ : MethodName)) hown (mvT hZ (hw _ (List.mem_of_getElem? (i := 14) rfl))) (mvT hZ (hw _ (List.mem_of_getElem? (i := 15) rfl))) (mvT hZ (hw _ (List.mem_of_getElem? (i := 4) rfl))) (mvT hZ (hw _ (List.mem_of_getElem? (i := 16) rfl))) (by decide) (backOf (W := 0) (eqR l Z a0 hw [] r_1 (0 : Int32) r_2 (0 : Int32) nn mm f g T2.heap n0 (Nat.le_trans Z0 K2.1) (Po1_0.keep kh2 nin0) Po2_0 (by decide) (by decide)) hZ (hw _ (List.mem_of_getElem? (i := 16) rfl)) (hw _ (List.mem_of_getElem? (i := 4) rfl)) (by decide) (by decide)) (g := (mkF m 61 #[.val (.long ja), .second, .val (.int a2), .val (.long jb), .second, .val (.int b2), .val (.int co), .val (.int ln), .val (.int nn), .val (.int mm), .val (.int cc), .val (.ref r_1), .val (.ref r_2), .unset, .unset, .unset, .unset, .unset, .unset, .unset, .unset, .unset, .unset, .unset, .unset, .unset, .unset, .unset, .unset] [(.int (0 : Int32)), (.ref r_2), (.int (0 : Int32)), (.ref r_1)])) rfl (by rw [hml]; rfl) (argsL := [(.ref r_1), (.int (0 : Int32)), (.ref r_2), (.int (0 : Int32))]) (rest := []) (lenOf pd_2 rfl) rfl (by show 2 * 0 + _ ≤ _; exact Nat.le_of_eq rfl) (hb hby at_61) (fun _ _ => ⟨rfl, rfl, (by decide : 2 + 0 ≤ _), (by decide : 6 + 0 ≤ _)⟩)
  dsimp only [Pt.U, Pt.locs, Pt.cells, Pt.slots] at X3 l3 y3 z3 st3 hQ3
  subst l3 y3 z3
  obtain ⟨rfl, Nq3, kh3⟩ := hQ3
  have N3 := Fr.app N2 Nq3
  obtain ⟨_, _, ⟨T4, L4, k4, n4⟩, -, X4, ⟨Lc4, hQ4, l4, y4, z4⟩, st4⟩ := Jvm.LawKit.callS X3 hx (y := (⟨"com/example/recital/recital/document/WordsLikenessPinLaw", "eq", "([II[II)I"⟩ : MethodName)) hown (mvT hZ (hw _ (List.mem_of_getElem? (i := 14) rfl))) (mvT hZ (hw _ (List.mem_of_getElem? (i := 15) rfl))) (mvT hZ (hw _ (List.mem_of_getElem? (i := 4) rfl))) (mvT hZ (hw _ (List.mem_of_getElem? (i := 16) rfl))) (by decide) (backOf (W := 0) (eqR l Z a0 hw [] r_1 (0 : Int32) r_2 (1 : Int32) nn mm f g T2.heap n0 (Nat.le_trans Z0 K2.1) (Po1_0.keep kh2 nin0) Po2_0 (by decide) (by decide)) hZ (hw _ (List.mem_of_getElem? (i := 16) rfl)) (hw _ (List.mem_of_getElem? (i := 4) rfl)) (by decide) (by decide)) (g := (mkF m 72 #[.val (.long ja), .second, .val (.int a2), .val (.long jb), .second, .val (.int b2), .val (.int co), .val (.int ln), .val (.int nn), .val (.int mm), .val (.int cc), .val (.ref r_1), .val (.ref r_2), .val (.int e00), .unset, .unset, .unset, .unset, .unset, .unset, .unset, .unset, .unset, .unset, .unset, .unset, .unset, .unset, .unset] [(.int (1 : Int32)), (.ref r_2), (.int (0 : Int32)), (.ref r_1)])) rfl (by rw [hml]; rfl) (argsL := [(.ref r_1), (.int (0 : Int32)), (.ref r_2), (.int (1 : Int32))]) (rest := []) (lenOf pd_2 rfl) rfl (by show 2 * 0 + _ ≤ _; exact Nat.le_of_eq rfl) (hb hby at_72) (fun _ _ => ⟨rfl, kh3, (by decide : 2 + 0 ≤ _), (by decide : 6 + 0 ≤ _)⟩)
  dsimp only [Pt.U, Pt.locs, Pt.cells, Pt.slots] at X4 l4 y4 z4 st4 hQ4
  subst l4 y4 z4
  obtain ⟨rfl, Nq4, kh4⟩ := hQ4
  have N4 := Fr.app N3 Nq4
  obtain ⟨_, _, ⟨T5, L5, k5, n5⟩, -, X5, ⟨Lc5, hQ5, l5, y5, z5⟩, st5⟩ := Jvm.LawKit.callS X4 hx (y := (⟨"com/example/recital/recital/document/WordsLikenessPinLaw", "eq", "([II[II)I"⟩ : MethodName)) hown (mvT hZ (hw _ (List.mem_of_getElem? (i := 14) rfl))) (mvT hZ (hw _ (List.mem_of_getElem? (i := 15) rfl))) (mvT hZ (hw _ (List.mem_of_getElem? (i := 4) rfl))) (mvT hZ (hw _ (List.mem_of_getElem? (i := 16) rfl))) (by decide) (backOf (W := 0) (eqR l Z a0 hw [] r_1 (0 : Int32) r_2 (2 : Int32) nn mm f g T2.heap n0 (Nat.le_trans Z0 K2.1) (Po1_0.keep kh2 nin0) Po2_0 (by decide) (by decide)) hZ (hw _ (List.mem_of_getElem? (i := 16) rfl)) (hw _ (List.mem_of_getElem? (i := 4) rfl)) (by decide) (by decide)) (g := (mkF m 83 #[.val (.long ja), .second, .val (.int a2), .val (.long jb), .second, .val (.int b2), .val (.int co), .val (.int ln), .val (.int nn), .val (.int mm), .val (.int cc), .val (.ref r_1), .val (.ref r_2), .val (.int e00), .val (.int e01), .unset, .unset, .unset, .unset, .unset, .unset, .unset, .unset, .unset, .unset, .unset, .unset, .unset, .unset] [(.int (2 : Int32)), (.ref r_2), (.int (0 : Int32)), (.ref r_1)])) rfl (by rw [hml]; rfl) (argsL := [(.ref r_1), (.int (0 : Int32)), (.ref r_2), (.int (2 : Int32))]) (rest := []) (lenOf pd_2 rfl) rfl (by show 2 * 0 + _ ≤ _; exact Nat.le_of_eq rfl) (hb hby at_83) (fun _ _ => ⟨rfl, kh4, (by decide : 2 + 0 ≤ _), (by decide : 6 + 0 ≤ _)⟩)
  dsimp only [Pt.U, Pt.locs, Pt.cells, Pt.slots] at X5 l5 y5 z5 st5 hQ5
  subst l5 y5 z5
  obtain ⟨rfl, Nq5, kh5⟩ := hQ5
  have N5 := Fr.app N4 Nq5
  obtain ⟨_, _, ⟨T6, L6, k6, n6⟩, -, X6, ⟨Lc6, hQ6, l6, y6, z6⟩, st6⟩ := Jvm.LawKit.callS X5 hx (y := (⟨"com/example/recital/recital/document/WordsLikenessPinLaw", "eq", "([II[II)I"⟩ : MethodName)) hown (mvT hZ (hw _ (List.mem_of_getElem? (i := 14) rfl))) (mvT hZ (hw _ (List.mem_of_getElem? (i := 15) rfl))) (mvT hZ (hw _ (List.mem_of_getElem? (i := 4) rfl))) (mvT hZ (hw _ (List.mem_of_getElem? (i := 16) rfl))) (by decide) (backOf (W := 0) (eqR l Z a0 hw [] r_1 (1 : Int32) r_2 (0 : Int32) nn mm f g T2.heap n0 (Nat.le_trans Z0 K2.1) (Po1_0.keep kh2 nin0) Po2_0 (by decide) (by decide)) hZ (hw _ (List.mem_of_getElem? (i := 16) rfl)) (hw _ (List.mem_of_getElem? (i := 4) rfl)) (by decide) (by decide)) (g := (mkF m 94 #[.val (.long ja), .second, .val (.int a2), .val (.long jb), .second, .val (.int b2), .val (.int co), .val (.int ln), .val (.int nn), .val (.int mm), .val (.int cc), .val (.ref r_1), .val (.ref r_2), .val (.int e00), .val (.int e01), .val (.int e02), .unset, .unset, .unset, .unset, .unset, .unset, .unset, .unset, .unset, .unset, .unset, .unset, .unset] [(.int (0 : Int32)), (.ref r_2), (.int (1 : Int32)), (.ref r_1)])) rfl (by rw [hml]; rfl) (argsL := [(.ref r_1), (.int (1 : Int32)), (.ref r_2), (.int (0 : Int32))]) (rest := []) (lenOf pd_2 rfl) rfl (by show 2 * 0 + _ ≤ _; exact Nat.le_of_eq rfl) (hb hby at_94) (fun _ _ => ⟨rfl, kh5, (by decide : 2 + 0 ≤ _), (by decide : 6 + 0 ≤ _)⟩)
  dsimp only [Pt.U, Pt.locs, Pt.cells, Pt.slots] at X6 l6 y6 z6 st6 hQ6
  subst l6 y6 z6
  obtain ⟨rfl, Nq6, kh6⟩ := hQ6
  have N6 := Fr.app N5 Nq6
  obtain ⟨_, _, ⟨T7, L7, k7, n7⟩, -, X7, ⟨Lc7, hQ7, l7, y7, z7⟩, st7⟩ := Jvm.LawKit.callS X6 hx (y := (⟨"com/example/recital/recital/document/WordsLikenessPinLaw", "eq", "([II[II)I"⟩ : MethodName)) hown (mvT hZ (hw _ (List.mem_of_getElem? (i := 14) rfl))) (mvT hZ (hw _ (List.mem_of_getElem? (i := 15) rfl))) (mvT hZ (hw _ (List.mem_of_getElem? (i := 4) rfl))) (mvT hZ (hw _ (List.mem_of_getElem? (i := 16) rfl))) (by decide) (backOf (W := 0) (eqR l Z a0 hw [] r_1 (1 : Int32) r_2 (1 : Int32) nn mm f g T2.heap n0 (Nat.le_trans Z0 K2.1) (Po1_0.keep kh2 nin0) Po2_0 (by decide) (by decide)) hZ (hw _ (List.mem_of_getElem? (i := 16) rfl)) (hw _ (List.mem_of_getElem? (i := 4) rfl)) (by decide) (by decide)) (g := (mkF m 105 #[.val (.long ja), .second, .val (.int a2), .val (.long jb), .second, .val (.int b2), .val (.int co), .val (.int ln), .val (.int nn), .val (.int mm), .val (.int cc), .val (.ref r_1), .val (.ref r_2), .val (.int e00), .val (.int e01), .val (.int e02), .val (.int e10), .unset, .unset, .unset, .unset, .unset, .unset, .unset, .unset, .unset, .unset, .unset, .unset] [(.int (1 : Int32)), (.ref r_2), (.int (1 : Int32)), (.ref r_1)])) rfl (by rw [hml]; rfl) (argsL := [(.ref r_1), (.int (1 : Int32)), (.ref r_2), (.int (1 : Int32))]) (rest := []) (lenOf pd_2 rfl) rfl (by show 2 * 0 + _ ≤ _; exact Nat.le_of_eq rfl) (hb hby at_105) (fun _ _ => ⟨rfl, kh6, (by decide : 2 + 0 ≤ _), (by decide : 6 + 0 ≤ _)⟩)
  dsimp only [Pt.U, Pt.locs, Pt.cells, Pt.slots] at X7 l7 y7 z7 st7 hQ7
  subst l7 y7 z7
  obtain ⟨rfl, Nq7, kh7⟩ := hQ7
  have N7 := Fr.app N6 Nq7
  obtain ⟨_, _, ⟨T8, L8, k8, n8⟩, -, X8, ⟨Lc8, hQ8, l8, y8, z8⟩, st8⟩ := Jvm.LawKit.callS X7 hx (y := (⟨"com/example/recital/recital/document/WordsLikenessPinLaw", "eq", "([II[II)I"⟩ : MethodName)) hown (mvT hZ (hw _ (List.mem_of_getElem? (i := 14) rfl))) (mvT hZ (hw _ (List.mem_of_getElem? (i := 15) rfl))) (mvT hZ (hw _ (List.mem_of_getElem? (i := 4) rfl))) (mvT hZ (hw _ (List.mem_of_getElem? (i := 16) rfl))) (by decide) (backOf (W := 0) (eqR l Z a0 hw [] r_1 (1 : Int32) r_2 (2 : Int32) nn mm f g T2.heap n0 (Nat.le_trans Z0 K2.1) (Po1_0.keep kh2 nin0) Po2_0 (by decide) (by decide)) hZ (hw _ (List.mem_of_getElem? (i := 16) rfl)) (hw _ (List.mem_of_getElem? (i := 4) rfl)) (by decide) (by decide)) (g := (mkF m 116 #[.val (.long ja), .second, .val (.int a2), .val (.long jb), .second, .val (.int b2), .val (.int co), .val (.int ln), .val (.int nn), .val (.int mm), .val (.int cc), .val (.ref r_1), .val (.ref r_2), .val (.int e00), .val (.int e01), .val (.int e02), .val (.int e10), .val (.int e11), .unset, .unset, .unset, .unset, .unset, .unset, .unset, .unset, .unset, .unset, .unset] [(.int (2 : Int32)), (.ref r_2), (.int (1 : Int32)), (.ref r_1)])) rfl (by rw [hml]; rfl) (argsL := [(.ref r_1), (.int (1 : Int32)), (.ref r_2), (.int (2 : Int32))]) (rest := []) (lenOf pd_2 rfl) rfl (by show 2 * 0 + _ ≤ _; exact Nat.le_of_eq rfl) (hb hby at_116) (fun _ _ => ⟨rfl, kh7, (by decide : 2 + 0 ≤ _), (by decide : 6 + 0 ≤ _)⟩)
  dsimp only [Pt.U, Pt.locs, Pt.cells, Pt.slots] at X8 l8 y8 z8 st8 hQ8
  subst l8 y8 z8
  obtain ⟨rfl, Nq8, kh8⟩ := hQ8
  have N8 := Fr.app N7 Nq8
  obtain ⟨_, _, ⟨T9, L9, k9, n9⟩, -, X9, ⟨Lc9, hQ9, l9, y9, z9⟩, st9⟩ := Jvm.LawKit.callS X8 hx (y := (⟨"com/example/recital/recital/document/WordsLikenessPinLaw", "eq", "([II[II)I"⟩ : MethodName)) hown (mvT hZ (hw _ (List.mem_of_getElem? (i := 14) rfl))) (mvT hZ (hw _ (List.mem_of_getElem? (i := 15) rfl))) (mvT hZ (hw _ (List.mem_of_getElem? (i := 4) rfl))) (mvT hZ (hw _ (List.mem_of_getElem? (i := 16) rfl))) (by decide) (backOf (W := 0) (eqR l Z a0 hw [] r_1 (2 : Int32) r_2 (0 : Int32) nn mm f g T2.heap n0 (Nat.le_trans Z0 K2.1) (Po1_0.keep kh2 nin0) Po2_0 (by decide) (by decide)) hZ (hw _ (List.mem_of_getElem? (i := 16) rfl)) (hw _ (List.mem_of_getElem? (i := 4) rfl)) (by decide) (by decide)) (g := (mkF m 127 #[.val (.long ja), .second, .val (.int a2), .val (.long jb), .second, .val (.int b2), .val (.int co), .val (.int ln), .val (.int nn), .val (.int mm), .val (.int cc), .val (.ref r_1), .val (.ref r_2), .val (.int e00), .val (.int e01), .val (.int e02), .val (.int e10), .val (.int e11), .val (.int e12), .unset, .unset, .unset, .unset, .unset, .unset, .unset, .unset, .unset, .unset] [(.int (0 : Int32)), (.ref r_2), (.int (2 : Int32)), (.ref r_1)])) rfl (by rw [hml]; rfl) (argsL := [(.ref r_1), (.int (2 : Int32)), (.ref r_2), (.int (0 : Int32))]) (rest := []) (lenOf pd_2 rfl) rfl (by show 2 * 0 + _ ≤ _; exact Nat.le_of_eq rfl) (hb hby at_127) (fun _ _ => ⟨rfl, kh8, (by decide : 2 + 0 ≤ _), (by decide : 6 + 0 ≤ _)⟩)
  dsimp only [Pt.U, Pt.locs, Pt.cells, Pt.slots] at X9 l9 y9 z9 st9 hQ9
  subst l9 y9 z9
  obtain ⟨rfl, Nq9, kh9⟩ := hQ9
  have N9 := Fr.app N8 Nq9
  obtain ⟨_, _, ⟨T10, L10, k10, n10⟩, -, X10, ⟨Lc10, hQ10, l10, y10, z10⟩, st10⟩ := Jvm.LawKit.callS X9 hx (y := (⟨"com/example/recital/recital/document/WordsLikenessPinLaw", "eq", "([II[II)I"⟩ : MethodName)) hown (mvT hZ (hw _ (List.mem_of_getElem? (i := 14) rfl))) (mvT hZ (hw _ (List.mem_of_getElem? (i := 15) rfl))) (mvT hZ (hw _ (List.mem_of_getElem? (i := 4) rfl))) (mvT hZ (hw _ (List.mem_of_getElem? (i := 16) rfl))) (by decide) (backOf (W := 0) (eqR l Z a0 hw [] r_1 (2 : Int32) r_2 (1 : Int32) nn mm f g T2.heap n0 (Nat.le_trans Z0 K2.1) (Po1_0.keep kh2 nin0) Po2_0 (by decide) (by decide)) hZ (hw _ (List.mem_of_getElem? (i := 16) rfl)) (hw _ (List.mem_of_getElem? (i := 4) rfl)) (by decide) (by decide)) (g := (mkF m 138 #[.val (.long ja), .second, .val (.int a2), .val (.long jb), .second, .val (.int b2), .val (.int co), .val (.int ln), .val (.int nn), .val (.int mm), .val (.int cc), .val (.ref r_1), .val (.ref r_2), .val (.int e00), .val (.int e01), .val (.int e02), .val (.int e10), .val (.int e11), .val (.int e12), .val (.int e20), .unset, .unset, .unset, .unset, .unset, .unset, .unset, .unset, .unset] [(.int (1 : Int32)), (.ref r_2), (.int (2 : Int32)), (.ref r_1)])) rfl (by rw [hml]; rfl) (argsL := [(.ref r_1), (.int (2 : Int32)), (.ref r_2), (.int (1 : Int32))]) (rest := []) (lenOf pd_2 rfl) rfl (by show 2 * 0 + _ ≤ _; exact Nat.le_of_eq rfl) (hb hby at_138) (fun _ _ => ⟨rfl, kh9, (by decide : 2 + 0 ≤ _), (by decide : 6 + 0 ≤ _)⟩)
  dsimp only [Pt.U, Pt.locs, Pt.cells, Pt.slots] at X10 l10 y10 z10 st10 hQ10
  subst l10 y10 z10
  obtain ⟨rfl, Nq10, kh10⟩ := hQ10
  have N10 := Fr.app N9 Nq10
  obtain ⟨_, _, ⟨T11, L11, k11, n11⟩, -, X11, ⟨Lc11, hQ11, l11, y11, z11⟩, st11⟩ := Jvm.LawKit.callS X10 hx (y := (⟨"com/example/recital/recital/document/WordsLikenessPinLaw", "eq", "([II[II)I"⟩ : MethodName)) hown (mvT hZ (hw _ (List.mem_of_getElem? (i := 14) rfl))) (mvT hZ (hw _ (List.mem_of_getElem? (i := 15) rfl))) (mvT hZ (hw _ (List.mem_of_getElem? (i := 4) rfl))) (mvT hZ (hw _ (List.mem_of_getElem? (i := 16) rfl))) (by decide) (backOf (W := 0) (eqR l Z a0 hw [] r_1 (2 : Int32) r_2 (2 : Int32) nn mm f g T2.heap n0 (Nat.le_trans Z0 K2.1) (Po1_0.keep kh2 nin0) Po2_0 (by decide) (by decide)) hZ (hw _ (List.mem_of_getElem? (i := 16) rfl)) (hw _ (List.mem_of_getElem? (i := 4) rfl)) (by decide) (by decide)) (g := (mkF m 149 #[.val (.long ja), .second, .val (.int a2), .val (.long jb), .second, .val (.int b2), .val (.int co), .val (.int ln), .val (.int nn), .val (.int mm), .val (.int cc), .val (.ref r_1), .val (.ref r_2), .val (.int e00), .val (.int e01), .val (.int e02), .val (.int e10), .val (.int e11), .val (.int e12), .val (.int e20), .val (.int e21), .unset, .unset, .unset, .unset, .unset, .unset, .unset, .unset] [(.int (2 : Int32)), (.ref r_2), (.int (2 : Int32)), (.ref r_1)])) rfl (by rw [hml]; rfl) (argsL := [(.ref r_1), (.int (2 : Int32)), (.ref r_2), (.int (2 : Int32))]) (rest := []) (lenOf pd_2 rfl) rfl (by show 2 * 0 + _ ≤ _; exact Nat.le_of_eq rfl) (hb hby at_149) (fun _ _ => ⟨rfl, kh10, (by decide : 2 + 0 ≤ _), (by decide : 6 + 0 ≤ _)⟩)
  dsimp only [Pt.U, Pt.locs, Pt.cells, Pt.slots] at X11 l11 y11 z11 st11 hQ11
  subst l11 y11 z11
  obtain ⟨rfl, Nq11, kh11⟩ := hQ11
  have N11 := Fr.app N10 Nq11
  obtain ⟨_, _, ⟨T12, L12, k12, n12⟩, -, X12, ⟨Lc12, hQ12, l12, y12, z12⟩, st12⟩ := Jvm.LawKit.callS X11 hx (y := (⟨"java/lang/Math", "max", "(II)I"⟩ : MethodName)) hown (mvT hZ (hw _ (List.mem_of_getElem? (i := 10) rfl))) (mvT hZ (hw _ (List.mem_of_getElem? (i := 11) rfl))) (mvT hZ (hw _ (List.mem_of_getElem? (i := 8) rfl))) (mvT hZ (hw _ (List.mem_of_getElem? (i := 12) rfl))) (by decide) (backOf (W := 0) (maxR l Z a0 hw [] ((e00 + e11) + e22) ((e00 + e12) + e21) T2.heap n0 (Nat.le_trans Z0 K2.1) ) hZ (hw _ (List.mem_of_getElem? (i := 12) rfl)) (hw _ (List.mem_of_getElem? (i := 8) rfl)) (by decide) (by decide)) (g := (mkF m 174 #[.val (.long ja), .second, .val (.int a2), .val (.long jb), .second, .val (.int b2), .val (.int co), .val (.int ln), .val (.int nn), .val (.int mm), .val (.int cc), .val (.ref r_1), .val (.ref r_2), .val (.int e00), .val (.int e01), .val (.int e02), .val (.int e10), .val (.int e11), .val (.int e12), .val (.int e20), .val (.int e21), .val (.int e22), .val (.int ((e00 + e11) + e22)), .unset, .unset, .unset, .unset, .unset, .unset] [(.int ((e00 + e12) + e21)), (.int ((e00 + e11) + e22))])) rfl (by rw [hml]; rfl) (argsL := [(.int ((e00 + e11) + e22)), (.int ((e00 + e12) + e21))]) (rest := []) (lenOf pd_0 rfl) rfl (by show 2 * 0 + _ ≤ _; exact Nat.le_of_eq rfl) (hb hby at_174) (fun _ _ => ⟨rfl, kh11, (by decide : 2 + 0 ≤ _), (by decide : 6 + 0 ≤ _)⟩)
  dsimp only [Pt.U, Pt.locs, Pt.cells, Pt.slots] at X12 l12 y12 z12 st12 hQ12
  subst l12 y12 z12
  obtain ⟨rfl, Nq12, kh12⟩ := hQ12
  have N12 := Fr.app N11 Nq12
  obtain ⟨_, _, ⟨T13, L13, k13, n13⟩, -, X13, ⟨Lc13, hQ13, l13, y13, z13⟩, st13⟩ := Jvm.LawKit.callS X12 hx (y := (⟨"java/lang/Math", "max", "(II)I"⟩ : MethodName)) hown (mvT hZ (hw _ (List.mem_of_getElem? (i := 10) rfl))) (mvT hZ (hw _ (List.mem_of_getElem? (i := 11) rfl))) (mvT hZ (hw _ (List.mem_of_getElem? (i := 8) rfl))) (mvT hZ (hw _ (List.mem_of_getElem? (i := 12) rfl))) (by decide) (backOf (W := 0) (maxR l Z a0 hw [] m1 ((e01 + e10) + e22) T2.heap n0 (Nat.le_trans Z0 K2.1) ) hZ (hw _ (List.mem_of_getElem? (i := 12) rfl)) (hw _ (List.mem_of_getElem? (i := 8) rfl)) (by decide) (by decide)) (g := (mkF m 189 #[.val (.long ja), .second, .val (.int a2), .val (.long jb), .second, .val (.int b2), .val (.int co), .val (.int ln), .val (.int nn), .val (.int mm), .val (.int cc), .val (.ref r_1), .val (.ref r_2), .val (.int e00), .val (.int e01), .val (.int e02), .val (.int e10), .val (.int e11), .val (.int e12), .val (.int e20), .val (.int e21), .val (.int e22), .val (.int m1), .unset, .unset, .unset, .unset, .unset, .unset] [(.int ((e01 + e10) + e22)), (.int m1)])) rfl (by rw [hml]; rfl) (argsL := [(.int m1), (.int ((e01 + e10) + e22))]) (rest := []) (lenOf pd_0 rfl) rfl (by show 2 * 0 + _ ≤ _; exact Nat.le_of_eq rfl) (hb hby at_189) (fun _ _ => ⟨rfl, kh12, (by decide : 2 + 0 ≤ _), (by decide : 6 + 0 ≤ _)⟩)
  dsimp only [Pt.U, Pt.locs, Pt.cells, Pt.slots] at X13 l13 y13 z13 st13 hQ13
  subst l13 y13 z13
  obtain ⟨rfl, Nq13, kh13⟩ := hQ13
  have N13 := Fr.app N12 Nq13
  obtain ⟨_, _, ⟨T14, L14, k14, n14⟩, -, X14, ⟨Lc14, hQ14, l14, y14, z14⟩, st14⟩ := Jvm.LawKit.callS X13 hx (y := (⟨"java/lang/Math", "max", "(II)I"⟩ : MethodName)) hown (mvT hZ (hw _ (List.mem_of_getElem? (i := 10) rfl))) (mvT hZ (hw _ (List.mem_of_getElem? (i := 11) rfl))) (mvT hZ (hw _ (List.mem_of_getElem? (i := 8) rfl))) (mvT hZ (hw _ (List.mem_of_getElem? (i := 12) rfl))) (by decide) (backOf (W := 0) (maxR l Z a0 hw [] m2 ((e01 + e12) + e20) T2.heap n0 (Nat.le_trans Z0 K2.1) ) hZ (hw _ (List.mem_of_getElem? (i := 12) rfl)) (hw _ (List.mem_of_getElem? (i := 8) rfl)) (by decide) (by decide)) (g := (mkF m 204 #[.val (.long ja), .second, .val (.int a2), .val (.long jb), .second, .val (.int b2), .val (.int co), .val (.int ln), .val (.int nn), .val (.int mm), .val (.int cc), .val (.ref r_1), .val (.ref r_2), .val (.int e00), .val (.int e01), .val (.int e02), .val (.int e10), .val (.int e11), .val (.int e12), .val (.int e20), .val (.int e21), .val (.int e22), .val (.int m2), .unset, .unset, .unset, .unset, .unset, .unset] [(.int ((e01 + e12) + e20)), (.int m2)])) rfl (by rw [hml]; rfl) (argsL := [(.int m2), (.int ((e01 + e12) + e20))]) (rest := []) (lenOf pd_0 rfl) rfl (by show 2 * 0 + _ ≤ _; exact Nat.le_of_eq rfl) (hb hby at_204) (fun _ _ => ⟨rfl, kh13, (by decide : 2 + 0 ≤ _), (by decide : 6 + 0 ≤ _)⟩)
  dsimp only [Pt.U, Pt.locs, Pt.cells, Pt.slots] at X14 l14 y14 z14 st14 hQ14
  subst l14 y14 z14
  obtain ⟨rfl, Nq14, kh14⟩ := hQ14
  have N14 := Fr.app N13 Nq14
  obtain ⟨_, _, ⟨T15, L15, k15, n15⟩, -, X15, ⟨Lc15, hQ15, l15, y15, z15⟩, st15⟩ := Jvm.LawKit.callS X14 hx (y := (⟨"java/lang/Math", "max", "(II)I"⟩ : MethodName)) hown (mvT hZ (hw _ (List.mem_of_getElem? (i := 10) rfl))) (mvT hZ (hw _ (List.mem_of_getElem? (i := 11) rfl))) (mvT hZ (hw _ (List.mem_of_getElem? (i := 8) rfl))) (mvT hZ (hw _ (List.mem_of_getElem? (i := 12) rfl))) (by decide) (backOf (W := 0) (maxR l Z a0 hw [] m3 ((e02 + e10) + e21) T2.heap n0 (Nat.le_trans Z0 K2.1) ) hZ (hw _ (List.mem_of_getElem? (i := 12) rfl)) (hw _ (List.mem_of_getElem? (i := 8) rfl)) (by decide) (by decide)) (g := (mkF m 219 #[.val (.long ja), .second, .val (.int a2), .val (.long jb), .second, .val (.int b2), .val (.int co), .val (.int ln), .val (.int nn), .val (.int mm), .val (.int cc), .val (.ref r_1), .val (.ref r_2), .val (.int e00), .val (.int e01), .val (.int e02), .val (.int e10), .val (.int e11), .val (.int e12), .val (.int e20), .val (.int e21), .val (.int e22), .val (.int m3), .unset, .unset, .unset, .unset, .unset, .unset] [(.int ((e02 + e10) + e21)), (.int m3)])) rfl (by rw [hml]; rfl) (argsL := [(.int m3), (.int ((e02 + e10) + e21))]) (rest := []) (lenOf pd_0 rfl) rfl (by show 2 * 0 + _ ≤ _; exact Nat.le_of_eq rfl) (hb hby at_219) (fun _ _ => ⟨rfl, kh14, (by decide : 2 + 0 ≤ _), (by decide : 6 + 0 ≤ _)⟩)
  dsimp only [Pt.U, Pt.locs, Pt.cells, Pt.slots] at X15 l15 y15 z15 st15 hQ15
  subst l15 y15 z15
  obtain ⟨rfl, Nq15, kh15⟩ := hQ15
  have N15 := Fr.app N14 Nq15
  obtain ⟨_, _, ⟨T16, L16, k16, n16⟩, -, X16, ⟨Lc16, hQ16, l16, y16, z16⟩, st16⟩ := Jvm.LawKit.callS X15 hx (y := (⟨"java/lang/Math", "max", "(II)I"⟩ : MethodName)) hown (mvT hZ (hw _ (List.mem_of_getElem? (i := 10) rfl))) (mvT hZ (hw _ (List.mem_of_getElem? (i := 11) rfl))) (mvT hZ (hw _ (List.mem_of_getElem? (i := 8) rfl))) (mvT hZ (hw _ (List.mem_of_getElem? (i := 12) rfl))) (by decide) (backOf (W := 0) (maxR l Z a0 hw [] m4 ((e02 + e11) + e20) T2.heap n0 (Nat.le_trans Z0 K2.1) ) hZ (hw _ (List.mem_of_getElem? (i := 12) rfl)) (hw _ (List.mem_of_getElem? (i := 8) rfl)) (by decide) (by decide)) (g := (mkF m 234 #[.val (.long ja), .second, .val (.int a2), .val (.long jb), .second, .val (.int b2), .val (.int co), .val (.int ln), .val (.int nn), .val (.int mm), .val (.int cc), .val (.ref r_1), .val (.ref r_2), .val (.int e00), .val (.int e01), .val (.int e02), .val (.int e10), .val (.int e11), .val (.int e12), .val (.int e20), .val (.int e21), .val (.int e22), .val (.int m4), .unset, .unset, .unset, .unset, .unset, .unset] [(.int ((e02 + e11) + e20)), (.int m4)])) rfl (by rw [hml]; rfl) (argsL := [(.int m4), (.int ((e02 + e11) + e20))]) (rest := []) (lenOf pd_0 rfl) rfl (by show 2 * 0 + _ ≤ _; exact Nat.le_of_eq rfl) (hb hby at_234) (fun _ _ => ⟨rfl, kh15, (by decide : 2 + 0 ≤ _), (by decide : 6 + 0 ≤ _)⟩)
  dsimp only [Pt.U, Pt.locs, Pt.cells, Pt.slots] at X16 l16 y16 z16 st16 hQ16
  subst l16 y16 z16
  obtain ⟨rfl, Nq16, kh16⟩ := hQ16
  have N16 := Fr.app N15 Nq16
  obtain ⟨_, _, ⟨T17, L17, k17, n17⟩, -, X17, ⟨Lc17, hQ17, l17, y17, z17⟩, st17⟩ := Jvm.LawKit.callS X16 hx (y := (⟨"com/example/recital/recital/document/Words", "likeness", "([I[II)D"⟩ : MethodName)) hown (mvT hZ (hw _ (List.mem_of_getElem? (i := 18) rfl))) (mvT hZ (hw _ (List.mem_of_getElem? (i := 19) rfl))) (mvT hZ (hw _ (List.mem_of_getElem? (i := 20) rfl))) (mvT hZ (hw _ (List.mem_of_getElem? (i := 21) rfl))) (by decide) (backOf (W := 0) (lkR l Z a0 hw [] r_1 r_2 cc nn mm f g T2.heap n0 (Nat.le_trans Z0 K2.1) (Po1_0.keep kh2 nin0) Po2_0 hn3 hm3) hZ (hw _ (List.mem_of_getElem? (i := 21) rfl)) (hw _ (List.mem_of_getElem? (i := 20) rfl)) (by decide) (by decide)) (g := (mkF m 288 #[.val (.long ja), .second, .val (.int a2), .val (.long jb), .second, .val (.int b2), .val (.int co), .val (.int ln), .val (.int nn), .val (.int mm), .val (.int cc), .val (.ref r_1), .val (.ref r_2), .val (.int e00), .val (.int e01), .val (.int e02), .val (.int e10), .val (.int e11), .val (.int e12), .val (.int e20), .val (.int e21), .val (.int e22), .val (.int m5), .val (.int (cc + m5)), .val (.int al), .val (.double FP.dconst1), .second, .unset, .unset] [(.int cc), (.ref r_2), (.ref r_1)])) rfl (by rw [hml]; rfl) (argsL := [(.ref r_1), (.ref r_2), (.int cc)]) (rest := []) (lenOf pd_3 rfl) rfl (by show 2 * 0 + _ ≤ _; exact Nat.le_of_eq rfl) (hb hby at_288) (fun _ _ => ⟨rfl, kh16, (by decide : 2 + 0 ≤ _), (by decide : 6 + 0 ≤ _)⟩)
  dsimp only [Pt.U, Pt.locs, Pt.cells, Pt.slots] at X17 l17 y17 z17 st17 hQ17
  subst l17 y17 z17
  obtain ⟨rfl, Nq17, kh17⟩ := hQ17
  have N17 := Fr.app N16 Nq17
  obtain ⟨fs, hr, hrun, hended, hW, hsame⟩ := X17.leave (v := some (.int (1 : Int32))) (fun h => by rw [Bd.returns] at h; cases h)
  refine ⟨_, _, pre0 _ ?_, hrun, hended, _, _, rfl, ?_, ⟨_, rfl⟩, hW, hsame.mono (by decide) (by decide)⟩
  · show Steps p.tables e below (s₁.setTop (mkF m 0 #[.val (.long ja), .second, .val (.int a2), .val (.long jb), .second, .val (.int b2), .val (.int co), .val (.int ln), .unset, .unset, .unset, .unset, .unset, .unset, .unset, .unset, .unset, .unset, .unset, .unset, .unset, .unset, .unset, .unset, .unset, .unset, .unset, .unset, .unset] [])) _
    refine XS.iload X0.here hx rfl (hb hby at_0) rfl ?_
    show Steps p.tables e below (s₁.setTop (mkF m 2 #[.val (.long ja), .second, .val (.int a2), .val (.long jb), .second, .val (.int b2), .val (.int co), .val (.int ln), .unset, .unset, .unset, .unset, .unset, .unset, .unset, .unset, .unset, .unset, .unset, .unset, .unset, .unset, .unset, .unset, .unset, .unset, .unset, .unset, .unset] [(.int ln)])) _
    refine XS.iconst X0.here hx rfl (hb hby at_2) ?_
    show Steps p.tables e below (s₁.setTop (mkF m 3 #[.val (.long ja), .second, .val (.int a2), .val (.long jb), .second, .val (.int b2), .val (.int co), .val (.int ln), .unset, .unset, .unset, .unset, .unset, .unset, .unset, .unset, .unset, .unset, .unset, .unset, .unset, .unset, .unset, .unset, .unset, .unset, .unset, .unset, .unset] [(.int (3 : Int32)), (.int ln)])) _
    refine XS.iand X0.here hx rfl (hb hby at_3) rfl ?_
    show Steps p.tables e below (s₁.setTop (mkF m 4 #[.val (.long ja), .second, .val (.int a2), .val (.long jb), .second, .val (.int b2), .val (.int co), .val (.int ln), .unset, .unset, .unset, .unset, .unset, .unset, .unset, .unset, .unset, .unset, .unset, .unset, .unset, .unset, .unset, .unset, .unset, .unset, .unset, .unset, .unset] [(.int (ln &&& (3 : Int32)))])) _
    refine castTop (congrArg (fun z_ => (mkF m 4 #[.val (.long ja), .second, .val (.int a2), .val (.long jb), .second, .val (.int b2), .val (.int co), .val (.int ln), .unset, .unset, .unset, .unset, .unset, .unset, .unset, .unset, .unset, .unset, .unset, .unset, .unset, .unset, .unset, .unset, .unset, .unset, .unset, .unset, .unset] [(.int z_)])) (hla : (ln &&& (3 : Int32)) = nn)) ?_
    show Steps p.tables e below (s₁.setTop (mkF m 4 #[.val (.long ja), .second, .val (.int a2), .val (.long jb), .second, .val (.int b2), .val (.int co), .val (.int ln), .unset, .unset, .unset, .unset, .unset, .unset, .unset, .unset, .unset, .unset, .unset, .unset, .unset, .unset, .unset, .unset, .unset, .unset, .unset, .unset, .unset] [(.int nn)])) _
    refine XS.istore X0.here hx rfl (hb hby at_4) rfl (l' := #[.val (.long ja), .second, .val (.int a2), .val (.long jb), .second, .val (.int b2), .val (.int co), .val (.int ln), .val (.int nn), .unset, .unset, .unset, .unset, .unset, .unset, .unset, .unset, .unset, .unset, .unset, .unset, .unset, .unset, .unset, .unset, .unset, .unset, .unset, .unset]) rfl ?_
    show Steps p.tables e below (s₁.setTop (mkF m 6 #[.val (.long ja), .second, .val (.int a2), .val (.long jb), .second, .val (.int b2), .val (.int co), .val (.int ln), .val (.int nn), .unset, .unset, .unset, .unset, .unset, .unset, .unset, .unset, .unset, .unset, .unset, .unset, .unset, .unset, .unset, .unset, .unset, .unset, .unset, .unset] [])) _
    refine XS.iload X0.here hx rfl (hb hby at_6) rfl ?_
    show Steps p.tables e below (s₁.setTop (mkF m 8 #[.val (.long ja), .second, .val (.int a2), .val (.long jb), .second, .val (.int b2), .val (.int co), .val (.int ln), .val (.int nn), .unset, .unset, .unset, .unset, .unset, .unset, .unset, .unset, .unset, .unset, .unset, .unset, .unset, .unset, .unset, .unset, .unset, .unset, .unset, .unset] [(.int ln)])) _
    refine XS.iconst X0.here hx rfl (hb hby at_8) ?_
    show Steps p.tables e below (s₁.setTop (mkF m 9 #[.val (.long ja), .second, .val (.int a2), .val (.long jb), .second, .val (.int b2), .val (.int co), .val (.int ln), .val (.int nn), .unset, .unset, .unset, .unset, .unset, .unset, .unset, .unset, .unset, .unset, .unset, .unset, .unset, .unset, .unset, .unset, .unset, .unset, .unset, .unset] [(.int (2 : Int32)), (.int ln)])) _
    refine XS.iushr X0.here hx rfl (hb hby at_9) rfl ?_
    show Steps p.tables e below (s₁.setTop (mkF m 10 #[.val (.long ja), .second, .val (.int a2), .val (.long jb), .second, .val (.int b2), .val (.int co), .val (.int ln), .val (.int nn), .unset, .unset, .unset, .unset, .unset, .unset, .unset, .unset, .unset, .unset, .unset, .unset, .unset, .unset, .unset, .unset, .unset, .unset, .unset, .unset] [(.int ((ln.toUInt32 >>> ((2 : Int32) &&& 31).toUInt32).toInt32))])) _
    refine XS.iconst X0.here hx rfl (hb hby at_10) ?_
    show Steps p.tables e below (s₁.setTop (mkF m 11 #[.val (.long ja), .second, .val (.int a2), .val (.long jb), .second, .val (.int b2), .val (.int co), .val (.int ln), .val (.int nn), .unset, .unset, .unset, .unset, .unset, .unset, .unset, .unset, .unset, .unset, .unset, .unset, .unset, .unset, .unset, .unset, .unset, .unset, .unset, .unset] [(.int (3 : Int32)), (.int ((ln.toUInt32 >>> ((2 : Int32) &&& 31).toUInt32).toInt32))])) _
    refine XS.iand X0.here hx rfl (hb hby at_11) rfl ?_
    show Steps p.tables e below (s₁.setTop (mkF m 12 #[.val (.long ja), .second, .val (.int a2), .val (.long jb), .second, .val (.int b2), .val (.int co), .val (.int ln), .val (.int nn), .unset, .unset, .unset, .unset, .unset, .unset, .unset, .unset, .unset, .unset, .unset, .unset, .unset, .unset, .unset, .unset, .unset, .unset, .unset, .unset] [(.int (((ln.toUInt32 >>> ((2 : Int32) &&& 31).toUInt32).toInt32) &&& (3 : Int32)))])) _
    refine castTop (congrArg (fun z_ => (mkF m 12 #[.val (.long ja), .second, .val (.int a2), .val (.long jb), .second, .val (.int b2), .val (.int co), .val (.int ln), .val (.int nn), .unset, .unset, .unset, .unset, .unset, .unset, .unset, .unset, .unset, .unset, .unset, .unset, .unset, .unset, .unset, .unset, .unset, .unset, .unset, .unset] [(.int z_)])) (hlb : (((ln.toUInt32 >>> ((2 : Int32) &&& 31).toUInt32).toInt32) &&& (3 : Int32)) = mm)) ?_
    show Steps p.tables e below (s₁.setTop (mkF m 12 #[.val (.long ja), .second, .val (.int a2), .val (.long jb), .second, .val (.int b2), .val (.int co), .val (.int ln), .val (.int nn), .unset, .unset, .unset, .unset, .unset, .unset, .unset, .unset, .unset, .unset, .unset, .unset, .unset, .unset, .unset, .unset, .unset, .unset, .unset, .unset] [(.int mm)])) _
    refine XS.istore X0.here hx rfl (hb hby at_12) rfl (l' := #[.val (.long ja), .second, .val (.int a2), .val (.long jb), .second, .val (.int b2), .val (.int co), .val (.int ln), .val (.int nn), .val (.int mm), .unset, .unset, .unset, .unset, .unset, .unset, .unset, .unset, .unset, .unset, .unset, .unset, .unset, .unset, .unset, .unset, .unset, .unset, .unset]) rfl ?_
    show Steps p.tables e below (s₁.setTop (mkF m 14 #[.val (.long ja), .second, .val (.int a2), .val (.long jb), .second, .val (.int b2), .val (.int co), .val (.int ln), .val (.int nn), .val (.int mm), .unset, .unset, .unset, .unset, .unset, .unset, .unset, .unset, .unset, .unset, .unset, .unset, .unset, .unset, .unset, .unset, .unset, .unset, .unset] [])) _
    refine XS.iload X0.here hx rfl (hb hby at_14) rfl ?_
    show Steps p.tables e below (s₁.setTop (mkF m 16 #[.val (.long ja), .second, .val (.int a2), .val (.long jb), .second, .val (.int b2), .val (.int co), .val (.int ln), .val (.int nn), .val (.int mm), .unset, .unset, .unset, .unset, .unset, .unset, .unset, .unset, .unset, .unset, .unset, .unset, .unset, .unset, .unset, .unset, .unset, .unset, .unset] [(.int co)])) _
    refine X0.ldcInt hx hown (mvT hZ (hw _ (List.mem_of_getElem? (i := 0) rfl))) (g := (mkF m 16 #[.val (.long ja), .second, .val (.int a2), .val (.long jb), .second, .val (.int b2), .val (.int co), .val (.int ln), .val (.int nn), .val (.int mm), .unset, .unset, .unset, .unset, .unset, .unset, .unset, .unset, .unset, .unset, .unset, .unset, .unset, .unset, .unset, .unset, .unset, .unset, .unset] [(.int co)])) rfl (hb hby at_16) _ ?_
    show Steps p.tables e below (s₁.setTop (mkF m 18 #[.val (.long ja), .second, .val (.int a2), .val (.long jb), .second, .val (.int b2), .val (.int co), .val (.int ln), .val (.int nn), .val (.int mm), .unset, .unset, .unset, .unset, .unset, .unset, .unset, .unset, .unset, .unset, .unset, .unset, .unset, .unset, .unset, .unset, .unset, .unset, .unset] [(.int (2147483647 : Int32)), (.int co)])) _
    refine XS.iand X0.here hx rfl (hb hby at_18) rfl ?_
    show Steps p.tables e below (s₁.setTop (mkF m 19 #[.val (.long ja), .second, .val (.int a2), .val (.long jb), .second, .val (.int b2), .val (.int co), .val (.int ln), .val (.int nn), .val (.int mm), .unset, .unset, .unset, .unset, .unset, .unset, .unset, .unset, .unset, .unset, .unset, .unset, .unset, .unset, .unset, .unset, .unset, .unset, .unset] [(.int (co &&& (2147483647 : Int32)))])) _
    refine X0.ldcInt hx hown (mvT hZ (hw _ (List.mem_of_getElem? (i := 1) rfl))) (g := (mkF m 19 #[.val (.long ja), .second, .val (.int a2), .val (.long jb), .second, .val (.int b2), .val (.int co), .val (.int ln), .val (.int nn), .val (.int mm), .unset, .unset, .unset, .unset, .unset, .unset, .unset, .unset, .unset, .unset, .unset, .unset, .unset, .unset, .unset, .unset, .unset, .unset, .unset] [(.int (co &&& (2147483647 : Int32)))])) rfl (hb hby at_19) _ ?_
    show Steps p.tables e below (s₁.setTop (mkF m 21 #[.val (.long ja), .second, .val (.int a2), .val (.long jb), .second, .val (.int b2), .val (.int co), .val (.int ln), .val (.int nn), .val (.int mm), .unset, .unset, .unset, .unset, .unset, .unset, .unset, .unset, .unset, .unset, .unset, .unset, .unset, .unset, .unset, .unset, .unset, .unset, .unset] [(.int (1073741820 : Int32)), (.int (co &&& (2147483647 : Int32)))])) _
    refine iremM X0 hx rfl (hb hby at_21) rfl (by decide) ?_
    show Steps p.tables e below (s₁.setTop (mkF m 22 #[.val (.long ja), .second, .val (.int a2), .val (.long jb), .second, .val (.int b2), .val (.int co), .val (.int ln), .val (.int nn), .val (.int mm), .unset, .unset, .unset, .unset, .unset, .unset, .unset, .unset, .unset, .unset, .unset, .unset, .unset, .unset, .unset, .unset, .unset, .unset, .unset] [(.int ((co &&& (2147483647 : Int32)) % (1073741820 : Int32)))])) _
    refine castTop (congrArg (fun z_ => (mkF m 22 #[.val (.long ja), .second, .val (.int a2), .val (.long jb), .second, .val (.int b2), .val (.int co), .val (.int ln), .val (.int nn), .val (.int mm), .unset, .unset, .unset, .unset, .unset, .unset, .unset, .unset, .unset, .unset, .unset, .unset, .unset, .unset, .unset, .unset, .unset, .unset, .unset] [(.int z_)])) (hcc : ((co &&& (2147483647 : Int32)) % (1073741820 : Int32)) = cc)) ?_
    show Steps p.tables e below (s₁.setTop (mkF m 22 #[.val (.long ja), .second, .val (.int a2), .val (.long jb), .second, .val (.int b2), .val (.int co), .val (.int ln), .val (.int nn), .val (.int mm), .unset, .unset, .unset, .unset, .unset, .unset, .unset, .unset, .unset, .unset, .unset, .unset, .unset, .unset, .unset, .unset, .unset, .unset, .unset] [(.int cc)])) _
    refine XS.istore X0.here hx rfl (hb hby at_22) rfl (l' := #[.val (.long ja), .second, .val (.int a2), .val (.long jb), .second, .val (.int b2), .val (.int co), .val (.int ln), .val (.int nn), .val (.int mm), .val (.int cc), .unset, .unset, .unset, .unset, .unset, .unset, .unset, .unset, .unset, .unset, .unset, .unset, .unset, .unset, .unset, .unset, .unset, .unset]) rfl ?_
    show Steps p.tables e below (s₁.setTop (mkF m 24 #[.val (.long ja), .second, .val (.int a2), .val (.long jb), .second, .val (.int b2), .val (.int co), .val (.int ln), .val (.int nn), .val (.int mm), .val (.int cc), .unset, .unset, .unset, .unset, .unset, .unset, .unset, .unset, .unset, .unset, .unset, .unset, .unset, .unset, .unset, .unset, .unset, .unset] [])) _
    refine XS.iload X0.here hx rfl (hb hby at_24) rfl ?_
    show Steps p.tables e below (s₁.setTop (mkF m 26 #[.val (.long ja), .second, .val (.int a2), .val (.long jb), .second, .val (.int b2), .val (.int co), .val (.int ln), .val (.int nn), .val (.int mm), .val (.int cc), .unset, .unset, .unset, .unset, .unset, .unset, .unset, .unset, .unset, .unset, .unset, .unset, .unset, .unset, .unset, .unset, .unset, .unset] [(.int nn)])) _
    refine XS.lloadN X0.here hx rfl (hb hby at_26) rfl ?_
    show Steps p.tables e below (s₁.setTop (mkF m 27 #[.val (.long ja), .second, .val (.int a2), .val (.long jb), .second, .val (.int b2), .val (.int co), .val (.int ln), .val (.int nn), .val (.int mm), .val (.int cc), .unset, .unset, .unset, .unset, .unset, .unset, .unset, .unset, .unset, .unset, .unset, .unset, .unset, .unset, .unset, .unset, .unset, .unset] [(.long ja), (.int nn)])) _
    refine XS.l2i X0.here hx rfl (hb hby at_27) rfl ?_
    show Steps p.tables e below (s₁.setTop (mkF m 28 #[.val (.long ja), .second, .val (.int a2), .val (.long jb), .second, .val (.int b2), .val (.int co), .val (.int ln), .val (.int nn), .val (.int mm), .val (.int cc), .unset, .unset, .unset, .unset, .unset, .unset, .unset, .unset, .unset, .unset, .unset, .unset, .unset, .unset, .unset, .unset, .unset, .unset] [(.int (ja.toInt32)), (.int nn)])) _
    refine XS.lloadN X0.here hx rfl (hb hby at_28) rfl ?_
    show Steps p.tables e below (s₁.setTop (mkF m 29 #[.val (.long ja), .second, .val (.int a2), .val (.long jb), .second, .val (.int b2), .val (.int co), .val (.int ln), .val (.int nn), .val (.int mm), .val (.int cc), .unset, .unset, .unset, .unset, .unset, .unset, .unset, .unset, .unset, .unset, .unset, .unset, .unset, .unset, .unset, .unset, .unset, .unset] [(.long ja), (.int (ja.toInt32)), (.int nn)])) _
    refine XS.bipush X0.here hx rfl (hb hby at_29) ?_
    show Steps p.tables e below (s₁.setTop (mkF m 31 #[.val (.long ja), .second, .val (.int a2), .val (.long jb), .second, .val (.int b2), .val (.int co), .val (.int ln), .val (.int nn), .val (.int mm), .val (.int cc), .unset, .unset, .unset, .unset, .unset, .unset, .unset, .unset, .unset, .unset, .unset, .unset, .unset, .unset, .unset, .unset, .unset, .unset] [(.int (32 : Int32)), (.long ja), (.int (ja.toInt32)), (.int nn)])) _
    refine XS.lushr X0.here hx rfl (hb hby at_31) rfl ?_
    show Steps p.tables e below (s₁.setTop (mkF m 32 #[.val (.long ja), .second, .val (.int a2), .val (.long jb), .second, .val (.int b2), .val (.int co), .val (.int ln), .val (.int nn), .val (.int mm), .val (.int cc), .unset, .unset, .unset, .unset, .unset, .unset, .unset, .unset, .unset, .unset, .unset, .unset, .unset, .unset, .unset, .unset, .unset, .unset] [(.long ((ja.toUInt64 >>> ((32 : Int32) &&& 0x3f).toInt64.toUInt64).toInt64)), (.int (ja.toInt32)), (.int nn)])) _
    refine XS.l2i X0.here hx rfl (hb hby at_32) rfl ?_
    show Steps p.tables e below (s₁.setTop (mkF m 33 #[.val (.long ja), .second, .val (.int a2), .val (.long jb), .second, .val (.int b2), .val (.int co), .val (.int ln), .val (.int nn), .val (.int mm), .val (.int cc), .unset, .unset, .unset, .unset, .unset, .unset, .unset, .unset, .unset, .unset, .unset, .unset, .unset, .unset, .unset, .unset, .unset, .unset] [(.int (((ja.toUInt64 >>> ((32 : Int32) &&& 0x3f).toInt64.toUInt64).toInt64).toInt32)), (.int (ja.toInt32)), (.int nn)])) _
    refine XS.iloadN X0.here hx rfl (hb hby at_33) rfl ?_
    show Steps p.tables e below (s₁.setTop (mkF m 34 #[.val (.long ja), .second, .val (.int a2), .val (.long jb), .second, .val (.int b2), .val (.int co), .val (.int ln), .val (.int nn), .val (.int mm), .val (.int cc), .unset, .unset, .unset, .unset, .unset, .unset, .unset, .unset, .unset, .unset, .unset, .unset, .unset, .unset, .unset, .unset, .unset, .unset] [(.int a2), (.int (((ja.toUInt64 >>> ((32 : Int32) &&& 0x3f).toInt64.toUInt64).toInt64).toInt32)), (.int (ja.toInt32)), (.int nn)])) _
    refine st1 _ ?_
    show Steps p.tables e below (T1.setTop (mkF m 37 #[.val (.long ja), .second, .val (.int a2), .val (.long jb), .second, .val (.int b2), .val (.int co), .val (.int ln), .val (.int nn), .val (.int mm), .val (.int cc), .unset, .unset, .unset, .unset, .unset, .unset, .unset, .unset, .unset, .unset, .unset, .unset, .unset, .unset, .unset, .unset, .unset, .unset] [(.ref r_1)])) _
    refine XS.astore X1.here hx rfl (hb hby at_37) rfl rfl (l' := #[.val (.long ja), .second, .val (.int a2), .val (.long jb), .second, .val (.int b2), .val (.int co), .val (.int ln), .val (.int nn), .val (.int mm), .val (.int cc), .val (.ref r_1), .unset, .unset, .unset, .unset, .unset, .unset, .unset, .unset, .unset, .unset, .unset, .unset, .unset, .unset, .unset, .unset, .unset]) rfl ?_
    show Steps p.tables e below (T1.setTop (mkF m 39 #[.val (.long ja), .second, .val (.int a2), .val (.long jb), .second, .val (.int b2), .val (.int co), .val (.int ln), .val (.int nn), .val (.int mm), .val (.int cc), .val (.ref r_1), .unset, .unset, .unset, .unset, .unset, .unset, .unset, .unset, .unset, .unset, .unset, .unset, .unset, .unset, .unset, .unset, .unset] [])) _
    refine XS.iload X1.here hx rfl (hb hby at_39) rfl ?_
    show Steps p.tables e below (T1.setTop (mkF m 41 #[.val (.long ja), .second, .val (.int a2), .val (.long jb), .second, .val (.int b2), .val (.int co), .val (.int ln), .val (.int nn), .val (.int mm), .val (.int cc), .val (.ref r_1), .unset, .unset, .unset, .unset, .unset, .unset, .unset, .unset, .unset, .unset, .unset, .unset, .unset, .unset, .unset, .unset, .unset] [(.int mm)])) _
    refine XS.lloadN X1.here hx rfl (hb hby at_41) rfl ?_
    show Steps p.tables e below (T1.setTop (mkF m 42 #[.val (.long ja), .second, .val (.int a2), .val (.long jb), .second, .val (.int b2), .val (.int co), .val (.int ln), .val (.int nn), .val (.int mm), .val (.int cc), .val (.ref r_1), .unset, .unset, .unset, .unset, .unset, .unset, .unset, .unset, .unset, .unset, .unset, .unset, .unset, .unset, .unset, .unset, .unset] [(.long jb), (.int mm)])) _
    refine XS.l2i X1.here hx rfl (hb hby at_42) rfl ?_
    show Steps p.tables e below (T1.setTop (mkF m 43 #[.val (.long ja), .second, .val (.int a2), .val (.long jb), .second, .val (.int b2), .val (.int co), .val (.int ln), .val (.int nn), .val (.int mm), .val (.int cc), .val (.ref r_1), .unset, .unset, .unset, .unset, .unset, .unset, .unset, .unset, .unset, .unset, .unset, .unset, .unset, .unset, .unset, .unset, .unset] [(.int (jb.toInt32)), (.int mm)])) _
    refine XS.lloadN X1.here hx rfl (hb hby at_43) rfl ?_
    show Steps p.tables e below (T1.setTop (mkF m 44 #[.val (.long ja), .second, .val (.int a2), .val (.long jb), .second, .val (.int b2), .val (.int co), .val (.int ln), .val (.int nn), .val (.int mm), .val (.int cc), .val (.ref r_1), .unset, .unset, .unset, .unset, .unset, .unset, .unset, .unset, .unset, .unset, .unset, .unset, .unset, .unset, .unset, .unset, .unset] [(.long jb), (.int (jb.toInt32)), (.int mm)])) _
    refine XS.bipush X1.here hx rfl (hb hby at_44) ?_
    show Steps p.tables e below (T1.setTop (mkF m 46 #[.val (.long ja), .second, .val (.int a2), .val (.long jb), .second, .val (.int b2), .val (.int co), .val (.int ln), .val (.int nn), .val (.int mm), .val (.int cc), .val (.ref r_1), .unset, .unset, .unset, .unset, .unset, .unset, .unset, .unset, .unset, .unset, .unset, .unset, .unset, .unset, .unset, .unset, .unset] [(.int (32 : Int32)), (.long jb), (.int (jb.toInt32)), (.int mm)])) _
    refine XS.lushr X1.here hx rfl (hb hby at_46) rfl ?_
    show Steps p.tables e below (T1.setTop (mkF m 47 #[.val (.long ja), .second, .val (.int a2), .val (.long jb), .second, .val (.int b2), .val (.int co), .val (.int ln), .val (.int nn), .val (.int mm), .val (.int cc), .val (.ref r_1), .unset, .unset, .unset, .unset, .unset, .unset, .unset, .unset, .unset, .unset, .unset, .unset, .unset, .unset, .unset, .unset, .unset] [(.long ((jb.toUInt64 >>> ((32 : Int32) &&& 0x3f).toInt64.toUInt64).toInt64)), (.int (jb.toInt32)), (.int mm)])) _
    refine XS.l2i X1.here hx rfl (hb hby at_47) rfl ?_
    show Steps p.tables e below (T1.setTop (mkF m 48 #[.val (.long ja), .second, .val (.int a2), .val (.long jb), .second, .val (.int b2), .val (.int co), .val (.int ln), .val (.int nn), .val (.int mm), .val (.int cc), .val (.ref r_1), .unset, .unset, .unset, .unset, .unset, .unset, .unset, .unset, .unset, .unset, .unset, .unset, .unset, .unset, .unset, .unset, .unset] [(.int (((jb.toUInt64 >>> ((32 : Int32) &&& 0x3f).toInt64.toUInt64).toInt64).toInt32)), (.int (jb.toInt32)), (.int mm)])) _
    refine XS.iload X1.here hx rfl (hb hby at_48) rfl ?_
    show Steps p.tables e below (T1.setTop (mkF m 50 #[.val (.long ja), .second, .val (.int a2), .val (.long jb), .second, .val (.int b2), .val (.int co), .val (.int ln), .val (.int nn), .val (.int mm), .val (.int cc), .val (.ref r_1), .unset, .unset, .unset, .unset, .unset, .unset, .unset, .unset, .unset, .unset, .unset, .unset, .unset, .unset, .unset, .unset, .unset] [(.int b2), (.int (((jb.toUInt64 >>> ((32 : Int32) &&& 0x3f).toInt64.toUInt64).toInt64).toInt32)), (.int (jb.toInt32)), (.int mm)])) _
    refine st2 _ ?_
    show Steps p.tables e below (T2.setTop (mkF m 53 #[.val (.long ja), .second, .val (.int a2), .val (.long jb), .second, .val (.int b2), .val (.int co), .val (.int ln), .val (.int nn), .val (.int mm), .val (.int cc), .val (.ref r_1), .unset, .unset, .unset, .unset, .unset, .unset, .unset, .unset, .unset, .unset, .unset, .unset, .unset, .unset, .unset, .unset, .unset] [(.ref r_2)])) _
    refine XS.astore X2.here hx rfl (hb hby at_53) rfl rfl (l' := #[.val (.long ja), .second, .val (.int a2), .val (.long jb), .second, .val (.int b2), .val (.int co), .val (.int ln), .val (.int nn), .val (.int mm), .val (.int cc), .val (.ref r_1), .val (.ref r_2), .unset, .unset, .unset, .unset, .unset, .unset, .unset, .unset, .unset, .unset, .unset, .unset, .unset, .unset, .unset, .unset]) rfl ?_
    show Steps p.tables e below (T2.setTop (mkF m 55 #[.val (.long ja), .second, .val (.int a2), .val (.long jb), .second, .val (.int b2), .val (.int co), .val (.int ln), .val (.int nn), .val (.int mm), .val (.int cc), .val (.ref r_1), .val (.ref r_2), .unset, .unset, .unset, .unset, .unset, .unset, .unset, .unset, .unset, .unset, .unset, .unset, .unset, .unset, .unset, .unset] [])) _
    refine XS.aload X2.here hx rfl (hb hby at_55) rfl rfl ?_
    show Steps p.tables e below (T2.setTop (mkF m 57 #[.val (.long ja), .second, .val (.int a2), .val (.long jb), .second, .val (.int b2), .val (.int co), .val (.int ln), .val (.int nn), .val (.int mm), .val (.int cc), .val (.ref r_1), .val (.ref r_2), .unset, .unset, .unset, .unset, .unset, .unset, .unset, .unset, .unset, .unset, .unset, .unset, .unset, .unset, .unset, .unset] [(.ref r_1)])) _
    refine XS.iconst X2.here hx rfl (hb hby at_57) ?_
    show Steps p.tables e below (T2.setTop (mkF m 58 #[.val (.long ja), .second, .val (.int a2), .val (.long jb), .second, .val (.int b2), .val (.int co), .val (.int ln), .val (.int nn), .val (.int mm), .val (.int cc), .val (.ref r_1), .val (.ref r_2), .unset, .unset, .unset, .unset, .unset, .unset, .unset, .unset, .unset, .unset, .unset, .unset, .unset, .unset, .unset, .unset] [(.int (0 : Int32)), (.ref r_1)])) _
    refine XS.aload X2.here hx rfl (hb hby at_58) rfl rfl ?_
    show Steps p.tables e below (T2.setTop (mkF m 60 #[.val (.long ja), .second, .val (.int a2), .val (.long jb), .second, .val (.int b2), .val (.int co), .val (.int ln), .val (.int nn), .val (.int mm), .val (.int cc), .val (.ref r_1), .val (.ref r_2), .unset, .unset, .unset, .unset, .unset, .unset, .unset, .unset, .unset, .unset, .unset, .unset, .unset, .unset, .unset, .unset] [(.ref r_2), (.int (0 : Int32)), (.ref r_1)])) _
    refine XS.iconst X2.here hx rfl (hb hby at_60) ?_
    show Steps p.tables e below (T2.setTop (mkF m 61 #[.val (.long ja), .second, .val (.int a2), .val (.long jb), .second, .val (.int b2), .val (.int co), .val (.int ln), .val (.int nn), .val (.int mm), .val (.int cc), .val (.ref r_1), .val (.ref r_2), .unset, .unset, .unset, .unset, .unset, .unset, .unset, .unset, .unset, .unset, .unset, .unset, .unset, .unset, .unset, .unset] [(.int (0 : Int32)), (.ref r_2), (.int (0 : Int32)), (.ref r_1)])) _
    refine st3 _ ?_
    show Steps p.tables e below (T3.setTop (mkF m 64 #[.val (.long ja), .second, .val (.int a2), .val (.long jb), .second, .val (.int b2), .val (.int co), .val (.int ln), .val (.int nn), .val (.int mm), .val (.int cc), .val (.ref r_1), .val (.ref r_2), .unset, .unset, .unset, .unset, .unset, .unset, .unset, .unset, .unset, .unset, .unset, .unset, .unset, .unset, .unset, .unset] [(.int (eqF nn mm f g (0 : Int32) (0 : Int32)))])) _
    refine castTop (congrArg (fun z_ => (mkF m 64 #[.val (.long ja), .second, .val (.int a2), .val (.long jb), .second, .val (.int b2), .val (.int co), .val (.int ln), .val (.int nn), .val (.int mm), .val (.int cc), .val (.ref r_1), .val (.ref r_2), .unset, .unset, .unset, .unset, .unset, .unset, .unset, .unset, .unset, .unset, .unset, .unset, .unset, .unset, .unset, .unset] [(.int z_)])) (h00 : (eqF nn mm f g (0 : Int32) (0 : Int32)) = e00)) ?_
    show Steps p.tables e below (T3.setTop (mkF m 64 #[.val (.long ja), .second, .val (.int a2), .val (.long jb), .second, .val (.int b2), .val (.int co), .val (.int ln), .val (.int nn), .val (.int mm), .val (.int cc), .val (.ref r_1), .val (.ref r_2), .unset, .unset, .unset, .unset, .unset, .unset, .unset, .unset, .unset, .unset, .unset, .unset, .unset, .unset, .unset, .unset] [(.int e00)])) _
    refine XS.istore X3.here hx rfl (hb hby at_64) rfl (l' := #[.val (.long ja), .second, .val (.int a2), .val (.long jb), .second, .val (.int b2), .val (.int co), .val (.int ln), .val (.int nn), .val (.int mm), .val (.int cc), .val (.ref r_1), .val (.ref r_2), .val (.int e00), .unset, .unset, .unset, .unset, .unset, .unset, .unset, .unset, .unset, .unset, .unset, .unset, .unset, .unset, .unset]) rfl ?_
    show Steps p.tables e below (T3.setTop (mkF m 66 #[.val (.long ja), .second, .val (.int a2), .val (.long jb), .second, .val (.int b2), .val (.int co), .val (.int ln), .val (.int nn), .val (.int mm), .val (.int cc), .val (.ref r_1), .val (.ref r_2), .val (.int e00), .unset, .unset, .unset, .unset, .unset, .unset, .unset, .unset, .unset, .unset, .unset, .unset, .unset, .unset, .unset] [])) _
    refine XS.aload X3.here hx rfl (hb hby at_66) rfl rfl ?_
    show Steps p.tables e below (T3.setTop (mkF m 68 #[.val (.long ja), .second, .val (.int a2), .val (.long jb), .second, .val (.int b2), .val (.int co), .val (.int ln), .val (.int nn), .val (.int mm), .val (.int cc), .val (.ref r_1), .val (.ref r_2), .val (.int e00), .unset, .unset, .unset, .unset, .unset, .unset, .unset, .unset, .unset, .unset, .unset, .unset, .unset, .unset, .unset] [(.ref r_1)])) _
    refine XS.iconst X3.here hx rfl (hb hby at_68) ?_
    show Steps p.tables e below (T3.setTop (mkF m 69 #[.val (.long ja), .second, .val (.int a2), .val (.long jb), .second, .val (.int b2), .val (.int co), .val (.int ln), .val (.int nn), .val (.int mm), .val (.int cc), .val (.ref r_1), .val (.ref r_2), .val (.int e00), .unset, .unset, .unset, .unset, .unset, .unset, .unset, .unset, .unset, .unset, .unset, .unset, .unset, .unset, .unset] [(.int (0 : Int32)), (.ref r_1)])) _
    refine XS.aload X3.here hx rfl (hb hby at_69) rfl rfl ?_
    show Steps p.tables e below (T3.setTop (mkF m 71 #[.val (.long ja), .second, .val (.int a2), .val (.long jb), .second, .val (.int b2), .val (.int co), .val (.int ln), .val (.int nn), .val (.int mm), .val (.int cc), .val (.ref r_1), .val (.ref r_2), .val (.int e00), .unset, .unset, .unset, .unset, .unset, .unset, .unset, .unset, .unset, .unset, .unset, .unset, .unset, .unset, .unset] [(.ref r_2), (.int (0 : Int32)), (.ref r_1)])) _
    refine XS.iconst X3.here hx rfl (hb hby at_71) ?_
    show Steps p.tables e below (T3.setTop (mkF m 72 #[.val (.long ja), .second, .val (.int a2), .val (.long jb), .second, .val (.int b2), .val (.int co), .val (.int ln), .val (.int nn), .val (.int mm), .val (.int cc), .val (.ref r_1), .val (.ref r_2), .val (.int e00), .unset, .unset, .unset, .unset, .unset, .unset, .unset, .unset, .unset, .unset, .unset, .unset, .unset, .unset, .unset] [(.int (1 : Int32)), (.ref r_2), (.int (0 : Int32)), (.ref r_1)])) _
    refine st4 _ ?_
    show Steps p.tables e below (T4.setTop (mkF m 75 #[.val (.long ja), .second, .val (.int a2), .val (.long jb), .second, .val (.int b2), .val (.int co), .val (.int ln), .val (.int nn), .val (.int mm), .val (.int cc), .val (.ref r_1), .val (.ref r_2), .val (.int e00), .unset, .unset, .unset, .unset, .unset, .unset, .unset, .unset, .unset, .unset, .unset, .unset, .unset, .unset, .unset] [(.int (eqF nn mm f g (0 : Int32) (1 : Int32)))])) _
    refine castTop (congrArg (fun z_ => (mkF m 75 #[.val (.long ja), .second, .val (.int a2), .val (.long jb), .second, .val (.int b2), .val (.int co), .val (.int ln), .val (.int nn), .val (.int mm), .val (.int cc), .val (.ref r_1), .val (.ref r_2), .val (.int e00), .unset, .unset, .unset, .unset, .unset, .unset, .unset, .unset, .unset, .unset, .unset, .unset, .unset, .unset, .unset] [(.int z_)])) (h01 : (eqF nn mm f g (0 : Int32) (1 : Int32)) = e01)) ?_
    show Steps p.tables e below (T4.setTop (mkF m 75 #[.val (.long ja), .second, .val (.int a2), .val (.long jb), .second, .val (.int b2), .val (.int co), .val (.int ln), .val (.int nn), .val (.int mm), .val (.int cc), .val (.ref r_1), .val (.ref r_2), .val (.int e00), .unset, .unset, .unset, .unset, .unset, .unset, .unset, .unset, .unset, .unset, .unset, .unset, .unset, .unset, .unset] [(.int e01)])) _
    refine XS.istore X4.here hx rfl (hb hby at_75) rfl (l' := #[.val (.long ja), .second, .val (.int a2), .val (.long jb), .second, .val (.int b2), .val (.int co), .val (.int ln), .val (.int nn), .val (.int mm), .val (.int cc), .val (.ref r_1), .val (.ref r_2), .val (.int e00), .val (.int e01), .unset, .unset, .unset, .unset, .unset, .unset, .unset, .unset, .unset, .unset, .unset, .unset, .unset, .unset]) rfl ?_
    show Steps p.tables e below (T4.setTop (mkF m 77 #[.val (.long ja), .second, .val (.int a2), .val (.long jb), .second, .val (.int b2), .val (.int co), .val (.int ln), .val (.int nn), .val (.int mm), .val (.int cc), .val (.ref r_1), .val (.ref r_2), .val (.int e00), .val (.int e01), .unset, .unset, .unset, .unset, .unset, .unset, .unset, .unset, .unset, .unset, .unset, .unset, .unset, .unset] [])) _
    refine XS.aload X4.here hx rfl (hb hby at_77) rfl rfl ?_
    show Steps p.tables e below (T4.setTop (mkF m 79 #[.val (.long ja), .second, .val (.int a2), .val (.long jb), .second, .val (.int b2), .val (.int co), .val (.int ln), .val (.int nn), .val (.int mm), .val (.int cc), .val (.ref r_1), .val (.ref r_2), .val (.int e00), .val (.int e01), .unset, .unset, .unset, .unset, .unset, .unset, .unset, .unset, .unset, .unset, .unset, .unset, .unset, .unset] [(.ref r_1)])) _
    refine XS.iconst X4.here hx rfl (hb hby at_79) ?_
    show Steps p.tables e below (T4.setTop (mkF m 80 #[.val (.long ja), .second, .val (.int a2), .val (.long jb), .second, .val (.int b2), .val (.int co), .val (.int ln), .val (.int nn), .val (.int mm), .val (.int cc), .val (.ref r_1), .val (.ref r_2), .val (.int e00), .val (.int e01), .unset, .unset, .unset, .unset, .unset, .unset, .unset, .unset, .unset, .unset, .unset, .unset, .unset, .unset] [(.int (0 : Int32)), (.ref r_1)])) _
    refine XS.aload X4.here hx rfl (hb hby at_80) rfl rfl ?_
    show Steps p.tables e below (T4.setTop (mkF m 82 #[.val (.long ja), .second, .val (.int a2), .val (.long jb), .second, .val (.int b2), .val (.int co), .val (.int ln), .val (.int nn), .val (.int mm), .val (.int cc), .val (.ref r_1), .val (.ref r_2), .val (.int e00), .val (.int e01), .unset, .unset, .unset, .unset, .unset, .unset, .unset, .unset, .unset, .unset, .unset, .unset, .unset, .unset] [(.ref r_2), (.int (0 : Int32)), (.ref r_1)])) _
    refine XS.iconst X4.here hx rfl (hb hby at_82) ?_
    show Steps p.tables e below (T4.setTop (mkF m 83 #[.val (.long ja), .second, .val (.int a2), .val (.long jb), .second, .val (.int b2), .val (.int co), .val (.int ln), .val (.int nn), .val (.int mm), .val (.int cc), .val (.ref r_1), .val (.ref r_2), .val (.int e00), .val (.int e01), .unset, .unset, .unset, .unset, .unset, .unset, .unset, .unset, .unset, .unset, .unset, .unset, .unset, .unset] [(.int (2 : Int32)), (.ref r_2), (.int (0 : Int32)), (.ref r_1)])) _
    refine st5 _ ?_
    show Steps p.tables e below (T5.setTop (mkF m 86 #[.val (.long ja), .second, .val (.int a2), .val (.long jb), .second, .val (.int b2), .val (.int co), .val (.int ln), .val (.int nn), .val (.int mm), .val (.int cc), .val (.ref r_1), .val (.ref r_2), .val (.int e00), .val (.int e01), .unset, .unset, .unset, .unset, .unset, .unset, .unset, .unset, .unset, .unset, .unset, .unset, .unset, .unset] [(.int (eqF nn mm f g (0 : Int32) (2 : Int32)))])) _
    refine castTop (congrArg (fun z_ => (mkF m 86 #[.val (.long ja), .second, .val (.int a2), .val (.long jb), .second, .val (.int b2), .val (.int co), .val (.int ln), .val (.int nn), .val (.int mm), .val (.int cc), .val (.ref r_1), .val (.ref r_2), .val (.int e00), .val (.int e01), .unset, .unset, .unset, .unset, .unset, .unset, .unset, .unset, .unset, .unset, .unset, .unset, .unset, .unset] [(.int z_)])) (h02 : (eqF nn mm f g (0 : Int32) (2 : Int32)) = e02)) ?_
    show Steps p.tables e below (T5.setTop (mkF m 86 #[.val (.long ja), .second, .val (.int a2), .val (.long jb), .second, .val (.int b2), .val (.int co), .val (.int ln), .val (.int nn), .val (.int mm), .val (.int cc), .val (.ref r_1), .val (.ref r_2), .val (.int e00), .val (.int e01), .unset, .unset, .unset, .unset, .unset, .unset, .unset, .unset, .unset, .unset, .unset, .unset, .unset, .unset] [(.int e02)])) _
    refine XS.istore X5.here hx rfl (hb hby at_86) rfl (l' := #[.val (.long ja), .second, .val (.int a2), .val (.long jb), .second, .val (.int b2), .val (.int co), .val (.int ln), .val (.int nn), .val (.int mm), .val (.int cc), .val (.ref r_1), .val (.ref r_2), .val (.int e00), .val (.int e01), .val (.int e02), .unset, .unset, .unset, .unset, .unset, .unset, .unset, .unset, .unset, .unset, .unset, .unset, .unset]) rfl ?_
    show Steps p.tables e below (T5.setTop (mkF m 88 #[.val (.long ja), .second, .val (.int a2), .val (.long jb), .second, .val (.int b2), .val (.int co), .val (.int ln), .val (.int nn), .val (.int mm), .val (.int cc), .val (.ref r_1), .val (.ref r_2), .val (.int e00), .val (.int e01), .val (.int e02), .unset, .unset, .unset, .unset, .unset, .unset, .unset, .unset, .unset, .unset, .unset, .unset, .unset] [])) _
    refine XS.aload X5.here hx rfl (hb hby at_88) rfl rfl ?_
    show Steps p.tables e below (T5.setTop (mkF m 90 #[.val (.long ja), .second, .val (.int a2), .val (.long jb), .second, .val (.int b2), .val (.int co), .val (.int ln), .val (.int nn), .val (.int mm), .val (.int cc), .val (.ref r_1), .val (.ref r_2), .val (.int e00), .val (.int e01), .val (.int e02), .unset, .unset, .unset, .unset, .unset, .unset, .unset, .unset, .unset, .unset, .unset, .unset, .unset] [(.ref r_1)])) _
    refine XS.iconst X5.here hx rfl (hb hby at_90) ?_
    show Steps p.tables e below (T5.setTop (mkF m 91 #[.val (.long ja), .second, .val (.int a2), .val (.long jb), .second, .val (.int b2), .val (.int co), .val (.int ln), .val (.int nn), .val (.int mm), .val (.int cc), .val (.ref r_1), .val (.ref r_2), .val (.int e00), .val (.int e01), .val (.int e02), .unset, .unset, .unset, .unset, .unset, .unset, .unset, .unset, .unset, .unset, .unset, .unset, .unset] [(.int (1 : Int32)), (.ref r_1)])) _
    refine XS.aload X5.here hx rfl (hb hby at_91) rfl rfl ?_
    show Steps p.tables e below (T5.setTop (mkF m 93 #[.val (.long ja), .second, .val (.int a2), .val (.long jb), .second, .val (.int b2), .val (.int co), .val (.int ln), .val (.int nn), .val (.int mm), .val (.int cc), .val (.ref r_1), .val (.ref r_2), .val (.int e00), .val (.int e01), .val (.int e02), .unset, .unset, .unset, .unset, .unset, .unset, .unset, .unset, .unset, .unset, .unset, .unset, .unset] [(.ref r_2), (.int (1 : Int32)), (.ref r_1)])) _
    refine XS.iconst X5.here hx rfl (hb hby at_93) ?_
    show Steps p.tables e below (T5.setTop (mkF m 94 #[.val (.long ja), .second, .val (.int a2), .val (.long jb), .second, .val (.int b2), .val (.int co), .val (.int ln), .val (.int nn), .val (.int mm), .val (.int cc), .val (.ref r_1), .val (.ref r_2), .val (.int e00), .val (.int e01), .val (.int e02), .unset, .unset, .unset, .unset, .unset, .unset, .unset, .unset, .unset, .unset, .unset, .unset, .unset] [(.int (0 : Int32)), (.ref r_2), (.int (1 : Int32)), (.ref r_1)])) _
    refine st6 _ ?_
    show Steps p.tables e below (T6.setTop (mkF m 97 #[.val (.long ja), .second, .val (.int a2), .val (.long jb), .second, .val (.int b2), .val (.int co), .val (.int ln), .val (.int nn), .val (.int mm), .val (.int cc), .val (.ref r_1), .val (.ref r_2), .val (.int e00), .val (.int e01), .val (.int e02), .unset, .unset, .unset, .unset, .unset, .unset, .unset, .unset, .unset, .unset, .unset, .unset, .unset] [(.int (eqF nn mm f g (1 : Int32) (0 : Int32)))])) _
    refine castTop (congrArg (fun z_ => (mkF m 97 #[.val (.long ja), .second, .val (.int a2), .val (.long jb), .second, .val (.int b2), .val (.int co), .val (.int ln), .val (.int nn), .val (.int mm), .val (.int cc), .val (.ref r_1), .val (.ref r_2), .val (.int e00), .val (.int e01), .val (.int e02), .unset, .unset, .unset, .unset, .unset, .unset, .unset, .unset, .unset, .unset, .unset, .unset, .unset] [(.int z_)])) (h10 : (eqF nn mm f g (1 : Int32) (0 : Int32)) = e10)) ?_
    show Steps p.tables e below (T6.setTop (mkF m 97 #[.val (.long ja), .second, .val (.int a2), .val (.long jb), .second, .val (.int b2), .val (.int co), .val (.int ln), .val (.int nn), .val (.int mm), .val (.int cc), .val (.ref r_1), .val (.ref r_2), .val (.int e00), .val (.int e01), .val (.int e02), .unset, .unset, .unset, .unset, .unset, .unset, .unset, .unset, .unset, .unset, .unset, .unset, .unset] [(.int e10)])) _
    refine XS.istore X6.here hx rfl (hb hby at_97) rfl (l' := #[.val (.long ja), .second, .val (.int a2), .val (.long jb), .second, .val (.int b2), .val (.int co), .val (.int ln), .val (.int nn), .val (.int mm), .val (.int cc), .val (.ref r_1), .val (.ref r_2), .val (.int e00), .val (.int e01), .val (.int e02), .val (.int e10), .unset, .unset, .unset, .unset, .unset, .unset, .unset, .unset, .unset, .unset, .unset, .unset]) rfl ?_
    show Steps p.tables e below (T6.setTop (mkF m 99 #[.val (.long ja), .second, .val (.int a2), .val (.long jb), .second, .val (.int b2), .val (.int co), .val (.int ln), .val (.int nn), .val (.int mm), .val (.int cc), .val (.ref r_1), .val (.ref r_2), .val (.int e00), .val (.int e01), .val (.int e02), .val (.int e10), .unset, .unset, .unset, .unset, .unset, .unset, .unset, .unset, .unset, .unset, .unset, .unset] [])) _
    refine XS.aload X6.here hx rfl (hb hby at_99) rfl rfl ?_
    show Steps p.tables e below (T6.setTop (mkF m 101 #[.val (.long ja), .second, .val (.int a2), .val (.long jb), .second, .val (.int b2), .val (.int co), .val (.int ln), .val (.int nn), .val (.int mm), .val (.int cc), .val (.ref r_1), .val (.ref r_2), .val (.int e00), .val (.int e01), .val (.int e02), .val (.int e10), .unset, .unset, .unset, .unset, .unset, .unset, .unset, .unset, .unset, .unset, .unset, .unset] [(.ref r_1)])) _
    refine XS.iconst X6.here hx rfl (hb hby at_101) ?_
    show Steps p.tables e below (T6.setTop (mkF m 102 #[.val (.long ja), .second, .val (.int a2), .val (.long jb), .second, .val (.int b2), .val (.int co), .val (.int ln), .val (.int nn), .val (.int mm), .val (.int cc), .val (.ref r_1), .val (.ref r_2), .val (.int e00), .val (.int e01), .val (.int e02), .val (.int e10), .unset, .unset, .unset, .unset, .unset, .unset, .unset, .unset, .unset, .unset, .unset, .unset] [(.int (1 : Int32)), (.ref r_1)])) _
    refine XS.aload X6.here hx rfl (hb hby at_102) rfl rfl ?_
    show Steps p.tables e below (T6.setTop (mkF m 104 #[.val (.long ja), .second, .val (.int a2), .val (.long jb), .second, .val (.int b2), .val (.int co), .val (.int ln), .val (.int nn), .val (.int mm), .val (.int cc), .val (.ref r_1), .val (.ref r_2), .val (.int e00), .val (.int e01), .val (.int e02), .val (.int e10), .unset, .unset, .unset, .unset, .unset, .unset, .unset, .unset, .unset, .unset, .unset, .unset] [(.ref r_2), (.int (1 : Int32)), (.ref r_1)])) _
    refine XS.iconst X6.here hx rfl (hb hby at_104) ?_
    show Steps p.tables e below (T6.setTop (mkF m 105 #[.val (.long ja), .second, .val (.int a2), .val (.long jb), .second, .val (.int b2), .val (.int co), .val (.int ln), .val (.int nn), .val (.int mm), .val (.int cc), .val (.ref r_1), .val (.ref r_2), .val (.int e00), .val (.int e01), .val (.int e02), .val (.int e10), .unset, .unset, .unset, .unset, .unset, .unset, .unset, .unset, .unset, .unset, .unset, .unset] [(.int (1 : Int32)), (.ref r_2), (.int (1 : Int32)), (.ref r_1)])) _
    refine st7 _ ?_
    show Steps p.tables e below (T7.setTop (mkF m 108 #[.val (.long ja), .second, .val (.int a2), .val (.long jb), .second, .val (.int b2), .val (.int co), .val (.int ln), .val (.int nn), .val (.int mm), .val (.int cc), .val (.ref r_1), .val (.ref r_2), .val (.int e00), .val (.int e01), .val (.int e02), .val (.int e10), .unset, .unset, .unset, .unset, .unset, .unset, .unset, .unset, .unset, .unset, .unset, .unset] [(.int (eqF nn mm f g (1 : Int32) (1 : Int32)))])) _
    refine castTop (congrArg (fun z_ => (mkF m 108 #[.val (.long ja), .second, .val (.int a2), .val (.long jb), .second, .val (.int b2), .val (.int co), .val (.int ln), .val (.int nn), .val (.int mm), .val (.int cc), .val (.ref r_1), .val (.ref r_2), .val (.int e00), .val (.int e01), .val (.int e02), .val (.int e10), .unset, .unset, .unset, .unset, .unset, .unset, .unset, .unset, .unset, .unset, .unset, .unset] [(.int z_)])) (h11 : (eqF nn mm f g (1 : Int32) (1 : Int32)) = e11)) ?_
    show Steps p.tables e below (T7.setTop (mkF m 108 #[.val (.long ja), .second, .val (.int a2), .val (.long jb), .second, .val (.int b2), .val (.int co), .val (.int ln), .val (.int nn), .val (.int mm), .val (.int cc), .val (.ref r_1), .val (.ref r_2), .val (.int e00), .val (.int e01), .val (.int e02), .val (.int e10), .unset, .unset, .unset, .unset, .unset, .unset, .unset, .unset, .unset, .unset, .unset, .unset] [(.int e11)])) _
    refine XS.istore X7.here hx rfl (hb hby at_108) rfl (l' := #[.val (.long ja), .second, .val (.int a2), .val (.long jb), .second, .val (.int b2), .val (.int co), .val (.int ln), .val (.int nn), .val (.int mm), .val (.int cc), .val (.ref r_1), .val (.ref r_2), .val (.int e00), .val (.int e01), .val (.int e02), .val (.int e10), .val (.int e11), .unset, .unset, .unset, .unset, .unset, .unset, .unset, .unset, .unset, .unset, .unset]) rfl ?_
    show Steps p.tables e below (T7.setTop (mkF m 110 #[.val (.long ja), .second, .val (.int a2), .val (.long jb), .second, .val (.int b2), .val (.int co), .val (.int ln), .val (.int nn), .val (.int mm), .val (.int cc), .val (.ref r_1), .val (.ref r_2), .val (.int e00), .val (.int e01), .val (.int e02), .val (.int e10), .val (.int e11), .unset, .unset, .unset, .unset, .unset, .unset, .unset, .unset, .unset, .unset, .unset] [])) _
    refine XS.aload X7.here hx rfl (hb hby at_110) rfl rfl ?_
    show Steps p.tables e below (T7.setTop (mkF m 112 #[.val (.long ja), .second, .val (.int a2), .val (.long jb), .second, .val (.int b2), .val (.int co), .val (.int ln), .val (.int nn), .val (.int mm), .val (.int cc), .val (.ref r_1), .val (.ref r_2), .val (.int e00), .val (.int e01), .val (.int e02), .val (.int e10), .val (.int e11), .unset, .unset, .unset, .unset, .unset, .unset, .unset, .unset, .unset, .unset, .unset] [(.ref r_1)])) _
    refine XS.iconst X7.here hx rfl (hb hby at_112) ?_
    show Steps p.tables e below (T7.setTop (mkF m 113 #[.val (.long ja), .second, .val (.int a2), .val (.long jb), .second, .val (.int b2), .val (.int co), .val (.int ln), .val (.int nn), .val (.int mm), .val (.int cc), .val (.ref r_1), .val (.ref r_2), .val (.int e00), .val (.int e01), .val (.int e02), .val (.int e10), .val (.int e11), .unset, .unset, .unset, .unset, .unset, .unset, .unset, .unset, .unset, .unset, .unset] [(.int (1 : Int32)), (.ref r_1)])) _
    refine XS.aload X7.here hx rfl (hb hby at_113) rfl rfl ?_
    show Steps p.tables e below (T7.setTop (mkF m 115 #[.val (.long ja), .second, .val (.int a2), .val (.long jb), .second, .val (.int b2), .val (.int co), .val (.int ln), .val (.int nn), .val (.int mm), .val (.int cc), .val (.ref r_1), .val (.ref r_2), .val (.int e00), .val (.int e01), .val (.int e02), .val (.int e10), .val (.int e11), .unset, .unset, .unset, .unset, .unset, .unset, .unset, .unset, .unset, .unset, .unset] [(.ref r_2), (.int (1 : Int32)), (.ref r_1)])) _
    refine XS.iconst X7.here hx rfl (hb hby at_115) ?_
    show Steps p.tables e below (T7.setTop (mkF m 116 #[.val (.long ja), .second, .val (.int a2), .val (.long jb), .second, .val (.int b2), .val (.int co), .val (.int ln), .val (.int nn), .val (.int mm), .val (.int cc), .val (.ref r_1), .val (.ref r_2), .val (.int e00), .val (.int e01), .val (.int e02), .val (.int e10), .val (.int e11), .unset, .unset, .unset, .unset, .unset, .unset, .unset, .unset, .unset, .unset, .unset] [(.int (2 : Int32)), (.ref r_2), (.int (1 : Int32)), (.ref r_1)])) _
    refine st8 _ ?_
    show Steps p.tables e below (T8.setTop (mkF m 119 #[.val (.long ja), .second, .val (.int a2), .val (.long jb), .second, .val (.int b2), .val (.int co), .val (.int ln), .val (.int nn), .val (.int mm), .val (.int cc), .val (.ref r_1), .val (.ref r_2), .val (.int e00), .val (.int e01), .val (.int e02), .val (.int e10), .val (.int e11), .unset, .unset, .unset, .unset, .unset, .unset, .unset, .unset, .unset, .unset, .unset] [(.int (eqF nn mm f g (1 : Int32) (2 : Int32)))])) _
    refine castTop (congrArg (fun z_ => (mkF m 119 #[.val (.long ja), .second, .val (.int a2), .val (.long jb), .second, .val (.int b2), .val (.int co), .val (.int ln), .val (.int nn), .val (.int mm), .val (.int cc), .val (.ref r_1), .val (.ref r_2), .val (.int e00), .val (.int e01), .val (.int e02), .val (.int e10), .val (.int e11), .unset, .unset, .unset, .unset, .unset, .unset, .unset, .unset, .unset, .unset, .unset] [(.int z_)])) (h12 : (eqF nn mm f g (1 : Int32) (2 : Int32)) = e12)) ?_
    show Steps p.tables e below (T8.setTop (mkF m 119 #[.val (.long ja), .second, .val (.int a2), .val (.long jb), .second, .val (.int b2), .val (.int co), .val (.int ln), .val (.int nn), .val (.int mm), .val (.int cc), .val (.ref r_1), .val (.ref r_2), .val (.int e00), .val (.int e01), .val (.int e02), .val (.int e10), .val (.int e11), .unset, .unset, .unset, .unset, .unset, .unset, .unset, .unset, .unset, .unset, .unset] [(.int e12)])) _
    refine XS.istore X8.here hx rfl (hb hby at_119) rfl (l' := #[.val (.long ja), .second, .val (.int a2), .val (.long jb), .second, .val (.int b2), .val (.int co), .val (.int ln), .val (.int nn), .val (.int mm), .val (.int cc), .val (.ref r_1), .val (.ref r_2), .val (.int e00), .val (.int e01), .val (.int e02), .val (.int e10), .val (.int e11), .val (.int e12), .unset, .unset, .unset, .unset, .unset, .unset, .unset, .unset, .unset, .unset]) rfl ?_
    show Steps p.tables e below (T8.setTop (mkF m 121 #[.val (.long ja), .second, .val (.int a2), .val (.long jb), .second, .val (.int b2), .val (.int co), .val (.int ln), .val (.int nn), .val (.int mm), .val (.int cc), .val (.ref r_1), .val (.ref r_2), .val (.int e00), .val (.int e01), .val (.int e02), .val (.int e10), .val (.int e11), .val (.int e12), .unset, .unset, .unset, .unset, .unset, .unset, .unset, .unset, .unset, .unset] [])) _
    refine XS.aload X8.here hx rfl (hb hby at_121) rfl rfl ?_
    show Steps p.tables e below (T8.setTop (mkF m 123 #[.val (.long ja), .second, .val (.int a2), .val (.long jb), .second, .val (.int b2), .val (.int co), .val (.int ln), .val (.int nn), .val (.int mm), .val (.int cc), .val (.ref r_1), .val (.ref r_2), .val (.int e00), .val (.int e01), .val (.int e02), .val (.int e10), .val (.int e11), .val (.int e12), .unset, .unset, .unset, .unset, .unset, .unset, .unset, .unset, .unset, .unset] [(.ref r_1)])) _
    refine XS.iconst X8.here hx rfl (hb hby at_123) ?_
    show Steps p.tables e below (T8.setTop (mkF m 124 #[.val (.long ja), .second, .val (.int a2), .val (.long jb), .second, .val (.int b2), .val (.int co), .val (.int ln), .val (.int nn), .val (.int mm), .val (.int cc), .val (.ref r_1), .val (.ref r_2), .val (.int e00), .val (.int e01), .val (.int e02), .val (.int e10), .val (.int e11), .val (.int e12), .unset, .unset, .unset, .unset, .unset, .unset, .unset, .unset, .unset, .unset] [(.int (2 : Int32)), (.ref r_1)])) _
    refine XS.aload X8.here hx rfl (hb hby at_124) rfl rfl ?_
    show Steps p.tables e below (T8.setTop (mkF m 126 #[.val (.long ja), .second, .val (.int a2), .val (.long jb), .second, .val (.int b2), .val (.int co), .val (.int ln), .val (.int nn), .val (.int mm), .val (.int cc), .val (.ref r_1), .val (.ref r_2), .val (.int e00), .val (.int e01), .val (.int e02), .val (.int e10), .val (.int e11), .val (.int e12), .unset, .unset, .unset, .unset, .unset, .unset, .unset, .unset, .unset, .unset] [(.ref r_2), (.int (2 : Int32)), (.ref r_1)])) _
    refine XS.iconst X8.here hx rfl (hb hby at_126) ?_
    show Steps p.tables e below (T8.setTop (mkF m 127 #[.val (.long ja), .second, .val (.int a2), .val (.long jb), .second, .val (.int b2), .val (.int co), .val (.int ln), .val (.int nn), .val (.int mm), .val (.int cc), .val (.ref r_1), .val (.ref r_2), .val (.int e00), .val (.int e01), .val (.int e02), .val (.int e10), .val (.int e11), .val (.int e12), .unset, .unset, .unset, .unset, .unset, .unset, .unset, .unset, .unset, .unset] [(.int (0 : Int32)), (.ref r_2), (.int (2 : Int32)), (.ref r_1)])) _
    refine st9 _ ?_
    show Steps p.tables e below (T9.setTop (mkF m 130 #[.val (.long ja), .second, .val (.int a2), .val (.long jb), .second, .val (.int b2), .val (.int co), .val (.int ln), .val (.int nn), .val (.int mm), .val (.int cc), .val (.ref r_1), .val (.ref r_2), .val (.int e00), .val (.int e01), .val (.int e02), .val (.int e10), .val (.int e11), .val (.int e12), .unset, .unset, .unset, .unset, .unset, .unset, .unset, .unset, .unset, .unset] [(.int (eqF nn mm f g (2 : Int32) (0 : Int32)))])) _
    refine castTop (congrArg (fun z_ => (mkF m 130 #[.val (.long ja), .second, .val (.int a2), .val (.long jb), .second, .val (.int b2), .val (.int co), .val (.int ln), .val (.int nn), .val (.int mm), .val (.int cc), .val (.ref r_1), .val (.ref r_2), .val (.int e00), .val (.int e01), .val (.int e02), .val (.int e10), .val (.int e11), .val (.int e12), .unset, .unset, .unset, .unset, .unset, .unset, .unset, .unset, .unset, .unset] [(.int z_)])) (h20 : (eqF nn mm f g (2 : Int32) (0 : Int32)) = e20)) ?_
    show Steps p.tables e below (T9.setTop (mkF m 130 #[.val (.long ja), .second, .val (.int a2), .val (.long jb), .second, .val (.int b2), .val (.int co), .val (.int ln), .val (.int nn), .val (.int mm), .val (.int cc), .val (.ref r_1), .val (.ref r_2), .val (.int e00), .val (.int e01), .val (.int e02), .val (.int e10), .val (.int e11), .val (.int e12), .unset, .unset, .unset, .unset, .unset, .unset, .unset, .unset, .unset, .unset] [(.int e20)])) _
    refine XS.istore X9.here hx rfl (hb hby at_130) rfl (l' := #[.val (.long ja), .second, .val (.int a2), .val (.long jb), .second, .val (.int b2), .val (.int co), .val (.int ln), .val (.int nn), .val (.int mm), .val (.int cc), .val (.ref r_1), .val (.ref r_2), .val (.int e00), .val (.int e01), .val (.int e02), .val (.int e10), .val (.int e11), .val (.int e12), .val (.int e20), .unset, .unset, .unset, .unset, .unset, .unset, .unset, .unset, .unset]) rfl ?_
    show Steps p.tables e below (T9.setTop (mkF m 132 #[.val (.long ja), .second, .val (.int a2), .val (.long jb), .second, .val (.int b2), .val (.int co), .val (.int ln), .val (.int nn), .val (.int mm), .val (.int cc), .val (.ref r_1), .val (.ref r_2), .val (.int e00), .val (.int e01), .val (.int e02), .val (.int e10), .val (.int e11), .val (.int e12), .val (.int e20), .unset, .unset, .unset, .unset, .unset, .unset, .unset, .unset, .unset] [])) _
    refine XS.aload X9.here hx rfl (hb hby at_132) rfl rfl ?_
    show Steps p.tables e below (T9.setTop (mkF m 134 #[.val (.long ja), .second, .val (.int a2), .val (.long jb), .second, .val (.int b2), .val (.int co), .val (.int ln), .val (.int nn), .val (.int mm), .val (.int cc), .val (.ref r_1), .val (.ref r_2), .val (.int e00), .val (.int e01), .val (.int e02), .val (.int e10), .val (.int e11), .val (.int e12), .val (.int e20), .unset, .unset, .unset, .unset, .unset, .unset, .unset, .unset, .unset] [(.ref r_1)])) _
    refine XS.iconst X9.here hx rfl (hb hby at_134) ?_
    show Steps p.tables e below (T9.setTop (mkF m 135 #[.val (.long ja), .second, .val (.int a2), .val (.long jb), .second, .val (.int b2), .val (.int co), .val (.int ln), .val (.int nn), .val (.int mm), .val (.int cc), .val (.ref r_1), .val (.ref r_2), .val (.int e00), .val (.int e01), .val (.int e02), .val (.int e10), .val (.int e11), .val (.int e12), .val (.int e20), .unset, .unset, .unset, .unset, .unset, .unset, .unset, .unset, .unset] [(.int (2 : Int32)), (.ref r_1)])) _
    refine XS.aload X9.here hx rfl (hb hby at_135) rfl rfl ?_
    show Steps p.tables e below (T9.setTop (mkF m 137 #[.val (.long ja), .second, .val (.int a2), .val (.long jb), .second, .val (.int b2), .val (.int co), .val (.int ln), .val (.int nn), .val (.int mm), .val (.int cc), .val (.ref r_1), .val (.ref r_2), .val (.int e00), .val (.int e01), .val (.int e02), .val (.int e10), .val (.int e11), .val (.int e12), .val (.int e20), .unset, .unset, .unset, .unset, .unset, .unset, .unset, .unset, .unset] [(.ref r_2), (.int (2 : Int32)), (.ref r_1)])) _
    refine XS.iconst X9.here hx rfl (hb hby at_137) ?_
    show Steps p.tables e below (T9.setTop (mkF m 138 #[.val (.long ja), .second, .val (.int a2), .val (.long jb), .second, .val (.int b2), .val (.int co), .val (.int ln), .val (.int nn), .val (.int mm), .val (.int cc), .val (.ref r_1), .val (.ref r_2), .val (.int e00), .val (.int e01), .val (.int e02), .val (.int e10), .val (.int e11), .val (.int e12), .val (.int e20), .unset, .unset, .unset, .unset, .unset, .unset, .unset, .unset, .unset] [(.int (1 : Int32)), (.ref r_2), (.int (2 : Int32)), (.ref r_1)])) _
    refine st10 _ ?_
    show Steps p.tables e below (T10.setTop (mkF m 141 #[.val (.long ja), .second, .val (.int a2), .val (.long jb), .second, .val (.int b2), .val (.int co), .val (.int ln), .val (.int nn), .val (.int mm), .val (.int cc), .val (.ref r_1), .val (.ref r_2), .val (.int e00), .val (.int e01), .val (.int e02), .val (.int e10), .val (.int e11), .val (.int e12), .val (.int e20), .unset, .unset, .unset, .unset, .unset, .unset, .unset, .unset, .unset] [(.int (eqF nn mm f g (2 : Int32) (1 : Int32)))])) _
    refine castTop (congrArg (fun z_ => (mkF m 141 #[.val (.long ja), .second, .val (.int a2), .val (.long jb), .second, .val (.int b2), .val (.int co), .val (.int ln), .val (.int nn), .val (.int mm), .val (.int cc), .val (.ref r_1), .val (.ref r_2), .val (.int e00), .val (.int e01), .val (.int e02), .val (.int e10), .val (.int e11), .val (.int e12), .val (.int e20), .unset, .unset, .unset, .unset, .unset, .unset, .unset, .unset, .unset] [(.int z_)])) (h21 : (eqF nn mm f g (2 : Int32) (1 : Int32)) = e21)) ?_
    show Steps p.tables e below (T10.setTop (mkF m 141 #[.val (.long ja), .second, .val (.int a2), .val (.long jb), .second, .val (.int b2), .val (.int co), .val (.int ln), .val (.int nn), .val (.int mm), .val (.int cc), .val (.ref r_1), .val (.ref r_2), .val (.int e00), .val (.int e01), .val (.int e02), .val (.int e10), .val (.int e11), .val (.int e12), .val (.int e20), .unset, .unset, .unset, .unset, .unset, .unset, .unset, .unset, .unset] [(.int e21)])) _
    refine XS.istore X10.here hx rfl (hb hby at_141) rfl (l' := #[.val (.long ja), .second, .val (.int a2), .val (.long jb), .second, .val (.int b2), .val (.int co), .val (.int ln), .val (.int nn), .val (.int mm), .val (.int cc), .val (.ref r_1), .val (.ref r_2), .val (.int e00), .val (.int e01), .val (.int e02), .val (.int e10), .val (.int e11), .val (.int e12), .val (.int e20), .val (.int e21), .unset, .unset, .unset, .unset, .unset, .unset, .unset, .unset]) rfl ?_
    show Steps p.tables e below (T10.setTop (mkF m 143 #[.val (.long ja), .second, .val (.int a2), .val (.long jb), .second, .val (.int b2), .val (.int co), .val (.int ln), .val (.int nn), .val (.int mm), .val (.int cc), .val (.ref r_1), .val (.ref r_2), .val (.int e00), .val (.int e01), .val (.int e02), .val (.int e10), .val (.int e11), .val (.int e12), .val (.int e20), .val (.int e21), .unset, .unset, .unset, .unset, .unset, .unset, .unset, .unset] [])) _
    refine XS.aload X10.here hx rfl (hb hby at_143) rfl rfl ?_
    show Steps p.tables e below (T10.setTop (mkF m 145 #[.val (.long ja), .second, .val (.int a2), .val (.long jb), .second, .val (.int b2), .val (.int co), .val (.int ln), .val (.int nn), .val (.int mm), .val (.int cc), .val (.ref r_1), .val (.ref r_2), .val (.int e00), .val (.int e01), .val (.int e02), .val (.int e10), .val (.int e11), .val (.int e12), .val (.int e20), .val (.int e21), .unset, .unset, .unset, .unset, .unset, .unset, .unset, .unset] [(.ref r_1)])) _
    refine XS.iconst X10.here hx rfl (hb hby at_145) ?_
    show Steps p.tables e below (T10.setTop (mkF m 146 #[.val (.long ja), .second, .val (.int a2), .val (.long jb), .second, .val (.int b2), .val (.int co), .val (.int ln), .val (.int nn), .val (.int mm), .val (.int cc), .val (.ref r_1), .val (.ref r_2), .val (.int e00), .val (.int e01), .val (.int e02), .val (.int e10), .val (.int e11), .val (.int e12), .val (.int e20), .val (.int e21), .unset, .unset, .unset, .unset, .unset, .unset, .unset, .unset] [(.int (2 : Int32)), (.ref r_1)])) _
    refine XS.aload X10.here hx rfl (hb hby at_146) rfl rfl ?_
    show Steps p.tables e below (T10.setTop (mkF m 148 #[.val (.long ja), .second, .val (.int a2), .val (.long jb), .second, .val (.int b2), .val (.int co), .val (.int ln), .val (.int nn), .val (.int mm), .val (.int cc), .val (.ref r_1), .val (.ref r_2), .val (.int e00), .val (.int e01), .val (.int e02), .val (.int e10), .val (.int e11), .val (.int e12), .val (.int e20), .val (.int e21), .unset, .unset, .unset, .unset, .unset, .unset, .unset, .unset] [(.ref r_2), (.int (2 : Int32)), (.ref r_1)])) _
    refine XS.iconst X10.here hx rfl (hb hby at_148) ?_
    show Steps p.tables e below (T10.setTop (mkF m 149 #[.val (.long ja), .second, .val (.int a2), .val (.long jb), .second, .val (.int b2), .val (.int co), .val (.int ln), .val (.int nn), .val (.int mm), .val (.int cc), .val (.ref r_1), .val (.ref r_2), .val (.int e00), .val (.int e01), .val (.int e02), .val (.int e10), .val (.int e11), .val (.int e12), .val (.int e20), .val (.int e21), .unset, .unset, .unset, .unset, .unset, .unset, .unset, .unset] [(.int (2 : Int32)), (.ref r_2), (.int (2 : Int32)), (.ref r_1)])) _
    refine st11 _ ?_
    show Steps p.tables e below (T11.setTop (mkF m 152 #[.val (.long ja), .second, .val (.int a2), .val (.long jb), .second, .val (.int b2), .val (.int co), .val (.int ln), .val (.int nn), .val (.int mm), .val (.int cc), .val (.ref r_1), .val (.ref r_2), .val (.int e00), .val (.int e01), .val (.int e02), .val (.int e10), .val (.int e11), .val (.int e12), .val (.int e20), .val (.int e21), .unset, .unset, .unset, .unset, .unset, .unset, .unset, .unset] [(.int (eqF nn mm f g (2 : Int32) (2 : Int32)))])) _
    refine castTop (congrArg (fun z_ => (mkF m 152 #[.val (.long ja), .second, .val (.int a2), .val (.long jb), .second, .val (.int b2), .val (.int co), .val (.int ln), .val (.int nn), .val (.int mm), .val (.int cc), .val (.ref r_1), .val (.ref r_2), .val (.int e00), .val (.int e01), .val (.int e02), .val (.int e10), .val (.int e11), .val (.int e12), .val (.int e20), .val (.int e21), .unset, .unset, .unset, .unset, .unset, .unset, .unset, .unset] [(.int z_)])) (h22 : (eqF nn mm f g (2 : Int32) (2 : Int32)) = e22)) ?_
    show Steps p.tables e below (T11.setTop (mkF m 152 #[.val (.long ja), .second, .val (.int a2), .val (.long jb), .second, .val (.int b2), .val (.int co), .val (.int ln), .val (.int nn), .val (.int mm), .val (.int cc), .val (.ref r_1), .val (.ref r_2), .val (.int e00), .val (.int e01), .val (.int e02), .val (.int e10), .val (.int e11), .val (.int e12), .val (.int e20), .val (.int e21), .unset, .unset, .unset, .unset, .unset, .unset, .unset, .unset] [(.int e22)])) _
    refine XS.istore X11.here hx rfl (hb hby at_152) rfl (l' := #[.val (.long ja), .second, .val (.int a2), .val (.long jb), .second, .val (.int b2), .val (.int co), .val (.int ln), .val (.int nn), .val (.int mm), .val (.int cc), .val (.ref r_1), .val (.ref r_2), .val (.int e00), .val (.int e01), .val (.int e02), .val (.int e10), .val (.int e11), .val (.int e12), .val (.int e20), .val (.int e21), .val (.int e22), .unset, .unset, .unset, .unset, .unset, .unset, .unset]) rfl ?_
    show Steps p.tables e below (T11.setTop (mkF m 154 #[.val (.long ja), .second, .val (.int a2), .val (.long jb), .second, .val (.int b2), .val (.int co), .val (.int ln), .val (.int nn), .val (.int mm), .val (.int cc), .val (.ref r_1), .val (.ref r_2), .val (.int e00), .val (.int e01), .val (.int e02), .val (.int e10), .val (.int e11), .val (.int e12), .val (.int e20), .val (.int e21), .val (.int e22), .unset, .unset, .unset, .unset, .unset, .unset, .unset] [])) _
    refine XS.iload X11.here hx rfl (hb hby at_154) rfl ?_
    show Steps p.tables e below (T11.setTop (mkF m 156 #[.val (.long ja), .second, .val (.int a2), .val (.long jb), .second, .val (.int b2), .val (.int co), .val (.int ln), .val (.int nn), .val (.int mm), .val (.int cc), .val (.ref r_1), .val (.ref r_2), .val (.int e00), .val (.int e01), .val (.int e02), .val (.int e10), .val (.int e11), .val (.int e12), .val (.int e20), .val (.int e21), .val (.int e22), .unset, .unset, .unset, .unset, .unset, .unset, .unset] [(.int e00)])) _
    refine XS.iload X11.here hx rfl (hb hby at_156) rfl ?_
    show Steps p.tables e below (T11.setTop (mkF m 158 #[.val (.long ja), .second, .val (.int a2), .val (.long jb), .second, .val (.int b2), .val (.int co), .val (.int ln), .val (.int nn), .val (.int mm), .val (.int cc), .val (.ref r_1), .val (.ref r_2), .val (.int e00), .val (.int e01), .val (.int e02), .val (.int e10), .val (.int e11), .val (.int e12), .val (.int e20), .val (.int e21), .val (.int e22), .unset, .unset, .unset, .unset, .unset, .unset, .unset] [(.int e11), (.int e00)])) _
    refine XS.iadd X11.here hx rfl (hb hby at_158) rfl ?_
    show Steps p.tables e below (T11.setTop (mkF m 159 #[.val (.long ja), .second, .val (.int a2), .val (.long jb), .second, .val (.int b2), .val (.int co), .val (.int ln), .val (.int nn), .val (.int mm), .val (.int cc), .val (.ref r_1), .val (.ref r_2), .val (.int e00), .val (.int e01), .val (.int e02), .val (.int e10), .val (.int e11), .val (.int e12), .val (.int e20), .val (.int e21), .val (.int e22), .unset, .unset, .unset, .unset, .unset, .unset, .unset] [(.int (e00 + e11))])) _
    refine XS.iload X11.here hx rfl (hb hby at_159) rfl ?_
    show Steps p.tables e below (T11.setTop (mkF m 161 #[.val (.long ja), .second, .val (.int a2), .val (.long jb), .second, .val (.int b2), .val (.int co), .val (.int ln), .val (.int nn), .val (.int mm), .val (.int cc), .val (.ref r_1), .val (.ref r_2), .val (.int e00), .val (.int e01), .val (.int e02), .val (.int e10), .val (.int e11), .val (.int e12), .val (.int e20), .val (.int e21), .val (.int e22), .unset, .unset, .unset, .unset, .unset, .unset, .unset] [(.int e22), (.int (e00 + e11))])) _
    refine XS.iadd X11.here hx rfl (hb hby at_161) rfl ?_
    show Steps p.tables e below (T11.setTop (mkF m 162 #[.val (.long ja), .second, .val (.int a2), .val (.long jb), .second, .val (.int b2), .val (.int co), .val (.int ln), .val (.int nn), .val (.int mm), .val (.int cc), .val (.ref r_1), .val (.ref r_2), .val (.int e00), .val (.int e01), .val (.int e02), .val (.int e10), .val (.int e11), .val (.int e12), .val (.int e20), .val (.int e21), .val (.int e22), .unset, .unset, .unset, .unset, .unset, .unset, .unset] [(.int ((e00 + e11) + e22))])) _
    refine XS.istore X11.here hx rfl (hb hby at_162) rfl (l' := #[.val (.long ja), .second, .val (.int a2), .val (.long jb), .second, .val (.int b2), .val (.int co), .val (.int ln), .val (.int nn), .val (.int mm), .val (.int cc), .val (.ref r_1), .val (.ref r_2), .val (.int e00), .val (.int e01), .val (.int e02), .val (.int e10), .val (.int e11), .val (.int e12), .val (.int e20), .val (.int e21), .val (.int e22), .val (.int ((e00 + e11) + e22)), .unset, .unset, .unset, .unset, .unset, .unset]) rfl ?_
    show Steps p.tables e below (T11.setTop (mkF m 164 #[.val (.long ja), .second, .val (.int a2), .val (.long jb), .second, .val (.int b2), .val (.int co), .val (.int ln), .val (.int nn), .val (.int mm), .val (.int cc), .val (.ref r_1), .val (.ref r_2), .val (.int e00), .val (.int e01), .val (.int e02), .val (.int e10), .val (.int e11), .val (.int e12), .val (.int e20), .val (.int e21), .val (.int e22), .val (.int ((e00 + e11) + e22)), .unset, .unset, .unset, .unset, .unset, .unset] [])) _
    refine XS.iload X11.here hx rfl (hb hby at_164) rfl ?_
    show Steps p.tables e below (T11.setTop (mkF m 166 #[.val (.long ja), .second, .val (.int a2), .val (.long jb), .second, .val (.int b2), .val (.int co), .val (.int ln), .val (.int nn), .val (.int mm), .val (.int cc), .val (.ref r_1), .val (.ref r_2), .val (.int e00), .val (.int e01), .val (.int e02), .val (.int e10), .val (.int e11), .val (.int e12), .val (.int e20), .val (.int e21), .val (.int e22), .val (.int ((e00 + e11) + e22)), .unset, .unset, .unset, .unset, .unset, .unset] [(.int ((e00 + e11) + e22))])) _
    refine XS.iload X11.here hx rfl (hb hby at_166) rfl ?_
    show Steps p.tables e below (T11.setTop (mkF m 168 #[.val (.long ja), .second, .val (.int a2), .val (.long jb), .second, .val (.int b2), .val (.int co), .val (.int ln), .val (.int nn), .val (.int mm), .val (.int cc), .val (.ref r_1), .val (.ref r_2), .val (.int e00), .val (.int e01), .val (.int e02), .val (.int e10), .val (.int e11), .val (.int e12), .val (.int e20), .val (.int e21), .val (.int e22), .val (.int ((e00 + e11) + e22)), .unset, .unset, .unset, .unset, .unset, .unset] [(.int e00), (.int ((e00 + e11) + e22))])) _
    refine XS.iload X11.here hx rfl (hb hby at_168) rfl ?_
    show Steps p.tables e below (T11.setTop (mkF m 170 #[.val (.long ja), .second, .val (.int a2), .val (.long jb), .second, .val (.int b2), .val (.int co), .val (.int ln), .val (.int nn), .val (.int mm), .val (.int cc), .val (.ref r_1), .val (.ref r_2), .val (.int e00), .val (.int e01), .val (.int e02), .val (.int e10), .val (.int e11), .val (.int e12), .val (.int e20), .val (.int e21), .val (.int e22), .val (.int ((e00 + e11) + e22)), .unset, .unset, .unset, .unset, .unset, .unset] [(.int e12), (.int e00), (.int ((e00 + e11) + e22))])) _
    refine XS.iadd X11.here hx rfl (hb hby at_170) rfl ?_
    show Steps p.tables e below (T11.setTop (mkF m 171 #[.val (.long ja), .second, .val (.int a2), .val (.long jb), .second, .val (.int b2), .val (.int co), .val (.int ln), .val (.int nn), .val (.int mm), .val (.int cc), .val (.ref r_1), .val (.ref r_2), .val (.int e00), .val (.int e01), .val (.int e02), .val (.int e10), .val (.int e11), .val (.int e12), .val (.int e20), .val (.int e21), .val (.int e22), .val (.int ((e00 + e11) + e22)), .unset, .unset, .unset, .unset, .unset, .unset] [(.int (e00 + e12)), (.int ((e00 + e11) + e22))])) _
    refine XS.iload X11.here hx rfl (hb hby at_171) rfl ?_
    show Steps p.tables e below (T11.setTop (mkF m 173 #[.val (.long ja), .second, .val (.int a2), .val (.long jb), .second, .val (.int b2), .val (.int co), .val (.int ln), .val (.int nn), .val (.int mm), .val (.int cc), .val (.ref r_1), .val (.ref r_2), .val (.int e00), .val (.int e01), .val (.int e02), .val (.int e10), .val (.int e11), .val (.int e12), .val (.int e20), .val (.int e21), .val (.int e22), .val (.int ((e00 + e11) + e22)), .unset, .unset, .unset, .unset, .unset, .unset] [(.int e21), (.int (e00 + e12)), (.int ((e00 + e11) + e22))])) _
    refine XS.iadd X11.here hx rfl (hb hby at_173) rfl ?_
    show Steps p.tables e below (T11.setTop (mkF m 174 #[.val (.long ja), .second, .val (.int a2), .val (.long jb), .second, .val (.int b2), .val (.int co), .val (.int ln), .val (.int nn), .val (.int mm), .val (.int cc), .val (.ref r_1), .val (.ref r_2), .val (.int e00), .val (.int e01), .val (.int e02), .val (.int e10), .val (.int e11), .val (.int e12), .val (.int e20), .val (.int e21), .val (.int e22), .val (.int ((e00 + e11) + e22)), .unset, .unset, .unset, .unset, .unset, .unset] [(.int ((e00 + e12) + e21)), (.int ((e00 + e11) + e22))])) _
    refine st12 _ ?_
    show Steps p.tables e below (T12.setTop (mkF m 177 #[.val (.long ja), .second, .val (.int a2), .val (.long jb), .second, .val (.int b2), .val (.int co), .val (.int ln), .val (.int nn), .val (.int mm), .val (.int cc), .val (.ref r_1), .val (.ref r_2), .val (.int e00), .val (.int e01), .val (.int e02), .val (.int e10), .val (.int e11), .val (.int e12), .val (.int e20), .val (.int e21), .val (.int e22), .val (.int ((e00 + e11) + e22)), .unset, .unset, .unset, .unset, .unset, .unset] [(.int (maxI ((e00 + e11) + e22) ((e00 + e12) + e21)))])) _
    refine castTop (congrArg (fun z_ => (mkF m 177 #[.val (.long ja), .second, .val (.int a2), .val (.long jb), .second, .val (.int b2), .val (.int co), .val (.int ln), .val (.int nn), .val (.int mm), .val (.int cc), .val (.ref r_1), .val (.ref r_2), .val (.int e00), .val (.int e01), .val (.int e02), .val (.int e10), .val (.int e11), .val (.int e12), .val (.int e20), .val (.int e21), .val (.int e22), .val (.int ((e00 + e11) + e22)), .unset, .unset, .unset, .unset, .unset, .unset] [(.int z_)])) (g1 : (maxI ((e00 + e11) + e22) ((e00 + e12) + e21)) = m1)) ?_
    show Steps p.tables e below (T12.setTop (mkF m 177 #[.val (.long ja), .second, .val (.int a2), .val (.long jb), .second, .val (.int b2), .val (.int co), .val (.int ln), .val (.int nn), .val (.int mm), .val (.int cc), .val (.ref r_1), .val (.ref r_2), .val (.int e00), .val (.int e01), .val (.int e02), .val (.int e10), .val (.int e11), .val (.int e12), .val (.int e20), .val (.int e21), .val (.int e22), .val (.int ((e00 + e11) + e22)), .unset, .unset, .unset, .unset, .unset, .unset] [(.int m1)])) _
    refine XS.istore X12.here hx rfl (hb hby at_177) rfl (l' := #[.val (.long ja), .second, .val (.int a2), .val (.long jb), .second, .val (.int b2), .val (.int co), .val (.int ln), .val (.int nn), .val (.int mm), .val (.int cc), .val (.ref r_1), .val (.ref r_2), .val (.int e00), .val (.int e01), .val (.int e02), .val (.int e10), .val (.int e11), .val (.int e12), .val (.int e20), .val (.int e21), .val (.int e22), .val (.int m1), .unset, .unset, .unset, .unset, .unset, .unset]) rfl ?_
    show Steps p.tables e below (T12.setTop (mkF m 179 #[.val (.long ja), .second, .val (.int a2), .val (.long jb), .second, .val (.int b2), .val (.int co), .val (.int ln), .val (.int nn), .val (.int mm), .val (.int cc), .val (.ref r_1), .val (.ref r_2), .val (.int e00), .val (.int e01), .val (.int e02), .val (.int e10), .val (.int e11), .val (.int e12), .val (.int e20), .val (.int e21), .val (.int e22), .val (.int m1), .unset, .unset, .unset, .unset, .unset, .unset] [])) _
    refine XS.iload X12.here hx rfl (hb hby at_179) rfl ?_
    show Steps p.tables e below (T12.setTop (mkF m 181 #[.val (.long ja), .second, .val (.int a2), .val (.long jb), .second, .val (.int b2), .val (.int co), .val (.int ln), .val (.int nn), .val (.int mm), .val (.int cc), .val (.ref r_1), .val (.ref r_2), .val (.int e00), .val (.int e01), .val (.int e02), .val (.int e10), .val (.int e11), .val (.int e12), .val (.int e20), .val (.int e21), .val (.int e22), .val (.int m1), .unset, .unset, .unset, .unset, .unset, .unset] [(.int m1)])) _
    refine XS.iload X12.here hx rfl (hb hby at_181) rfl ?_
    show Steps p.tables e below (T12.setTop (mkF m 183 #[.val (.long ja), .second, .val (.int a2), .val (.long jb), .second, .val (.int b2), .val (.int co), .val (.int ln), .val (.int nn), .val (.int mm), .val (.int cc), .val (.ref r_1), .val (.ref r_2), .val (.int e00), .val (.int e01), .val (.int e02), .val (.int e10), .val (.int e11), .val (.int e12), .val (.int e20), .val (.int e21), .val (.int e22), .val (.int m1), .unset, .unset, .unset, .unset, .unset, .unset] [(.int e01), (.int m1)])) _
    refine XS.iload X12.here hx rfl (hb hby at_183) rfl ?_
    show Steps p.tables e below (T12.setTop (mkF m 185 #[.val (.long ja), .second, .val (.int a2), .val (.long jb), .second, .val (.int b2), .val (.int co), .val (.int ln), .val (.int nn), .val (.int mm), .val (.int cc), .val (.ref r_1), .val (.ref r_2), .val (.int e00), .val (.int e01), .val (.int e02), .val (.int e10), .val (.int e11), .val (.int e12), .val (.int e20), .val (.int e21), .val (.int e22), .val (.int m1), .unset, .unset, .unset, .unset, .unset, .unset] [(.int e10), (.int e01), (.int m1)])) _
    refine XS.iadd X12.here hx rfl (hb hby at_185) rfl ?_
    show Steps p.tables e below (T12.setTop (mkF m 186 #[.val (.long ja), .second, .val (.int a2), .val (.long jb), .second, .val (.int b2), .val (.int co), .val (.int ln), .val (.int nn), .val (.int mm), .val (.int cc), .val (.ref r_1), .val (.ref r_2), .val (.int e00), .val (.int e01), .val (.int e02), .val (.int e10), .val (.int e11), .val (.int e12), .val (.int e20), .val (.int e21), .val (.int e22), .val (.int m1), .unset, .unset, .unset, .unset, .unset, .unset] [(.int (e01 + e10)), (.int m1)])) _
    refine XS.iload X12.here hx rfl (hb hby at_186) rfl ?_
    show Steps p.tables e below (T12.setTop (mkF m 188 #[.val (.long ja), .second, .val (.int a2), .val (.long jb), .second, .val (.int b2), .val (.int co), .val (.int ln), .val (.int nn), .val (.int mm), .val (.int cc), .val (.ref r_1), .val (.ref r_2), .val (.int e00), .val (.int e01), .val (.int e02), .val (.int e10), .val (.int e11), .val (.int e12), .val (.int e20), .val (.int e21), .val (.int e22), .val (.int m1), .unset, .unset, .unset, .unset, .unset, .unset] [(.int e22), (.int (e01 + e10)), (.int m1)])) _
    refine XS.iadd X12.here hx rfl (hb hby at_188) rfl ?_
    show Steps p.tables e below (T12.setTop (mkF m 189 #[.val (.long ja), .second, .val (.int a2), .val (.long jb), .second, .val (.int b2), .val (.int co), .val (.int ln), .val (.int nn), .val (.int mm), .val (.int cc), .val (.ref r_1), .val (.ref r_2), .val (.int e00), .val (.int e01), .val (.int e02), .val (.int e10), .val (.int e11), .val (.int e12), .val (.int e20), .val (.int e21), .val (.int e22), .val (.int m1), .unset, .unset, .unset, .unset, .unset, .unset] [(.int ((e01 + e10) + e22)), (.int m1)])) _
    refine st13 _ ?_
    show Steps p.tables e below (T13.setTop (mkF m 192 #[.val (.long ja), .second, .val (.int a2), .val (.long jb), .second, .val (.int b2), .val (.int co), .val (.int ln), .val (.int nn), .val (.int mm), .val (.int cc), .val (.ref r_1), .val (.ref r_2), .val (.int e00), .val (.int e01), .val (.int e02), .val (.int e10), .val (.int e11), .val (.int e12), .val (.int e20), .val (.int e21), .val (.int e22), .val (.int m1), .unset, .unset, .unset, .unset, .unset, .unset] [(.int (maxI m1 ((e01 + e10) + e22)))])) _
    refine castTop (congrArg (fun z_ => (mkF m 192 #[.val (.long ja), .second, .val (.int a2), .val (.long jb), .second, .val (.int b2), .val (.int co), .val (.int ln), .val (.int nn), .val (.int mm), .val (.int cc), .val (.ref r_1), .val (.ref r_2), .val (.int e00), .val (.int e01), .val (.int e02), .val (.int e10), .val (.int e11), .val (.int e12), .val (.int e20), .val (.int e21), .val (.int e22), .val (.int m1), .unset, .unset, .unset, .unset, .unset, .unset] [(.int z_)])) (g2 : (maxI m1 ((e01 + e10) + e22)) = m2)) ?_
    show Steps p.tables e below (T13.setTop (mkF m 192 #[.val (.long ja), .second, .val (.int a2), .val (.long jb), .second, .val (.int b2), .val (.int co), .val (.int ln), .val (.int nn), .val (.int mm), .val (.int cc), .val (.ref r_1), .val (.ref r_2), .val (.int e00), .val (.int e01), .val (.int e02), .val (.int e10), .val (.int e11), .val (.int e12), .val (.int e20), .val (.int e21), .val (.int e22), .val (.int m1), .unset, .unset, .unset, .unset, .unset, .unset] [(.int m2)])) _
    refine XS.istore X13.here hx rfl (hb hby at_192) rfl (l' := #[.val (.long ja), .second, .val (.int a2), .val (.long jb), .second, .val (.int b2), .val (.int co), .val (.int ln), .val (.int nn), .val (.int mm), .val (.int cc), .val (.ref r_1), .val (.ref r_2), .val (.int e00), .val (.int e01), .val (.int e02), .val (.int e10), .val (.int e11), .val (.int e12), .val (.int e20), .val (.int e21), .val (.int e22), .val (.int m2), .unset, .unset, .unset, .unset, .unset, .unset]) rfl ?_
    show Steps p.tables e below (T13.setTop (mkF m 194 #[.val (.long ja), .second, .val (.int a2), .val (.long jb), .second, .val (.int b2), .val (.int co), .val (.int ln), .val (.int nn), .val (.int mm), .val (.int cc), .val (.ref r_1), .val (.ref r_2), .val (.int e00), .val (.int e01), .val (.int e02), .val (.int e10), .val (.int e11), .val (.int e12), .val (.int e20), .val (.int e21), .val (.int e22), .val (.int m2), .unset, .unset, .unset, .unset, .unset, .unset] [])) _
    refine XS.iload X13.here hx rfl (hb hby at_194) rfl ?_
    show Steps p.tables e below (T13.setTop (mkF m 196 #[.val (.long ja), .second, .val (.int a2), .val (.long jb), .second, .val (.int b2), .val (.int co), .val (.int ln), .val (.int nn), .val (.int mm), .val (.int cc), .val (.ref r_1), .val (.ref r_2), .val (.int e00), .val (.int e01), .val (.int e02), .val (.int e10), .val (.int e11), .val (.int e12), .val (.int e20), .val (.int e21), .val (.int e22), .val (.int m2), .unset, .unset, .unset, .unset, .unset, .unset] [(.int m2)])) _
    refine XS.iload X13.here hx rfl (hb hby at_196) rfl ?_
    show Steps p.tables e below (T13.setTop (mkF m 198 #[.val (.long ja), .second, .val (.int a2), .val (.long jb), .second, .val (.int b2), .val (.int co), .val (.int ln), .val (.int nn), .val (.int mm), .val (.int cc), .val (.ref r_1), .val (.ref r_2), .val (.int e00), .val (.int e01), .val (.int e02), .val (.int e10), .val (.int e11), .val (.int e12), .val (.int e20), .val (.int e21), .val (.int e22), .val (.int m2), .unset, .unset, .unset, .unset, .unset, .unset] [(.int e01), (.int m2)])) _
    refine XS.iload X13.here hx rfl (hb hby at_198) rfl ?_
    show Steps p.tables e below (T13.setTop (mkF m 200 #[.val (.long ja), .second, .val (.int a2), .val (.long jb), .second, .val (.int b2), .val (.int co), .val (.int ln), .val (.int nn), .val (.int mm), .val (.int cc), .val (.ref r_1), .val (.ref r_2), .val (.int e00), .val (.int e01), .val (.int e02), .val (.int e10), .val (.int e11), .val (.int e12), .val (.int e20), .val (.int e21), .val (.int e22), .val (.int m2), .unset, .unset, .unset, .unset, .unset, .unset] [(.int e12), (.int e01), (.int m2)])) _
    refine XS.iadd X13.here hx rfl (hb hby at_200) rfl ?_
    show Steps p.tables e below (T13.setTop (mkF m 201 #[.val (.long ja), .second, .val (.int a2), .val (.long jb), .second, .val (.int b2), .val (.int co), .val (.int ln), .val (.int nn), .val (.int mm), .val (.int cc), .val (.ref r_1), .val (.ref r_2), .val (.int e00), .val (.int e01), .val (.int e02), .val (.int e10), .val (.int e11), .val (.int e12), .val (.int e20), .val (.int e21), .val (.int e22), .val (.int m2), .unset, .unset, .unset, .unset, .unset, .unset] [(.int (e01 + e12)), (.int m2)])) _
    refine XS.iload X13.here hx rfl (hb hby at_201) rfl ?_
    show Steps p.tables e below (T13.setTop (mkF m 203 #[.val (.long ja), .second, .val (.int a2), .val (.long jb), .second, .val (.int b2), .val (.int co), .val (.int ln), .val (.int nn), .val (.int mm), .val (.int cc), .val (.ref r_1), .val (.ref r_2), .val (.int e00), .val (.int e01), .val (.int e02), .val (.int e10), .val (.int e11), .val (.int e12), .val (.int e20), .val (.int e21), .val (.int e22), .val (.int m2), .unset, .unset, .unset, .unset, .unset, .unset] [(.int e20), (.int (e01 + e12)), (.int m2)])) _
    refine XS.iadd X13.here hx rfl (hb hby at_203) rfl ?_
    show Steps p.tables e below (T13.setTop (mkF m 204 #[.val (.long ja), .second, .val (.int a2), .val (.long jb), .second, .val (.int b2), .val (.int co), .val (.int ln), .val (.int nn), .val (.int mm), .val (.int cc), .val (.ref r_1), .val (.ref r_2), .val (.int e00), .val (.int e01), .val (.int e02), .val (.int e10), .val (.int e11), .val (.int e12), .val (.int e20), .val (.int e21), .val (.int e22), .val (.int m2), .unset, .unset, .unset, .unset, .unset, .unset] [(.int ((e01 + e12) + e20)), (.int m2)])) _
    refine st14 _ ?_
    show Steps p.tables e below (T14.setTop (mkF m 207 #[.val (.long ja), .second, .val (.int a2), .val (.long jb), .second, .val (.int b2), .val (.int co), .val (.int ln), .val (.int nn), .val (.int mm), .val (.int cc), .val (.ref r_1), .val (.ref r_2), .val (.int e00), .val (.int e01), .val (.int e02), .val (.int e10), .val (.int e11), .val (.int e12), .val (.int e20), .val (.int e21), .val (.int e22), .val (.int m2), .unset, .unset, .unset, .unset, .unset, .unset] [(.int (maxI m2 ((e01 + e12) + e20)))])) _
    refine castTop (congrArg (fun z_ => (mkF m 207 #[.val (.long ja), .second, .val (.int a2), .val (.long jb), .second, .val (.int b2), .val (.int co), .val (.int ln), .val (.int nn), .val (.int mm), .val (.int cc), .val (.ref r_1), .val (.ref r_2), .val (.int e00), .val (.int e01), .val (.int e02), .val (.int e10), .val (.int e11), .val (.int e12), .val (.int e20), .val (.int e21), .val (.int e22), .val (.int m2), .unset, .unset, .unset, .unset, .unset, .unset] [(.int z_)])) (g3 : (maxI m2 ((e01 + e12) + e20)) = m3)) ?_
    show Steps p.tables e below (T14.setTop (mkF m 207 #[.val (.long ja), .second, .val (.int a2), .val (.long jb), .second, .val (.int b2), .val (.int co), .val (.int ln), .val (.int nn), .val (.int mm), .val (.int cc), .val (.ref r_1), .val (.ref r_2), .val (.int e00), .val (.int e01), .val (.int e02), .val (.int e10), .val (.int e11), .val (.int e12), .val (.int e20), .val (.int e21), .val (.int e22), .val (.int m2), .unset, .unset, .unset, .unset, .unset, .unset] [(.int m3)])) _
    refine XS.istore X14.here hx rfl (hb hby at_207) rfl (l' := #[.val (.long ja), .second, .val (.int a2), .val (.long jb), .second, .val (.int b2), .val (.int co), .val (.int ln), .val (.int nn), .val (.int mm), .val (.int cc), .val (.ref r_1), .val (.ref r_2), .val (.int e00), .val (.int e01), .val (.int e02), .val (.int e10), .val (.int e11), .val (.int e12), .val (.int e20), .val (.int e21), .val (.int e22), .val (.int m3), .unset, .unset, .unset, .unset, .unset, .unset]) rfl ?_
    show Steps p.tables e below (T14.setTop (mkF m 209 #[.val (.long ja), .second, .val (.int a2), .val (.long jb), .second, .val (.int b2), .val (.int co), .val (.int ln), .val (.int nn), .val (.int mm), .val (.int cc), .val (.ref r_1), .val (.ref r_2), .val (.int e00), .val (.int e01), .val (.int e02), .val (.int e10), .val (.int e11), .val (.int e12), .val (.int e20), .val (.int e21), .val (.int e22), .val (.int m3), .unset, .unset, .unset, .unset, .unset, .unset] [])) _
    refine XS.iload X14.here hx rfl (hb hby at_209) rfl ?_
    show Steps p.tables e below (T14.setTop (mkF m 211 #[.val (.long ja), .second, .val (.int a2), .val (.long jb), .second, .val (.int b2), .val (.int co), .val (.int ln), .val (.int nn), .val (.int mm), .val (.int cc), .val (.ref r_1), .val (.ref r_2), .val (.int e00), .val (.int e01), .val (.int e02), .val (.int e10), .val (.int e11), .val (.int e12), .val (.int e20), .val (.int e21), .val (.int e22), .val (.int m3), .unset, .unset, .unset, .unset, .unset, .unset] [(.int m3)])) _
    refine XS.iload X14.here hx rfl (hb hby at_211) rfl ?_
    show Steps p.tables e below (T14.setTop (mkF m 213 #[.val (.long ja), .second, .val (.int a2), .val (.long jb), .second, .val (.int b2), .val (.int co), .val (.int ln), .val (.int nn), .val (.int mm), .val (.int cc), .val (.ref r_1), .val (.ref r_2), .val (.int e00), .val (.int e01), .val (.int e02), .val (.int e10), .val (.int e11), .val (.int e12), .val (.int e20), .val (.int e21), .val (.int e22), .val (.int m3), .unset, .unset, .unset, .unset, .unset, .unset] [(.int e02), (.int m3)])) _
    refine XS.iload X14.here hx rfl (hb hby at_213) rfl ?_
    show Steps p.tables e below (T14.setTop (mkF m 215 #[.val (.long ja), .second, .val (.int a2), .val (.long jb), .second, .val (.int b2), .val (.int co), .val (.int ln), .val (.int nn), .val (.int mm), .val (.int cc), .val (.ref r_1), .val (.ref r_2), .val (.int e00), .val (.int e01), .val (.int e02), .val (.int e10), .val (.int e11), .val (.int e12), .val (.int e20), .val (.int e21), .val (.int e22), .val (.int m3), .unset, .unset, .unset, .unset, .unset, .unset] [(.int e10), (.int e02), (.int m3)])) _
    refine XS.iadd X14.here hx rfl (hb hby at_215) rfl ?_
    show Steps p.tables e below (T14.setTop (mkF m 216 #[.val (.long ja), .second, .val (.int a2), .val (.long jb), .second, .val (.int b2), .val (.int co), .val (.int ln), .val (.int nn), .val (.int mm), .val (.int cc), .val (.ref r_1), .val (.ref r_2), .val (.int e00), .val (.int e01), .val (.int e02), .val (.int e10), .val (.int e11), .val (.int e12), .val (.int e20), .val (.int e21), .val (.int e22), .val (.int m3), .unset, .unset, .unset, .unset, .unset, .unset] [(.int (e02 + e10)), (.int m3)])) _
    refine XS.iload X14.here hx rfl (hb hby at_216) rfl ?_
    show Steps p.tables e below (T14.setTop (mkF m 218 #[.val (.long ja), .second, .val (.int a2), .val (.long jb), .second, .val (.int b2), .val (.int co), .val (.int ln), .val (.int nn), .val (.int mm), .val (.int cc), .val (.ref r_1), .val (.ref r_2), .val (.int e00), .val (.int e01), .val (.int e02), .val (.int e10), .val (.int e11), .val (.int e12), .val (.int e20), .val (.int e21), .val (.int e22), .val (.int m3), .unset, .unset, .unset, .unset, .unset, .unset] [(.int e21), (.int (e02 + e10)), (.int m3)])) _
    refine XS.iadd X14.here hx rfl (hb hby at_218) rfl ?_
    show Steps p.tables e below (T14.setTop (mkF m 219 #[.val (.long ja), .second, .val (.int a2), .val (.long jb), .second, .val (.int b2), .val (.int co), .val (.int ln), .val (.int nn), .val (.int mm), .val (.int cc), .val (.ref r_1), .val (.ref r_2), .val (.int e00), .val (.int e01), .val (.int e02), .val (.int e10), .val (.int e11), .val (.int e12), .val (.int e20), .val (.int e21), .val (.int e22), .val (.int m3), .unset, .unset, .unset, .unset, .unset, .unset] [(.int ((e02 + e10) + e21)), (.int m3)])) _
    refine st15 _ ?_
    show Steps p.tables e below (T15.setTop (mkF m 222 #[.val (.long ja), .second, .val (.int a2), .val (.long jb), .second, .val (.int b2), .val (.int co), .val (.int ln), .val (.int nn), .val (.int mm), .val (.int cc), .val (.ref r_1), .val (.ref r_2), .val (.int e00), .val (.int e01), .val (.int e02), .val (.int e10), .val (.int e11), .val (.int e12), .val (.int e20), .val (.int e21), .val (.int e22), .val (.int m3), .unset, .unset, .unset, .unset, .unset, .unset] [(.int (maxI m3 ((e02 + e10) + e21)))])) _
    refine castTop (congrArg (fun z_ => (mkF m 222 #[.val (.long ja), .second, .val (.int a2), .val (.long jb), .second, .val (.int b2), .val (.int co), .val (.int ln), .val (.int nn), .val (.int mm), .val (.int cc), .val (.ref r_1), .val (.ref r_2), .val (.int e00), .val (.int e01), .val (.int e02), .val (.int e10), .val (.int e11), .val (.int e12), .val (.int e20), .val (.int e21), .val (.int e22), .val (.int m3), .unset, .unset, .unset, .unset, .unset, .unset] [(.int z_)])) (g4 : (maxI m3 ((e02 + e10) + e21)) = m4)) ?_
    show Steps p.tables e below (T15.setTop (mkF m 222 #[.val (.long ja), .second, .val (.int a2), .val (.long jb), .second, .val (.int b2), .val (.int co), .val (.int ln), .val (.int nn), .val (.int mm), .val (.int cc), .val (.ref r_1), .val (.ref r_2), .val (.int e00), .val (.int e01), .val (.int e02), .val (.int e10), .val (.int e11), .val (.int e12), .val (.int e20), .val (.int e21), .val (.int e22), .val (.int m3), .unset, .unset, .unset, .unset, .unset, .unset] [(.int m4)])) _
    refine XS.istore X15.here hx rfl (hb hby at_222) rfl (l' := #[.val (.long ja), .second, .val (.int a2), .val (.long jb), .second, .val (.int b2), .val (.int co), .val (.int ln), .val (.int nn), .val (.int mm), .val (.int cc), .val (.ref r_1), .val (.ref r_2), .val (.int e00), .val (.int e01), .val (.int e02), .val (.int e10), .val (.int e11), .val (.int e12), .val (.int e20), .val (.int e21), .val (.int e22), .val (.int m4), .unset, .unset, .unset, .unset, .unset, .unset]) rfl ?_
    show Steps p.tables e below (T15.setTop (mkF m 224 #[.val (.long ja), .second, .val (.int a2), .val (.long jb), .second, .val (.int b2), .val (.int co), .val (.int ln), .val (.int nn), .val (.int mm), .val (.int cc), .val (.ref r_1), .val (.ref r_2), .val (.int e00), .val (.int e01), .val (.int e02), .val (.int e10), .val (.int e11), .val (.int e12), .val (.int e20), .val (.int e21), .val (.int e22), .val (.int m4), .unset, .unset, .unset, .unset, .unset, .unset] [])) _
    refine XS.iload X15.here hx rfl (hb hby at_224) rfl ?_
    show Steps p.tables e below (T15.setTop (mkF m 226 #[.val (.long ja), .second, .val (.int a2), .val (.long jb), .second, .val (.int b2), .val (.int co), .val (.int ln), .val (.int nn), .val (.int mm), .val (.int cc), .val (.ref r_1), .val (.ref r_2), .val (.int e00), .val (.int e01), .val (.int e02), .val (.int e10), .val (.int e11), .val (.int e12), .val (.int e20), .val (.int e21), .val (.int e22), .val (.int m4), .unset, .unset, .unset, .unset, .unset, .unset] [(.int m4)])) _
    refine XS.iload X15.here hx rfl (hb hby at_226) rfl ?_
    show Steps p.tables e below (T15.setTop (mkF m 228 #[.val (.long ja), .second, .val (.int a2), .val (.long jb), .second, .val (.int b2), .val (.int co), .val (.int ln), .val (.int nn), .val (.int mm), .val (.int cc), .val (.ref r_1), .val (.ref r_2), .val (.int e00), .val (.int e01), .val (.int e02), .val (.int e10), .val (.int e11), .val (.int e12), .val (.int e20), .val (.int e21), .val (.int e22), .val (.int m4), .unset, .unset, .unset, .unset, .unset, .unset] [(.int e02), (.int m4)])) _
    refine XS.iload X15.here hx rfl (hb hby at_228) rfl ?_
    show Steps p.tables e below (T15.setTop (mkF m 230 #[.val (.long ja), .second, .val (.int a2), .val (.long jb), .second, .val (.int b2), .val (.int co), .val (.int ln), .val (.int nn), .val (.int mm), .val (.int cc), .val (.ref r_1), .val (.ref r_2), .val (.int e00), .val (.int e01), .val (.int e02), .val (.int e10), .val (.int e11), .val (.int e12), .val (.int e20), .val (.int e21), .val (.int e22), .val (.int m4), .unset, .unset, .unset, .unset, .unset, .unset] [(.int e11), (.int e02), (.int m4)])) _
    refine XS.iadd X15.here hx rfl (hb hby at_230) rfl ?_
    show Steps p.tables e below (T15.setTop (mkF m 231 #[.val (.long ja), .second, .val (.int a2), .val (.long jb), .second, .val (.int b2), .val (.int co), .val (.int ln), .val (.int nn), .val (.int mm), .val (.int cc), .val (.ref r_1), .val (.ref r_2), .val (.int e00), .val (.int e01), .val (.int e02), .val (.int e10), .val (.int e11), .val (.int e12), .val (.int e20), .val (.int e21), .val (.int e22), .val (.int m4), .unset, .unset, .unset, .unset, .unset, .unset] [(.int (e02 + e11)), (.int m4)])) _
    refine XS.iload X15.here hx rfl (hb hby at_231) rfl ?_
    show Steps p.tables e below (T15.setTop (mkF m 233 #[.val (.long ja), .second, .val (.int a2), .val (.long jb), .second, .val (.int b2), .val (.int co), .val (.int ln), .val (.int nn), .val (.int mm), .val (.int cc), .val (.ref r_1), .val (.ref r_2), .val (.int e00), .val (.int e01), .val (.int e02), .val (.int e10), .val (.int e11), .val (.int e12), .val (.int e20), .val (.int e21), .val (.int e22), .val (.int m4), .unset, .unset, .unset, .unset, .unset, .unset] [(.int e20), (.int (e02 + e11)), (.int m4)])) _
    refine XS.iadd X15.here hx rfl (hb hby at_233) rfl ?_
    show Steps p.tables e below (T15.setTop (mkF m 234 #[.val (.long ja), .second, .val (.int a2), .val (.long jb), .second, .val (.int b2), .val (.int co), .val (.int ln), .val (.int nn), .val (.int mm), .val (.int cc), .val (.ref r_1), .val (.ref r_2), .val (.int e00), .val (.int e01), .val (.int e02), .val (.int e10), .val (.int e11), .val (.int e12), .val (.int e20), .val (.int e21), .val (.int e22), .val (.int m4), .unset, .unset, .unset, .unset, .unset, .unset] [(.int ((e02 + e11) + e20)), (.int m4)])) _
    refine st16 _ ?_
    show Steps p.tables e below (T16.setTop (mkF m 237 #[.val (.long ja), .second, .val (.int a2), .val (.long jb), .second, .val (.int b2), .val (.int co), .val (.int ln), .val (.int nn), .val (.int mm), .val (.int cc), .val (.ref r_1), .val (.ref r_2), .val (.int e00), .val (.int e01), .val (.int e02), .val (.int e10), .val (.int e11), .val (.int e12), .val (.int e20), .val (.int e21), .val (.int e22), .val (.int m4), .unset, .unset, .unset, .unset, .unset, .unset] [(.int (maxI m4 ((e02 + e11) + e20)))])) _
    refine castTop (congrArg (fun z_ => (mkF m 237 #[.val (.long ja), .second, .val (.int a2), .val (.long jb), .second, .val (.int b2), .val (.int co), .val (.int ln), .val (.int nn), .val (.int mm), .val (.int cc), .val (.ref r_1), .val (.ref r_2), .val (.int e00), .val (.int e01), .val (.int e02), .val (.int e10), .val (.int e11), .val (.int e12), .val (.int e20), .val (.int e21), .val (.int e22), .val (.int m4), .unset, .unset, .unset, .unset, .unset, .unset] [(.int z_)])) (g5 : (maxI m4 ((e02 + e11) + e20)) = m5)) ?_
    show Steps p.tables e below (T16.setTop (mkF m 237 #[.val (.long ja), .second, .val (.int a2), .val (.long jb), .second, .val (.int b2), .val (.int co), .val (.int ln), .val (.int nn), .val (.int mm), .val (.int cc), .val (.ref r_1), .val (.ref r_2), .val (.int e00), .val (.int e01), .val (.int e02), .val (.int e10), .val (.int e11), .val (.int e12), .val (.int e20), .val (.int e21), .val (.int e22), .val (.int m4), .unset, .unset, .unset, .unset, .unset, .unset] [(.int m5)])) _
    refine XS.istore X16.here hx rfl (hb hby at_237) rfl (l' := #[.val (.long ja), .second, .val (.int a2), .val (.long jb), .second, .val (.int b2), .val (.int co), .val (.int ln), .val (.int nn), .val (.int mm), .val (.int cc), .val (.ref r_1), .val (.ref r_2), .val (.int e00), .val (.int e01), .val (.int e02), .val (.int e10), .val (.int e11), .val (.int e12), .val (.int e20), .val (.int e21), .val (.int e22), .val (.int m5), .unset, .unset, .unset, .unset, .unset, .unset]) rfl ?_
    show Steps p.tables e below (T16.setTop (mkF m 239 #[.val (.long ja), .second, .val (.int a2), .val (.long jb), .second, .val (.int b2), .val (.int co), .val (.int ln), .val (.int nn), .val (.int mm), .val (.int cc), .val (.ref r_1), .val (.ref r_2), .val (.int e00), .val (.int e01), .val (.int e02), .val (.int e10), .val (.int e11), .val (.int e12), .val (.int e20), .val (.int e21), .val (.int e22), .val (.int m5), .unset, .unset, .unset, .unset, .unset, .unset] [])) _
    refine XS.iload X16.here hx rfl (hb hby at_239) rfl ?_
    show Steps p.tables e below (T16.setTop (mkF m 241 #[.val (.long ja), .second, .val (.int a2), .val (.long jb), .second, .val (.int b2), .val (.int co), .val (.int ln), .val (.int nn), .val (.int mm), .val (.int cc), .val (.ref r_1), .val (.ref r_2), .val (.int e00), .val (.int e01), .val (.int e02), .val (.int e10), .val (.int e11), .val (.int e12), .val (.int e20), .val (.int e21), .val (.int e22), .val (.int m5), .unset, .unset, .unset, .unset, .unset, .unset] [(.int cc)])) _
    refine XS.iload X16.here hx rfl (hb hby at_241) rfl ?_
    show Steps p.tables e below (T16.setTop (mkF m 243 #[.val (.long ja), .second, .val (.int a2), .val (.long jb), .second, .val (.int b2), .val (.int co), .val (.int ln), .val (.int nn), .val (.int mm), .val (.int cc), .val (.ref r_1), .val (.ref r_2), .val (.int e00), .val (.int e01), .val (.int e02), .val (.int e10), .val (.int e11), .val (.int e12), .val (.int e20), .val (.int e21), .val (.int e22), .val (.int m5), .unset, .unset, .unset, .unset, .unset, .unset] [(.int m5), (.int cc)])) _
    refine XS.iadd X16.here hx rfl (hb hby at_243) rfl ?_
    show Steps p.tables e below (T16.setTop (mkF m 244 #[.val (.long ja), .second, .val (.int a2), .val (.long jb), .second, .val (.int b2), .val (.int co), .val (.int ln), .val (.int nn), .val (.int mm), .val (.int cc), .val (.ref r_1), .val (.ref r_2), .val (.int e00), .val (.int e01), .val (.int e02), .val (.int e10), .val (.int e11), .val (.int e12), .val (.int e20), .val (.int e21), .val (.int e22), .val (.int m5), .unset, .unset, .unset, .unset, .unset, .unset] [(.int (cc + m5))])) _
    refine XS.istore X16.here hx rfl (hb hby at_244) rfl (l' := #[.val (.long ja), .second, .val (.int a2), .val (.long jb), .second, .val (.int b2), .val (.int co), .val (.int ln), .val (.int nn), .val (.int mm), .val (.int cc), .val (.ref r_1), .val (.ref r_2), .val (.int e00), .val (.int e01), .val (.int e02), .val (.int e10), .val (.int e11), .val (.int e12), .val (.int e20), .val (.int e21), .val (.int e22), .val (.int m5), .val (.int (cc + m5)), .unset, .unset, .unset, .unset, .unset]) rfl ?_
    show Steps p.tables e below (T16.setTop (mkF m 246 #[.val (.long ja), .second, .val (.int a2), .val (.long jb), .second, .val (.int b2), .val (.int co), .val (.int ln), .val (.int nn), .val (.int mm), .val (.int cc), .val (.ref r_1), .val (.ref r_2), .val (.int e00), .val (.int e01), .val (.int e02), .val (.int e10), .val (.int e11), .val (.int e12), .val (.int e20), .val (.int e21), .val (.int e22), .val (.int m5), .val (.int (cc + m5)), .unset, .unset, .unset, .unset, .unset] [])) _
    refine XS.iload X16.here hx rfl (hb hby at_246) rfl ?_
    show Steps p.tables e below (T16.setTop (mkF m 248 #[.val (.long ja), .second, .val (.int a2), .val (.long jb), .second, .val (.int b2), .val (.int co), .val (.int ln), .val (.int nn), .val (.int mm), .val (.int cc), .val (.ref r_1), .val (.ref r_2), .val (.int e00), .val (.int e01), .val (.int e02), .val (.int e10), .val (.int e11), .val (.int e12), .val (.int e20), .val (.int e21), .val (.int e22), .val (.int m5), .val (.int (cc + m5)), .unset, .unset, .unset, .unset, .unset] [(.int nn)])) _
    refine XS.iload X16.here hx rfl (hb hby at_248) rfl ?_
    show Steps p.tables e below (T16.setTop (mkF m 250 #[.val (.long ja), .second, .val (.int a2), .val (.long jb), .second, .val (.int b2), .val (.int co), .val (.int ln), .val (.int nn), .val (.int mm), .val (.int cc), .val (.ref r_1), .val (.ref r_2), .val (.int e00), .val (.int e01), .val (.int e02), .val (.int e10), .val (.int e11), .val (.int e12), .val (.int e20), .val (.int e21), .val (.int e22), .val (.int m5), .val (.int (cc + m5)), .unset, .unset, .unset, .unset, .unset] [(.int mm), (.int nn)])) _
    refine XS.iadd X16.here hx rfl (hb hby at_250) rfl ?_
    show Steps p.tables e below (T16.setTop (mkF m 251 #[.val (.long ja), .second, .val (.int a2), .val (.long jb), .second, .val (.int b2), .val (.int co), .val (.int ln), .val (.int nn), .val (.int mm), .val (.int cc), .val (.ref r_1), .val (.ref r_2), .val (.int e00), .val (.int e01), .val (.int e02), .val (.int e10), .val (.int e11), .val (.int e12), .val (.int e20), .val (.int e21), .val (.int e22), .val (.int m5), .val (.int (cc + m5)), .unset, .unset, .unset, .unset, .unset] [(.int (nn + mm))])) _
    refine XS.iconst X16.here hx rfl (hb hby at_251) ?_
    show Steps p.tables e below (T16.setTop (mkF m 252 #[.val (.long ja), .second, .val (.int a2), .val (.long jb), .second, .val (.int b2), .val (.int co), .val (.int ln), .val (.int nn), .val (.int mm), .val (.int cc), .val (.ref r_1), .val (.ref r_2), .val (.int e00), .val (.int e01), .val (.int e02), .val (.int e10), .val (.int e11), .val (.int e12), .val (.int e20), .val (.int e21), .val (.int e22), .val (.int m5), .val (.int (cc + m5)), .unset, .unset, .unset, .unset, .unset] [(.int (2 : Int32)), (.int (nn + mm))])) _
    refine XS.iload X16.here hx rfl (hb hby at_252) rfl ?_
    show Steps p.tables e below (T16.setTop (mkF m 254 #[.val (.long ja), .second, .val (.int a2), .val (.long jb), .second, .val (.int b2), .val (.int co), .val (.int ln), .val (.int nn), .val (.int mm), .val (.int cc), .val (.ref r_1), .val (.ref r_2), .val (.int e00), .val (.int e01), .val (.int e02), .val (.int e10), .val (.int e11), .val (.int e12), .val (.int e20), .val (.int e21), .val (.int e22), .val (.int m5), .val (.int (cc + m5)), .unset, .unset, .unset, .unset, .unset] [(.int cc), (.int (2 : Int32)), (.int (nn + mm))])) _
    refine XS.imul X16.here hx rfl (hb hby at_254) rfl ?_
    show Steps p.tables e below (T16.setTop (mkF m 255 #[.val (.long ja), .second, .val (.int a2), .val (.long jb), .second, .val (.int b2), .val (.int co), .val (.int ln), .val (.int nn), .val (.int mm), .val (.int cc), .val (.ref r_1), .val (.ref r_2), .val (.int e00), .val (.int e01), .val (.int e02), .val (.int e10), .val (.int e11), .val (.int e12), .val (.int e20), .val (.int e21), .val (.int e22), .val (.int m5), .val (.int (cc + m5)), .unset, .unset, .unset, .unset, .unset] [(.int ((2 : Int32) * cc)), (.int (nn + mm))])) _
    refine XS.iadd X16.here hx rfl (hb hby at_255) rfl ?_
    show Steps p.tables e below (T16.setTop (mkF m 256 #[.val (.long ja), .second, .val (.int a2), .val (.long jb), .second, .val (.int b2), .val (.int co), .val (.int ln), .val (.int nn), .val (.int mm), .val (.int cc), .val (.ref r_1), .val (.ref r_2), .val (.int e00), .val (.int e01), .val (.int e02), .val (.int e10), .val (.int e11), .val (.int e12), .val (.int e20), .val (.int e21), .val (.int e22), .val (.int m5), .val (.int (cc + m5)), .unset, .unset, .unset, .unset, .unset] [(.int ((nn + mm) + ((2 : Int32) * cc)))])) _
    refine castTop (congrArg (fun z_ => (mkF m 256 #[.val (.long ja), .second, .val (.int a2), .val (.long jb), .second, .val (.int b2), .val (.int co), .val (.int ln), .val (.int nn), .val (.int mm), .val (.int cc), .val (.ref r_1), .val (.ref r_2), .val (.int e00), .val (.int e01), .val (.int e02), .val (.int e10), .val (.int e11), .val (.int e12), .val (.int e20), .val (.int e21), .val (.int e22), .val (.int m5), .val (.int (cc + m5)), .unset, .unset, .unset, .unset, .unset] [(.int z_)])) (hal : ((nn + mm) + ((2 : Int32) * cc)) = al)) ?_
    show Steps p.tables e below (T16.setTop (mkF m 256 #[.val (.long ja), .second, .val (.int a2), .val (.long jb), .second, .val (.int b2), .val (.int co), .val (.int ln), .val (.int nn), .val (.int mm), .val (.int cc), .val (.ref r_1), .val (.ref r_2), .val (.int e00), .val (.int e01), .val (.int e02), .val (.int e10), .val (.int e11), .val (.int e12), .val (.int e20), .val (.int e21), .val (.int e22), .val (.int m5), .val (.int (cc + m5)), .unset, .unset, .unset, .unset, .unset] [(.int al)])) _
    refine XS.istore X16.here hx rfl (hb hby at_256) rfl (l' := #[.val (.long ja), .second, .val (.int a2), .val (.long jb), .second, .val (.int b2), .val (.int co), .val (.int ln), .val (.int nn), .val (.int mm), .val (.int cc), .val (.ref r_1), .val (.ref r_2), .val (.int e00), .val (.int e01), .val (.int e02), .val (.int e10), .val (.int e11), .val (.int e12), .val (.int e20), .val (.int e21), .val (.int e22), .val (.int m5), .val (.int (cc + m5)), .val (.int al), .unset, .unset, .unset, .unset]) rfl ?_
    show Steps p.tables e below (T16.setTop (mkF m 258 #[.val (.long ja), .second, .val (.int a2), .val (.long jb), .second, .val (.int b2), .val (.int co), .val (.int ln), .val (.int nn), .val (.int mm), .val (.int cc), .val (.ref r_1), .val (.ref r_2), .val (.int e00), .val (.int e01), .val (.int e02), .val (.int e10), .val (.int e11), .val (.int e12), .val (.int e20), .val (.int e21), .val (.int e22), .val (.int m5), .val (.int (cc + m5)), .val (.int al), .unset, .unset, .unset, .unset] [])) _
    refine XS.iload X16.here hx rfl (hb hby at_258) rfl ?_
    show Steps p.tables e below (T16.setTop (mkF m 260 #[.val (.long ja), .second, .val (.int a2), .val (.long jb), .second, .val (.int b2), .val (.int co), .val (.int ln), .val (.int nn), .val (.int mm), .val (.int cc), .val (.ref r_1), .val (.ref r_2), .val (.int e00), .val (.int e01), .val (.int e02), .val (.int e10), .val (.int e11), .val (.int e12), .val (.int e20), .val (.int e21), .val (.int e22), .val (.int m5), .val (.int (cc + m5)), .val (.int al), .unset, .unset, .unset, .unset] [(.int al)])) _
    refine XS.ifNo X16.here hx rfl (hb hby at_260) rfl ((if0 _ _).trans (teq (hc260 : al = (0 : Int32))).2) ?_
    show Steps p.tables e below (T16.setTop (mkF m 263 #[.val (.long ja), .second, .val (.int a2), .val (.long jb), .second, .val (.int b2), .val (.int co), .val (.int ln), .val (.int nn), .val (.int mm), .val (.int cc), .val (.ref r_1), .val (.ref r_2), .val (.int e00), .val (.int e01), .val (.int e02), .val (.int e10), .val (.int e11), .val (.int e12), .val (.int e20), .val (.int e21), .val (.int e22), .val (.int m5), .val (.int (cc + m5)), .val (.int al), .unset, .unset, .unset, .unset] [])) _
    refine XS.dconst1 X16.here hx rfl (hb hby at_263) rfl ?_
    show Steps p.tables e below (T16.setTop (mkF m 264 #[.val (.long ja), .second, .val (.int a2), .val (.long jb), .second, .val (.int b2), .val (.int co), .val (.int ln), .val (.int nn), .val (.int mm), .val (.int cc), .val (.ref r_1), .val (.ref r_2), .val (.int e00), .val (.int e01), .val (.int e02), .val (.int e10), .val (.int e11), .val (.int e12), .val (.int e20), .val (.int e21), .val (.int e22), .val (.int m5), .val (.int (cc + m5)), .val (.int al), .unset, .unset, .unset, .unset] [(.double FP.dconst1)])) _
    refine XS.dstore X16.here hx rfl (hb hby at_264) rfl (l' := #[.val (.long ja), .second, .val (.int a2), .val (.long jb), .second, .val (.int b2), .val (.int co), .val (.int ln), .val (.int nn), .val (.int mm), .val (.int cc), .val (.ref r_1), .val (.ref r_2), .val (.int e00), .val (.int e01), .val (.int e02), .val (.int e10), .val (.int e11), .val (.int e12), .val (.int e20), .val (.int e21), .val (.int e22), .val (.int m5), .val (.int (cc + m5)), .val (.int al), .val (.double FP.dconst1), .second, .unset, .unset]) rfl ?_
    show Steps p.tables e below (T16.setTop (mkF m 266 #[.val (.long ja), .second, .val (.int a2), .val (.long jb), .second, .val (.int b2), .val (.int co), .val (.int ln), .val (.int nn), .val (.int mm), .val (.int cc), .val (.ref r_1), .val (.ref r_2), .val (.int e00), .val (.int e01), .val (.int e02), .val (.int e10), .val (.int e11), .val (.int e12), .val (.int e20), .val (.int e21), .val (.int e22), .val (.int m5), .val (.int (cc + m5)), .val (.int al), .val (.double FP.dconst1), .second, .unset, .unset] [])) _
    refine XS.goto X16.here hx rfl (pc0 := 266) (pc' := 282) rfl (hb hby at_266) (by decide) (by decide) ?_
    show Steps p.tables e below (T16.setTop (mkF m 282 #[.val (.long ja), .second, .val (.int a2), .val (.long jb), .second, .val (.int b2), .val (.int co), .val (.int ln), .val (.int nn), .val (.int mm), .val (.int cc), .val (.ref r_1), .val (.ref r_2), .val (.int e00), .val (.int e01), .val (.int e02), .val (.int e10), .val (.int e11), .val (.int e12), .val (.int e20), .val (.int e21), .val (.int e22), .val (.int m5), .val (.int (cc + m5)), .val (.int al), .val (.double FP.dconst1), .second, .unset, .unset] [])) _
    refine XS.aload X16.here hx rfl (hb hby at_282) rfl rfl ?_
    show Steps p.tables e below (T16.setTop (mkF m 284 #[.val (.long ja), .second, .val (.int a2), .val (.long jb), .second, .val (.int b2), .val (.int co), .val (.int ln), .val (.int nn), .val (.int mm), .val (.int cc), .val (.ref r_1), .val (.ref r_2), .val (.int e00), .val (.int e01), .val (.int e02), .val (.int e10), .val (.int e11), .val (.int e12), .val (.int e20), .val (.int e21), .val (.int e22), .val (.int m5), .val (.int (cc + m5)), .val (.int al), .val (.double FP.dconst1), .second, .unset, .unset] [(.ref r_1)])) _
    refine XS.aload X16.here hx rfl (hb hby at_284) rfl rfl ?_
    show Steps p.tables e below (T16.setTop (mkF m 286 #[.val (.long ja), .second, .val (.int a2), .val (.long jb), .second, .val (.int b2), .val (.int co), .val (.int ln), .val (.int nn), .val (.int mm), .val (.int cc), .val (.ref r_1), .val (.ref r_2), .val (.int e00), .val (.int e01), .val (.int e02), .val (.int e10), .val (.int e11), .val (.int e12), .val (.int e20), .val (.int e21), .val (.int e22), .val (.int m5), .val (.int (cc + m5)), .val (.int al), .val (.double FP.dconst1), .second, .unset, .unset] [(.ref r_2), (.ref r_1)])) _
    refine XS.iload X16.here hx rfl (hb hby at_286) rfl ?_
    show Steps p.tables e below (T16.setTop (mkF m 288 #[.val (.long ja), .second, .val (.int a2), .val (.long jb), .second, .val (.int b2), .val (.int co), .val (.int ln), .val (.int nn), .val (.int mm), .val (.int cc), .val (.ref r_1), .val (.ref r_2), .val (.int e00), .val (.int e01), .val (.int e02), .val (.int e10), .val (.int e11), .val (.int e12), .val (.int e20), .val (.int e21), .val (.int e22), .val (.int m5), .val (.int (cc + m5)), .val (.int al), .val (.double FP.dconst1), .second, .unset, .unset] [(.int cc), (.ref r_2), (.ref r_1)])) _
    refine st17 _ ?_
    show Steps p.tables e below (T17.setTop (mkF m 291 #[.val (.long ja), .second, .val (.int a2), .val (.long jb), .second, .val (.int b2), .val (.int co), .val (.int ln), .val (.int nn), .val (.int mm), .val (.int cc), .val (.ref r_1), .val (.ref r_2), .val (.int e00), .val (.int e01), .val (.int e02), .val (.int e10), .val (.int e11), .val (.int e12), .val (.int e20), .val (.int e21), .val (.int e22), .val (.int m5), .val (.int (cc + m5)), .val (.int al), .val (.double FP.dconst1), .second, .unset, .unset] [(.double (lkD nn mm f g cc))])) _
    refine castTop (congrArg (fun z_ => (mkF m 291 #[.val (.long ja), .second, .val (.int a2), .val (.long jb), .second, .val (.int b2), .val (.int co), .val (.int ln), .val (.int nn), .val (.int mm), .val (.int cc), .val (.ref r_1), .val (.ref r_2), .val (.int e00), .val (.int e01), .val (.int e02), .val (.int e10), .val (.int e11), .val (.int e12), .val (.int e20), .val (.int e21), .val (.int e22), .val (.int m5), .val (.int (cc + m5)), .val (.int al), .val (.double FP.dconst1), .second, .unset, .unset] [(.double z_)])) (by rw [lkD, hal, if_pos hc260] : (lkD nn mm f g cc) = FP.dconst1)) ?_
    show Steps p.tables e below (T17.setTop (mkF m 291 #[.val (.long ja), .second, .val (.int a2), .val (.long jb), .second, .val (.int b2), .val (.int co), .val (.int ln), .val (.int nn), .val (.int mm), .val (.int cc), .val (.ref r_1), .val (.ref r_2), .val (.int e00), .val (.int e01), .val (.int e02), .val (.int e10), .val (.int e11), .val (.int e12), .val (.int e20), .val (.int e21), .val (.int e22), .val (.int m5), .val (.int (cc + m5)), .val (.int al), .val (.double FP.dconst1), .second, .unset, .unset] [(.double FP.dconst1)])) _
    refine XS.dstore X17.here hx rfl (hb hby at_291) rfl (l' := #[.val (.long ja), .second, .val (.int a2), .val (.long jb), .second, .val (.int b2), .val (.int co), .val (.int ln), .val (.int nn), .val (.int mm), .val (.int cc), .val (.ref r_1), .val (.ref r_2), .val (.int e00), .val (.int e01), .val (.int e02), .val (.int e10), .val (.int e11), .val (.int e12), .val (.int e20), .val (.int e21), .val (.int e22), .val (.int m5), .val (.int (cc + m5)), .val (.int al), .val (.double FP.dconst1), .second, .val (.double FP.dconst1), .second]) rfl ?_
    show Steps p.tables e below (T17.setTop (mkF m 293 #[.val (.long ja), .second, .val (.int a2), .val (.long jb), .second, .val (.int b2), .val (.int co), .val (.int ln), .val (.int nn), .val (.int mm), .val (.int cc), .val (.ref r_1), .val (.ref r_2), .val (.int e00), .val (.int e01), .val (.int e02), .val (.int e10), .val (.int e11), .val (.int e12), .val (.int e20), .val (.int e21), .val (.int e22), .val (.int m5), .val (.int (cc + m5)), .val (.int al), .val (.double FP.dconst1), .second, .val (.double FP.dconst1), .second] [])) _
    refine XS.dload X17.here hx rfl (hb hby at_293) rfl ?_
    show Steps p.tables e below (T17.setTop (mkF m 295 #[.val (.long ja), .second, .val (.int a2), .val (.long jb), .second, .val (.int b2), .val (.int co), .val (.int ln), .val (.int nn), .val (.int mm), .val (.int cc), .val (.ref r_1), .val (.ref r_2), .val (.int e00), .val (.int e01), .val (.int e02), .val (.int e10), .val (.int e11), .val (.int e12), .val (.int e20), .val (.int e21), .val (.int e22), .val (.int m5), .val (.int (cc + m5)), .val (.int al), .val (.double FP.dconst1), .second, .val (.double FP.dconst1), .second] [(.double FP.dconst1)])) _
    refine XS.dload X17.here hx rfl (hb hby at_295) rfl ?_
    show Steps p.tables e below (T17.setTop (mkF m 297 #[.val (.long ja), .second, .val (.int a2), .val (.long jb), .second, .val (.int b2), .val (.int co), .val (.int ln), .val (.int nn), .val (.int mm), .val (.int cc), .val (.ref r_1), .val (.ref r_2), .val (.int e00), .val (.int e01), .val (.int e02), .val (.int e10), .val (.int e11), .val (.int e12), .val (.int e20), .val (.int e21), .val (.int e22), .val (.int m5), .val (.int (cc + m5)), .val (.int al), .val (.double FP.dconst1), .second, .val (.double FP.dconst1), .second] [(.double FP.dconst1), (.double FP.dconst1)])) _
    refine XS.dcmpS X17.here hx rfl (hb hby at_297) rfl (v := (0 : Int32)) (dcmpV_self nn_one _) ?_
    show Steps p.tables e below (T17.setTop (mkF m 298 #[.val (.long ja), .second, .val (.int a2), .val (.long jb), .second, .val (.int b2), .val (.int co), .val (.int ln), .val (.int nn), .val (.int mm), .val (.int cc), .val (.ref r_1), .val (.ref r_2), .val (.int e00), .val (.int e01), .val (.int e02), .val (.int e10), .val (.int e11), .val (.int e12), .val (.int e20), .val (.int e21), .val (.int e22), .val (.int m5), .val (.int (cc + m5)), .val (.int al), .val (.double FP.dconst1), .second, .val (.double FP.dconst1), .second] [(.int (0 : Int32))])) _
    refine XS.ifNo X17.here hx rfl (hb hby at_298) rfl ((if0 _ _).trans (teq (by decide : (0 : Int32) = (0 : Int32))).2) ?_
    show Steps p.tables e below (T17.setTop (mkF m 301 #[.val (.long ja), .second, .val (.int a2), .val (.long jb), .second, .val (.int b2), .val (.int co), .val (.int ln), .val (.int nn), .val (.int mm), .val (.int cc), .val (.ref r_1), .val (.ref r_2), .val (.int e00), .val (.int e01), .val (.int e02), .val (.int e10), .val (.int e11), .val (.int e12), .val (.int e20), .val (.int e21), .val (.int e22), .val (.int m5), .val (.int (cc + m5)), .val (.int al), .val (.double FP.dconst1), .second, .val (.double FP.dconst1), .second] [])) _
    refine XS.iconst X17.here hx rfl (hb hby at_301) ?_
    show Steps p.tables e below (T17.setTop (mkF m 302 #[.val (.long ja), .second, .val (.int a2), .val (.long jb), .second, .val (.int b2), .val (.int co), .val (.int ln), .val (.int nn), .val (.int mm), .val (.int cc), .val (.ref r_1), .val (.ref r_2), .val (.int e00), .val (.int e01), .val (.int e02), .val (.int e10), .val (.int e11), .val (.int e12), .val (.int e20), .val (.int e21), .val (.int e22), .val (.int m5), .val (.int (cc + m5)), .val (.int al), .val (.double FP.dconst1), .second, .val (.double FP.dconst1), .second] [(.int (1 : Int32))])) _
    refine XS.goto X17.here hx rfl (pc0 := 302) (pc' := 306) rfl (hb hby at_302) (by decide) (by decide) ?_
    show Steps p.tables e below (T17.setTop (mkF m 306 #[.val (.long ja), .second, .val (.int a2), .val (.long jb), .second, .val (.int b2), .val (.int co), .val (.int ln), .val (.int nn), .val (.int mm), .val (.int cc), .val (.ref r_1), .val (.ref r_2), .val (.int e00), .val (.int e01), .val (.int e02), .val (.int e10), .val (.int e11), .val (.int e12), .val (.int e20), .val (.int e21), .val (.int e22), .val (.int m5), .val (.int (cc + m5)), .val (.int al), .val (.double FP.dconst1), .second, .val (.double FP.dconst1), .second] [(.int (1 : Int32))])) _
    exact retN X17 hx (t := .boolean) Bd.returns (by simp) (hb hby at_306) hr
  · show Q_law Z ja a2 jb b2 co ln h0 n0 _ T17.heap _
    rw [kh17]
    exact ⟨rfl, N17⟩
set_option maxRecDepth 65536 in
set_option maxHeartbeats 40000000 in
theorem law_2 (l : Launch) (Z : State) (a0 : Array Value) (hw : ∀ d ∈ tables_1, d.before a0 Z = true) (ws : List Jvm.Cond) (ja : Int64) (a2 : Int32) (jb : Int64) (b2 : Int32) (co : Int32) (ln : Int32) (h0 : Heap) (n0 : Nat) (O0 : Old Z n0 h0) (nn : Int32) (mm : Int32) (cc : Int32) (f : Nat → Int32) (g : Nat → Int32) (e00 : Int32) (e01 : Int32) (e02 : Int32) (e10 : Int32) (e11 : Int32) (e12 : Int32) (e20 : Int32) (e21 : Int32) (e22 : Int32) (m1 : Int32) (m2 : Int32) (m3 : Int32) (m4 : Int32) (m5 : Int32) (al : Int32) (hla : (ln &&& (3 : Int32)) = nn) (hlb : (((ln.toUInt32 >>> ((2 : Int32) &&& 31).toUInt32).toInt32) &&& (3 : Int32)) = mm) (hcc : ((co &&& (2147483647 : Int32)) % (1073741820 : Int32)) = cc) (hnn : nn = 0 ∨ nn = 1 ∨ nn = 2 ∨ nn = 3) (hmm : mm = 0 ∨ mm = 1 ∨ mm = 2 ∨ mm = 3) (hn3 : nn.toInt ≤ 3) (hm3 : mm.toInt ≤ 3) (hf : pick3 (s0V (ja.toInt32) ((ja.toUInt64 >>> ((32 : Int32) &&& 0x3f).toInt64.toUInt64).toInt64.toInt32) a2) (s1V (ja.toInt32) ((ja.toUInt64 >>> ((32 : Int32) &&& 0x3f).toInt64.toUInt64).toInt64.toInt32) a2) (s2V (ja.toInt32) ((ja.toUInt64 >>> ((32 : Int32) &&& 0x3f).toInt64.toUInt64).toInt64.toInt32) a2) = f) (hg : pick3 (s0V (jb.toInt32) ((jb.toUInt64 >>> ((32 : Int32) &&& 0x3f).toInt64.toUInt64).toInt64.toInt32) b2) (s1V (jb.toInt32) ((jb.toUInt64 >>> ((32 : Int32) &&& 0x3f).toInt64.toUInt64).toInt64.toInt32) b2) (s2V (jb.toInt32) ((jb.toUInt64 >>> ((32 : Int32) &&& 0x3f).toInt64.toUInt64).toInt64.toInt32) b2) = g) (h00 : (eqF nn mm f g (0 : Int32) (0 : Int32)) = e00) (h01 : (eqF nn mm f g (0 : Int32) (1 : Int32)) = e01) (h02 : (eqF nn mm f g (0 : Int32) (2 : Int32)) = e02) (h10 : (eqF nn mm f g (1 : Int32) (0 : Int32)) = e10) (h11 : (eqF nn mm f g (1 : Int32) (1 : Int32)) = e11) (h12 : (eqF nn mm f g (1 : Int32) (2 : Int32)) = e12) (h20 : (eqF nn mm f g (2 : Int32) (0 : Int32)) = e20) (h21 : (eqF nn mm f g (2 : Int32) (1 : Int32)) = e21) (h22 : (eqF nn mm f g (2 : Int32) (2 : Int32)) = e22) (g1 : (maxI ((e00 + e11) + e22) ((e00 + e12) + e21)) = m1) (g2 : (maxI m1 ((e01 + e10) + e22)) = m2) (g3 : (maxI m2 ((e01 + e12) + e20)) = m3) (g4 : (maxI m3 ((e02 + e10) + e21)) = m4) (g5 : (maxI m4 ((e02 + e11) + e20)) = m5) (hal : ((nn + mm) + ((2 : Int32) * cc)) = al) (hmr : mrg nn mm f g 6 (0 : Int32) (0 : Int32) cc = cc + m5) (hc260 : ¬ (al = (0 : Int32))) :
    MetFree l x (head1 (Jvm.Cond.code x code maxLocals ret :: ws) room_1) (fun zA zU => zA = #[(.long ja), (.int a2), (.long jb), (.int b2), (.int co), (.int ln)] ∧ Z.Warmed39 zU.vm ∧ zU.heap = h0) (fun _ _ _ _ _ => True) (fun _ zU zo zU' => ∃ zv zL, zo = .returned zv ∧ Q_law Z ja a2 jb b2 co ln h0 n0 zv zU'.heap zL ∧ FrameEnd zU zo zU' zL room_1.cells room_1.slots) := by
  refine MetFree.of_bodySF (plainFor_of_name pn_4) hisR ?_
  intro p e s m args below meth c s₁ Bd hml0 hP hK
  obtain ⟨rfl, hZ, hh⟩ := hP
  have hx := Bd.exec
  have hby := Bd.bytes
  have hml : c.maxLocals = 29 := hml0
  have hown : s.vm.findClass "com/example/recital/recital/document/WordsLikenessPinLaw" = some m.cls := findClass_of_methodNamed Bd.named
  have hnm := (name_of_methodNamed Bd.named Bd.method).1
  have X0 : Stand p l e room_1 s m #[(.long ja), (.int a2), (.long jb), (.int b2), (.int co), (.int ln)] below meth c s₁ [] 0 0 := Stand.of_body Bd
  have e0 : s₁.heap = h0 := by rw [← hh, Bd.state]; rfl
  have N0 := Fr.nil n0
  have Z0 : n0 ≤ h0.size := O0.1 ▸ O0.2.1
  have pre0 : ∀ zt, Steps p.tables e below (s₁.setTop (mkF m 0 #[.val (.long ja), .second, .val (.int a2), .val (.long jb), .second, .val (.int b2), .val (.int co), .val (.int ln), .unset, .unset, .unset, .unset, .unset, .unset, .unset, .unset, .unset, .unset, .unset, .unset, .unset, .unset, .unset, .unset, .unset, .unset, .unset, .unset, .unset] [])) zt → Steps p.tables e below (s₁.setTop (entryFrame m #[(.long ja), (.int a2), (.long jb), (.int b2), (.int co), (.int ln)] maxLocals)) zt := fun zt zk => castTop (ef_0_JIJIII m ja a2 jb b2 co ln) zk
  obtain ⟨_, _, ⟨T1, L1, k1, n1⟩, -, X1, ⟨Lc1, hQ1, l1, y1, z1⟩, st1⟩ := Jvm.LawKit.callS X0 hx (y := (⟨"com/example/recital/recital/document/WordsLikenessPinLaw", "sortedTake", "(IIII)[I"⟩ : MethodName)) hown (mvT hZ (hw _ (List.mem_of_getElem? (i := 2) rfl))) (mvT hZ (hw _ (List.mem_of_getElem? (i := 3) rfl))) (mvT hZ (hw _ (List.mem_of_getElem? (i := 4) rfl))) (mvT hZ (hw _ (List.mem_of_getElem? (i := 5) rfl))) (by decide) (backOf (W := 0) (take l Z a0 hw [] nn (ja.toInt32) (((ja.toUInt64 >>> ((32 : Int32) &&& 0x3f).toInt64.toUInt64).toInt64).toInt32) a2 f h0 n0 (Nat.le_trans Z0 (Keep.refl h0 []).1) hnn hf) hZ (hw _ (List.mem_of_getElem? (i := 5) rfl)) (hw _ (List.mem_of_getElem? (i := 4) rfl)) (by decide) (by decide)) (g := (mkF m 34 #[.val (.long ja), .second, .val (.int a2), .val (.long jb), .second, .val (.int b2), .val (.int co), .val (.int ln), .val (.int nn), .val (.int mm), .val (.int cc), .unset, .unset, .unset, .unset, .unset, .unset, .unset, .unset, .unset, .unset, .unset, .unset, .unset, .unset, .unset, .unset, .unset, .unset] [(.int a2), (.int (((ja.toUInt64 >>> ((32 : Int32) &&& 0x3f).toInt64.toUInt64).toInt64).toInt32)), (.int (ja.toInt32)), (.int nn)])) rfl (by rw [hml]; rfl) (argsL := [(.int nn), (.int (ja.toInt32)), (.int (((ja.toUInt64 >>> ((32 : Int32) &&& 0x3f).toInt64.toUInt64).toInt64).toInt32)), (.int a2)]) (rest := []) (lenOf pd_1 rfl) rfl (by show 2 * 0 + _ ≤ _; exact Nat.le_of_eq rfl) (hb hby at_34) (fun _ _ => ⟨rfl, e0, (by decide : 0 + 1 ≤ _), (by decide : 0 + 3 ≤ _)⟩)
  dsimp only [Pt.U, Pt.locs, Pt.cells, Pt.slots] at X1 l1 y1 z1 st1 hQ1
  subst l1 y1 z1
  obtain ⟨r_1, rfl, Nq1, kh1, fz_r_1, Po1_0⟩ := hQ1
  have N1 := Fr.app N0 Nq1
  have sz_r_1 : h0.size ≤ r_1 := Nat.le_trans (Keep.refl h0 []).1 fz_r_1
  have g_r_1 : n0 ≤ r_1 := Nat.le_trans Z0 sz_r_1
  have O1 := O0.keep kh1 all0
  have K1 : Keep h0 T1.heap [] := (Keep.refl h0 []).trans kh1 all0
  obtain ⟨_, _, ⟨T2, L2, k2, n2⟩, -, X2, ⟨Lc2, hQ2, l2, y2, z2⟩, st2⟩ := Jvm.LawKit.callS X1 hx (y := (⟨"com/example/recital/recital/document/WordsLikenessPinLaw", "sortedTake", "(IIII)[I"⟩ : MethodName)) hown (mvT hZ (hw _ (List.mem_of_getElem? (i := 2) rfl))) (mvT hZ (hw _ (List.mem_of_getElem? (i := 3) rfl))) (mvT hZ (hw _ (List.mem_of_getElem? (i := 4) rfl))) (mvT hZ (hw _ (List.mem_of_getElem? (i := 5) rfl))) (by decide) (backOf (W := 0) (take l Z a0 hw [] mm (jb.toInt32) (((jb.toUInt64 >>> ((32 : Int32) &&& 0x3f).toInt64.toUInt64).toInt64).toInt32) b2 g T1.heap n0 (Nat.le_trans Z0 K1.1) hmm hg) hZ (hw _ (List.mem_of_getElem? (i := 5) rfl)) (hw _ (List.mem_of_getElem? (i := 4) rfl)) (by decide) (by decide)) (g := (mkF m 50 #[.val (.long ja), .second, .val (.int a2), .val (.long jb), .second, .val (.int b2), .val (.int co), .val (.int ln), .val (.int nn), .val (.int mm), .val (.int cc), .val (.ref r_1), .unset, .unset, .unset, .unset, .unset, .unset, .unset, .unset, .unset, .unset, .unset, .unset, .unset, .unset, .unset, .unset, .unset] [(.int b2), (.int (((jb.toUInt64 >>> ((32 : Int32) &&& 0x3f).toInt64.toUInt64).toInt64).toInt32)), (.int (jb.toInt32)), (.int mm)])) rfl (by rw [hml]; rfl) (argsL := [(.int mm), (.int (jb.toInt32)), (.int (((jb.toUInt64 >>> ((32 : Int32) &&& 0x3f).toInt64.toUInt64).toInt64).toInt32)), (.int b2)]) (rest := []) (lenOf pd_1 rfl) rfl (by show 2 * 0 + _ ≤ _; exact Nat.le_of_eq rfl) (hb hby at_50) (fun _ _ => ⟨rfl, rfl, (by decide : 1 + 1 ≤ _), (by decide : 3 + 3 ≤ _)⟩)
  dsimp only [Pt.U, Pt.locs, Pt.cells, Pt.slots] at X2 l2 y2 z2 st2 hQ2
  subst l2 y2 z2
  obtain ⟨r_2, rfl, Nq2, kh2, fz_r_2, Po2_0⟩ := hQ2
  have N2 := Fr.app N1 Nq2
  have sz_r_2 : h0.size ≤ r_2 := Nat.le_trans K1.1 fz_r_2
  have g_r_2 : n0 ≤ r_2 := Nat.le_trans Z0 sz_r_2
  have O2 := O1.keep kh2 all0
  have K2 : Keep h0 T2.heap [] := K1.trans kh2 all0
  obtain ⟨_, _, ⟨T3, L3, k3, n3⟩, -, X3, ⟨Lc3, hQ3, l3, y3, z3⟩, st3⟩ := Jvm.LawKit.callS X2 hx (y := (⟨"com/example/recital/recital/document/WordsLikenessPinLaw", "eq", "([II[II)I"⟩ : MethodName)) hown (mvT hZ (hw _ (List.mem_of_getElem? (i := 14) rfl))) (mvT hZ (hw _ (List.mem_of_getElem? (i := 15) rfl))) (mvT hZ (hw _ (List.mem_of_getElem? (i := 4) rfl))) (mvT hZ (hw _ (List.mem_of_getElem? (i := 16) rfl))) (by decide) (backOf (W := 0) (eqR l Z a0 hw [] r_1 (0 : Int32) r_2 (0 : Int32) nn mm f g T2.heap n0 (Nat.le_trans Z0 K2.1) (Po1_0.keep kh2 nin0) Po2_0 (by decide) (by decide)) hZ (hw _ (List.mem_of_getElem? (i := 16) rfl)) (hw _ (List.mem_of_getElem? (i := 4) rfl)) (by decide) (by decide)) (g := (mkF m 61 #[.val (.long ja), .second, .val (.int a2), .val (.long jb), .second, .val (.int b2), .val (.int co), .val (.int ln), .val (.int nn), .val (.int mm), .val (.int cc), .val (.ref r_1), .val (.ref r_2), .unset, .unset, .unset, .unset, .unset, .unset, .unset, .unset, .unset, .unset, .unset, .unset, .unset, .unset, .unset, .unset] [(.int (0 : Int32)), (.ref r_2), (.int (0 : Int32)), (.ref r_1)])) rfl (by rw [hml]; rfl) (argsL := [(.ref r_1), (.int (0 : Int32)), (.ref r_2), (.int (0 : Int32))]) (rest := []) (lenOf pd_2 rfl) rfl (by show 2 * 0 + _ ≤ _; exact Nat.le_of_eq rfl) (hb hby at_61) (fun _ _ => ⟨rfl, rfl, (by decide : 2 + 0 ≤ _), (by decide : 6 + 0 ≤ _)⟩)
  dsimp only [Pt.U, Pt.locs, Pt.cells, Pt.slots] at X3 l3 y3 z3 st3 hQ3
  subst l3 y3 z3
  obtain ⟨rfl, Nq3, kh3⟩ := hQ3
  have N3 := Fr.app N2 Nq3
  obtain ⟨_, _, ⟨T4, L4, k4, n4⟩, -, X4, ⟨Lc4, hQ4, l4, y4, z4⟩, st4⟩ := Jvm.LawKit.callS X3 hx (y := (⟨"com/example/recital/recital/document/WordsLikenessPinLaw", "eq", "([II[II)I"⟩ : MethodName)) hown (mvT hZ (hw _ (List.mem_of_getElem? (i := 14) rfl))) (mvT hZ (hw _ (List.mem_of_getElem? (i := 15) rfl))) (mvT hZ (hw _ (List.mem_of_getElem? (i := 4) rfl))) (mvT hZ (hw _ (List.mem_of_getElem? (i := 16) rfl))) (by decide) (backOf (W := 0) (eqR l Z a0 hw [] r_1 (0 : Int32) r_2 (1 : Int32) nn mm f g T2.heap n0 (Nat.le_trans Z0 K2.1) (Po1_0.keep kh2 nin0) Po2_0 (by decide) (by decide)) hZ (hw _ (List.mem_of_getElem? (i := 16) rfl)) (hw _ (List.mem_of_getElem? (i := 4) rfl)) (by decide) (by decide)) (g := (mkF m 72 #[.val (.long ja), .second, .val (.int a2), .val (.long jb), .second, .val (.int b2), .val (.int co), .val (.int ln), .val (.int nn), .val (.int mm), .val (.int cc), .val (.ref r_1), .val (.ref r_2), .val (.int e00), .unset, .unset, .unset, .unset, .unset, .unset, .unset, .unset, .unset, .unset, .unset, .unset, .unset, .unset, .unset] [(.int (1 : Int32)), (.ref r_2), (.int (0 : Int32)), (.ref r_1)])) rfl (by rw [hml]; rfl) (argsL := [(.ref r_1), (.int (0 : Int32)), (.ref r_2), (.int (1 : Int32))]) (rest := []) (lenOf pd_2 rfl) rfl (by show 2 * 0 + _ ≤ _; exact Nat.le_of_eq rfl) (hb hby at_72) (fun _ _ => ⟨rfl, kh3, (by decide : 2 + 0 ≤ _), (by decide : 6 + 0 ≤ _)⟩)
  dsimp only [Pt.U, Pt.locs, Pt.cells, Pt.slots] at X4 l4 y4 z4 st4 hQ4
  subst l4 y4 z4
  obtain ⟨rfl, Nq4, kh4⟩ := hQ4
  have N4 := Fr.app N3 Nq4
  obtain ⟨_, _, ⟨T5, L5, k5, n5⟩, -, X5, ⟨Lc5, hQ5, l5, y5, z5⟩, st5⟩ := Jvm.LawKit.callS X4 hx (y := (⟨"com/example/recital/recital/document/WordsLikenessPinLaw", "eq", "([II[II)I"⟩ : MethodName)) hown (mvT hZ (hw _ (List.mem_of_getElem? (i := 14) rfl))) (mvT hZ (hw _ (List.mem_of_getElem? (i := 15) rfl))) (mvT hZ (hw _ (List.mem_of_getElem? (i := 4) rfl))) (mvT hZ (hw _ (List.mem_of_getElem? (i := 16) rfl))) (by decide) (backOf (W := 0) (eqR l Z a0 hw [] r_1 (0 : Int32) r_2 (2 : Int32) nn mm f g T2.heap n0 (Nat.le_trans Z0 K2.1) (Po1_0.keep kh2 nin0) Po2_0 (by decide) (by decide)) hZ (hw _ (List.mem_of_getElem? (i := 16) rfl)) (hw _ (List.mem_of_getElem? (i := 4) rfl)) (by decide) (by decide)) (g := (mkF m 83 #[.val (.long ja), .second, .val (.int a2), .val (.long jb), .second, .val (.int b2), .val (.int co), .val (.int ln), .val (.int nn), .val (.int mm), .val (.int cc), .val (.ref r_1), .val (.ref r_2), .val (.int e00), .val (.int e01), .unset, .unset, .unset, .unset, .unset, .unset, .unset, .unset, .unset, .unset, .unset, .unset, .unset, .unset] [(.int (2 : Int32)), (.ref r_2), (.int (0 : Int32)), (.ref r_1)])) rfl (by rw [hml]; rfl) (argsL := [(.ref r_1), (.int (0 : Int32)), (.ref r_2), (.int (2 : Int32))]) (rest := []) (lenOf pd_2 rfl) rfl (by show 2 * 0 + _ ≤ _; exact Nat.le_of_eq rfl) (hb hby at_83) (fun _ _ => ⟨rfl, kh4, (by decide : 2 + 0 ≤ _), (by decide : 6 + 0 ≤ _)⟩)
  dsimp only [Pt.U, Pt.locs, Pt.cells, Pt.slots] at X5 l5 y5 z5 st5 hQ5
  subst l5 y5 z5
  obtain ⟨rfl, Nq5, kh5⟩ := hQ5
  have N5 := Fr.app N4 Nq5
  obtain ⟨_, _, ⟨T6, L6, k6, n6⟩, -, X6, ⟨Lc6, hQ6, l6, y6, z6⟩, st6⟩ := Jvm.LawKit.callS X5 hx (y := (⟨"com/example/recital/recital/document/WordsLikenessPinLaw", "eq", "([II[II)I"⟩ : MethodName)) hown (mvT hZ (hw _ (List.mem_of_getElem? (i := 14) rfl))) (mvT hZ (hw _ (List.mem_of_getElem? (i := 15) rfl))) (mvT hZ (hw _ (List.mem_of_getElem? (i := 4) rfl))) (mvT hZ (hw _ (List.mem_of_getElem? (i := 16) rfl))) (by decide) (backOf (W := 0) (eqR l Z a0 hw [] r_1 (1 : Int32) r_2 (0 : Int32) nn mm f g T2.heap n0 (Nat.le_trans Z0 K2.1) (Po1_0.keep kh2 nin0) Po2_0 (by decide) (by decide)) hZ (hw _ (List.mem_of_getElem? (i := 16) rfl)) (hw _ (List.mem_of_getElem? (i := 4) rfl)) (by decide) (by decide)) (g := (mkF m 94 #[.val (.long ja), .second, .val (.int a2), .val (.long jb), .second, .val (.int b2), .val (.int co), .val (.int ln), .val (.int nn), .val (.int mm), .val (.int cc), .val (.ref r_1), .val (.ref r_2), .val (.int e00), .val (.int e01), .val (.int e02), .unset, .unset, .unset, .unset, .unset, .unset, .unset, .unset, .unset, .unset, .unset, .unset, .unset] [(.int (0 : Int32)), (.ref r_2), (.int (1 : Int32)), (.ref r_1)])) rfl (by rw [hml]; rfl) (argsL := [(.ref r_1), (.int (1 : Int32)), (.ref r_2), (.int (0 : Int32))]) (rest := []) (lenOf pd_2 rfl) rfl (by show 2 * 0 + _ ≤ _; exact Nat.le_of_eq rfl) (hb hby at_94) (fun _ _ => ⟨rfl, kh5, (by decide : 2 + 0 ≤ _), (by decide : 6 + 0 ≤ _)⟩)
  dsimp only [Pt.U, Pt.locs, Pt.cells, Pt.slots] at X6 l6 y6 z6 st6 hQ6
  subst l6 y6 z6
  obtain ⟨rfl, Nq6, kh6⟩ := hQ6
  have N6 := Fr.app N5 Nq6
  obtain ⟨_, _, ⟨T7, L7, k7, n7⟩, -, X7, ⟨Lc7, hQ7, l7, y7, z7⟩, st7⟩ := Jvm.LawKit.callS X6 hx (y := (⟨"com/example/recital/recital/document/WordsLikenessPinLaw", "eq", "([II[II)I"⟩ : MethodName)) hown (mvT hZ (hw _ (List.mem_of_getElem? (i := 14) rfl))) (mvT hZ (hw _ (List.mem_of_getElem? (i := 15) rfl))) (mvT hZ (hw _ (List.mem_of_getElem? (i := 4) rfl))) (mvT hZ (hw _ (List.mem_of_getElem? (i := 16) rfl))) (by decide) (backOf (W := 0) (eqR l Z a0 hw [] r_1 (1 : Int32) r_2 (1 : Int32) nn mm f g T2.heap n0 (Nat.le_trans Z0 K2.1) (Po1_0.keep kh2 nin0) Po2_0 (by decide) (by decide)) hZ (hw _ (List.mem_of_getElem? (i := 16) rfl)) (hw _ (List.mem_of_getElem? (i := 4) rfl)) (by decide) (by decide)) (g := (mkF m 105 #[.val (.long ja), .second, .val (.int a2), .val (.long jb), .second, .val (.int b2), .val (.int co), .val (.int ln), .val (.int nn), .val (.int mm), .val (.int cc), .val (.ref r_1), .val (.ref r_2), .val (.int e00), .val (.int e01), .val (.int e02), .val (.int e10), .unset, .unset, .unset, .unset, .unset, .unset, .unset, .unset, .unset, .unset, .unset, .unset] [(.int (1 : Int32)), (.ref r_2), (.int (1 : Int32)), (.ref r_1)])) rfl (by rw [hml]; rfl) (argsL := [(.ref r_1), (.int (1 : Int32)), (.ref r_2), (.int (1 : Int32))]) (rest := []) (lenOf pd_2 rfl) rfl (by show 2 * 0 + _ ≤ _; exact Nat.le_of_eq rfl) (hb hby at_105) (fun _ _ => ⟨rfl, kh6, (by decide : 2 + 0 ≤ _), (by decide : 6 + 0 ≤ _)⟩)
  dsimp only [Pt.U, Pt.locs, Pt.cells, Pt.slots] at X7 l7 y7 z7 st7 hQ7
  subst l7 y7 z7
  obtain ⟨rfl, Nq7, kh7⟩ := hQ7
  have N7 := Fr.app N6 Nq7
  obtain ⟨_, _, ⟨T8, L8, k8, n8⟩, -, X8, ⟨Lc8, hQ8, l8, y8, z8⟩, st8⟩ := Jvm.LawKit.callS X7 hx (y := (⟨"com/example/recital/recital/document/WordsLikenessPinLaw", "eq", "([II[II)I"⟩ : MethodName)) hown (mvT hZ (hw _ (List.mem_of_getElem? (i := 14) rfl))) (mvT hZ (hw _ (List.mem_of_getElem? (i := 15) rfl))) (mvT hZ (hw _ (List.mem_of_getElem? (i := 4) rfl))) (mvT hZ (hw _ (List.mem_of_getElem? (i := 16) rfl))) (by decide) (backOf (W := 0) (eqR l Z a0 hw [] r_1 (1 : Int32) r_2 (2 : Int32) nn mm f g T2.heap n0 (Nat.le_trans Z0 K2.1) (Po1_0.keep kh2 nin0) Po2_0 (by decide) (by decide)) hZ (hw _ (List.mem_of_getElem? (i := 16) rfl)) (hw _ (List.mem_of_getElem? (i := 4) rfl)) (by decide) (by decide)) (g := (mkF m 116 #[.val (.long ja), .second, .val (.int a2), .val (.long jb), .second, .val (.int b2), .val (.int co), .val (.int ln), .val (.int nn), .val (.int mm), .val (.int cc), .val (.ref r_1), .val (.ref r_2), .val (.int e00), .val (.int e01), .val (.int e02), .val (.int e10), .val (.int e11), .unset, .unset, .unset, .unset, .unset, .unset, .unset, .unset, .unset, .unset, .unset] [(.int (2 : Int32)), (.ref r_2), (.int (1 : Int32)), (.ref r_1)])) rfl (by rw [hml]; rfl) (argsL := [(.ref r_1), (.int (1 : Int32)), (.ref r_2), (.int (2 : Int32))]) (rest := []) (lenOf pd_2 rfl) rfl (by show 2 * 0 + _ ≤ _; exact Nat.le_of_eq rfl) (hb hby at_116) (fun _ _ => ⟨rfl, kh7, (by decide : 2 + 0 ≤ _), (by decide : 6 + 0 ≤ _)⟩)
  dsimp only [Pt.U, Pt.locs, Pt.cells, Pt.slots] at X8 l8 y8 z8 st8 hQ8
  subst l8 y8 z8
  obtain ⟨rfl, Nq8, kh8⟩ := hQ8
  have N8 := Fr.app N7 Nq8
  obtain ⟨_, _, ⟨T9, L9, k9, n9⟩, -, X9, ⟨Lc9, hQ9, l9, y9, z9⟩, st9⟩ := Jvm.LawKit.callS X8 hx (y := (⟨"com/example/recital/recital/document/WordsLikenessPinLaw", "eq", "([II[II)I"⟩ : MethodName)) hown (mvT hZ (hw _ (List.mem_of_getElem? (i := 14) rfl))) (mvT hZ (hw _ (List.mem_of_getElem? (i := 15) rfl))) (mvT hZ (hw _ (List.mem_of_getElem? (i := 4) rfl))) (mvT hZ (hw _ (List.mem_of_getElem? (i := 16) rfl))) (by decide) (backOf (W := 0) (eqR l Z a0 hw [] r_1 (2 : Int32) r_2 (0 : Int32) nn mm f g T2.heap n0 (Nat.le_trans Z0 K2.1) (Po1_0.keep kh2 nin0) Po2_0 (by decide) (by decide)) hZ (hw _ (List.mem_of_getElem? (i := 16) rfl)) (hw _ (List.mem_of_getElem? (i := 4) rfl)) (by decide) (by decide)) (g := (mkF m 127 #[.val (.long ja), .second, .val (.int a2), .val (.long jb), .second, .val (.int b2), .val (.int co), .val (.int ln), .val (.int nn), .val (.int mm), .val (.int cc), .val (.ref r_1), .val (.ref r_2), .val (.int e00), .val (.int e01), .val (.int e02), .val (.int e10), .val (.int e11), .val (.int e12), .unset, .unset, .unset, .unset, .unset, .unset, .unset, .unset, .unset, .unset] [(.int (0 : Int32)), (.ref r_2), (.int (2 : Int32)), (.ref r_1)])) rfl (by rw [hml]; rfl) (argsL := [(.ref r_1), (.int (2 : Int32)), (.ref r_2), (.int (0 : Int32))]) (rest := []) (lenOf pd_2 rfl) rfl (by show 2 * 0 + _ ≤ _; exact Nat.le_of_eq rfl) (hb hby at_127) (fun _ _ => ⟨rfl, kh8, (by decide : 2 + 0 ≤ _), (by decide : 6 + 0 ≤ _)⟩)
  dsimp only [Pt.U, Pt.locs, Pt.cells, Pt.slots] at X9 l9 y9 z9 st9 hQ9
  subst l9 y9 z9
  obtain ⟨rfl, Nq9, kh9⟩ := hQ9
  have N9 := Fr.app N8 Nq9
  obtain ⟨_, _, ⟨T10, L10, k10, n10⟩, -, X10, ⟨Lc10, hQ10, l10, y10, z10⟩, st10⟩ := Jvm.LawKit.callS X9 hx (y := (⟨"com/example/recital/recital/document/WordsLikenessPinLaw", "eq", "([II[II)I"⟩ : MethodName)) hown (mvT hZ (hw _ (List.mem_of_getElem? (i := 14) rfl))) (mvT hZ (hw _ (List.mem_of_getElem? (i := 15) rfl))) (mvT hZ (hw _ (List.mem_of_getElem? (i := 4) rfl))) (mvT hZ (hw _ (List.mem_of_getElem? (i := 16) rfl))) (by decide) (backOf (W := 0) (eqR l Z a0 hw [] r_1 (2 : Int32) r_2 (1 : Int32) nn mm f g T2.heap n0 (Nat.le_trans Z0 K2.1) (Po1_0.keep kh2 nin0) Po2_0 (by decide) (by decide)) hZ (hw _ (List.mem_of_getElem? (i := 16) rfl)) (hw _ (List.mem_of_getElem? (i := 4) rfl)) (by decide) (by decide)) (g := (mkF m 138 #[.val (.long ja), .second, .val (.int a2), .val (.long jb), .second, .val (.int b2), .val (.int co), .val (.int ln), .val (.int nn), .val (.int mm), .val (.int cc), .val (.ref r_1), .val (.ref r_2), .val (.int e00), .val (.int e01), .val (.int e02), .val (.int e10), .val (.int e11), .val (.int e12), .val (.int e20), .unset, .unset, .unset, .unset, .unset, .unset, .unset, .unset, .unset] [(.int (1 : Int32)), (.ref r_2), (.int (2 : Int32)), (.ref r_1)])) rfl (by rw [hml]; rfl) (argsL := [(.ref r_1), (.int (2 : Int32)), (.ref r_2), (.int (1 : Int32))]) (rest := []) (lenOf pd_2 rfl) rfl (by show 2 * 0 + _ ≤ _; exact Nat.le_of_eq rfl) (hb hby at_138) (fun _ _ => ⟨rfl, kh9, (by decide : 2 + 0 ≤ _), (by decide : 6 + 0 ≤ _)⟩)
  dsimp only [Pt.U, Pt.locs, Pt.cells, Pt.slots] at X10 l10 y10 z10 st10 hQ10
  subst l10 y10 z10
  obtain ⟨rfl, Nq10, kh10⟩ := hQ10
  have N10 := Fr.app N9 Nq10
  obtain ⟨_, _, ⟨T11, L11, k11, n11⟩, -, X11, ⟨Lc11, hQ11, l11, y11, z11⟩, st11⟩ := Jvm.LawKit.callS X10 hx (y := (⟨"com/example/recital/recital/document/WordsLikenessPinLaw", "eq", "([II[II)I"⟩ : MethodName)) hown (mvT hZ (hw _ (List.mem_of_getElem? (i := 14) rfl))) (mvT hZ (hw _ (List.mem_of_getElem? (i := 15) rfl))) (mvT hZ (hw _ (List.mem_of_getElem? (i := 4) rfl))) (mvT hZ (hw _ (List.mem_of_getElem? (i := 16) rfl))) (by decide) (backOf (W := 0) (eqR l Z a0 hw [] r_1 (2 : Int32) r_2 (2 : Int32) nn mm f g T2.heap n0 (Nat.le_trans Z0 K2.1) (Po1_0.keep kh2 nin0) Po2_0 (by decide) (by decide)) hZ (hw _ (List.mem_of_getElem? (i := 16) rfl)) (hw _ (List.mem_of_getElem? (i := 4) rfl)) (by decide) (by decide)) (g := (mkF m 149 #[.val (.long ja), .second, .val (.int a2), .val (.long jb), .second, .val (.int b2), .val (.int co), .val (.int ln), .val (.int nn), .val (.int mm), .val (.int cc), .val (.ref r_1), .val (.ref r_2), .val (.int e00), .val (.int e01), .val (.int e02), .val (.int e10), .val (.int e11), .val (.int e12), .val (.int e20), .val (.int e21), .unset, .unset, .unset, .unset, .unset, .unset, .unset, .unset] [(.int (2 : Int32)), (.ref r_2), (.int (2 : Int32)), (.ref r_1)])) rfl (by rw [hml]; rfl) (argsL := [(.ref r_1), (.int (2 : Int32)), (.ref r_2), (.int (2 : Int32))]) (rest := []) (lenOf pd_2 rfl) rfl (by show 2 * 0 + _ ≤ _; exact Nat.le_of_eq rfl) (hb hby at_149) (fun _ _ => ⟨rfl, kh10, (by decide : 2 + 0 ≤ _), (by decide : 6 + 0 ≤ _)⟩)
  dsimp only [Pt.U, Pt.locs, Pt.cells, Pt.slots] at X11 l11 y11 z11 st11 hQ11
  subst l11 y11 z11
  obtain ⟨rfl, Nq11, kh11⟩ := hQ11
  have N11 := Fr.app N10 Nq11
  obtain ⟨_, _, ⟨T12, L12, k12, n12⟩, -, X12, ⟨Lc12, hQ12, l12, y12, z12⟩, st12⟩ := Jvm.LawKit.callS X11 hx (y := (⟨"java/lang/Math", "max", "(II)I"⟩ : MethodName)) hown (mvT hZ (hw _ (List.mem_of_getElem? (i := 10) rfl))) (mvT hZ (hw _ (List.mem_of_getElem? (i := 11) rfl))) (mvT hZ (hw _ (List.mem_of_getElem? (i := 8) rfl))) (mvT hZ (hw _ (List.mem_of_getElem? (i := 12) rfl))) (by decide) (backOf (W := 0) (maxR l Z a0 hw [] ((e00 + e11) + e22) ((e00 + e12) + e21) T2.heap n0 (Nat.le_trans Z0 K2.1) ) hZ (hw _ (List.mem_of_getElem? (i := 12) rfl)) (hw _ (List.mem_of_getElem? (i := 8) rfl)) (by decide) (by decide)) (g := (mkF m 174 #[.val (.long ja), .second, .val (.int a2), .val (.long jb), .second, .val (.int b2), .val (.int co), .val (.int ln), .val (.int nn), .val (.int mm), .val (.int cc), .val (.ref r_1), .val (.ref r_2), .val (.int e00), .val (.int e01), .val (.int e02), .val (.int e10), .val (.int e11), .val (.int e12), .val (.int e20), .val (.int e21), .val (.int e22), .val (.int ((e00 + e11) + e22)), .unset, .unset, .unset, .unset, .unset, .unset] [(.int ((e00 + e12) + e21)), (.int ((e00 + e11) + e22))])) rfl (by rw [hml]; rfl) (argsL := [(.int ((e00 + e11) + e22)), (.int ((e00 + e12) + e21))]) (rest := []) (lenOf pd_0 rfl) rfl (by show 2 * 0 + _ ≤ _; exact Nat.le_of_eq rfl) (hb hby at_174) (fun _ _ => ⟨rfl, kh11, (by decide : 2 + 0 ≤ _), (by decide : 6 + 0 ≤ _)⟩)
  dsimp only [Pt.U, Pt.locs, Pt.cells, Pt.slots] at X12 l12 y12 z12 st12 hQ12
  subst l12 y12 z12
  obtain ⟨rfl, Nq12, kh12⟩ := hQ12
  have N12 := Fr.app N11 Nq12
  obtain ⟨_, _, ⟨T13, L13, k13, n13⟩, -, X13, ⟨Lc13, hQ13, l13, y13, z13⟩, st13⟩ := Jvm.LawKit.callS X12 hx (y := (⟨"java/lang/Math", "max", "(II)I"⟩ : MethodName)) hown (mvT hZ (hw _ (List.mem_of_getElem? (i := 10) rfl))) (mvT hZ (hw _ (List.mem_of_getElem? (i := 11) rfl))) (mvT hZ (hw _ (List.mem_of_getElem? (i := 8) rfl))) (mvT hZ (hw _ (List.mem_of_getElem? (i := 12) rfl))) (by decide) (backOf (W := 0) (maxR l Z a0 hw [] m1 ((e01 + e10) + e22) T2.heap n0 (Nat.le_trans Z0 K2.1) ) hZ (hw _ (List.mem_of_getElem? (i := 12) rfl)) (hw _ (List.mem_of_getElem? (i := 8) rfl)) (by decide) (by decide)) (g := (mkF m 189 #[.val (.long ja), .second, .val (.int a2), .val (.long jb), .second, .val (.int b2), .val (.int co), .val (.int ln), .val (.int nn), .val (.int mm), .val (.int cc), .val (.ref r_1), .val (.ref r_2), .val (.int e00), .val (.int e01), .val (.int e02), .val (.int e10), .val (.int e11), .val (.int e12), .val (.int e20), .val (.int e21), .val (.int e22), .val (.int m1), .unset, .unset, .unset, .unset, .unset, .unset] [(.int ((e01 + e10) + e22)), (.int m1)])) rfl (by rw [hml]; rfl) (argsL := [(.int m1), (.int ((e01 + e10) + e22))]) (rest := []) (lenOf pd_0 rfl) rfl (by show 2 * 0 + _ ≤ _; exact Nat.le_of_eq rfl) (hb hby at_189) (fun _ _ => ⟨rfl, kh12, (by decide : 2 + 0 ≤ _), (by decide : 6 + 0 ≤ _)⟩)
  dsimp only [Pt.U, Pt.locs, Pt.cells, Pt.slots] at X13 l13 y13 z13 st13 hQ13
  subst l13 y13 z13
  obtain ⟨rfl, Nq13, kh13⟩ := hQ13
  have N13 := Fr.app N12 Nq13
  obtain ⟨_, _, ⟨T14, L14, k14, n14⟩, -, X14, ⟨Lc14, hQ14, l14, y14, z14⟩, st14⟩ := Jvm.LawKit.callS X13 hx (y := (⟨"java/lang/Math", "max", "(II)I"⟩ : MethodName)) hown (mvT hZ (hw _ (List.mem_of_getElem? (i := 10) rfl))) (mvT hZ (hw _ (List.mem_of_getElem? (i := 11) rfl))) (mvT hZ (hw _ (List.mem_of_getElem? (i := 8) rfl))) (mvT hZ (hw _ (List.mem_of_getElem? (i := 12) rfl))) (by decide) (backOf (W := 0) (maxR l Z a0 hw [] m2 ((e01 + e12) + e20) T2.heap n0 (Nat.le_trans Z0 K2.1) ) hZ (hw _ (List.mem_of_getElem? (i := 12) rfl)) (hw _ (List.mem_of_getElem? (i := 8) rfl)) (by decide) (by decide)) (g := (mkF m 204 #[.val (.long ja), .second, .val (.int a2), .val (.long jb), .second, .val (.int b2), .val (.int co), .val (.int ln), .val (.int nn), .val (.int mm), .val (.int cc), .val (.ref r_1), .val (.ref r_2), .val (.int e00), .val (.int e01), .val (.int e02), .val (.int e10), .val (.int e11), .val (.int e12), .val (.int e20), .val (.int e21), .val (.int e22), .val (.int m2), .unset, .unset, .unset, .unset, .unset, .unset] [(.int ((e01 + e12) + e20)), (.int m2)])) rfl (by rw [hml]; rfl) (argsL := [(.int m2), (.int ((e01 + e12) + e20))]) (rest := []) (lenOf pd_0 rfl) rfl (by show 2 * 0 + _ ≤ _; exact Nat.le_of_eq rfl) (hb hby at_204) (fun _ _ => ⟨rfl, kh13, (by decide : 2 + 0 ≤ _), (by decide : 6 + 0 ≤ _)⟩)
  dsimp only [Pt.U, Pt.locs, Pt.cells, Pt.slots] at X14 l14 y14 z14 st14 hQ14
  subst l14 y14 z14
  obtain ⟨rfl, Nq14, kh14⟩ := hQ14
  have N14 := Fr.app N13 Nq14
  obtain ⟨_, _, ⟨T15, L15, k15, n15⟩, -, X15, ⟨Lc15, hQ15, l15, y15, z15⟩, st15⟩ := Jvm.LawKit.callS X14 hx (y := (⟨"java/lang/Math", "max", "(II)I"⟩ : MethodName)) hown (mvT hZ (hw _ (List.mem_of_getElem? (i := 10) rfl))) (mvT hZ (hw _ (List.mem_of_getElem? (i := 11) rfl))) (mvT hZ (hw _ (List.mem_of_getElem? (i := 8) rfl))) (mvT hZ (hw _ (List.mem_of_getElem? (i := 12) rfl))) (by decide) (backOf (W := 0) (maxR l Z a0 hw [] m3 ((e02 + e10) + e21) T2.heap n0 (Nat.le_trans Z0 K2.1) ) hZ (hw _ (List.mem_of_getElem? (i := 12) rfl)) (hw _ (List.mem_of_getElem? (i := 8) rfl)) (by decide) (by decide)) (g := (mkF m 219 #[.val (.long ja), .second, .val (.int a2), .val (.long jb), .second, .val (.int b2), .val (.int co), .val (.int ln), .val (.int nn), .val (.int mm), .val (.int cc), .val (.ref r_1), .val (.ref r_2), .val (.int e00), .val (.int e01), .val (.int e02), .val (.int e10), .val (.int e11), .val (.int e12), .val (.int e20), .val (.int e21), .val (.int e22), .val (.int m3), .unset, .unset, .unset, .unset, .unset, .unset] [(.int ((e02 + e10) + e21)), (.int m3)])) rfl (by rw [hml]; rfl) (argsL := [(.int m3), (.int ((e02 + e10) + e21))]) (rest := []) (lenOf pd_0 rfl) rfl (by show 2 * 0 + _ ≤ _; exact Nat.le_of_eq rfl) (hb hby at_219) (fun _ _ => ⟨rfl, kh14, (by decide : 2 + 0 ≤ _), (by decide : 6 + 0 ≤ _)⟩)
  dsimp only [Pt.U, Pt.locs, Pt.cells, Pt.slots] at X15 l15 y15 z15 st15 hQ15
  subst l15 y15 z15
  obtain ⟨rfl, Nq15, kh15⟩ := hQ15
  have N15 := Fr.app N14 Nq15
  obtain ⟨_, _, ⟨T16, L16, k16, n16⟩, -, X16, ⟨Lc16, hQ16, l16, y16, z16⟩, st16⟩ := Jvm.LawKit.callS X15 hx (y := (⟨"java/lang/Math", "max", "(II)I"⟩ : MethodName)) hown (mvT hZ (hw _ (List.mem_of_getElem? (i := 10) rfl))) (mvT hZ (hw _ (List.mem_of_getElem? (i := 11) rfl))) (mvT hZ (hw _ (List.mem_of_getElem? (i := 8) rfl))) (mvT hZ (hw _ (List.mem_of_getElem? (i := 12) rfl))) (by decide) (backOf (W := 0) (maxR l Z a0 hw [] m4 ((e02 + e11) + e20) T2.heap n0 (Nat.le_trans Z0 K2.1) ) hZ (hw _ (List.mem_of_getElem? (i := 12) rfl)) (hw _ (List.mem_of_getElem? (i := 8) rfl)) (by decide) (by decide)) (g := (mkF m 234 #[.val (.long ja), .second, .val (.int a2), .val (.long jb), .second, .val (.int b2), .val (.int co), .val (.int ln), .val (.int nn), .val (.int mm), .val (.int cc), .val (.ref r_1), .val (.ref r_2), .val (.int e00), .val (.int e01), .val (.int e02), .val (.int e10), .val (.int e11), .val (.int e12), .val (.int e20), .val (.int e21), .val (.int e22), .val (.int m4), .unset, .unset, .unset, .unset, .unset, .unset] [(.int ((e02 + e11) + e20)), (.int m4)])) rfl (by rw [hml]; rfl) (argsL := [(.int m4), (.int ((e02 + e11) + e20))]) (rest := []) (lenOf pd_0 rfl) rfl (by show 2 * 0 + _ ≤ _; exact Nat.le_of_eq rfl) (hb hby at_234) (fun _ _ => ⟨rfl, kh15, (by decide : 2 + 0 ≤ _), (by decide : 6 + 0 ≤ _)⟩)
  dsimp only [Pt.U, Pt.locs, Pt.cells, Pt.slots] at X16 l16 y16 z16 st16 hQ16
  subst l16 y16 z16
  obtain ⟨rfl, Nq16, kh16⟩ := hQ16
  have N16 := Fr.app N15 Nq16
  obtain ⟨_, _, ⟨T17, L17, k17, n17⟩, -, X17, ⟨Lc17, hQ17, l17, y17, z17⟩, st17⟩ := Jvm.LawKit.callS X16 hx (y := (⟨"com/example/recital/recital/document/Words", "likeness", "([I[II)D"⟩ : MethodName)) hown (mvT hZ (hw _ (List.mem_of_getElem? (i := 18) rfl))) (mvT hZ (hw _ (List.mem_of_getElem? (i := 19) rfl))) (mvT hZ (hw _ (List.mem_of_getElem? (i := 20) rfl))) (mvT hZ (hw _ (List.mem_of_getElem? (i := 21) rfl))) (by decide) (backOf (W := 0) (lkR l Z a0 hw [] r_1 r_2 cc nn mm f g T2.heap n0 (Nat.le_trans Z0 K2.1) (Po1_0.keep kh2 nin0) Po2_0 hn3 hm3) hZ (hw _ (List.mem_of_getElem? (i := 21) rfl)) (hw _ (List.mem_of_getElem? (i := 20) rfl)) (by decide) (by decide)) (g := (mkF m 288 #[.val (.long ja), .second, .val (.int a2), .val (.long jb), .second, .val (.int b2), .val (.int co), .val (.int ln), .val (.int nn), .val (.int mm), .val (.int cc), .val (.ref r_1), .val (.ref r_2), .val (.int e00), .val (.int e01), .val (.int e02), .val (.int e10), .val (.int e11), .val (.int e12), .val (.int e20), .val (.int e21), .val (.int e22), .val (.int m5), .val (.int (cc + m5)), .val (.int al), .val (.double (FP.ddiv (FP.dmul (4611686018427387904 : UInt64) (FP.i2d (cc + m5))) (FP.i2d al))), .second, .unset, .unset] [(.int cc), (.ref r_2), (.ref r_1)])) rfl (by rw [hml]; rfl) (argsL := [(.ref r_1), (.ref r_2), (.int cc)]) (rest := []) (lenOf pd_3 rfl) rfl (by show 2 * 0 + _ ≤ _; exact Nat.le_of_eq rfl) (hb hby at_288) (fun _ _ => ⟨rfl, kh16, (by decide : 2 + 0 ≤ _), (by decide : 6 + 0 ≤ _)⟩)
  dsimp only [Pt.U, Pt.locs, Pt.cells, Pt.slots] at X17 l17 y17 z17 st17 hQ17
  subst l17 y17 z17
  obtain ⟨rfl, Nq17, kh17⟩ := hQ17
  have N17 := Fr.app N16 Nq17
  obtain ⟨fs, hr, hrun, hended, hW, hsame⟩ := X17.leave (v := some (.int (1 : Int32))) (fun h => by rw [Bd.returns] at h; cases h)
  refine ⟨_, _, pre0 _ ?_, hrun, hended, _, _, rfl, ?_, ⟨_, rfl⟩, hW, hsame.mono (by decide) (by decide)⟩
  · show Steps p.tables e below (s₁.setTop (mkF m 0 #[.val (.long ja), .second, .val (.int a2), .val (.long jb), .second, .val (.int b2), .val (.int co), .val (.int ln), .unset, .unset, .unset, .unset, .unset, .unset, .unset, .unset, .unset, .unset, .unset, .unset, .unset, .unset, .unset, .unset, .unset, .unset, .unset, .unset, .unset] [])) _
    refine XS.iload X0.here hx rfl (hb hby at_0) rfl ?_
    show Steps p.tables e below (s₁.setTop (mkF m 2 #[.val (.long ja), .second, .val (.int a2), .val (.long jb), .second, .val (.int b2), .val (.int co), .val (.int ln), .unset, .unset, .unset, .unset, .unset, .unset, .unset, .unset, .unset, .unset, .unset, .unset, .unset, .unset, .unset, .unset, .unset, .unset, .unset, .unset, .unset] [(.int ln)])) _
    refine XS.iconst X0.here hx rfl (hb hby at_2) ?_
    show Steps p.tables e below (s₁.setTop (mkF m 3 #[.val (.long ja), .second, .val (.int a2), .val (.long jb), .second, .val (.int b2), .val (.int co), .val (.int ln), .unset, .unset, .unset, .unset, .unset, .unset, .unset, .unset, .unset, .unset, .unset, .unset, .unset, .unset, .unset, .unset, .unset, .unset, .unset, .unset, .unset] [(.int (3 : Int32)), (.int ln)])) _
    refine XS.iand X0.here hx rfl (hb hby at_3) rfl ?_
    show Steps p.tables e below (s₁.setTop (mkF m 4 #[.val (.long ja), .second, .val (.int a2), .val (.long jb), .second, .val (.int b2), .val (.int co), .val (.int ln), .unset, .unset, .unset, .unset, .unset, .unset, .unset, .unset, .unset, .unset, .unset, .unset, .unset, .unset, .unset, .unset, .unset, .unset, .unset, .unset, .unset] [(.int (ln &&& (3 : Int32)))])) _
    refine castTop (congrArg (fun z_ => (mkF m 4 #[.val (.long ja), .second, .val (.int a2), .val (.long jb), .second, .val (.int b2), .val (.int co), .val (.int ln), .unset, .unset, .unset, .unset, .unset, .unset, .unset, .unset, .unset, .unset, .unset, .unset, .unset, .unset, .unset, .unset, .unset, .unset, .unset, .unset, .unset] [(.int z_)])) (hla : (ln &&& (3 : Int32)) = nn)) ?_
    show Steps p.tables e below (s₁.setTop (mkF m 4 #[.val (.long ja), .second, .val (.int a2), .val (.long jb), .second, .val (.int b2), .val (.int co), .val (.int ln), .unset, .unset, .unset, .unset, .unset, .unset, .unset, .unset, .unset, .unset, .unset, .unset, .unset, .unset, .unset, .unset, .unset, .unset, .unset, .unset, .unset] [(.int nn)])) _
    refine XS.istore X0.here hx rfl (hb hby at_4) rfl (l' := #[.val (.long ja), .second, .val (.int a2), .val (.long jb), .second, .val (.int b2), .val (.int co), .val (.int ln), .val (.int nn), .unset, .unset, .unset, .unset, .unset, .unset, .unset, .unset, .unset, .unset, .unset, .unset, .unset, .unset, .unset, .unset, .unset, .unset, .unset, .unset]) rfl ?_
    show Steps p.tables e below (s₁.setTop (mkF m 6 #[.val (.long ja), .second, .val (.int a2), .val (.long jb), .second, .val (.int b2), .val (.int co), .val (.int ln), .val (.int nn), .unset, .unset, .unset, .unset, .unset, .unset, .unset, .unset, .unset, .unset, .unset, .unset, .unset, .unset, .unset, .unset, .unset, .unset, .unset, .unset] [])) _
    refine XS.iload X0.here hx rfl (hb hby at_6) rfl ?_
    show Steps p.tables e below (s₁.setTop (mkF m 8 #[.val (.long ja), .second, .val (.int a2), .val (.long jb), .second, .val (.int b2), .val (.int co), .val (.int ln), .val (.int nn), .unset, .unset, .unset, .unset, .unset, .unset, .unset, .unset, .unset, .unset, .unset, .unset, .unset, .unset, .unset, .unset, .unset, .unset, .unset, .unset] [(.int ln)])) _
    refine XS.iconst X0.here hx rfl (hb hby at_8) ?_
    show Steps p.tables e below (s₁.setTop (mkF m 9 #[.val (.long ja), .second, .val (.int a2), .val (.long jb), .second, .val (.int b2), .val (.int co), .val (.int ln), .val (.int nn), .unset, .unset, .unset, .unset, .unset, .unset, .unset, .unset, .unset, .unset, .unset, .unset, .unset, .unset, .unset, .unset, .unset, .unset, .unset, .unset] [(.int (2 : Int32)), (.int ln)])) _
    refine XS.iushr X0.here hx rfl (hb hby at_9) rfl ?_
    show Steps p.tables e below (s₁.setTop (mkF m 10 #[.val (.long ja), .second, .val (.int a2), .val (.long jb), .second, .val (.int b2), .val (.int co), .val (.int ln), .val (.int nn), .unset, .unset, .unset, .unset, .unset, .unset, .unset, .unset, .unset, .unset, .unset, .unset, .unset, .unset, .unset, .unset, .unset, .unset, .unset, .unset] [(.int ((ln.toUInt32 >>> ((2 : Int32) &&& 31).toUInt32).toInt32))])) _
    refine XS.iconst X0.here hx rfl (hb hby at_10) ?_
    show Steps p.tables e below (s₁.setTop (mkF m 11 #[.val (.long ja), .second, .val (.int a2), .val (.long jb), .second, .val (.int b2), .val (.int co), .val (.int ln), .val (.int nn), .unset, .unset, .unset, .unset, .unset, .unset, .unset, .unset, .unset, .unset, .unset, .unset, .unset, .unset, .unset, .unset, .unset, .unset, .unset, .unset] [(.int (3 : Int32)), (.int ((ln.toUInt32 >>> ((2 : Int32) &&& 31).toUInt32).toInt32))])) _
    refine XS.iand X0.here hx rfl (hb hby at_11) rfl ?_
    show Steps p.tables e below (s₁.setTop (mkF m 12 #[.val (.long ja), .second, .val (.int a2), .val (.long jb), .second, .val (.int b2), .val (.int co), .val (.int ln), .val (.int nn), .unset, .unset, .unset, .unset, .unset, .unset, .unset, .unset, .unset, .unset, .unset, .unset, .unset, .unset, .unset, .unset, .unset, .unset, .unset, .unset] [(.int (((ln.toUInt32 >>> ((2 : Int32) &&& 31).toUInt32).toInt32) &&& (3 : Int32)))])) _
    refine castTop (congrArg (fun z_ => (mkF m 12 #[.val (.long ja), .second, .val (.int a2), .val (.long jb), .second, .val (.int b2), .val (.int co), .val (.int ln), .val (.int nn), .unset, .unset, .unset, .unset, .unset, .unset, .unset, .unset, .unset, .unset, .unset, .unset, .unset, .unset, .unset, .unset, .unset, .unset, .unset, .unset] [(.int z_)])) (hlb : (((ln.toUInt32 >>> ((2 : Int32) &&& 31).toUInt32).toInt32) &&& (3 : Int32)) = mm)) ?_
    show Steps p.tables e below (s₁.setTop (mkF m 12 #[.val (.long ja), .second, .val (.int a2), .val (.long jb), .second, .val (.int b2), .val (.int co), .val (.int ln), .val (.int nn), .unset, .unset, .unset, .unset, .unset, .unset, .unset, .unset, .unset, .unset, .unset, .unset, .unset, .unset, .unset, .unset, .unset, .unset, .unset, .unset] [(.int mm)])) _
    refine XS.istore X0.here hx rfl (hb hby at_12) rfl (l' := #[.val (.long ja), .second, .val (.int a2), .val (.long jb), .second, .val (.int b2), .val (.int co), .val (.int ln), .val (.int nn), .val (.int mm), .unset, .unset, .unset, .unset, .unset, .unset, .unset, .unset, .unset, .unset, .unset, .unset, .unset, .unset, .unset, .unset, .unset, .unset, .unset]) rfl ?_
    show Steps p.tables e below (s₁.setTop (mkF m 14 #[.val (.long ja), .second, .val (.int a2), .val (.long jb), .second, .val (.int b2), .val (.int co), .val (.int ln), .val (.int nn), .val (.int mm), .unset, .unset, .unset, .unset, .unset, .unset, .unset, .unset, .unset, .unset, .unset, .unset, .unset, .unset, .unset, .unset, .unset, .unset, .unset] [])) _
    refine XS.iload X0.here hx rfl (hb hby at_14) rfl ?_
    show Steps p.tables e below (s₁.setTop (mkF m 16 #[.val (.long ja), .second, .val (.int a2), .val (.long jb), .second, .val (.int b2), .val (.int co), .val (.int ln), .val (.int nn), .val (.int mm), .unset, .unset, .unset, .unset, .unset, .unset, .unset, .unset, .unset, .unset, .unset, .unset, .unset, .unset, .unset, .unset, .unset, .unset, .unset] [(.int co)])) _
    refine X0.ldcInt hx hown (mvT hZ (hw _ (List.mem_of_getElem? (i := 0) rfl))) (g := (mkF m 16 #[.val (.long ja), .second, .val (.int a2), .val (.long jb), .second, .val (.int b2), .val (.int co), .val (.int ln), .val (.int nn), .val (.int mm), .unset, .unset, .unset, .unset, .unset, .unset, .unset, .unset, .unset, .unset, .unset, .unset, .unset, .unset, .unset, .unset, .unset, .unset, .unset] [(.int co)])) rfl (hb hby at_16) _ ?_
    show Steps p.tables e below (s₁.setTop (mkF m 18 #[.val (.long ja), .second, .val (.int a2), .val (.long jb), .second, .val (.int b2), .val (.int co), .val (.int ln), .val (.int nn), .val (.int mm), .unset, .unset, .unset, .unset, .unset, .unset, .unset, .unset, .unset, .unset, .unset, .unset, .unset, .unset, .unset, .unset, .unset, .unset, .unset] [(.int (2147483647 : Int32)), (.int co)])) _
    refine XS.iand X0.here hx rfl (hb hby at_18) rfl ?_
    show Steps p.tables e below (s₁.setTop (mkF m 19 #[.val (.long ja), .second, .val (.int a2), .val (.long jb), .second, .val (.int b2), .val (.int co), .val (.int ln), .val (.int nn), .val (.int mm), .unset, .unset, .unset, .unset, .unset, .unset, .unset, .unset, .unset, .unset, .unset, .unset, .unset, .unset, .unset, .unset, .unset, .unset, .unset] [(.int (co &&& (2147483647 : Int32)))])) _
    refine X0.ldcInt hx hown (mvT hZ (hw _ (List.mem_of_getElem? (i := 1) rfl))) (g := (mkF m 19 #[.val (.long ja), .second, .val (.int a2), .val (.long jb), .second, .val (.int b2), .val (.int co), .val (.int ln), .val (.int nn), .val (.int mm), .unset, .unset, .unset, .unset, .unset, .unset, .unset, .unset, .unset, .unset, .unset, .unset, .unset, .unset, .unset, .unset, .unset, .unset, .unset] [(.int (co &&& (2147483647 : Int32)))])) rfl (hb hby at_19) _ ?_
    show Steps p.tables e below (s₁.setTop (mkF m 21 #[.val (.long ja), .second, .val (.int a2), .val (.long jb), .second, .val (.int b2), .val (.int co), .val (.int ln), .val (.int nn), .val (.int mm), .unset, .unset, .unset, .unset, .unset, .unset, .unset, .unset, .unset, .unset, .unset, .unset, .unset, .unset, .unset, .unset, .unset, .unset, .unset] [(.int (1073741820 : Int32)), (.int (co &&& (2147483647 : Int32)))])) _
    refine iremM X0 hx rfl (hb hby at_21) rfl (by decide) ?_
    show Steps p.tables e below (s₁.setTop (mkF m 22 #[.val (.long ja), .second, .val (.int a2), .val (.long jb), .second, .val (.int b2), .val (.int co), .val (.int ln), .val (.int nn), .val (.int mm), .unset, .unset, .unset, .unset, .unset, .unset, .unset, .unset, .unset, .unset, .unset, .unset, .unset, .unset, .unset, .unset, .unset, .unset, .unset] [(.int ((co &&& (2147483647 : Int32)) % (1073741820 : Int32)))])) _
    refine castTop (congrArg (fun z_ => (mkF m 22 #[.val (.long ja), .second, .val (.int a2), .val (.long jb), .second, .val (.int b2), .val (.int co), .val (.int ln), .val (.int nn), .val (.int mm), .unset, .unset, .unset, .unset, .unset, .unset, .unset, .unset, .unset, .unset, .unset, .unset, .unset, .unset, .unset, .unset, .unset, .unset, .unset] [(.int z_)])) (hcc : ((co &&& (2147483647 : Int32)) % (1073741820 : Int32)) = cc)) ?_
    show Steps p.tables e below (s₁.setTop (mkF m 22 #[.val (.long ja), .second, .val (.int a2), .val (.long jb), .second, .val (.int b2), .val (.int co), .val (.int ln), .val (.int nn), .val (.int mm), .unset, .unset, .unset, .unset, .unset, .unset, .unset, .unset, .unset, .unset, .unset, .unset, .unset, .unset, .unset, .unset, .unset, .unset, .unset] [(.int cc)])) _
    refine XS.istore X0.here hx rfl (hb hby at_22) rfl (l' := #[.val (.long ja), .second, .val (.int a2), .val (.long jb), .second, .val (.int b2), .val (.int co), .val (.int ln), .val (.int nn), .val (.int mm), .val (.int cc), .unset, .unset, .unset, .unset, .unset, .unset, .unset, .unset, .unset, .unset, .unset, .unset, .unset, .unset, .unset, .unset, .unset, .unset]) rfl ?_
    show Steps p.tables e below (s₁.setTop (mkF m 24 #[.val (.long ja), .second, .val (.int a2), .val (.long jb), .second, .val (.int b2), .val (.int co), .val (.int ln), .val (.int nn), .val (.int mm), .val (.int cc), .unset, .unset, .unset, .unset, .unset, .unset, .unset, .unset, .unset, .unset, .unset, .unset, .unset, .unset, .unset, .unset, .unset, .unset] [])) _
    refine XS.iload X0.here hx rfl (hb hby at_24) rfl ?_
    show Steps p.tables e below (s₁.setTop (mkF m 26 #[.val (.long ja), .second, .val (.int a2), .val (.long jb), .second, .val (.int b2), .val (.int co), .val (.int ln), .val (.int nn), .val (.int mm), .val (.int cc), .unset, .unset, .unset, .unset, .unset, .unset, .unset, .unset, .unset, .unset, .unset, .unset, .unset, .unset, .unset, .unset, .unset, .unset] [(.int nn)])) _
    refine XS.lloadN X0.here hx rfl (hb hby at_26) rfl ?_
    show Steps p.tables e below (s₁.setTop (mkF m 27 #[.val (.long ja), .second, .val (.int a2), .val (.long jb), .second, .val (.int b2), .val (.int co), .val (.int ln), .val (.int nn), .val (.int mm), .val (.int cc), .unset, .unset, .unset, .unset, .unset, .unset, .unset, .unset, .unset, .unset, .unset, .unset, .unset, .unset, .unset, .unset, .unset, .unset] [(.long ja), (.int nn)])) _
    refine XS.l2i X0.here hx rfl (hb hby at_27) rfl ?_
    show Steps p.tables e below (s₁.setTop (mkF m 28 #[.val (.long ja), .second, .val (.int a2), .val (.long jb), .second, .val (.int b2), .val (.int co), .val (.int ln), .val (.int nn), .val (.int mm), .val (.int cc), .unset, .unset, .unset, .unset, .unset, .unset, .unset, .unset, .unset, .unset, .unset, .unset, .unset, .unset, .unset, .unset, .unset, .unset] [(.int (ja.toInt32)), (.int nn)])) _
    refine XS.lloadN X0.here hx rfl (hb hby at_28) rfl ?_
    show Steps p.tables e below (s₁.setTop (mkF m 29 #[.val (.long ja), .second, .val (.int a2), .val (.long jb), .second, .val (.int b2), .val (.int co), .val (.int ln), .val (.int nn), .val (.int mm), .val (.int cc), .unset, .unset, .unset, .unset, .unset, .unset, .unset, .unset, .unset, .unset, .unset, .unset, .unset, .unset, .unset, .unset, .unset, .unset] [(.long ja), (.int (ja.toInt32)), (.int nn)])) _
    refine XS.bipush X0.here hx rfl (hb hby at_29) ?_
    show Steps p.tables e below (s₁.setTop (mkF m 31 #[.val (.long ja), .second, .val (.int a2), .val (.long jb), .second, .val (.int b2), .val (.int co), .val (.int ln), .val (.int nn), .val (.int mm), .val (.int cc), .unset, .unset, .unset, .unset, .unset, .unset, .unset, .unset, .unset, .unset, .unset, .unset, .unset, .unset, .unset, .unset, .unset, .unset] [(.int (32 : Int32)), (.long ja), (.int (ja.toInt32)), (.int nn)])) _
    refine XS.lushr X0.here hx rfl (hb hby at_31) rfl ?_
    show Steps p.tables e below (s₁.setTop (mkF m 32 #[.val (.long ja), .second, .val (.int a2), .val (.long jb), .second, .val (.int b2), .val (.int co), .val (.int ln), .val (.int nn), .val (.int mm), .val (.int cc), .unset, .unset, .unset, .unset, .unset, .unset, .unset, .unset, .unset, .unset, .unset, .unset, .unset, .unset, .unset, .unset, .unset, .unset] [(.long ((ja.toUInt64 >>> ((32 : Int32) &&& 0x3f).toInt64.toUInt64).toInt64)), (.int (ja.toInt32)), (.int nn)])) _
    refine XS.l2i X0.here hx rfl (hb hby at_32) rfl ?_
    show Steps p.tables e below (s₁.setTop (mkF m 33 #[.val (.long ja), .second, .val (.int a2), .val (.long jb), .second, .val (.int b2), .val (.int co), .val (.int ln), .val (.int nn), .val (.int mm), .val (.int cc), .unset, .unset, .unset, .unset, .unset, .unset, .unset, .unset, .unset, .unset, .unset, .unset, .unset, .unset, .unset, .unset, .unset, .unset] [(.int (((ja.toUInt64 >>> ((32 : Int32) &&& 0x3f).toInt64.toUInt64).toInt64).toInt32)), (.int (ja.toInt32)), (.int nn)])) _
    refine XS.iloadN X0.here hx rfl (hb hby at_33) rfl ?_
    show Steps p.tables e below (s₁.setTop (mkF m 34 #[.val (.long ja), .second, .val (.int a2), .val (.long jb), .second, .val (.int b2), .val (.int co), .val (.int ln), .val (.int nn), .val (.int mm), .val (.int cc), .unset, .unset, .unset, .unset, .unset, .unset, .unset, .unset, .unset, .unset, .unset, .unset, .unset, .unset, .unset, .unset, .unset, .unset] [(.int a2), (.int (((ja.toUInt64 >>> ((32 : Int32) &&& 0x3f).toInt64.toUInt64).toInt64).toInt32)), (.int (ja.toInt32)), (.int nn)])) _
    refine st1 _ ?_
    show Steps p.tables e below (T1.setTop (mkF m 37 #[.val (.long ja), .second, .val (.int a2), .val (.long jb), .second, .val (.int b2), .val (.int co), .val (.int ln), .val (.int nn), .val (.int mm), .val (.int cc), .unset, .unset, .unset, .unset, .unset, .unset, .unset, .unset, .unset, .unset, .unset, .unset, .unset, .unset, .unset, .unset, .unset, .unset] [(.ref r_1)])) _
    refine XS.astore X1.here hx rfl (hb hby at_37) rfl rfl (l' := #[.val (.long ja), .second, .val (.int a2), .val (.long jb), .second, .val (.int b2), .val (.int co), .val (.int ln), .val (.int nn), .val (.int mm), .val (.int cc), .val (.ref r_1), .unset, .unset, .unset, .unset, .unset, .unset, .unset, .unset, .unset, .unset, .unset, .unset, .unset, .unset, .unset, .unset, .unset]) rfl ?_
    show Steps p.tables e below (T1.setTop (mkF m 39 #[.val (.long ja), .second, .val (.int a2), .val (.long jb), .second, .val (.int b2), .val (.int co), .val (.int ln), .val (.int nn), .val (.int mm), .val (.int cc), .val (.ref r_1), .unset, .unset, .unset, .unset, .unset, .unset, .unset, .unset, .unset, .unset, .unset, .unset, .unset, .unset, .unset, .unset, .unset] [])) _
    refine XS.iload X1.here hx rfl (hb hby at_39) rfl ?_
    show Steps p.tables e below (T1.setTop (mkF m 41 #[.val (.long ja), .second, .val (.int a2), .val (.long jb), .second, .val (.int b2), .val (.int co), .val (.int ln), .val (.int nn), .val (.int mm), .val (.int cc), .val (.ref r_1), .unset, .unset, .unset, .unset, .unset, .unset, .unset, .unset, .unset, .unset, .unset, .unset, .unset, .unset, .unset, .unset, .unset] [(.int mm)])) _
    refine XS.lloadN X1.here hx rfl (hb hby at_41) rfl ?_
    show Steps p.tables e below (T1.setTop (mkF m 42 #[.val (.long ja), .second, .val (.int a2), .val (.long jb), .second, .val (.int b2), .val (.int co), .val (.int ln), .val (.int nn), .val (.int mm), .val (.int cc), .val (.ref r_1), .unset, .unset, .unset, .unset, .unset, .unset, .unset, .unset, .unset, .unset, .unset, .unset, .unset, .unset, .unset, .unset, .unset] [(.long jb), (.int mm)])) _
    refine XS.l2i X1.here hx rfl (hb hby at_42) rfl ?_
    show Steps p.tables e below (T1.setTop (mkF m 43 #[.val (.long ja), .second, .val (.int a2), .val (.long jb), .second, .val (.int b2), .val (.int co), .val (.int ln), .val (.int nn), .val (.int mm), .val (.int cc), .val (.ref r_1), .unset, .unset, .unset, .unset, .unset, .unset, .unset, .unset, .unset, .unset, .unset, .unset, .unset, .unset, .unset, .unset, .unset] [(.int (jb.toInt32)), (.int mm)])) _
    refine XS.lloadN X1.here hx rfl (hb hby at_43) rfl ?_
    show Steps p.tables e below (T1.setTop (mkF m 44 #[.val (.long ja), .second, .val (.int a2), .val (.long jb), .second, .val (.int b2), .val (.int co), .val (.int ln), .val (.int nn), .val (.int mm), .val (.int cc), .val (.ref r_1), .unset, .unset, .unset, .unset, .unset, .unset, .unset, .unset, .unset, .unset, .unset, .unset, .unset, .unset, .unset, .unset, .unset] [(.long jb), (.int (jb.toInt32)), (.int mm)])) _
    refine XS.bipush X1.here hx rfl (hb hby at_44) ?_
    show Steps p.tables e below (T1.setTop (mkF m 46 #[.val (.long ja), .second, .val (.int a2), .val (.long jb), .second, .val (.int b2), .val (.int co), .val (.int ln), .val (.int nn), .val (.int mm), .val (.int cc), .val (.ref r_1), .unset, .unset, .unset, .unset, .unset, .unset, .unset, .unset, .unset, .unset, .unset, .unset, .unset, .unset, .unset, .unset, .unset] [(.int (32 : Int32)), (.long jb), (.int (jb.toInt32)), (.int mm)])) _
    refine XS.lushr X1.here hx rfl (hb hby at_46) rfl ?_
    show Steps p.tables e below (T1.setTop (mkF m 47 #[.val (.long ja), .second, .val (.int a2), .val (.long jb), .second, .val (.int b2), .val (.int co), .val (.int ln), .val (.int nn), .val (.int mm), .val (.int cc), .val (.ref r_1), .unset, .unset, .unset, .unset, .unset, .unset, .unset, .unset, .unset, .unset, .unset, .unset, .unset, .unset, .unset, .unset, .unset] [(.long ((jb.toUInt64 >>> ((32 : Int32) &&& 0x3f).toInt64.toUInt64).toInt64)), (.int (jb.toInt32)), (.int mm)])) _
    refine XS.l2i X1.here hx rfl (hb hby at_47) rfl ?_
    show Steps p.tables e below (T1.setTop (mkF m 48 #[.val (.long ja), .second, .val (.int a2), .val (.long jb), .second, .val (.int b2), .val (.int co), .val (.int ln), .val (.int nn), .val (.int mm), .val (.int cc), .val (.ref r_1), .unset, .unset, .unset, .unset, .unset, .unset, .unset, .unset, .unset, .unset, .unset, .unset, .unset, .unset, .unset, .unset, .unset] [(.int (((jb.toUInt64 >>> ((32 : Int32) &&& 0x3f).toInt64.toUInt64).toInt64).toInt32)), (.int (jb.toInt32)), (.int mm)])) _
    refine XS.iload X1.here hx rfl (hb hby at_48) rfl ?_
    show Steps p.tables e below (T1.setTop (mkF m 50 #[.val (.long ja), .second, .val (.int a2), .val (.long jb), .second, .val (.int b2), .val (.int co), .val (.int ln), .val (.int nn), .val (.int mm), .val (.int cc), .val (.ref r_1), .unset, .unset, .unset, .unset, .unset, .unset, .unset, .unset, .unset, .unset, .unset, .unset, .unset, .unset, .unset, .unset, .unset] [(.int b2), (.int (((jb.toUInt64 >>> ((32 : Int32) &&& 0x3f).toInt64.toUInt64).toInt64).toInt32)), (.int (jb.toInt32)), (.int mm)])) _
    refine st2 _ ?_
    show Steps p.tables e below (T2.setTop (mkF m 53 #[.val (.long ja), .second, .val (.int a2), .val (.long jb), .second, .val (.int b2), .val (.int co), .val (.int ln), .val (.int nn), .val (.int mm), .val (.int cc), .val (.ref r_1), .unset, .unset, .unset, .unset, .unset, .unset, .unset, .unset, .unset, .unset, .unset, .unset, .unset, .unset, .unset, .unset, .unset] [(.ref r_2)])) _
    refine XS.astore X2.here hx rfl (hb hby at_53) rfl rfl (l' := #[.val (.long ja), .second, .val (.int a2), .val (.long jb), .second, .val (.int b2), .val (.int co), .val (.int ln), .val (.int nn), .val (.int mm), .val (.int cc), .val (.ref r_1), .val (.ref r_2), .unset, .unset, .unset, .unset, .unset, .unset, .unset, .unset, .unset, .unset, .unset, .unset, .unset, .unset, .unset, .unset]) rfl ?_
    show Steps p.tables e below (T2.setTop (mkF m 55 #[.val (.long ja), .second, .val (.int a2), .val (.long jb), .second, .val (.int b2), .val (.int co), .val (.int ln), .val (.int nn), .val (.int mm), .val (.int cc), .val (.ref r_1), .val (.ref r_2), .unset, .unset, .unset, .unset, .unset, .unset, .unset, .unset, .unset, .unset, .unset, .unset, .unset, .unset, .unset, .unset] [])) _
    refine XS.aload X2.here hx rfl (hb hby at_55) rfl rfl ?_
    show Steps p.tables e below (T2.setTop (mkF m 57 #[.val (.long ja), .second, .val (.int a2), .val (.long jb), .second, .val (.int b2), .val (.int co), .val (.int ln), .val (.int nn), .val (.int mm), .val (.int cc), .val (.ref r_1), .val (.ref r_2), .unset, .unset, .unset, .unset, .unset, .unset, .unset, .unset, .unset, .unset, .unset, .unset, .unset, .unset, .unset, .unset] [(.ref r_1)])) _
    refine XS.iconst X2.here hx rfl (hb hby at_57) ?_
    show Steps p.tables e below (T2.setTop (mkF m 58 #[.val (.long ja), .second, .val (.int a2), .val (.long jb), .second, .val (.int b2), .val (.int co), .val (.int ln), .val (.int nn), .val (.int mm), .val (.int cc), .val (.ref r_1), .val (.ref r_2), .unset, .unset, .unset, .unset, .unset, .unset, .unset, .unset, .unset, .unset, .unset, .unset, .unset, .unset, .unset, .unset] [(.int (0 : Int32)), (.ref r_1)])) _
    refine XS.aload X2.here hx rfl (hb hby at_58) rfl rfl ?_
    show Steps p.tables e below (T2.setTop (mkF m 60 #[.val (.long ja), .second, .val (.int a2), .val (.long jb), .second, .val (.int b2), .val (.int co), .val (.int ln), .val (.int nn), .val (.int mm), .val (.int cc), .val (.ref r_1), .val (.ref r_2), .unset, .unset, .unset, .unset, .unset, .unset, .unset, .unset, .unset, .unset, .unset, .unset, .unset, .unset, .unset, .unset] [(.ref r_2), (.int (0 : Int32)), (.ref r_1)])) _
    refine XS.iconst X2.here hx rfl (hb hby at_60) ?_
    show Steps p.tables e below (T2.setTop (mkF m 61 #[.val (.long ja), .second, .val (.int a2), .val (.long jb), .second, .val (.int b2), .val (.int co), .val (.int ln), .val (.int nn), .val (.int mm), .val (.int cc), .val (.ref r_1), .val (.ref r_2), .unset, .unset, .unset, .unset, .unset, .unset, .unset, .unset, .unset, .unset, .unset, .unset, .unset, .unset, .unset, .unset] [(.int (0 : Int32)), (.ref r_2), (.int (0 : Int32)), (.ref r_1)])) _
    refine st3 _ ?_
    show Steps p.tables e below (T3.setTop (mkF m 64 #[.val (.long ja), .second, .val (.int a2), .val (.long jb), .second, .val (.int b2), .val (.int co), .val (.int ln), .val (.int nn), .val (.int mm), .val (.int cc), .val (.ref r_1), .val (.ref r_2), .unset, .unset, .unset, .unset, .unset, .unset, .unset, .unset, .unset, .unset, .unset, .unset, .unset, .unset, .unset, .unset] [(.int (eqF nn mm f g (0 : Int32) (0 : Int32)))])) _
    refine castTop (congrArg (fun z_ => (mkF m 64 #[.val (.long ja), .second, .val (.int a2), .val (.long jb), .second, .val (.int b2), .val (.int co), .val (.int ln), .val (.int nn), .val (.int mm), .val (.int cc), .val (.ref r_1), .val (.ref r_2), .unset, .unset, .unset, .unset, .unset, .unset, .unset, .unset, .unset, .unset, .unset, .unset, .unset, .unset, .unset, .unset] [(.int z_)])) (h00 : (eqF nn mm f g (0 : Int32) (0 : Int32)) = e00)) ?_
    show Steps p.tables e below (T3.setTop (mkF m 64 #[.val (.long ja), .second, .val (.int a2), .val (.long jb), .second, .val (.int b2), .val (.int co), .val (.int ln), .val (.int nn), .val (.int mm), .val (.int cc), .val (.ref r_1), .val (.ref r_2), .unset, .unset, .unset, .unset, .unset, .unset, .unset, .unset, .unset, .unset, .unset, .unset, .unset, .unset, .unset, .unset] [(.int e00)])) _
    refine XS.istore X3.here hx rfl (hb hby at_64) rfl (l' := #[.val (.long ja), .second, .val (.int a2), .val (.long jb), .second, .val (.int b2), .val (.int co), .val (.int ln), .val (.int nn), .val (.int mm), .val (.int cc), .val (.ref r_1), .val (.ref r_2), .val (.int e00), .unset, .unset, .unset, .unset, .unset, .unset, .unset, .unset, .unset, .unset, .unset, .unset, .unset, .unset, .unset]) rfl ?_
    show Steps p.tables e below (T3.setTop (mkF m 66 #[.val (.long ja), .second, .val (.int a2), .val (.long jb), .second, .val (.int b2), .val (.int co), .val (.int ln), .val (.int nn), .val (.int mm), .val (.int cc), .val (.ref r_1), .val (.ref r_2), .val (.int e00), .unset, .unset, .unset, .unset, .unset, .unset, .unset, .unset, .unset, .unset, .unset, .unset, .unset, .unset, .unset] [])) _
    refine XS.aload X3.here hx rfl (hb hby at_66) rfl rfl ?_
    show Steps p.tables e below (T3.setTop (mkF m 68 #[.val (.long ja), .second, .val (.int a2), .val (.long jb), .second, .val (.int b2), .val (.int co), .val (.int ln), .val (.int nn), .val (.int mm), .val (.int cc), .val (.ref r_1), .val (.ref r_2), .val (.int e00), .unset, .unset, .unset, .unset, .unset, .unset, .unset, .unset, .unset, .unset, .unset, .unset, .unset, .unset, .unset] [(.ref r_1)])) _
    refine XS.iconst X3.here hx rfl (hb hby at_68) ?_
    show Steps p.tables e below (T3.setTop (mkF m 69 #[.val (.long ja), .second, .val (.int a2), .val (.long jb), .second, .val (.int b2), .val (.int co), .val (.int ln), .val (.int nn), .val (.int mm), .val (.int cc), .val (.ref r_1), .val (.ref r_2), .val (.int e00), .unset, .unset, .unset, .unset, .unset, .unset, .unset, .unset, .unset, .unset, .unset, .unset, .unset, .unset, .unset] [(.int (0 : Int32)), (.ref r_1)])) _
    refine XS.aload X3.here hx rfl (hb hby at_69) rfl rfl ?_
    show Steps p.tables e below (T3.setTop (mkF m 71 #[.val (.long ja), .second, .val (.int a2), .val (.long jb), .second, .val (.int b2), .val (.int co), .val (.int ln), .val (.int nn), .val (.int mm), .val (.int cc), .val (.ref r_1), .val (.ref r_2), .val (.int e00), .unset, .unset, .unset, .unset, .unset, .unset, .unset, .unset, .unset, .unset, .unset, .unset, .unset, .unset, .unset] [(.ref r_2), (.int (0 : Int32)), (.ref r_1)])) _
    refine XS.iconst X3.here hx rfl (hb hby at_71) ?_
    show Steps p.tables e below (T3.setTop (mkF m 72 #[.val (.long ja), .second, .val (.int a2), .val (.long jb), .second, .val (.int b2), .val (.int co), .val (.int ln), .val (.int nn), .val (.int mm), .val (.int cc), .val (.ref r_1), .val (.ref r_2), .val (.int e00), .unset, .unset, .unset, .unset, .unset, .unset, .unset, .unset, .unset, .unset, .unset, .unset, .unset, .unset, .unset] [(.int (1 : Int32)), (.ref r_2), (.int (0 : Int32)), (.ref r_1)])) _
    refine st4 _ ?_
    show Steps p.tables e below (T4.setTop (mkF m 75 #[.val (.long ja), .second, .val (.int a2), .val (.long jb), .second, .val (.int b2), .val (.int co), .val (.int ln), .val (.int nn), .val (.int mm), .val (.int cc), .val (.ref r_1), .val (.ref r_2), .val (.int e00), .unset, .unset, .unset, .unset, .unset, .unset, .unset, .unset, .unset, .unset, .unset, .unset, .unset, .unset, .unset] [(.int (eqF nn mm f g (0 : Int32) (1 : Int32)))])) _
    refine castTop (congrArg (fun z_ => (mkF m 75 #[.val (.long ja), .second, .val (.int a2), .val (.long jb), .second, .val (.int b2), .val (.int co), .val (.int ln), .val (.int nn), .val (.int mm), .val (.int cc), .val (.ref r_1), .val (.ref r_2), .val (.int e00), .unset, .unset, .unset, .unset, .unset, .unset, .unset, .unset, .unset, .unset, .unset, .unset, .unset, .unset, .unset] [(.int z_)])) (h01 : (eqF nn mm f g (0 : Int32) (1 : Int32)) = e01)) ?_
    show Steps p.tables e below (T4.setTop (mkF m 75 #[.val (.long ja), .second, .val (.int a2), .val (.long jb), .second, .val (.int b2), .val (.int co), .val (.int ln), .val (.int nn), .val (.int mm), .val (.int cc), .val (.ref r_1), .val (.ref r_2), .val (.int e00), .unset, .unset, .unset, .unset, .unset, .unset, .unset, .unset, .unset, .unset, .unset, .unset, .unset, .unset, .unset] [(.int e01)])) _
    refine XS.istore X4.here hx rfl (hb hby at_75) rfl (l' := #[.val (.long ja), .second, .val (.int a2), .val (.long jb), .second, .val (.int b2), .val (.int co), .val (.int ln), .val (.int nn), .val (.int mm), .val (.int cc), .val (.ref r_1), .val (.ref r_2), .val (.int e00), .val (.int e01), .unset, .unset, .unset, .unset, .unset, .unset, .unset, .unset, .unset, .unset, .unset, .unset, .unset, .unset]) rfl ?_
    show Steps p.tables e below (T4.setTop (mkF m 77 #[.val (.long ja), .second, .val (.int a2), .val (.long jb), .second, .val (.int b2), .val (.int co), .val (.int ln), .val (.int nn), .val (.int mm), .val (.int cc), .val (.ref r_1), .val (.ref r_2), .val (.int e00), .val (.int e01), .unset, .unset, .unset, .unset, .unset, .unset, .unset, .unset, .unset, .unset, .unset, .unset, .unset, .unset] [])) _
    refine XS.aload X4.here hx rfl (hb hby at_77) rfl rfl ?_
    show Steps p.tables e below (T4.setTop (mkF m 79 #[.val (.long ja), .second, .val (.int a2), .val (.long jb), .second, .val (.int b2), .val (.int co), .val (.int ln), .val (.int nn), .val (.int mm), .val (.int cc), .val (.ref r_1), .val (.ref r_2), .val (.int e00), .val (.int e01), .unset, .unset, .unset, .unset, .unset, .unset, .unset, .unset, .unset, .unset, .unset, .unset, .unset, .unset] [(.ref r_1)])) _
    refine XS.iconst X4.here hx rfl (hb hby at_79) ?_
    show Steps p.tables e below (T4.setTop (mkF m 80 #[.val (.long ja), .second, .val (.int a2), .val (.long jb), .second, .val (.int b2), .val (.int co), .val (.int ln), .val (.int nn), .val (.int mm), .val (.int cc), .val (.ref r_1), .val (.ref r_2), .val (.int e00), .val (.int e01), .unset, .unset, .unset, .unset, .unset, .unset, .unset, .unset, .unset, .unset, .unset, .unset, .unset, .unset] [(.int (0 : Int32)), (.ref r_1)])) _
    refine XS.aload X4.here hx rfl (hb hby at_80) rfl rfl ?_
    show Steps p.tables e below (T4.setTop (mkF m 82 #[.val (.long ja), .second, .val (.int a2), .val (.long jb), .second, .val (.int b2), .val (.int co), .val (.int ln), .val (.int nn), .val (.int mm), .val (.int cc), .val (.ref r_1), .val (.ref r_2), .val (.int e00), .val (.int e01), .unset, .unset, .unset, .unset, .unset, .unset, .unset, .unset, .unset, .unset, .unset, .unset, .unset, .unset] [(.ref r_2), (.int (0 : Int32)), (.ref r_1)])) _
    refine XS.iconst X4.here hx rfl (hb hby at_82) ?_
    show Steps p.tables e below (T4.setTop (mkF m 83 #[.val (.long ja), .second, .val (.int a2), .val (.long jb), .second, .val (.int b2), .val (.int co), .val (.int ln), .val (.int nn), .val (.int mm), .val (.int cc), .val (.ref r_1), .val (.ref r_2), .val (.int e00), .val (.int e01), .unset, .unset, .unset, .unset, .unset, .unset, .unset, .unset, .unset, .unset, .unset, .unset, .unset, .unset] [(.int (2 : Int32)), (.ref r_2), (.int (0 : Int32)), (.ref r_1)])) _
    refine st5 _ ?_
    show Steps p.tables e below (T5.setTop (mkF m 86 #[.val (.long ja), .second, .val (.int a2), .val (.long jb), .second, .val (.int b2), .val (.int co), .val (.int ln), .val (.int nn), .val (.int mm), .val (.int cc), .val (.ref r_1), .val (.ref r_2), .val (.int e00), .val (.int e01), .unset, .unset, .unset, .unset, .unset, .unset, .unset, .unset, .unset, .unset, .unset, .unset, .unset, .unset] [(.int (eqF nn mm f g (0 : Int32) (2 : Int32)))])) _
    refine castTop (congrArg (fun z_ => (mkF m 86 #[.val (.long ja), .second, .val (.int a2), .val (.long jb), .second, .val (.int b2), .val (.int co), .val (.int ln), .val (.int nn), .val (.int mm), .val (.int cc), .val (.ref r_1), .val (.ref r_2), .val (.int e00), .val (.int e01), .unset, .unset, .unset, .unset, .unset, .unset, .unset, .unset, .unset, .unset, .unset, .unset, .unset, .unset] [(.int z_)])) (h02 : (eqF nn mm f g (0 : Int32) (2 : Int32)) = e02)) ?_
    show Steps p.tables e below (T5.setTop (mkF m 86 #[.val (.long ja), .second, .val (.int a2), .val (.long jb), .second, .val (.int b2), .val (.int co), .val (.int ln), .val (.int nn), .val (.int mm), .val (.int cc), .val (.ref r_1), .val (.ref r_2), .val (.int e00), .val (.int e01), .unset, .unset, .unset, .unset, .unset, .unset, .unset, .unset, .unset, .unset, .unset, .unset, .unset, .unset] [(.int e02)])) _
    refine XS.istore X5.here hx rfl (hb hby at_86) rfl (l' := #[.val (.long ja), .second, .val (.int a2), .val (.long jb), .second, .val (.int b2), .val (.int co), .val (.int ln), .val (.int nn), .val (.int mm), .val (.int cc), .val (.ref r_1), .val (.ref r_2), .val (.int e00), .val (.int e01), .val (.int e02), .unset, .unset, .unset, .unset, .unset, .unset, .unset, .unset, .unset, .unset, .unset, .unset, .unset]) rfl ?_
    show Steps p.tables e below (T5.setTop (mkF m 88 #[.val (.long ja), .second, .val (.int a2), .val (.long jb), .second, .val (.int b2), .val (.int co), .val (.int ln), .val (.int nn), .val (.int mm), .val (.int cc), .val (.ref r_1), .val (.ref r_2), .val (.int e00), .val (.int e01), .val (.int e02), .unset, .unset, .unset, .unset, .unset, .unset, .unset, .unset, .unset, .unset, .unset, .unset, .unset] [])) _
    refine XS.aload X5.here hx rfl (hb hby at_88) rfl rfl ?_
    show Steps p.tables e below (T5.setTop (mkF m 90 #[.val (.long ja), .second, .val (.int a2), .val (.long jb), .second, .val (.int b2), .val (.int co), .val (.int ln), .val (.int nn), .val (.int mm), .val (.int cc), .val (.ref r_1), .val (.ref r_2), .val (.int e00), .val (.int e01), .val (.int e02), .unset, .unset, .unset, .unset, .unset, .unset, .unset, .unset, .unset, .unset, .unset, .unset, .unset] [(.ref r_1)])) _
    refine XS.iconst X5.here hx rfl (hb hby at_90) ?_
    show Steps p.tables e below (T5.setTop (mkF m 91 #[.val (.long ja), .second, .val (.int a2), .val (.long jb), .second, .val (.int b2), .val (.int co), .val (.int ln), .val (.int nn), .val (.int mm), .val (.int cc), .val (.ref r_1), .val (.ref r_2), .val (.int e00), .val (.int e01), .val (.int e02), .unset, .unset, .unset, .unset, .unset, .unset, .unset, .unset, .unset, .unset, .unset, .unset, .unset] [(.int (1 : Int32)), (.ref r_1)])) _
    refine XS.aload X5.here hx rfl (hb hby at_91) rfl rfl ?_
    show Steps p.tables e below (T5.setTop (mkF m 93 #[.val (.long ja), .second, .val (.int a2), .val (.long jb), .second, .val (.int b2), .val (.int co), .val (.int ln), .val (.int nn), .val (.int mm), .val (.int cc), .val (.ref r_1), .val (.ref r_2), .val (.int e00), .val (.int e01), .val (.int e02), .unset, .unset, .unset, .unset, .unset, .unset, .unset, .unset, .unset, .unset, .unset, .unset, .unset] [(.ref r_2), (.int (1 : Int32)), (.ref r_1)])) _
    refine XS.iconst X5.here hx rfl (hb hby at_93) ?_
    show Steps p.tables e below (T5.setTop (mkF m 94 #[.val (.long ja), .second, .val (.int a2), .val (.long jb), .second, .val (.int b2), .val (.int co), .val (.int ln), .val (.int nn), .val (.int mm), .val (.int cc), .val (.ref r_1), .val (.ref r_2), .val (.int e00), .val (.int e01), .val (.int e02), .unset, .unset, .unset, .unset, .unset, .unset, .unset, .unset, .unset, .unset, .unset, .unset, .unset] [(.int (0 : Int32)), (.ref r_2), (.int (1 : Int32)), (.ref r_1)])) _
    refine st6 _ ?_
    show Steps p.tables e below (T6.setTop (mkF m 97 #[.val (.long ja), .second, .val (.int a2), .val (.long jb), .second, .val (.int b2), .val (.int co), .val (.int ln), .val (.int nn), .val (.int mm), .val (.int cc), .val (.ref r_1), .val (.ref r_2), .val (.int e00), .val (.int e01), .val (.int e02), .unset, .unset, .unset, .unset, .unset, .unset, .unset, .unset, .unset, .unset, .unset, .unset, .unset] [(.int (eqF nn mm f g (1 : Int32) (0 : Int32)))])) _
    refine castTop (congrArg (fun z_ => (mkF m 97 #[.val (.long ja), .second, .val (.int a2), .val (.long jb), .second, .val (.int b2), .val (.int co), .val (.int ln), .val (.int nn), .val (.int mm), .val (.int cc), .val (.ref r_1), .val (.ref r_2), .val (.int e00), .val (.int e01), .val (.int e02), .unset, .unset, .unset, .unset, .unset, .unset, .unset, .unset, .unset, .unset, .unset, .unset, .unset] [(.int z_)])) (h10 : (eqF nn mm f g (1 : Int32) (0 : Int32)) = e10)) ?_
    show Steps p.tables e below (T6.setTop (mkF m 97 #[.val (.long ja), .second, .val (.int a2), .val (.long jb), .second, .val (.int b2), .val (.int co), .val (.int ln), .val (.int nn), .val (.int mm), .val (.int cc), .val (.ref r_1), .val (.ref r_2), .val (.int e00), .val (.int e01), .val (.int e02), .unset, .unset, .unset, .unset, .unset, .unset, .unset, .unset, .unset, .unset, .unset, .unset, .unset] [(.int e10)])) _
    refine XS.istore X6.here hx rfl (hb hby at_97) rfl (l' := #[.val (.long ja), .second, .val (.int a2), .val (.long jb), .second, .val (.int b2), .val (.int co), .val (.int ln), .val (.int nn), .val (.int mm), .val (.int cc), .val (.ref r_1), .val (.ref r_2), .val (.int e00), .val (.int e01), .val (.int e02), .val (.int e10), .unset, .unset, .unset, .unset, .unset, .unset, .unset, .unset, .unset, .unset, .unset, .unset]) rfl ?_
    show Steps p.tables e below (T6.setTop (mkF m 99 #[.val (.long ja), .second, .val (.int a2), .val (.long jb), .second, .val (.int b2), .val (.int co), .val (.int ln), .val (.int nn), .val (.int mm), .val (.int cc), .val (.ref r_1), .val (.ref r_2), .val (.int e00), .val (.int e01), .val (.int e02), .val (.int e10), .unset, .unset, .unset, .unset, .unset, .unset, .unset, .unset, .unset, .unset, .unset, .unset] [])) _
    refine XS.aload X6.here hx rfl (hb hby at_99) rfl rfl ?_
    show Steps p.tables e below (T6.setTop (mkF m 101 #[.val (.long ja), .second, .val (.int a2), .val (.long jb), .second, .val (.int b2), .val (.int co), .val (.int ln), .val (.int nn), .val (.int mm), .val (.int cc), .val (.ref r_1), .val (.ref r_2), .val (.int e00), .val (.int e01), .val (.int e02), .val (.int e10), .unset, .unset, .unset, .unset, .unset, .unset, .unset, .unset, .unset, .unset, .unset, .unset] [(.ref r_1)])) _
    refine XS.iconst X6.here hx rfl (hb hby at_101) ?_
    show Steps p.tables e below (T6.setTop (mkF m 102 #[.val (.long ja), .second, .val (.int a2), .val (.long jb), .second, .val (.int b2), .val (.int co), .val (.int ln), .val (.int nn), .val (.int mm), .val (.int cc), .val (.ref r_1), .val (.ref r_2), .val (.int e00), .val (.int e01), .val (.int e02), .val (.int e10), .unset, .unset, .unset, .unset, .unset, .unset, .unset, .unset, .unset, .unset, .unset, .unset] [(.int (1 : Int32)), (.ref r_1)])) _
    refine XS.aload X6.here hx rfl (hb hby at_102) rfl rfl ?_
    show Steps p.tables e below (T6.setTop (mkF m 104 #[.val (.long ja), .second, .val (.int a2), .val (.long jb), .second, .val (.int b2), .val (.int co), .val (.int ln), .val (.int nn), .val (.int mm), .val (.int cc), .val (.ref r_1), .val (.ref r_2), .val (.int e00), .val (.int e01), .val (.int e02), .val (.int e10), .unset, .unset, .unset, .unset, .unset, .unset, .unset, .unset, .unset, .unset, .unset, .unset] [(.ref r_2), (.int (1 : Int32)), (.ref r_1)])) _
    refine XS.iconst X6.here hx rfl (hb hby at_104) ?_
    show Steps p.tables e below (T6.setTop (mkF m 105 #[.val (.long ja), .second, .val (.int a2), .val (.long jb), .second, .val (.int b2), .val (.int co), .val (.int ln), .val (.int nn), .val (.int mm), .val (.int cc), .val (.ref r_1), .val (.ref r_2), .val (.int e00), .val (.int e01), .val (.int e02), .val (.int e10), .unset, .unset, .unset, .unset, .unset, .unset, .unset, .unset, .unset, .unset, .unset, .unset] [(.int (1 : Int32)), (.ref r_2), (.int (1 : Int32)), (.ref r_1)])) _
    refine st7 _ ?_
    show Steps p.tables e below (T7.setTop (mkF m 108 #[.val (.long ja), .second, .val (.int a2), .val (.long jb), .second, .val (.int b2), .val (.int co), .val (.int ln), .val (.int nn), .val (.int mm), .val (.int cc), .val (.ref r_1), .val (.ref r_2), .val (.int e00), .val (.int e01), .val (.int e02), .val (.int e10), .unset, .unset, .unset, .unset, .unset, .unset, .unset, .unset, .unset, .unset, .unset, .unset] [(.int (eqF nn mm f g (1 : Int32) (1 : Int32)))])) _
    refine castTop (congrArg (fun z_ => (mkF m 108 #[.val (.long ja), .second, .val (.int a2), .val (.long jb), .second, .val (.int b2), .val (.int co), .val (.int ln), .val (.int nn), .val (.int mm), .val (.int cc), .val (.ref r_1), .val (.ref r_2), .val (.int e00), .val (.int e01), .val (.int e02), .val (.int e10), .unset, .unset, .unset, .unset, .unset, .unset, .unset, .unset, .unset, .unset, .unset, .unset] [(.int z_)])) (h11 : (eqF nn mm f g (1 : Int32) (1 : Int32)) = e11)) ?_
    show Steps p.tables e below (T7.setTop (mkF m 108 #[.val (.long ja), .second, .val (.int a2), .val (.long jb), .second, .val (.int b2), .val (.int co), .val (.int ln), .val (.int nn), .val (.int mm), .val (.int cc), .val (.ref r_1), .val (.ref r_2), .val (.int e00), .val (.int e01), .val (.int e02), .val (.int e10), .unset, .unset, .unset, .unset, .unset, .unset, .unset, .unset, .unset, .unset, .unset, .unset] [(.int e11)])) _
    refine XS.istore X7.here hx rfl (hb hby at_108) rfl (l' := #[.val (.long ja), .second, .val (.int a2), .val (.long jb), .second, .val (.int b2), .val (.int co), .val (.int ln), .val (.int nn), .val (.int mm), .val (.int cc), .val (.ref r_1), .val (.ref r_2), .val (.int e00), .val (.int e01), .val (.int e02), .val (.int e10), .val (.int e11), .unset, .unset, .unset, .unset, .unset, .unset, .unset, .unset, .unset, .unset, .unset]) rfl ?_
    show Steps p.tables e below (T7.setTop (mkF m 110 #[.val (.long ja), .second, .val (.int a2), .val (.long jb), .second, .val (.int b2), .val (.int co), .val (.int ln), .val (.int nn), .val (.int mm), .val (.int cc), .val (.ref r_1), .val (.ref r_2), .val (.int e00), .val (.int e01), .val (.int e02), .val (.int e10), .val (.int e11), .unset, .unset, .unset, .unset, .unset, .unset, .unset, .unset, .unset, .unset, .unset] [])) _
    refine XS.aload X7.here hx rfl (hb hby at_110) rfl rfl ?_
    show Steps p.tables e below (T7.setTop (mkF m 112 #[.val (.long ja), .second, .val (.int a2), .val (.long jb), .second, .val (.int b2), .val (.int co), .val (.int ln), .val (.int nn), .val (.int mm), .val (.int cc), .val (.ref r_1), .val (.ref r_2), .val (.int e00), .val (.int e01), .val (.int e02), .val (.int e10), .val (.int e11), .unset, .unset, .unset, .unset, .unset, .unset, .unset, .unset, .unset, .unset, .unset] [(.ref r_1)])) _
    refine XS.iconst X7.here hx rfl (hb hby at_112) ?_
    show Steps p.tables e below (T7.setTop (mkF m 113 #[.val (.long ja), .second, .val (.int a2), .val (.long jb), .second, .val (.int b2), .val (.int co), .val (.int ln), .val (.int nn), .val (.int mm), .val (.int cc), .val (.ref r_1), .val (.ref r_2), .val (.int e00), .val (.int e01), .val (.int e02), .val (.int e10), .val (.int e11), .unset, .unset, .unset, .unset, .unset, .unset, .unset, .unset, .unset, .unset, .unset] [(.int (1 : Int32)), (.ref r_1)])) _
    refine XS.aload X7.here hx rfl (hb hby at_113) rfl rfl ?_
    show Steps p.tables e below (T7.setTop (mkF m 115 #[.val (.long ja), .second, .val (.int a2), .val (.long jb), .second, .val (.int b2), .val (.int co), .val (.int ln), .val (.int nn), .val (.int mm), .val (.int cc), .val (.ref r_1), .val (.ref r_2), .val (.int e00), .val (.int e01), .val (.int e02), .val (.int e10), .val (.int e11), .unset, .unset, .unset, .unset, .unset, .unset, .unset, .unset, .unset, .unset, .unset] [(.ref r_2), (.int (1 : Int32)), (.ref r_1)])) _
    refine XS.iconst X7.here hx rfl (hb hby at_115) ?_
    show Steps p.tables e below (T7.setTop (mkF m 116 #[.val (.long ja), .second, .val (.int a2), .val (.long jb), .second, .val (.int b2), .val (.int co), .val (.int ln), .val (.int nn), .val (.int mm), .val (.int cc), .val (.ref r_1), .val (.ref r_2), .val (.int e00), .val (.int e01), .val (.int e02), .val (.int e10), .val (.int e11), .unset, .unset, .unset, .unset, .unset, .unset, .unset, .unset, .unset, .unset, .unset] [(.int (2 : Int32)), (.ref r_2), (.int (1 : Int32)), (.ref r_1)])) _
    refine st8 _ ?_
    show Steps p.tables e below (T8.setTop (mkF m 119 #[.val (.long ja), .second, .val (.int a2), .val (.long jb), .second, .val (.int b2), .val (.int co), .val (.int ln), .val (.int nn), .val (.int mm), .val (.int cc), .val (.ref r_1), .val (.ref r_2), .val (.int e00), .val (.int e01), .val (.int e02), .val (.int e10), .val (.int e11), .unset, .unset, .unset, .unset, .unset, .unset, .unset, .unset, .unset, .unset, .unset] [(.int (eqF nn mm f g (1 : Int32) (2 : Int32)))])) _
    refine castTop (congrArg (fun z_ => (mkF m 119 #[.val (.long ja), .second, .val (.int a2), .val (.long jb), .second, .val (.int b2), .val (.int co), .val (.int ln), .val (.int nn), .val (.int mm), .val (.int cc), .val (.ref r_1), .val (.ref r_2), .val (.int e00), .val (.int e01), .val (.int e02), .val (.int e10), .val (.int e11), .unset, .unset, .unset, .unset, .unset, .unset, .unset, .unset, .unset, .unset, .unset] [(.int z_)])) (h12 : (eqF nn mm f g (1 : Int32) (2 : Int32)) = e12)) ?_
    show Steps p.tables e below (T8.setTop (mkF m 119 #[.val (.long ja), .second, .val (.int a2), .val (.long jb), .second, .val (.int b2), .val (.int co), .val (.int ln), .val (.int nn), .val (.int mm), .val (.int cc), .val (.ref r_1), .val (.ref r_2), .val (.int e00), .val (.int e01), .val (.int e02), .val (.int e10), .val (.int e11), .unset, .unset, .unset, .unset, .unset, .unset, .unset, .unset, .unset, .unset, .unset] [(.int e12)])) _
    refine XS.istore X8.here hx rfl (hb hby at_119) rfl (l' := #[.val (.long ja), .second, .val (.int a2), .val (.long jb), .second, .val (.int b2), .val (.int co), .val (.int ln), .val (.int nn), .val (.int mm), .val (.int cc), .val (.ref r_1), .val (.ref r_2), .val (.int e00), .val (.int e01), .val (.int e02), .val (.int e10), .val (.int e11), .val (.int e12), .unset, .unset, .unset, .unset, .unset, .unset, .unset, .unset, .unset, .unset]) rfl ?_
    show Steps p.tables e below (T8.setTop (mkF m 121 #[.val (.long ja), .second, .val (.int a2), .val (.long jb), .second, .val (.int b2), .val (.int co), .val (.int ln), .val (.int nn), .val (.int mm), .val (.int cc), .val (.ref r_1), .val (.ref r_2), .val (.int e00), .val (.int e01), .val (.int e02), .val (.int e10), .val (.int e11), .val (.int e12), .unset, .unset, .unset, .unset, .unset, .unset, .unset, .unset, .unset, .unset] [])) _
    refine XS.aload X8.here hx rfl (hb hby at_121) rfl rfl ?_
    show Steps p.tables e below (T8.setTop (mkF m 123 #[.val (.long ja), .second, .val (.int a2), .val (.long jb), .second, .val (.int b2), .val (.int co), .val (.int ln), .val (.int nn), .val (.int mm), .val (.int cc), .val (.ref r_1), .val (.ref r_2), .val (.int e00), .val (.int e01), .val (.int e02), .val (.int e10), .val (.int e11), .val (.int e12), .unset, .unset, .unset, .unset, .unset, .unset, .unset, .unset, .unset, .unset] [(.ref r_1)])) _
    refine XS.iconst X8.here hx rfl (hb hby at_123) ?_
    show Steps p.tables e below (T8.setTop (mkF m 124 #[.val (.long ja), .second, .val (.int a2), .val (.long jb), .second, .val (.int b2), .val (.int co), .val (.int ln), .val (.int nn), .val (.int mm), .val (.int cc), .val (.ref r_1), .val (.ref r_2), .val (.int e00), .val (.int e01), .val (.int e02), .val (.int e10), .val (.int e11), .val (.int e12), .unset, .unset, .unset, .unset, .unset, .unset, .unset, .unset, .unset, .unset] [(.int (2 : Int32)), (.ref r_1)])) _
    refine XS.aload X8.here hx rfl (hb hby at_124) rfl rfl ?_
    show Steps p.tables e below (T8.setTop (mkF m 126 #[.val (.long ja), .second, .val (.int a2), .val (.long jb), .second, .val (.int b2), .val (.int co), .val (.int ln), .val (.int nn), .val (.int mm), .val (.int cc), .val (.ref r_1), .val (.ref r_2), .val (.int e00), .val (.int e01), .val (.int e02), .val (.int e10), .val (.int e11), .val (.int e12), .unset, .unset, .unset, .unset, .unset, .unset, .unset, .unset, .unset, .unset] [(.ref r_2), (.int (2 : Int32)), (.ref r_1)])) _
    refine XS.iconst X8.here hx rfl (hb hby at_126) ?_
    show Steps p.tables e below (T8.setTop (mkF m 127 #[.val (.long ja), .second, .val (.int a2), .val (.long jb), .second, .val (.int b2), .val (.int co), .val (.int ln), .val (.int nn), .val (.int mm), .val (.int cc), .val (.ref r_1), .val (.ref r_2), .val (.int e00), .val (.int e01), .val (.int e02), .val (.int e10), .val (.int e11), .val (.int e12), .unset, .unset, .unset, .unset, .unset, .unset, .unset, .unset, .unset, .unset] [(.int (0 : Int32)), (.ref r_2), (.int (2 : Int32)), (.ref r_1)])) _
    refine st9 _ ?_
    show Steps p.tables e below (T9.setTop (mkF m 130 #[.val (.long ja), .second, .val (.int a2), .val (.long jb), .second, .val (.int b2), .val (.int co), .val (.int ln), .val (.int nn), .val (.int mm), .val (.int cc), .val (.ref r_1), .val (.ref r_2), .val (.int e00), .val (.int e01), .val (.int e02), .val (.int e10), .val (.int e11), .val (.int e12), .unset, .unset, .unset, .unset, .unset, .unset, .unset, .unset, .unset, .unset] [(.int (eqF nn mm f g (2 : Int32) (0 : Int32)))])) _
    refine castTop (congrArg (fun z_ => (mkF m 130 #[.val (.long ja), .second, .val (.int a2), .val (.long jb), .second, .val (.int b2), .val (.int co), .val (.int ln), .val (.int nn), .val (.int mm), .val (.int cc), .val (.ref r_1), .val (.ref r_2), .val (.int e00), .val (.int e01), .val (.int e02), .val (.int e10), .val (.int e11), .val (.int e12), .unset, .unset, .unset, .unset, .unset, .unset, .unset, .unset, .unset, .unset] [(.int z_)])) (h20 : (eqF nn mm f g (2 : Int32) (0 : Int32)) = e20)) ?_
    show Steps p.tables e below (T9.setTop (mkF m 130 #[.val (.long ja), .second, .val (.int a2), .val (.long jb), .second, .val (.int b2), .val (.int co), .val (.int ln), .val (.int nn), .val (.int mm), .val (.int cc), .val (.ref r_1), .val (.ref r_2), .val (.int e00), .val (.int e01), .val (.int e02), .val (.int e10), .val (.int e11), .val (.int e12), .unset, .unset, .unset, .unset, .unset, .unset, .unset, .unset, .unset, .unset] [(.int e20)])) _
    refine XS.istore X9.here hx rfl (hb hby at_130) rfl (l' := #[.val (.long ja), .second, .val (.int a2), .val (.long jb), .second, .val (.int b2), .val (.int co), .val (.int ln), .val (.int nn), .val (.int mm), .val (.int cc), .val (.ref r_1), .val (.ref r_2), .val (.int e00), .val (.int e01), .val (.int e02), .val (.int e10), .val (.int e11), .val (.int e12), .val (.int e20), .unset, .unset, .unset, .unset, .unset, .unset, .unset, .unset, .unset]) rfl ?_
    show Steps p.tables e below (T9.setTop (mkF m 132 #[.val (.long ja), .second, .val (.int a2), .val (.long jb), .second, .val (.int b2), .val (.int co), .val (.int ln), .val (.int nn), .val (.int mm), .val (.int cc), .val (.ref r_1), .val (.ref r_2), .val (.int e00), .val (.int e01), .val (.int e02), .val (.int e10), .val (.int e11), .val (.int e12), .val (.int e20), .unset, .unset, .unset, .unset, .unset, .unset, .unset, .unset, .unset] [])) _
    refine XS.aload X9.here hx rfl (hb hby at_132) rfl rfl ?_
    show Steps p.tables e below (T9.setTop (mkF m 134 #[.val (.long ja), .second, .val (.int a2), .val (.long jb), .second, .val (.int b2), .val (.int co), .val (.int ln), .val (.int nn), .val (.int mm), .val (.int cc), .val (.ref r_1), .val (.ref r_2), .val (.int e00), .val (.int e01), .val (.int e02), .val (.int e10), .val (.int e11), .val (.int e12), .val (.int e20), .unset, .unset, .unset, .unset, .unset, .unset, .unset, .unset, .unset] [(.ref r_1)])) _
    refine XS.iconst X9.here hx rfl (hb hby at_134) ?_
    show Steps p.tables e below (T9.setTop (mkF m 135 #[.val (.long ja), .second, .val (.int a2), .val (.long jb), .second, .val (.int b2), .val (.int co), .val (.int ln), .val (.int nn), .val (.int mm), .val (.int cc), .val (.ref r_1), .val (.ref r_2), .val (.int e00), .val (.int e01), .val (.int e02), .val (.int e10), .val (.int e11), .val (.int e12), .val (.int e20), .unset, .unset, .unset, .unset, .unset, .unset, .unset, .unset, .unset] [(.int (2 : Int32)), (.ref r_1)])) _
    refine XS.aload X9.here hx rfl (hb hby at_135) rfl rfl ?_
    show Steps p.tables e below (T9.setTop (mkF m 137 #[.val (.long ja), .second, .val (.int a2), .val (.long jb), .second, .val (.int b2), .val (.int co), .val (.int ln), .val (.int nn), .val (.int mm), .val (.int cc), .val (.ref r_1), .val (.ref r_2), .val (.int e00), .val (.int e01), .val (.int e02), .val (.int e10), .val (.int e11), .val (.int e12), .val (.int e20), .unset, .unset, .unset, .unset, .unset, .unset, .unset, .unset, .unset] [(.ref r_2), (.int (2 : Int32)), (.ref r_1)])) _
    refine XS.iconst X9.here hx rfl (hb hby at_137) ?_
    show Steps p.tables e below (T9.setTop (mkF m 138 #[.val (.long ja), .second, .val (.int a2), .val (.long jb), .second, .val (.int b2), .val (.int co), .val (.int ln), .val (.int nn), .val (.int mm), .val (.int cc), .val (.ref r_1), .val (.ref r_2), .val (.int e00), .val (.int e01), .val (.int e02), .val (.int e10), .val (.int e11), .val (.int e12), .val (.int e20), .unset, .unset, .unset, .unset, .unset, .unset, .unset, .unset, .unset] [(.int (1 : Int32)), (.ref r_2), (.int (2 : Int32)), (.ref r_1)])) _
    refine st10 _ ?_
    show Steps p.tables e below (T10.setTop (mkF m 141 #[.val (.long ja), .second, .val (.int a2), .val (.long jb), .second, .val (.int b2), .val (.int co), .val (.int ln), .val (.int nn), .val (.int mm), .val (.int cc), .val (.ref r_1), .val (.ref r_2), .val (.int e00), .val (.int e01), .val (.int e02), .val (.int e10), .val (.int e11), .val (.int e12), .val (.int e20), .unset, .unset, .unset, .unset, .unset, .unset, .unset, .unset, .unset] [(.int (eqF nn mm f g (2 : Int32) (1 : Int32)))])) _
    refine castTop (congrArg (fun z_ => (mkF m 141 #[.val (.long ja), .second, .val (.int a2), .val (.long jb), .second, .val (.int b2), .val (.int co), .val (.int ln), .val (.int nn), .val (.int mm), .val (.int cc), .val (.ref r_1), .val (.ref r_2), .val (.int e00), .val (.int e01), .val (.int e02), .val (.int e10), .val (.int e11), .val (.int e12), .val (.int e20), .unset, .unset, .unset, .unset, .unset, .unset, .unset, .unset, .unset] [(.int z_)])) (h21 : (eqF nn mm f g (2 : Int32) (1 : Int32)) = e21)) ?_
    show Steps p.tables e below (T10.setTop (mkF m 141 #[.val (.long ja), .second, .val (.int a2), .val (.long jb), .second, .val (.int b2), .val (.int co), .val (.int ln), .val (.int nn), .val (.int mm), .val (.int cc), .val (.ref r_1), .val (.ref r_2), .val (.int e00), .val (.int e01), .val (.int e02), .val (.int e10), .val (.int e11), .val (.int e12), .val (.int e20), .unset, .unset, .unset, .unset, .unset, .unset, .unset, .unset, .unset] [(.int e21)])) _
    refine XS.istore X10.here hx rfl (hb hby at_141) rfl (l' := #[.val (.long ja), .second, .val (.int a2), .val (.long jb), .second, .val (.int b2), .val (.int co), .val (.int ln), .val (.int nn), .val (.int mm), .val (.int cc), .val (.ref r_1), .val (.ref r_2), .val (.int e00), .val (.int e01), .val (.int e02), .val (.int e10), .val (.int e11), .val (.int e12), .val (.int e20), .val (.int e21), .unset, .unset, .unset, .unset, .unset, .unset, .unset, .unset]) rfl ?_
    show Steps p.tables e below (T10.setTop (mkF m 143 #[.val (.long ja), .second, .val (.int a2), .val (.long jb), .second, .val (.int b2), .val (.int co), .val (.int ln), .val (.int nn), .val (.int mm), .val (.int cc), .val (.ref r_1), .val (.ref r_2), .val (.int e00), .val (.int e01), .val (.int e02), .val (.int e10), .val (.int e11), .val (.int e12), .val (.int e20), .val (.int e21), .unset, .unset, .unset, .unset, .unset, .unset, .unset, .unset] [])) _
    refine XS.aload X10.here hx rfl (hb hby at_143) rfl rfl ?_
    show Steps p.tables e below (T10.setTop (mkF m 145 #[.val (.long ja), .second, .val (.int a2), .val (.long jb), .second, .val (.int b2), .val (.int co), .val (.int ln), .val (.int nn), .val (.int mm), .val (.int cc), .val (.ref r_1), .val (.ref r_2), .val (.int e00), .val (.int e01), .val (.int e02), .val (.int e10), .val (.int e11), .val (.int e12), .val (.int e20), .val (.int e21), .unset, .unset, .unset, .unset, .unset, .unset, .unset, .unset] [(.ref r_1)])) _
    refine XS.iconst X10.here hx rfl (hb hby at_145) ?_
    show Steps p.tables e below (T10.setTop (mkF m 146 #[.val (.long ja), .second, .val (.int a2), .val (.long jb), .second, .val (.int b2), .val (.int co), .val (.int ln), .val (.int nn), .val (.int mm), .val (.int cc), .val (.ref r_1), .val (.ref r_2), .val (.int e00), .val (.int e01), .val (.int e02), .val (.int e10), .val (.int e11), .val (.int e12), .val (.int e20), .val (.int e21), .unset, .unset, .unset, .unset, .unset, .unset, .unset, .unset] [(.int (2 : Int32)), (.ref r_1)])) _
    refine XS.aload X10.here hx rfl (hb hby at_146) rfl rfl ?_
    show Steps p.tables e below (T10.setTop (mkF m 148 #[.val (.long ja), .second, .val (.int a2), .val (.long jb), .second, .val (.int b2), .val (.int co), .val (.int ln), .val (.int nn), .val (.int mm), .val (.int cc), .val (.ref r_1), .val (.ref r_2), .val (.int e00), .val (.int e01), .val (.int e02), .val (.int e10), .val (.int e11), .val (.int e12), .val (.int e20), .val (.int e21), .unset, .unset, .unset, .unset, .unset, .unset, .unset, .unset] [(.ref r_2), (.int (2 : Int32)), (.ref r_1)])) _
    refine XS.iconst X10.here hx rfl (hb hby at_148) ?_
    show Steps p.tables e below (T10.setTop (mkF m 149 #[.val (.long ja), .second, .val (.int a2), .val (.long jb), .second, .val (.int b2), .val (.int co), .val (.int ln), .val (.int nn), .val (.int mm), .val (.int cc), .val (.ref r_1), .val (.ref r_2), .val (.int e00), .val (.int e01), .val (.int e02), .val (.int e10), .val (.int e11), .val (.int e12), .val (.int e20), .val (.int e21), .unset, .unset, .unset, .unset, .unset, .unset, .unset, .unset] [(.int (2 : Int32)), (.ref r_2), (.int (2 : Int32)), (.ref r_1)])) _
    refine st11 _ ?_
    show Steps p.tables e below (T11.setTop (mkF m 152 #[.val (.long ja), .second, .val (.int a2), .val (.long jb), .second, .val (.int b2), .val (.int co), .val (.int ln), .val (.int nn), .val (.int mm), .val (.int cc), .val (.ref r_1), .val (.ref r_2), .val (.int e00), .val (.int e01), .val (.int e02), .val (.int e10), .val (.int e11), .val (.int e12), .val (.int e20), .val (.int e21), .unset, .unset, .unset, .unset, .unset, .unset, .unset, .unset] [(.int (eqF nn mm f g (2 : Int32) (2 : Int32)))])) _
    refine castTop (congrArg (fun z_ => (mkF m 152 #[.val (.long ja), .second, .val (.int a2), .val (.long jb), .second, .val (.int b2), .val (.int co), .val (.int ln), .val (.int nn), .val (.int mm), .val (.int cc), .val (.ref r_1), .val (.ref r_2), .val (.int e00), .val (.int e01), .val (.int e02), .val (.int e10), .val (.int e11), .val (.int e12), .val (.int e20), .val (.int e21), .unset, .unset, .unset, .unset, .unset, .unset, .unset, .unset] [(.int z_)])) (h22 : (eqF nn mm f g (2 : Int32) (2 : Int32)) = e22)) ?_
    show Steps p.tables e below (T11.setTop (mkF m 152 #[.val (.long ja), .second, .val (.int a2), .val (.long jb), .second, .val (.int b2), .val (.int co), .val (.int ln), .val (.int nn), .val (.int mm), .val (.int cc), .val (.ref r_1), .val (.ref r_2), .val (.int e00), .val (.int e01), .val (.int e02), .val (.int e10), .val (.int e11), .val (.int e12), .val (.int e20), .val (.int e21), .unset, .unset, .unset, .unset, .unset, .unset, .unset, .unset] [(.int e22)])) _
    refine XS.istore X11.here hx rfl (hb hby at_152) rfl (l' := #[.val (.long ja), .second, .val (.int a2), .val (.long jb), .second, .val (.int b2), .val (.int co), .val (.int ln), .val (.int nn), .val (.int mm), .val (.int cc), .val (.ref r_1), .val (.ref r_2), .val (.int e00), .val (.int e01), .val (.int e02), .val (.int e10), .val (.int e11), .val (.int e12), .val (.int e20), .val (.int e21), .val (.int e22), .unset, .unset, .unset, .unset, .unset, .unset, .unset]) rfl ?_
    show Steps p.tables e below (T11.setTop (mkF m 154 #[.val (.long ja), .second, .val (.int a2), .val (.long jb), .second, .val (.int b2), .val (.int co), .val (.int ln), .val (.int nn), .val (.int mm), .val (.int cc), .val (.ref r_1), .val (.ref r_2), .val (.int e00), .val (.int e01), .val (.int e02), .val (.int e10), .val (.int e11), .val (.int e12), .val (.int e20), .val (.int e21), .val (.int e22), .unset, .unset, .unset, .unset, .unset, .unset, .unset] [])) _
    refine XS.iload X11.here hx rfl (hb hby at_154) rfl ?_
    show Steps p.tables e below (T11.setTop (mkF m 156 #[.val (.long ja), .second, .val (.int a2), .val (.long jb), .second, .val (.int b2), .val (.int co), .val (.int ln), .val (.int nn), .val (.int mm), .val (.int cc), .val (.ref r_1), .val (.ref r_2), .val (.int e00), .val (.int e01), .val (.int e02), .val (.int e10), .val (.int e11), .val (.int e12), .val (.int e20), .val (.int e21), .val (.int e22), .unset, .unset, .unset, .unset, .unset, .unset, .unset] [(.int e00)])) _
    refine XS.iload X11.here hx rfl (hb hby at_156) rfl ?_
    show Steps p.tables e below (T11.setTop (mkF m 158 #[.val (.long ja), .second, .val (.int a2), .val (.long jb), .second, .val (.int b2), .val (.int co), .val (.int ln), .val (.int nn), .val (.int mm), .val (.int cc), .val (.ref r_1), .val (.ref r_2), .val (.int e00), .val (.int e01), .val (.int e02), .val (.int e10), .val (.int e11), .val (.int e12), .val (.int e20), .val (.int e21), .val (.int e22), .unset, .unset, .unset, .unset, .unset, .unset, .unset] [(.int e11), (.int e00)])) _
    refine XS.iadd X11.here hx rfl (hb hby at_158) rfl ?_
    show Steps p.tables e below (T11.setTop (mkF m 159 #[.val (.long ja), .second, .val (.int a2), .val (.long jb), .second, .val (.int b2), .val (.int co), .val (.int ln), .val (.int nn), .val (.int mm), .val (.int cc), .val (.ref r_1), .val (.ref r_2), .val (.int e00), .val (.int e01), .val (.int e02), .val (.int e10), .val (.int e11), .val (.int e12), .val (.int e20), .val (.int e21), .val (.int e22), .unset, .unset, .unset, .unset, .unset, .unset, .unset] [(.int (e00 + e11))])) _
    refine XS.iload X11.here hx rfl (hb hby at_159) rfl ?_
    show Steps p.tables e below (T11.setTop (mkF m 161 #[.val (.long ja), .second, .val (.int a2), .val (.long jb), .second, .val (.int b2), .val (.int co), .val (.int ln), .val (.int nn), .val (.int mm), .val (.int cc), .val (.ref r_1), .val (.ref r_2), .val (.int e00), .val (.int e01), .val (.int e02), .val (.int e10), .val (.int e11), .val (.int e12), .val (.int e20), .val (.int e21), .val (.int e22), .unset, .unset, .unset, .unset, .unset, .unset, .unset] [(.int e22), (.int (e00 + e11))])) _
    refine XS.iadd X11.here hx rfl (hb hby at_161) rfl ?_
    show Steps p.tables e below (T11.setTop (mkF m 162 #[.val (.long ja), .second, .val (.int a2), .val (.long jb), .second, .val (.int b2), .val (.int co), .val (.int ln), .val (.int nn), .val (.int mm), .val (.int cc), .val (.ref r_1), .val (.ref r_2), .val (.int e00), .val (.int e01), .val (.int e02), .val (.int e10), .val (.int e11), .val (.int e12), .val (.int e20), .val (.int e21), .val (.int e22), .unset, .unset, .unset, .unset, .unset, .unset, .unset] [(.int ((e00 + e11) + e22))])) _
    refine XS.istore X11.here hx rfl (hb hby at_162) rfl (l' := #[.val (.long ja), .second, .val (.int a2), .val (.long jb), .second, .val (.int b2), .val (.int co), .val (.int ln), .val (.int nn), .val (.int mm), .val (.int cc), .val (.ref r_1), .val (.ref r_2), .val (.int e00), .val (.int e01), .val (.int e02), .val (.int e10), .val (.int e11), .val (.int e12), .val (.int e20), .val (.int e21), .val (.int e22), .val (.int ((e00 + e11) + e22)), .unset, .unset, .unset, .unset, .unset, .unset]) rfl ?_
    show Steps p.tables e below (T11.setTop (mkF m 164 #[.val (.long ja), .second, .val (.int a2), .val (.long jb), .second, .val (.int b2), .val (.int co), .val (.int ln), .val (.int nn), .val (.int mm), .val (.int cc), .val (.ref r_1), .val (.ref r_2), .val (.int e00), .val (.int e01), .val (.int e02), .val (.int e10), .val (.int e11), .val (.int e12), .val (.int e20), .val (.int e21), .val (.int e22), .val (.int ((e00 + e11) + e22)), .unset, .unset, .unset, .unset, .unset, .unset] [])) _
    refine XS.iload X11.here hx rfl (hb hby at_164) rfl ?_
    show Steps p.tables e below (T11.setTop (mkF m 166 #[.val (.long ja), .second, .val (.int a2), .val (.long jb), .second, .val (.int b2), .val (.int co), .val (.int ln), .val (.int nn), .val (.int mm), .val (.int cc), .val (.ref r_1), .val (.ref r_2), .val (.int e00), .val (.int e01), .val (.int e02), .val (.int e10), .val (.int e11), .val (.int e12), .val (.int e20), .val (.int e21), .val (.int e22), .val (.int ((e00 + e11) + e22)), .unset, .unset, .unset, .unset, .unset, .unset] [(.int ((e00 + e11) + e22))])) _
    refine XS.iload X11.here hx rfl (hb hby at_166) rfl ?_
    show Steps p.tables e below (T11.setTop (mkF m 168 #[.val (.long ja), .second, .val (.int a2), .val (.long jb), .second, .val (.int b2), .val (.int co), .val (.int ln), .val (.int nn), .val (.int mm), .val (.int cc), .val (.ref r_1), .val (.ref r_2), .val (.int e00), .val (.int e01), .val (.int e02), .val (.int e10), .val (.int e11), .val (.int e12), .val (.int e20), .val (.int e21), .val (.int e22), .val (.int ((e00 + e11) + e22)), .unset, .unset, .unset, .unset, .unset, .unset] [(.int e00), (.int ((e00 + e11) + e22))])) _
    refine XS.iload X11.here hx rfl (hb hby at_168) rfl ?_
    show Steps p.tables e below (T11.setTop (mkF m 170 #[.val (.long ja), .second, .val (.int a2), .val (.long jb), .second, .val (.int b2), .val (.int co), .val (.int ln), .val (.int nn), .val (.int mm), .val (.int cc), .val (.ref r_1), .val (.ref r_2), .val (.int e00), .val (.int e01), .val (.int e02), .val (.int e10), .val (.int e11), .val (.int e12), .val (.int e20), .val (.int e21), .val (.int e22), .val (.int ((e00 + e11) + e22)), .unset, .unset, .unset, .unset, .unset, .unset] [(.int e12), (.int e00), (.int ((e00 + e11) + e22))])) _
    refine XS.iadd X11.here hx rfl (hb hby at_170) rfl ?_
    show Steps p.tables e below (T11.setTop (mkF m 171 #[.val (.long ja), .second, .val (.int a2), .val (.long jb), .second, .val (.int b2), .val (.int co), .val (.int ln), .val (.int nn), .val (.int mm), .val (.int cc), .val (.ref r_1), .val (.ref r_2), .val (.int e00), .val (.int e01), .val (.int e02), .val (.int e10), .val (.int e11), .val (.int e12), .val (.int e20), .val (.int e21), .val (.int e22), .val (.int ((e00 + e11) + e22)), .unset, .unset, .unset, .unset, .unset, .unset] [(.int (e00 + e12)), (.int ((e00 + e11) + e22))])) _
    refine XS.iload X11.here hx rfl (hb hby at_171) rfl ?_
    show Steps p.tables e below (T11.setTop (mkF m 173 #[.val (.long ja), .second, .val (.int a2), .val (.long jb), .second, .val (.int b2), .val (.int co), .val (.int ln), .val (.int nn), .val (.int mm), .val (.int cc), .val (.ref r_1), .val (.ref r_2), .val (.int e00), .val (.int e01), .val (.int e02), .val (.int e10), .val (.int e11), .val (.int e12), .val (.int e20), .val (.int e21), .val (.int e22), .val (.int ((e00 + e11) + e22)), .unset, .unset, .unset, .unset, .unset, .unset] [(.int e21), (.int (e00 + e12)), (.int ((e00 + e11) + e22))])) _
    refine XS.iadd X11.here hx rfl (hb hby at_173) rfl ?_
    show Steps p.tables e below (T11.setTop (mkF m 174 #[.val (.long ja), .second, .val (.int a2), .val (.long jb), .second, .val (.int b2), .val (.int co), .val (.int ln), .val (.int nn), .val (.int mm), .val (.int cc), .val (.ref r_1), .val (.ref r_2), .val (.int e00), .val (.int e01), .val (.int e02), .val (.int e10), .val (.int e11), .val (.int e12), .val (.int e20), .val (.int e21), .val (.int e22), .val (.int ((e00 + e11) + e22)), .unset, .unset, .unset, .unset, .unset, .unset] [(.int ((e00 + e12) + e21)), (.int ((e00 + e11) + e22))])) _
    refine st12 _ ?_
    show Steps p.tables e below (T12.setTop (mkF m 177 #[.val (.long ja), .second, .val (.int a2), .val (.long jb), .second, .val (.int b2), .val (.int co), .val (.int ln), .val (.int nn), .val (.int mm), .val (.int cc), .val (.ref r_1), .val (.ref r_2), .val (.int e00), .val (.int e01), .val (.int e02), .val (.int e10), .val (.int e11), .val (.int e12), .val (.int e20), .val (.int e21), .val (.int e22), .val (.int ((e00 + e11) + e22)), .unset, .unset, .unset, .unset, .unset, .unset] [(.int (maxI ((e00 + e11) + e22) ((e00 + e12) + e21)))])) _
    refine castTop (congrArg (fun z_ => (mkF m 177 #[.val (.long ja), .second, .val (.int a2), .val (.long jb), .second, .val (.int b2), .val (.int co), .val (.int ln), .val (.int nn), .val (.int mm), .val (.int cc), .val (.ref r_1), .val (.ref r_2), .val (.int e00), .val (.int e01), .val (.int e02), .val (.int e10), .val (.int e11), .val (.int e12), .val (.int e20), .val (.int e21), .val (.int e22), .val (.int ((e00 + e11) + e22)), .unset, .unset, .unset, .unset, .unset, .unset] [(.int z_)])) (g1 : (maxI ((e00 + e11) + e22) ((e00 + e12) + e21)) = m1)) ?_
    show Steps p.tables e below (T12.setTop (mkF m 177 #[.val (.long ja), .second, .val (.int a2), .val (.long jb), .second, .val (.int b2), .val (.int co), .val (.int ln), .val (.int nn), .val (.int mm), .val (.int cc), .val (.ref r_1), .val (.ref r_2), .val (.int e00), .val (.int e01), .val (.int e02), .val (.int e10), .val (.int e11), .val (.int e12), .val (.int e20), .val (.int e21), .val (.int e22), .val (.int ((e00 + e11) + e22)), .unset, .unset, .unset, .unset, .unset, .unset] [(.int m1)])) _
    refine XS.istore X12.here hx rfl (hb hby at_177) rfl (l' := #[.val (.long ja), .second, .val (.int a2), .val (.long jb), .second, .val (.int b2), .val (.int co), .val (.int ln), .val (.int nn), .val (.int mm), .val (.int cc), .val (.ref r_1), .val (.ref r_2), .val (.int e00), .val (.int e01), .val (.int e02), .val (.int e10), .val (.int e11), .val (.int e12), .val (.int e20), .val (.int e21), .val (.int e22), .val (.int m1), .unset, .unset, .unset, .unset, .unset, .unset]) rfl ?_
    show Steps p.tables e below (T12.setTop (mkF m 179 #[.val (.long ja), .second, .val (.int a2), .val (.long jb), .second, .val (.int b2), .val (.int co), .val (.int ln), .val (.int nn), .val (.int mm), .val (.int cc), .val (.ref r_1), .val (.ref r_2), .val (.int e00), .val (.int e01), .val (.int e02), .val (.int e10), .val (.int e11), .val (.int e12), .val (.int e20), .val (.int e21), .val (.int e22), .val (.int m1), .unset, .unset, .unset, .unset, .unset, .unset] [])) _
    refine XS.iload X12.here hx rfl (hb hby at_179) rfl ?_
    show Steps p.tables e below (T12.setTop (mkF m 181 #[.val (.long ja), .second, .val (.int a2), .val (.long jb), .second, .val (.int b2), .val (.int co), .val (.int ln), .val (.int nn), .val (.int mm), .val (.int cc), .val (.ref r_1), .val (.ref r_2), .val (.int e00), .val (.int e01), .val (.int e02), .val (.int e10), .val (.int e11), .val (.int e12), .val (.int e20), .val (.int e21), .val (.int e22), .val (.int m1), .unset, .unset, .unset, .unset, .unset, .unset] [(.int m1)])) _
    refine XS.iload X12.here hx rfl (hb hby at_181) rfl ?_
    show Steps p.tables e below (T12.setTop (mkF m 183 #[.val (.long ja), .second, .val (.int a2), .val (.long jb), .second, .val (.int b2), .val (.int co), .val (.int ln), .val (.int nn), .val (.int mm), .val (.int cc), .val (.ref r_1), .val (.ref r_2), .val (.int e00), .val (.int e01), .val (.int e02), .val (.int e10), .val (.int e11), .val (.int e12), .val (.int e20), .val (.int e21), .val (.int e22), .val (.int m1), .unset, .unset, .unset, .unset, .unset, .unset] [(.int e01), (.int m1)])) _
    refine XS.iload X12.here hx rfl (hb hby at_183) rfl ?_
    show Steps p.tables e below (T12.setTop (mkF m 185 #[.val (.long ja), .second, .val (.int a2), .val (.long jb), .second, .val (.int b2), .val (.int co), .val (.int ln), .val (.int nn), .val (.int mm), .val (.int cc), .val (.ref r_1), .val (.ref r_2), .val (.int e00), .val (.int e01), .val (.int e02), .val (.int e10), .val (.int e11), .val (.int e12), .val (.int e20), .val (.int e21), .val (.int e22), .val (.int m1), .unset, .unset, .unset, .unset, .unset, .unset] [(.int e10), (.int e01), (.int m1)])) _
    refine XS.iadd X12.here hx rfl (hb hby at_185) rfl ?_
    show Steps p.tables e below (T12.setTop (mkF m 186 #[.val (.long ja), .second, .val (.int a2), .val (.long jb), .second, .val (.int b2), .val (.int co), .val (.int ln), .val (.int nn), .val (.int mm), .val (.int cc), .val (.ref r_1), .val (.ref r_2), .val (.int e00), .val (.int e01), .val (.int e02), .val (.int e10), .val (.int e11), .val (.int e12), .val (.int e20), .val (.int e21), .val (.int e22), .val (.int m1), .unset, .unset, .unset, .unset, .unset, .unset] [(.int (e01 + e10)), (.int m1)])) _
    refine XS.iload X12.here hx rfl (hb hby at_186) rfl ?_
    show Steps p.tables e below (T12.setTop (mkF m 188 #[.val (.long ja), .second, .val (.int a2), .val (.long jb), .second, .val (.int b2), .val (.int co), .val (.int ln), .val (.int nn), .val (.int mm), .val (.int cc), .val (.ref r_1), .val (.ref r_2), .val (.int e00), .val (.int e01), .val (.int e02), .val (.int e10), .val (.int e11), .val (.int e12), .val (.int e20), .val (.int e21), .val (.int e22), .val (.int m1), .unset, .unset, .unset, .unset, .unset, .unset] [(.int e22), (.int (e01 + e10)), (.int m1)])) _
    refine XS.iadd X12.here hx rfl (hb hby at_188) rfl ?_
    show Steps p.tables e below (T12.setTop (mkF m 189 #[.val (.long ja), .second, .val (.int a2), .val (.long jb), .second, .val (.int b2), .val (.int co), .val (.int ln), .val (.int nn), .val (.int mm), .val (.int cc), .val (.ref r_1), .val (.ref r_2), .val (.int e00), .val (.int e01), .val (.int e02), .val (.int e10), .val (.int e11), .val (.int e12), .val (.int e20), .val (.int e21), .val (.int e22), .val (.int m1), .unset, .unset, .unset, .unset, .unset, .unset] [(.int ((e01 + e10) + e22)), (.int m1)])) _
    refine st13 _ ?_
    show Steps p.tables e below (T13.setTop (mkF m 192 #[.val (.long ja), .second, .val (.int a2), .val (.long jb), .second, .val (.int b2), .val (.int co), .val (.int ln), .val (.int nn), .val (.int mm), .val (.int cc), .val (.ref r_1), .val (.ref r_2), .val (.int e00), .val (.int e01), .val (.int e02), .val (.int e10), .val (.int e11), .val (.int e12), .val (.int e20), .val (.int e21), .val (.int e22), .val (.int m1), .unset, .unset, .unset, .unset, .unset, .unset] [(.int (maxI m1 ((e01 + e10) + e22)))])) _
    refine castTop (congrArg (fun z_ => (mkF m 192 #[.val (.long ja), .second, .val (.int a2), .val (.long jb), .second, .val (.int b2), .val (.int co), .val (.int ln), .val (.int nn), .val (.int mm), .val (.int cc), .val (.ref r_1), .val (.ref r_2), .val (.int e00), .val (.int e01), .val (.int e02), .val (.int e10), .val (.int e11), .val (.int e12), .val (.int e20), .val (.int e21), .val (.int e22), .val (.int m1), .unset, .unset, .unset, .unset, .unset, .unset] [(.int z_)])) (g2 : (maxI m1 ((e01 + e10) + e22)) = m2)) ?_
    show Steps p.tables e below (T13.setTop (mkF m 192 #[.val (.long ja), .second, .val (.int a2), .val (.long jb), .second, .val (.int b2), .val (.int co), .val (.int ln), .val (.int nn), .val (.int mm), .val (.int cc), .val (.ref r_1), .val (.ref r_2), .val (.int e00), .val (.int e01), .val (.int e02), .val (.int e10), .val (.int e11), .val (.int e12), .val (.int e20), .val (.int e21), .val (.int e22), .val (.int m1), .unset, .unset, .unset, .unset, .unset, .unset] [(.int m2)])) _
    refine XS.istore X13.here hx rfl (hb hby at_192) rfl (l' := #[.val (.long ja), .second, .val (.int a2), .val (.long jb), .second, .val (.int b2), .val (.int co), .val (.int ln), .val (.int nn), .val (.int mm), .val (.int cc), .val (.ref r_1), .val (.ref r_2), .val (.int e00), .val (.int e01), .val (.int e02), .val (.int e10), .val (.int e11), .val (.int e12), .val (.int e20), .val (.int e21), .val (.int e22), .val (.int m2), .unset, .unset, .unset, .unset, .unset, .unset]) rfl ?_
    show Steps p.tables e below (T13.setTop (mkF m 194 #[.val (.long ja), .second, .val (.int a2), .val (.long jb), .second, .val (.int b2), .val (.int co), .val (.int ln), .val (.int nn), .val (.int mm), .val (.int cc), .val (.ref r_1), .val (.ref r_2), .val (.int e00), .val (.int e01), .val (.int e02), .val (.int e10), .val (.int e11), .val (.int e12), .val (.int e20), .val (.int e21), .val (.int e22), .val (.int m2), .unset, .unset, .unset, .unset, .unset, .unset] [])) _
    refine XS.iload X13.here hx rfl (hb hby at_194) rfl ?_
    show Steps p.tables e below (T13.setTop (mkF m 196 #[.val (.long ja), .second, .val (.int a2), .val (.long jb), .second, .val (.int b2), .val (.int co), .val (.int ln), .val (.int nn), .val (.int mm), .val (.int cc), .val (.ref r_1), .val (.ref r_2), .val (.int e00), .val (.int e01), .val (.int e02), .val (.int e10), .val (.int e11), .val (.int e12), .val (.int e20), .val (.int e21), .val (.int e22), .val (.int m2), .unset, .unset, .unset, .unset, .unset, .unset] [(.int m2)])) _
    refine XS.iload X13.here hx rfl (hb hby at_196) rfl ?_
    show Steps p.tables e below (T13.setTop (mkF m 198 #[.val (.long ja), .second, .val (.int a2), .val (.long jb), .second, .val (.int b2), .val (.int co), .val (.int ln), .val (.int nn), .val (.int mm), .val (.int cc), .val (.ref r_1), .val (.ref r_2), .val (.int e00), .val (.int e01), .val (.int e02), .val (.int e10), .val (.int e11), .val (.int e12), .val (.int e20), .val (.int e21), .val (.int e22), .val (.int m2), .unset, .unset, .unset, .unset, .unset, .unset] [(.int e01), (.int m2)])) _
    refine XS.iload X13.here hx rfl (hb hby at_198) rfl ?_
    show Steps p.tables e below (T13.setTop (mkF m 200 #[.val (.long ja), .second, .val (.int a2), .val (.long jb), .second, .val (.int b2), .val (.int co), .val (.int ln), .val (.int nn), .val (.int mm), .val (.int cc), .val (.ref r_1), .val (.ref r_2), .val (.int e00), .val (.int e01), .val (.int e02), .val (.int e10), .val (.int e11), .val (.int e12), .val (.int e20), .val (.int e21), .val (.int e22), .val (.int m2), .unset, .unset, .unset, .unset, .unset, .unset] [(.int e12), (.int e01), (.int m2)])) _
    refine XS.iadd X13.here hx rfl (hb hby at_200) rfl ?_
    show Steps p.tables e below (T13.setTop (mkF m 201 #[.val (.long ja), .second, .val (.int a2), .val (.long jb), .second, .val (.int b2), .val (.int co), .val (.int ln), .val (.int nn), .val (.int mm), .val (.int cc), .val (.ref r_1), .val (.ref r_2), .val (.int e00), .val (.int e01), .val (.int e02), .val (.int e10), .val (.int e11), .val (.int e12), .val (.int e20), .val (.int e21), .val (.int e22), .val (.int m2), .unset, .unset, .unset, .unset, .unset, .unset] [(.int (e01 + e12)), (.int m2)])) _
    refine XS.iload X13.here hx rfl (hb hby at_201) rfl ?_
    show Steps p.tables e below (T13.setTop (mkF m 203 #[.val (.long ja), .second, .val (.int a2), .val (.long jb), .second, .val (.int b2), .val (.int co), .val (.int ln), .val (.int nn), .val (.int mm), .val (.int cc), .val (.ref r_1), .val (.ref r_2), .val (.int e00), .val (.int e01), .val (.int e02), .val (.int e10), .val (.int e11), .val (.int e12), .val (.int e20), .val (.int e21), .val (.int e22), .val (.int m2), .unset, .unset, .unset, .unset, .unset, .unset] [(.int e20), (.int (e01 + e12)), (.int m2)])) _
    refine XS.iadd X13.here hx rfl (hb hby at_203) rfl ?_
    show Steps p.tables e below (T13.setTop (mkF m 204 #[.val (.long ja), .second, .val (.int a2), .val (.long jb), .second, .val (.int b2), .val (.int co), .val (.int ln), .val (.int nn), .val (.int mm), .val (.int cc), .val (.ref r_1), .val (.ref r_2), .val (.int e00), .val (.int e01), .val (.int e02), .val (.int e10), .val (.int e11), .val (.int e12), .val (.int e20), .val (.int e21), .val (.int e22), .val (.int m2), .unset, .unset, .unset, .unset, .unset, .unset] [(.int ((e01 + e12) + e20)), (.int m2)])) _
    refine st14 _ ?_
    show Steps p.tables e below (T14.setTop (mkF m 207 #[.val (.long ja), .second, .val (.int a2), .val (.long jb), .second, .val (.int b2), .val (.int co), .val (.int ln), .val (.int nn), .val (.int mm), .val (.int cc), .val (.ref r_1), .val (.ref r_2), .val (.int e00), .val (.int e01), .val (.int e02), .val (.int e10), .val (.int e11), .val (.int e12), .val (.int e20), .val (.int e21), .val (.int e22), .val (.int m2), .unset, .unset, .unset, .unset, .unset, .unset] [(.int (maxI m2 ((e01 + e12) + e20)))])) _
    refine castTop (congrArg (fun z_ => (mkF m 207 #[.val (.long ja), .second, .val (.int a2), .val (.long jb), .second, .val (.int b2), .val (.int co), .val (.int ln), .val (.int nn), .val (.int mm), .val (.int cc), .val (.ref r_1), .val (.ref r_2), .val (.int e00), .val (.int e01), .val (.int e02), .val (.int e10), .val (.int e11), .val (.int e12), .val (.int e20), .val (.int e21), .val (.int e22), .val (.int m2), .unset, .unset, .unset, .unset, .unset, .unset] [(.int z_)])) (g3 : (maxI m2 ((e01 + e12) + e20)) = m3)) ?_
    show Steps p.tables e below (T14.setTop (mkF m 207 #[.val (.long ja), .second, .val (.int a2), .val (.long jb), .second, .val (.int b2), .val (.int co), .val (.int ln), .val (.int nn), .val (.int mm), .val (.int cc), .val (.ref r_1), .val (.ref r_2), .val (.int e00), .val (.int e01), .val (.int e02), .val (.int e10), .val (.int e11), .val (.int e12), .val (.int e20), .val (.int e21), .val (.int e22), .val (.int m2), .unset, .unset, .unset, .unset, .unset, .unset] [(.int m3)])) _
    refine XS.istore X14.here hx rfl (hb hby at_207) rfl (l' := #[.val (.long ja), .second, .val (.int a2), .val (.long jb), .second, .val (.int b2), .val (.int co), .val (.int ln), .val (.int nn), .val (.int mm), .val (.int cc), .val (.ref r_1), .val (.ref r_2), .val (.int e00), .val (.int e01), .val (.int e02), .val (.int e10), .val (.int e11), .val (.int e12), .val (.int e20), .val (.int e21), .val (.int e22), .val (.int m3), .unset, .unset, .unset, .unset, .unset, .unset]) rfl ?_
    show Steps p.tables e below (T14.setTop (mkF m 209 #[.val (.long ja), .second, .val (.int a2), .val (.long jb), .second, .val (.int b2), .val (.int co), .val (.int ln), .val (.int nn), .val (.int mm), .val (.int cc), .val (.ref r_1), .val (.ref r_2), .val (.int e00), .val (.int e01), .val (.int e02), .val (.int e10), .val (.int e11), .val (.int e12), .val (.int e20), .val (.int e21), .val (.int e22), .val (.int m3), .unset, .unset, .unset, .unset, .unset, .unset] [])) _
    refine XS.iload X14.here hx rfl (hb hby at_209) rfl ?_
    show Steps p.tables e below (T14.setTop (mkF m 211 #[.val (.long ja), .second, .val (.int a2), .val (.long jb), .second, .val (.int b2), .val (.int co), .val (.int ln), .val (.int nn), .val (.int mm), .val (.int cc), .val (.ref r_1), .val (.ref r_2), .val (.int e00), .val (.int e01), .val (.int e02), .val (.int e10), .val (.int e11), .val (.int e12), .val (.int e20), .val (.int e21), .val (.int e22), .val (.int m3), .unset, .unset, .unset, .unset, .unset, .unset] [(.int m3)])) _
    refine XS.iload X14.here hx rfl (hb hby at_211) rfl ?_
    show Steps p.tables e below (T14.setTop (mkF m 213 #[.val (.long ja), .second, .val (.int a2), .val (.long jb), .second, .val (.int b2), .val (.int co), .val (.int ln), .val (.int nn), .val (.int mm), .val (.int cc), .val (.ref r_1), .val (.ref r_2), .val (.int e00), .val (.int e01), .val (.int e02), .val (.int e10), .val (.int e11), .val (.int e12), .val (.int e20), .val (.int e21), .val (.int e22), .val (.int m3), .unset, .unset, .unset, .unset, .unset, .unset] [(.int e02), (.int m3)])) _
    refine XS.iload X14.here hx rfl (hb hby at_213) rfl ?_
    show Steps p.tables e below (T14.setTop (mkF m 215 #[.val (.long ja), .second, .val (.int a2), .val (.long jb), .second, .val (.int b2), .val (.int co), .val (.int ln), .val (.int nn), .val (.int mm), .val (.int cc), .val (.ref r_1), .val (.ref r_2), .val (.int e00), .val (.int e01), .val (.int e02), .val (.int e10), .val (.int e11), .val (.int e12), .val (.int e20), .val (.int e21), .val (.int e22), .val (.int m3), .unset, .unset, .unset, .unset, .unset, .unset] [(.int e10), (.int e02), (.int m3)])) _
    refine XS.iadd X14.here hx rfl (hb hby at_215) rfl ?_
    show Steps p.tables e below (T14.setTop (mkF m 216 #[.val (.long ja), .second, .val (.int a2), .val (.long jb), .second, .val (.int b2), .val (.int co), .val (.int ln), .val (.int nn), .val (.int mm), .val (.int cc), .val (.ref r_1), .val (.ref r_2), .val (.int e00), .val (.int e01), .val (.int e02), .val (.int e10), .val (.int e11), .val (.int e12), .val (.int e20), .val (.int e21), .val (.int e22), .val (.int m3), .unset, .unset, .unset, .unset, .unset, .unset] [(.int (e02 + e10)), (.int m3)])) _
    refine XS.iload X14.here hx rfl (hb hby at_216) rfl ?_
    show Steps p.tables e below (T14.setTop (mkF m 218 #[.val (.long ja), .second, .val (.int a2), .val (.long jb), .second, .val (.int b2), .val (.int co), .val (.int ln), .val (.int nn), .val (.int mm), .val (.int cc), .val (.ref r_1), .val (.ref r_2), .val (.int e00), .val (.int e01), .val (.int e02), .val (.int e10), .val (.int e11), .val (.int e12), .val (.int e20), .val (.int e21), .val (.int e22), .val (.int m3), .unset, .unset, .unset, .unset, .unset, .unset] [(.int e21), (.int (e02 + e10)), (.int m3)])) _
    refine XS.iadd X14.here hx rfl (hb hby at_218) rfl ?_
    show Steps p.tables e below (T14.setTop (mkF m 219 #[.val (.long ja), .second, .val (.int a2), .val (.long jb), .second, .val (.int b2), .val (.int co), .val (.int ln), .val (.int nn), .val (.int mm), .val (.int cc), .val (.ref r_1), .val (.ref r_2), .val (.int e00), .val (.int e01), .val (.int e02), .val (.int e10), .val (.int e11), .val (.int e12), .val (.int e20), .val (.int e21), .val (.int e22), .val (.int m3), .unset, .unset, .unset, .unset, .unset, .unset] [(.int ((e02 + e10) + e21)), (.int m3)])) _
    refine st15 _ ?_
    show Steps p.tables e below (T15.setTop (mkF m 222 #[.val (.long ja), .second, .val (.int a2), .val (.long jb), .second, .val (.int b2), .val (.int co), .val (.int ln), .val (.int nn), .val (.int mm), .val (.int cc), .val (.ref r_1), .val (.ref r_2), .val (.int e00), .val (.int e01), .val (.int e02), .val (.int e10), .val (.int e11), .val (.int e12), .val (.int e20), .val (.int e21), .val (.int e22), .val (.int m3), .unset, .unset, .unset, .unset, .unset, .unset] [(.int (maxI m3 ((e02 + e10) + e21)))])) _
    refine castTop (congrArg (fun z_ => (mkF m 222 #[.val (.long ja), .second, .val (.int a2), .val (.long jb), .second, .val (.int b2), .val (.int co), .val (.int ln), .val (.int nn), .val (.int mm), .val (.int cc), .val (.ref r_1), .val (.ref r_2), .val (.int e00), .val (.int e01), .val (.int e02), .val (.int e10), .val (.int e11), .val (.int e12), .val (.int e20), .val (.int e21), .val (.int e22), .val (.int m3), .unset, .unset, .unset, .unset, .unset, .unset] [(.int z_)])) (g4 : (maxI m3 ((e02 + e10) + e21)) = m4)) ?_
    show Steps p.tables e below (T15.setTop (mkF m 222 #[.val (.long ja), .second, .val (.int a2), .val (.long jb), .second, .val (.int b2), .val (.int co), .val (.int ln), .val (.int nn), .val (.int mm), .val (.int cc), .val (.ref r_1), .val (.ref r_2), .val (.int e00), .val (.int e01), .val (.int e02), .val (.int e10), .val (.int e11), .val (.int e12), .val (.int e20), .val (.int e21), .val (.int e22), .val (.int m3), .unset, .unset, .unset, .unset, .unset, .unset] [(.int m4)])) _
    refine XS.istore X15.here hx rfl (hb hby at_222) rfl (l' := #[.val (.long ja), .second, .val (.int a2), .val (.long jb), .second, .val (.int b2), .val (.int co), .val (.int ln), .val (.int nn), .val (.int mm), .val (.int cc), .val (.ref r_1), .val (.ref r_2), .val (.int e00), .val (.int e01), .val (.int e02), .val (.int e10), .val (.int e11), .val (.int e12), .val (.int e20), .val (.int e21), .val (.int e22), .val (.int m4), .unset, .unset, .unset, .unset, .unset, .unset]) rfl ?_
    show Steps p.tables e below (T15.setTop (mkF m 224 #[.val (.long ja), .second, .val (.int a2), .val (.long jb), .second, .val (.int b2), .val (.int co), .val (.int ln), .val (.int nn), .val (.int mm), .val (.int cc), .val (.ref r_1), .val (.ref r_2), .val (.int e00), .val (.int e01), .val (.int e02), .val (.int e10), .val (.int e11), .val (.int e12), .val (.int e20), .val (.int e21), .val (.int e22), .val (.int m4), .unset, .unset, .unset, .unset, .unset, .unset] [])) _
    refine XS.iload X15.here hx rfl (hb hby at_224) rfl ?_
    show Steps p.tables e below (T15.setTop (mkF m 226 #[.val (.long ja), .second, .val (.int a2), .val (.long jb), .second, .val (.int b2), .val (.int co), .val (.int ln), .val (.int nn), .val (.int mm), .val (.int cc), .val (.ref r_1), .val (.ref r_2), .val (.int e00), .val (.int e01), .val (.int e02), .val (.int e10), .val (.int e11), .val (.int e12), .val (.int e20), .val (.int e21), .val (.int e22), .val (.int m4), .unset, .unset, .unset, .unset, .unset, .unset] [(.int m4)])) _
    refine XS.iload X15.here hx rfl (hb hby at_226) rfl ?_
    show Steps p.tables e below (T15.setTop (mkF m 228 #[.val (.long ja), .second, .val (.int a2), .val (.long jb), .second, .val (.int b2), .val (.int co), .val (.int ln), .val (.int nn), .val (.int mm), .val (.int cc), .val (.ref r_1), .val (.ref r_2), .val (.int e00), .val (.int e01), .val (.int e02), .val (.int e10), .val (.int e11), .val (.int e12), .val (.int e20), .val (.int e21), .val (.int e22), .val (.int m4), .unset, .unset, .unset, .unset, .unset, .unset] [(.int e02), (.int m4)])) _
    refine XS.iload X15.here hx rfl (hb hby at_228) rfl ?_
    show Steps p.tables e below (T15.setTop (mkF m 230 #[.val (.long ja), .second, .val (.int a2), .val (.long jb), .second, .val (.int b2), .val (.int co), .val (.int ln), .val (.int nn), .val (.int mm), .val (.int cc), .val (.ref r_1), .val (.ref r_2), .val (.int e00), .val (.int e01), .val (.int e02), .val (.int e10), .val (.int e11), .val (.int e12), .val (.int e20), .val (.int e21), .val (.int e22), .val (.int m4), .unset, .unset, .unset, .unset, .unset, .unset] [(.int e11), (.int e02), (.int m4)])) _
    refine XS.iadd X15.here hx rfl (hb hby at_230) rfl ?_
    show Steps p.tables e below (T15.setTop (mkF m 231 #[.val (.long ja), .second, .val (.int a2), .val (.long jb), .second, .val (.int b2), .val (.int co), .val (.int ln), .val (.int nn), .val (.int mm), .val (.int cc), .val (.ref r_1), .val (.ref r_2), .val (.int e00), .val (.int e01), .val (.int e02), .val (.int e10), .val (.int e11), .val (.int e12), .val (.int e20), .val (.int e21), .val (.int e22), .val (.int m4), .unset, .unset, .unset, .unset, .unset, .unset] [(.int (e02 + e11)), (.int m4)])) _
    refine XS.iload X15.here hx rfl (hb hby at_231) rfl ?_
    show Steps p.tables e below (T15.setTop (mkF m 233 #[.val (.long ja), .second, .val (.int a2), .val (.long jb), .second, .val (.int b2), .val (.int co), .val (.int ln), .val (.int nn), .val (.int mm), .val (.int cc), .val (.ref r_1), .val (.ref r_2), .val (.int e00), .val (.int e01), .val (.int e02), .val (.int e10), .val (.int e11), .val (.int e12), .val (.int e20), .val (.int e21), .val (.int e22), .val (.int m4), .unset, .unset, .unset, .unset, .unset, .unset] [(.int e20), (.int (e02 + e11)), (.int m4)])) _
    refine XS.iadd X15.here hx rfl (hb hby at_233) rfl ?_
    show Steps p.tables e below (T15.setTop (mkF m 234 #[.val (.long ja), .second, .val (.int a2), .val (.long jb), .second, .val (.int b2), .val (.int co), .val (.int ln), .val (.int nn), .val (.int mm), .val (.int cc), .val (.ref r_1), .val (.ref r_2), .val (.int e00), .val (.int e01), .val (.int e02), .val (.int e10), .val (.int e11), .val (.int e12), .val (.int e20), .val (.int e21), .val (.int e22), .val (.int m4), .unset, .unset, .unset, .unset, .unset, .unset] [(.int ((e02 + e11) + e20)), (.int m4)])) _
    refine st16 _ ?_
    show Steps p.tables e below (T16.setTop (mkF m 237 #[.val (.long ja), .second, .val (.int a2), .val (.long jb), .second, .val (.int b2), .val (.int co), .val (.int ln), .val (.int nn), .val (.int mm), .val (.int cc), .val (.ref r_1), .val (.ref r_2), .val (.int e00), .val (.int e01), .val (.int e02), .val (.int e10), .val (.int e11), .val (.int e12), .val (.int e20), .val (.int e21), .val (.int e22), .val (.int m4), .unset, .unset, .unset, .unset, .unset, .unset] [(.int (maxI m4 ((e02 + e11) + e20)))])) _
    refine castTop (congrArg (fun z_ => (mkF m 237 #[.val (.long ja), .second, .val (.int a2), .val (.long jb), .second, .val (.int b2), .val (.int co), .val (.int ln), .val (.int nn), .val (.int mm), .val (.int cc), .val (.ref r_1), .val (.ref r_2), .val (.int e00), .val (.int e01), .val (.int e02), .val (.int e10), .val (.int e11), .val (.int e12), .val (.int e20), .val (.int e21), .val (.int e22), .val (.int m4), .unset, .unset, .unset, .unset, .unset, .unset] [(.int z_)])) (g5 : (maxI m4 ((e02 + e11) + e20)) = m5)) ?_
    show Steps p.tables e below (T16.setTop (mkF m 237 #[.val (.long ja), .second, .val (.int a2), .val (.long jb), .second, .val (.int b2), .val (.int co), .val (.int ln), .val (.int nn), .val (.int mm), .val (.int cc), .val (.ref r_1), .val (.ref r_2), .val (.int e00), .val (.int e01), .val (.int e02), .val (.int e10), .val (.int e11), .val (.int e12), .val (.int e20), .val (.int e21), .val (.int e22), .val (.int m4), .unset, .unset, .unset, .unset, .unset, .unset] [(.int m5)])) _
    refine XS.istore X16.here hx rfl (hb hby at_237) rfl (l' := #[.val (.long ja), .second, .val (.int a2), .val (.long jb), .second, .val (.int b2), .val (.int co), .val (.int ln), .val (.int nn), .val (.int mm), .val (.int cc), .val (.ref r_1), .val (.ref r_2), .val (.int e00), .val (.int e01), .val (.int e02), .val (.int e10), .val (.int e11), .val (.int e12), .val (.int e20), .val (.int e21), .val (.int e22), .val (.int m5), .unset, .unset, .unset, .unset, .unset, .unset]) rfl ?_
    show Steps p.tables e below (T16.setTop (mkF m 239 #[.val (.long ja), .second, .val (.int a2), .val (.long jb), .second, .val (.int b2), .val (.int co), .val (.int ln), .val (.int nn), .val (.int mm), .val (.int cc), .val (.ref r_1), .val (.ref r_2), .val (.int e00), .val (.int e01), .val (.int e02), .val (.int e10), .val (.int e11), .val (.int e12), .val (.int e20), .val (.int e21), .val (.int e22), .val (.int m5), .unset, .unset, .unset, .unset, .unset, .unset] [])) _
    refine XS.iload X16.here hx rfl (hb hby at_239) rfl ?_
    show Steps p.tables e below (T16.setTop (mkF m 241 #[.val (.long ja), .second, .val (.int a2), .val (.long jb), .second, .val (.int b2), .val (.int co), .val (.int ln), .val (.int nn), .val (.int mm), .val (.int cc), .val (.ref r_1), .val (.ref r_2), .val (.int e00), .val (.int e01), .val (.int e02), .val (.int e10), .val (.int e11), .val (.int e12), .val (.int e20), .val (.int e21), .val (.int e22), .val (.int m5), .unset, .unset, .unset, .unset, .unset, .unset] [(.int cc)])) _
    refine XS.iload X16.here hx rfl (hb hby at_241) rfl ?_
    show Steps p.tables e below (T16.setTop (mkF m 243 #[.val (.long ja), .second, .val (.int a2), .val (.long jb), .second, .val (.int b2), .val (.int co), .val (.int ln), .val (.int nn), .val (.int mm), .val (.int cc), .val (.ref r_1), .val (.ref r_2), .val (.int e00), .val (.int e01), .val (.int e02), .val (.int e10), .val (.int e11), .val (.int e12), .val (.int e20), .val (.int e21), .val (.int e22), .val (.int m5), .unset, .unset, .unset, .unset, .unset, .unset] [(.int m5), (.int cc)])) _
    refine XS.iadd X16.here hx rfl (hb hby at_243) rfl ?_
    show Steps p.tables e below (T16.setTop (mkF m 244 #[.val (.long ja), .second, .val (.int a2), .val (.long jb), .second, .val (.int b2), .val (.int co), .val (.int ln), .val (.int nn), .val (.int mm), .val (.int cc), .val (.ref r_1), .val (.ref r_2), .val (.int e00), .val (.int e01), .val (.int e02), .val (.int e10), .val (.int e11), .val (.int e12), .val (.int e20), .val (.int e21), .val (.int e22), .val (.int m5), .unset, .unset, .unset, .unset, .unset, .unset] [(.int (cc + m5))])) _
    refine XS.istore X16.here hx rfl (hb hby at_244) rfl (l' := #[.val (.long ja), .second, .val (.int a2), .val (.long jb), .second, .val (.int b2), .val (.int co), .val (.int ln), .val (.int nn), .val (.int mm), .val (.int cc), .val (.ref r_1), .val (.ref r_2), .val (.int e00), .val (.int e01), .val (.int e02), .val (.int e10), .val (.int e11), .val (.int e12), .val (.int e20), .val (.int e21), .val (.int e22), .val (.int m5), .val (.int (cc + m5)), .unset, .unset, .unset, .unset, .unset]) rfl ?_
    show Steps p.tables e below (T16.setTop (mkF m 246 #[.val (.long ja), .second, .val (.int a2), .val (.long jb), .second, .val (.int b2), .val (.int co), .val (.int ln), .val (.int nn), .val (.int mm), .val (.int cc), .val (.ref r_1), .val (.ref r_2), .val (.int e00), .val (.int e01), .val (.int e02), .val (.int e10), .val (.int e11), .val (.int e12), .val (.int e20), .val (.int e21), .val (.int e22), .val (.int m5), .val (.int (cc + m5)), .unset, .unset, .unset, .unset, .unset] [])) _
    refine XS.iload X16.here hx rfl (hb hby at_246) rfl ?_
    show Steps p.tables e below (T16.setTop (mkF m 248 #[.val (.long ja), .second, .val (.int a2), .val (.long jb), .second, .val (.int b2), .val (.int co), .val (.int ln), .val (.int nn), .val (.int mm), .val (.int cc), .val (.ref r_1), .val (.ref r_2), .val (.int e00), .val (.int e01), .val (.int e02), .val (.int e10), .val (.int e11), .val (.int e12), .val (.int e20), .val (.int e21), .val (.int e22), .val (.int m5), .val (.int (cc + m5)), .unset, .unset, .unset, .unset, .unset] [(.int nn)])) _
    refine XS.iload X16.here hx rfl (hb hby at_248) rfl ?_
    show Steps p.tables e below (T16.setTop (mkF m 250 #[.val (.long ja), .second, .val (.int a2), .val (.long jb), .second, .val (.int b2), .val (.int co), .val (.int ln), .val (.int nn), .val (.int mm), .val (.int cc), .val (.ref r_1), .val (.ref r_2), .val (.int e00), .val (.int e01), .val (.int e02), .val (.int e10), .val (.int e11), .val (.int e12), .val (.int e20), .val (.int e21), .val (.int e22), .val (.int m5), .val (.int (cc + m5)), .unset, .unset, .unset, .unset, .unset] [(.int mm), (.int nn)])) _
    refine XS.iadd X16.here hx rfl (hb hby at_250) rfl ?_
    show Steps p.tables e below (T16.setTop (mkF m 251 #[.val (.long ja), .second, .val (.int a2), .val (.long jb), .second, .val (.int b2), .val (.int co), .val (.int ln), .val (.int nn), .val (.int mm), .val (.int cc), .val (.ref r_1), .val (.ref r_2), .val (.int e00), .val (.int e01), .val (.int e02), .val (.int e10), .val (.int e11), .val (.int e12), .val (.int e20), .val (.int e21), .val (.int e22), .val (.int m5), .val (.int (cc + m5)), .unset, .unset, .unset, .unset, .unset] [(.int (nn + mm))])) _
    refine XS.iconst X16.here hx rfl (hb hby at_251) ?_
    show Steps p.tables e below (T16.setTop (mkF m 252 #[.val (.long ja), .second, .val (.int a2), .val (.long jb), .second, .val (.int b2), .val (.int co), .val (.int ln), .val (.int nn), .val (.int mm), .val (.int cc), .val (.ref r_1), .val (.ref r_2), .val (.int e00), .val (.int e01), .val (.int e02), .val (.int e10), .val (.int e11), .val (.int e12), .val (.int e20), .val (.int e21), .val (.int e22), .val (.int m5), .val (.int (cc + m5)), .unset, .unset, .unset, .unset, .unset] [(.int (2 : Int32)), (.int (nn + mm))])) _
    refine XS.iload X16.here hx rfl (hb hby at_252) rfl ?_
    show Steps p.tables e below (T16.setTop (mkF m 254 #[.val (.long ja), .second, .val (.int a2), .val (.long jb), .second, .val (.int b2), .val (.int co), .val (.int ln), .val (.int nn), .val (.int mm), .val (.int cc), .val (.ref r_1), .val (.ref r_2), .val (.int e00), .val (.int e01), .val (.int e02), .val (.int e10), .val (.int e11), .val (.int e12), .val (.int e20), .val (.int e21), .val (.int e22), .val (.int m5), .val (.int (cc + m5)), .unset, .unset, .unset, .unset, .unset] [(.int cc), (.int (2 : Int32)), (.int (nn + mm))])) _
    refine XS.imul X16.here hx rfl (hb hby at_254) rfl ?_
    show Steps p.tables e below (T16.setTop (mkF m 255 #[.val (.long ja), .second, .val (.int a2), .val (.long jb), .second, .val (.int b2), .val (.int co), .val (.int ln), .val (.int nn), .val (.int mm), .val (.int cc), .val (.ref r_1), .val (.ref r_2), .val (.int e00), .val (.int e01), .val (.int e02), .val (.int e10), .val (.int e11), .val (.int e12), .val (.int e20), .val (.int e21), .val (.int e22), .val (.int m5), .val (.int (cc + m5)), .unset, .unset, .unset, .unset, .unset] [(.int ((2 : Int32) * cc)), (.int (nn + mm))])) _
    refine XS.iadd X16.here hx rfl (hb hby at_255) rfl ?_
    show Steps p.tables e below (T16.setTop (mkF m 256 #[.val (.long ja), .second, .val (.int a2), .val (.long jb), .second, .val (.int b2), .val (.int co), .val (.int ln), .val (.int nn), .val (.int mm), .val (.int cc), .val (.ref r_1), .val (.ref r_2), .val (.int e00), .val (.int e01), .val (.int e02), .val (.int e10), .val (.int e11), .val (.int e12), .val (.int e20), .val (.int e21), .val (.int e22), .val (.int m5), .val (.int (cc + m5)), .unset, .unset, .unset, .unset, .unset] [(.int ((nn + mm) + ((2 : Int32) * cc)))])) _
    refine castTop (congrArg (fun z_ => (mkF m 256 #[.val (.long ja), .second, .val (.int a2), .val (.long jb), .second, .val (.int b2), .val (.int co), .val (.int ln), .val (.int nn), .val (.int mm), .val (.int cc), .val (.ref r_1), .val (.ref r_2), .val (.int e00), .val (.int e01), .val (.int e02), .val (.int e10), .val (.int e11), .val (.int e12), .val (.int e20), .val (.int e21), .val (.int e22), .val (.int m5), .val (.int (cc + m5)), .unset, .unset, .unset, .unset, .unset] [(.int z_)])) (hal : ((nn + mm) + ((2 : Int32) * cc)) = al)) ?_
    show Steps p.tables e below (T16.setTop (mkF m 256 #[.val (.long ja), .second, .val (.int a2), .val (.long jb), .second, .val (.int b2), .val (.int co), .val (.int ln), .val (.int nn), .val (.int mm), .val (.int cc), .val (.ref r_1), .val (.ref r_2), .val (.int e00), .val (.int e01), .val (.int e02), .val (.int e10), .val (.int e11), .val (.int e12), .val (.int e20), .val (.int e21), .val (.int e22), .val (.int m5), .val (.int (cc + m5)), .unset, .unset, .unset, .unset, .unset] [(.int al)])) _
    refine XS.istore X16.here hx rfl (hb hby at_256) rfl (l' := #[.val (.long ja), .second, .val (.int a2), .val (.long jb), .second, .val (.int b2), .val (.int co), .val (.int ln), .val (.int nn), .val (.int mm), .val (.int cc), .val (.ref r_1), .val (.ref r_2), .val (.int e00), .val (.int e01), .val (.int e02), .val (.int e10), .val (.int e11), .val (.int e12), .val (.int e20), .val (.int e21), .val (.int e22), .val (.int m5), .val (.int (cc + m5)), .val (.int al), .unset, .unset, .unset, .unset]) rfl ?_
    show Steps p.tables e below (T16.setTop (mkF m 258 #[.val (.long ja), .second, .val (.int a2), .val (.long jb), .second, .val (.int b2), .val (.int co), .val (.int ln), .val (.int nn), .val (.int mm), .val (.int cc), .val (.ref r_1), .val (.ref r_2), .val (.int e00), .val (.int e01), .val (.int e02), .val (.int e10), .val (.int e11), .val (.int e12), .val (.int e20), .val (.int e21), .val (.int e22), .val (.int m5), .val (.int (cc + m5)), .val (.int al), .unset, .unset, .unset, .unset] [])) _
    refine XS.iload X16.here hx rfl (hb hby at_258) rfl ?_
    show Steps p.tables e below (T16.setTop (mkF m 260 #[.val (.long ja), .second, .val (.int a2), .val (.long jb), .second, .val (.int b2), .val (.int co), .val (.int ln), .val (.int nn), .val (.int mm), .val (.int cc), .val (.ref r_1), .val (.ref r_2), .val (.int e00), .val (.int e01), .val (.int e02), .val (.int e10), .val (.int e11), .val (.int e12), .val (.int e20), .val (.int e21), .val (.int e22), .val (.int m5), .val (.int (cc + m5)), .val (.int al), .unset, .unset, .unset, .unset] [(.int al)])) _
    refine XS.ifYes X16.here hx rfl (pc0 := 260) (pc' := 269) rfl (hb hby at_260) rfl ((if0 _ _).trans (feq (hc260 : ¬ (al = (0 : Int32)))).2) (by decide) (by decide) ?_
    show Steps p.tables e below (T16.setTop (mkF m 269 #[.val (.long ja), .second, .val (.int a2), .val (.long jb), .second, .val (.int b2), .val (.int co), .val (.int ln), .val (.int nn), .val (.int mm), .val (.int cc), .val (.ref r_1), .val (.ref r_2), .val (.int e00), .val (.int e01), .val (.int e02), .val (.int e10), .val (.int e11), .val (.int e12), .val (.int e20), .val (.int e21), .val (.int e22), .val (.int m5), .val (.int (cc + m5)), .val (.int al), .unset, .unset, .unset, .unset] [])) _
    refine X16.ldc2DoubleC hx hown (mvT hZ (hw _ (List.mem_of_getElem? (i := 17) rfl))) (g := (mkF m 269 #[.val (.long ja), .second, .val (.int a2), .val (.long jb), .second, .val (.int b2), .val (.int co), .val (.int ln), .val (.int nn), .val (.int mm), .val (.int cc), .val (.ref r_1), .val (.ref r_2), .val (.int e00), .val (.int e01), .val (.int e02), .val (.int e10), .val (.int e11), .val (.int e12), .val (.int e20), .val (.int e21), .val (.int e22), .val (.int m5), .val (.int (cc + m5)), .val (.int al), .unset, .unset, .unset, .unset] [])) rfl (hb hby at_269) _ ?_
    show Steps p.tables e below (T16.setTop (mkF m 272 #[.val (.long ja), .second, .val (.int a2), .val (.long jb), .second, .val (.int b2), .val (.int co), .val (.int ln), .val (.int nn), .val (.int mm), .val (.int cc), .val (.ref r_1), .val (.ref r_2), .val (.int e00), .val (.int e01), .val (.int e02), .val (.int e10), .val (.int e11), .val (.int e12), .val (.int e20), .val (.int e21), .val (.int e22), .val (.int m5), .val (.int (cc + m5)), .val (.int al), .unset, .unset, .unset, .unset] [(.double (4611686018427387904 : UInt64))])) _
    refine XS.iload X16.here hx rfl (hb hby at_272) rfl ?_
    show Steps p.tables e below (T16.setTop (mkF m 274 #[.val (.long ja), .second, .val (.int a2), .val (.long jb), .second, .val (.int b2), .val (.int co), .val (.int ln), .val (.int nn), .val (.int mm), .val (.int cc), .val (.ref r_1), .val (.ref r_2), .val (.int e00), .val (.int e01), .val (.int e02), .val (.int e10), .val (.int e11), .val (.int e12), .val (.int e20), .val (.int e21), .val (.int e22), .val (.int m5), .val (.int (cc + m5)), .val (.int al), .unset, .unset, .unset, .unset] [(.int (cc + m5)), (.double (4611686018427387904 : UInt64))])) _
    refine XS.i2dS X16.here hx rfl (hb hby at_274) rfl rfl ?_
    show Steps p.tables e below (T16.setTop (mkF m 275 #[.val (.long ja), .second, .val (.int a2), .val (.long jb), .second, .val (.int b2), .val (.int co), .val (.int ln), .val (.int nn), .val (.int mm), .val (.int cc), .val (.ref r_1), .val (.ref r_2), .val (.int e00), .val (.int e01), .val (.int e02), .val (.int e10), .val (.int e11), .val (.int e12), .val (.int e20), .val (.int e21), .val (.int e22), .val (.int m5), .val (.int (cc + m5)), .val (.int al), .unset, .unset, .unset, .unset] [(.double (FP.i2d (cc + m5))), (.double (4611686018427387904 : UInt64))])) _
    refine XS.dmulS X16.here hx rfl (hb hby at_275) rfl (nn_mul _) rfl ?_
    show Steps p.tables e below (T16.setTop (mkF m 276 #[.val (.long ja), .second, .val (.int a2), .val (.long jb), .second, .val (.int b2), .val (.int co), .val (.int ln), .val (.int nn), .val (.int mm), .val (.int cc), .val (.ref r_1), .val (.ref r_2), .val (.int e00), .val (.int e01), .val (.int e02), .val (.int e10), .val (.int e11), .val (.int e12), .val (.int e20), .val (.int e21), .val (.int e22), .val (.int m5), .val (.int (cc + m5)), .val (.int al), .unset, .unset, .unset, .unset] [(.double (FP.dmul (4611686018427387904 : UInt64) (FP.i2d (cc + m5))))])) _
    refine XS.iload X16.here hx rfl (hb hby at_276) rfl ?_
    show Steps p.tables e below (T16.setTop (mkF m 278 #[.val (.long ja), .second, .val (.int a2), .val (.long jb), .second, .val (.int b2), .val (.int co), .val (.int ln), .val (.int nn), .val (.int mm), .val (.int cc), .val (.ref r_1), .val (.ref r_2), .val (.int e00), .val (.int e01), .val (.int e02), .val (.int e10), .val (.int e11), .val (.int e12), .val (.int e20), .val (.int e21), .val (.int e22), .val (.int m5), .val (.int (cc + m5)), .val (.int al), .unset, .unset, .unset, .unset] [(.int al), (.double (FP.dmul (4611686018427387904 : UInt64) (FP.i2d (cc + m5))))])) _
    refine XS.i2dS X16.here hx rfl (hb hby at_278) rfl rfl ?_
    show Steps p.tables e below (T16.setTop (mkF m 279 #[.val (.long ja), .second, .val (.int a2), .val (.long jb), .second, .val (.int b2), .val (.int co), .val (.int ln), .val (.int nn), .val (.int mm), .val (.int cc), .val (.ref r_1), .val (.ref r_2), .val (.int e00), .val (.int e01), .val (.int e02), .val (.int e10), .val (.int e11), .val (.int e12), .val (.int e20), .val (.int e21), .val (.int e22), .val (.int m5), .val (.int (cc + m5)), .val (.int al), .unset, .unset, .unset, .unset] [(.double (FP.i2d al)), (.double (FP.dmul (4611686018427387904 : UInt64) (FP.i2d (cc + m5))))])) _
    refine XS.ddivS X16.here hx rfl (hb hby at_279) rfl (nn_div _ hc260) rfl ?_
    show Steps p.tables e below (T16.setTop (mkF m 280 #[.val (.long ja), .second, .val (.int a2), .val (.long jb), .second, .val (.int b2), .val (.int co), .val (.int ln), .val (.int nn), .val (.int mm), .val (.int cc), .val (.ref r_1), .val (.ref r_2), .val (.int e00), .val (.int e01), .val (.int e02), .val (.int e10), .val (.int e11), .val (.int e12), .val (.int e20), .val (.int e21), .val (.int e22), .val (.int m5), .val (.int (cc + m5)), .val (.int al), .unset, .unset, .unset, .unset] [(.double (FP.ddiv (FP.dmul (4611686018427387904 : UInt64) (FP.i2d (cc + m5))) (FP.i2d al)))])) _
    refine XS.dstore X16.here hx rfl (hb hby at_280) rfl (l' := #[.val (.long ja), .second, .val (.int a2), .val (.long jb), .second, .val (.int b2), .val (.int co), .val (.int ln), .val (.int nn), .val (.int mm), .val (.int cc), .val (.ref r_1), .val (.ref r_2), .val (.int e00), .val (.int e01), .val (.int e02), .val (.int e10), .val (.int e11), .val (.int e12), .val (.int e20), .val (.int e21), .val (.int e22), .val (.int m5), .val (.int (cc + m5)), .val (.int al), .val (.double (FP.ddiv (FP.dmul (4611686018427387904 : UInt64) (FP.i2d (cc + m5))) (FP.i2d al))), .second, .unset, .unset]) rfl ?_
    show Steps p.tables e below (T16.setTop (mkF m 282 #[.val (.long ja), .second, .val (.int a2), .val (.long jb), .second, .val (.int b2), .val (.int co), .val (.int ln), .val (.int nn), .val (.int mm), .val (.int cc), .val (.ref r_1), .val (.ref r_2), .val (.int e00), .val (.int e01), .val (.int e02), .val (.int e10), .val (.int e11), .val (.int e12), .val (.int e20), .val (.int e21), .val (.int e22), .val (.int m5), .val (.int (cc + m5)), .val (.int al), .val (.double (FP.ddiv (FP.dmul (4611686018427387904 : UInt64) (FP.i2d (cc + m5))) (FP.i2d al))), .second, .unset, .unset] [])) _
    refine XS.aload X16.here hx rfl (hb hby at_282) rfl rfl ?_
    show Steps p.tables e below (T16.setTop (mkF m 284 #[.val (.long ja), .second, .val (.int a2), .val (.long jb), .second, .val (.int b2), .val (.int co), .val (.int ln), .val (.int nn), .val (.int mm), .val (.int cc), .val (.ref r_1), .val (.ref r_2), .val (.int e00), .val (.int e01), .val (.int e02), .val (.int e10), .val (.int e11), .val (.int e12), .val (.int e20), .val (.int e21), .val (.int e22), .val (.int m5), .val (.int (cc + m5)), .val (.int al), .val (.double (FP.ddiv (FP.dmul (4611686018427387904 : UInt64) (FP.i2d (cc + m5))) (FP.i2d al))), .second, .unset, .unset] [(.ref r_1)])) _
    refine XS.aload X16.here hx rfl (hb hby at_284) rfl rfl ?_
    show Steps p.tables e below (T16.setTop (mkF m 286 #[.val (.long ja), .second, .val (.int a2), .val (.long jb), .second, .val (.int b2), .val (.int co), .val (.int ln), .val (.int nn), .val (.int mm), .val (.int cc), .val (.ref r_1), .val (.ref r_2), .val (.int e00), .val (.int e01), .val (.int e02), .val (.int e10), .val (.int e11), .val (.int e12), .val (.int e20), .val (.int e21), .val (.int e22), .val (.int m5), .val (.int (cc + m5)), .val (.int al), .val (.double (FP.ddiv (FP.dmul (4611686018427387904 : UInt64) (FP.i2d (cc + m5))) (FP.i2d al))), .second, .unset, .unset] [(.ref r_2), (.ref r_1)])) _
    refine XS.iload X16.here hx rfl (hb hby at_286) rfl ?_
    show Steps p.tables e below (T16.setTop (mkF m 288 #[.val (.long ja), .second, .val (.int a2), .val (.long jb), .second, .val (.int b2), .val (.int co), .val (.int ln), .val (.int nn), .val (.int mm), .val (.int cc), .val (.ref r_1), .val (.ref r_2), .val (.int e00), .val (.int e01), .val (.int e02), .val (.int e10), .val (.int e11), .val (.int e12), .val (.int e20), .val (.int e21), .val (.int e22), .val (.int m5), .val (.int (cc + m5)), .val (.int al), .val (.double (FP.ddiv (FP.dmul (4611686018427387904 : UInt64) (FP.i2d (cc + m5))) (FP.i2d al))), .second, .unset, .unset] [(.int cc), (.ref r_2), (.ref r_1)])) _
    refine st17 _ ?_
    show Steps p.tables e below (T17.setTop (mkF m 291 #[.val (.long ja), .second, .val (.int a2), .val (.long jb), .second, .val (.int b2), .val (.int co), .val (.int ln), .val (.int nn), .val (.int mm), .val (.int cc), .val (.ref r_1), .val (.ref r_2), .val (.int e00), .val (.int e01), .val (.int e02), .val (.int e10), .val (.int e11), .val (.int e12), .val (.int e20), .val (.int e21), .val (.int e22), .val (.int m5), .val (.int (cc + m5)), .val (.int al), .val (.double (FP.ddiv (FP.dmul (4611686018427387904 : UInt64) (FP.i2d (cc + m5))) (FP.i2d al))), .second, .unset, .unset] [(.double (lkD nn mm f g cc))])) _
    refine castTop (congrArg (fun z_ => (mkF m 291 #[.val (.long ja), .second, .val (.int a2), .val (.long jb), .second, .val (.int b2), .val (.int co), .val (.int ln), .val (.int nn), .val (.int mm), .val (.int cc), .val (.ref r_1), .val (.ref r_2), .val (.int e00), .val (.int e01), .val (.int e02), .val (.int e10), .val (.int e11), .val (.int e12), .val (.int e20), .val (.int e21), .val (.int e22), .val (.int m5), .val (.int (cc + m5)), .val (.int al), .val (.double (FP.ddiv (FP.dmul (4611686018427387904 : UInt64) (FP.i2d (cc + m5))) (FP.i2d al))), .second, .unset, .unset] [(.double z_)])) (by rw [lkD, hal, if_neg hc260, hmr] : (lkD nn mm f g cc) = (FP.ddiv (FP.dmul (4611686018427387904 : UInt64) (FP.i2d (cc + m5))) (FP.i2d al)))) ?_
    show Steps p.tables e below (T17.setTop (mkF m 291 #[.val (.long ja), .second, .val (.int a2), .val (.long jb), .second, .val (.int b2), .val (.int co), .val (.int ln), .val (.int nn), .val (.int mm), .val (.int cc), .val (.ref r_1), .val (.ref r_2), .val (.int e00), .val (.int e01), .val (.int e02), .val (.int e10), .val (.int e11), .val (.int e12), .val (.int e20), .val (.int e21), .val (.int e22), .val (.int m5), .val (.int (cc + m5)), .val (.int al), .val (.double (FP.ddiv (FP.dmul (4611686018427387904 : UInt64) (FP.i2d (cc + m5))) (FP.i2d al))), .second, .unset, .unset] [(.double (FP.ddiv (FP.dmul (4611686018427387904 : UInt64) (FP.i2d (cc + m5))) (FP.i2d al)))])) _
    refine XS.dstore X17.here hx rfl (hb hby at_291) rfl (l' := #[.val (.long ja), .second, .val (.int a2), .val (.long jb), .second, .val (.int b2), .val (.int co), .val (.int ln), .val (.int nn), .val (.int mm), .val (.int cc), .val (.ref r_1), .val (.ref r_2), .val (.int e00), .val (.int e01), .val (.int e02), .val (.int e10), .val (.int e11), .val (.int e12), .val (.int e20), .val (.int e21), .val (.int e22), .val (.int m5), .val (.int (cc + m5)), .val (.int al), .val (.double (FP.ddiv (FP.dmul (4611686018427387904 : UInt64) (FP.i2d (cc + m5))) (FP.i2d al))), .second, .val (.double (FP.ddiv (FP.dmul (4611686018427387904 : UInt64) (FP.i2d (cc + m5))) (FP.i2d al))), .second]) rfl ?_
    show Steps p.tables e below (T17.setTop (mkF m 293 #[.val (.long ja), .second, .val (.int a2), .val (.long jb), .second, .val (.int b2), .val (.int co), .val (.int ln), .val (.int nn), .val (.int mm), .val (.int cc), .val (.ref r_1), .val (.ref r_2), .val (.int e00), .val (.int e01), .val (.int e02), .val (.int e10), .val (.int e11), .val (.int e12), .val (.int e20), .val (.int e21), .val (.int e22), .val (.int m5), .val (.int (cc + m5)), .val (.int al), .val (.double (FP.ddiv (FP.dmul (4611686018427387904 : UInt64) (FP.i2d (cc + m5))) (FP.i2d al))), .second, .val (.double (FP.ddiv (FP.dmul (4611686018427387904 : UInt64) (FP.i2d (cc + m5))) (FP.i2d al))), .second] [])) _
    refine XS.dload X17.here hx rfl (hb hby at_293) rfl ?_
    show Steps p.tables e below (T17.setTop (mkF m 295 #[.val (.long ja), .second, .val (.int a2), .val (.long jb), .second, .val (.int b2), .val (.int co), .val (.int ln), .val (.int nn), .val (.int mm), .val (.int cc), .val (.ref r_1), .val (.ref r_2), .val (.int e00), .val (.int e01), .val (.int e02), .val (.int e10), .val (.int e11), .val (.int e12), .val (.int e20), .val (.int e21), .val (.int e22), .val (.int m5), .val (.int (cc + m5)), .val (.int al), .val (.double (FP.ddiv (FP.dmul (4611686018427387904 : UInt64) (FP.i2d (cc + m5))) (FP.i2d al))), .second, .val (.double (FP.ddiv (FP.dmul (4611686018427387904 : UInt64) (FP.i2d (cc + m5))) (FP.i2d al))), .second] [(.double (FP.ddiv (FP.dmul (4611686018427387904 : UInt64) (FP.i2d (cc + m5))) (FP.i2d al)))])) _
    refine XS.dload X17.here hx rfl (hb hby at_295) rfl ?_
    show Steps p.tables e below (T17.setTop (mkF m 297 #[.val (.long ja), .second, .val (.int a2), .val (.long jb), .second, .val (.int b2), .val (.int co), .val (.int ln), .val (.int nn), .val (.int mm), .val (.int cc), .val (.ref r_1), .val (.ref r_2), .val (.int e00), .val (.int e01), .val (.int e02), .val (.int e10), .val (.int e11), .val (.int e12), .val (.int e20), .val (.int e21), .val (.int e22), .val (.int m5), .val (.int (cc + m5)), .val (.int al), .val (.double (FP.ddiv (FP.dmul (4611686018427387904 : UInt64) (FP.i2d (cc + m5))) (FP.i2d al))), .second, .val (.double (FP.ddiv (FP.dmul (4611686018427387904 : UInt64) (FP.i2d (cc + m5))) (FP.i2d al))), .second] [(.double (FP.ddiv (FP.dmul (4611686018427387904 : UInt64) (FP.i2d (cc + m5))) (FP.i2d al))), (.double (FP.ddiv (FP.dmul (4611686018427387904 : UInt64) (FP.i2d (cc + m5))) (FP.i2d al)))])) _
    refine XS.dcmpS X17.here hx rfl (hb hby at_297) rfl (v := (0 : Int32)) (dcmpV_self (nn_div _ hc260) _) ?_
    show Steps p.tables e below (T17.setTop (mkF m 298 #[.val (.long ja), .second, .val (.int a2), .val (.long jb), .second, .val (.int b2), .val (.int co), .val (.int ln), .val (.int nn), .val (.int mm), .val (.int cc), .val (.ref r_1), .val (.ref r_2), .val (.int e00), .val (.int e01), .val (.int e02), .val (.int e10), .val (.int e11), .val (.int e12), .val (.int e20), .val (.int e21), .val (.int e22), .val (.int m5), .val (.int (cc + m5)), .val (.int al), .val (.double (FP.ddiv (FP.dmul (4611686018427387904 : UInt64) (FP.i2d (cc + m5))) (FP.i2d al))), .second, .val (.double (FP.ddiv (FP.dmul (4611686018427387904 : UInt64) (FP.i2d (cc + m5))) (FP.i2d al))), .second] [(.int (0 : Int32))])) _
    refine XS.ifNo X17.here hx rfl (hb hby at_298) rfl ((if0 _ _).trans (teq (by decide : (0 : Int32) = (0 : Int32))).2) ?_
    show Steps p.tables e below (T17.setTop (mkF m 301 #[.val (.long ja), .second, .val (.int a2), .val (.long jb), .second, .val (.int b2), .val (.int co), .val (.int ln), .val (.int nn), .val (.int mm), .val (.int cc), .val (.ref r_1), .val (.ref r_2), .val (.int e00), .val (.int e01), .val (.int e02), .val (.int e10), .val (.int e11), .val (.int e12), .val (.int e20), .val (.int e21), .val (.int e22), .val (.int m5), .val (.int (cc + m5)), .val (.int al), .val (.double (FP.ddiv (FP.dmul (4611686018427387904 : UInt64) (FP.i2d (cc + m5))) (FP.i2d al))), .second, .val (.double (FP.ddiv (FP.dmul (4611686018427387904 : UInt64) (FP.i2d (cc + m5))) (FP.i2d al))), .second] [])) _
    refine XS.iconst X17.here hx rfl (hb hby at_301) ?_
    show Steps p.tables e below (T17.setTop (mkF m 302 #[.val (.long ja), .second, .val (.int a2), .val (.long jb), .second, .val (.int b2), .val (.int co), .val (.int ln), .val (.int nn), .val (.int mm), .val (.int cc), .val (.ref r_1), .val (.ref r_2), .val (.int e00), .val (.int e01), .val (.int e02), .val (.int e10), .val (.int e11), .val (.int e12), .val (.int e20), .val (.int e21), .val (.int e22), .val (.int m5), .val (.int (cc + m5)), .val (.int al), .val (.double (FP.ddiv (FP.dmul (4611686018427387904 : UInt64) (FP.i2d (cc + m5))) (FP.i2d al))), .second, .val (.double (FP.ddiv (FP.dmul (4611686018427387904 : UInt64) (FP.i2d (cc + m5))) (FP.i2d al))), .second] [(.int (1 : Int32))])) _
    refine XS.goto X17.here hx rfl (pc0 := 302) (pc' := 306) rfl (hb hby at_302) (by decide) (by decide) ?_
    show Steps p.tables e below (T17.setTop (mkF m 306 #[.val (.long ja), .second, .val (.int a2), .val (.long jb), .second, .val (.int b2), .val (.int co), .val (.int ln), .val (.int nn), .val (.int mm), .val (.int cc), .val (.ref r_1), .val (.ref r_2), .val (.int e00), .val (.int e01), .val (.int e02), .val (.int e10), .val (.int e11), .val (.int e12), .val (.int e20), .val (.int e21), .val (.int e22), .val (.int m5), .val (.int (cc + m5)), .val (.int al), .val (.double (FP.ddiv (FP.dmul (4611686018427387904 : UInt64) (FP.i2d (cc + m5))) (FP.i2d al))), .second, .val (.double (FP.ddiv (FP.dmul (4611686018427387904 : UInt64) (FP.i2d (cc + m5))) (FP.i2d al))), .second] [(.int (1 : Int32))])) _
    exact retN X17 hx (t := .boolean) Bd.returns (by simp) (hb hby at_306) hr
  · show Q_law Z ja a2 jb b2 co ln h0 n0 _ T17.heap _
    rw [kh17]
    exact ⟨rfl, N17⟩
set_option maxRecDepth 65536 in
set_option maxHeartbeats 40000000 in
theorem law (l : Launch) (Z : State) (a0 : Array Value) (hw : ∀ d ∈ tables_1, d.before a0 Z = true) (ws : List Jvm.Cond) (ja : Int64) (a2 : Int32) (jb : Int64) (b2 : Int32) (co : Int32) (ln : Int32) (h0 : Heap) (n0 : Nat) (O0 : Old Z n0 h0) :
    MetFree l x (head1 (Jvm.Cond.code x code maxLocals ret :: ws) room_1) (fun zA zU => zA = #[(.long ja), (.int a2), (.long jb), (.int b2), (.int co), (.int ln)] ∧ Z.Warmed39 zU.vm ∧ zU.heap = h0) (fun _ _ _ _ _ => True) (fun _ zU zo zU' => ∃ zv zL, zo = .returned zv ∧ Q_law Z ja a2 jb b2 co ln h0 n0 zv zU'.heap zL ∧ FrameEnd zU zo zU' zL room_1.cells room_1.slots) := by
  obtain ⟨n, hn, en⟩ := own_len ln
  obtain ⟨q, hq, eq'⟩ := own_len ((ln.toUInt32 >>> ((2 : Int32) &&& 31).toUInt32).toInt32)
  have v1 := own_4 hn en
  have v2 := own_4 hq eq'
  have w1 := own_3 hn en
  have w2 := own_3 hq eq'
  have mr := own_main (cc := ((co &&& (2147483647 : Int32)) % (1073741820 : Int32))) hn hq en eq' (x := (ja.toInt32)) (y := ((ja.toUInt64 >>> ((32 : Int32) &&& 0x3f).toInt64.toUInt64).toInt64.toInt32)) (z := a2) (x' := (jb.toInt32)) (y' := ((jb.toUInt64 >>> ((32 : Int32) &&& 0x3f).toInt64.toUInt64).toInt64.toInt32)) (z' := b2) rfl rfl rfl rfl rfl rfl rfl rfl rfl rfl rfl rfl rfl rfl rfl rfl
  by_cases h : (((ln &&& (3 : Int32)) + (((ln.toUInt32 >>> ((2 : Int32) &&& 31).toUInt32).toInt32) &&& (3 : Int32))) + ((2 : Int32) * ((co &&& (2147483647 : Int32)) % (1073741820 : Int32)))) = (0 : Int32)
  · exact law_1 l Z a0 hw ws ja a2 jb b2 co ln h0 n0 O0  _ _ _ _ _ _ _ _ _ _ _ _ _ _ _ _ _ _ _ _ rfl rfl rfl v1 v2 w1 w2 rfl rfl rfl rfl rfl rfl rfl rfl rfl rfl rfl rfl rfl rfl rfl rfl rfl mr h
  · exact law_2 l Z a0 hw ws ja a2 jb b2 co ln h0 n0 O0  _ _ _ _ _ _ _ _ _ _ _ _ _ _ _ _ _ _ _ _ rfl rfl rfl v1 v2 w1 w2 rfl rfl rfl rfl rfl rfl rfl rfl rfl rfl rfl rfl rfl rfl rfl rfl rfl mr h
set_option maxRecDepth 65536 in
set_option maxHeartbeats 40000000 in
theorem comes_1 {Post : Tables → Env → Array Value → State → Outcome → State → Prop} (hpost : ∀ tb e args s v u, (limb_1_1.after args s (.returned v) u = true ∧ limb_1_2.after args s (.returned v) u = true ∧ True) → FrameEnd s (.returned v) u (Jvm.fieldLocs frame_1_writes args s ++ Jvm.arrayLocs frame_1_arrays args s ++ Jvm.staticLocs frame_1_statics s) 16 128 → Post tb e args s (.returned v) u) :
    ArmFor flags0 classFile x code maxLocals ret World_1 tables_1 room_1 Calls_1 rest_1 Pre_1 Post := by
  intro l hfl _ _ p e ha hc hk s m args below hf hA hF happ hP
  obtain ⟨hcalls, hrest, hpre⟩ := hP
  obtain ⟨-, -, -, hnamed, -, -, -, hat⟩ := (Spec.applies_iff hf).mp happ
  obtain ⟨hg, hn⟩ := and_e (Cond.before_iff.mp (show (Jvm.Cond.and given_1 narrow_1).before args s = true from hpre))
  obtain ⟨gA0, gB0⟩ := and_e hg
  obtain ⟨gA1, gB1⟩ := and_e gB0
  obtain ⟨gA2, gB2⟩ := and_e gB1
  obtain ⟨gA3, gB3⟩ := and_e gB2
  obtain ⟨gA4, gB4⟩ := and_e gB3
  obtain ⟨gA5, gB5⟩ := and_e gB4
  obtain ⟨w0, w1, w2, w3, w4, w5, rfl⟩ : ∃ w0 w1 w2 w3 w4 w5 : Value, args = #[w0, w1, w2, w3, w4, w5] := by
    have hs : args.size = 6 := by simpa [Cond.value, given_1] using gA0
    obtain ⟨L⟩ := args
    match L, hs with
    | [w0, w1, w2, w3, w4, w5], _ => exact ⟨w0, w1, w2, w3, w4, w5, rfl⟩
  have hw := fun d (hd : d ∈ tables_1) => atoms_spec (ws := Jvm.Cond.code x code maxLocals ret :: tables_1) hat d (List.mem_cons_of_mem _ hd)
  have hfit : Fit s := fun {y c} hc i hi => by
    obtain ⟨ha, rfl⟩ := Array.getElem?_eq_some_iff.mp hc
    have q := List.all_eq_true.mp ((Array.all_eq_true_iff_forall_mem.mp hF) _ (Array.getElem_mem ha)) i (List.mem_range.mpr hi)
    simpa [Array.getElem?_eq_getElem hi] using q
  obtain ⟨i0, ei0⟩ := isL_v gA1
  obtain rfl : w0 = (.long i0) := Option.some.inj ei0
  obtain ⟨i1, ei1⟩ := is_v gA2
  obtain rfl : w1 = (.int i1) := Option.some.inj ei1
  obtain ⟨i2, ei2⟩ := isL_v gA3
  obtain rfl : w2 = (.long i2) := Option.some.inj ei2
  obtain ⟨i3, ei3⟩ := is_v gA4
  obtain rfl : w3 = (.int i3) := Option.some.inj ei3
  obtain ⟨i4, ei4⟩ := is_v gA5
  obtain rfl : w4 = (.int i4) := Option.some.inj ei4
  obtain ⟨i5, ei5⟩ := is_v gB5
  obtain rfl : w5 = (.int i5) := Option.some.inj ei5
  obtain ⟨n, o, h1, h2, h3, _, L, rfl, ⟨rfl, N⟩, hq⟩ := law l s _ hw tables_1 i0 i1 i2 i3 i4 i5 s.heap s.heap.size (Old.start s) p e ha hc hk s m _ below hf ((Spec.applies_iff_loose hf).mp happ).1 ⟨rfl, State.Warmed39.refl s, rfl⟩ trivial
  refine ⟨n, _, h1, h2, h3, hpost _ _ _ _ _ _ ⟨Cond.after_iff.mpr rfl, Cond.after_iff.mpr (eq_i res_at (Term.int_eval (1)) rfl), trivial⟩ ⟨hq.1, hq.2.1, (hq.2.2.sift fun y hy => Or.inr (N y hy)).mono (by decide) (by decide)⟩⟩
theorem main_1_1 : Claimed_1_1 := comes_1 fun _ _ _ _ _ _ h hF => ⟨h.1, hF⟩
theorem main_1_2 : Claimed_1_2 := comes_1 fun _ _ _ _ _ _ h hF => ⟨h.2.1, hF⟩
end Jvm.Pilot.@@N@@
namespace Jvm.Pilot.@@N@@
open Jvm Jvm.ClassFile Sem Op Lib Jvm.Free Jvm.Stand Jvm.Pilot.@@N@@.Jvm.D
/-! MADE BY PROGRAM (witnessworld.py) out of the Statement's table words and the real class files: 10 classes; the members and pool entries that the words name. The judged class is class 1, her method 1. -/
namespace start1
open Jvm.ClassFile
def u (s : String) : CpInfo := .utf8 (stringToUtf16 s)
/-- a pool by its gaps: so many unusable entries, then the entry; so many at the end -/
def gap : Nat → List CpInfo → List CpInfo
  | 0, r => r
  | n + 1, r => .unusable :: gap n r
def poolList (es : List (Nat × CpInfo)) (last : Nat) : List CpInfo := es.foldr (fun e r => gap e.1 (e.2 :: r)) (gap last [])
def pool (es : List (Nat × CpInfo)) (last : Nat) : Array CpInfo := ⟨poolList es last⟩
def fileOf (pool : Array CpInfo) (this : Nat) (attrs : Array Attribute := #[]) (ms : Array MethodInfo := #[]) (fl : Nat := 33) (sup : Nat := 0) (ifs : Array Nat := #[]) (fds : Array FieldInfo := #[]) : ClassFile where
  minorVersion := 0
  majorVersion := 65
  constantPool := pool
  accessFlags := fl
  thisClass := this
  superClass := sup
  interfaces := ifs
  fields := fds
  methods := ms
  attributes := attrs
def plain (name : String) (sup : Option ClassId) : Class where
  name := name
  kind := .ordinary
  loader := none
  accessFlags := 33
  super := sup
  interfaces := #[]
  cf := none
  fields := #[]
  methods := #[]
  instanceTypes := #[]
  staticTypes := #[]
  resolved := #[]
  callSites := []
  init := .initialized
  statics := none
  mirror := none

def pool0 : Array CpInfo := pool [(5, u "<init>"), (0, u "()V"), (1, .class_ 10), (1, u "java/lang/Object")] 113

def k0m0 : Method := { name := "<init>", desc := "()V", sig := { parameters := [], returnType := none }, accessFlags := 1, code := none }
/-- java/lang/Object -/
def k0 : Class := { plain "java/lang/Object" none with
  accessFlags := 33
  interfaces := #[]
  cf := some (fileOf pool0 8 #[] #[{ accessFlags := 1, nameIndex := 5, descriptorIndex := 6, attributes := #[] }] 33 0 #[] #[])
  fields := #[]
  methods := #[k0m0]
  instanceTypes := #[]
  staticTypes := #[]
  resolved := Array.replicate 124 none
  statics := none }

def pool1 : Array CpInfo := pool [(2, .class_ 4), (1, u "java/lang/Object"), (0, u "<init>"), (0, u "()V"), (0, .integer 2147483647), (0, .integer 1073741820), (0, .methodref 10 11), (0, .class_ 12), (0, .nameAndType 13 14), (0, u "com/example/recital/recital/document/WordsLikenessPinLaw"), (0, u "sortedTake"), (0, u "(IIII)[I"), (0, .methodref 10 16), (0, .nameAndType 17 18), (0, u "eq"), (0, u "([II[II)I"), (0, .methodref 20 21), (0, .class_ 22), (0, .nameAndType 23 24), (0, u "java/lang/Math"), (0, u "max"), (0, u "(II)I"), (0, .double 4611686018427387904), (1, .methodref 28 29), (0, .class_ 30), (0, .nameAndType 31 32), (0, u "com/example/recital/recital/document/Words"), (0, u "likeness"), (0, u "([I[II)D"), (0, .methodref 20 34), (0, .nameAndType 35 24), (0, u "min"), (2, u "law"), (0, u "(JIJIII)Z")] 5

def k1m0 : Method := { name := "<init>", desc := "()V", sig := { parameters := [], returnType := none }, accessFlags := 2, code := none }
def k1c1 : Code := { maxStack := 5, maxLocals := 29, code := code, exceptionTable := #[], attributes := #[] }
def k1m1 : Method := { name := "law", desc := "(JIJIII)Z", sig := { parameters := [.long, .int, .long, .int, .int, .int], returnType := some .boolean }, accessFlags := 9, code := some k1c1 }
def k1c2 : Code := { maxStack := 3, maxLocals := 4, code := method_3_code, exceptionTable := #[], attributes := #[] }
def k1m2 : Method := { name := "eq", desc := "([II[II)I", sig := { parameters := [(.array .int), .int, (.array .int), .int], returnType := some .int }, accessFlags := 10, code := some k1c2 }
def k1c3 : Code := { maxStack := 3, maxLocals := 8, code := method_4_code, exceptionTable := #[], attributes := #[] }
def k1m3 : Method := { name := "sortedTake", desc := "(IIII)[I", sig := { parameters := [.int, .int, .int, .int], returnType := some (.array .int) }, accessFlags := 10, code := some k1c3 }
/-- com/example/recital/recital/document/WordsLikenessPinLaw -/
def k1 : Class := { plain "com/example/recital/recital/document/WordsLikenessPinLaw" (some 0) with
  accessFlags := 49
  interfaces := #[]
  cf := some (fileOf pool1 10 #[] #[{ accessFlags := 2, nameIndex := 5, descriptorIndex := 6, attributes := #[] }, { accessFlags := 9, nameIndex := 38, descriptorIndex := 39, attributes := #[] }, { accessFlags := 10, nameIndex := 17, descriptorIndex := 18, attributes := #[] }, { accessFlags := 10, nameIndex := 13, descriptorIndex := 14, attributes := #[] }] 49 2 #[] #[])
  fields := #[]
  methods := #[k1m0, k1m1, k1m2, k1m3]
  instanceTypes := #[]
  staticTypes := #[]
  resolved := Array.replicate 45 none
  statics := none }

def pool2 : Array CpInfo := pool [(1, .class_ 2), (0, u "java/lang/Math"), (1, .class_ 6), (1, u "java/lang/Object"), (0, u "<init>"), (0, u "()V"), (89, .class_ 100), (1, u "java/lang/Math$RandomNumberGeneratorHolder"), (71, u "negativeZeroFloatBits"), (0, u "J"), (2, u "negativeZeroDoubleBits"), (21, u "max"), (2, u "min"), (43, u "$assertionsDisabled"), (0, u "Z"), (88, u "(II)I"), (2, u "twoToTheDoubleScaleDown"), (0, u "D"), (4, u "twoToTheDoubleScaleUp"), (9, u "E"), (3, u "PI"), (2, u "TAU"), (2, u "DEGREES_TO_RADIANS"), (0, u "RADIANS_TO_DEGREES")] 94

def k2m0 : Method := { name := "<init>", desc := "()V", sig := { parameters := [], returnType := none }, accessFlags := 2, code := none }
def k2c1 : Code := { maxStack := 2, maxLocals := 2, code := jdk_29_method_65_code, exceptionTable := #[], attributes := #[] }
def k2m1 : Method := { name := "max", desc := "(II)I", sig := { parameters := [.int, .int], returnType := some .int }, accessFlags := 9, code := some k2c1 }
def k2c2 : Code := { maxStack := 2, maxLocals := 2, code := jdk_29_method_69_code, exceptionTable := #[], attributes := #[] }
def k2m2 : Method := { name := "min", desc := "(II)I", sig := { parameters := [.int, .int], returnType := some .int }, accessFlags := 9, code := some k2c2 }
/-- java/lang/Math -/
def k2 : Class := { plain "java/lang/Math" (some 0) with
  accessFlags := 49
  interfaces := #[]
  cf := some (fileOf pool2 1 #[.nestMembers #[98]] #[{ accessFlags := 2, nameIndex := 7, descriptorIndex := 8, attributes := #[] }, { accessFlags := 9, nameIndex := 198, descriptorIndex := 335, attributes := #[] }, { accessFlags := 9, nameIndex := 201, descriptorIndex := 335, attributes := #[] }] 49 4 #[] #[{ accessFlags := 25, nameIndex := 354, descriptorIndex := 339, attributes := #[] }, { accessFlags := 25, nameIndex := 358, descriptorIndex := 339, attributes := #[] }, { accessFlags := 25, nameIndex := 361, descriptorIndex := 339, attributes := #[] }, { accessFlags := 26, nameIndex := 364, descriptorIndex := 339, attributes := #[] }, { accessFlags := 26, nameIndex := 365, descriptorIndex := 339, attributes := #[] }, { accessFlags := 26, nameIndex := 172, descriptorIndex := 173, attributes := #[] }, { accessFlags := 26, nameIndex := 176, descriptorIndex := 173, attributes := #[] }, { accessFlags := 8, nameIndex := 344, descriptorIndex := 339, attributes := #[] }, { accessFlags := 8, nameIndex := 338, descriptorIndex := 339, attributes := #[] }, { accessFlags := 4120, nameIndex := 245, descriptorIndex := 246, attributes := #[] }])
  fields := #[{ name := "E", type := .double, accessFlags := 25, slot := 0, constantValue := 0 }, { name := "PI", type := .double, accessFlags := 25, slot := 1, constantValue := 0 }, { name := "TAU", type := .double, accessFlags := 25, slot := 2, constantValue := 0 }, { name := "DEGREES_TO_RADIANS", type := .double, accessFlags := 26, slot := 3, constantValue := 0 }, { name := "RADIANS_TO_DEGREES", type := .double, accessFlags := 26, slot := 4, constantValue := 0 }, { name := "negativeZeroFloatBits", type := .long, accessFlags := 26, slot := 5, constantValue := 0 }, { name := "negativeZeroDoubleBits", type := .long, accessFlags := 26, slot := 6, constantValue := 0 }, { name := "twoToTheDoubleScaleUp", type := .double, accessFlags := 8, slot := 7, constantValue := 0 }, { name := "twoToTheDoubleScaleDown", type := .double, accessFlags := 8, slot := 8, constantValue := 0 }, { name := "$assertionsDisabled", type := .boolean, accessFlags := 4120, slot := 9, constantValue := 0 }]
  methods := #[k2m0, k2m1, k2m2]
  instanceTypes := #[]
  staticTypes := #[.double, .double, .double, .double, .double, .long, .long, .double, .double, .boolean]
  resolved := Array.replicate 460 none
  statics := none }

def pool3 : Array CpInfo := pool [(2, .class_ 4), (1, u "java/lang/Object"), (3, .class_ 10), (1, u "com/example/recital/recital/document/Words"), (0, u "older"), (0, u "Ljava/lang/String;"), (16, u "from"), (0, u "I"), (2, u "olderTo"), (6, u "common"), (3, .class_ 45), (0, u "com/example/recital/recital/document/Words$Tokens"), (5, u "olderTokens"), (0, u "Lcom/example/recital/recital/document/Words$Tokens;"), (2, u "newerTokens"), (6, u "likeness"), (0, u "([I[II)D"), (0, .double 4611686018427387904), (5, .class_ 71), (0, u "com/example/recital/recital/document/Words$Spans")] 225

def k3c0 : Code := { maxStack := 4, maxLocals := 7, code := prog_81_method_3_code, exceptionTable := #[], attributes := #[] }
def k3m0 : Method := { name := "likeness", desc := "([I[II)D", sig := { parameters := [(.array .int), (.array .int), .int], returnType := some .double }, accessFlags := 8, code := some k3c0 }
/-- com/example/recital/recital/document/Words -/
def k3 : Class := { plain "com/example/recital/recital/document/Words" (some 0) with
  accessFlags := 48
  interfaces := #[]
  cf := some (fileOf pool3 8 #[.nestMembers #[70, 44]] #[{ accessFlags := 8, nameIndex := 62, descriptorIndex := 63, attributes := #[] }] 48 2 #[] #[{ accessFlags := 18, nameIndex := 11, descriptorIndex := 12, attributes := #[] }, { accessFlags := 18, nameIndex := 29, descriptorIndex := 30, attributes := #[] }, { accessFlags := 18, nameIndex := 33, descriptorIndex := 30, attributes := #[] }, { accessFlags := 18, nameIndex := 40, descriptorIndex := 30, attributes := #[] }, { accessFlags := 18, nameIndex := 51, descriptorIndex := 52, attributes := #[] }, { accessFlags := 18, nameIndex := 55, descriptorIndex := 52, attributes := #[] }])
  fields := #[{ name := "older", type := (.object "java/lang/String"), accessFlags := 18, slot := 0, constantValue := 0 }, { name := "from", type := .int, accessFlags := 18, slot := 1, constantValue := 0 }, { name := "olderTo", type := .int, accessFlags := 18, slot := 2, constantValue := 0 }, { name := "common", type := .int, accessFlags := 18, slot := 3, constantValue := 0 }, { name := "olderTokens", type := (.object "com/example/recital/recital/document/Words$Tokens"), accessFlags := 18, slot := 4, constantValue := 0 }, { name := "newerTokens", type := (.object "com/example/recital/recital/document/Words$Tokens"), accessFlags := 18, slot := 5, constantValue := 0 }]
  methods := #[k3m0]
  instanceTypes := #[(.object "java/lang/String"), .int, .int, .int, (.object "com/example/recital/recital/document/Words$Tokens"), (.object "com/example/recital/recital/document/Words$Tokens")]
  staticTypes := #[]
  resolved := Array.replicate 297 none
  statics := none }

def pool4 : Array CpInfo := pool [(1, u "java/lang/Cloneable"), (0, .class_ 1), (0, u "java/lang/Object"), (0, .class_ 3)] 3

/-- java/lang/Cloneable -/
def k4 : Class := { plain "java/lang/Cloneable" (some 0) with
  accessFlags := 1537
  interfaces := #[]
  cf := some (fileOf pool4 2 #[] #[] 1537 4 #[] #[])
  fields := #[]
  methods := #[]
  instanceTypes := #[]
  staticTypes := #[]
  resolved := Array.replicate 8 none
  statics := none }

def pool5 : Array CpInfo := pool [(1, u "java/io/Serializable"), (0, .class_ 1), (0, u "java/lang/Object"), (0, .class_ 3)] 3

/-- java/io/Serializable -/
def k5 : Class := { plain "java/io/Serializable" (some 0) with
  accessFlags := 1537
  interfaces := #[]
  cf := some (fileOf pool5 2 #[] #[] 1537 4 #[] #[])
  fields := #[]
  methods := #[]
  instanceTypes := #[]
  staticTypes := #[]
  resolved := Array.replicate 8 none
  statics := none }

/-- the primitive byte -/
def k6 : Class := { plain "byte" none with kind := .primitive 'B', accessFlags := 0x411 }
/-- [B -/
def k7 : Class := { plain "[B" (some 0) with kind := .array 6 .byte, interfaces := #[4, 5], accessFlags := 1041 }

/-- the primitive int -/
def k8 : Class := { plain "int" none with kind := .primitive 'I', accessFlags := 0x411 }
/-- [I -/
def k9 : Class := { plain "[I" (some 0) with kind := .array 8 .int, interfaces := #[4, 5], accessFlags := 1041 }

def heap : Heap := #[]
def classes : Array Class := #[k0, k1, k2, k3, k4, k5, k6, k7, k8, k9]
def interned : List (Array UInt16 × Addr) := []
def slotsUsed : Nat := 0
def theMethod : MethodId := ⟨1, 1⟩
def args0 : Array Value := #[.long 5, .int 7, .long 9, .int 3, .int 3, .int 7]
def aboutOver (below : List Frame) : State where
  vm := { classes := classes, interned := interned.toArray }
  heap := heap
  slotsUsed := slotsUsed
  threads := #[{ frames := .invoking theMethod args0 :: below }]
def below0 : List Frame := [.native { method := ⟨0, 0⟩, args := #[] }]
def about1 : State := aboutOver below0
def p0 : Program := .bare "" "" ""
def e0 : Env := launch0.env 0 0 0
theorem w_frames : about1.frames = Frame.invoking theMethod args0 :: below0 := rfl
set_option maxRecDepth 65536 in
theorem w_args : argsFit about1.vm theMethod args0 = true := by decide +kernel
set_option maxRecDepth 65536 in
theorem w_heap : heapFits about1 = true := by decide +kernel
set_option maxRecDepth 65536 in
theorem w_runnable : about1.curStatus? = some .runnable := by decide +kernel
set_option maxRecDepth 65536 in
theorem w_alone : about1.alone = true := by decide +kernel
set_option maxRecDepth 65536 in
theorem w_named : about1.methodNamed? x = some theMethod := by decide +kernel
set_option maxRecDepth 65536 in
theorem w_hears : about1.hears theMethod below0 = true := by decide +kernel
set_option maxRecDepth 65536 in
theorem w_ripe : about1.ripe theMethod args0 below0 = true := by decide +kernel
theorem w_running : about1.status = .running := rfl
set_option maxRecDepth 65536 in
theorem w_room : about1.hasRoom e0.platform room_1 = true :=
  launch0.hasRoom_least _ room_1 (by decide +kernel) (by decide +kernel) (by decide +kernel) (by decide +kernel) (by decide +kernel) (by decide +kernel)
theorem allAtoms_all (ts : List Jvm.Cond) (a : Array Jvm.Value) (st : Jvm.State) : (allAtoms ts).before a st = ts.all (fun c => c.before a st) := by
  induction ts with
  | nil => rfl
  | cons c t ih =>
    show (Jvm.Cond.and c (allAtoms t)).before a st = _
    rw [Jvm.Cond.before_and, ih, List.all_cons]
def words1 : List Jvm.Cond := Jvm.Cond.code x code maxLocals ret :: tables_1
/-- a 'code' word, met by the world's own term for the bytes: nothing is compared byte by byte -/
theorem code_word {y : MethodName} {bytes : ByteArray} {mx : Nat} {rt : Option FieldType} {a : Array Value} {s : State} {m : MethodId} {meth : Method} {c : Code} (h1 : s.methodNamed? y = some m) (h2 : s.vm.method? m = some meth) (h3 : meth.code = some c) (h4 : c.code = bytes)
    (h5 : (c.maxLocals == mx && c.exceptionTable.isEmpty && decide (c.maxStack ≤ mostOperands) && decide (meth.sig.returnType = rt) && !meth.locks && decide (parseMethodDescriptor y.desc = some meth.sig)) = true) : (Jvm.Cond.code y bytes mx rt).before a s = true := by
  simp only [Bool.and_eq_true, beq_iff_eq, Bool.not_eq_true', decide_eq_true_eq] at h5
  obtain ⟨⟨⟨⟨⟨g1, g2⟩, g3⟩, g4⟩, g5⟩, g6⟩ := h5
  simp [Cond.before, Cond.holds, Cond.value, h1, h2, h3, h4, g1, g2, g3, g4, g5, g6]
def isCode : Jvm.Cond → Bool
  | .code _ _ _ _ => true
  | _ => false
theorem all_split {L : List Jvm.Cond} {P : Jvm.Cond → Bool} (h1 : L.all (fun c => isCode c || P c) = true) (h2 : ∀ c ∈ L.filter isCode, P c = true) : L.all P = true := by
  refine List.all_eq_true.mpr fun c hc => ?_
  have h := List.all_eq_true.mp h1 c hc
  rcases Bool.eq_false_or_eq_true (isCode c) with hi | hi
  · exact h2 c (List.mem_filter.mpr ⟨hc, hi⟩)
  · simpa [hi] using h
set_option maxRecDepth 65536 in
theorem w_c0 : (Jvm.Cond.code x code maxLocals ret).before args0 about1 = true := code_word (m := ⟨1, 1⟩) (meth := k1m1) (c := k1c1) (by decide +kernel) rfl rfl rfl (by decide +kernel)
set_option maxRecDepth 65536 in
theorem w_c1 : (Jvm.Cond.code ({ cls := "com/example/recital/recital/document/WordsLikenessPinLaw", name := "sortedTake", desc := "(IIII)[I" } : Jvm.MethodName) method_4_code (8 : Nat) (Option.some (Jvm.ClassFile.FieldType.array Jvm.ClassFile.FieldType.int))).before args0 about1 = true := code_word (m := ⟨1, 3⟩) (meth := k1m3) (c := k1c3) (by decide +kernel) rfl rfl rfl (by decide +kernel)
set_option maxRecDepth 65536 in
theorem w_c2 : (Jvm.Cond.code ({ cls := "java/lang/Math", name := "min", desc := "(II)I" } : Jvm.MethodName) jdk_29_method_69_code (2 : Nat) (Option.some Jvm.ClassFile.FieldType.int)).before args0 about1 = true := code_word (m := ⟨2, 2⟩) (meth := k2m2) (c := k2c2) (by decide +kernel) rfl rfl rfl (by decide +kernel)
set_option maxRecDepth 65536 in
theorem w_c3 : (Jvm.Cond.code ({ cls := "java/lang/Math", name := "max", desc := "(II)I" } : Jvm.MethodName) jdk_29_method_65_code (2 : Nat) (Option.some Jvm.ClassFile.FieldType.int)).before args0 about1 = true := code_word (m := ⟨2, 1⟩) (meth := k2m1) (c := k2c1) (by decide +kernel) rfl rfl rfl (by decide +kernel)
set_option maxRecDepth 65536 in
theorem w_c4 : (Jvm.Cond.code ({ cls := "com/example/recital/recital/document/WordsLikenessPinLaw", name := "eq", desc := "([II[II)I" } : Jvm.MethodName) method_3_code (4 : Nat) (Option.some Jvm.ClassFile.FieldType.int)).before args0 about1 = true := code_word (m := ⟨1, 2⟩) (meth := k1m2) (c := k1c2) (by decide +kernel) rfl rfl rfl (by decide +kernel)
set_option maxRecDepth 65536 in
theorem w_c5 : (Jvm.Cond.code ({ cls := "com/example/recital/recital/document/Words", name := "likeness", desc := "([I[II)D" } : Jvm.MethodName) prog_81_method_3_code (7 : Nat) (Option.some Jvm.ClassFile.FieldType.double)).before args0 about1 = true := code_word (m := ⟨3, 0⟩) (meth := k3m0) (c := k3c0) (by decide +kernel) rfl rfl rfl (by decide +kernel)
def codes1 : List Jvm.Cond := [Jvm.Cond.code x code maxLocals ret, Jvm.Cond.code ({ cls := "com/example/recital/recital/document/WordsLikenessPinLaw", name := "sortedTake", desc := "(IIII)[I" } : Jvm.MethodName) method_4_code (8 : Nat) (Option.some (Jvm.ClassFile.FieldType.array Jvm.ClassFile.FieldType.int)), Jvm.Cond.code ({ cls := "java/lang/Math", name := "min", desc := "(II)I" } : Jvm.MethodName) jdk_29_method_69_code (2 : Nat) (Option.some Jvm.ClassFile.FieldType.int), Jvm.Cond.code ({ cls := "java/lang/Math", name := "max", desc := "(II)I" } : Jvm.MethodName) jdk_29_method_65_code (2 : Nat) (Option.some Jvm.ClassFile.FieldType.int), Jvm.Cond.code ({ cls := "com/example/recital/recital/document/WordsLikenessPinLaw", name := "eq", desc := "([II[II)I" } : Jvm.MethodName) method_3_code (4 : Nat) (Option.some Jvm.ClassFile.FieldType.int), Jvm.Cond.code ({ cls := "com/example/recital/recital/document/Words", name := "likeness", desc := "([I[II)D" } : Jvm.MethodName) prog_81_method_3_code (7 : Nat) (Option.some Jvm.ClassFile.FieldType.double)]
set_option maxRecDepth 65536 in
theorem codes_eq : words1.filter isCode = codes1 := rfl
theorem w_codes : ∀ c ∈ words1.filter isCode, c.before args0 about1 = true := by
  rw [codes_eq]
  intro c hc
  simp only [codes1, List.mem_cons, List.not_mem_nil, or_false] at hc
  rcases hc with rfl | rfl | rfl | rfl | rfl | rfl
  · exact w_c0
  · exact w_c1
  · exact w_c2
  · exact w_c3
  · exact w_c4
  · exact w_c5
set_option maxRecDepth 65536 in
theorem w_t1 : words1.all (fun c => isCode c || c.before args0 about1) = true := by decide +kernel
theorem w_tables : (allAtoms (Jvm.Cond.code x code maxLocals ret :: tables_1)).before args0 about1 = true := by
  rw [allAtoms_all]
  show words1.all (fun c => c.before args0 about1) = true
  refine all_split ?_ w_codes
  rw [w_t1]
set_option maxRecDepth 65536 in
theorem w_case : (Jvm.Cond.and given_1 narrow_1).before args0 about1 = true := by decide +kernel
theorem w_applies : (headSpec (Jvm.Cond.code x code maxLocals ret :: tables_1) room_1).applies x e0.platform about1 = true :=
  (Spec.applies_iff w_frames).mpr ⟨w_running, w_runnable, w_alone, w_named, w_hears, w_ripe, w_room, w_tables⟩
theorem atStart : AtStart classFile x code maxLocals ret World_1 tables_1 room_1 Calls_1 rest_1 Pre_1 launch0 p0 e0 about1 theMethod args0 below0 :=
  ⟨lists_1, trivial, launch0.admits_env _ _ _, launch0.least_env, fairChoices_fair.cas, fairChoices_fair.clock, w_frames, w_args, w_heap, w_applies, trivial, trivial, w_case⟩
end start1
theorem witness_1 : WitnessClaimed_1 := ⟨start1.p0, start1.e0, start1.about1, start1.theMethod, start1.args0, start1.below0, start1.atStart⟩
end Jvm.Pilot.@@N@@
