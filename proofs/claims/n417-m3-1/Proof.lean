import JvmDerived
import JvmDerived.Pilot.@@N@@Statement
import JvmDerived.Pilot.@@N@@Code
set_option linter.unusedVariables false
set_option linter.unusedSimpArgs false
namespace Jvm.RoadKit
open Sem ClassFile Op Lib Jvm.Stand Jvm.Free Jvm.LawKit
section New
variable {p : Program} {l : Launch} {e : Env} {R : Room} {s : State} {m : MethodId} {args : Array Value} {below : List Frame} {meth : Method} {c : Code} {T : State} {locs : List Loc} {cells slots : Nat}
theorem retI (X : Stand p l e R s m args below meth c T locs cells slots) (hx : p.tables.exec = Jvm.exec) {pc : Nat} {Ls : Array Slot} {z : Int32} {rest : List Value} (hret : meth.sig.returnType = some .int) (hd : decode c.code pc = .ok (.ireturn, 1)) {fs : List Frame}
    (hl : ∀ (f : JFrame) (acts : List Action), f.method = m → f.locked = none → f.entered = [] → (doReturn e (T.setTop f) acts (some (.int z))).1 = T.setFrames fs) : Steps p.tables e below (T.setTop (mkF m pc Ls (.int z :: rest))) (T.setFrames fs) := by
  have hm' : T.vm.method? m = some meth := X.method'
  have hn : narrow .int (.int z) = .int z := rfl
  show Steps p.tables e below (T.setTop { method := m, pc := pc, locals := Ls, stack := _ :: rest, locked := none }) _
  jvm_step X.here [X.here.top, hx, hd, hm', hret, hn]
  first | (intro acts; rw [hl _ acts rfl rfl rfl]) | rw [hl _ _ rfl rfl rfl]
  exact Steps.refl _
theorem Arr.at_ {Z : State} {h : Heap} {a : Addr} {cl : Cell} {ty : FieldType} (A : Arr Z h a cl ty) {U : State} (q : U.heap = h) : U.heap[a]? = some cl := by rw [q]; exact A.1
end New
end Jvm.RoadKit
namespace Jvm.Pilot.@@N@@
open Jvm Jvm.ClassFile Sem Op Lib Jvm.Free Jvm.Stand Jvm.LawKit Jvm.RoadKit Bundle Jvm.Pilot.@@N@@.Jvm.D
theorem own_eqI {args : Array Value} {first s : State} {o : Option Outcome} {idx : List Nat} {t : Term} {n : Int32} (h : (Jvm.Cond.eq t (.int n)).value args first o s idx = some true) : t.eval args first o idx s = some (.int n) := by
  cases ht : t.eval args first o idx s with
  | none => simp [Jvm.Cond.value, Term.eval, ht] at h
  | some x => cases x <;> simp [Jvm.Cond.value, Term.eval, ht] at h ⊢; exact h
theorem own_eqL {args : Array Value} {first s : State} {o : Option Outcome} {idx : List Nat} {t : Term} {n : Int64} (h : (Jvm.Cond.eq t (.long n)).value args first o s idx = some true) : t.eval args first o idx s = some (.long n) := by
  cases ht : t.eval args first o idx s with
  | none => simp [Jvm.Cond.value, Term.eval, ht] at h
  | some x => cases x <;> simp [Jvm.Cond.value, Term.eval, ht] at h ⊢; exact h
theorem own_fld {args : Array Value} {Z : State} {t : Term} {a : Addr} {C n d : String} {v : Value} (ht : t.eval args Z none [] Z = some (.ref a)) (h : (Term.field t C n d).eval args Z none [] Z = some v) : Fld Z Z.heap a C n d v := Fld.start ((fld_at ht).symm.trans h)
theorem own_exa {args : Array Value} {Z : State} {t : Term} {C : String} (h : (Jvm.Cond.exactly t C).value args Z none Z [] = some true) : ∃ a, t.eval args Z none [] Z = some (.ref a) ∧ Exa Z Z.heap a C := by
  obtain ⟨a, e⟩ := exa_v h
  exact ⟨a, e, Exa.start e h⟩
def ArZ (Z : State) (h : Heap) (a : Addr) (ty : FieldType) (n : Int32) : Prop := ∃ c : Cell, Arr Z h a c ty ∧ c.slots.size = n.toNatClampNeg ∧ ¬ n < 0 ∧ True
theorem ArZ.lt {Z : State} {h : Heap} {a : Addr} {ty : FieldType} {n : Int32} (F : ArZ Z h a ty n) : a < h.size := by obtain ⟨c, A, -⟩ := F; exact A.lt
theorem ArZ.ext {Z : State} {h h' : Heap} {a : Addr} {ty : FieldType} {n : Int32} (F : ArZ Z h a ty n) (E : Ext h h') : ArZ Z h' a ty n := by obtain ⟨c, A, r⟩ := F; exact ⟨c, A.ext E, r⟩
theorem ArZ.other {Z : State} {h h' : Heap} {a b : Addr} {ty : FieldType} {n : Int32} {sl : Nat} {v : Value} (F : ArZ Z h b ty n) (W : Wr h h' a sl v) (q : b ≠ a) : ArZ Z h' b ty n := by obtain ⟨c, A, r⟩ := F; exact ⟨c, A.other W q, r⟩
theorem ArZ.keep {Z : State} {h h' : Heap} {a : Addr} {ty : FieldType} {n : Int32} {ws : List Addr} (F : ArZ Z h a ty n) (K : Keep h h' ws) (q : a ∉ ws) : ArZ Z h' a ty n := by obtain ⟨c, A, r⟩ := F; exact ⟨c, ⟨K.2.1 a c A.1 q, A.2⟩, r⟩
theorem ArZ.of {Z : State} {h : Heap} {a : Addr} {k : ClassId} {ty : FieldType} {n : Int32} {vs : List Value} {dv : Value} (F : Arv Z h a k ty n vs dv) : ArZ Z h a ty n := by obtain ⟨c, A, -, r1, r2, -⟩ := F; exact ⟨c, A, r1, r2, trivial⟩
theorem ArZ.set {Z : State} {h h' : Heap} {a : Addr} {c : Cell} {ty : FieldType} {n : Int32} {sl : Nat} {v : Value} (A : Arr Z h a c ty) (S : c.slots.size = n.toNatClampNeg) (N : ¬ n < 0) (W : Wr h h' a sl v) : ArZ Z h' a ty n := ⟨_, A.same W, by simp [Cell.setSlot, S], N, trivial⟩
def own_EL : List (String × Nat) := [("java/lang/String", 7)]
theorem own_EW {Z : State} {a0 : Array Value} (hw : ∀ d ∈ tables_1, d.before a0 Z = true) : EW Z a0 own_EL := (EW.cons (hw _ (List.mem_of_getElem? (i := 115) rfl)) (by decide) EW.nil)
theorem own_wS {Z : State} {a0 : Array Value} (hw : ∀ d ∈ tables_1, d.before a0 Z = true) : ∀ d ∈ Bundle.stringAtoms, d.before a0 Z = true := by
  intro d hd
  simp only [Bundle.stringAtoms, List.mem_cons, List.not_mem_nil, or_false] at hd
  rcases hd with rfl | rfl | rfl | rfl | rfl | rfl | rfl
  · exact (hw _ (List.mem_of_getElem? (i := 8) rfl))
  · exact (hw _ (List.mem_of_getElem? (i := 9) rfl))
  · exact (hw _ (List.mem_of_getElem? (i := 10) rfl))
  · exact (hw _ (List.mem_of_getElem? (i := 11) rfl))
  · exact (hw _ (List.mem_of_getElem? (i := 12) rfl))
  · exact (hw _ (List.mem_of_getElem? (i := 13) rfl))
  · exact (hw _ (List.mem_of_getElem? (i := 14) rfl))
theorem own_hk {U : State} {h : Heap} (e : U.heap = h) {k : Nat} (q : k ≤ h.size) : k ≤ U.heap.size := by rw [e]; exact q
theorem own_cat {v : Value} (h : v.isRef = true) : v.category = 1 := by rcases ref_cases h with rfl | ⟨a, rfl⟩ <;> rfl
theorem own_nar {v : Value} {C : String} (h : v.isRef = true) : narrow (.object C) v = v := by rcases ref_cases h with rfl | ⟨a, rfl⟩ <;> rfl
theorem own_fit {v : Value} {C : String} (h : v.isRef = true) : fits (.object C) v = true := by rcases ref_cases h with rfl | ⟨a, rfl⟩ <;> rfl
theorem own_rw_mono {s t : State} {o : Outcome} {L : List Loc} {k n k' n' : Nat} (h : ReturnedEndW s o t L k n) (hk : k ≤ k') (hn : n ≤ n') : ReturnedEndW s o t L k' n' := ⟨h.1, h.2.1, h.2.2.1, h.2.2.2.mono hk hn⟩
theorem own_safe_arv {Z : State} {EL : List (String × Nat)} {vm : Vm} {h : Heap} {x : Addr} {k : ClassId} {ty : FieldType} {z : Int32} {vs : List Value} {dv : Value} (hal : Z.vm.Alike vm) (F : Arv Z h x k ty z vs dv) (ht : ty ≠ .byte) : Safe Z EL vm h x := by
  obtain ⟨c, A, -⟩ := F
  exact Safe.arr hal A ht
theorem own_backSH {l : Launch} {R : Room} {p : Program} {e : Env} {below : List Frame} {s : State} {args : Array Value} {Z : State} {a0 : Array Value} {EL : List (String × Nat)} {h : Heap} {vm0 : Vm} {y : MethodName} {bytes : ByteArray} {maxL : Nat} {ret : Option FieldType} {rm : Room} {len W : Nat} {as' : Array Value} {sf : List Addr} {Q : Option Value → Heap → List Loc → Prop}
    (hM : MetFree l y (head1 [Jvm.Cond.code y bytes maxL ret] rm) (fun zA zU => zA = as' ∧ Z.Warmed39 zU.vm ∧ zU.heap = h ∧ CHv Z EL zU.vm h ∧ ∀ x ∈ sf, Safe Z EL zU.vm h x) (fun _ _ _ _ _ => True) (fun _ zU zo zU' => ∃ zv zL, zo = .returned zv ∧ Q zv zU'.heap zL ∧ CHr Z EL zU.vm zU.heap zU'.vm zU'.heap ∧ ReturnedEndW zU zo zU' zL rm.cells rm.slots))
    (hZ : Z.Warmed39 vm0) (wc : (Jvm.Cond.code y bytes maxL ret).before a0 Z = true) (wz : (Jvm.Cond.initialized y.cls).before a0 Z = true) (hf : rm.frames + 1 ≤ R.frames) (hl : W + (maxL + 11) + rm.locals ≤ R.locals) (hEL : EW Z a0 EL) (H : CHv Z EL vm0 h) (hsf : ∀ x ∈ sf, x < h.size ∧ Safe Z EL vm0 h x) :
    BackS l R p e below (s.setVm vm0) args y len W (fun A a => a = as' ∧ A.U.heap = h ∧ A.cells + rm.cells ≤ R.cells ∧ A.slots + rm.slots ≤ R.slots)
      (fun A _ v B => ∃ L, Q v B.U.heap L ∧ B.locs = A.locs ++ L ∧ B.cells = A.cells + rm.cells ∧ B.slots = A.slots + rm.slots ∧ CHr Z EL vm0 h B.U.vm B.U.heap) :=
  BackS.of_freeW (bytes := bytes) (maxL := maxL) (ret := ret) (E := fun _ first o t L k n => k = rm.cells ∧ n = rm.slots ∧ (∃ v, o = .returned v ∧ Q v t.heap L) ∧ CHr Z EL first.vm first.heap t.vm t.heap) hM hf hl
    (fun m meth c A a Y hp => have hU : Z.Warmed39 A.U.vm := wtrans (s := s.setVm vm0) hZ Y.warmed
      ⟨by show (Jvm.Cond.and _ .tt).before a A.U = true; rw [Cond.before_and, mv hU wc]; rfl, mv hU wc, mv hU wz, hp.2.2.1, hp.2.2.2⟩)
    (fun m meth c A a g mk Y hp => ⟨hp.1, wtrans (s := s.setVm vm0) hZ Y.warmed, hp.2.1, (CHv.at Y hZ hEL H).1, fun x hx => (CHv.at Y hZ hEL H).safe (hsf x hx).1 (hsf x hx).2⟩) (fun _ _ _ _ _ _ _ _ _ => trivial)
    (fun _ _ _ _ ⟨v, L, h1, h2, h3, h4⟩ => ⟨L, _, _, h4, rfl, rfl, ⟨v, h1, h2⟩, h3⟩)
    (fun m meth c A a g mk v t L k n Y hp _ _ ⟨e1, e2, ⟨v', e3, e4⟩, e5⟩ => by
      cases e3; subst e1 e2
      refine ⟨L, e4, rfl, rfl, rfl, (CHv.at Y hZ hEL H).trans ?_⟩
      rw [← hp.2.1]; exact e5)
theorem own_and255 (x : Int32) : 0 ≤ (x &&& (255 : Int32)).toInt ∧ (x &&& (255 : Int32)).toInt ≤ 255 := by
  have h : (x &&& (255 : Int32)).toBitVec.toNat ≤ 255 := by rw [Int32.toBitVec_and, BitVec.toNat_and]; exact Nat.and_le_right
  have e : (x &&& (255 : Int32)).toInt = (x &&& (255 : Int32)).toBitVec.toInt := rfl
  rw [e, BitVec.toInt_eq_toNat_cond]; split <;> omega
theorem own_i2c {x : Int32} (h0 : 0 ≤ x.toInt) (h1 : x.toInt ≤ 65535) : x.toUInt32.toUInt16.toUInt32.toInt32 = x := by
  apply Int32.toBitVec_inj.mp
  have e : x.toInt = x.toBitVec.toInt := rfl
  rw [e, BitVec.toInt_eq_toNat_cond] at h0 h1
  have hb : x.toBitVec.toNat < 65536 := by have := x.toBitVec.isLt; split at h0 <;> omega
  show BitVec.setWidth 32 (BitVec.setWidth 16 x.toBitVec) = x.toBitVec
  apply BitVec.eq_of_toNat_eq
  simp only [BitVec.toNat_setWidth]; omega
theorem own_c1 (x : Int32) : ((x &&& (255 : Int32)).toUInt32.toUInt16.toUInt32.toInt32) = (x &&& (255 : Int32)) := own_i2c (own_and255 x).1 (by have := (own_and255 x).2; omega)
theorem own_q1 (x : Int32) : ¬ ((255 : Int32) < ((x &&& (255 : Int32)).toUInt32.toUInt16.toUInt32.toInt32)) := by
  rw [own_c1, Int32.lt_iff_toInt_lt]; have := (own_and255 x).2; have e : (255 : Int32).toInt = 255 := rfl; omega
theorem own_q2 (x : Int32) : ¬ ((255 : Int32) < (((x &&& (255 : Int32)).toUInt32.toUInt16.toUInt32.toInt32).toUInt32.toUInt16.toUInt32.toInt32)) := by
  rw [own_c1]; exact own_q1 x
def Q_cp2 (Z : State) (a : Addr) (b : Addr) (ka : ClassId) (c0 : Int32) (c1 : Int32) (kb : ClassId) (h0 : Heap) (n0 : Nat) (v : Option Value) (h : Heap) (L : List Loc) : Prop := v = some (.int (2 : Int32)) ∧ Fr n0 L ∧ Keep h0 h [b] ∧ ArZ Z h b .byte (2 : Int32)
theorem d1_0 : decode jdk_52_method_21_code 0 = .ok (.iconst 0, 1) := by decide +kernel
theorem d1_1 : decode jdk_52_method_21_code 1 = .ok (.istore 5, 2) := by decide +kernel
theorem d1_3 : decode jdk_52_method_21_code 3 = .ok (.iload 5, 2) := by decide +kernel
theorem d1_5 : decode jdk_52_method_21_code 5 = .ok (.iload 4, 2) := by decide +kernel
theorem d1_7 : decode jdk_52_method_21_code 7 = .ok (.if_icmp .ge 37, 3) := by decide +kernel
theorem d1_10 : decode jdk_52_method_21_code 10 = .ok (.aload_n 0, 1) := by decide +kernel
theorem d1_11 : decode jdk_52_method_21_code 11 = .ok (.iload_n 1, 1) := by decide +kernel
theorem d1_12 : decode jdk_52_method_21_code 12 = .ok (.caload, 1) := by decide +kernel
theorem d1_13 : decode jdk_52_method_21_code 13 = .ok (.istore 6, 2) := by decide +kernel
theorem d1_15 : decode jdk_52_method_21_code 15 = .ok (.iload 6, 2) := by decide +kernel
theorem d1_17 : decode jdk_52_method_21_code 17 = .ok (.sipush 255, 3) := by decide +kernel
theorem d1_20 : decode jdk_52_method_21_code 20 = .ok (.if_icmp .le 6, 3) := by decide +kernel
theorem d1_26 : decode jdk_52_method_21_code 26 = .ok (.aload_n 2, 1) := by decide +kernel
theorem d1_27 : decode jdk_52_method_21_code 27 = .ok (.iload_n 3, 1) := by decide +kernel
theorem d1_28 : decode jdk_52_method_21_code 28 = .ok (.iload 6, 2) := by decide +kernel
theorem d1_30 : decode jdk_52_method_21_code 30 = .ok (.i2b, 1) := by decide +kernel
theorem d1_31 : decode jdk_52_method_21_code 31 = .ok (.bastore, 1) := by decide +kernel
theorem d1_32 : decode jdk_52_method_21_code 32 = .ok (.iinc 1 1, 3) := by decide +kernel
theorem d1_35 : decode jdk_52_method_21_code 35 = .ok (.iinc 3 1, 3) := by decide +kernel
theorem d1_38 : decode jdk_52_method_21_code 38 = .ok (.iinc 5 1, 3) := by decide +kernel
theorem d1_41 : decode jdk_52_method_21_code 41 = .ok (.goto (-38), 3) := by decide +kernel
theorem d1_44 : decode jdk_52_method_21_code 44 = .ok (.iload 4, 2) := by decide +kernel
theorem d1_46 : decode jdk_52_method_21_code 46 = .ok (.ireturn, 1) := by decide +kernel
theorem pn_2 : plainName "java/lang/StringUTF16" = true := by first | (simp [plainName, overriddenIn]; done) | decide +kernel
theorem ef_1_RIRII (m : MethodId) (x0 : Addr) (x1 : Int32) (x2 : Addr) (x3 : Int32) (x4 : Int32) : entryFrame m #[(.ref x0), (.int x1), (.ref x2), (.int x3), (.int x4)] 7 = mkF m 0 #[.val (.ref x0), .val (.int x1), .val (.ref x2), .val (.int x3), .val (.int x4), .unset, .unset] [] := by first | (simp [entryFrame, mkF, argsToLocals, Value.category]; done) | rfl
set_option maxRecDepth 65536 in
set_option maxHeartbeats 40000000 in
theorem cp2 (l : Launch) (Z : State) (a0 : Array Value) (hw : ∀ d ∈ tables_1, d.before a0 Z = true) (ws : List Jvm.Cond) (a : Addr) (b : Addr) (ka : ClassId) (c0 : Int32) (c1 : Int32) (kb : ClassId) (h0 : Heap) (n0 : Nat) (Z0 : n0 ≤ h0.size) (P0 : Arv Z h0 a ka .char (2 : Int32) [(.int c0), (.int c1)] (.int (0 : Int32))) (P1 : Arv Z h0 b kb .byte (2 : Int32) [(.int (0 : Int32)), (.int (0 : Int32))] (.int (0 : Int32))) (g_b : n0 ≤ b) (ne_a_b : a ≠ b) (hq0 : ¬ ((255 : Int32) < c0)) (hq1 : ¬ ((255 : Int32) < c1)) :
    MetFree l (⟨"java/lang/StringUTF16", "compress", "([CI[BII)I"⟩ : MethodName) (head1 (Jvm.Cond.code (⟨"java/lang/StringUTF16", "compress", "([CI[BII)I"⟩ : MethodName) jdk_52_method_21_code 7 (some .int) :: ws) ({ frames := 0, cells := 0, slots := 0, locals := 0 } : Room)) (fun zA zU => zA = #[(.ref a), (.int (0 : Int32)), (.ref b), (.int (0 : Int32)), (.int (2 : Int32))] ∧ Z.Warmed39 zU.vm ∧ zU.heap = h0) (fun _ _ _ _ _ => True) (fun _ zU zo zU' => ∃ zv zL, zo = .returned zv ∧ Q_cp2 Z a b ka c0 c1 kb h0 n0 zv zU'.heap zL ∧ FrameEnd zU zo zU' zL ({ frames := 0, cells := 0, slots := 0, locals := 0 } : Room).cells ({ frames := 0, cells := 0, slots := 0, locals := 0 } : Room).slots) := by
  refine MetFree.of_bodySF (plainFor_of_name pn_2) hisR ?_
  intro p e s m args below meth c s₁ Bd hml0 hP hK
  obtain ⟨rfl, hZ, hh⟩ := hP
  have hx := Bd.exec
  have hby := Bd.bytes
  have hml : c.maxLocals = 7 := hml0
  have hown : s.vm.findClass "java/lang/StringUTF16" = some m.cls := findClass_of_methodNamed Bd.named
  have hnm := (name_of_methodNamed Bd.named Bd.method).1
  have X0 : Stand p l e ({ frames := 0, cells := 0, slots := 0, locals := 0 } : Room) s m #[(.ref a), (.int (0 : Int32)), (.ref b), (.int (0 : Int32)), (.int (2 : Int32))] below meth c s₁ [] 0 0 := Stand.of_body Bd
  have e0 : s₁.heap = h0 := by rw [← hh, Bd.state]; rfl
  have N0 := Fr.nil n0
  have pre0 : ∀ zt, Steps p.tables e below (s₁.setTop (mkF m 0 #[.val (.ref a), .val (.int (0 : Int32)), .val (.ref b), .val (.int (0 : Int32)), .val (.int (2 : Int32)), .unset, .unset] [])) zt → Steps p.tables e below (s₁.setTop (entryFrame m #[(.ref a), (.int (0 : Int32)), (.ref b), (.int (0 : Int32)), (.int (2 : Int32))] 7)) zt := fun zt zk => castTop (ef_1_RIRII m a (0 : Int32) b (0 : Int32) (2 : Int32)) zk
  obtain ⟨cl1, Ar1, q1, Sz1, Ng1, Hs1, Gs1⟩ := (id P0)
  have hin1 : ¬ ((0 : Int32) < 0 ∨ cl1.slots.size ≤ ((0 : Int32)).toNatClampNeg) := inb_of Sz1 ⟨by decide, by decide⟩
  have hat1 : cl1.slots[((0 : Int32)).toNatClampNeg]? = some (.int c0) := Has.at Hs1 hin1 rfl
  obtain ⟨cl2, Ar2, q2, Sz2, Ng2, Hs2, Gs2⟩ := (id P1)
  have hin2 : ¬ ((0 : Int32) < 0 ∨ cl2.slots.size ≤ ((0 : Int32)).toNatClampNeg) := inb_of Sz2 ⟨by decide, by decide⟩
  obtain ⟨T2, h2, X2, e2, W2, st2⟩ := stB X0 hx hZ e0 Ar2 (j := (0 : Int32)) hin2 (g := (mkF m 31 #[.val (.ref a), .val (.int (0 : Int32)), .val (.ref b), .val (.int (0 : Int32)), .val (.int (2 : Int32)), .val (.int (0 : Int32)), .val (.int c0)] [(.int (c0.toInt8.toInt32)), (.int (0 : Int32)), (.ref b)])) rfl rfl (hb hby d1_31)
  have V2 := Arv.set Ar2 q2 Sz2 Ng2 Hs2 Gs2 (fits_nar_byte _) W2 0 rfl (Nat.le_of_ble_eq_true rfl)
  have K2 : Keep h0 h2 [b] := (Keep.refl h0 [b]).wr W2 (Or.inl (List.mem_of_getElem? (i := 0) rfl))
  have N2 := Fr.snoc X2 N0 g_b
  have V2 : Arv Z h2 b kb .byte (2 : Int32) [(.int ((c0.toInt8.toInt32).toInt8.toInt32)), (.int (0 : Int32))] (.int (0 : Int32)) := V2
  obtain ⟨cl3, Ar3, q3, Sz3, Ng3, Hs3, Gs3⟩ := (id (P0.other W2 ne_a_b))
  have hin3 : ¬ ((1 : Int32) < 0 ∨ cl3.slots.size ≤ ((1 : Int32)).toNatClampNeg) := inb_of Sz3 ⟨by decide, by decide⟩
  have hat3 : cl3.slots[((1 : Int32)).toNatClampNeg]? = some (.int c1) := Has.at Hs3 hin3 rfl
  obtain ⟨cl4, Ar4, q4, Sz4, Ng4, Hs4, Gs4⟩ := (id V2)
  have hin4 : ¬ ((1 : Int32) < 0 ∨ cl4.slots.size ≤ ((1 : Int32)).toNatClampNeg) := inb_of Sz4 ⟨by decide, by decide⟩
  obtain ⟨T4, h4, X4, e4, W4, st4⟩ := stB X2 hx hZ e2 Ar4 (j := (1 : Int32)) hin4 (g := (mkF m 31 #[.val (.ref a), .val (.int (1 : Int32)), .val (.ref b), .val (.int (1 : Int32)), .val (.int (2 : Int32)), .val (.int (1 : Int32)), .val (.int c1)] [(.int (c1.toInt8.toInt32)), (.int (1 : Int32)), (.ref b)])) rfl rfl (hb hby d1_31)
  have V4 := Arv.set Ar4 q4 Sz4 Ng4 Hs4 Gs4 (fits_nar_byte _) W4 1 rfl (Nat.le_of_ble_eq_true rfl)
  have K4 : Keep h0 h4 [b] := K2.wr W4 (Or.inl (List.mem_of_getElem? (i := 0) rfl))
  have N4 := Fr.snoc X4 N2 g_b
  have V4 : Arv Z h4 b kb .byte (2 : Int32) [(.int ((c0.toInt8.toInt32).toInt8.toInt32)), (.int ((c1.toInt8.toInt32).toInt8.toInt32))] (.int (0 : Int32)) := V4
  obtain ⟨fs, hr, hrun, hended, hW, hsame⟩ := X4.leave (v := some (.int (2 : Int32))) (fun h => by rw [Bd.returns] at h; cases h)
  refine ⟨_, _, pre0 _ ?_, hrun, hended, _, _, rfl, ?_, ⟨_, rfl⟩, hW, hsame.mono (by decide) (by decide)⟩
  · show Steps p.tables e below (s₁.setTop (mkF m 0 #[.val (.ref a), .val (.int (0 : Int32)), .val (.ref b), .val (.int (0 : Int32)), .val (.int (2 : Int32)), .unset, .unset] [])) _
    refine XS.iconst X0.here hx rfl (hb hby d1_0) ?_
    show Steps p.tables e below (s₁.setTop (mkF m 1 #[.val (.ref a), .val (.int (0 : Int32)), .val (.ref b), .val (.int (0 : Int32)), .val (.int (2 : Int32)), .unset, .unset] [(.int (0 : Int32))])) _
    refine XS.istore X0.here hx rfl (hb hby d1_1) rfl (l' := #[.val (.ref a), .val (.int (0 : Int32)), .val (.ref b), .val (.int (0 : Int32)), .val (.int (2 : Int32)), .val (.int (0 : Int32)), .unset]) rfl ?_
    show Steps p.tables e below (s₁.setTop (mkF m 3 #[.val (.ref a), .val (.int (0 : Int32)), .val (.ref b), .val (.int (0 : Int32)), .val (.int (2 : Int32)), .val (.int (0 : Int32)), .unset] [])) _
    refine XS.iload X0.here hx rfl (hb hby d1_3) rfl ?_
    show Steps p.tables e below (s₁.setTop (mkF m 5 #[.val (.ref a), .val (.int (0 : Int32)), .val (.ref b), .val (.int (0 : Int32)), .val (.int (2 : Int32)), .val (.int (0 : Int32)), .unset] [(.int (0 : Int32))])) _
    refine XS.iload X0.here hx rfl (hb hby d1_5) rfl ?_
    show Steps p.tables e below (s₁.setTop (mkF m 7 #[.val (.ref a), .val (.int (0 : Int32)), .val (.ref b), .val (.int (0 : Int32)), .val (.int (2 : Int32)), .val (.int (0 : Int32)), .unset] [(.int (2 : Int32)), (.int (0 : Int32))])) _
    refine XS.icmpNo X0.here hx rfl (hb hby d1_7) rfl (tlt (by decide : (0 : Int32) < (2 : Int32))).2.1 ?_
    show Steps p.tables e below (s₁.setTop (mkF m 10 #[.val (.ref a), .val (.int (0 : Int32)), .val (.ref b), .val (.int (0 : Int32)), .val (.int (2 : Int32)), .val (.int (0 : Int32)), .unset] [])) _
    refine XS.aloadN X0.here hx rfl (hb hby d1_10) rfl rfl ?_
    show Steps p.tables e below (s₁.setTop (mkF m 11 #[.val (.ref a), .val (.int (0 : Int32)), .val (.ref b), .val (.int (0 : Int32)), .val (.int (2 : Int32)), .val (.int (0 : Int32)), .unset] [(.ref a)])) _
    refine XS.iloadN X0.here hx rfl (hb hby d1_11) rfl ?_
    show Steps p.tables e below (s₁.setTop (mkF m 12 #[.val (.ref a), .val (.int (0 : Int32)), .val (.ref b), .val (.int (0 : Int32)), .val (.int (2 : Int32)), .val (.int (0 : Int32)), .unset] [(.int (0 : Int32)), (.ref a)])) _
    refine X0.caload hx (j := (0 : Int32)) (v := (.int c0)) (Ar1.at_ e0) (State.isArrayOf_alike hZ.alike Ar1.2.1) Ar1.2.2 hin1 hat1 (g := (mkF m 12 #[.val (.ref a), .val (.int (0 : Int32)), .val (.ref b), .val (.int (0 : Int32)), .val (.int (2 : Int32)), .val (.int (0 : Int32)), .unset] [(.int (0 : Int32)), (.ref a)])) rfl rfl (hb hby d1_12) _ ?_
    show Steps p.tables e below (s₁.setTop (mkF m 13 #[.val (.ref a), .val (.int (0 : Int32)), .val (.ref b), .val (.int (0 : Int32)), .val (.int (2 : Int32)), .val (.int (0 : Int32)), .unset] [(.int c0)])) _
    refine XS.istore X0.here hx rfl (hb hby d1_13) rfl (l' := #[.val (.ref a), .val (.int (0 : Int32)), .val (.ref b), .val (.int (0 : Int32)), .val (.int (2 : Int32)), .val (.int (0 : Int32)), .val (.int c0)]) rfl ?_
    show Steps p.tables e below (s₁.setTop (mkF m 15 #[.val (.ref a), .val (.int (0 : Int32)), .val (.ref b), .val (.int (0 : Int32)), .val (.int (2 : Int32)), .val (.int (0 : Int32)), .val (.int c0)] [])) _
    refine XS.iload X0.here hx rfl (hb hby d1_15) rfl ?_
    show Steps p.tables e below (s₁.setTop (mkF m 17 #[.val (.ref a), .val (.int (0 : Int32)), .val (.ref b), .val (.int (0 : Int32)), .val (.int (2 : Int32)), .val (.int (0 : Int32)), .val (.int c0)] [(.int c0)])) _
    refine XS.sipush X0.here hx rfl (hb hby d1_17) ?_
    show Steps p.tables e below (s₁.setTop (mkF m 20 #[.val (.ref a), .val (.int (0 : Int32)), .val (.ref b), .val (.int (0 : Int32)), .val (.int (2 : Int32)), .val (.int (0 : Int32)), .val (.int c0)] [(.int (255 : Int32)), (.int c0)])) _
    refine XS.icmpYes X0.here hx rfl (pc0 := 20) (pc' := 26) rfl (hb hby d1_20) rfl (flt (hq0 : ¬ ((255 : Int32) < c0))).2.2.2 (by decide) (by decide) ?_
    show Steps p.tables e below (s₁.setTop (mkF m 26 #[.val (.ref a), .val (.int (0 : Int32)), .val (.ref b), .val (.int (0 : Int32)), .val (.int (2 : Int32)), .val (.int (0 : Int32)), .val (.int c0)] [])) _
    refine XS.aloadN X0.here hx rfl (hb hby d1_26) rfl rfl ?_
    show Steps p.tables e below (s₁.setTop (mkF m 27 #[.val (.ref a), .val (.int (0 : Int32)), .val (.ref b), .val (.int (0 : Int32)), .val (.int (2 : Int32)), .val (.int (0 : Int32)), .val (.int c0)] [(.ref b)])) _
    refine XS.iloadN X0.here hx rfl (hb hby d1_27) rfl ?_
    show Steps p.tables e below (s₁.setTop (mkF m 28 #[.val (.ref a), .val (.int (0 : Int32)), .val (.ref b), .val (.int (0 : Int32)), .val (.int (2 : Int32)), .val (.int (0 : Int32)), .val (.int c0)] [(.int (0 : Int32)), (.ref b)])) _
    refine XS.iload X0.here hx rfl (hb hby d1_28) rfl ?_
    show Steps p.tables e below (s₁.setTop (mkF m 30 #[.val (.ref a), .val (.int (0 : Int32)), .val (.ref b), .val (.int (0 : Int32)), .val (.int (2 : Int32)), .val (.int (0 : Int32)), .val (.int c0)] [(.int c0), (.int (0 : Int32)), (.ref b)])) _
    refine XS.i2b X0.here hx rfl (hb hby d1_30) rfl ?_
    show Steps p.tables e below (s₁.setTop (mkF m 31 #[.val (.ref a), .val (.int (0 : Int32)), .val (.ref b), .val (.int (0 : Int32)), .val (.int (2 : Int32)), .val (.int (0 : Int32)), .val (.int c0)] [(.int (c0.toInt8.toInt32)), (.int (0 : Int32)), (.ref b)])) _
    refine st2 _ ?_
    show Steps p.tables e below (T2.setTop (mkF m 32 #[.val (.ref a), .val (.int (0 : Int32)), .val (.ref b), .val (.int (0 : Int32)), .val (.int (2 : Int32)), .val (.int (0 : Int32)), .val (.int c0)] [])) _
    refine XS.iinc X2.here hx rfl (hb hby d1_32) rfl (l' := #[.val (.ref a), .val (.int (1 : Int32)), .val (.ref b), .val (.int (0 : Int32)), .val (.int (2 : Int32)), .val (.int (0 : Int32)), .val (.int c0)]) rfl ?_
    show Steps p.tables e below (T2.setTop (mkF m 35 #[.val (.ref a), .val (.int (1 : Int32)), .val (.ref b), .val (.int (0 : Int32)), .val (.int (2 : Int32)), .val (.int (0 : Int32)), .val (.int c0)] [])) _
    refine XS.iinc X2.here hx rfl (hb hby d1_35) rfl (l' := #[.val (.ref a), .val (.int (1 : Int32)), .val (.ref b), .val (.int (1 : Int32)), .val (.int (2 : Int32)), .val (.int (0 : Int32)), .val (.int c0)]) rfl ?_
    show Steps p.tables e below (T2.setTop (mkF m 38 #[.val (.ref a), .val (.int (1 : Int32)), .val (.ref b), .val (.int (1 : Int32)), .val (.int (2 : Int32)), .val (.int (0 : Int32)), .val (.int c0)] [])) _
    refine XS.iinc X2.here hx rfl (hb hby d1_38) rfl (l' := #[.val (.ref a), .val (.int (1 : Int32)), .val (.ref b), .val (.int (1 : Int32)), .val (.int (2 : Int32)), .val (.int (1 : Int32)), .val (.int c0)]) rfl ?_
    show Steps p.tables e below (T2.setTop (mkF m 41 #[.val (.ref a), .val (.int (1 : Int32)), .val (.ref b), .val (.int (1 : Int32)), .val (.int (2 : Int32)), .val (.int (1 : Int32)), .val (.int c0)] [])) _
    refine XS.goto X2.here hx rfl (pc0 := 41) (pc' := 3) rfl (hb hby d1_41) (by decide) (by decide) ?_
    show Steps p.tables e below (T2.setTop (mkF m 3 #[.val (.ref a), .val (.int (1 : Int32)), .val (.ref b), .val (.int (1 : Int32)), .val (.int (2 : Int32)), .val (.int (1 : Int32)), .val (.int c0)] [])) _
    refine XS.iload X2.here hx rfl (hb hby d1_3) rfl ?_
    show Steps p.tables e below (T2.setTop (mkF m 5 #[.val (.ref a), .val (.int (1 : Int32)), .val (.ref b), .val (.int (1 : Int32)), .val (.int (2 : Int32)), .val (.int (1 : Int32)), .val (.int c0)] [(.int (1 : Int32))])) _
    refine XS.iload X2.here hx rfl (hb hby d1_5) rfl ?_
    show Steps p.tables e below (T2.setTop (mkF m 7 #[.val (.ref a), .val (.int (1 : Int32)), .val (.ref b), .val (.int (1 : Int32)), .val (.int (2 : Int32)), .val (.int (1 : Int32)), .val (.int c0)] [(.int (2 : Int32)), (.int (1 : Int32))])) _
    refine XS.icmpNo X2.here hx rfl (hb hby d1_7) rfl (tlt (by decide : (1 : Int32) < (2 : Int32))).2.1 ?_
    show Steps p.tables e below (T2.setTop (mkF m 10 #[.val (.ref a), .val (.int (1 : Int32)), .val (.ref b), .val (.int (1 : Int32)), .val (.int (2 : Int32)), .val (.int (1 : Int32)), .val (.int c0)] [])) _
    refine XS.aloadN X2.here hx rfl (hb hby d1_10) rfl rfl ?_
    show Steps p.tables e below (T2.setTop (mkF m 11 #[.val (.ref a), .val (.int (1 : Int32)), .val (.ref b), .val (.int (1 : Int32)), .val (.int (2 : Int32)), .val (.int (1 : Int32)), .val (.int c0)] [(.ref a)])) _
    refine XS.iloadN X2.here hx rfl (hb hby d1_11) rfl ?_
    show Steps p.tables e below (T2.setTop (mkF m 12 #[.val (.ref a), .val (.int (1 : Int32)), .val (.ref b), .val (.int (1 : Int32)), .val (.int (2 : Int32)), .val (.int (1 : Int32)), .val (.int c0)] [(.int (1 : Int32)), (.ref a)])) _
    refine X2.caload hx (j := (1 : Int32)) (v := (.int c1)) (Ar3.at_ e2) (State.isArrayOf_alike hZ.alike Ar3.2.1) Ar3.2.2 hin3 hat3 (g := (mkF m 12 #[.val (.ref a), .val (.int (1 : Int32)), .val (.ref b), .val (.int (1 : Int32)), .val (.int (2 : Int32)), .val (.int (1 : Int32)), .val (.int c0)] [(.int (1 : Int32)), (.ref a)])) rfl rfl (hb hby d1_12) _ ?_
    show Steps p.tables e below (T2.setTop (mkF m 13 #[.val (.ref a), .val (.int (1 : Int32)), .val (.ref b), .val (.int (1 : Int32)), .val (.int (2 : Int32)), .val (.int (1 : Int32)), .val (.int c0)] [(.int c1)])) _
    refine XS.istore X2.here hx rfl (hb hby d1_13) rfl (l' := #[.val (.ref a), .val (.int (1 : Int32)), .val (.ref b), .val (.int (1 : Int32)), .val (.int (2 : Int32)), .val (.int (1 : Int32)), .val (.int c1)]) rfl ?_
    show Steps p.tables e below (T2.setTop (mkF m 15 #[.val (.ref a), .val (.int (1 : Int32)), .val (.ref b), .val (.int (1 : Int32)), .val (.int (2 : Int32)), .val (.int (1 : Int32)), .val (.int c1)] [])) _
    refine XS.iload X2.here hx rfl (hb hby d1_15) rfl ?_
    show Steps p.tables e below (T2.setTop (mkF m 17 #[.val (.ref a), .val (.int (1 : Int32)), .val (.ref b), .val (.int (1 : Int32)), .val (.int (2 : Int32)), .val (.int (1 : Int32)), .val (.int c1)] [(.int c1)])) _
    refine XS.sipush X2.here hx rfl (hb hby d1_17) ?_
    show Steps p.tables e below (T2.setTop (mkF m 20 #[.val (.ref a), .val (.int (1 : Int32)), .val (.ref b), .val (.int (1 : Int32)), .val (.int (2 : Int32)), .val (.int (1 : Int32)), .val (.int c1)] [(.int (255 : Int32)), (.int c1)])) _
    refine XS.icmpYes X2.here hx rfl (pc0 := 20) (pc' := 26) rfl (hb hby d1_20) rfl (flt (hq1 : ¬ ((255 : Int32) < c1))).2.2.2 (by decide) (by decide) ?_
    show Steps p.tables e below (T2.setTop (mkF m 26 #[.val (.ref a), .val (.int (1 : Int32)), .val (.ref b), .val (.int (1 : Int32)), .val (.int (2 : Int32)), .val (.int (1 : Int32)), .val (.int c1)] [])) _
    refine XS.aloadN X2.here hx rfl (hb hby d1_26) rfl rfl ?_
    show Steps p.tables e below (T2.setTop (mkF m 27 #[.val (.ref a), .val (.int (1 : Int32)), .val (.ref b), .val (.int (1 : Int32)), .val (.int (2 : Int32)), .val (.int (1 : Int32)), .val (.int c1)] [(.ref b)])) _
    refine XS.iloadN X2.here hx rfl (hb hby d1_27) rfl ?_
    show Steps p.tables e below (T2.setTop (mkF m 28 #[.val (.ref a), .val (.int (1 : Int32)), .val (.ref b), .val (.int (1 : Int32)), .val (.int (2 : Int32)), .val (.int (1 : Int32)), .val (.int c1)] [(.int (1 : Int32)), (.ref b)])) _
    refine XS.iload X2.here hx rfl (hb hby d1_28) rfl ?_
    show Steps p.tables e below (T2.setTop (mkF m 30 #[.val (.ref a), .val (.int (1 : Int32)), .val (.ref b), .val (.int (1 : Int32)), .val (.int (2 : Int32)), .val (.int (1 : Int32)), .val (.int c1)] [(.int c1), (.int (1 : Int32)), (.ref b)])) _
    refine XS.i2b X2.here hx rfl (hb hby d1_30) rfl ?_
    show Steps p.tables e below (T2.setTop (mkF m 31 #[.val (.ref a), .val (.int (1 : Int32)), .val (.ref b), .val (.int (1 : Int32)), .val (.int (2 : Int32)), .val (.int (1 : Int32)), .val (.int c1)] [(.int (c1.toInt8.toInt32)), (.int (1 : Int32)), (.ref b)])) _
    refine st4 _ ?_
    show Steps p.tables e below (T4.setTop (mkF m 32 #[.val (.ref a), .val (.int (1 : Int32)), .val (.ref b), .val (.int (1 : Int32)), .val (.int (2 : Int32)), .val (.int (1 : Int32)), .val (.int c1)] [])) _
    refine XS.iinc X4.here hx rfl (hb hby d1_32) rfl (l' := #[.val (.ref a), .val (.int (2 : Int32)), .val (.ref b), .val (.int (1 : Int32)), .val (.int (2 : Int32)), .val (.int (1 : Int32)), .val (.int c1)]) rfl ?_
    show Steps p.tables e below (T4.setTop (mkF m 35 #[.val (.ref a), .val (.int (2 : Int32)), .val (.ref b), .val (.int (1 : Int32)), .val (.int (2 : Int32)), .val (.int (1 : Int32)), .val (.int c1)] [])) _
    refine XS.iinc X4.here hx rfl (hb hby d1_35) rfl (l' := #[.val (.ref a), .val (.int (2 : Int32)), .val (.ref b), .val (.int (2 : Int32)), .val (.int (2 : Int32)), .val (.int (1 : Int32)), .val (.int c1)]) rfl ?_
    show Steps p.tables e below (T4.setTop (mkF m 38 #[.val (.ref a), .val (.int (2 : Int32)), .val (.ref b), .val (.int (2 : Int32)), .val (.int (2 : Int32)), .val (.int (1 : Int32)), .val (.int c1)] [])) _
    refine XS.iinc X4.here hx rfl (hb hby d1_38) rfl (l' := #[.val (.ref a), .val (.int (2 : Int32)), .val (.ref b), .val (.int (2 : Int32)), .val (.int (2 : Int32)), .val (.int (2 : Int32)), .val (.int c1)]) rfl ?_
    show Steps p.tables e below (T4.setTop (mkF m 41 #[.val (.ref a), .val (.int (2 : Int32)), .val (.ref b), .val (.int (2 : Int32)), .val (.int (2 : Int32)), .val (.int (2 : Int32)), .val (.int c1)] [])) _
    refine XS.goto X4.here hx rfl (pc0 := 41) (pc' := 3) rfl (hb hby d1_41) (by decide) (by decide) ?_
    show Steps p.tables e below (T4.setTop (mkF m 3 #[.val (.ref a), .val (.int (2 : Int32)), .val (.ref b), .val (.int (2 : Int32)), .val (.int (2 : Int32)), .val (.int (2 : Int32)), .val (.int c1)] [])) _
    refine XS.iload X4.here hx rfl (hb hby d1_3) rfl ?_
    show Steps p.tables e below (T4.setTop (mkF m 5 #[.val (.ref a), .val (.int (2 : Int32)), .val (.ref b), .val (.int (2 : Int32)), .val (.int (2 : Int32)), .val (.int (2 : Int32)), .val (.int c1)] [(.int (2 : Int32))])) _
    refine XS.iload X4.here hx rfl (hb hby d1_5) rfl ?_
    show Steps p.tables e below (T4.setTop (mkF m 7 #[.val (.ref a), .val (.int (2 : Int32)), .val (.ref b), .val (.int (2 : Int32)), .val (.int (2 : Int32)), .val (.int (2 : Int32)), .val (.int c1)] [(.int (2 : Int32)), (.int (2 : Int32))])) _
    refine XS.icmpYes X4.here hx rfl (pc0 := 7) (pc' := 44) rfl (hb hby d1_7) rfl (flt (by decide : ¬ ((2 : Int32) < (2 : Int32)))).2.1 (by decide) (by decide) ?_
    show Steps p.tables e below (T4.setTop (mkF m 44 #[.val (.ref a), .val (.int (2 : Int32)), .val (.ref b), .val (.int (2 : Int32)), .val (.int (2 : Int32)), .val (.int (2 : Int32)), .val (.int c1)] [])) _
    refine XS.iload X4.here hx rfl (hb hby d1_44) rfl ?_
    show Steps p.tables e below (T4.setTop (mkF m 46 #[.val (.ref a), .val (.int (2 : Int32)), .val (.ref b), .val (.int (2 : Int32)), .val (.int (2 : Int32)), .val (.int (2 : Int32)), .val (.int c1)] [(.int (2 : Int32))])) _
    exact retI X4 hx Bd.returns (hb hby d1_46) hr
  · show Q_cp2 Z a b ka c0 c1 kb h0 n0 _ T4.heap _
    rw [e4]
    exact ⟨rfl, N4, K4, (ArZ.of V4)⟩
def Q_cpr (Z : State) (a : Addr) (ka : ClassId) (c0 : Int32) (c1 : Int32) (h0 : Heap) (n0 : Nat) (v : Option Value) (h : Heap) (L : List Loc) : Prop := ∃ r : Addr, v = some (.ref r) ∧ Fr n0 L ∧ Keep h0 h [] ∧ h0.size ≤ r ∧ ArZ Z h r .byte (2 : Int32)
theorem d3_0 : decode jdk_52_method_16_code 0 = .ok (.iload_n 2, 1) := by decide +kernel
theorem d3_1 : decode jdk_52_method_16_code 1 = .ok (.newarray .byte, 2) := by decide +kernel
theorem d3_3 : decode jdk_52_method_16_code 3 = .ok (.astore_n 3, 1) := by decide +kernel
theorem d3_4 : decode jdk_52_method_16_code 4 = .ok (.aload_n 0, 1) := by decide +kernel
theorem d3_5 : decode jdk_52_method_16_code 5 = .ok (.iload_n 1, 1) := by decide +kernel
theorem d3_6 : decode jdk_52_method_16_code 6 = .ok (.aload_n 3, 1) := by decide +kernel
theorem d3_7 : decode jdk_52_method_16_code 7 = .ok (.iconst 0, 1) := by decide +kernel
theorem d3_8 : decode jdk_52_method_16_code 8 = .ok (.iload_n 2, 1) := by decide +kernel
theorem d3_9 : decode jdk_52_method_16_code 9 = .ok (.invokestatic 115, 3) := by decide +kernel
theorem pd_0 : parseMethodDescriptor "([CI[BII)I" = some ⟨[(.array .char), .int, (.array .byte), .int, .int], some .int⟩ := by decide +kernel
theorem d3_12 : decode jdk_52_method_16_code 12 = .ok (.istore 4, 2) := by decide +kernel
theorem d3_14 : decode jdk_52_method_16_code 14 = .ok (.iload 4, 2) := by decide +kernel
theorem d3_16 : decode jdk_52_method_16_code 16 = .ok (.iload_n 2, 1) := by decide +kernel
theorem d3_17 : decode jdk_52_method_16_code 17 = .ok (.if_icmp .eq 40, 3) := by decide +kernel
theorem d3_57 : decode jdk_52_method_16_code 57 = .ok (.aload_n 3, 1) := by decide +kernel
theorem d3_58 : decode jdk_52_method_16_code 58 = .ok (.areturn, 1) := by decide +kernel
theorem ef_3_RII (m : MethodId) (x0 : Addr) (x1 : Int32) (x2 : Int32) : entryFrame m #[(.ref x0), (.int x1), (.int x2)] 6 = mkF m 0 #[.val (.ref x0), .val (.int x1), .val (.int x2), .unset, .unset, .unset] [] := by first | (simp [entryFrame, mkF, argsToLocals, Value.category]; done) | rfl
set_option maxRecDepth 65536 in
set_option maxHeartbeats 40000000 in
theorem cpr (l : Launch) (Z : State) (a0 : Array Value) (hw : ∀ d ∈ tables_1, d.before a0 Z = true) (ws : List Jvm.Cond) (a : Addr) (ka : ClassId) (c0 : Int32) (c1 : Int32) (h0 : Heap) (n0 : Nat) (Z0 : n0 ≤ h0.size) (P0 : Arv Z h0 a ka .char (2 : Int32) [(.int c0), (.int c1)] (.int (0 : Int32))) (hq0 : ¬ ((255 : Int32) < c0)) (hq1 : ¬ ((255 : Int32) < c1)) :
    MetFree l (⟨"java/lang/StringUTF16", "compress", "([CII)[B"⟩ : MethodName) (head1 (Jvm.Cond.code (⟨"java/lang/StringUTF16", "compress", "([CII)[B"⟩ : MethodName) jdk_52_method_16_code 6 (some (.array .byte)) :: ws) ({ frames := 1, cells := 1, slots := 2, locals := 18 } : Room)) (fun zA zU => zA = #[(.ref a), (.int (0 : Int32)), (.int (2 : Int32))] ∧ Z.Warmed39 zU.vm ∧ zU.heap = h0) (fun _ _ _ _ _ => True) (fun _ zU zo zU' => ∃ zv zL, zo = .returned zv ∧ Q_cpr Z a ka c0 c1 h0 n0 zv zU'.heap zL ∧ FrameEnd zU zo zU' zL ({ frames := 1, cells := 1, slots := 2, locals := 18 } : Room).cells ({ frames := 1, cells := 1, slots := 2, locals := 18 } : Room).slots) := by
  refine MetFree.of_bodySF (plainFor_of_name pn_2) hisR ?_
  intro p e s m args below meth c s₁ Bd hml0 hP hK
  obtain ⟨rfl, hZ, hh⟩ := hP
  have hx := Bd.exec
  have hby := Bd.bytes
  have hml : c.maxLocals = 6 := hml0
  have hown : s.vm.findClass "java/lang/StringUTF16" = some m.cls := findClass_of_methodNamed Bd.named
  have hnm := (name_of_methodNamed Bd.named Bd.method).1
  have X0 : Stand p l e ({ frames := 1, cells := 1, slots := 2, locals := 18 } : Room) s m #[(.ref a), (.int (0 : Int32)), (.int (2 : Int32))] below meth c s₁ [] 0 0 := Stand.of_body Bd
  have e0 : s₁.heap = h0 := by rw [← hh, Bd.state]; rfl
  have N0 := Fr.nil n0
  have pre0 : ∀ zt, Steps p.tables e below (s₁.setTop (mkF m 0 #[.val (.ref a), .val (.int (0 : Int32)), .val (.int (2 : Int32)), .unset, .unset, .unset] [])) zt → Steps p.tables e below (s₁.setTop (entryFrame m #[(.ref a), (.int (0 : Int32)), (.int (2 : Int32))] 6)) zt := fun zt zk => castTop (ef_3_RII m a (0 : Int32) (2 : Int32)) zk
  obtain ⟨T1, h1, k1, X1, e1, E1, A1, st1⟩ := newP X0 hx hZ (hw _ (List.mem_of_getElem? (i := 10) rfl)) e0 (g := (mkF m 1 #[.val (.ref a), .val (.int (0 : Int32)), .val (.int (2 : Int32)), .unset, .unset, .unset] [(.int (2 : Int32))])) rfl (hb hby d3_1) rfl (by decide) (cap := 2) (by decide) (by decide) (by decide) (by decide)
  obtain ⟨b1, gz1⟩ : ∃ z, z = h0.size := ⟨_, rfl⟩
  rw [← gz1] at A1 st1
  have sz_b1 : h0.size ≤ b1 := Nat.le_trans (Keep.refl h0 []).1 (Nat.le_of_eq gz1.symm)
  have g_b1 : n0 ≤ b1 := Nat.le_trans Z0 sz_b1
  have K1 : Keep h0 h1 [] := (Keep.refl h0 []).ext E1
  have V1 : Arv Z h1 b1 k1 .byte (2 : Int32) [(.int (0 : Int32)), (.int (0 : Int32))] (.int (0 : Int32)) := (Arv.new A1 (by decide)).pad (pad_rep [] (.int (0 : Int32)) 2)
  obtain ⟨_, _, ⟨T2, L2, k2, n2⟩, -, X2, ⟨Lc2, hQ2, l2, y2, z2⟩, st2⟩ := Jvm.LawKit.callS X1 hx (y := (⟨"java/lang/StringUTF16", "compress", "([CI[BII)I"⟩ : MethodName)) hown (mvT hZ (hw _ (List.mem_of_getElem? (i := 87) rfl))) (mvT hZ (hw _ (List.mem_of_getElem? (i := 88) rfl))) (mvT hZ (hw _ (List.mem_of_getElem? (i := 85) rfl))) (mvT hZ (hw _ (List.mem_of_getElem? (i := 89) rfl))) (by decide) (backOf (W := 0) (cp2 l Z a0 hw [] a b1 ka c0 c1 k1 h1 n0 (Nat.le_trans Z0 K1.1) (P0.ext E1) V1 g_b1 (Nat.ne_of_lt (Nat.lt_of_lt_of_le (P0).lt (Nat.le_of_eq gz1.symm))) hq0 hq1) hZ (hw _ (List.mem_of_getElem? (i := 89) rfl)) (hw _ (List.mem_of_getElem? (i := 85) rfl)) (by decide) (by decide)) (g := (mkF m 9 #[.val (.ref a), .val (.int (0 : Int32)), .val (.int (2 : Int32)), .val (.ref b1), .unset, .unset] [(.int (2 : Int32)), (.int (0 : Int32)), (.ref b1), (.int (0 : Int32)), (.ref a)])) rfl (by rw [hml]; rfl) (argsL := [(.ref a), (.int (0 : Int32)), (.ref b1), (.int (0 : Int32)), (.int (2 : Int32))]) (rest := []) (lenOf pd_0 rfl) rfl (by show 2 * 0 + _ ≤ _; exact Nat.le_of_eq rfl) (hb hby d3_9) (fun _ _ => ⟨rfl, e1, (by decide : 1 + 0 ≤ _), (by decide : 2 + 0 ≤ _)⟩)
  dsimp only [Pt.U, Pt.locs, Pt.cells, Pt.slots] at X2 l2 y2 z2 st2 hQ2
  subst l2 y2 z2
  obtain ⟨rfl, Nq2, kh2, Po2_0⟩ := hQ2
  have N2 := Fr.app N0 Nq2
  have K2 : Keep h0 T2.heap [] := K1.trans kh2 (allS (Or.inr sz_b1) all0)
  obtain ⟨fs, hr, hrun, hended, hW, hsame⟩ := X2.leave (v := some (.ref b1)) (fun h => by rw [Bd.returns] at h; cases h)
  refine ⟨_, _, pre0 _ ?_, hrun, hended, _, _, rfl, ?_, ⟨_, rfl⟩, hW, hsame.mono (by decide) (by decide)⟩
  · show Steps p.tables e below (s₁.setTop (mkF m 0 #[.val (.ref a), .val (.int (0 : Int32)), .val (.int (2 : Int32)), .unset, .unset, .unset] [])) _
    refine XS.iloadN X0.here hx rfl (hb hby d3_0) rfl ?_
    show Steps p.tables e below (s₁.setTop (mkF m 1 #[.val (.ref a), .val (.int (0 : Int32)), .val (.int (2 : Int32)), .unset, .unset, .unset] [(.int (2 : Int32))])) _
    refine st1 _ ?_
    show Steps p.tables e below (T1.setTop (mkF m 3 #[.val (.ref a), .val (.int (0 : Int32)), .val (.int (2 : Int32)), .unset, .unset, .unset] [(.ref b1)])) _
    refine XS.astoreN X1.here hx rfl (hb hby d3_3) rfl rfl (l' := #[.val (.ref a), .val (.int (0 : Int32)), .val (.int (2 : Int32)), .val (.ref b1), .unset, .unset]) rfl ?_
    show Steps p.tables e below (T1.setTop (mkF m 4 #[.val (.ref a), .val (.int (0 : Int32)), .val (.int (2 : Int32)), .val (.ref b1), .unset, .unset] [])) _
    refine XS.aloadN X1.here hx rfl (hb hby d3_4) rfl rfl ?_
    show Steps p.tables e below (T1.setTop (mkF m 5 #[.val (.ref a), .val (.int (0 : Int32)), .val (.int (2 : Int32)), .val (.ref b1), .unset, .unset] [(.ref a)])) _
    refine XS.iloadN X1.here hx rfl (hb hby d3_5) rfl ?_
    show Steps p.tables e below (T1.setTop (mkF m 6 #[.val (.ref a), .val (.int (0 : Int32)), .val (.int (2 : Int32)), .val (.ref b1), .unset, .unset] [(.int (0 : Int32)), (.ref a)])) _
    refine XS.aloadN X1.here hx rfl (hb hby d3_6) rfl rfl ?_
    show Steps p.tables e below (T1.setTop (mkF m 7 #[.val (.ref a), .val (.int (0 : Int32)), .val (.int (2 : Int32)), .val (.ref b1), .unset, .unset] [(.ref b1), (.int (0 : Int32)), (.ref a)])) _
    refine XS.iconst X1.here hx rfl (hb hby d3_7) ?_
    show Steps p.tables e below (T1.setTop (mkF m 8 #[.val (.ref a), .val (.int (0 : Int32)), .val (.int (2 : Int32)), .val (.ref b1), .unset, .unset] [(.int (0 : Int32)), (.ref b1), (.int (0 : Int32)), (.ref a)])) _
    refine XS.iloadN X1.here hx rfl (hb hby d3_8) rfl ?_
    show Steps p.tables e below (T1.setTop (mkF m 9 #[.val (.ref a), .val (.int (0 : Int32)), .val (.int (2 : Int32)), .val (.ref b1), .unset, .unset] [(.int (2 : Int32)), (.int (0 : Int32)), (.ref b1), (.int (0 : Int32)), (.ref a)])) _
    refine st2 _ ?_
    show Steps p.tables e below (T2.setTop (mkF m 12 #[.val (.ref a), .val (.int (0 : Int32)), .val (.int (2 : Int32)), .val (.ref b1), .unset, .unset] [(.int (2 : Int32))])) _
    refine XS.istore X2.here hx rfl (hb hby d3_12) rfl (l' := #[.val (.ref a), .val (.int (0 : Int32)), .val (.int (2 : Int32)), .val (.ref b1), .val (.int (2 : Int32)), .unset]) rfl ?_
    show Steps p.tables e below (T2.setTop (mkF m 14 #[.val (.ref a), .val (.int (0 : Int32)), .val (.int (2 : Int32)), .val (.ref b1), .val (.int (2 : Int32)), .unset] [])) _
    refine XS.iload X2.here hx rfl (hb hby d3_14) rfl ?_
    show Steps p.tables e below (T2.setTop (mkF m 16 #[.val (.ref a), .val (.int (0 : Int32)), .val (.int (2 : Int32)), .val (.ref b1), .val (.int (2 : Int32)), .unset] [(.int (2 : Int32))])) _
    refine XS.iloadN X2.here hx rfl (hb hby d3_16) rfl ?_
    show Steps p.tables e below (T2.setTop (mkF m 17 #[.val (.ref a), .val (.int (0 : Int32)), .val (.int (2 : Int32)), .val (.ref b1), .val (.int (2 : Int32)), .unset] [(.int (2 : Int32)), (.int (2 : Int32))])) _
    refine XS.icmpYes X2.here hx rfl (pc0 := 17) (pc' := 57) rfl (hb hby d3_17) rfl (teq (by decide : (2 : Int32) = (2 : Int32))).1 (by decide) (by decide) ?_
    show Steps p.tables e below (T2.setTop (mkF m 57 #[.val (.ref a), .val (.int (0 : Int32)), .val (.int (2 : Int32)), .val (.ref b1), .val (.int (2 : Int32)), .unset] [])) _
    refine XS.aloadN X2.here hx rfl (hb hby d3_57) rfl rfl ?_
    show Steps p.tables e below (T2.setTop (mkF m 58 #[.val (.ref a), .val (.int (0 : Int32)), .val (.int (2 : Int32)), .val (.ref b1), .val (.int (2 : Int32)), .unset] [(.ref b1)])) _
    jvm_step X2.here [X2.here.top, hx, (hb hby d3_58), X2.method', Bd.returns, Value.isRef, FieldType.isReference]
    first | (intro acts; rw [hr _ acts rfl rfl rfl]) | rw [hr _ _ rfl rfl rfl]
    exact Steps.refl _
  · show Q_cpr Z a ka c0 c1 h0 n0 _ T2.heap _
    exact ⟨b1, rfl, N2, K2, sz_b1, Po2_0⟩
def Q_cfl (Z : State) (b : Addr) (h0 : Heap) (n0 : Nat) (v : Option Value) (h : Heap) (L : List Loc) : Prop := v = some (.int (0 : Int32)) ∧ Fr n0 L ∧ h = h0
theorem d4_0 : decode jdk_52_method_15_code 0 = .ok (.iload_n 1, 1) := by decide +kernel
theorem d4_1 : decode jdk_52_method_15_code 1 = .ok (.aload_n 0, 1) := by decide +kernel
theorem d4_2 : decode jdk_52_method_15_code 2 = .ok (.arraylength, 1) := by decide +kernel
theorem d4_3 : decode jdk_52_method_15_code 3 = .ok (.isub, 1) := by decide +kernel
theorem d4_4 : decode jdk_52_method_15_code 4 = .ok (.bipush 31, 2) := by decide +kernel
theorem d4_6 : decode jdk_52_method_15_code 6 = .ok (.iushr, 1) := by decide +kernel
theorem d4_7 : decode jdk_52_method_15_code 7 = .ok (.i2b, 1) := by decide +kernel
theorem d4_8 : decode jdk_52_method_15_code 8 = .ok (.ireturn, 1) := by decide +kernel
theorem ef_4_RI (m : MethodId) (x0 : Addr) (x1 : Int32) : entryFrame m #[(.ref x0), (.int x1)] 2 = mkF m 0 #[.val (.ref x0), .val (.int x1)] [] := by first | (simp [entryFrame, mkF, argsToLocals, Value.category]; done) | rfl
set_option maxRecDepth 65536 in
set_option maxHeartbeats 40000000 in
theorem cfl (l : Launch) (Z : State) (a0 : Array Value) (hw : ∀ d ∈ tables_1, d.before a0 Z = true) (ws : List Jvm.Cond) (b : Addr) (h0 : Heap) (n0 : Nat) (Z0 : n0 ≤ h0.size) (P0 : ArZ Z h0 b .byte (2 : Int32)) :
    MetFree l (⟨"java/lang/StringUTF16", "coderFromArrayLen", "([BI)B"⟩ : MethodName) (head1 (Jvm.Cond.code (⟨"java/lang/StringUTF16", "coderFromArrayLen", "([BI)B"⟩ : MethodName) jdk_52_method_15_code 2 (some .byte) :: ws) ({ frames := 0, cells := 0, slots := 0, locals := 0 } : Room)) (fun zA zU => zA = #[(.ref b), (.int (2 : Int32))] ∧ Z.Warmed39 zU.vm ∧ zU.heap = h0) (fun _ _ _ _ _ => True) (fun _ zU zo zU' => ∃ zv zL, zo = .returned zv ∧ Q_cfl Z b h0 n0 zv zU'.heap zL ∧ FrameEnd zU zo zU' zL ({ frames := 0, cells := 0, slots := 0, locals := 0 } : Room).cells ({ frames := 0, cells := 0, slots := 0, locals := 0 } : Room).slots) := by
  refine MetFree.of_bodySF (plainFor_of_name pn_2) hisR ?_
  intro p e s m args below meth c s₁ Bd hml0 hP hK
  obtain ⟨rfl, hZ, hh⟩ := hP
  have hx := Bd.exec
  have hby := Bd.bytes
  have hml : c.maxLocals = 2 := hml0
  have hown : s.vm.findClass "java/lang/StringUTF16" = some m.cls := findClass_of_methodNamed Bd.named
  have hnm := (name_of_methodNamed Bd.named Bd.method).1
  have X0 : Stand p l e ({ frames := 0, cells := 0, slots := 0, locals := 0 } : Room) s m #[(.ref b), (.int (2 : Int32))] below meth c s₁ [] 0 0 := Stand.of_body Bd
  have e0 : s₁.heap = h0 := by rw [← hh, Bd.state]; rfl
  have N0 := Fr.nil n0
  have pre0 : ∀ zt, Steps p.tables e below (s₁.setTop (mkF m 0 #[.val (.ref b), .val (.int (2 : Int32))] [])) zt → Steps p.tables e below (s₁.setTop (entryFrame m #[(.ref b), (.int (2 : Int32))] 2)) zt := fun zt zk => castTop (ef_4_RI m b (2 : Int32)) zk
  obtain ⟨cl1, Ar1, Sz1, Ng1, -⟩ := (id P0)
  obtain ⟨fs, hr, hrun, hended, hW, hsame⟩ := X0.leave (v := some (.int (0 : Int32))) (fun h => by rw [Bd.returns] at h; cases h)
  refine ⟨_, _, pre0 _ ?_, hrun, hended, _, _, rfl, ?_, ⟨_, rfl⟩, hW, hsame.mono (by decide) (by decide)⟩
  · show Steps p.tables e below (s₁.setTop (mkF m 0 #[.val (.ref b), .val (.int (2 : Int32))] [])) _
    refine XS.iloadN X0.here hx rfl (hb hby d4_0) rfl ?_
    show Steps p.tables e below (s₁.setTop (mkF m 1 #[.val (.ref b), .val (.int (2 : Int32))] [(.int (2 : Int32))])) _
    refine XS.aloadN X0.here hx rfl (hb hby d4_1) rfl rfl ?_
    show Steps p.tables e below (s₁.setTop (mkF m 2 #[.val (.ref b), .val (.int (2 : Int32))] [(.ref b), (.int (2 : Int32))])) _
    refine X0.arraylength hx (Ar1.at_ e0) (State.isArrayOf_alike hZ.alike Ar1.2.1) (g := (mkF m 2 #[.val (.ref b), .val (.int (2 : Int32))] [(.ref b), (.int (2 : Int32))])) rfl rfl (hb hby d4_2) _ ?_
    rw [len_of Sz1 Ng1]
    show Steps p.tables e below (s₁.setTop (mkF m 3 #[.val (.ref b), .val (.int (2 : Int32))] [(.int (2 : Int32)), (.int (2 : Int32))])) _
    refine XS.isub X0.here hx rfl (hb hby d4_3) rfl ?_
    show Steps p.tables e below (s₁.setTop (mkF m 4 #[.val (.ref b), .val (.int (2 : Int32))] [(.int ((2 : Int32) - (2 : Int32)))])) _
    refine XS.bipush X0.here hx rfl (hb hby d4_4) ?_
    show Steps p.tables e below (s₁.setTop (mkF m 6 #[.val (.ref b), .val (.int (2 : Int32))] [(.int (31 : Int32)), (.int ((2 : Int32) - (2 : Int32)))])) _
    refine XS.iushr X0.here hx rfl (hb hby d4_6) rfl ?_
    show Steps p.tables e below (s₁.setTop (mkF m 7 #[.val (.ref b), .val (.int (2 : Int32))] [(.int ((((2 : Int32) - (2 : Int32)).toUInt32 >>> ((31 : Int32) &&& 31).toUInt32).toInt32))])) _
    refine XS.i2b X0.here hx rfl (hb hby d4_7) rfl ?_
    show Steps p.tables e below (s₁.setTop (mkF m 8 #[.val (.ref b), .val (.int (2 : Int32))] [(.int (((((2 : Int32) - (2 : Int32)).toUInt32 >>> ((31 : Int32) &&& 31).toUInt32).toInt32).toInt8.toInt32))])) _
    refine castTop (congrArg (fun z_ => (mkF m 8 #[.val (.ref b), .val (.int (2 : Int32))] [(.int z_)])) (by decide : (((((2 : Int32) - (2 : Int32)).toUInt32 >>> ((31 : Int32) &&& 31).toUInt32).toInt32).toInt8.toInt32) = (0 : Int32))) ?_
    show Steps p.tables e below (s₁.setTop (mkF m 8 #[.val (.ref b), .val (.int (2 : Int32))] [(.int (0 : Int32))])) _
    exact retN X0 hx (t := .byte) Bd.returns (by simp) (hb hby d4_8) hr
  · show Q_cfl Z b h0 n0 _ s₁.heap _
    rw [e0]
    exact ⟨rfl, N0, rfl⟩
def Q_sn2 (Z : State) (a : Addr) (b : Addr) (ka : ClassId) (c0 : Int32) (c1 : Int32) (cs : Int32) (h0 : Heap) (n0 : Nat) (v : Option Value) (h : Heap) (L : List Loc) : Prop := v = none ∧ Fr n0 L ∧ Keep h0 h [a] ∧ Exa Z h a "java/lang/String"
theorem d5_0 : decode jdk_42_method_149_code 0 = .ok (.aload_n 0, 1) := by decide +kernel
theorem d5_1 : decode jdk_42_method_149_code 1 = .ok (.invokespecial 1, 3) := by decide +kernel
theorem d5_4 : decode jdk_42_method_149_code 4 = .ok (.iload_n 3, 1) := by decide +kernel
theorem d5_5 : decode jdk_42_method_149_code 5 = .ok (.ifCond .ne 22, 3) := by decide +kernel
theorem d5_27 : decode jdk_42_method_149_code 27 = .ok (.getstatic 38, 3) := by decide +kernel
theorem d5_30 : decode jdk_42_method_149_code 30 = .ok (.ifCond .eq 28, 3) := by decide +kernel
theorem d5_33 : decode jdk_42_method_149_code 33 = .ok (.aload_n 1, 1) := by decide +kernel
theorem d5_34 : decode jdk_42_method_149_code 34 = .ok (.iload_n 2, 1) := by decide +kernel
theorem d5_35 : decode jdk_42_method_149_code 35 = .ok (.iload_n 3, 1) := by decide +kernel
theorem d5_36 : decode jdk_42_method_149_code 36 = .ok (.invokestatic 177, 3) := by decide +kernel
theorem pd_1 : parseMethodDescriptor "([CII)[B" = some ⟨[(.array .char), .int, .int], some (.array .byte)⟩ := by decide +kernel
theorem d5_39 : decode jdk_42_method_149_code 39 = .ok (.astore 5, 2) := by decide +kernel
theorem d5_41 : decode jdk_42_method_149_code 41 = .ok (.aload_n 0, 1) := by decide +kernel
theorem d5_42 : decode jdk_42_method_149_code 42 = .ok (.aload 5, 2) := by decide +kernel
theorem d5_44 : decode jdk_42_method_149_code 44 = .ok (.iload_n 3, 1) := by decide +kernel
theorem d5_45 : decode jdk_42_method_149_code 45 = .ok (.invokestatic 47, 3) := by decide +kernel
theorem pd_2 : parseMethodDescriptor "([BI)B" = some ⟨[(.array .byte), .int], some .byte⟩ := by decide +kernel
theorem d5_48 : decode jdk_42_method_149_code 48 = .ok (.putfield 15, 3) := by decide +kernel
theorem d5_51 : decode jdk_42_method_149_code 51 = .ok (.aload_n 0, 1) := by decide +kernel
theorem d5_52 : decode jdk_42_method_149_code 52 = .ok (.aload 5, 2) := by decide +kernel
theorem d5_54 : decode jdk_42_method_149_code 54 = .ok (.putfield 9, 3) := by decide +kernel
theorem d5_57 : decode jdk_42_method_149_code 57 = .ok (.return_, 1) := by decide +kernel
theorem pn_6 : plainName "java/lang/String" = true := by first | (simp [plainName, overriddenIn]; done) | decide +kernel
theorem ef_5_RRIIn (m : MethodId) (x0 : Addr) (x1 : Addr) (x2 : Int32) (x3 : Int32) : entryFrame m #[(.ref x0), (.ref x1), (.int x2), (.int x3), .null] 6 = mkF m 0 #[.val (.ref x0), .val (.ref x1), .val (.int x2), .val (.int x3), .val .null, .unset] [] := by first | (simp [entryFrame, mkF, argsToLocals, Value.category]; done) | rfl
set_option maxRecDepth 65536 in
set_option maxHeartbeats 40000000 in
theorem sn2 (l : Launch) (Z : State) (a0 : Array Value) (hw : ∀ d ∈ tables_1, d.before a0 Z = true) (ws : List Jvm.Cond) (a : Addr) (b : Addr) (ka : ClassId) (c0 : Int32) (c1 : Int32) (cs : Int32) (h0 : Heap) (n0 : Nat) (O0 : Old Z n0 h0) (G0 : Sta Z Z.heap "java/lang/String" "COMPACT_STRINGS" "Z" (.int cs)) (P0 : Exa Z h0 a "java/lang/String") (P1 : Fld Z h0 a "java/lang/String" "value" "[B" .null) (P2 : Fld Z h0 a "java/lang/String" "coder" "B" (.int (0 : Int32))) (P3 : Arv Z h0 b ka .char (2 : Int32) [(.int c0), (.int c1)] (.int (0 : Int32))) (g_a : n0 ≤ a) (hcs : ¬ (cs = (0 : Int32))) (hq0 : ¬ ((255 : Int32) < c0)) (hq1 : ¬ ((255 : Int32) < c1)) :
    MetFree l (⟨"java/lang/String", "<init>", "([CIILjava/lang/Void;)V"⟩ : MethodName) (head1 (Jvm.Cond.code (⟨"java/lang/String", "<init>", "([CIILjava/lang/Void;)V"⟩ : MethodName) jdk_42_method_149_code 6 none :: ws) ({ frames := 2, cells := 1, slots := 2, locals := 35 } : Room)) (fun zA zU => zA = #[(.ref a), (.ref b), (.int (0 : Int32)), (.int (2 : Int32)), .null] ∧ Z.Warmed39 zU.vm ∧ zU.heap = h0) (fun _ _ _ _ _ => True) (fun _ zU zo zU' => ∃ zv zL, zo = .returned zv ∧ Q_sn2 Z a b ka c0 c1 cs h0 n0 zv zU'.heap zL ∧ FrameEnd zU zo zU' zL ({ frames := 2, cells := 1, slots := 2, locals := 35 } : Room).cells ({ frames := 2, cells := 1, slots := 2, locals := 35 } : Room).slots) := by
  refine MetFree.of_bodySF (plainFor_of_name pn_6) hisR ?_
  intro p e s m args below meth c s₁ Bd hml0 hP hK
  obtain ⟨rfl, hZ, hh⟩ := hP
  have hx := Bd.exec
  have hby := Bd.bytes
  have hml : c.maxLocals = 6 := hml0
  have hown : s.vm.findClass "java/lang/String" = some m.cls := findClass_of_methodNamed Bd.named
  have hnm := (name_of_methodNamed Bd.named Bd.method).1
  have X0 : Stand p l e ({ frames := 2, cells := 1, slots := 2, locals := 35 } : Room) s m #[(.ref a), (.ref b), (.int (0 : Int32)), (.int (2 : Int32)), .null] below meth c s₁ [] 0 0 := Stand.of_body Bd
  have e0 : s₁.heap = h0 := by rw [← hh, Bd.state]; rfl
  have N0 := Fr.nil n0
  have Z0 : n0 ≤ h0.size := O0.1 ▸ O0.2.1
  have pre0 : ∀ zt, Steps p.tables e below (s₁.setTop (mkF m 0 #[.val (.ref a), .val (.ref b), .val (.int (0 : Int32)), .val (.int (2 : Int32)), .val .null, .unset] [])) zt → Steps p.tables e below (s₁.setTop (entryFrame m #[(.ref a), (.ref b), (.int (0 : Int32)), (.int (2 : Int32)), .null] 6)) zt := fun zt zk => castTop (ef_5_RRIIn m a b (0 : Int32) (2 : Int32)) zk
  obtain ⟨T1, X1, e1, st1⟩ := initO X0 hx hZ hown (hw _ (List.mem_of_getElem? (i := 81) rfl)) (hw _ (List.mem_of_getElem? (i := 24) rfl)) (hw _ (List.mem_of_getElem? (i := 25) rfl)) e0 (g := (mkF m 1 #[.val (.ref a), .val (.ref b), .val (.int (0 : Int32)), .val (.int (2 : Int32)), .val .null, .unset] [(.ref a)])) rfl (by rw [hml]; rfl) rfl (hb hby d5_1) (by decide) (W := 0) (by show 2 * 0 + _ ≤ _; exact Nat.le_of_eq rfl) (by decide)
  obtain ⟨T2, X2, e2, st2⟩ := getS2 X1 hx hZ hown (host := "") (Or.inl (hw _ (List.mem_of_getElem? (i := 82) rfl))) Via.refl e1 (G0.ext O0.2) (g := (mkF m 27 #[.val (.ref a), .val (.ref b), .val (.int (0 : Int32)), .val (.int (2 : Int32)), .val .null, .unset] [])) rfl (hb hby d5_27)
  obtain ⟨_, _, ⟨T3, L3, k3, n3⟩, -, X3, ⟨Lc3, hQ3, l3, y3, z3⟩, st3⟩ := Jvm.LawKit.callS X2 hx (y := (⟨"java/lang/StringUTF16", "compress", "([CII)[B"⟩ : MethodName)) hown (mvT hZ (hw _ (List.mem_of_getElem? (i := 83) rfl))) (mvT hZ (hw _ (List.mem_of_getElem? (i := 84) rfl))) (mvT hZ (hw _ (List.mem_of_getElem? (i := 85) rfl))) (mvT hZ (hw _ (List.mem_of_getElem? (i := 86) rfl))) (by decide) (backOf (W := 0) (cpr l Z a0 hw [] b ka c0 c1 h0 n0 (Nat.le_trans Z0 (Keep.refl h0 [a]).1) P3 hq0 hq1) hZ (hw _ (List.mem_of_getElem? (i := 86) rfl)) (hw _ (List.mem_of_getElem? (i := 85) rfl)) (by decide) (by decide)) (g := (mkF m 36 #[.val (.ref a), .val (.ref b), .val (.int (0 : Int32)), .val (.int (2 : Int32)), .val .null, .unset] [(.int (2 : Int32)), (.int (0 : Int32)), (.ref b)])) rfl (by rw [hml]; rfl) (argsL := [(.ref b), (.int (0 : Int32)), (.int (2 : Int32))]) (rest := []) (lenOf pd_1 rfl) rfl (by show 2 * 0 + _ ≤ _; exact Nat.le_of_eq rfl) (hb hby d5_36) (fun _ _ => ⟨rfl, e2, (by decide : 0 + 1 ≤ _), (by decide : 0 + 2 ≤ _)⟩)
  dsimp only [Pt.U, Pt.locs, Pt.cells, Pt.slots] at X3 l3 y3 z3 st3 hQ3
  subst l3 y3 z3
  obtain ⟨r_3, rfl, Nq3, kh3, fz_r_3, Po3_0⟩ := hQ3
  have N3 := Fr.app N0 Nq3
  have sz_r_3 : h0.size ≤ r_3 := Nat.le_trans (Keep.refl h0 [a]).1 fz_r_3
  have g_r_3 : n0 ≤ r_3 := Nat.le_trans Z0 sz_r_3
  have O3 := O0.keep kh3 all0
  have K3 : Keep h0 T3.heap [a] := (Keep.refl h0 [a]).trans kh3 all0
  obtain ⟨_, _, ⟨T4, L4, k4, n4⟩, -, X4, ⟨Lc4, hQ4, l4, y4, z4⟩, st4⟩ := Jvm.LawKit.callS X3 hx (y := (⟨"java/lang/StringUTF16", "coderFromArrayLen", "([BI)B"⟩ : MethodName)) hown (mvT hZ (hw _ (List.mem_of_getElem? (i := 90) rfl))) (mvT hZ (hw _ (List.mem_of_getElem? (i := 91) rfl))) (mvT hZ (hw _ (List.mem_of_getElem? (i := 85) rfl))) (mvT hZ (hw _ (List.mem_of_getElem? (i := 92) rfl))) (by decide) (backOf (W := 1) (cfl l Z a0 hw [] r_3 T3.heap n0 (Nat.le_trans Z0 K3.1) Po3_0) hZ (hw _ (List.mem_of_getElem? (i := 92) rfl)) (hw _ (List.mem_of_getElem? (i := 85) rfl)) (by decide) (by decide)) (g := (mkF m 45 #[.val (.ref a), .val (.ref b), .val (.int (0 : Int32)), .val (.int (2 : Int32)), .val .null, .val (.ref r_3)] [(.int (2 : Int32)), (.ref r_3), (.ref a)])) rfl (by rw [hml]; rfl) (argsL := [(.ref r_3), (.int (2 : Int32))]) (rest := [(.ref a)]) (lenOf pd_2 rfl) rfl (by show 2 * 0 + _ ≤ _; exact Nat.le_of_eq rfl) (hb hby d5_45) (fun _ _ => ⟨rfl, rfl, (by decide : 1 + 0 ≤ _), (by decide : 2 + 0 ≤ _)⟩)
  dsimp only [Pt.U, Pt.locs, Pt.cells, Pt.slots] at X4 l4 y4 z4 st4 hQ4
  subst l4 y4 z4
  obtain ⟨rfl, Nq4, kh4⟩ := hQ4
  have N4 := Fr.app N3 Nq4
  obtain ⟨T5, h5, X5, e5, W5, st5⟩ := putFN X4 hx hZ hown (hw _ (List.mem_of_getElem? (i := 93) rfl)) Via.refl kh4 (P2.keep kh3 nin0) (P0.keep kh3) (Or.inr ⟨(hw _ (List.mem_of_getElem? (i := 12) rfl)), rfl, hnm⟩) (hw _ (List.mem_of_getElem? (i := 9) rfl)) (ty := .byte) (v' := (.int ((0 : Int32).toInt8.toInt32))) (by decide) rfl (fits_nar_byte _) (g := (mkF m 48 #[.val (.ref a), .val (.ref b), .val (.int (0 : Int32)), .val (.int (2 : Int32)), .val .null, .val (.ref r_3)] [(.int (0 : Int32)), (.ref a)])) rfl rfl (hb hby d5_48)
  have Fw5 := (P2.keep kh3 nin0).same W5
  have O5 := O3.wr W5 g_a
  have K5 : Keep h0 h5 [a] := K3.wr W5 (Or.inl (List.mem_of_getElem? (i := 0) rfl))
  have N5 := Fr.snoc X5 N4 g_a
  have c7 : Fld Z h5 a "java/lang/String" "value" "[B" .null := ((P1.keep kh3 nin0).other W5 (Or.inr (slot_ne (Or.inr (hw _ (List.mem_of_getElem? (i := 11) rfl))) (Or.inr (hw _ (List.mem_of_getElem? (i := 12) rfl))) (by decide) (t := (.array .byte)) (t' := .byte) (by decide) (by decide))))
  obtain ⟨T6, h6, X6, e6, W6, st6⟩ := putF X5 hx hZ hown (host := "") (Or.inl (hw _ (List.mem_of_getElem? (i := 94) rfl))) Via.refl e5 c7 ((P0.keep kh3).wr W5) (Or.inr ⟨(hw _ (List.mem_of_getElem? (i := 11) rfl)), rfl, hnm⟩) (hw _ (List.mem_of_getElem? (i := 9) rfl)) (ty := (.array .byte)) (by decide) rfl rfl (g := (mkF m 54 #[.val (.ref a), .val (.ref b), .val (.int (0 : Int32)), .val (.int (2 : Int32)), .val .null, .val (.ref r_3)] [(.ref r_3), (.ref a)])) rfl rfl (hb hby d5_54)
  have Fw6 := c7.same W6
  have O6 := O5.wr W6 g_a
  have K6 : Keep h0 h6 [a] := K5.wr W6 (Or.inl (List.mem_of_getElem? (i := 0) rfl))
  have N6 := Fr.snoc X6 N5 g_a
  obtain ⟨fs, hr, hrun, hended, hW, hsame⟩ := X6.leave (v := none) (fun _ => rfl)
  refine ⟨_, _, pre0 _ ?_, hrun, hended, _, _, rfl, ?_, ⟨_, rfl⟩, hW, hsame.mono (by decide) (by decide)⟩
  · show Steps p.tables e below (s₁.setTop (mkF m 0 #[.val (.ref a), .val (.ref b), .val (.int (0 : Int32)), .val (.int (2 : Int32)), .val .null, .unset] [])) _
    refine XS.aloadN X0.here hx rfl (hb hby d5_0) rfl rfl ?_
    show Steps p.tables e below (s₁.setTop (mkF m 1 #[.val (.ref a), .val (.ref b), .val (.int (0 : Int32)), .val (.int (2 : Int32)), .val .null, .unset] [(.ref a)])) _
    refine st1 _ ?_
    show Steps p.tables e below (T1.setTop (mkF m 4 #[.val (.ref a), .val (.ref b), .val (.int (0 : Int32)), .val (.int (2 : Int32)), .val .null, .unset] [])) _
    refine XS.iloadN X1.here hx rfl (hb hby d5_4) rfl ?_
    show Steps p.tables e below (T1.setTop (mkF m 5 #[.val (.ref a), .val (.ref b), .val (.int (0 : Int32)), .val (.int (2 : Int32)), .val .null, .unset] [(.int (2 : Int32))])) _
    refine XS.ifYes X1.here hx rfl (pc0 := 5) (pc' := 27) rfl (hb hby d5_5) rfl ((if0 _ _).trans (feq (by decide : ¬ ((2 : Int32) = (0 : Int32)))).2) (by decide) (by decide) ?_
    show Steps p.tables e below (T1.setTop (mkF m 27 #[.val (.ref a), .val (.ref b), .val (.int (0 : Int32)), .val (.int (2 : Int32)), .val .null, .unset] [])) _
    refine st2 _ ?_
    show Steps p.tables e below (T2.setTop (mkF m 30 #[.val (.ref a), .val (.ref b), .val (.int (0 : Int32)), .val (.int (2 : Int32)), .val .null, .unset] [(.int cs)])) _
    refine XS.ifNo X2.here hx rfl (hb hby d5_30) rfl ((if0 _ _).trans (feq (hcs : ¬ (cs = (0 : Int32)))).1) ?_
    show Steps p.tables e below (T2.setTop (mkF m 33 #[.val (.ref a), .val (.ref b), .val (.int (0 : Int32)), .val (.int (2 : Int32)), .val .null, .unset] [])) _
    refine XS.aloadN X2.here hx rfl (hb hby d5_33) rfl rfl ?_
    show Steps p.tables e below (T2.setTop (mkF m 34 #[.val (.ref a), .val (.ref b), .val (.int (0 : Int32)), .val (.int (2 : Int32)), .val .null, .unset] [(.ref b)])) _
    refine XS.iloadN X2.here hx rfl (hb hby d5_34) rfl ?_
    show Steps p.tables e below (T2.setTop (mkF m 35 #[.val (.ref a), .val (.ref b), .val (.int (0 : Int32)), .val (.int (2 : Int32)), .val .null, .unset] [(.int (0 : Int32)), (.ref b)])) _
    refine XS.iloadN X2.here hx rfl (hb hby d5_35) rfl ?_
    show Steps p.tables e below (T2.setTop (mkF m 36 #[.val (.ref a), .val (.ref b), .val (.int (0 : Int32)), .val (.int (2 : Int32)), .val .null, .unset] [(.int (2 : Int32)), (.int (0 : Int32)), (.ref b)])) _
    refine st3 _ ?_
    show Steps p.tables e below (T3.setTop (mkF m 39 #[.val (.ref a), .val (.ref b), .val (.int (0 : Int32)), .val (.int (2 : Int32)), .val .null, .unset] [(.ref r_3)])) _
    refine XS.astore X3.here hx rfl (hb hby d5_39) rfl rfl (l' := #[.val (.ref a), .val (.ref b), .val (.int (0 : Int32)), .val (.int (2 : Int32)), .val .null, .val (.ref r_3)]) rfl ?_
    show Steps p.tables e below (T3.setTop (mkF m 41 #[.val (.ref a), .val (.ref b), .val (.int (0 : Int32)), .val (.int (2 : Int32)), .val .null, .val (.ref r_3)] [])) _
    refine XS.aloadN X3.here hx rfl (hb hby d5_41) rfl rfl ?_
    show Steps p.tables e below (T3.setTop (mkF m 42 #[.val (.ref a), .val (.ref b), .val (.int (0 : Int32)), .val (.int (2 : Int32)), .val .null, .val (.ref r_3)] [(.ref a)])) _
    refine XS.aload X3.here hx rfl (hb hby d5_42) rfl rfl ?_
    show Steps p.tables e below (T3.setTop (mkF m 44 #[.val (.ref a), .val (.ref b), .val (.int (0 : Int32)), .val (.int (2 : Int32)), .val .null, .val (.ref r_3)] [(.ref r_3), (.ref a)])) _
    refine XS.iloadN X3.here hx rfl (hb hby d5_44) rfl ?_
    show Steps p.tables e below (T3.setTop (mkF m 45 #[.val (.ref a), .val (.ref b), .val (.int (0 : Int32)), .val (.int (2 : Int32)), .val .null, .val (.ref r_3)] [(.int (2 : Int32)), (.ref r_3), (.ref a)])) _
    refine st4 _ ?_
    show Steps p.tables e below (T4.setTop (mkF m 48 #[.val (.ref a), .val (.ref b), .val (.int (0 : Int32)), .val (.int (2 : Int32)), .val .null, .val (.ref r_3)] [(.int (0 : Int32)), (.ref a)])) _
    refine st5 _ ?_
    show Steps p.tables e below (T5.setTop (mkF m 51 #[.val (.ref a), .val (.ref b), .val (.int (0 : Int32)), .val (.int (2 : Int32)), .val .null, .val (.ref r_3)] [])) _
    refine XS.aloadN X5.here hx rfl (hb hby d5_51) rfl rfl ?_
    show Steps p.tables e below (T5.setTop (mkF m 52 #[.val (.ref a), .val (.ref b), .val (.int (0 : Int32)), .val (.int (2 : Int32)), .val .null, .val (.ref r_3)] [(.ref a)])) _
    refine XS.aload X5.here hx rfl (hb hby d5_52) rfl rfl ?_
    show Steps p.tables e below (T5.setTop (mkF m 54 #[.val (.ref a), .val (.ref b), .val (.int (0 : Int32)), .val (.int (2 : Int32)), .val .null, .val (.ref r_3)] [(.ref r_3), (.ref a)])) _
    refine st6 _ ?_
    show Steps p.tables e below (T6.setTop (mkF m 57 #[.val (.ref a), .val (.ref b), .val (.int (0 : Int32)), .val (.int (2 : Int32)), .val .null, .val (.ref r_3)] [])) _
    exact X6.returnOut hx Bd.returns (hb hby d5_57) hr
  · show Q_sn2 Z a b ka c0 c1 cs h0 n0 _ T6.heap _
    rw [e6]
    exact ⟨rfl, N6, K6, (((P0.keep kh3).wr W5).wr W6)⟩
def Q_si2 (Z : State) (a : Addr) (b : Addr) (ka : ClassId) (c0 : Int32) (c1 : Int32) (cs : Int32) (h0 : Heap) (n0 : Nat) (v : Option Value) (h : Heap) (L : List Loc) : Prop := v = none ∧ Fr n0 L ∧ Keep h0 h [a] ∧ Exa Z h a "java/lang/String"
theorem d7_0 : decode jdk_42_method_3_code 0 = .ok (.aload_n 0, 1) := by decide +kernel
theorem d7_1 : decode jdk_42_method_3_code 1 = .ok (.aload_n 1, 1) := by decide +kernel
theorem d7_2 : decode jdk_42_method_3_code 2 = .ok (.iconst 0, 1) := by decide +kernel
theorem d7_3 : decode jdk_42_method_3_code 3 = .ok (.aload_n 1, 1) := by decide +kernel
theorem d7_4 : decode jdk_42_method_3_code 4 = .ok (.arraylength, 1) := by decide +kernel
theorem d7_5 : decode jdk_42_method_3_code 5 = .ok (.aconst_null, 1) := by decide +kernel
theorem d7_6 : decode jdk_42_method_3_code 6 = .ok (.invokespecial 27, 3) := by decide +kernel
theorem pd_3 : parseMethodDescriptor "([CIILjava/lang/Void;)V" = some ⟨[(.array .char), .int, .int, (.object "java/lang/Void")], none⟩ := by decide +kernel
theorem d7_9 : decode jdk_42_method_3_code 9 = .ok (.return_, 1) := by decide +kernel
theorem ef_7_RR (m : MethodId) (x0 : Addr) (x1 : Addr) : entryFrame m #[(.ref x0), (.ref x1)] 2 = mkF m 0 #[.val (.ref x0), .val (.ref x1)] [] := by first | (simp [entryFrame, mkF, argsToLocals, Value.category]; done) | rfl
set_option maxRecDepth 65536 in
set_option maxHeartbeats 40000000 in
theorem si2 (l : Launch) (Z : State) (a0 : Array Value) (hw : ∀ d ∈ tables_1, d.before a0 Z = true) (ws : List Jvm.Cond) (a : Addr) (b : Addr) (ka : ClassId) (c0 : Int32) (c1 : Int32) (cs : Int32) (h0 : Heap) (n0 : Nat) (O0 : Old Z n0 h0) (G0 : Sta Z Z.heap "java/lang/String" "COMPACT_STRINGS" "Z" (.int cs)) (P0 : Exa Z h0 a "java/lang/String") (P1 : Fld Z h0 a "java/lang/String" "value" "[B" .null) (P2 : Fld Z h0 a "java/lang/String" "coder" "B" (.int (0 : Int32))) (P3 : Arv Z h0 b ka .char (2 : Int32) [(.int c0), (.int c1)] (.int (0 : Int32))) (g_a : n0 ≤ a) (hcs : ¬ (cs = (0 : Int32))) (hq0 : ¬ ((255 : Int32) < c0)) (hq1 : ¬ ((255 : Int32) < c1)) :
    MetFree l (⟨"java/lang/String", "<init>", "([C)V"⟩ : MethodName) (head1 (Jvm.Cond.code (⟨"java/lang/String", "<init>", "([C)V"⟩ : MethodName) jdk_42_method_3_code 2 none :: ws) ({ frames := 3, cells := 1, slots := 2, locals := 52 } : Room)) (fun zA zU => zA = #[(.ref a), (.ref b)] ∧ Z.Warmed39 zU.vm ∧ zU.heap = h0) (fun _ _ _ _ _ => True) (fun _ zU zo zU' => ∃ zv zL, zo = .returned zv ∧ Q_si2 Z a b ka c0 c1 cs h0 n0 zv zU'.heap zL ∧ FrameEnd zU zo zU' zL ({ frames := 3, cells := 1, slots := 2, locals := 52 } : Room).cells ({ frames := 3, cells := 1, slots := 2, locals := 52 } : Room).slots) := by
  refine MetFree.of_bodySF (plainFor_of_name pn_6) hisR ?_
  intro p e s m args below meth c s₁ Bd hml0 hP hK
  obtain ⟨rfl, hZ, hh⟩ := hP
  have hx := Bd.exec
  have hby := Bd.bytes
  have hml : c.maxLocals = 2 := hml0
  have hown : s.vm.findClass "java/lang/String" = some m.cls := findClass_of_methodNamed Bd.named
  have hnm := (name_of_methodNamed Bd.named Bd.method).1
  have X0 : Stand p l e ({ frames := 3, cells := 1, slots := 2, locals := 52 } : Room) s m #[(.ref a), (.ref b)] below meth c s₁ [] 0 0 := Stand.of_body Bd
  have e0 : s₁.heap = h0 := by rw [← hh, Bd.state]; rfl
  have N0 := Fr.nil n0
  have Z0 : n0 ≤ h0.size := O0.1 ▸ O0.2.1
  have pre0 : ∀ zt, Steps p.tables e below (s₁.setTop (mkF m 0 #[.val (.ref a), .val (.ref b)] [])) zt → Steps p.tables e below (s₁.setTop (entryFrame m #[(.ref a), (.ref b)] 2)) zt := fun zt zk => castTop (ef_7_RR m a b) zk
  obtain ⟨cl1, Ar1, -, Sz1, Ng1, -⟩ := (id P3)
  obtain ⟨_, _, ⟨T2, L2, k2, n2⟩, -, X2, ⟨Lc2, hQ2, l2, y2, z2⟩, st2⟩ := X0.specialBack hx (y := (⟨"java/lang/String", "<init>", "([CIILjava/lang/Void;)V"⟩ : MethodName)) rfl hown (mvT hZ (hw _ (List.mem_of_getElem? (i := 77) rfl))) (mvT hZ (hw _ (List.mem_of_getElem? (i := 78) rfl))) (mvT hZ (hw _ (List.mem_of_getElem? (i := 80) rfl))) (by decide) (backOf (W := 0) (sn2 l Z a0 hw [] a b ka c0 c1 cs h0 n0 O0 G0 P0 P1 P2 P3 g_a hcs hq0 hq1) hZ (hw _ (List.mem_of_getElem? (i := 80) rfl)) (hw _ (List.mem_of_getElem? (i := 8) rfl)) (by decide) (by decide)) (g := (mkF m 6 #[.val (.ref a), .val (.ref b)] [.null, (.int (2 : Int32)), (.int (0 : Int32)), (.ref b), (.ref a)])) rfl (by rw [hml]; rfl) (Steps.refl _) (a := a) (argsL := [(.ref b), (.int (0 : Int32)), (.int (2 : Int32)), .null]) (rest := []) (lenOf pd_3 rfl) rfl (by show 2 * 0 + _ ≤ _; exact Nat.le_of_eq rfl) (hb hby d7_6) (fun _ _ => ⟨rfl, e0, (by decide : 0 + 1 ≤ _), (by decide : 0 + 2 ≤ _)⟩)
  dsimp only [Pt.U, Pt.locs, Pt.cells, Pt.slots] at X2 l2 y2 z2 st2 hQ2
  subst l2 y2 z2
  obtain ⟨rfl, Nq2, kh2, Po2_0⟩ := hQ2
  have N2 := Fr.app N0 Nq2
  have O2 := O0.keep kh2 (allS g_a all0)
  have K2 : Keep h0 T2.heap [a] := (Keep.refl h0 [a]).trans kh2 (allS (Or.inl (List.mem_of_getElem? (i := 0) rfl)) all0)
  obtain ⟨fs, hr, hrun, hended, hW, hsame⟩ := X2.leave (v := none) (fun _ => rfl)
  refine ⟨_, _, pre0 _ ?_, hrun, hended, _, _, rfl, ?_, ⟨_, rfl⟩, hW, hsame.mono (by decide) (by decide)⟩
  · show Steps p.tables e below (s₁.setTop (mkF m 0 #[.val (.ref a), .val (.ref b)] [])) _
    refine XS.aloadN X0.here hx rfl (hb hby d7_0) rfl rfl ?_
    show Steps p.tables e below (s₁.setTop (mkF m 1 #[.val (.ref a), .val (.ref b)] [(.ref a)])) _
    refine XS.aloadN X0.here hx rfl (hb hby d7_1) rfl rfl ?_
    show Steps p.tables e below (s₁.setTop (mkF m 2 #[.val (.ref a), .val (.ref b)] [(.ref b), (.ref a)])) _
    refine XS.iconst X0.here hx rfl (hb hby d7_2) ?_
    show Steps p.tables e below (s₁.setTop (mkF m 3 #[.val (.ref a), .val (.ref b)] [(.int (0 : Int32)), (.ref b), (.ref a)])) _
    refine XS.aloadN X0.here hx rfl (hb hby d7_3) rfl rfl ?_
    show Steps p.tables e below (s₁.setTop (mkF m 4 #[.val (.ref a), .val (.ref b)] [(.ref b), (.int (0 : Int32)), (.ref b), (.ref a)])) _
    refine X0.arraylength hx (Ar1.at_ e0) (State.isArrayOf_alike hZ.alike Ar1.2.1) (g := (mkF m 4 #[.val (.ref a), .val (.ref b)] [(.ref b), (.int (0 : Int32)), (.ref b), (.ref a)])) rfl rfl (hb hby d7_4) _ ?_
    rw [len_of Sz1 Ng1]
    show Steps p.tables e below (s₁.setTop (mkF m 5 #[.val (.ref a), .val (.ref b)] [(.int (2 : Int32)), (.int (0 : Int32)), (.ref b), (.ref a)])) _
    refine XS.aconstNull X0.here hx rfl (hb hby d7_5) ?_
    show Steps p.tables e below (s₁.setTop (mkF m 6 #[.val (.ref a), .val (.ref b)] [.null, (.int (2 : Int32)), (.int (0 : Int32)), (.ref b), (.ref a)])) _
    refine st2.trans ?_
    show Steps p.tables e below (T2.setTop (mkF m 9 #[.val (.ref a), .val (.ref b)] [])) _
    exact X2.returnOut hx Bd.returns (hb hby d7_9) hr
  · show Q_si2 Z a b ka c0 c1 cs h0 n0 _ T2.heap _
    exact ⟨rfl, N2, K2, Po2_0⟩
def Q_sn0 (Z : State) (a : Addr) (b : Addr) (h0 : Heap) (n0 : Nat) (v : Option Value) (h : Heap) (L : List Loc) : Prop := v = none ∧ Fr n0 L ∧ Keep h0 h [a] ∧ Exa Z h a "java/lang/String"
theorem d5_8 : decode jdk_42_method_149_code 8 = .ok (.aload_n 0, 1) := by decide +kernel
theorem d5_9 : decode jdk_42_method_149_code 9 = .ok (.ldc 7, 2) := by decide +kernel
theorem d5_11 : decode jdk_42_method_149_code 11 = .ok (.getfield 9, 3) := by decide +kernel
theorem d5_14 : decode jdk_42_method_149_code 14 = .ok (.putfield 9, 3) := by decide +kernel
theorem d5_17 : decode jdk_42_method_149_code 17 = .ok (.aload_n 0, 1) := by decide +kernel
theorem d5_18 : decode jdk_42_method_149_code 18 = .ok (.ldc 7, 2) := by decide +kernel
theorem d5_20 : decode jdk_42_method_149_code 20 = .ok (.getfield 15, 3) := by decide +kernel
theorem d5_23 : decode jdk_42_method_149_code 23 = .ok (.putfield 15, 3) := by decide +kernel
theorem d5_26 : decode jdk_42_method_149_code 26 = .ok (.return_, 1) := by decide +kernel
set_option maxRecDepth 65536 in
set_option maxHeartbeats 40000000 in
theorem sn0 (l : Launch) (Z : State) (a0 : Array Value) (hw : ∀ d ∈ tables_1, d.before a0 Z = true) (ws : List Jvm.Cond) (a : Addr) (b : Addr) (h0 : Heap) (n0 : Nat) (O0 : Old Z n0 h0) (P0 : Exa Z h0 a "java/lang/String") (P1 : Fld Z h0 a "java/lang/String" "value" "[B" .null) (P2 : Fld Z h0 a "java/lang/String" "coder" "B" (.int (0 : Int32))) (g_a : n0 ≤ a) :
    MetFree l (⟨"java/lang/String", "<init>", "([CIILjava/lang/Void;)V"⟩ : MethodName) (head1 (Jvm.Cond.code (⟨"java/lang/String", "<init>", "([CIILjava/lang/Void;)V"⟩ : MethodName) jdk_42_method_149_code 6 none :: ws) ({ frames := 1, cells := 4, slots := 8, locals := 12 } : Room)) (fun zA zU => zA = #[(.ref a), (.ref b), (.int (0 : Int32)), (.int (0 : Int32)), .null] ∧ Z.Warmed39 zU.vm ∧ zU.heap = h0 ∧ CHv Z own_EL zU.vm h0 ∧ ∀ x ∈ ([a] : List Addr), Safe Z own_EL zU.vm h0 x) (fun _ _ _ _ _ => True) (fun _ zU zo zU' => ∃ zv zL, zo = .returned zv ∧ Q_sn0 Z a b h0 n0 zv zU'.heap zL ∧ CHr Z own_EL zU.vm zU.heap zU'.vm zU'.heap ∧ ReturnedEndW zU zo zU' zL ({ frames := 1, cells := 4, slots := 8, locals := 12 } : Room).cells ({ frames := 1, cells := 4, slots := 8, locals := 12 } : Room).slots) := by
  refine MetFree.of_bodySF (plainFor_of_name pn_6) hisR ?_
  intro p e s m args below meth c s₁ Bd hml0 hP hK
  obtain ⟨rfl, hZ, hh, HC, HS⟩ := hP
  have hx := Bd.exec
  have hby := Bd.bytes
  have hml : c.maxLocals = 6 := hml0
  have hown : s.vm.findClass "java/lang/String" = some m.cls := findClass_of_methodNamed Bd.named
  have hnm := (name_of_methodNamed Bd.named Bd.method).1
  have X0 : Stand p l e ({ frames := 1, cells := 4, slots := 8, locals := 12 } : Room) (s.setVm s.vm) m #[(.ref a), (.ref b), (.int (0 : Int32)), (.int (0 : Int32)), .null] below meth c s₁ [] 0 0 := Stand.of_body Bd
  have e0 : s₁.heap = h0 := by rw [← hh, Bd.state]; rfl
  have N0 := Fr.nil n0
  have Z0 : n0 ≤ h0.size := O0.1 ▸ O0.2.1
  have pre0 : ∀ zt, Steps p.tables e below (s₁.setTop (mkF m 0 #[.val (.ref a), .val (.ref b), .val (.int (0 : Int32)), .val (.int (0 : Int32)), .val .null, .unset] [])) zt → Steps p.tables e below (s₁.setTop (entryFrame m #[(.ref a), (.ref b), (.int (0 : Int32)), (.int (0 : Int32)), .null] 6)) zt := fun zt zk => castTop (ef_5_RRIIn m a b (0 : Int32) (0 : Int32)) zk
  have hEL := own_EW hw
  have wS := own_wS hw
  have hS0 : s.Since s.vm 0 := (State.WarmedH.refl s).since 0
  have CR0 : CHr Z own_EL s.vm h0 s.vm h0 := CHr.refl HC
  have hZ0 := hZ
  have hown0 := hown
  obtain ⟨T1, X1, e1, st1⟩ := initO X0 hx hZ hown (hw _ (List.mem_of_getElem? (i := 81) rfl)) (hw _ (List.mem_of_getElem? (i := 24) rfl)) (hw _ (List.mem_of_getElem? (i := 25) rfl)) e0 (g := (mkF m 1 #[.val (.ref a), .val (.ref b), .val (.int (0 : Int32)), .val (.int (0 : Int32)), .val .null, .unset] [(.ref a)])) rfl (by rw [hml]; rfl) rfl (hb hby d5_1) (by decide) (W := 0) (by show 2 * 0 + _ ≤ _; exact Nat.le_of_eq rfl) (by decide)
  obtain ⟨a2, T2, h2, k2, bb2, kb2, X2, e2, E2, hS2, hk2, hZ, hown, Ea2, Fc2, Fv2, Vb2, la2, lb2, CL2, Lt2, Ns2, st2⟩ := ldcCH (s := s) (vm0 := s.vm) X1 hx hZ hown (hw _ (List.mem_of_getElem? (i := 115) rfl)) wS e1 hS0 (Nat.zero_le _) hEL (List.mem_of_getElem? (i := 0) rfl) CR0.1 (vs := []) (z := (0 : Int32)) ⟨by decide, by decide⟩ (by decide) (by decide) (g := (mkF m 9 #[.val (.ref a), .val (.ref b), .val (.int (0 : Int32)), .val (.int (0 : Int32)), .val .null, .unset] [(.ref a)])) rfl (hb hby d5_9) (n := 0) (by decide) (by decide) (by decide) (by decide)
  have hZ2 := hZ
  have hown2 := hown
  have O2 := O0.ext E2
  have K2 : Keep h0 h2 [a] := (Keep.refl h0 [a]).ext E2
  have CR2 := CR0.trans CL2
  have Sy2_a := CL2.safe (P0).lt (HS _ (List.mem_of_getElem? (i := 0) rfl))
  obtain ⟨T3, X3, e3, st3⟩ := getF X2 hx hZ hown (host := "") (Or.inl (hw _ (List.mem_of_getElem? (i := 94) rfl))) Via.refl e2 Fv2 (g := (mkF m 11 #[.val (.ref a), .val (.ref b), .val (.int (0 : Int32)), .val (.int (0 : Int32)), .val .null, .unset] [(.ref a2), (.ref a)])) rfl rfl (hb hby d5_11)
  obtain ⟨T4, h4, X4, e4, W4, st4⟩ := putF X3 hx hZ hown (host := "") (Or.inl (hw _ (List.mem_of_getElem? (i := 94) rfl))) Via.refl e3 (P1.ext E2) (P0.ext E2) (Or.inr ⟨(hw _ (List.mem_of_getElem? (i := 11) rfl)), rfl, hnm⟩) (hw _ (List.mem_of_getElem? (i := 9) rfl)) (ty := (.array .byte)) (by decide) rfl rfl (g := (mkF m 14 #[.val (.ref a), .val (.ref b), .val (.int (0 : Int32)), .val (.int (0 : Int32)), .val .null, .unset] [(.ref bb2), (.ref a)])) rfl rfl (hb hby d5_14)
  have Fw4 := (P1.ext E2).same W4
  have Sw4 : Safe Z own_EL T2.vm h2 a := Sy2_a
  have O4 := O2.wr W4 g_a
  have K4 : Keep h0 h4 [a] := K2.wr W4 (Or.inl (List.mem_of_getElem? (i := 0) rfl))
  have N4 := Fr.snoc X4 N0 g_a
  have CR4 := CR2.trans (CHr.wr W4 Sw4 CR2.1)
  have Sy4_a := Safe.wr W4 Sw4 CR2.1 Sy2_a
  obtain ⟨a5, T5, h5, k5, bb5, kb5, X5, e5, E5, hS5, hk5, hZ, hown, Ea5, Fc5, Fv5, Vb5, la5, lb5, CL5, Lt5, Ns5, st5⟩ := ldcCH (s := s) (vm0 := T2.vm) X4 hx hZ hown (hw _ (List.mem_of_getElem? (i := 115) rfl)) wS e4 hS2 (Nat.le_trans hk2 (Keep.of_wr W4).1) hEL (List.mem_of_getElem? (i := 0) rfl) CR4.1 (vs := []) (z := (0 : Int32)) ⟨by decide, by decide⟩ (by decide) (by decide) (g := (mkF m 18 #[.val (.ref a), .val (.ref b), .val (.int (0 : Int32)), .val (.int (0 : Int32)), .val .null, .unset] [(.ref a)])) rfl (hb hby d5_18) (n := 0) (by decide) (by decide) (by decide) (by decide)
  have hZ5 := hZ
  have hown5 := hown
  have O5 := O4.ext E5
  have K5 : Keep h0 h5 [a] := K4.ext E5
  have CR5 := CR4.trans CL5
  have Sy5_a := CL5.safe (((P0.ext E2).wr W4)).lt Sy4_a
  obtain ⟨T6, X6, e6, st6⟩ := getF X5 hx hZ hown (host := "") (Or.inl (hw _ (List.mem_of_getElem? (i := 93) rfl))) Via.refl e5 Fc5 (g := (mkF m 20 #[.val (.ref a), .val (.ref b), .val (.int (0 : Int32)), .val (.int (0 : Int32)), .val .null, .unset] [(.ref a5), (.ref a)])) rfl rfl (hb hby d5_20)
  have c8 : Fld Z h5 a "java/lang/String" "coder" "B" (.int (0 : Int32)) := (((P2.ext E2).other W4 (Or.inr (slot_ne (Or.inr (hw _ (List.mem_of_getElem? (i := 12) rfl))) (Or.inr (hw _ (List.mem_of_getElem? (i := 11) rfl))) (by decide) (t := .byte) (t' := (.array .byte)) (by decide) (by decide)))).ext E5)
  obtain ⟨T7, h7, X7, e7, W7, st7⟩ := putFN X6 hx hZ hown (hw _ (List.mem_of_getElem? (i := 93) rfl)) Via.refl e6 c8 (((P0.ext E2).wr W4).ext E5) (Or.inr ⟨(hw _ (List.mem_of_getElem? (i := 12) rfl)), rfl, hnm⟩) (hw _ (List.mem_of_getElem? (i := 9) rfl)) (ty := .byte) (v' := (.int ((0 : Int32).toInt8.toInt32))) (by decide) rfl (fits_nar_byte _) (g := (mkF m 23 #[.val (.ref a), .val (.ref b), .val (.int (0 : Int32)), .val (.int (0 : Int32)), .val .null, .unset] [(.int (0 : Int32)), (.ref a)])) rfl rfl (hb hby d5_23)
  have Fw7 := c8.same W7
  have Sw7 : Safe Z own_EL T5.vm h5 a := Sy5_a
  have O7 := O5.wr W7 g_a
  have K7 : Keep h0 h7 [a] := K5.wr W7 (Or.inl (List.mem_of_getElem? (i := 0) rfl))
  have N7 := Fr.snoc X7 N4 g_a
  have CR7 := CR5.trans (CHr.wr W7 Sw7 CR5.1)
  have Sy7_a := Safe.wr W7 Sw7 CR5.1 Sy5_a
  obtain ⟨fs, hr, hrun, hended, hRW⟩ := X7.leaveW (s := s) hS5 (own_hk e7 (Nat.le_trans hk5 (Keep.of_wr W7).1)) (v := none) (fun _ => rfl)
  have CE := CR7.trans (CHv.at (s := s) (vm0 := T5.vm) X7 hZ hEL CR7.1)
  refine ⟨_, _, pre0 _ ?_, hrun, hended, _, _, rfl, ?_, ?_, own_rw_mono hRW (by decide) (by decide)⟩
  · show Steps p.tables e below (s₁.setTop (mkF m 0 #[.val (.ref a), .val (.ref b), .val (.int (0 : Int32)), .val (.int (0 : Int32)), .val .null, .unset] [])) _
    refine XS.aloadN X0.here hx rfl (hb hby d5_0) rfl rfl ?_
    show Steps p.tables e below (s₁.setTop (mkF m 1 #[.val (.ref a), .val (.ref b), .val (.int (0 : Int32)), .val (.int (0 : Int32)), .val .null, .unset] [(.ref a)])) _
    refine st1 _ ?_
    show Steps p.tables e below (T1.setTop (mkF m 4 #[.val (.ref a), .val (.ref b), .val (.int (0 : Int32)), .val (.int (0 : Int32)), .val .null, .unset] [])) _
    refine XS.iloadN X1.here hx rfl (hb hby d5_4) rfl ?_
    show Steps p.tables e below (T1.setTop (mkF m 5 #[.val (.ref a), .val (.ref b), .val (.int (0 : Int32)), .val (.int (0 : Int32)), .val .null, .unset] [(.int (0 : Int32))])) _
    refine XS.ifNo X1.here hx rfl (hb hby d5_5) rfl ((if0 _ _).trans (teq (by decide : (0 : Int32) = (0 : Int32))).2) ?_
    show Steps p.tables e below (T1.setTop (mkF m 8 #[.val (.ref a), .val (.ref b), .val (.int (0 : Int32)), .val (.int (0 : Int32)), .val .null, .unset] [])) _
    refine XS.aloadN X1.here hx rfl (hb hby d5_8) rfl rfl ?_
    show Steps p.tables e below (T1.setTop (mkF m 9 #[.val (.ref a), .val (.ref b), .val (.int (0 : Int32)), .val (.int (0 : Int32)), .val .null, .unset] [(.ref a)])) _
    refine st2 _ ?_
    show Steps p.tables e below (T2.setTop (mkF m 11 #[.val (.ref a), .val (.ref b), .val (.int (0 : Int32)), .val (.int (0 : Int32)), .val .null, .unset] [(.ref a2), (.ref a)])) _
    refine st3 _ ?_
    show Steps p.tables e below (T3.setTop (mkF m 14 #[.val (.ref a), .val (.ref b), .val (.int (0 : Int32)), .val (.int (0 : Int32)), .val .null, .unset] [(.ref bb2), (.ref a)])) _
    refine st4 _ ?_
    show Steps p.tables e below (T4.setTop (mkF m 17 #[.val (.ref a), .val (.ref b), .val (.int (0 : Int32)), .val (.int (0 : Int32)), .val .null, .unset] [])) _
    refine XS.aloadN X4.here hx rfl (hb hby d5_17) rfl rfl ?_
    show Steps p.tables e below (T4.setTop (mkF m 18 #[.val (.ref a), .val (.ref b), .val (.int (0 : Int32)), .val (.int (0 : Int32)), .val .null, .unset] [(.ref a)])) _
    refine st5 _ ?_
    show Steps p.tables e below (T5.setTop (mkF m 20 #[.val (.ref a), .val (.ref b), .val (.int (0 : Int32)), .val (.int (0 : Int32)), .val .null, .unset] [(.ref a5), (.ref a)])) _
    refine st6 _ ?_
    show Steps p.tables e below (T6.setTop (mkF m 23 #[.val (.ref a), .val (.ref b), .val (.int (0 : Int32)), .val (.int (0 : Int32)), .val .null, .unset] [(.int (0 : Int32)), (.ref a)])) _
    refine st7 _ ?_
    show Steps p.tables e below (T7.setTop (mkF m 26 #[.val (.ref a), .val (.ref b), .val (.int (0 : Int32)), .val (.int (0 : Int32)), .val .null, .unset] [])) _
    exact X7.returnOut hx Bd.returns (hb hby d5_26) hr
  · show Q_sn0 Z a b h0 n0 _ T7.heap _
    rw [e7]
    exact ⟨rfl, N7, K7, ((((P0.ext E2).wr W4).ext E5).wr W7)⟩
  · show CHr Z own_EL s.vm s.heap T7.vm T7.heap
    rw [hh, e7]; exact CE
def Q_si0 (Z : State) (a : Addr) (b : Addr) (kb : ClassId) (h0 : Heap) (n0 : Nat) (v : Option Value) (h : Heap) (L : List Loc) : Prop := v = none ∧ Fr n0 L ∧ Keep h0 h [a] ∧ Exa Z h a "java/lang/String"
set_option maxRecDepth 65536 in
set_option maxHeartbeats 40000000 in
theorem si0 (l : Launch) (Z : State) (a0 : Array Value) (hw : ∀ d ∈ tables_1, d.before a0 Z = true) (ws : List Jvm.Cond) (a : Addr) (b : Addr) (kb : ClassId) (h0 : Heap) (n0 : Nat) (O0 : Old Z n0 h0) (P0 : Exa Z h0 a "java/lang/String") (P1 : Fld Z h0 a "java/lang/String" "value" "[B" .null) (P2 : Fld Z h0 a "java/lang/String" "coder" "B" (.int (0 : Int32))) (P3 : Arv Z h0 b kb .char (0 : Int32) [] (.int (0 : Int32))) (g_a : n0 ≤ a) :
    MetFree l (⟨"java/lang/String", "<init>", "([C)V"⟩ : MethodName) (head1 (Jvm.Cond.code (⟨"java/lang/String", "<init>", "([C)V"⟩ : MethodName) jdk_42_method_3_code 2 none :: ws) ({ frames := 2, cells := 4, slots := 8, locals := 29 } : Room)) (fun zA zU => zA = #[(.ref a), (.ref b)] ∧ Z.Warmed39 zU.vm ∧ zU.heap = h0 ∧ CHv Z own_EL zU.vm h0 ∧ ∀ x ∈ ([a] : List Addr), Safe Z own_EL zU.vm h0 x) (fun _ _ _ _ _ => True) (fun _ zU zo zU' => ∃ zv zL, zo = .returned zv ∧ Q_si0 Z a b kb h0 n0 zv zU'.heap zL ∧ CHr Z own_EL zU.vm zU.heap zU'.vm zU'.heap ∧ ReturnedEndW zU zo zU' zL ({ frames := 2, cells := 4, slots := 8, locals := 29 } : Room).cells ({ frames := 2, cells := 4, slots := 8, locals := 29 } : Room).slots) := by
  refine MetFree.of_bodySF (plainFor_of_name pn_6) hisR ?_
  intro p e s m args below meth c s₁ Bd hml0 hP hK
  obtain ⟨rfl, hZ, hh, HC, HS⟩ := hP
  have hx := Bd.exec
  have hby := Bd.bytes
  have hml : c.maxLocals = 2 := hml0
  have hown : s.vm.findClass "java/lang/String" = some m.cls := findClass_of_methodNamed Bd.named
  have hnm := (name_of_methodNamed Bd.named Bd.method).1
  have X0 : Stand p l e ({ frames := 2, cells := 4, slots := 8, locals := 29 } : Room) (s.setVm s.vm) m #[(.ref a), (.ref b)] below meth c s₁ [] 0 0 := Stand.of_body Bd
  have e0 : s₁.heap = h0 := by rw [← hh, Bd.state]; rfl
  have N0 := Fr.nil n0
  have Z0 : n0 ≤ h0.size := O0.1 ▸ O0.2.1
  have pre0 : ∀ zt, Steps p.tables e below (s₁.setTop (mkF m 0 #[.val (.ref a), .val (.ref b)] [])) zt → Steps p.tables e below (s₁.setTop (entryFrame m #[(.ref a), (.ref b)] 2)) zt := fun zt zk => castTop (ef_7_RR m a b) zk
  have hEL := own_EW hw
  have wS := own_wS hw
  have hS0 : s.Since s.vm 0 := (State.WarmedH.refl s).since 0
  have CR0 : CHr Z own_EL s.vm h0 s.vm h0 := CHr.refl HC
  have hZ0 := hZ
  have hown0 := hown
  obtain ⟨cl1, Ar1, -, Sz1, Ng1, -⟩ := (id P3)
  obtain ⟨_, _, ⟨T2, L2, k2, n2⟩, -, Xr2, hSr2, hg2, ⟨Lc2, hQ2, l2, y2, z2, CL2⟩, st2⟩ := X0.specialBackS hx (y := (⟨"java/lang/String", "<init>", "([CIILjava/lang/Void;)V"⟩ : MethodName)) rfl hown (mvT hZ (hw _ (List.mem_of_getElem? (i := 77) rfl))) (mvT hZ (hw _ (List.mem_of_getElem? (i := 78) rfl))) (mvT hZ (hw _ (List.mem_of_getElem? (i := 80) rfl))) (by decide) (own_backSH (s := s) (vm0 := s.vm) (W := 0) (sn0 l Z a0 hw [] a b h0 n0 O0 P0 P1 P2 g_a) hZ (hw _ (List.mem_of_getElem? (i := 80) rfl)) (hw _ (List.mem_of_getElem? (i := 8) rfl)) (by decide) (by decide) hEL CR0.1 (allS ⟨(P0).lt, (HS _ (List.mem_of_getElem? (i := 0) rfl))⟩ all0)) (g := (mkF m 6 #[.val (.ref a), .val (.ref b)] [.null, (.int (0 : Int32)), (.int (0 : Int32)), (.ref b), (.ref a)])) rfl (by rw [hml]; rfl) (Steps.refl _) (a := a) (argsL := [(.ref b), (.int (0 : Int32)), (.int (0 : Int32)), .null]) (rest := []) (lenOf pd_3 rfl) rfl (by show 2 * 0 + _ ≤ _; exact Nat.le_of_eq rfl) (hb hby d7_6) (fun _ _ => ⟨rfl, e0, (by decide : 0 + 4 ≤ _), (by decide : 0 + 8 ≤ _)⟩)
  dsimp only [Pt.U, Pt.locs, Pt.cells, Pt.slots] at Xr2 l2 y2 z2 st2 hQ2 hSr2 hg2 CL2
  subst l2 y2 z2
  obtain ⟨X2, hS2, hZ, hown⟩ := rebS (s := s) (vm0 := s.vm) hS0 (own_hk e0 (Nat.zero_le _)) Xr2 hSr2 hg2 hZ hown
  obtain ⟨rfl, Nq2, kh2, Po2_0⟩ := hQ2
  have N2 := Fr.app N0 Nq2
  have hZ2 := hZ
  have hown2 := hown
  have O2 := O0.keep kh2 (allS g_a all0)
  have K2 : Keep h0 T2.heap [a] := (Keep.refl h0 [a]).trans kh2 (allS (Or.inl (List.mem_of_getElem? (i := 0) rfl)) all0)
  have CR2 := CR0.trans CL2
  have Sy2_a := CL2.safe (P0).lt (HS _ (List.mem_of_getElem? (i := 0) rfl))
  obtain ⟨fs, hr, hrun, hended, hRW⟩ := X2.leaveW (s := s) hS2 (own_hk rfl (Nat.le_refl _)) (v := none) (fun _ => rfl)
  have CE := CR2.trans (CHv.at (s := s) (vm0 := T2.vm) X2 hZ hEL CR2.1)
  refine ⟨_, _, pre0 _ ?_, hrun, hended, _, _, rfl, ?_, ?_, own_rw_mono hRW (by decide) (by decide)⟩
  · show Steps p.tables e below (s₁.setTop (mkF m 0 #[.val (.ref a), .val (.ref b)] [])) _
    refine XS.aloadN X0.here hx rfl (hb hby d7_0) rfl rfl ?_
    show Steps p.tables e below (s₁.setTop (mkF m 1 #[.val (.ref a), .val (.ref b)] [(.ref a)])) _
    refine XS.aloadN X0.here hx rfl (hb hby d7_1) rfl rfl ?_
    show Steps p.tables e below (s₁.setTop (mkF m 2 #[.val (.ref a), .val (.ref b)] [(.ref b), (.ref a)])) _
    refine XS.iconst X0.here hx rfl (hb hby d7_2) ?_
    show Steps p.tables e below (s₁.setTop (mkF m 3 #[.val (.ref a), .val (.ref b)] [(.int (0 : Int32)), (.ref b), (.ref a)])) _
    refine XS.aloadN X0.here hx rfl (hb hby d7_3) rfl rfl ?_
    show Steps p.tables e below (s₁.setTop (mkF m 4 #[.val (.ref a), .val (.ref b)] [(.ref b), (.int (0 : Int32)), (.ref b), (.ref a)])) _
    refine X0.arraylength hx (Ar1.at_ e0) (State.isArrayOf_alike hZ0.alike Ar1.2.1) (g := (mkF m 4 #[.val (.ref a), .val (.ref b)] [(.ref b), (.int (0 : Int32)), (.ref b), (.ref a)])) rfl rfl (hb hby d7_4) _ ?_
    rw [len_of Sz1 Ng1]
    show Steps p.tables e below (s₁.setTop (mkF m 5 #[.val (.ref a), .val (.ref b)] [(.int (0 : Int32)), (.int (0 : Int32)), (.ref b), (.ref a)])) _
    refine XS.aconstNull X0.here hx rfl (hb hby d7_5) ?_
    show Steps p.tables e below (s₁.setTop (mkF m 6 #[.val (.ref a), .val (.ref b)] [.null, (.int (0 : Int32)), (.int (0 : Int32)), (.ref b), (.ref a)])) _
    refine st2.trans ?_
    show Steps p.tables e below (T2.setTop (mkF m 9 #[.val (.ref a), .val (.ref b)] [])) _
    exact X2.returnOut hx Bd.returns (hb hby d7_9) hr
  · show Q_si0 Z a b kb h0 n0 _ T2.heap _
    exact ⟨rfl, N2, K2, Po2_0⟩
  · show CHr Z own_EL s.vm s.heap T2.vm T2.heap
    rw [hh]; exact CE
def Q_sbb (Z : State) (a : Addr) (b : Addr) (h0 : Heap) (n0 : Nat) (v : Option Value) (h : Heap) (L : List Loc) : Prop := v = none ∧ Fr n0 L ∧ Keep h0 h [a] ∧ Exa Z h a "java/lang/String"
theorem d8_0 : decode jdk_42_method_151_code 0 = .ok (.aload_n 0, 1) := by decide +kernel
theorem d8_1 : decode jdk_42_method_151_code 1 = .ok (.invokespecial 1, 3) := by decide +kernel
theorem d8_4 : decode jdk_42_method_151_code 4 = .ok (.aload_n 0, 1) := by decide +kernel
theorem d8_5 : decode jdk_42_method_151_code 5 = .ok (.aload_n 1, 1) := by decide +kernel
theorem d8_6 : decode jdk_42_method_151_code 6 = .ok (.putfield 9, 3) := by decide +kernel
theorem d8_9 : decode jdk_42_method_151_code 9 = .ok (.aload_n 0, 1) := by decide +kernel
theorem d8_10 : decode jdk_42_method_151_code 10 = .ok (.iload_n 2, 1) := by decide +kernel
theorem d8_11 : decode jdk_42_method_151_code 11 = .ok (.putfield 15, 3) := by decide +kernel
theorem d8_14 : decode jdk_42_method_151_code 14 = .ok (.return_, 1) := by decide +kernel
theorem ef_8_RRI (m : MethodId) (x0 : Addr) (x1 : Addr) (x2 : Int32) : entryFrame m #[(.ref x0), (.ref x1), (.int x2)] 3 = mkF m 0 #[.val (.ref x0), .val (.ref x1), .val (.int x2)] [] := by first | (simp [entryFrame, mkF, argsToLocals, Value.category]; done) | rfl
set_option maxRecDepth 65536 in
set_option maxHeartbeats 40000000 in
theorem sbb (l : Launch) (Z : State) (a0 : Array Value) (hw : ∀ d ∈ tables_1, d.before a0 Z = true) (ws : List Jvm.Cond) (a : Addr) (b : Addr) (h0 : Heap) (n0 : Nat) (O0 : Old Z n0 h0) (P0 : Exa Z h0 a "java/lang/String") (P1 : Fld Z h0 a "java/lang/String" "value" "[B" .null) (P2 : Fld Z h0 a "java/lang/String" "coder" "B" (.int (0 : Int32))) (g_a : n0 ≤ a) :
    MetFree l (⟨"java/lang/String", "<init>", "([BB)V"⟩ : MethodName) (head1 (Jvm.Cond.code (⟨"java/lang/String", "<init>", "([BB)V"⟩ : MethodName) jdk_42_method_151_code 3 none :: ws) ({ frames := 1, cells := 0, slots := 0, locals := 12 } : Room)) (fun zA zU => zA = #[(.ref a), (.ref b), (.int (0 : Int32))] ∧ Z.Warmed39 zU.vm ∧ zU.heap = h0) (fun _ _ _ _ _ => True) (fun _ zU zo zU' => ∃ zv zL, zo = .returned zv ∧ Q_sbb Z a b h0 n0 zv zU'.heap zL ∧ FrameEnd zU zo zU' zL ({ frames := 1, cells := 0, slots := 0, locals := 12 } : Room).cells ({ frames := 1, cells := 0, slots := 0, locals := 12 } : Room).slots) := by
  refine MetFree.of_bodySF (plainFor_of_name pn_6) hisR ?_
  intro p e s m args below meth c s₁ Bd hml0 hP hK
  obtain ⟨rfl, hZ, hh⟩ := hP
  have hx := Bd.exec
  have hby := Bd.bytes
  have hml : c.maxLocals = 3 := hml0
  have hown : s.vm.findClass "java/lang/String" = some m.cls := findClass_of_methodNamed Bd.named
  have hnm := (name_of_methodNamed Bd.named Bd.method).1
  have X0 : Stand p l e ({ frames := 1, cells := 0, slots := 0, locals := 12 } : Room) s m #[(.ref a), (.ref b), (.int (0 : Int32))] below meth c s₁ [] 0 0 := Stand.of_body Bd
  have e0 : s₁.heap = h0 := by rw [← hh, Bd.state]; rfl
  have N0 := Fr.nil n0
  have Z0 : n0 ≤ h0.size := O0.1 ▸ O0.2.1
  have pre0 : ∀ zt, Steps p.tables e below (s₁.setTop (mkF m 0 #[.val (.ref a), .val (.ref b), .val (.int (0 : Int32))] [])) zt → Steps p.tables e below (s₁.setTop (entryFrame m #[(.ref a), (.ref b), (.int (0 : Int32))] 3)) zt := fun zt zk => castTop (ef_8_RRI m a b (0 : Int32)) zk
  obtain ⟨T1, X1, e1, st1⟩ := initO X0 hx hZ hown (hw _ (List.mem_of_getElem? (i := 81) rfl)) (hw _ (List.mem_of_getElem? (i := 24) rfl)) (hw _ (List.mem_of_getElem? (i := 25) rfl)) e0 (g := (mkF m 1 #[.val (.ref a), .val (.ref b), .val (.int (0 : Int32))] [(.ref a)])) rfl (by rw [hml]; rfl) rfl (hb hby d8_1) (by decide) (W := 0) (by show 2 * 0 + _ ≤ _; exact Nat.le_of_eq rfl) (by decide)
  obtain ⟨T2, h2, X2, e2, W2, st2⟩ := putF X1 hx hZ hown (host := "") (Or.inl (hw _ (List.mem_of_getElem? (i := 94) rfl))) Via.refl e1 P1 P0 (Or.inr ⟨(hw _ (List.mem_of_getElem? (i := 11) rfl)), rfl, hnm⟩) (hw _ (List.mem_of_getElem? (i := 9) rfl)) (ty := (.array .byte)) (by decide) rfl rfl (g := (mkF m 6 #[.val (.ref a), .val (.ref b), .val (.int (0 : Int32))] [(.ref b), (.ref a)])) rfl rfl (hb hby d8_6)
  have Fw2 := P1.same W2
  have O2 := O0.wr W2 g_a
  have K2 : Keep h0 h2 [a] := (Keep.refl h0 [a]).wr W2 (Or.inl (List.mem_of_getElem? (i := 0) rfl))
  have N2 := Fr.snoc X2 N0 g_a
  have c4 : Fld Z h2 a "java/lang/String" "coder" "B" (.int (0 : Int32)) := (P2.other W2 (Or.inr (slot_ne (Or.inr (hw _ (List.mem_of_getElem? (i := 12) rfl))) (Or.inr (hw _ (List.mem_of_getElem? (i := 11) rfl))) (by decide) (t := .byte) (t' := (.array .byte)) (by decide) (by decide))))
  obtain ⟨T3, h3, X3, e3, W3, st3⟩ := putFN X2 hx hZ hown (hw _ (List.mem_of_getElem? (i := 93) rfl)) Via.refl e2 c4 (P0.wr W2) (Or.inr ⟨(hw _ (List.mem_of_getElem? (i := 12) rfl)), rfl, hnm⟩) (hw _ (List.mem_of_getElem? (i := 9) rfl)) (ty := .byte) (v' := (.int ((0 : Int32).toInt8.toInt32))) (by decide) rfl (fits_nar_byte _) (g := (mkF m 11 #[.val (.ref a), .val (.ref b), .val (.int (0 : Int32))] [(.int (0 : Int32)), (.ref a)])) rfl rfl (hb hby d8_11)
  have Fw3 := c4.same W3
  have O3 := O2.wr W3 g_a
  have K3 : Keep h0 h3 [a] := K2.wr W3 (Or.inl (List.mem_of_getElem? (i := 0) rfl))
  have N3 := Fr.snoc X3 N2 g_a
  obtain ⟨fs, hr, hrun, hended, hW, hsame⟩ := X3.leave (v := none) (fun _ => rfl)
  refine ⟨_, _, pre0 _ ?_, hrun, hended, _, _, rfl, ?_, ⟨_, rfl⟩, hW, hsame.mono (by decide) (by decide)⟩
  · show Steps p.tables e below (s₁.setTop (mkF m 0 #[.val (.ref a), .val (.ref b), .val (.int (0 : Int32))] [])) _
    refine XS.aloadN X0.here hx rfl (hb hby d8_0) rfl rfl ?_
    show Steps p.tables e below (s₁.setTop (mkF m 1 #[.val (.ref a), .val (.ref b), .val (.int (0 : Int32))] [(.ref a)])) _
    refine st1 _ ?_
    show Steps p.tables e below (T1.setTop (mkF m 4 #[.val (.ref a), .val (.ref b), .val (.int (0 : Int32))] [])) _
    refine XS.aloadN X1.here hx rfl (hb hby d8_4) rfl rfl ?_
    show Steps p.tables e below (T1.setTop (mkF m 5 #[.val (.ref a), .val (.ref b), .val (.int (0 : Int32))] [(.ref a)])) _
    refine XS.aloadN X1.here hx rfl (hb hby d8_5) rfl rfl ?_
    show Steps p.tables e below (T1.setTop (mkF m 6 #[.val (.ref a), .val (.ref b), .val (.int (0 : Int32))] [(.ref b), (.ref a)])) _
    refine st2 _ ?_
    show Steps p.tables e below (T2.setTop (mkF m 9 #[.val (.ref a), .val (.ref b), .val (.int (0 : Int32))] [])) _
    refine XS.aloadN X2.here hx rfl (hb hby d8_9) rfl rfl ?_
    show Steps p.tables e below (T2.setTop (mkF m 10 #[.val (.ref a), .val (.ref b), .val (.int (0 : Int32))] [(.ref a)])) _
    refine XS.iloadN X2.here hx rfl (hb hby d8_10) rfl ?_
    show Steps p.tables e below (T2.setTop (mkF m 11 #[.val (.ref a), .val (.ref b), .val (.int (0 : Int32))] [(.int (0 : Int32)), (.ref a)])) _
    refine st3 _ ?_
    show Steps p.tables e below (T3.setTop (mkF m 14 #[.val (.ref a), .val (.ref b), .val (.int (0 : Int32))] [])) _
    exact X3.returnOut hx Bd.returns (hb hby d8_14) hr
  · show Q_sbb Z a b h0 n0 _ T3.heap _
    rw [e3]
    exact ⟨rfl, N3, K3, ((P0.wr W2).wr W3)⟩
def Q_canE (Z : State) (ch : Int32) (h0 : Heap) (n0 : Nat) (v : Option Value) (h : Heap) (L : List Loc) : Prop := v = some (.int (1 : Int32)) ∧ Fr n0 L ∧ h = h0
theorem d9_0 : decode jdk_43_method_3_code 0 = .ok (.iload_n 0, 1) := by decide +kernel
theorem d9_1 : decode jdk_43_method_3_code 1 = .ok (.sipush 255, 3) := by decide +kernel
theorem d9_4 : decode jdk_43_method_3_code 4 = .ok (.if_icmp .gt 7, 3) := by decide +kernel
theorem d9_7 : decode jdk_43_method_3_code 7 = .ok (.iconst 1, 1) := by decide +kernel
theorem d9_8 : decode jdk_43_method_3_code 8 = .ok (.goto 4, 3) := by decide +kernel
theorem d9_12 : decode jdk_43_method_3_code 12 = .ok (.ireturn, 1) := by decide +kernel
theorem pn_10 : plainName "java/lang/StringLatin1" = true := by first | (simp [plainName, overriddenIn]; done) | decide +kernel
theorem ef_9_I (m : MethodId) (x0 : Int32) : entryFrame m #[(.int x0)] 1 = mkF m 0 #[.val (.int x0)] [] := by first | (simp [entryFrame, mkF, argsToLocals, Value.category]; done) | rfl
set_option maxRecDepth 65536 in
set_option maxHeartbeats 40000000 in
theorem canE (l : Launch) (Z : State) (a0 : Array Value) (hw : ∀ d ∈ tables_1, d.before a0 Z = true) (ws : List Jvm.Cond) (ch : Int32) (h0 : Heap) (n0 : Nat) (Z0 : n0 ≤ h0.size) (q : ¬ ((255 : Int32) < ch)) :
    MetFree l (⟨"java/lang/StringLatin1", "canEncode", "(C)Z"⟩ : MethodName) (head1 (Jvm.Cond.code (⟨"java/lang/StringLatin1", "canEncode", "(C)Z"⟩ : MethodName) jdk_43_method_3_code 1 (some .boolean) :: ws) ({ frames := 0, cells := 0, slots := 0, locals := 0 } : Room)) (fun zA zU => zA = #[(.int ch)] ∧ Z.Warmed39 zU.vm ∧ zU.heap = h0) (fun _ _ _ _ _ => True) (fun _ zU zo zU' => ∃ zv zL, zo = .returned zv ∧ Q_canE Z ch h0 n0 zv zU'.heap zL ∧ FrameEnd zU zo zU' zL ({ frames := 0, cells := 0, slots := 0, locals := 0 } : Room).cells ({ frames := 0, cells := 0, slots := 0, locals := 0 } : Room).slots) := by
  refine MetFree.of_bodySF (plainFor_of_name pn_10) hisR ?_
  intro p e s m args below meth c s₁ Bd hml0 hP hK
  obtain ⟨rfl, hZ, hh⟩ := hP
  have hx := Bd.exec
  have hby := Bd.bytes
  have hml : c.maxLocals = 1 := hml0
  have hown : s.vm.findClass "java/lang/StringLatin1" = some m.cls := findClass_of_methodNamed Bd.named
  have hnm := (name_of_methodNamed Bd.named Bd.method).1
  have X0 : Stand p l e ({ frames := 0, cells := 0, slots := 0, locals := 0 } : Room) s m #[(.int ch)] below meth c s₁ [] 0 0 := Stand.of_body Bd
  have e0 : s₁.heap = h0 := by rw [← hh, Bd.state]; rfl
  have N0 := Fr.nil n0
  have pre0 : ∀ zt, Steps p.tables e below (s₁.setTop (mkF m 0 #[.val (.int ch)] [])) zt → Steps p.tables e below (s₁.setTop (entryFrame m #[(.int ch)] 1)) zt := fun zt zk => castTop (ef_9_I m ch) zk
  obtain ⟨fs, hr, hrun, hended, hW, hsame⟩ := X0.leave (v := some (.int (1 : Int32))) (fun h => by rw [Bd.returns] at h; cases h)
  refine ⟨_, _, pre0 _ ?_, hrun, hended, _, _, rfl, ?_, ⟨_, rfl⟩, hW, hsame.mono (by decide) (by decide)⟩
  · show Steps p.tables e below (s₁.setTop (mkF m 0 #[.val (.int ch)] [])) _
    refine XS.iloadN X0.here hx rfl (hb hby d9_0) rfl ?_
    show Steps p.tables e below (s₁.setTop (mkF m 1 #[.val (.int ch)] [(.int ch)])) _
    refine XS.sipush X0.here hx rfl (hb hby d9_1) ?_
    show Steps p.tables e below (s₁.setTop (mkF m 4 #[.val (.int ch)] [(.int (255 : Int32)), (.int ch)])) _
    refine XS.icmpNo X0.here hx rfl (hb hby d9_4) rfl (flt (q : ¬ ((255 : Int32) < ch))).2.2.1 ?_
    show Steps p.tables e below (s₁.setTop (mkF m 7 #[.val (.int ch)] [])) _
    refine XS.iconst X0.here hx rfl (hb hby d9_7) ?_
    show Steps p.tables e below (s₁.setTop (mkF m 8 #[.val (.int ch)] [(.int (1 : Int32))])) _
    refine XS.goto X0.here hx rfl (pc0 := 8) (pc' := 12) rfl (hb hby d9_8) (by decide) (by decide) ?_
    show Steps p.tables e below (s₁.setTop (mkF m 12 #[.val (.int ch)] [(.int (1 : Int32))])) _
    exact retN X0 hx (t := .boolean) Bd.returns (by simp) (hb hby d9_12) hr
  · show Q_canE Z ch h0 n0 _ s₁.heap _
    rw [e0]
    exact ⟨rfl, N0, rfl⟩
def Q_toB (Z : State) (ch : Int32) (h0 : Heap) (n0 : Nat) (v : Option Value) (h : Heap) (L : List Loc) : Prop := ∃ r : Addr, v = some (.ref r) ∧ Fr n0 L ∧ Keep h0 h []
theorem d11_0 : decode jdk_43_method_46_code 0 = .ok (.iconst 1, 1) := by decide +kernel
theorem d11_1 : decode jdk_43_method_46_code 1 = .ok (.newarray .byte, 2) := by decide +kernel
theorem d11_3 : decode jdk_43_method_46_code 3 = .ok (.dup, 1) := by decide +kernel
theorem d11_4 : decode jdk_43_method_46_code 4 = .ok (.iconst 0, 1) := by decide +kernel
theorem d11_5 : decode jdk_43_method_46_code 5 = .ok (.iload_n 0, 1) := by decide +kernel
theorem d11_6 : decode jdk_43_method_46_code 6 = .ok (.i2b, 1) := by decide +kernel
theorem d11_7 : decode jdk_43_method_46_code 7 = .ok (.bastore, 1) := by decide +kernel
theorem d11_8 : decode jdk_43_method_46_code 8 = .ok (.areturn, 1) := by decide +kernel
theorem ef_11_I (m : MethodId) (x0 : Int32) : entryFrame m #[(.int x0)] 1 = mkF m 0 #[.val (.int x0)] [] := by first | (simp [entryFrame, mkF, argsToLocals, Value.category]; done) | rfl
set_option maxRecDepth 65536 in
set_option maxHeartbeats 40000000 in
theorem toB (l : Launch) (Z : State) (a0 : Array Value) (hw : ∀ d ∈ tables_1, d.before a0 Z = true) (ws : List Jvm.Cond) (ch : Int32) (h0 : Heap) (n0 : Nat) (Z0 : n0 ≤ h0.size) :
    MetFree l (⟨"java/lang/StringLatin1", "toBytes", "(C)[B"⟩ : MethodName) (head1 (Jvm.Cond.code (⟨"java/lang/StringLatin1", "toBytes", "(C)[B"⟩ : MethodName) jdk_43_method_46_code 1 (some (.array .byte)) :: ws) ({ frames := 0, cells := 1, slots := 1, locals := 0 } : Room)) (fun zA zU => zA = #[(.int ch)] ∧ Z.Warmed39 zU.vm ∧ zU.heap = h0) (fun _ _ _ _ _ => True) (fun _ zU zo zU' => ∃ zv zL, zo = .returned zv ∧ Q_toB Z ch h0 n0 zv zU'.heap zL ∧ FrameEnd zU zo zU' zL ({ frames := 0, cells := 1, slots := 1, locals := 0 } : Room).cells ({ frames := 0, cells := 1, slots := 1, locals := 0 } : Room).slots) := by
  refine MetFree.of_bodySF (plainFor_of_name pn_10) hisR ?_
  intro p e s m args below meth c s₁ Bd hml0 hP hK
  obtain ⟨rfl, hZ, hh⟩ := hP
  have hx := Bd.exec
  have hby := Bd.bytes
  have hml : c.maxLocals = 1 := hml0
  have hown : s.vm.findClass "java/lang/StringLatin1" = some m.cls := findClass_of_methodNamed Bd.named
  have hnm := (name_of_methodNamed Bd.named Bd.method).1
  have X0 : Stand p l e ({ frames := 0, cells := 1, slots := 1, locals := 0 } : Room) s m #[(.int ch)] below meth c s₁ [] 0 0 := Stand.of_body Bd
  have e0 : s₁.heap = h0 := by rw [← hh, Bd.state]; rfl
  have N0 := Fr.nil n0
  have pre0 : ∀ zt, Steps p.tables e below (s₁.setTop (mkF m 0 #[.val (.int ch)] [])) zt → Steps p.tables e below (s₁.setTop (entryFrame m #[(.int ch)] 1)) zt := fun zt zk => castTop (ef_11_I m ch) zk
  obtain ⟨T1, h1, k1, X1, e1, E1, A1, st1⟩ := newP X0 hx hZ (hw _ (List.mem_of_getElem? (i := 10) rfl)) e0 (g := (mkF m 1 #[.val (.int ch)] [(.int (1 : Int32))])) rfl (hb hby d11_1) rfl (by decide) (cap := 1) (by decide) (by decide) (by decide) (by decide)
  obtain ⟨b1, gz1⟩ : ∃ z, z = h0.size := ⟨_, rfl⟩
  rw [← gz1] at A1 st1
  have sz_b1 : h0.size ≤ b1 := Nat.le_trans (Keep.refl h0 []).1 (Nat.le_of_eq gz1.symm)
  have g_b1 : n0 ≤ b1 := Nat.le_trans Z0 sz_b1
  have K1 : Keep h0 h1 [] := (Keep.refl h0 []).ext E1
  have V1 : Arv Z h1 b1 k1 .byte (1 : Int32) [(.int (0 : Int32))] (.int (0 : Int32)) := (Arv.new A1 (by decide)).pad (pad_rep [] (.int (0 : Int32)) 1)
  obtain ⟨cl2, Ar2, q2, Sz2, Ng2, Hs2, Gs2⟩ := (id V1)
  have hin2 : ¬ ((0 : Int32) < 0 ∨ cl2.slots.size ≤ ((0 : Int32)).toNatClampNeg) := inb_of Sz2 ⟨by decide, by decide⟩
  obtain ⟨T2, h2, X2, e2, W2, st2⟩ := stB X1 hx hZ e1 Ar2 (j := (0 : Int32)) hin2 (g := (mkF m 7 #[.val (.int ch)] [(.int (ch.toInt8.toInt32)), (.int (0 : Int32)), (.ref b1), (.ref b1)])) rfl rfl (hb hby d11_7)
  have V2 := Arv.set Ar2 q2 Sz2 Ng2 Hs2 Gs2 (fits_nar_byte _) W2 0 rfl (Nat.le_of_ble_eq_true rfl)
  have K2 : Keep h0 h2 [] := K1.wr W2 (Or.inr sz_b1)
  have N2 := Fr.snoc X2 N0 g_b1
  have V2 : Arv Z h2 b1 k1 .byte (1 : Int32) [(.int ((ch.toInt8.toInt32).toInt8.toInt32))] (.int (0 : Int32)) := V2
  obtain ⟨fs, hr, hrun, hended, hW, hsame⟩ := X2.leave (v := some (.ref b1)) (fun h => by rw [Bd.returns] at h; cases h)
  refine ⟨_, _, pre0 _ ?_, hrun, hended, _, _, rfl, ?_, ⟨_, rfl⟩, hW, hsame.mono (by decide) (by decide)⟩
  · show Steps p.tables e below (s₁.setTop (mkF m 0 #[.val (.int ch)] [])) _
    refine XS.iconst X0.here hx rfl (hb hby d11_0) ?_
    show Steps p.tables e below (s₁.setTop (mkF m 1 #[.val (.int ch)] [(.int (1 : Int32))])) _
    refine st1 _ ?_
    show Steps p.tables e below (T1.setTop (mkF m 3 #[.val (.int ch)] [(.ref b1)])) _
    refine XS.dup X1.here hx rfl (hb hby d11_3) rfl rfl ?_
    show Steps p.tables e below (T1.setTop (mkF m 4 #[.val (.int ch)] [(.ref b1), (.ref b1)])) _
    refine XS.iconst X1.here hx rfl (hb hby d11_4) ?_
    show Steps p.tables e below (T1.setTop (mkF m 5 #[.val (.int ch)] [(.int (0 : Int32)), (.ref b1), (.ref b1)])) _
    refine XS.iloadN X1.here hx rfl (hb hby d11_5) rfl ?_
    show Steps p.tables e below (T1.setTop (mkF m 6 #[.val (.int ch)] [(.int ch), (.int (0 : Int32)), (.ref b1), (.ref b1)])) _
    refine XS.i2b X1.here hx rfl (hb hby d11_6) rfl ?_
    show Steps p.tables e below (T1.setTop (mkF m 7 #[.val (.int ch)] [(.int (ch.toInt8.toInt32)), (.int (0 : Int32)), (.ref b1), (.ref b1)])) _
    refine st2 _ ?_
    show Steps p.tables e below (T2.setTop (mkF m 8 #[.val (.int ch)] [(.ref b1)])) _
    jvm_step X2.here [X2.here.top, hx, (hb hby d11_8), X2.method', Bd.returns, Value.isRef, FieldType.isReference]
    first | (intro acts; rw [hr _ acts rfl rfl rfl]) | rw [hr _ _ rfl rfl rfl]
    exact Steps.refl _
  · show Q_toB Z ch h0 n0 _ T2.heap _
    rw [e2]
    exact ⟨b1, rfl, N2, K2⟩
def Q_vOf (Z : State) (ch : Int32) (cs : Int32) (h0 : Heap) (n0 : Nat) (v : Option Value) (h : Heap) (L : List Loc) : Prop := ∃ r : Addr, v = some (.ref r) ∧ Fr n0 L ∧ Keep h0 h [] ∧ Exa Z h r "java/lang/String"
theorem d12_0 : decode jdk_42_method_139_code 0 = .ok (.getstatic 38, 3) := by decide +kernel
theorem d12_3 : decode jdk_42_method_139_code 3 = .ok (.ifCond .eq 23, 3) := by decide +kernel
theorem d12_6 : decode jdk_42_method_139_code 6 = .ok (.iload_n 0, 1) := by decide +kernel
theorem d12_7 : decode jdk_42_method_139_code 7 = .ok (.invokestatic 1015, 3) := by decide +kernel
theorem pd_4 : parseMethodDescriptor "(C)Z" = some ⟨[.char], some .boolean⟩ := by decide +kernel
theorem d12_10 : decode jdk_42_method_139_code 10 = .ok (.ifCond .eq 16, 3) := by decide +kernel
theorem d12_13 : decode jdk_42_method_139_code 13 = .ok (.new 10, 3) := by decide +kernel
theorem d12_16 : decode jdk_42_method_139_code 16 = .ok (.dup, 1) := by decide +kernel
theorem d12_17 : decode jdk_42_method_139_code 17 = .ok (.iload_n 0, 1) := by decide +kernel
theorem d12_18 : decode jdk_42_method_139_code 18 = .ok (.invokestatic 1018, 3) := by decide +kernel
theorem pd_5 : parseMethodDescriptor "(C)[B" = some ⟨[.char], some (.array .byte)⟩ := by decide +kernel
theorem d12_21 : decode jdk_42_method_139_code 21 = .ok (.iconst 0, 1) := by decide +kernel
theorem d12_22 : decode jdk_42_method_139_code 22 = .ok (.invokespecial 209, 3) := by decide +kernel
theorem pd_6 : parseMethodDescriptor "([BB)V" = some ⟨[(.array .byte), .byte], none⟩ := by decide +kernel
theorem d12_25 : decode jdk_42_method_139_code 25 = .ok (.areturn, 1) := by decide +kernel
theorem ef_12_I (m : MethodId) (x0 : Int32) : entryFrame m #[(.int x0)] 1 = mkF m 0 #[.val (.int x0)] [] := by first | (simp [entryFrame, mkF, argsToLocals, Value.category]; done) | rfl
set_option maxRecDepth 65536 in
set_option maxHeartbeats 40000000 in
theorem vOf (l : Launch) (Z : State) (a0 : Array Value) (hw : ∀ d ∈ tables_1, d.before a0 Z = true) (ws : List Jvm.Cond) (ch : Int32) (cs : Int32) (h0 : Heap) (n0 : Nat) (O0 : Old Z n0 h0) (G0 : Sta Z Z.heap "java/lang/String" "COMPACT_STRINGS" "Z" (.int cs)) (hcs : ¬ (cs = (0 : Int32))) (q : ¬ ((255 : Int32) < ch)) :
    MetFree l (⟨"java/lang/String", "valueOf", "(C)Ljava/lang/String;"⟩ : MethodName) (head1 (Jvm.Cond.code (⟨"java/lang/String", "valueOf", "(C)Ljava/lang/String;"⟩ : MethodName) jdk_42_method_139_code 1 (some (.object "java/lang/String")) :: ws) ({ frames := 2, cells := 2, slots := 5, locals := 27 } : Room)) (fun zA zU => zA = #[(.int ch)] ∧ Z.Warmed39 zU.vm ∧ zU.heap = h0) (fun _ _ _ _ _ => True) (fun _ zU zo zU' => ∃ zv zL, zo = .returned zv ∧ Q_vOf Z ch cs h0 n0 zv zU'.heap zL ∧ FrameEnd zU zo zU' zL ({ frames := 2, cells := 2, slots := 5, locals := 27 } : Room).cells ({ frames := 2, cells := 2, slots := 5, locals := 27 } : Room).slots) := by
  refine MetFree.of_bodySF (plainFor_of_name pn_6) hisR ?_
  intro p e s m args below meth c s₁ Bd hml0 hP hK
  obtain ⟨rfl, hZ, hh⟩ := hP
  have hx := Bd.exec
  have hby := Bd.bytes
  have hml : c.maxLocals = 1 := hml0
  have hown : s.vm.findClass "java/lang/String" = some m.cls := findClass_of_methodNamed Bd.named
  have hnm := (name_of_methodNamed Bd.named Bd.method).1
  have X0 : Stand p l e ({ frames := 2, cells := 2, slots := 5, locals := 27 } : Room) s m #[(.int ch)] below meth c s₁ [] 0 0 := Stand.of_body Bd
  have e0 : s₁.heap = h0 := by rw [← hh, Bd.state]; rfl
  have N0 := Fr.nil n0
  have Z0 : n0 ≤ h0.size := O0.1 ▸ O0.2.1
  have pre0 : ∀ zt, Steps p.tables e below (s₁.setTop (mkF m 0 #[.val (.int ch)] [])) zt → Steps p.tables e below (s₁.setTop (entryFrame m #[(.int ch)] 1)) zt := fun zt zk => castTop (ef_12_I m ch) zk
  obtain ⟨T1, X1, e1, st1⟩ := getS2 X0 hx hZ hown (host := "") (Or.inl (hw _ (List.mem_of_getElem? (i := 82) rfl))) Via.refl e0 (G0.ext O0.2) (g := (mkF m 0 #[.val (.int ch)] [])) rfl (hb hby d12_0)
  obtain ⟨_, _, ⟨T2, L2, k2, n2⟩, -, X2, ⟨Lc2, hQ2, l2, y2, z2⟩, st2⟩ := Jvm.LawKit.callS X1 hx (y := (⟨"java/lang/StringLatin1", "canEncode", "(C)Z"⟩ : MethodName)) hown (mvT hZ (hw _ (List.mem_of_getElem? (i := 104) rfl))) (mvT hZ (hw _ (List.mem_of_getElem? (i := 105) rfl))) (mvT hZ (hw _ (List.mem_of_getElem? (i := 106) rfl))) (mvT hZ (hw _ (List.mem_of_getElem? (i := 107) rfl))) (by decide) (backOf (W := 0) (canE l Z a0 hw [] ch h0 n0 (Nat.le_trans Z0 (Keep.refl h0 []).1) q) hZ (hw _ (List.mem_of_getElem? (i := 107) rfl)) (hw _ (List.mem_of_getElem? (i := 106) rfl)) (by decide) (by decide)) (g := (mkF m 7 #[.val (.int ch)] [(.int ch)])) rfl (by rw [hml]; rfl) (argsL := [(.int ch)]) (rest := []) (lenOf pd_4 rfl) rfl (by show 2 * 0 + _ ≤ _; exact Nat.le_of_eq rfl) (hb hby d12_7) (fun _ _ => ⟨rfl, e1, (by decide : 0 + 0 ≤ _), (by decide : 0 + 0 ≤ _)⟩)
  dsimp only [Pt.U, Pt.locs, Pt.cells, Pt.slots] at X2 l2 y2 z2 st2 hQ2
  subst l2 y2 z2
  obtain ⟨rfl, Nq2, kh2⟩ := hQ2
  have N2 := Fr.app N0 Nq2
  obtain ⟨T3, h3, X3, e3, E3, A3, D3, U3, st3⟩ := newO X2 hx hZ hown (hw _ (List.mem_of_getElem? (i := 108) rfl)) (hw _ (List.mem_of_getElem? (i := 9) rfl)) (hw _ (List.mem_of_getElem? (i := 8) rfl)) kh2 (g := (mkF m 13 #[.val (.int ch)] [])) rfl (hb hby d12_13) (by decide) (by decide)
  obtain ⟨b3, gz3⟩ : ∃ z, z = h0.size := ⟨_, rfl⟩
  rw [← gz3] at A3 D3 U3 st3
  have sz_b3 : h0.size ≤ b3 := Nat.le_trans (Keep.refl h0 []).1 (Nat.le_of_eq gz3.symm)
  have g_b3 : n0 ≤ b3 := Nat.le_trans Z0 sz_b3
  have O3 := O0.ext E3
  have K3 : Keep h0 h3 [] := (Keep.refl h0 []).ext E3
  have Fi3_11 : Fld Z h3 b3 "java/lang/String" "value" "[B" .null := D3 (Or.inr (hw _ (List.mem_of_getElem? (i := 11) rfl))) (ty := (.array .byte)) (by decide)
  have Fi3_12 : Fld Z h3 b3 "java/lang/String" "coder" "B" (.int (0 : Int32)) := D3 (Or.inr (hw _ (List.mem_of_getElem? (i := 12) rfl))) (ty := .byte) (by decide)
  obtain ⟨_, _, ⟨T4, L4, k4, n4⟩, -, X4, ⟨Lc4, hQ4, l4, y4, z4⟩, st4⟩ := Jvm.LawKit.callS X3 hx (y := (⟨"java/lang/StringLatin1", "toBytes", "(C)[B"⟩ : MethodName)) hown (mvT hZ (hw _ (List.mem_of_getElem? (i := 109) rfl))) (mvT hZ (hw _ (List.mem_of_getElem? (i := 110) rfl))) (mvT hZ (hw _ (List.mem_of_getElem? (i := 106) rfl))) (mvT hZ (hw _ (List.mem_of_getElem? (i := 111) rfl))) (by decide) (backOf (W := 2) (toB l Z a0 hw [] ch h3 n0 (Nat.le_trans Z0 K3.1) ) hZ (hw _ (List.mem_of_getElem? (i := 111) rfl)) (hw _ (List.mem_of_getElem? (i := 106) rfl)) (by decide) (by decide)) (g := (mkF m 18 #[.val (.int ch)] [(.int ch), (.ref b3), (.ref b3)])) rfl (by rw [hml]; rfl) (argsL := [(.int ch)]) (rest := [(.ref b3), (.ref b3)]) (lenOf pd_5 rfl) rfl (by show 2 * 0 + _ ≤ _; exact Nat.le_of_eq rfl) (hb hby d12_18) (fun _ _ => ⟨rfl, e3, (by decide : 1 + 1 ≤ _), (by decide : 4 + 1 ≤ _)⟩)
  dsimp only [Pt.U, Pt.locs, Pt.cells, Pt.slots] at X4 l4 y4 z4 st4 hQ4
  subst l4 y4 z4
  obtain ⟨r_4, rfl, Nq4, kh4⟩ := hQ4
  have N4 := Fr.app N2 Nq4
  have O4 := O3.keep kh4 all0
  have K4 : Keep h0 T4.heap [] := K3.trans kh4 all0
  obtain ⟨_, _, ⟨T5, L5, k5, n5⟩, -, X5, ⟨Lc5, hQ5, l5, y5, z5⟩, st5⟩ := X4.specialBack hx (y := (⟨"java/lang/String", "<init>", "([BB)V"⟩ : MethodName)) rfl hown (mvT hZ (hw _ (List.mem_of_getElem? (i := 112) rfl))) (mvT hZ (hw _ (List.mem_of_getElem? (i := 113) rfl))) (mvT hZ (hw _ (List.mem_of_getElem? (i := 114) rfl))) (by decide) (backOf (W := 1) (sbb l Z a0 hw [] b3 r_4 T4.heap n0 O4 (A3.keep kh4) (Fi3_11.keep kh4 nin0) (Fi3_12.keep kh4 nin0) g_b3) hZ (hw _ (List.mem_of_getElem? (i := 114) rfl)) (hw _ (List.mem_of_getElem? (i := 8) rfl)) (by decide) (by decide)) (g := (mkF m 22 #[.val (.int ch)] [(.int (0 : Int32)), (.ref r_4), (.ref b3), (.ref b3)])) rfl (by rw [hml]; rfl) (Steps.refl _) (a := b3) (argsL := [(.ref r_4), (.int (0 : Int32))]) (rest := [(.ref b3)]) (lenOf pd_6 rfl) rfl (by show 2 * 0 + _ ≤ _; exact Nat.le_of_eq rfl) (hb hby d12_22) (fun _ _ => ⟨rfl, rfl, (by decide : 2 + 0 ≤ _), (by decide : 5 + 0 ≤ _)⟩)
  dsimp only [Pt.U, Pt.locs, Pt.cells, Pt.slots] at X5 l5 y5 z5 st5 hQ5
  subst l5 y5 z5
  obtain ⟨rfl, Nq5, kh5, Po5_0⟩ := hQ5
  have N5 := Fr.app N4 Nq5
  have O5 := O4.keep kh5 (allS g_b3 all0)
  have K5 : Keep h0 T5.heap [] := K4.trans kh5 (allS (Or.inr sz_b3) all0)
  obtain ⟨fs, hr, hrun, hended, hW, hsame⟩ := X5.leave (v := some (.ref b3)) (fun h => by rw [Bd.returns] at h; cases h)
  refine ⟨_, _, pre0 _ ?_, hrun, hended, _, _, rfl, ?_, ⟨_, rfl⟩, hW, hsame.mono (by decide) (by decide)⟩
  · show Steps p.tables e below (s₁.setTop (mkF m 0 #[.val (.int ch)] [])) _
    refine st1 _ ?_
    show Steps p.tables e below (T1.setTop (mkF m 3 #[.val (.int ch)] [(.int cs)])) _
    refine XS.ifNo X1.here hx rfl (hb hby d12_3) rfl ((if0 _ _).trans (feq (hcs : ¬ (cs = (0 : Int32)))).1) ?_
    show Steps p.tables e below (T1.setTop (mkF m 6 #[.val (.int ch)] [])) _
    refine XS.iloadN X1.here hx rfl (hb hby d12_6) rfl ?_
    show Steps p.tables e below (T1.setTop (mkF m 7 #[.val (.int ch)] [(.int ch)])) _
    refine st2 _ ?_
    show Steps p.tables e below (T2.setTop (mkF m 10 #[.val (.int ch)] [(.int (1 : Int32))])) _
    refine XS.ifNo X2.here hx rfl (hb hby d12_10) rfl ((if0 _ _).trans (feq (by decide : ¬ ((1 : Int32) = (0 : Int32)))).1) ?_
    show Steps p.tables e below (T2.setTop (mkF m 13 #[.val (.int ch)] [])) _
    refine st3 _ ?_
    show Steps p.tables e below (T3.setTop (mkF m 16 #[.val (.int ch)] [(.ref b3)])) _
    refine XS.dup X3.here hx rfl (hb hby d12_16) rfl rfl ?_
    show Steps p.tables e below (T3.setTop (mkF m 17 #[.val (.int ch)] [(.ref b3), (.ref b3)])) _
    refine XS.iloadN X3.here hx rfl (hb hby d12_17) rfl ?_
    show Steps p.tables e below (T3.setTop (mkF m 18 #[.val (.int ch)] [(.int ch), (.ref b3), (.ref b3)])) _
    refine st4 _ ?_
    show Steps p.tables e below (T4.setTop (mkF m 21 #[.val (.int ch)] [(.ref r_4), (.ref b3), (.ref b3)])) _
    refine XS.iconst X4.here hx rfl (hb hby d12_21) ?_
    show Steps p.tables e below (T4.setTop (mkF m 22 #[.val (.int ch)] [(.int (0 : Int32)), (.ref r_4), (.ref b3), (.ref b3)])) _
    refine st5.trans ?_
    show Steps p.tables e below (T5.setTop (mkF m 25 #[.val (.int ch)] [(.ref b3)])) _
    jvm_step X5.here [X5.here.top, hx, (hb hby d12_25), X5.method', Bd.returns, Value.isRef, FieldType.isReference]
    first | (intro acts; rw [hr _ acts rfl rfl rfl]) | rw [hr _ _ rfl rfl rfl]
    exact Steps.refl _
  · show Q_vOf Z ch cs h0 n0 _ T5.heap _
    exact ⟨b3, rfl, N5, K5, Po5_0⟩
def Q_drawN (Z : State) (ch : Int32) (h0 : Heap) (n0 : Nat) (v : Option Value) (h : Heap) (L : List Loc) : Prop := v = some .null ∧ Fr n0 L ∧ h = h0
theorem d13_0 : decode method_2_code 0 = .ok (.iload_n 0, 1) := by decide +kernel
theorem d13_1 : decode method_2_code 1 = .ok (.ifCond .ne 5, 3) := by decide +kernel
theorem d13_4 : decode method_2_code 4 = .ok (.aconst_null, 1) := by decide +kernel
theorem d13_5 : decode method_2_code 5 = .ok (.areturn, 1) := by decide +kernel
theorem pn_14 : plainName "com/example/knooppunt/knooppunt/reader/RouteLinePinLaw" = true := by first | (simp [plainName, overriddenIn]; done) | decide +kernel
theorem ef_13_II (m : MethodId) (x0 : Int32) (x1 : Int32) : entryFrame m #[(.int x0), (.int x1)] 3 = mkF m 0 #[.val (.int x0), .val (.int x1), .unset] [] := by first | (simp [entryFrame, mkF, argsToLocals, Value.category]; done) | rfl
set_option maxRecDepth 65536 in
set_option maxHeartbeats 40000000 in
theorem drawN (l : Launch) (Z : State) (a0 : Array Value) (hw : ∀ d ∈ tables_1, d.before a0 Z = true) (ws : List Jvm.Cond) (ch : Int32) (h0 : Heap) (n0 : Nat) (O0 : Old Z n0 h0) :
    MetFree l (⟨"com/example/knooppunt/knooppunt/reader/RouteLinePinLaw", "draw", "(II)Ljava/lang/String;"⟩ : MethodName) (head1 (Jvm.Cond.code (⟨"com/example/knooppunt/knooppunt/reader/RouteLinePinLaw", "draw", "(II)Ljava/lang/String;"⟩ : MethodName) method_2_code 3 (some (.object "java/lang/String")) :: ws) ({ frames := 0, cells := 0, slots := 0, locals := 0 } : Room)) (fun zA zU => zA = #[(.int (0 : Int32)), (.int ch)] ∧ Z.Warmed39 zU.vm ∧ zU.heap = h0) (fun _ _ _ _ _ => True) (fun _ zU zo zU' => ∃ zv zL, zo = .returned zv ∧ Q_drawN Z ch h0 n0 zv zU'.heap zL ∧ FrameEnd zU zo zU' zL ({ frames := 0, cells := 0, slots := 0, locals := 0 } : Room).cells ({ frames := 0, cells := 0, slots := 0, locals := 0 } : Room).slots) := by
  refine MetFree.of_bodySF (plainFor_of_name pn_14) hisR ?_
  intro p e s m args below meth c s₁ Bd hml0 hP hK
  obtain ⟨rfl, hZ, hh⟩ := hP
  have hx := Bd.exec
  have hby := Bd.bytes
  have hml : c.maxLocals = 3 := hml0
  have hown : s.vm.findClass "com/example/knooppunt/knooppunt/reader/RouteLinePinLaw" = some m.cls := findClass_of_methodNamed Bd.named
  have hnm := (name_of_methodNamed Bd.named Bd.method).1
  have X0 : Stand p l e ({ frames := 0, cells := 0, slots := 0, locals := 0 } : Room) s m #[(.int (0 : Int32)), (.int ch)] below meth c s₁ [] 0 0 := Stand.of_body Bd
  have e0 : s₁.heap = h0 := by rw [← hh, Bd.state]; rfl
  have N0 := Fr.nil n0
  have Z0 : n0 ≤ h0.size := O0.1 ▸ O0.2.1
  have pre0 : ∀ zt, Steps p.tables e below (s₁.setTop (mkF m 0 #[.val (.int (0 : Int32)), .val (.int ch), .unset] [])) zt → Steps p.tables e below (s₁.setTop (entryFrame m #[(.int (0 : Int32)), (.int ch)] 3)) zt := fun zt zk => castTop (ef_13_II m (0 : Int32) ch) zk
  obtain ⟨fs, hr, hrun, hended, hW, hsame⟩ := X0.leave (v := some .null) (fun h => by rw [Bd.returns] at h; cases h)
  refine ⟨_, _, pre0 _ ?_, hrun, hended, _, _, rfl, ?_, ⟨_, rfl⟩, hW, hsame.mono (by decide) (by decide)⟩
  · show Steps p.tables e below (s₁.setTop (mkF m 0 #[.val (.int (0 : Int32)), .val (.int ch), .unset] [])) _
    refine XS.iloadN X0.here hx rfl (hb hby d13_0) rfl ?_
    show Steps p.tables e below (s₁.setTop (mkF m 1 #[.val (.int (0 : Int32)), .val (.int ch), .unset] [(.int (0 : Int32))])) _
    refine XS.ifNo X0.here hx rfl (hb hby d13_1) rfl ((if0 _ _).trans (teq (by decide : (0 : Int32) = (0 : Int32))).2) ?_
    show Steps p.tables e below (s₁.setTop (mkF m 4 #[.val (.int (0 : Int32)), .val (.int ch), .unset] [])) _
    refine XS.aconstNull X0.here hx rfl (hb hby d13_4) ?_
    show Steps p.tables e below (s₁.setTop (mkF m 5 #[.val (.int (0 : Int32)), .val (.int ch), .unset] [.null])) _
    jvm_step X0.here [X0.here.top, hx, (hb hby d13_5), X0.method', Bd.returns, Value.isRef, FieldType.isReference]
    first | (intro acts; rw [hr _ acts rfl rfl rfl]) | rw [hr _ _ rfl rfl rfl]
    exact Steps.refl _
  · show Q_drawN Z ch h0 n0 _ s₁.heap _
    rw [e0]
    exact ⟨rfl, N0, rfl⟩
def Q_drawS (Z : State) (k : Int32) (ch : Int32) (cs : Int32) (h0 : Heap) (n0 : Nat) (v : Option Value) (h : Heap) (L : List Loc) : Prop := ∃ r : Addr, v = some (.ref r) ∧ Fr n0 L ∧ Keep h0 h [] ∧ Exa Z h r "java/lang/String"
theorem d13_6 : decode method_2_code 6 = .ok (.iload_n 0, 1) := by decide +kernel
theorem d13_7 : decode method_2_code 7 = .ok (.iconst 1, 1) := by decide +kernel
theorem d13_8 : decode method_2_code 8 = .ok (.if_icmp .ne 14, 3) := by decide +kernel
theorem d13_11 : decode method_2_code 11 = .ok (.new 7, 3) := by decide +kernel
theorem d13_14 : decode method_2_code 14 = .ok (.dup, 1) := by decide +kernel
theorem d13_15 : decode method_2_code 15 = .ok (.iconst 0, 1) := by decide +kernel
theorem d13_16 : decode method_2_code 16 = .ok (.newarray .char, 2) := by decide +kernel
theorem d13_18 : decode method_2_code 18 = .ok (.invokespecial 9, 3) := by decide +kernel
theorem pd_7 : parseMethodDescriptor "([C)V" = some ⟨[(.array .char)], none⟩ := by decide +kernel
theorem d13_21 : decode method_2_code 21 = .ok (.areturn, 1) := by decide +kernel
set_option maxRecDepth 65536 in
set_option maxHeartbeats 40000000 in
theorem drawS_1 (l : Launch) (Z : State) (a0 : Array Value) (hw : ∀ d ∈ tables_1, d.before a0 Z = true) (ws : List Jvm.Cond) (k : Int32) (ch : Int32) (cs : Int32) (h0 : Heap) (n0 : Nat) (O0 : Old Z n0 h0) (G0 : Sta Z Z.heap "java/lang/String" "COMPACT_STRINGS" "Z" (.int cs)) (hcs : ¬ (cs = (0 : Int32))) (hk0 : ¬ (k = (0 : Int32))) (hc1 : ¬ (k = (0 : Int32))) (hc8 : k = (1 : Int32)) :
    MetFree l (⟨"com/example/knooppunt/knooppunt/reader/RouteLinePinLaw", "draw", "(II)Ljava/lang/String;"⟩ : MethodName) (head1 (Jvm.Cond.code (⟨"com/example/knooppunt/knooppunt/reader/RouteLinePinLaw", "draw", "(II)Ljava/lang/String;"⟩ : MethodName) method_2_code 3 (some (.object "java/lang/String")) :: ws) ({ frames := 4, cells := 6, slots := 12, locals := 66 } : Room)) (fun zA zU => zA = #[(.int k), (.int ch)] ∧ Z.Warmed39 zU.vm ∧ zU.heap = h0 ∧ CHv Z own_EL zU.vm h0 ∧ ∀ x ∈ ([] : List Addr), Safe Z own_EL zU.vm h0 x) (fun _ _ _ _ _ => True) (fun _ zU zo zU' => ∃ zv zL, zo = .returned zv ∧ Q_drawS Z k ch cs h0 n0 zv zU'.heap zL ∧ CHr Z own_EL zU.vm zU.heap zU'.vm zU'.heap ∧ ReturnedEndW zU zo zU' zL ({ frames := 4, cells := 6, slots := 12, locals := 66 } : Room).cells ({ frames := 4, cells := 6, slots := 12, locals := 66 } : Room).slots) := by
  refine MetFree.of_bodySF (plainFor_of_name pn_14) hisR ?_
  intro p e s m args below meth c s₁ Bd hml0 hP hK
  obtain ⟨rfl, hZ, hh, HC, HS⟩ := hP
  have hx := Bd.exec
  have hby := Bd.bytes
  have hml : c.maxLocals = 3 := hml0
  have hown : s.vm.findClass "com/example/knooppunt/knooppunt/reader/RouteLinePinLaw" = some m.cls := findClass_of_methodNamed Bd.named
  have hnm := (name_of_methodNamed Bd.named Bd.method).1
  have X0 : Stand p l e ({ frames := 4, cells := 6, slots := 12, locals := 66 } : Room) (s.setVm s.vm) m #[(.int k), (.int ch)] below meth c s₁ [] 0 0 := Stand.of_body Bd
  have e0 : s₁.heap = h0 := by rw [← hh, Bd.state]; rfl
  have N0 := Fr.nil n0
  have Z0 : n0 ≤ h0.size := O0.1 ▸ O0.2.1
  have pre0 : ∀ zt, Steps p.tables e below (s₁.setTop (mkF m 0 #[.val (.int k), .val (.int ch), .unset] [])) zt → Steps p.tables e below (s₁.setTop (entryFrame m #[(.int k), (.int ch)] 3)) zt := fun zt zk => castTop (ef_13_II m k ch) zk
  have hEL := own_EW hw
  have wS := own_wS hw
  have hS0 : s.Since s.vm 0 := (State.WarmedH.refl s).since 0
  have CR0 : CHr Z own_EL s.vm h0 s.vm h0 := CHr.refl HC
  have hZ0 := hZ
  have hown0 := hown
  obtain ⟨T1, h1, X1, e1, E1, A1, D1, U1, st1⟩ := newO X0 hx hZ hown (hw _ (List.mem_of_getElem? (i := 73) rfl)) (hw _ (List.mem_of_getElem? (i := 9) rfl)) (hw _ (List.mem_of_getElem? (i := 8) rfl)) e0 (g := (mkF m 11 #[.val (.int k), .val (.int ch), .unset] [])) rfl (hb hby d13_11) (by decide) (by decide)
  obtain ⟨b1, gz1⟩ : ∃ z, z = h0.size := ⟨_, rfl⟩
  rw [← gz1] at A1 D1 U1 st1
  have sz_b1 : h0.size ≤ b1 := Nat.le_trans (Keep.refl h0 []).1 (Nat.le_of_eq gz1.symm)
  have g_b1 : n0 ≤ b1 := Nat.le_trans Z0 sz_b1
  have O1 := O0.ext E1
  have K1 : Keep h0 h1 [] := (Keep.refl h0 []).ext E1
  have CR1 := CR0.trans (CHr.ext E1 CR0.1)
  have Sn1 : Safe Z own_EL s.vm h1 b1 := Safe.ext E1 CR0.1 (Safe.new (Nat.le_of_eq gz1.symm))
  have Fi1_11 : Fld Z h1 b1 "java/lang/String" "value" "[B" .null := D1 (Or.inr (hw _ (List.mem_of_getElem? (i := 11) rfl))) (ty := (.array .byte)) (by decide)
  have Fi1_12 : Fld Z h1 b1 "java/lang/String" "coder" "B" (.int (0 : Int32)) := D1 (Or.inr (hw _ (List.mem_of_getElem? (i := 12) rfl))) (ty := .byte) (by decide)
  obtain ⟨T2, h2, k2, X2, e2, E2, A2, st2⟩ := newP X1 hx hZ (hw _ (List.mem_of_getElem? (i := 72) rfl)) e1 (g := (mkF m 16 #[.val (.int k), .val (.int ch), .unset] [(.int (0 : Int32)), (.ref b1), (.ref b1)])) rfl (hb hby d13_16) rfl (by decide) (cap := 0) (by decide) (by decide) (by decide) (by decide)
  obtain ⟨b2, gz2⟩ : ∃ z, z = h1.size := ⟨_, rfl⟩
  rw [← gz2] at A2 st2
  have sz_b2 : h0.size ≤ b2 := Nat.le_trans K1.1 (Nat.le_of_eq gz2.symm)
  have g_b2 : n0 ≤ b2 := Nat.le_trans Z0 sz_b2
  have O2 := O1.ext E2
  have K2 : Keep h0 h2 [] := K1.ext E2
  have CR2 := CR1.trans (CHr.ext E2 CR1.1)
  have Sy2_b1 := Safe.ext E2 CR1.1 Sn1
  have V2 : Arv Z h2 b2 k2 .char (0 : Int32) [] (.int (0 : Int32)) := (Arv.new A2 (by decide)).pad (pad_rep [] (.int (0 : Int32)) 0)
  obtain ⟨_, _, ⟨T3, L3, k3, n3⟩, -, Xr3, hSr3, hg3, ⟨Lc3, hQ3, l3, y3, z3, CL3⟩, st3⟩ := X2.specialBackS hx (y := (⟨"java/lang/String", "<init>", "([C)V"⟩ : MethodName)) rfl hown (mvT hZ (hw _ (List.mem_of_getElem? (i := 74) rfl))) (mvT hZ (hw _ (List.mem_of_getElem? (i := 75) rfl))) (mvT hZ (hw _ (List.mem_of_getElem? (i := 76) rfl))) (by decide) (own_backSH (s := s) (vm0 := s.vm) (W := 1) (si0 l Z a0 hw [] b1 b2 k2 h2 n0 O2 (A1.ext E2) (Fi1_11.ext E2) (Fi1_12.ext E2) V2 g_b1) hZ (hw _ (List.mem_of_getElem? (i := 76) rfl)) (hw _ (List.mem_of_getElem? (i := 8) rfl)) (by decide) (by decide) hEL CR2.1 (allS ⟨((A1.ext E2)).lt, Sy2_b1⟩ all0)) (g := (mkF m 18 #[.val (.int k), .val (.int ch), .unset] [(.ref b2), (.ref b1), (.ref b1)])) rfl (by rw [hml]; rfl) (Steps.refl _) (a := b1) (argsL := [(.ref b2)]) (rest := [(.ref b1)]) (lenOf pd_7 rfl) rfl (by show 2 * 0 + _ ≤ _; exact Nat.le_of_eq rfl) (hb hby d13_18) (fun _ _ => ⟨rfl, e2, (by decide : 2 + 4 ≤ _), (by decide : 4 + 8 ≤ _)⟩)
  dsimp only [Pt.U, Pt.locs, Pt.cells, Pt.slots] at Xr3 l3 y3 z3 st3 hQ3 hSr3 hg3 CL3
  subst l3 y3 z3
  obtain ⟨X3, hS3, hZ, hown⟩ := rebS (s := s) (vm0 := s.vm) hS0 (own_hk e2 (Nat.le_trans (Nat.le_trans (Nat.zero_le _) E1.1) E2.1)) Xr3 hSr3 hg3 hZ hown
  obtain ⟨rfl, Nq3, kh3, Po3_0⟩ := hQ3
  have N3 := Fr.app N0 Nq3
  have hZ3 := hZ
  have hown3 := hown
  have O3 := O2.keep kh3 (allS g_b1 all0)
  have K3 : Keep h0 T3.heap [] := K2.trans kh3 (allS (Or.inr sz_b1) all0)
  have CR3 := CR2.trans CL3
  have Sy3_b1 := CL3.safe ((A1.ext E2)).lt Sy2_b1
  obtain ⟨fs, hr, hrun, hended, hRW⟩ := X3.leaveW (s := s) hS3 (own_hk rfl (Nat.le_refl _)) (v := some (.ref b1)) (fun h => by rw [Bd.returns] at h; cases h)
  have CE := CR3.trans (CHv.at (s := s) (vm0 := T3.vm) X3 hZ hEL CR3.1)
  refine ⟨_, _, pre0 _ ?_, hrun, hended, _, _, rfl, ?_, ?_, own_rw_mono hRW (by decide) (by decide)⟩
  · show Steps p.tables e below (s₁.setTop (mkF m 0 #[.val (.int k), .val (.int ch), .unset] [])) _
    refine XS.iloadN X0.here hx rfl (hb hby d13_0) rfl ?_
    show Steps p.tables e below (s₁.setTop (mkF m 1 #[.val (.int k), .val (.int ch), .unset] [(.int k)])) _
    refine XS.ifYes X0.here hx rfl (pc0 := 1) (pc' := 6) rfl (hb hby d13_1) rfl ((if0 _ _).trans (feq (hc1 : ¬ (k = (0 : Int32)))).2) (by decide) (by decide) ?_
    show Steps p.tables e below (s₁.setTop (mkF m 6 #[.val (.int k), .val (.int ch), .unset] [])) _
    refine XS.iloadN X0.here hx rfl (hb hby d13_6) rfl ?_
    show Steps p.tables e below (s₁.setTop (mkF m 7 #[.val (.int k), .val (.int ch), .unset] [(.int k)])) _
    refine XS.iconst X0.here hx rfl (hb hby d13_7) ?_
    show Steps p.tables e below (s₁.setTop (mkF m 8 #[.val (.int k), .val (.int ch), .unset] [(.int (1 : Int32)), (.int k)])) _
    refine XS.icmpNo X0.here hx rfl (hb hby d13_8) rfl (teq (hc8 : k = (1 : Int32))).2 ?_
    show Steps p.tables e below (s₁.setTop (mkF m 11 #[.val (.int k), .val (.int ch), .unset] [])) _
    refine st1 _ ?_
    show Steps p.tables e below (T1.setTop (mkF m 14 #[.val (.int k), .val (.int ch), .unset] [(.ref b1)])) _
    refine XS.dup X1.here hx rfl (hb hby d13_14) rfl rfl ?_
    show Steps p.tables e below (T1.setTop (mkF m 15 #[.val (.int k), .val (.int ch), .unset] [(.ref b1), (.ref b1)])) _
    refine XS.iconst X1.here hx rfl (hb hby d13_15) ?_
    show Steps p.tables e below (T1.setTop (mkF m 16 #[.val (.int k), .val (.int ch), .unset] [(.int (0 : Int32)), (.ref b1), (.ref b1)])) _
    refine st2 _ ?_
    show Steps p.tables e below (T2.setTop (mkF m 18 #[.val (.int k), .val (.int ch), .unset] [(.ref b2), (.ref b1), (.ref b1)])) _
    refine st3.trans ?_
    show Steps p.tables e below (T3.setTop (mkF m 21 #[.val (.int k), .val (.int ch), .unset] [(.ref b1)])) _
    jvm_step X3.here [X3.here.top, hx, (hb hby d13_21), X3.method', Bd.returns, Value.isRef, FieldType.isReference]
    first | (intro acts; rw [hr _ acts rfl rfl rfl]) | rw [hr _ _ rfl rfl rfl]
    exact Steps.refl _
  · show Q_drawS Z k ch cs h0 n0 _ T3.heap _
    exact ⟨b1, rfl, N3, K3, Po3_0⟩
  · show CHr Z own_EL s.vm s.heap T3.vm T3.heap
    rw [hh]; exact CE
theorem d13_22 : decode method_2_code 22 = .ok (.iload_n 0, 1) := by decide +kernel
theorem d13_23 : decode method_2_code 23 = .ok (.iconst 2, 1) := by decide +kernel
theorem d13_24 : decode method_2_code 24 = .ok (.if_icmp .ne 13, 3) := by decide +kernel
theorem d13_27 : decode method_2_code 27 = .ok (.iload_n 1, 1) := by decide +kernel
theorem d13_28 : decode method_2_code 28 = .ok (.sipush 255, 3) := by decide +kernel
theorem d13_31 : decode method_2_code 31 = .ok (.iand, 1) := by decide +kernel
theorem d13_32 : decode method_2_code 32 = .ok (.i2c, 1) := by decide +kernel
theorem d13_33 : decode method_2_code 33 = .ok (.invokestatic 12, 3) := by decide +kernel
theorem pd_8 : parseMethodDescriptor "(C)Ljava/lang/String;" = some ⟨[.char], some (.object "java/lang/String")⟩ := by decide +kernel
theorem d13_36 : decode method_2_code 36 = .ok (.areturn, 1) := by decide +kernel
set_option maxRecDepth 65536 in
set_option maxHeartbeats 40000000 in
theorem drawS_2 (l : Launch) (Z : State) (a0 : Array Value) (hw : ∀ d ∈ tables_1, d.before a0 Z = true) (ws : List Jvm.Cond) (k : Int32) (ch : Int32) (cs : Int32) (h0 : Heap) (n0 : Nat) (O0 : Old Z n0 h0) (G0 : Sta Z Z.heap "java/lang/String" "COMPACT_STRINGS" "Z" (.int cs)) (hcs : ¬ (cs = (0 : Int32))) (hk0 : ¬ (k = (0 : Int32))) (hc1 : ¬ (k = (0 : Int32))) (hc8 : ¬ (k = (1 : Int32))) (hc24 : k = (2 : Int32)) :
    MetFree l (⟨"com/example/knooppunt/knooppunt/reader/RouteLinePinLaw", "draw", "(II)Ljava/lang/String;"⟩ : MethodName) (head1 (Jvm.Cond.code (⟨"com/example/knooppunt/knooppunt/reader/RouteLinePinLaw", "draw", "(II)Ljava/lang/String;"⟩ : MethodName) method_2_code 3 (some (.object "java/lang/String")) :: ws) ({ frames := 4, cells := 6, slots := 12, locals := 66 } : Room)) (fun zA zU => zA = #[(.int k), (.int ch)] ∧ Z.Warmed39 zU.vm ∧ zU.heap = h0 ∧ CHv Z own_EL zU.vm h0 ∧ ∀ x ∈ ([] : List Addr), Safe Z own_EL zU.vm h0 x) (fun _ _ _ _ _ => True) (fun _ zU zo zU' => ∃ zv zL, zo = .returned zv ∧ Q_drawS Z k ch cs h0 n0 zv zU'.heap zL ∧ CHr Z own_EL zU.vm zU.heap zU'.vm zU'.heap ∧ ReturnedEndW zU zo zU' zL ({ frames := 4, cells := 6, slots := 12, locals := 66 } : Room).cells ({ frames := 4, cells := 6, slots := 12, locals := 66 } : Room).slots) := by
  refine MetFree.of_bodySF (plainFor_of_name pn_14) hisR ?_
  intro p e s m args below meth c s₁ Bd hml0 hP hK
  obtain ⟨rfl, hZ, hh, HC, HS⟩ := hP
  have hx := Bd.exec
  have hby := Bd.bytes
  have hml : c.maxLocals = 3 := hml0
  have hown : s.vm.findClass "com/example/knooppunt/knooppunt/reader/RouteLinePinLaw" = some m.cls := findClass_of_methodNamed Bd.named
  have hnm := (name_of_methodNamed Bd.named Bd.method).1
  have X0 : Stand p l e ({ frames := 4, cells := 6, slots := 12, locals := 66 } : Room) (s.setVm s.vm) m #[(.int k), (.int ch)] below meth c s₁ [] 0 0 := Stand.of_body Bd
  have e0 : s₁.heap = h0 := by rw [← hh, Bd.state]; rfl
  have N0 := Fr.nil n0
  have Z0 : n0 ≤ h0.size := O0.1 ▸ O0.2.1
  have pre0 : ∀ zt, Steps p.tables e below (s₁.setTop (mkF m 0 #[.val (.int k), .val (.int ch), .unset] [])) zt → Steps p.tables e below (s₁.setTop (entryFrame m #[(.int k), (.int ch)] 3)) zt := fun zt zk => castTop (ef_13_II m k ch) zk
  have hEL := own_EW hw
  have wS := own_wS hw
  have hS0 : s.Since s.vm 0 := (State.WarmedH.refl s).since 0
  have CR0 : CHr Z own_EL s.vm h0 s.vm h0 := CHr.refl HC
  have hZ0 := hZ
  have hown0 := hown
  obtain ⟨_, _, ⟨T1, L1, k1, n1⟩, -, X1, ⟨Lc1, hQ1, l1, y1, z1⟩, st1⟩ := Jvm.LawKit.callS X0 hx (y := (⟨"java/lang/String", "valueOf", "(C)Ljava/lang/String;"⟩ : MethodName)) hown (mvT hZ (hw _ (List.mem_of_getElem? (i := 101) rfl))) (mvT hZ (hw _ (List.mem_of_getElem? (i := 102) rfl))) (mvT hZ (hw _ (List.mem_of_getElem? (i := 8) rfl))) (mvT hZ (hw _ (List.mem_of_getElem? (i := 103) rfl))) (by decide) (backOf (W := 0) (vOf l Z a0 hw [] ((ch &&& (255 : Int32)).toUInt32.toUInt16.toUInt32.toInt32) cs h0 n0 O0 G0 hcs (own_q1 ch)) hZ (hw _ (List.mem_of_getElem? (i := 103) rfl)) (hw _ (List.mem_of_getElem? (i := 8) rfl)) (by decide) (by decide)) (g := (mkF m 33 #[.val (.int k), .val (.int ch), .unset] [(.int ((ch &&& (255 : Int32)).toUInt32.toUInt16.toUInt32.toInt32))])) rfl (by rw [hml]; rfl) (argsL := [(.int ((ch &&& (255 : Int32)).toUInt32.toUInt16.toUInt32.toInt32))]) (rest := []) (lenOf pd_8 rfl) rfl (by show 2 * 0 + _ ≤ _; exact Nat.le_of_eq rfl) (hb hby d13_33) (fun _ _ => ⟨rfl, e0, (by decide : 0 + 2 ≤ _), (by decide : 0 + 5 ≤ _)⟩)
  dsimp only [Pt.U, Pt.locs, Pt.cells, Pt.slots] at X1 l1 y1 z1 st1 hQ1
  subst l1 y1 z1
  obtain ⟨r_1, rfl, Nq1, kh1, Po1_0⟩ := hQ1
  have N1 := Fr.app N0 Nq1
  have O1 := O0.keep kh1 all0
  have K1 : Keep h0 T1.heap [] := (Keep.refl h0 []).trans kh1 all0
  have hs1 : ∀ x ∈ ([] : List Addr), Safe Z own_EL s.vm h0 x := all0
  have CR1 := CR0.trans (CHr.keep kh1 hs1 CR0.1)
  obtain ⟨fs, hr, hrun, hended, hRW⟩ := X1.leaveW (s := s) hS0 (own_hk rfl (Nat.le_trans (Nat.zero_le _) kh1.1)) (v := some (.ref r_1)) (fun h => by rw [Bd.returns] at h; cases h)
  have CE := CR1.trans (CHv.at (s := s) (vm0 := s.vm) X1 hZ hEL CR1.1)
  refine ⟨_, _, pre0 _ ?_, hrun, hended, _, _, rfl, ?_, ?_, own_rw_mono hRW (by decide) (by decide)⟩
  · show Steps p.tables e below (s₁.setTop (mkF m 0 #[.val (.int k), .val (.int ch), .unset] [])) _
    refine XS.iloadN X0.here hx rfl (hb hby d13_0) rfl ?_
    show Steps p.tables e below (s₁.setTop (mkF m 1 #[.val (.int k), .val (.int ch), .unset] [(.int k)])) _
    refine XS.ifYes X0.here hx rfl (pc0 := 1) (pc' := 6) rfl (hb hby d13_1) rfl ((if0 _ _).trans (feq (hc1 : ¬ (k = (0 : Int32)))).2) (by decide) (by decide) ?_
    show Steps p.tables e below (s₁.setTop (mkF m 6 #[.val (.int k), .val (.int ch), .unset] [])) _
    refine XS.iloadN X0.here hx rfl (hb hby d13_6) rfl ?_
    show Steps p.tables e below (s₁.setTop (mkF m 7 #[.val (.int k), .val (.int ch), .unset] [(.int k)])) _
    refine XS.iconst X0.here hx rfl (hb hby d13_7) ?_
    show Steps p.tables e below (s₁.setTop (mkF m 8 #[.val (.int k), .val (.int ch), .unset] [(.int (1 : Int32)), (.int k)])) _
    refine XS.icmpYes X0.here hx rfl (pc0 := 8) (pc' := 22) rfl (hb hby d13_8) rfl (feq (hc8 : ¬ (k = (1 : Int32)))).2 (by decide) (by decide) ?_
    show Steps p.tables e below (s₁.setTop (mkF m 22 #[.val (.int k), .val (.int ch), .unset] [])) _
    refine XS.iloadN X0.here hx rfl (hb hby d13_22) rfl ?_
    show Steps p.tables e below (s₁.setTop (mkF m 23 #[.val (.int k), .val (.int ch), .unset] [(.int k)])) _
    refine XS.iconst X0.here hx rfl (hb hby d13_23) ?_
    show Steps p.tables e below (s₁.setTop (mkF m 24 #[.val (.int k), .val (.int ch), .unset] [(.int (2 : Int32)), (.int k)])) _
    refine XS.icmpNo X0.here hx rfl (hb hby d13_24) rfl (teq (hc24 : k = (2 : Int32))).2 ?_
    show Steps p.tables e below (s₁.setTop (mkF m 27 #[.val (.int k), .val (.int ch), .unset] [])) _
    refine XS.iloadN X0.here hx rfl (hb hby d13_27) rfl ?_
    show Steps p.tables e below (s₁.setTop (mkF m 28 #[.val (.int k), .val (.int ch), .unset] [(.int ch)])) _
    refine XS.sipush X0.here hx rfl (hb hby d13_28) ?_
    show Steps p.tables e below (s₁.setTop (mkF m 31 #[.val (.int k), .val (.int ch), .unset] [(.int (255 : Int32)), (.int ch)])) _
    refine XS.iand X0.here hx rfl (hb hby d13_31) rfl ?_
    show Steps p.tables e below (s₁.setTop (mkF m 32 #[.val (.int k), .val (.int ch), .unset] [(.int (ch &&& (255 : Int32)))])) _
    refine XS.i2c X0.here hx rfl (hb hby d13_32) rfl ?_
    show Steps p.tables e below (s₁.setTop (mkF m 33 #[.val (.int k), .val (.int ch), .unset] [(.int ((ch &&& (255 : Int32)).toUInt32.toUInt16.toUInt32.toInt32))])) _
    refine st1 _ ?_
    show Steps p.tables e below (T1.setTop (mkF m 36 #[.val (.int k), .val (.int ch), .unset] [(.ref r_1)])) _
    jvm_step X1.here [X1.here.top, hx, (hb hby d13_36), X1.method', Bd.returns, Value.isRef, FieldType.isReference]
    first | (intro acts; rw [hr _ acts rfl rfl rfl]) | rw [hr _ _ rfl rfl rfl]
    exact Steps.refl _
  · show Q_drawS Z k ch cs h0 n0 _ T1.heap _
    exact ⟨r_1, rfl, N1, K1, Po1_0⟩
  · show CHr Z own_EL s.vm s.heap T1.vm T1.heap
    rw [hh]; exact CE
theorem d13_37 : decode method_2_code 37 = .ok (.iconst 2, 1) := by decide +kernel
theorem d13_38 : decode method_2_code 38 = .ok (.newarray .char, 2) := by decide +kernel
theorem d13_40 : decode method_2_code 40 = .ok (.astore_n 2, 1) := by decide +kernel
theorem d13_41 : decode method_2_code 41 = .ok (.aload_n 2, 1) := by decide +kernel
theorem d13_42 : decode method_2_code 42 = .ok (.iconst 0, 1) := by decide +kernel
theorem d13_43 : decode method_2_code 43 = .ok (.iload_n 1, 1) := by decide +kernel
theorem d13_44 : decode method_2_code 44 = .ok (.sipush 255, 3) := by decide +kernel
theorem d13_47 : decode method_2_code 47 = .ok (.iand, 1) := by decide +kernel
theorem d13_48 : decode method_2_code 48 = .ok (.i2c, 1) := by decide +kernel
theorem d13_49 : decode method_2_code 49 = .ok (.castore, 1) := by decide +kernel
theorem d13_50 : decode method_2_code 50 = .ok (.aload_n 2, 1) := by decide +kernel
theorem d13_51 : decode method_2_code 51 = .ok (.iconst 1, 1) := by decide +kernel
theorem d13_52 : decode method_2_code 52 = .ok (.iload_n 1, 1) := by decide +kernel
theorem d13_53 : decode method_2_code 53 = .ok (.bipush 8, 2) := by decide +kernel
theorem d13_55 : decode method_2_code 55 = .ok (.iushr, 1) := by decide +kernel
theorem d13_56 : decode method_2_code 56 = .ok (.sipush 255, 3) := by decide +kernel
theorem d13_59 : decode method_2_code 59 = .ok (.iand, 1) := by decide +kernel
theorem d13_60 : decode method_2_code 60 = .ok (.i2c, 1) := by decide +kernel
theorem d13_61 : decode method_2_code 61 = .ok (.castore, 1) := by decide +kernel
theorem d13_62 : decode method_2_code 62 = .ok (.new 7, 3) := by decide +kernel
theorem d13_65 : decode method_2_code 65 = .ok (.dup, 1) := by decide +kernel
theorem d13_66 : decode method_2_code 66 = .ok (.aload_n 2, 1) := by decide +kernel
theorem d13_67 : decode method_2_code 67 = .ok (.invokespecial 9, 3) := by decide +kernel
theorem d13_70 : decode method_2_code 70 = .ok (.areturn, 1) := by decide +kernel
set_option maxRecDepth 65536 in
set_option maxHeartbeats 40000000 in
theorem drawS_3 (l : Launch) (Z : State) (a0 : Array Value) (hw : ∀ d ∈ tables_1, d.before a0 Z = true) (ws : List Jvm.Cond) (k : Int32) (ch : Int32) (cs : Int32) (h0 : Heap) (n0 : Nat) (O0 : Old Z n0 h0) (G0 : Sta Z Z.heap "java/lang/String" "COMPACT_STRINGS" "Z" (.int cs)) (hcs : ¬ (cs = (0 : Int32))) (hk0 : ¬ (k = (0 : Int32))) (hc1 : ¬ (k = (0 : Int32))) (hc8 : ¬ (k = (1 : Int32))) (hc24 : ¬ (k = (2 : Int32))) :
    MetFree l (⟨"com/example/knooppunt/knooppunt/reader/RouteLinePinLaw", "draw", "(II)Ljava/lang/String;"⟩ : MethodName) (head1 (Jvm.Cond.code (⟨"com/example/knooppunt/knooppunt/reader/RouteLinePinLaw", "draw", "(II)Ljava/lang/String;"⟩ : MethodName) method_2_code 3 (some (.object "java/lang/String")) :: ws) ({ frames := 4, cells := 6, slots := 12, locals := 66 } : Room)) (fun zA zU => zA = #[(.int k), (.int ch)] ∧ Z.Warmed39 zU.vm ∧ zU.heap = h0 ∧ CHv Z own_EL zU.vm h0 ∧ ∀ x ∈ ([] : List Addr), Safe Z own_EL zU.vm h0 x) (fun _ _ _ _ _ => True) (fun _ zU zo zU' => ∃ zv zL, zo = .returned zv ∧ Q_drawS Z k ch cs h0 n0 zv zU'.heap zL ∧ CHr Z own_EL zU.vm zU.heap zU'.vm zU'.heap ∧ ReturnedEndW zU zo zU' zL ({ frames := 4, cells := 6, slots := 12, locals := 66 } : Room).cells ({ frames := 4, cells := 6, slots := 12, locals := 66 } : Room).slots) := by
  refine MetFree.of_bodySF (plainFor_of_name pn_14) hisR ?_
  intro p e s m args below meth c s₁ Bd hml0 hP hK
  obtain ⟨rfl, hZ, hh, HC, HS⟩ := hP
  have hx := Bd.exec
  have hby := Bd.bytes
  have hml : c.maxLocals = 3 := hml0
  have hown : s.vm.findClass "com/example/knooppunt/knooppunt/reader/RouteLinePinLaw" = some m.cls := findClass_of_methodNamed Bd.named
  have hnm := (name_of_methodNamed Bd.named Bd.method).1
  have X0 : Stand p l e ({ frames := 4, cells := 6, slots := 12, locals := 66 } : Room) (s.setVm s.vm) m #[(.int k), (.int ch)] below meth c s₁ [] 0 0 := Stand.of_body Bd
  have e0 : s₁.heap = h0 := by rw [← hh, Bd.state]; rfl
  have N0 := Fr.nil n0
  have Z0 : n0 ≤ h0.size := O0.1 ▸ O0.2.1
  have pre0 : ∀ zt, Steps p.tables e below (s₁.setTop (mkF m 0 #[.val (.int k), .val (.int ch), .unset] [])) zt → Steps p.tables e below (s₁.setTop (entryFrame m #[(.int k), (.int ch)] 3)) zt := fun zt zk => castTop (ef_13_II m k ch) zk
  have hEL := own_EW hw
  have wS := own_wS hw
  have hS0 : s.Since s.vm 0 := (State.WarmedH.refl s).since 0
  have CR0 : CHr Z own_EL s.vm h0 s.vm h0 := CHr.refl HC
  have hZ0 := hZ
  have hown0 := hown
  obtain ⟨T1, h1, k1, X1, e1, E1, A1, st1⟩ := newP X0 hx hZ (hw _ (List.mem_of_getElem? (i := 72) rfl)) e0 (g := (mkF m 38 #[.val (.int k), .val (.int ch), .unset] [(.int (2 : Int32))])) rfl (hb hby d13_38) rfl (by decide) (cap := 2) (by decide) (by decide) (by decide) (by decide)
  obtain ⟨b1, gz1⟩ : ∃ z, z = h0.size := ⟨_, rfl⟩
  rw [← gz1] at A1 st1
  have sz_b1 : h0.size ≤ b1 := Nat.le_trans (Keep.refl h0 []).1 (Nat.le_of_eq gz1.symm)
  have g_b1 : n0 ≤ b1 := Nat.le_trans Z0 sz_b1
  have O1 := O0.ext E1
  have K1 : Keep h0 h1 [] := (Keep.refl h0 []).ext E1
  have CR1 := CR0.trans (CHr.ext E1 CR0.1)
  have V1 : Arv Z h1 b1 k1 .char (2 : Int32) [(.int (0 : Int32)), (.int (0 : Int32))] (.int (0 : Int32)) := (Arv.new A1 (by decide)).pad (pad_rep [] (.int (0 : Int32)) 2)
  obtain ⟨cl2, Ar2, q2, Sz2, Ng2, Hs2, Gs2⟩ := (id V1)
  have hin2 : ¬ ((0 : Int32) < 0 ∨ cl2.slots.size ≤ ((0 : Int32)).toNatClampNeg) := inb_of Sz2 ⟨by decide, by decide⟩
  obtain ⟨T2, h2, X2, e2, W2, st2⟩ := stC X1 hx hZ e1 Ar2 (j := (0 : Int32)) hin2 (g := (mkF m 49 #[.val (.int k), .val (.int ch), .val (.ref b1)] [(.int ((ch &&& (255 : Int32)).toUInt32.toUInt16.toUInt32.toInt32)), (.int (0 : Int32)), (.ref b1)])) rfl rfl (hb hby d13_49)
  have V2 := Arv.set Ar2 q2 Sz2 Ng2 Hs2 Gs2 (fits_nar_char _) W2 0 rfl (Nat.le_of_ble_eq_true rfl)
  have Sw2 : Safe Z own_EL s.vm h1 b1 := (own_safe_arv hZ.alike V1 (by decide))
  have O2 := O1.wr W2 g_b1
  have K2 : Keep h0 h2 [] := K1.wr W2 (Or.inr sz_b1)
  have N2 := Fr.snoc X2 N0 g_b1
  have CR2 := CR1.trans (CHr.wr W2 Sw2 CR1.1)
  have V2 : Arv Z h2 b1 k1 .char (2 : Int32) [(.int (((ch &&& (255 : Int32)).toUInt32.toUInt16.toUInt32.toInt32).toUInt32.toUInt16.toUInt32.toInt32)), (.int (0 : Int32))] (.int (0 : Int32)) := V2
  obtain ⟨cl3, Ar3, q3, Sz3, Ng3, Hs3, Gs3⟩ := (id V2)
  have hin3 : ¬ ((1 : Int32) < 0 ∨ cl3.slots.size ≤ ((1 : Int32)).toNatClampNeg) := inb_of Sz3 ⟨by decide, by decide⟩
  obtain ⟨T3, h3, X3, e3, W3, st3⟩ := stC X2 hx hZ e2 Ar3 (j := (1 : Int32)) hin3 (g := (mkF m 61 #[.val (.int k), .val (.int ch), .val (.ref b1)] [(.int ((((ch.toUInt32 >>> ((8 : Int32) &&& 31).toUInt32).toInt32) &&& (255 : Int32)).toUInt32.toUInt16.toUInt32.toInt32)), (.int (1 : Int32)), (.ref b1)])) rfl rfl (hb hby d13_61)
  have V3 := Arv.set Ar3 q3 Sz3 Ng3 Hs3 Gs3 (fits_nar_char _) W3 1 rfl (Nat.le_of_ble_eq_true rfl)
  have Sw3 : Safe Z own_EL s.vm h2 b1 := (own_safe_arv hZ.alike V2 (by decide))
  have O3 := O2.wr W3 g_b1
  have K3 : Keep h0 h3 [] := K2.wr W3 (Or.inr sz_b1)
  have N3 := Fr.snoc X3 N2 g_b1
  have CR3 := CR2.trans (CHr.wr W3 Sw3 CR2.1)
  have V3 : Arv Z h3 b1 k1 .char (2 : Int32) [(.int (((ch &&& (255 : Int32)).toUInt32.toUInt16.toUInt32.toInt32).toUInt32.toUInt16.toUInt32.toInt32)), (.int (((((ch.toUInt32 >>> ((8 : Int32) &&& 31).toUInt32).toInt32) &&& (255 : Int32)).toUInt32.toUInt16.toUInt32.toInt32).toUInt32.toUInt16.toUInt32.toInt32))] (.int (0 : Int32)) := V3
  obtain ⟨T4, h4, X4, e4, E4, A4, D4, U4, st4⟩ := newO X3 hx hZ hown (hw _ (List.mem_of_getElem? (i := 73) rfl)) (hw _ (List.mem_of_getElem? (i := 9) rfl)) (hw _ (List.mem_of_getElem? (i := 8) rfl)) e3 (g := (mkF m 62 #[.val (.int k), .val (.int ch), .val (.ref b1)] [])) rfl (hb hby d13_62) (by decide) (by decide)
  obtain ⟨b4, gz4⟩ : ∃ z, z = h3.size := ⟨_, rfl⟩
  rw [← gz4] at A4 D4 U4 st4
  have sz_b4 : h0.size ≤ b4 := Nat.le_trans K3.1 (Nat.le_of_eq gz4.symm)
  have g_b4 : n0 ≤ b4 := Nat.le_trans Z0 sz_b4
  have O4 := O3.ext E4
  have K4 : Keep h0 h4 [] := K3.ext E4
  have CR4 := CR3.trans (CHr.ext E4 CR3.1)
  have Sn4 : Safe Z own_EL s.vm h4 b4 := Safe.ext E4 CR3.1 (Safe.new (Nat.le_of_eq gz4.symm))
  have Fi4_11 : Fld Z h4 b4 "java/lang/String" "value" "[B" .null := D4 (Or.inr (hw _ (List.mem_of_getElem? (i := 11) rfl))) (ty := (.array .byte)) (by decide)
  have Fi4_12 : Fld Z h4 b4 "java/lang/String" "coder" "B" (.int (0 : Int32)) := D4 (Or.inr (hw _ (List.mem_of_getElem? (i := 12) rfl))) (ty := .byte) (by decide)
  obtain ⟨_, _, ⟨T5, L5, k5, n5⟩, -, X5, ⟨Lc5, hQ5, l5, y5, z5⟩, st5⟩ := X4.specialBack hx (y := (⟨"java/lang/String", "<init>", "([C)V"⟩ : MethodName)) rfl hown (mvT hZ (hw _ (List.mem_of_getElem? (i := 74) rfl))) (mvT hZ (hw _ (List.mem_of_getElem? (i := 75) rfl))) (mvT hZ (hw _ (List.mem_of_getElem? (i := 76) rfl))) (by decide) (backOf (W := 1) (si2 l Z a0 hw [] b4 b1 k1 (((ch &&& (255 : Int32)).toUInt32.toUInt16.toUInt32.toInt32).toUInt32.toUInt16.toUInt32.toInt32) (((((ch.toUInt32 >>> ((8 : Int32) &&& 31).toUInt32).toInt32) &&& (255 : Int32)).toUInt32.toUInt16.toUInt32.toInt32).toUInt32.toUInt16.toUInt32.toInt32) cs h4 n0 O4 G0 A4 Fi4_11 Fi4_12 (V3.ext E4) g_b4 hcs (own_q2 ch) (own_q2 ((ch.toUInt32 >>> ((8 : Int32) &&& 31).toUInt32).toInt32))) hZ (hw _ (List.mem_of_getElem? (i := 76) rfl)) (hw _ (List.mem_of_getElem? (i := 8) rfl)) (by decide) (by decide)) (g := (mkF m 67 #[.val (.int k), .val (.int ch), .val (.ref b1)] [(.ref b1), (.ref b4), (.ref b4)])) rfl (by rw [hml]; rfl) (Steps.refl _) (a := b4) (argsL := [(.ref b1)]) (rest := [(.ref b4)]) (lenOf pd_7 rfl) rfl (by show 2 * 0 + _ ≤ _; exact Nat.le_of_eq rfl) (hb hby d13_67) (fun _ _ => ⟨rfl, e4, (by decide : 2 + 1 ≤ _), (by decide : 6 + 2 ≤ _)⟩)
  dsimp only [Pt.U, Pt.locs, Pt.cells, Pt.slots] at X5 l5 y5 z5 st5 hQ5
  subst l5 y5 z5
  obtain ⟨rfl, Nq5, kh5, Po5_0⟩ := hQ5
  have N5 := Fr.app N3 Nq5
  have O5 := O4.keep kh5 (allS g_b4 all0)
  have K5 : Keep h0 T5.heap [] := K4.trans kh5 (allS (Or.inr sz_b4) all0)
  have hs5 : ∀ x ∈ ([b4] : List Addr), Safe Z own_EL s.vm h4 x := (allS Sn4 all0)
  have CR5 := CR4.trans (CHr.keep kh5 hs5 CR4.1)
  have Sy5_b4 := Safe.keep kh5 hs5 CR4.1 Sn4
  obtain ⟨fs, hr, hrun, hended, hRW⟩ := X5.leaveW (s := s) hS0 (own_hk rfl (Nat.le_trans (Nat.le_trans (Nat.le_trans (Nat.le_trans (Nat.le_trans (Nat.zero_le _) E1.1) (Keep.of_wr W2).1) (Keep.of_wr W3).1) E4.1) kh5.1)) (v := some (.ref b4)) (fun h => by rw [Bd.returns] at h; cases h)
  have CE := CR5.trans (CHv.at (s := s) (vm0 := s.vm) X5 hZ hEL CR5.1)
  refine ⟨_, _, pre0 _ ?_, hrun, hended, _, _, rfl, ?_, ?_, own_rw_mono hRW (by decide) (by decide)⟩
  · show Steps p.tables e below (s₁.setTop (mkF m 0 #[.val (.int k), .val (.int ch), .unset] [])) _
    refine XS.iloadN X0.here hx rfl (hb hby d13_0) rfl ?_
    show Steps p.tables e below (s₁.setTop (mkF m 1 #[.val (.int k), .val (.int ch), .unset] [(.int k)])) _
    refine XS.ifYes X0.here hx rfl (pc0 := 1) (pc' := 6) rfl (hb hby d13_1) rfl ((if0 _ _).trans (feq (hc1 : ¬ (k = (0 : Int32)))).2) (by decide) (by decide) ?_
    show Steps p.tables e below (s₁.setTop (mkF m 6 #[.val (.int k), .val (.int ch), .unset] [])) _
    refine XS.iloadN X0.here hx rfl (hb hby d13_6) rfl ?_
    show Steps p.tables e below (s₁.setTop (mkF m 7 #[.val (.int k), .val (.int ch), .unset] [(.int k)])) _
    refine XS.iconst X0.here hx rfl (hb hby d13_7) ?_
    show Steps p.tables e below (s₁.setTop (mkF m 8 #[.val (.int k), .val (.int ch), .unset] [(.int (1 : Int32)), (.int k)])) _
    refine XS.icmpYes X0.here hx rfl (pc0 := 8) (pc' := 22) rfl (hb hby d13_8) rfl (feq (hc8 : ¬ (k = (1 : Int32)))).2 (by decide) (by decide) ?_
    show Steps p.tables e below (s₁.setTop (mkF m 22 #[.val (.int k), .val (.int ch), .unset] [])) _
    refine XS.iloadN X0.here hx rfl (hb hby d13_22) rfl ?_
    show Steps p.tables e below (s₁.setTop (mkF m 23 #[.val (.int k), .val (.int ch), .unset] [(.int k)])) _
    refine XS.iconst X0.here hx rfl (hb hby d13_23) ?_
    show Steps p.tables e below (s₁.setTop (mkF m 24 #[.val (.int k), .val (.int ch), .unset] [(.int (2 : Int32)), (.int k)])) _
    refine XS.icmpYes X0.here hx rfl (pc0 := 24) (pc' := 37) rfl (hb hby d13_24) rfl (feq (hc24 : ¬ (k = (2 : Int32)))).2 (by decide) (by decide) ?_
    show Steps p.tables e below (s₁.setTop (mkF m 37 #[.val (.int k), .val (.int ch), .unset] [])) _
    refine XS.iconst X0.here hx rfl (hb hby d13_37) ?_
    show Steps p.tables e below (s₁.setTop (mkF m 38 #[.val (.int k), .val (.int ch), .unset] [(.int (2 : Int32))])) _
    refine st1 _ ?_
    show Steps p.tables e below (T1.setTop (mkF m 40 #[.val (.int k), .val (.int ch), .unset] [(.ref b1)])) _
    refine XS.astoreN X1.here hx rfl (hb hby d13_40) rfl rfl (l' := #[.val (.int k), .val (.int ch), .val (.ref b1)]) rfl ?_
    show Steps p.tables e below (T1.setTop (mkF m 41 #[.val (.int k), .val (.int ch), .val (.ref b1)] [])) _
    refine XS.aloadN X1.here hx rfl (hb hby d13_41) rfl rfl ?_
    show Steps p.tables e below (T1.setTop (mkF m 42 #[.val (.int k), .val (.int ch), .val (.ref b1)] [(.ref b1)])) _
    refine XS.iconst X1.here hx rfl (hb hby d13_42) ?_
    show Steps p.tables e below (T1.setTop (mkF m 43 #[.val (.int k), .val (.int ch), .val (.ref b1)] [(.int (0 : Int32)), (.ref b1)])) _
    refine XS.iloadN X1.here hx rfl (hb hby d13_43) rfl ?_
    show Steps p.tables e below (T1.setTop (mkF m 44 #[.val (.int k), .val (.int ch), .val (.ref b1)] [(.int ch), (.int (0 : Int32)), (.ref b1)])) _
    refine XS.sipush X1.here hx rfl (hb hby d13_44) ?_
    show Steps p.tables e below (T1.setTop (mkF m 47 #[.val (.int k), .val (.int ch), .val (.ref b1)] [(.int (255 : Int32)), (.int ch), (.int (0 : Int32)), (.ref b1)])) _
    refine XS.iand X1.here hx rfl (hb hby d13_47) rfl ?_
    show Steps p.tables e below (T1.setTop (mkF m 48 #[.val (.int k), .val (.int ch), .val (.ref b1)] [(.int (ch &&& (255 : Int32))), (.int (0 : Int32)), (.ref b1)])) _
    refine XS.i2c X1.here hx rfl (hb hby d13_48) rfl ?_
    show Steps p.tables e below (T1.setTop (mkF m 49 #[.val (.int k), .val (.int ch), .val (.ref b1)] [(.int ((ch &&& (255 : Int32)).toUInt32.toUInt16.toUInt32.toInt32)), (.int (0 : Int32)), (.ref b1)])) _
    refine st2 _ ?_
    show Steps p.tables e below (T2.setTop (mkF m 50 #[.val (.int k), .val (.int ch), .val (.ref b1)] [])) _
    refine XS.aloadN X2.here hx rfl (hb hby d13_50) rfl rfl ?_
    show Steps p.tables e below (T2.setTop (mkF m 51 #[.val (.int k), .val (.int ch), .val (.ref b1)] [(.ref b1)])) _
    refine XS.iconst X2.here hx rfl (hb hby d13_51) ?_
    show Steps p.tables e below (T2.setTop (mkF m 52 #[.val (.int k), .val (.int ch), .val (.ref b1)] [(.int (1 : Int32)), (.ref b1)])) _
    refine XS.iloadN X2.here hx rfl (hb hby d13_52) rfl ?_
    show Steps p.tables e below (T2.setTop (mkF m 53 #[.val (.int k), .val (.int ch), .val (.ref b1)] [(.int ch), (.int (1 : Int32)), (.ref b1)])) _
    refine XS.bipush X2.here hx rfl (hb hby d13_53) ?_
    show Steps p.tables e below (T2.setTop (mkF m 55 #[.val (.int k), .val (.int ch), .val (.ref b1)] [(.int (8 : Int32)), (.int ch), (.int (1 : Int32)), (.ref b1)])) _
    refine XS.iushr X2.here hx rfl (hb hby d13_55) rfl ?_
    show Steps p.tables e below (T2.setTop (mkF m 56 #[.val (.int k), .val (.int ch), .val (.ref b1)] [(.int ((ch.toUInt32 >>> ((8 : Int32) &&& 31).toUInt32).toInt32)), (.int (1 : Int32)), (.ref b1)])) _
    refine XS.sipush X2.here hx rfl (hb hby d13_56) ?_
    show Steps p.tables e below (T2.setTop (mkF m 59 #[.val (.int k), .val (.int ch), .val (.ref b1)] [(.int (255 : Int32)), (.int ((ch.toUInt32 >>> ((8 : Int32) &&& 31).toUInt32).toInt32)), (.int (1 : Int32)), (.ref b1)])) _
    refine XS.iand X2.here hx rfl (hb hby d13_59) rfl ?_
    show Steps p.tables e below (T2.setTop (mkF m 60 #[.val (.int k), .val (.int ch), .val (.ref b1)] [(.int (((ch.toUInt32 >>> ((8 : Int32) &&& 31).toUInt32).toInt32) &&& (255 : Int32))), (.int (1 : Int32)), (.ref b1)])) _
    refine XS.i2c X2.here hx rfl (hb hby d13_60) rfl ?_
    show Steps p.tables e below (T2.setTop (mkF m 61 #[.val (.int k), .val (.int ch), .val (.ref b1)] [(.int ((((ch.toUInt32 >>> ((8 : Int32) &&& 31).toUInt32).toInt32) &&& (255 : Int32)).toUInt32.toUInt16.toUInt32.toInt32)), (.int (1 : Int32)), (.ref b1)])) _
    refine st3 _ ?_
    show Steps p.tables e below (T3.setTop (mkF m 62 #[.val (.int k), .val (.int ch), .val (.ref b1)] [])) _
    refine st4 _ ?_
    show Steps p.tables e below (T4.setTop (mkF m 65 #[.val (.int k), .val (.int ch), .val (.ref b1)] [(.ref b4)])) _
    refine XS.dup X4.here hx rfl (hb hby d13_65) rfl rfl ?_
    show Steps p.tables e below (T4.setTop (mkF m 66 #[.val (.int k), .val (.int ch), .val (.ref b1)] [(.ref b4), (.ref b4)])) _
    refine XS.aloadN X4.here hx rfl (hb hby d13_66) rfl rfl ?_
    show Steps p.tables e below (T4.setTop (mkF m 67 #[.val (.int k), .val (.int ch), .val (.ref b1)] [(.ref b1), (.ref b4), (.ref b4)])) _
    refine st5.trans ?_
    show Steps p.tables e below (T5.setTop (mkF m 70 #[.val (.int k), .val (.int ch), .val (.ref b1)] [(.ref b4)])) _
    jvm_step X5.here [X5.here.top, hx, (hb hby d13_70), X5.method', Bd.returns, Value.isRef, FieldType.isReference]
    first | (intro acts; rw [hr _ acts rfl rfl rfl]) | rw [hr _ _ rfl rfl rfl]
    exact Steps.refl _
  · show Q_drawS Z k ch cs h0 n0 _ T5.heap _
    exact ⟨b4, rfl, N5, K5, Po5_0⟩
  · show CHr Z own_EL s.vm s.heap T5.vm T5.heap
    rw [hh]; exact CE
set_option maxRecDepth 65536 in
set_option maxHeartbeats 40000000 in
theorem drawS (l : Launch) (Z : State) (a0 : Array Value) (hw : ∀ d ∈ tables_1, d.before a0 Z = true) (ws : List Jvm.Cond) (k : Int32) (ch : Int32) (cs : Int32) (h0 : Heap) (n0 : Nat) (O0 : Old Z n0 h0) (G0 : Sta Z Z.heap "java/lang/String" "COMPACT_STRINGS" "Z" (.int cs)) (hcs : ¬ (cs = (0 : Int32))) (hk0 : ¬ (k = (0 : Int32))) :
    MetFree l (⟨"com/example/knooppunt/knooppunt/reader/RouteLinePinLaw", "draw", "(II)Ljava/lang/String;"⟩ : MethodName) (head1 (Jvm.Cond.code (⟨"com/example/knooppunt/knooppunt/reader/RouteLinePinLaw", "draw", "(II)Ljava/lang/String;"⟩ : MethodName) method_2_code 3 (some (.object "java/lang/String")) :: ws) ({ frames := 4, cells := 6, slots := 12, locals := 66 } : Room)) (fun zA zU => zA = #[(.int k), (.int ch)] ∧ Z.Warmed39 zU.vm ∧ zU.heap = h0 ∧ CHv Z own_EL zU.vm h0 ∧ ∀ x ∈ ([] : List Addr), Safe Z own_EL zU.vm h0 x) (fun _ _ _ _ _ => True) (fun _ zU zo zU' => ∃ zv zL, zo = .returned zv ∧ Q_drawS Z k ch cs h0 n0 zv zU'.heap zL ∧ CHr Z own_EL zU.vm zU.heap zU'.vm zU'.heap ∧ ReturnedEndW zU zo zU' zL ({ frames := 4, cells := 6, slots := 12, locals := 66 } : Room).cells ({ frames := 4, cells := 6, slots := 12, locals := 66 } : Room).slots) := by
  by_cases h1 : k = (1 : Int32)
  · exact drawS_1 l Z a0 hw ws k ch cs h0 n0 O0 G0 hcs hk0 hk0 h1
  · by_cases h2 : k = (2 : Int32)
    · exact drawS_2 l Z a0 hw ws k ch cs h0 n0 O0 G0 hcs hk0 hk0 h1 h2
    · exact drawS_3 l Z a0 hw ws k ch cs h0 n0 O0 G0 hcs hk0 hk0 h1 h2
def Q_drawG (Z : State) (k : Int32) (ch : Int32) (cs : Int32) (h0 : Heap) (n0 : Nat) (v : Option Value) (h : Heap) (L : List Loc) : Prop := ∃ v0 : Value, v = some v0 ∧ Fr n0 L ∧ Keep h0 h [] ∧ v0.isRef = true
set_option maxRecDepth 65536 in
set_option maxHeartbeats 40000000 in
theorem drawG_0 (l : Launch) (Z : State) (a0 : Array Value) (hw : ∀ d ∈ tables_1, d.before a0 Z = true) (ws : List Jvm.Cond) (k : Int32) (ch : Int32) (cs : Int32) (h0 : Heap) (n0 : Nat) (O0 : Old Z n0 h0) (G0 : Sta Z Z.heap "java/lang/String" "COMPACT_STRINGS" "Z" (.int cs)) (hcs : ¬ (cs = (0 : Int32))) (hc1 : k = (0 : Int32)) :
    MetFree l (⟨"com/example/knooppunt/knooppunt/reader/RouteLinePinLaw", "draw", "(II)Ljava/lang/String;"⟩ : MethodName) (head1 (Jvm.Cond.code (⟨"com/example/knooppunt/knooppunt/reader/RouteLinePinLaw", "draw", "(II)Ljava/lang/String;"⟩ : MethodName) method_2_code 3 (some (.object "java/lang/String")) :: ws) ({ frames := 4, cells := 6, slots := 12, locals := 66 } : Room)) (fun zA zU => zA = #[(.int k), (.int ch)] ∧ Z.Warmed39 zU.vm ∧ zU.heap = h0 ∧ CHv Z own_EL zU.vm h0 ∧ ∀ x ∈ ([] : List Addr), Safe Z own_EL zU.vm h0 x) (fun _ _ _ _ _ => True) (fun _ zU zo zU' => ∃ zv zL, zo = .returned zv ∧ Q_drawG Z k ch cs h0 n0 zv zU'.heap zL ∧ CHr Z own_EL zU.vm zU.heap zU'.vm zU'.heap ∧ ReturnedEndW zU zo zU' zL ({ frames := 4, cells := 6, slots := 12, locals := 66 } : Room).cells ({ frames := 4, cells := 6, slots := 12, locals := 66 } : Room).slots) := by
  refine MetFree.of_bodySF (plainFor_of_name pn_14) hisR ?_
  intro p e s m args below meth c s₁ Bd hml0 hP hK
  obtain ⟨rfl, hZ, hh, HC, HS⟩ := hP
  have hx := Bd.exec
  have hby := Bd.bytes
  have hml : c.maxLocals = 3 := hml0
  have hown : s.vm.findClass "com/example/knooppunt/knooppunt/reader/RouteLinePinLaw" = some m.cls := findClass_of_methodNamed Bd.named
  have hnm := (name_of_methodNamed Bd.named Bd.method).1
  have X0 : Stand p l e ({ frames := 4, cells := 6, slots := 12, locals := 66 } : Room) (s.setVm s.vm) m #[(.int k), (.int ch)] below meth c s₁ [] 0 0 := Stand.of_body Bd
  have e0 : s₁.heap = h0 := by rw [← hh, Bd.state]; rfl
  have N0 := Fr.nil n0
  have Z0 : n0 ≤ h0.size := O0.1 ▸ O0.2.1
  have pre0 : ∀ zt, Steps p.tables e below (s₁.setTop (mkF m 0 #[.val (.int k), .val (.int ch), .unset] [])) zt → Steps p.tables e below (s₁.setTop (entryFrame m #[(.int k), (.int ch)] 3)) zt := fun zt zk => castTop (ef_13_II m k ch) zk
  have hEL := own_EW hw
  have wS := own_wS hw
  have hS0 : s.Since s.vm 0 := (State.WarmedH.refl s).since 0
  have CR0 : CHr Z own_EL s.vm h0 s.vm h0 := CHr.refl HC
  have hZ0 := hZ
  have hown0 := hown
  obtain ⟨fs, hr, hrun, hended, hRW⟩ := X0.leaveW (s := s) hS0 (own_hk e0 (Nat.zero_le _)) (v := some .null) (fun h => by rw [Bd.returns] at h; cases h)
  have CE := CR0.trans (CHv.at (s := s) (vm0 := s.vm) X0 hZ hEL CR0.1)
  refine ⟨_, _, pre0 _ ?_, hrun, hended, _, _, rfl, ?_, ?_, own_rw_mono hRW (by decide) (by decide)⟩
  · show Steps p.tables e below (s₁.setTop (mkF m 0 #[.val (.int k), .val (.int ch), .unset] [])) _
    refine XS.iloadN X0.here hx rfl (hb hby d13_0) rfl ?_
    show Steps p.tables e below (s₁.setTop (mkF m 1 #[.val (.int k), .val (.int ch), .unset] [(.int k)])) _
    refine XS.ifNo X0.here hx rfl (hb hby d13_1) rfl ((if0 _ _).trans (teq (hc1 : k = (0 : Int32))).2) ?_
    show Steps p.tables e below (s₁.setTop (mkF m 4 #[.val (.int k), .val (.int ch), .unset] [])) _
    refine XS.aconstNull X0.here hx rfl (hb hby d13_4) ?_
    show Steps p.tables e below (s₁.setTop (mkF m 5 #[.val (.int k), .val (.int ch), .unset] [.null])) _
    jvm_step X0.here [X0.here.top, hx, (hb hby d13_5), X0.method', Bd.returns, Value.isRef, FieldType.isReference]
    first | (intro acts; rw [hr _ acts rfl rfl rfl]) | rw [hr _ _ rfl rfl rfl]
    exact Steps.refl _
  · show Q_drawG Z k ch cs h0 n0 _ s₁.heap _
    rw [e0]
    exact ⟨.null, rfl, N0, (Keep.refl h0 []), rfl⟩
  · show CHr Z own_EL s.vm s.heap s₁.vm s₁.heap
    rw [hh, e0]; exact CE
set_option maxRecDepth 65536 in
set_option maxHeartbeats 40000000 in
theorem drawG_1 (l : Launch) (Z : State) (a0 : Array Value) (hw : ∀ d ∈ tables_1, d.before a0 Z = true) (ws : List Jvm.Cond) (k : Int32) (ch : Int32) (cs : Int32) (h0 : Heap) (n0 : Nat) (O0 : Old Z n0 h0) (G0 : Sta Z Z.heap "java/lang/String" "COMPACT_STRINGS" "Z" (.int cs)) (hcs : ¬ (cs = (0 : Int32))) (hc1 : ¬ (k = (0 : Int32))) (hc8 : k = (1 : Int32)) :
    MetFree l (⟨"com/example/knooppunt/knooppunt/reader/RouteLinePinLaw", "draw", "(II)Ljava/lang/String;"⟩ : MethodName) (head1 (Jvm.Cond.code (⟨"com/example/knooppunt/knooppunt/reader/RouteLinePinLaw", "draw", "(II)Ljava/lang/String;"⟩ : MethodName) method_2_code 3 (some (.object "java/lang/String")) :: ws) ({ frames := 4, cells := 6, slots := 12, locals := 66 } : Room)) (fun zA zU => zA = #[(.int k), (.int ch)] ∧ Z.Warmed39 zU.vm ∧ zU.heap = h0 ∧ CHv Z own_EL zU.vm h0 ∧ ∀ x ∈ ([] : List Addr), Safe Z own_EL zU.vm h0 x) (fun _ _ _ _ _ => True) (fun _ zU zo zU' => ∃ zv zL, zo = .returned zv ∧ Q_drawG Z k ch cs h0 n0 zv zU'.heap zL ∧ CHr Z own_EL zU.vm zU.heap zU'.vm zU'.heap ∧ ReturnedEndW zU zo zU' zL ({ frames := 4, cells := 6, slots := 12, locals := 66 } : Room).cells ({ frames := 4, cells := 6, slots := 12, locals := 66 } : Room).slots) := by
  refine MetFree.of_bodySF (plainFor_of_name pn_14) hisR ?_
  intro p e s m args below meth c s₁ Bd hml0 hP hK
  obtain ⟨rfl, hZ, hh, HC, HS⟩ := hP
  have hx := Bd.exec
  have hby := Bd.bytes
  have hml : c.maxLocals = 3 := hml0
  have hown : s.vm.findClass "com/example/knooppunt/knooppunt/reader/RouteLinePinLaw" = some m.cls := findClass_of_methodNamed Bd.named
  have hnm := (name_of_methodNamed Bd.named Bd.method).1
  have X0 : Stand p l e ({ frames := 4, cells := 6, slots := 12, locals := 66 } : Room) (s.setVm s.vm) m #[(.int k), (.int ch)] below meth c s₁ [] 0 0 := Stand.of_body Bd
  have e0 : s₁.heap = h0 := by rw [← hh, Bd.state]; rfl
  have N0 := Fr.nil n0
  have Z0 : n0 ≤ h0.size := O0.1 ▸ O0.2.1
  have pre0 : ∀ zt, Steps p.tables e below (s₁.setTop (mkF m 0 #[.val (.int k), .val (.int ch), .unset] [])) zt → Steps p.tables e below (s₁.setTop (entryFrame m #[(.int k), (.int ch)] 3)) zt := fun zt zk => castTop (ef_13_II m k ch) zk
  have hEL := own_EW hw
  have wS := own_wS hw
  have hS0 : s.Since s.vm 0 := (State.WarmedH.refl s).since 0
  have CR0 : CHr Z own_EL s.vm h0 s.vm h0 := CHr.refl HC
  have hZ0 := hZ
  have hown0 := hown
  obtain ⟨T1, h1, X1, e1, E1, A1, D1, U1, st1⟩ := newO X0 hx hZ hown (hw _ (List.mem_of_getElem? (i := 73) rfl)) (hw _ (List.mem_of_getElem? (i := 9) rfl)) (hw _ (List.mem_of_getElem? (i := 8) rfl)) e0 (g := (mkF m 11 #[.val (.int k), .val (.int ch), .unset] [])) rfl (hb hby d13_11) (by decide) (by decide)
  obtain ⟨b1, gz1⟩ : ∃ z, z = h0.size := ⟨_, rfl⟩
  rw [← gz1] at A1 D1 U1 st1
  have sz_b1 : h0.size ≤ b1 := Nat.le_trans (Keep.refl h0 []).1 (Nat.le_of_eq gz1.symm)
  have g_b1 : n0 ≤ b1 := Nat.le_trans Z0 sz_b1
  have O1 := O0.ext E1
  have K1 : Keep h0 h1 [] := (Keep.refl h0 []).ext E1
  have CR1 := CR0.trans (CHr.ext E1 CR0.1)
  have Sn1 : Safe Z own_EL s.vm h1 b1 := Safe.ext E1 CR0.1 (Safe.new (Nat.le_of_eq gz1.symm))
  have Fi1_11 : Fld Z h1 b1 "java/lang/String" "value" "[B" .null := D1 (Or.inr (hw _ (List.mem_of_getElem? (i := 11) rfl))) (ty := (.array .byte)) (by decide)
  have Fi1_12 : Fld Z h1 b1 "java/lang/String" "coder" "B" (.int (0 : Int32)) := D1 (Or.inr (hw _ (List.mem_of_getElem? (i := 12) rfl))) (ty := .byte) (by decide)
  obtain ⟨T2, h2, k2, X2, e2, E2, A2, st2⟩ := newP X1 hx hZ (hw _ (List.mem_of_getElem? (i := 72) rfl)) e1 (g := (mkF m 16 #[.val (.int k), .val (.int ch), .unset] [(.int (0 : Int32)), (.ref b1), (.ref b1)])) rfl (hb hby d13_16) rfl (by decide) (cap := 0) (by decide) (by decide) (by decide) (by decide)
  obtain ⟨b2, gz2⟩ : ∃ z, z = h1.size := ⟨_, rfl⟩
  rw [← gz2] at A2 st2
  have sz_b2 : h0.size ≤ b2 := Nat.le_trans K1.1 (Nat.le_of_eq gz2.symm)
  have g_b2 : n0 ≤ b2 := Nat.le_trans Z0 sz_b2
  have O2 := O1.ext E2
  have K2 : Keep h0 h2 [] := K1.ext E2
  have CR2 := CR1.trans (CHr.ext E2 CR1.1)
  have Sy2_b1 := Safe.ext E2 CR1.1 Sn1
  have V2 : Arv Z h2 b2 k2 .char (0 : Int32) [] (.int (0 : Int32)) := (Arv.new A2 (by decide)).pad (pad_rep [] (.int (0 : Int32)) 0)
  obtain ⟨_, _, ⟨T3, L3, k3, n3⟩, -, Xr3, hSr3, hg3, ⟨Lc3, hQ3, l3, y3, z3, CL3⟩, st3⟩ := X2.specialBackS hx (y := (⟨"java/lang/String", "<init>", "([C)V"⟩ : MethodName)) rfl hown (mvT hZ (hw _ (List.mem_of_getElem? (i := 74) rfl))) (mvT hZ (hw _ (List.mem_of_getElem? (i := 75) rfl))) (mvT hZ (hw _ (List.mem_of_getElem? (i := 76) rfl))) (by decide) (own_backSH (s := s) (vm0 := s.vm) (W := 1) (si0 l Z a0 hw [] b1 b2 k2 h2 n0 O2 (A1.ext E2) (Fi1_11.ext E2) (Fi1_12.ext E2) V2 g_b1) hZ (hw _ (List.mem_of_getElem? (i := 76) rfl)) (hw _ (List.mem_of_getElem? (i := 8) rfl)) (by decide) (by decide) hEL CR2.1 (allS ⟨((A1.ext E2)).lt, Sy2_b1⟩ all0)) (g := (mkF m 18 #[.val (.int k), .val (.int ch), .unset] [(.ref b2), (.ref b1), (.ref b1)])) rfl (by rw [hml]; rfl) (Steps.refl _) (a := b1) (argsL := [(.ref b2)]) (rest := [(.ref b1)]) (lenOf pd_7 rfl) rfl (by show 2 * 0 + _ ≤ _; exact Nat.le_of_eq rfl) (hb hby d13_18) (fun _ _ => ⟨rfl, e2, (by decide : 2 + 4 ≤ _), (by decide : 4 + 8 ≤ _)⟩)
  dsimp only [Pt.U, Pt.locs, Pt.cells, Pt.slots] at Xr3 l3 y3 z3 st3 hQ3 hSr3 hg3 CL3
  subst l3 y3 z3
  obtain ⟨X3, hS3, hZ, hown⟩ := rebS (s := s) (vm0 := s.vm) hS0 (own_hk e2 (Nat.le_trans (Nat.le_trans (Nat.zero_le _) E1.1) E2.1)) Xr3 hSr3 hg3 hZ hown
  obtain ⟨rfl, Nq3, kh3, Po3_0⟩ := hQ3
  have N3 := Fr.app N0 Nq3
  have hZ3 := hZ
  have hown3 := hown
  have O3 := O2.keep kh3 (allS g_b1 all0)
  have K3 : Keep h0 T3.heap [] := K2.trans kh3 (allS (Or.inr sz_b1) all0)
  have CR3 := CR2.trans CL3
  have Sy3_b1 := CL3.safe ((A1.ext E2)).lt Sy2_b1
  obtain ⟨fs, hr, hrun, hended, hRW⟩ := X3.leaveW (s := s) hS3 (own_hk rfl (Nat.le_refl _)) (v := some (.ref b1)) (fun h => by rw [Bd.returns] at h; cases h)
  have CE := CR3.trans (CHv.at (s := s) (vm0 := T3.vm) X3 hZ hEL CR3.1)
  refine ⟨_, _, pre0 _ ?_, hrun, hended, _, _, rfl, ?_, ?_, own_rw_mono hRW (by decide) (by decide)⟩
  · show Steps p.tables e below (s₁.setTop (mkF m 0 #[.val (.int k), .val (.int ch), .unset] [])) _
    refine XS.iloadN X0.here hx rfl (hb hby d13_0) rfl ?_
    show Steps p.tables e below (s₁.setTop (mkF m 1 #[.val (.int k), .val (.int ch), .unset] [(.int k)])) _
    refine XS.ifYes X0.here hx rfl (pc0 := 1) (pc' := 6) rfl (hb hby d13_1) rfl ((if0 _ _).trans (feq (hc1 : ¬ (k = (0 : Int32)))).2) (by decide) (by decide) ?_
    show Steps p.tables e below (s₁.setTop (mkF m 6 #[.val (.int k), .val (.int ch), .unset] [])) _
    refine XS.iloadN X0.here hx rfl (hb hby d13_6) rfl ?_
    show Steps p.tables e below (s₁.setTop (mkF m 7 #[.val (.int k), .val (.int ch), .unset] [(.int k)])) _
    refine XS.iconst X0.here hx rfl (hb hby d13_7) ?_
    show Steps p.tables e below (s₁.setTop (mkF m 8 #[.val (.int k), .val (.int ch), .unset] [(.int (1 : Int32)), (.int k)])) _
    refine XS.icmpNo X0.here hx rfl (hb hby d13_8) rfl (teq (hc8 : k = (1 : Int32))).2 ?_
    show Steps p.tables e below (s₁.setTop (mkF m 11 #[.val (.int k), .val (.int ch), .unset] [])) _
    refine st1 _ ?_
    show Steps p.tables e below (T1.setTop (mkF m 14 #[.val (.int k), .val (.int ch), .unset] [(.ref b1)])) _
    refine XS.dup X1.here hx rfl (hb hby d13_14) rfl rfl ?_
    show Steps p.tables e below (T1.setTop (mkF m 15 #[.val (.int k), .val (.int ch), .unset] [(.ref b1), (.ref b1)])) _
    refine XS.iconst X1.here hx rfl (hb hby d13_15) ?_
    show Steps p.tables e below (T1.setTop (mkF m 16 #[.val (.int k), .val (.int ch), .unset] [(.int (0 : Int32)), (.ref b1), (.ref b1)])) _
    refine st2 _ ?_
    show Steps p.tables e below (T2.setTop (mkF m 18 #[.val (.int k), .val (.int ch), .unset] [(.ref b2), (.ref b1), (.ref b1)])) _
    refine st3.trans ?_
    show Steps p.tables e below (T3.setTop (mkF m 21 #[.val (.int k), .val (.int ch), .unset] [(.ref b1)])) _
    jvm_step X3.here [X3.here.top, hx, (hb hby d13_21), X3.method', Bd.returns, Value.isRef, FieldType.isReference]
    first | (intro acts; rw [hr _ acts rfl rfl rfl]) | rw [hr _ _ rfl rfl rfl]
    exact Steps.refl _
  · show Q_drawG Z k ch cs h0 n0 _ T3.heap _
    exact ⟨(.ref b1), rfl, N3, K3, rfl⟩
  · show CHr Z own_EL s.vm s.heap T3.vm T3.heap
    rw [hh]; exact CE
set_option maxRecDepth 65536 in
set_option maxHeartbeats 40000000 in
theorem drawG_2 (l : Launch) (Z : State) (a0 : Array Value) (hw : ∀ d ∈ tables_1, d.before a0 Z = true) (ws : List Jvm.Cond) (k : Int32) (ch : Int32) (cs : Int32) (h0 : Heap) (n0 : Nat) (O0 : Old Z n0 h0) (G0 : Sta Z Z.heap "java/lang/String" "COMPACT_STRINGS" "Z" (.int cs)) (hcs : ¬ (cs = (0 : Int32))) (hc1 : ¬ (k = (0 : Int32))) (hc8 : ¬ (k = (1 : Int32))) (hc24 : k = (2 : Int32)) :
    MetFree l (⟨"com/example/knooppunt/knooppunt/reader/RouteLinePinLaw", "draw", "(II)Ljava/lang/String;"⟩ : MethodName) (head1 (Jvm.Cond.code (⟨"com/example/knooppunt/knooppunt/reader/RouteLinePinLaw", "draw", "(II)Ljava/lang/String;"⟩ : MethodName) method_2_code 3 (some (.object "java/lang/String")) :: ws) ({ frames := 4, cells := 6, slots := 12, locals := 66 } : Room)) (fun zA zU => zA = #[(.int k), (.int ch)] ∧ Z.Warmed39 zU.vm ∧ zU.heap = h0 ∧ CHv Z own_EL zU.vm h0 ∧ ∀ x ∈ ([] : List Addr), Safe Z own_EL zU.vm h0 x) (fun _ _ _ _ _ => True) (fun _ zU zo zU' => ∃ zv zL, zo = .returned zv ∧ Q_drawG Z k ch cs h0 n0 zv zU'.heap zL ∧ CHr Z own_EL zU.vm zU.heap zU'.vm zU'.heap ∧ ReturnedEndW zU zo zU' zL ({ frames := 4, cells := 6, slots := 12, locals := 66 } : Room).cells ({ frames := 4, cells := 6, slots := 12, locals := 66 } : Room).slots) := by
  refine MetFree.of_bodySF (plainFor_of_name pn_14) hisR ?_
  intro p e s m args below meth c s₁ Bd hml0 hP hK
  obtain ⟨rfl, hZ, hh, HC, HS⟩ := hP
  have hx := Bd.exec
  have hby := Bd.bytes
  have hml : c.maxLocals = 3 := hml0
  have hown : s.vm.findClass "com/example/knooppunt/knooppunt/reader/RouteLinePinLaw" = some m.cls := findClass_of_methodNamed Bd.named
  have hnm := (name_of_methodNamed Bd.named Bd.method).1
  have X0 : Stand p l e ({ frames := 4, cells := 6, slots := 12, locals := 66 } : Room) (s.setVm s.vm) m #[(.int k), (.int ch)] below meth c s₁ [] 0 0 := Stand.of_body Bd
  have e0 : s₁.heap = h0 := by rw [← hh, Bd.state]; rfl
  have N0 := Fr.nil n0
  have Z0 : n0 ≤ h0.size := O0.1 ▸ O0.2.1
  have pre0 : ∀ zt, Steps p.tables e below (s₁.setTop (mkF m 0 #[.val (.int k), .val (.int ch), .unset] [])) zt → Steps p.tables e below (s₁.setTop (entryFrame m #[(.int k), (.int ch)] 3)) zt := fun zt zk => castTop (ef_13_II m k ch) zk
  have hEL := own_EW hw
  have wS := own_wS hw
  have hS0 : s.Since s.vm 0 := (State.WarmedH.refl s).since 0
  have CR0 : CHr Z own_EL s.vm h0 s.vm h0 := CHr.refl HC
  have hZ0 := hZ
  have hown0 := hown
  obtain ⟨_, _, ⟨T1, L1, k1, n1⟩, -, X1, ⟨Lc1, hQ1, l1, y1, z1⟩, st1⟩ := Jvm.LawKit.callS X0 hx (y := (⟨"java/lang/String", "valueOf", "(C)Ljava/lang/String;"⟩ : MethodName)) hown (mvT hZ (hw _ (List.mem_of_getElem? (i := 101) rfl))) (mvT hZ (hw _ (List.mem_of_getElem? (i := 102) rfl))) (mvT hZ (hw _ (List.mem_of_getElem? (i := 8) rfl))) (mvT hZ (hw _ (List.mem_of_getElem? (i := 103) rfl))) (by decide) (backOf (W := 0) (vOf l Z a0 hw [] ((ch &&& (255 : Int32)).toUInt32.toUInt16.toUInt32.toInt32) cs h0 n0 O0 G0 hcs (own_q1 ch)) hZ (hw _ (List.mem_of_getElem? (i := 103) rfl)) (hw _ (List.mem_of_getElem? (i := 8) rfl)) (by decide) (by decide)) (g := (mkF m 33 #[.val (.int k), .val (.int ch), .unset] [(.int ((ch &&& (255 : Int32)).toUInt32.toUInt16.toUInt32.toInt32))])) rfl (by rw [hml]; rfl) (argsL := [(.int ((ch &&& (255 : Int32)).toUInt32.toUInt16.toUInt32.toInt32))]) (rest := []) (lenOf pd_8 rfl) rfl (by show 2 * 0 + _ ≤ _; exact Nat.le_of_eq rfl) (hb hby d13_33) (fun _ _ => ⟨rfl, e0, (by decide : 0 + 2 ≤ _), (by decide : 0 + 5 ≤ _)⟩)
  dsimp only [Pt.U, Pt.locs, Pt.cells, Pt.slots] at X1 l1 y1 z1 st1 hQ1
  subst l1 y1 z1
  obtain ⟨r_1, rfl, Nq1, kh1, Po1_0⟩ := hQ1
  have N1 := Fr.app N0 Nq1
  have O1 := O0.keep kh1 all0
  have K1 : Keep h0 T1.heap [] := (Keep.refl h0 []).trans kh1 all0
  have hs1 : ∀ x ∈ ([] : List Addr), Safe Z own_EL s.vm h0 x := all0
  have CR1 := CR0.trans (CHr.keep kh1 hs1 CR0.1)
  obtain ⟨fs, hr, hrun, hended, hRW⟩ := X1.leaveW (s := s) hS0 (own_hk rfl (Nat.le_trans (Nat.zero_le _) kh1.1)) (v := some (.ref r_1)) (fun h => by rw [Bd.returns] at h; cases h)
  have CE := CR1.trans (CHv.at (s := s) (vm0 := s.vm) X1 hZ hEL CR1.1)
  refine ⟨_, _, pre0 _ ?_, hrun, hended, _, _, rfl, ?_, ?_, own_rw_mono hRW (by decide) (by decide)⟩
  · show Steps p.tables e below (s₁.setTop (mkF m 0 #[.val (.int k), .val (.int ch), .unset] [])) _
    refine XS.iloadN X0.here hx rfl (hb hby d13_0) rfl ?_
    show Steps p.tables e below (s₁.setTop (mkF m 1 #[.val (.int k), .val (.int ch), .unset] [(.int k)])) _
    refine XS.ifYes X0.here hx rfl (pc0 := 1) (pc' := 6) rfl (hb hby d13_1) rfl ((if0 _ _).trans (feq (hc1 : ¬ (k = (0 : Int32)))).2) (by decide) (by decide) ?_
    show Steps p.tables e below (s₁.setTop (mkF m 6 #[.val (.int k), .val (.int ch), .unset] [])) _
    refine XS.iloadN X0.here hx rfl (hb hby d13_6) rfl ?_
    show Steps p.tables e below (s₁.setTop (mkF m 7 #[.val (.int k), .val (.int ch), .unset] [(.int k)])) _
    refine XS.iconst X0.here hx rfl (hb hby d13_7) ?_
    show Steps p.tables e below (s₁.setTop (mkF m 8 #[.val (.int k), .val (.int ch), .unset] [(.int (1 : Int32)), (.int k)])) _
    refine XS.icmpYes X0.here hx rfl (pc0 := 8) (pc' := 22) rfl (hb hby d13_8) rfl (feq (hc8 : ¬ (k = (1 : Int32)))).2 (by decide) (by decide) ?_
    show Steps p.tables e below (s₁.setTop (mkF m 22 #[.val (.int k), .val (.int ch), .unset] [])) _
    refine XS.iloadN X0.here hx rfl (hb hby d13_22) rfl ?_
    show Steps p.tables e below (s₁.setTop (mkF m 23 #[.val (.int k), .val (.int ch), .unset] [(.int k)])) _
    refine XS.iconst X0.here hx rfl (hb hby d13_23) ?_
    show Steps p.tables e below (s₁.setTop (mkF m 24 #[.val (.int k), .val (.int ch), .unset] [(.int (2 : Int32)), (.int k)])) _
    refine XS.icmpNo X0.here hx rfl (hb hby d13_24) rfl (teq (hc24 : k = (2 : Int32))).2 ?_
    show Steps p.tables e below (s₁.setTop (mkF m 27 #[.val (.int k), .val (.int ch), .unset] [])) _
    refine XS.iloadN X0.here hx rfl (hb hby d13_27) rfl ?_
    show Steps p.tables e below (s₁.setTop (mkF m 28 #[.val (.int k), .val (.int ch), .unset] [(.int ch)])) _
    refine XS.sipush X0.here hx rfl (hb hby d13_28) ?_
    show Steps p.tables e below (s₁.setTop (mkF m 31 #[.val (.int k), .val (.int ch), .unset] [(.int (255 : Int32)), (.int ch)])) _
    refine XS.iand X0.here hx rfl (hb hby d13_31) rfl ?_
    show Steps p.tables e below (s₁.setTop (mkF m 32 #[.val (.int k), .val (.int ch), .unset] [(.int (ch &&& (255 : Int32)))])) _
    refine XS.i2c X0.here hx rfl (hb hby d13_32) rfl ?_
    show Steps p.tables e below (s₁.setTop (mkF m 33 #[.val (.int k), .val (.int ch), .unset] [(.int ((ch &&& (255 : Int32)).toUInt32.toUInt16.toUInt32.toInt32))])) _
    refine st1 _ ?_
    show Steps p.tables e below (T1.setTop (mkF m 36 #[.val (.int k), .val (.int ch), .unset] [(.ref r_1)])) _
    jvm_step X1.here [X1.here.top, hx, (hb hby d13_36), X1.method', Bd.returns, Value.isRef, FieldType.isReference]
    first | (intro acts; rw [hr _ acts rfl rfl rfl]) | rw [hr _ _ rfl rfl rfl]
    exact Steps.refl _
  · show Q_drawG Z k ch cs h0 n0 _ T1.heap _
    exact ⟨(.ref r_1), rfl, N1, K1, rfl⟩
  · show CHr Z own_EL s.vm s.heap T1.vm T1.heap
    rw [hh]; exact CE
set_option maxRecDepth 65536 in
set_option maxHeartbeats 40000000 in
theorem drawG_3 (l : Launch) (Z : State) (a0 : Array Value) (hw : ∀ d ∈ tables_1, d.before a0 Z = true) (ws : List Jvm.Cond) (k : Int32) (ch : Int32) (cs : Int32) (h0 : Heap) (n0 : Nat) (O0 : Old Z n0 h0) (G0 : Sta Z Z.heap "java/lang/String" "COMPACT_STRINGS" "Z" (.int cs)) (hcs : ¬ (cs = (0 : Int32))) (hc1 : ¬ (k = (0 : Int32))) (hc8 : ¬ (k = (1 : Int32))) (hc24 : ¬ (k = (2 : Int32))) :
    MetFree l (⟨"com/example/knooppunt/knooppunt/reader/RouteLinePinLaw", "draw", "(II)Ljava/lang/String;"⟩ : MethodName) (head1 (Jvm.Cond.code (⟨"com/example/knooppunt/knooppunt/reader/RouteLinePinLaw", "draw", "(II)Ljava/lang/String;"⟩ : MethodName) method_2_code 3 (some (.object "java/lang/String")) :: ws) ({ frames := 4, cells := 6, slots := 12, locals := 66 } : Room)) (fun zA zU => zA = #[(.int k), (.int ch)] ∧ Z.Warmed39 zU.vm ∧ zU.heap = h0 ∧ CHv Z own_EL zU.vm h0 ∧ ∀ x ∈ ([] : List Addr), Safe Z own_EL zU.vm h0 x) (fun _ _ _ _ _ => True) (fun _ zU zo zU' => ∃ zv zL, zo = .returned zv ∧ Q_drawG Z k ch cs h0 n0 zv zU'.heap zL ∧ CHr Z own_EL zU.vm zU.heap zU'.vm zU'.heap ∧ ReturnedEndW zU zo zU' zL ({ frames := 4, cells := 6, slots := 12, locals := 66 } : Room).cells ({ frames := 4, cells := 6, slots := 12, locals := 66 } : Room).slots) := by
  refine MetFree.of_bodySF (plainFor_of_name pn_14) hisR ?_
  intro p e s m args below meth c s₁ Bd hml0 hP hK
  obtain ⟨rfl, hZ, hh, HC, HS⟩ := hP
  have hx := Bd.exec
  have hby := Bd.bytes
  have hml : c.maxLocals = 3 := hml0
  have hown : s.vm.findClass "com/example/knooppunt/knooppunt/reader/RouteLinePinLaw" = some m.cls := findClass_of_methodNamed Bd.named
  have hnm := (name_of_methodNamed Bd.named Bd.method).1
  have X0 : Stand p l e ({ frames := 4, cells := 6, slots := 12, locals := 66 } : Room) (s.setVm s.vm) m #[(.int k), (.int ch)] below meth c s₁ [] 0 0 := Stand.of_body Bd
  have e0 : s₁.heap = h0 := by rw [← hh, Bd.state]; rfl
  have N0 := Fr.nil n0
  have Z0 : n0 ≤ h0.size := O0.1 ▸ O0.2.1
  have pre0 : ∀ zt, Steps p.tables e below (s₁.setTop (mkF m 0 #[.val (.int k), .val (.int ch), .unset] [])) zt → Steps p.tables e below (s₁.setTop (entryFrame m #[(.int k), (.int ch)] 3)) zt := fun zt zk => castTop (ef_13_II m k ch) zk
  have hEL := own_EW hw
  have wS := own_wS hw
  have hS0 : s.Since s.vm 0 := (State.WarmedH.refl s).since 0
  have CR0 : CHr Z own_EL s.vm h0 s.vm h0 := CHr.refl HC
  have hZ0 := hZ
  have hown0 := hown
  obtain ⟨T1, h1, k1, X1, e1, E1, A1, st1⟩ := newP X0 hx hZ (hw _ (List.mem_of_getElem? (i := 72) rfl)) e0 (g := (mkF m 38 #[.val (.int k), .val (.int ch), .unset] [(.int (2 : Int32))])) rfl (hb hby d13_38) rfl (by decide) (cap := 2) (by decide) (by decide) (by decide) (by decide)
  obtain ⟨b1, gz1⟩ : ∃ z, z = h0.size := ⟨_, rfl⟩
  rw [← gz1] at A1 st1
  have sz_b1 : h0.size ≤ b1 := Nat.le_trans (Keep.refl h0 []).1 (Nat.le_of_eq gz1.symm)
  have g_b1 : n0 ≤ b1 := Nat.le_trans Z0 sz_b1
  have O1 := O0.ext E1
  have K1 : Keep h0 h1 [] := (Keep.refl h0 []).ext E1
  have CR1 := CR0.trans (CHr.ext E1 CR0.1)
  have V1 : Arv Z h1 b1 k1 .char (2 : Int32) [(.int (0 : Int32)), (.int (0 : Int32))] (.int (0 : Int32)) := (Arv.new A1 (by decide)).pad (pad_rep [] (.int (0 : Int32)) 2)
  obtain ⟨cl2, Ar2, q2, Sz2, Ng2, Hs2, Gs2⟩ := (id V1)
  have hin2 : ¬ ((0 : Int32) < 0 ∨ cl2.slots.size ≤ ((0 : Int32)).toNatClampNeg) := inb_of Sz2 ⟨by decide, by decide⟩
  obtain ⟨T2, h2, X2, e2, W2, st2⟩ := stC X1 hx hZ e1 Ar2 (j := (0 : Int32)) hin2 (g := (mkF m 49 #[.val (.int k), .val (.int ch), .val (.ref b1)] [(.int ((ch &&& (255 : Int32)).toUInt32.toUInt16.toUInt32.toInt32)), (.int (0 : Int32)), (.ref b1)])) rfl rfl (hb hby d13_49)
  have V2 := Arv.set Ar2 q2 Sz2 Ng2 Hs2 Gs2 (fits_nar_char _) W2 0 rfl (Nat.le_of_ble_eq_true rfl)
  have Sw2 : Safe Z own_EL s.vm h1 b1 := (own_safe_arv hZ.alike V1 (by decide))
  have O2 := O1.wr W2 g_b1
  have K2 : Keep h0 h2 [] := K1.wr W2 (Or.inr sz_b1)
  have N2 := Fr.snoc X2 N0 g_b1
  have CR2 := CR1.trans (CHr.wr W2 Sw2 CR1.1)
  have V2 : Arv Z h2 b1 k1 .char (2 : Int32) [(.int (((ch &&& (255 : Int32)).toUInt32.toUInt16.toUInt32.toInt32).toUInt32.toUInt16.toUInt32.toInt32)), (.int (0 : Int32))] (.int (0 : Int32)) := V2
  obtain ⟨cl3, Ar3, q3, Sz3, Ng3, Hs3, Gs3⟩ := (id V2)
  have hin3 : ¬ ((1 : Int32) < 0 ∨ cl3.slots.size ≤ ((1 : Int32)).toNatClampNeg) := inb_of Sz3 ⟨by decide, by decide⟩
  obtain ⟨T3, h3, X3, e3, W3, st3⟩ := stC X2 hx hZ e2 Ar3 (j := (1 : Int32)) hin3 (g := (mkF m 61 #[.val (.int k), .val (.int ch), .val (.ref b1)] [(.int ((((ch.toUInt32 >>> ((8 : Int32) &&& 31).toUInt32).toInt32) &&& (255 : Int32)).toUInt32.toUInt16.toUInt32.toInt32)), (.int (1 : Int32)), (.ref b1)])) rfl rfl (hb hby d13_61)
  have V3 := Arv.set Ar3 q3 Sz3 Ng3 Hs3 Gs3 (fits_nar_char _) W3 1 rfl (Nat.le_of_ble_eq_true rfl)
  have Sw3 : Safe Z own_EL s.vm h2 b1 := (own_safe_arv hZ.alike V2 (by decide))
  have O3 := O2.wr W3 g_b1
  have K3 : Keep h0 h3 [] := K2.wr W3 (Or.inr sz_b1)
  have N3 := Fr.snoc X3 N2 g_b1
  have CR3 := CR2.trans (CHr.wr W3 Sw3 CR2.1)
  have V3 : Arv Z h3 b1 k1 .char (2 : Int32) [(.int (((ch &&& (255 : Int32)).toUInt32.toUInt16.toUInt32.toInt32).toUInt32.toUInt16.toUInt32.toInt32)), (.int (((((ch.toUInt32 >>> ((8 : Int32) &&& 31).toUInt32).toInt32) &&& (255 : Int32)).toUInt32.toUInt16.toUInt32.toInt32).toUInt32.toUInt16.toUInt32.toInt32))] (.int (0 : Int32)) := V3
  obtain ⟨T4, h4, X4, e4, E4, A4, D4, U4, st4⟩ := newO X3 hx hZ hown (hw _ (List.mem_of_getElem? (i := 73) rfl)) (hw _ (List.mem_of_getElem? (i := 9) rfl)) (hw _ (List.mem_of_getElem? (i := 8) rfl)) e3 (g := (mkF m 62 #[.val (.int k), .val (.int ch), .val (.ref b1)] [])) rfl (hb hby d13_62) (by decide) (by decide)
  obtain ⟨b4, gz4⟩ : ∃ z, z = h3.size := ⟨_, rfl⟩
  rw [← gz4] at A4 D4 U4 st4
  have sz_b4 : h0.size ≤ b4 := Nat.le_trans K3.1 (Nat.le_of_eq gz4.symm)
  have g_b4 : n0 ≤ b4 := Nat.le_trans Z0 sz_b4
  have O4 := O3.ext E4
  have K4 : Keep h0 h4 [] := K3.ext E4
  have CR4 := CR3.trans (CHr.ext E4 CR3.1)
  have Sn4 : Safe Z own_EL s.vm h4 b4 := Safe.ext E4 CR3.1 (Safe.new (Nat.le_of_eq gz4.symm))
  have Fi4_11 : Fld Z h4 b4 "java/lang/String" "value" "[B" .null := D4 (Or.inr (hw _ (List.mem_of_getElem? (i := 11) rfl))) (ty := (.array .byte)) (by decide)
  have Fi4_12 : Fld Z h4 b4 "java/lang/String" "coder" "B" (.int (0 : Int32)) := D4 (Or.inr (hw _ (List.mem_of_getElem? (i := 12) rfl))) (ty := .byte) (by decide)
  obtain ⟨_, _, ⟨T5, L5, k5, n5⟩, -, X5, ⟨Lc5, hQ5, l5, y5, z5⟩, st5⟩ := X4.specialBack hx (y := (⟨"java/lang/String", "<init>", "([C)V"⟩ : MethodName)) rfl hown (mvT hZ (hw _ (List.mem_of_getElem? (i := 74) rfl))) (mvT hZ (hw _ (List.mem_of_getElem? (i := 75) rfl))) (mvT hZ (hw _ (List.mem_of_getElem? (i := 76) rfl))) (by decide) (backOf (W := 1) (si2 l Z a0 hw [] b4 b1 k1 (((ch &&& (255 : Int32)).toUInt32.toUInt16.toUInt32.toInt32).toUInt32.toUInt16.toUInt32.toInt32) (((((ch.toUInt32 >>> ((8 : Int32) &&& 31).toUInt32).toInt32) &&& (255 : Int32)).toUInt32.toUInt16.toUInt32.toInt32).toUInt32.toUInt16.toUInt32.toInt32) cs h4 n0 O4 G0 A4 Fi4_11 Fi4_12 (V3.ext E4) g_b4 hcs (own_q2 ch) (own_q2 ((ch.toUInt32 >>> ((8 : Int32) &&& 31).toUInt32).toInt32))) hZ (hw _ (List.mem_of_getElem? (i := 76) rfl)) (hw _ (List.mem_of_getElem? (i := 8) rfl)) (by decide) (by decide)) (g := (mkF m 67 #[.val (.int k), .val (.int ch), .val (.ref b1)] [(.ref b1), (.ref b4), (.ref b4)])) rfl (by rw [hml]; rfl) (Steps.refl _) (a := b4) (argsL := [(.ref b1)]) (rest := [(.ref b4)]) (lenOf pd_7 rfl) rfl (by show 2 * 0 + _ ≤ _; exact Nat.le_of_eq rfl) (hb hby d13_67) (fun _ _ => ⟨rfl, e4, (by decide : 2 + 1 ≤ _), (by decide : 6 + 2 ≤ _)⟩)
  dsimp only [Pt.U, Pt.locs, Pt.cells, Pt.slots] at X5 l5 y5 z5 st5 hQ5
  subst l5 y5 z5
  obtain ⟨rfl, Nq5, kh5, Po5_0⟩ := hQ5
  have N5 := Fr.app N3 Nq5
  have O5 := O4.keep kh5 (allS g_b4 all0)
  have K5 : Keep h0 T5.heap [] := K4.trans kh5 (allS (Or.inr sz_b4) all0)
  have hs5 : ∀ x ∈ ([b4] : List Addr), Safe Z own_EL s.vm h4 x := (allS Sn4 all0)
  have CR5 := CR4.trans (CHr.keep kh5 hs5 CR4.1)
  have Sy5_b4 := Safe.keep kh5 hs5 CR4.1 Sn4
  obtain ⟨fs, hr, hrun, hended, hRW⟩ := X5.leaveW (s := s) hS0 (own_hk rfl (Nat.le_trans (Nat.le_trans (Nat.le_trans (Nat.le_trans (Nat.le_trans (Nat.zero_le _) E1.1) (Keep.of_wr W2).1) (Keep.of_wr W3).1) E4.1) kh5.1)) (v := some (.ref b4)) (fun h => by rw [Bd.returns] at h; cases h)
  have CE := CR5.trans (CHv.at (s := s) (vm0 := s.vm) X5 hZ hEL CR5.1)
  refine ⟨_, _, pre0 _ ?_, hrun, hended, _, _, rfl, ?_, ?_, own_rw_mono hRW (by decide) (by decide)⟩
  · show Steps p.tables e below (s₁.setTop (mkF m 0 #[.val (.int k), .val (.int ch), .unset] [])) _
    refine XS.iloadN X0.here hx rfl (hb hby d13_0) rfl ?_
    show Steps p.tables e below (s₁.setTop (mkF m 1 #[.val (.int k), .val (.int ch), .unset] [(.int k)])) _
    refine XS.ifYes X0.here hx rfl (pc0 := 1) (pc' := 6) rfl (hb hby d13_1) rfl ((if0 _ _).trans (feq (hc1 : ¬ (k = (0 : Int32)))).2) (by decide) (by decide) ?_
    show Steps p.tables e below (s₁.setTop (mkF m 6 #[.val (.int k), .val (.int ch), .unset] [])) _
    refine XS.iloadN X0.here hx rfl (hb hby d13_6) rfl ?_
    show Steps p.tables e below (s₁.setTop (mkF m 7 #[.val (.int k), .val (.int ch), .unset] [(.int k)])) _
    refine XS.iconst X0.here hx rfl (hb hby d13_7) ?_
    show Steps p.tables e below (s₁.setTop (mkF m 8 #[.val (.int k), .val (.int ch), .unset] [(.int (1 : Int32)), (.int k)])) _
    refine XS.icmpYes X0.here hx rfl (pc0 := 8) (pc' := 22) rfl (hb hby d13_8) rfl (feq (hc8 : ¬ (k = (1 : Int32)))).2 (by decide) (by decide) ?_
    show Steps p.tables e below (s₁.setTop (mkF m 22 #[.val (.int k), .val (.int ch), .unset] [])) _
    refine XS.iloadN X0.here hx rfl (hb hby d13_22) rfl ?_
    show Steps p.tables e below (s₁.setTop (mkF m 23 #[.val (.int k), .val (.int ch), .unset] [(.int k)])) _
    refine XS.iconst X0.here hx rfl (hb hby d13_23) ?_
    show Steps p.tables e below (s₁.setTop (mkF m 24 #[.val (.int k), .val (.int ch), .unset] [(.int (2 : Int32)), (.int k)])) _
    refine XS.icmpYes X0.here hx rfl (pc0 := 24) (pc' := 37) rfl (hb hby d13_24) rfl (feq (hc24 : ¬ (k = (2 : Int32)))).2 (by decide) (by decide) ?_
    show Steps p.tables e below (s₁.setTop (mkF m 37 #[.val (.int k), .val (.int ch), .unset] [])) _
    refine XS.iconst X0.here hx rfl (hb hby d13_37) ?_
    show Steps p.tables e below (s₁.setTop (mkF m 38 #[.val (.int k), .val (.int ch), .unset] [(.int (2 : Int32))])) _
    refine st1 _ ?_
    show Steps p.tables e below (T1.setTop (mkF m 40 #[.val (.int k), .val (.int ch), .unset] [(.ref b1)])) _
    refine XS.astoreN X1.here hx rfl (hb hby d13_40) rfl rfl (l' := #[.val (.int k), .val (.int ch), .val (.ref b1)]) rfl ?_
    show Steps p.tables e below (T1.setTop (mkF m 41 #[.val (.int k), .val (.int ch), .val (.ref b1)] [])) _
    refine XS.aloadN X1.here hx rfl (hb hby d13_41) rfl rfl ?_
    show Steps p.tables e below (T1.setTop (mkF m 42 #[.val (.int k), .val (.int ch), .val (.ref b1)] [(.ref b1)])) _
    refine XS.iconst X1.here hx rfl (hb hby d13_42) ?_
    show Steps p.tables e below (T1.setTop (mkF m 43 #[.val (.int k), .val (.int ch), .val (.ref b1)] [(.int (0 : Int32)), (.ref b1)])) _
    refine XS.iloadN X1.here hx rfl (hb hby d13_43) rfl ?_
    show Steps p.tables e below (T1.setTop (mkF m 44 #[.val (.int k), .val (.int ch), .val (.ref b1)] [(.int ch), (.int (0 : Int32)), (.ref b1)])) _
    refine XS.sipush X1.here hx rfl (hb hby d13_44) ?_
    show Steps p.tables e below (T1.setTop (mkF m 47 #[.val (.int k), .val (.int ch), .val (.ref b1)] [(.int (255 : Int32)), (.int ch), (.int (0 : Int32)), (.ref b1)])) _
    refine XS.iand X1.here hx rfl (hb hby d13_47) rfl ?_
    show Steps p.tables e below (T1.setTop (mkF m 48 #[.val (.int k), .val (.int ch), .val (.ref b1)] [(.int (ch &&& (255 : Int32))), (.int (0 : Int32)), (.ref b1)])) _
    refine XS.i2c X1.here hx rfl (hb hby d13_48) rfl ?_
    show Steps p.tables e below (T1.setTop (mkF m 49 #[.val (.int k), .val (.int ch), .val (.ref b1)] [(.int ((ch &&& (255 : Int32)).toUInt32.toUInt16.toUInt32.toInt32)), (.int (0 : Int32)), (.ref b1)])) _
    refine st2 _ ?_
    show Steps p.tables e below (T2.setTop (mkF m 50 #[.val (.int k), .val (.int ch), .val (.ref b1)] [])) _
    refine XS.aloadN X2.here hx rfl (hb hby d13_50) rfl rfl ?_
    show Steps p.tables e below (T2.setTop (mkF m 51 #[.val (.int k), .val (.int ch), .val (.ref b1)] [(.ref b1)])) _
    refine XS.iconst X2.here hx rfl (hb hby d13_51) ?_
    show Steps p.tables e below (T2.setTop (mkF m 52 #[.val (.int k), .val (.int ch), .val (.ref b1)] [(.int (1 : Int32)), (.ref b1)])) _
    refine XS.iloadN X2.here hx rfl (hb hby d13_52) rfl ?_
    show Steps p.tables e below (T2.setTop (mkF m 53 #[.val (.int k), .val (.int ch), .val (.ref b1)] [(.int ch), (.int (1 : Int32)), (.ref b1)])) _
    refine XS.bipush X2.here hx rfl (hb hby d13_53) ?_
    show Steps p.tables e below (T2.setTop (mkF m 55 #[.val (.int k), .val (.int ch), .val (.ref b1)] [(.int (8 : Int32)), (.int ch), (.int (1 : Int32)), (.ref b1)])) _
    refine XS.iushr X2.here hx rfl (hb hby d13_55) rfl ?_
    show Steps p.tables e below (T2.setTop (mkF m 56 #[.val (.int k), .val (.int ch), .val (.ref b1)] [(.int ((ch.toUInt32 >>> ((8 : Int32) &&& 31).toUInt32).toInt32)), (.int (1 : Int32)), (.ref b1)])) _
    refine XS.sipush X2.here hx rfl (hb hby d13_56) ?_
    show Steps p.tables e below (T2.setTop (mkF m 59 #[.val (.int k), .val (.int ch), .val (.ref b1)] [(.int (255 : Int32)), (.int ((ch.toUInt32 >>> ((8 : Int32) &&& 31).toUInt32).toInt32)), (.int (1 : Int32)), (.ref b1)])) _
    refine XS.iand X2.here hx rfl (hb hby d13_59) rfl ?_
    show Steps p.tables e below (T2.setTop (mkF m 60 #[.val (.int k), .val (.int ch), .val (.ref b1)] [(.int (((ch.toUInt32 >>> ((8 : Int32) &&& 31).toUInt32).toInt32) &&& (255 : Int32))), (.int (1 : Int32)), (.ref b1)])) _
    refine XS.i2c X2.here hx rfl (hb hby d13_60) rfl ?_
    show Steps p.tables e below (T2.setTop (mkF m 61 #[.val (.int k), .val (.int ch), .val (.ref b1)] [(.int ((((ch.toUInt32 >>> ((8 : Int32) &&& 31).toUInt32).toInt32) &&& (255 : Int32)).toUInt32.toUInt16.toUInt32.toInt32)), (.int (1 : Int32)), (.ref b1)])) _
    refine st3 _ ?_
    show Steps p.tables e below (T3.setTop (mkF m 62 #[.val (.int k), .val (.int ch), .val (.ref b1)] [])) _
    refine st4 _ ?_
    show Steps p.tables e below (T4.setTop (mkF m 65 #[.val (.int k), .val (.int ch), .val (.ref b1)] [(.ref b4)])) _
    refine XS.dup X4.here hx rfl (hb hby d13_65) rfl rfl ?_
    show Steps p.tables e below (T4.setTop (mkF m 66 #[.val (.int k), .val (.int ch), .val (.ref b1)] [(.ref b4), (.ref b4)])) _
    refine XS.aloadN X4.here hx rfl (hb hby d13_66) rfl rfl ?_
    show Steps p.tables e below (T4.setTop (mkF m 67 #[.val (.int k), .val (.int ch), .val (.ref b1)] [(.ref b1), (.ref b4), (.ref b4)])) _
    refine st5.trans ?_
    show Steps p.tables e below (T5.setTop (mkF m 70 #[.val (.int k), .val (.int ch), .val (.ref b1)] [(.ref b4)])) _
    jvm_step X5.here [X5.here.top, hx, (hb hby d13_70), X5.method', Bd.returns, Value.isRef, FieldType.isReference]
    first | (intro acts; rw [hr _ acts rfl rfl rfl]) | rw [hr _ _ rfl rfl rfl]
    exact Steps.refl _
  · show Q_drawG Z k ch cs h0 n0 _ T5.heap _
    exact ⟨(.ref b4), rfl, N5, K5, rfl⟩
  · show CHr Z own_EL s.vm s.heap T5.vm T5.heap
    rw [hh]; exact CE
set_option maxRecDepth 65536 in
set_option maxHeartbeats 40000000 in
theorem drawG (l : Launch) (Z : State) (a0 : Array Value) (hw : ∀ d ∈ tables_1, d.before a0 Z = true) (ws : List Jvm.Cond) (k : Int32) (ch : Int32) (cs : Int32) (h0 : Heap) (n0 : Nat) (O0 : Old Z n0 h0) (G0 : Sta Z Z.heap "java/lang/String" "COMPACT_STRINGS" "Z" (.int cs)) (hcs : ¬ (cs = (0 : Int32))) :
    MetFree l (⟨"com/example/knooppunt/knooppunt/reader/RouteLinePinLaw", "draw", "(II)Ljava/lang/String;"⟩ : MethodName) (head1 (Jvm.Cond.code (⟨"com/example/knooppunt/knooppunt/reader/RouteLinePinLaw", "draw", "(II)Ljava/lang/String;"⟩ : MethodName) method_2_code 3 (some (.object "java/lang/String")) :: ws) ({ frames := 4, cells := 6, slots := 12, locals := 66 } : Room)) (fun zA zU => zA = #[(.int k), (.int ch)] ∧ Z.Warmed39 zU.vm ∧ zU.heap = h0 ∧ CHv Z own_EL zU.vm h0 ∧ ∀ x ∈ ([] : List Addr), Safe Z own_EL zU.vm h0 x) (fun _ _ _ _ _ => True) (fun _ zU zo zU' => ∃ zv zL, zo = .returned zv ∧ Q_drawG Z k ch cs h0 n0 zv zU'.heap zL ∧ CHr Z own_EL zU.vm zU.heap zU'.vm zU'.heap ∧ ReturnedEndW zU zo zU' zL ({ frames := 4, cells := 6, slots := 12, locals := 66 } : Room).cells ({ frames := 4, cells := 6, slots := 12, locals := 66 } : Room).slots) := by
  by_cases h0' : k = (0 : Int32)
  · exact drawG_0 l Z a0 hw ws k ch cs h0 n0 O0 G0 hcs h0'
  · by_cases h1 : k = (1 : Int32)
    · exact drawG_1 l Z a0 hw ws k ch cs h0 n0 O0 G0 hcs h0' h1
    · by_cases h2 : k = (2 : Int32)
      · exact drawG_2 l Z a0 hw ws k ch cs h0 n0 O0 G0 hcs h0' h1 h2
      · exact drawG_3 l Z a0 hw ws k ch cs h0 n0 O0 G0 hcs h0' h1 h2
def Q_recI (Z : State) (a : Addr) (h0 : Heap) (n0 : Nat) (v : Option Value) (h : Heap) (L : List Loc) : Prop := v = none ∧ Fr n0 L ∧ h = h0
theorem d15_0 : decode jdk_30_method_1_code 0 = .ok (.aload_n 0, 1) := by decide +kernel
theorem d15_1 : decode jdk_30_method_1_code 1 = .ok (.invokespecial 1, 3) := by decide +kernel
theorem d15_4 : decode jdk_30_method_1_code 4 = .ok (.return_, 1) := by decide +kernel
theorem pn_16 : plainName "java/lang/Record" = true := by first | (simp [plainName, overriddenIn]; done) | decide +kernel
theorem ef_15_R (m : MethodId) (x0 : Addr) : entryFrame m #[(.ref x0)] 1 = mkF m 0 #[.val (.ref x0)] [] := by first | (simp [entryFrame, mkF, argsToLocals, Value.category]; done) | rfl
set_option maxRecDepth 65536 in
set_option maxHeartbeats 40000000 in
theorem recI (l : Launch) (Z : State) (a0 : Array Value) (hw : ∀ d ∈ tables_1, d.before a0 Z = true) (ws : List Jvm.Cond) (a : Addr) (h0 : Heap) (n0 : Nat) (O0 : Old Z n0 h0) :
    MetFree l (⟨"java/lang/Record", "<init>", "()V"⟩ : MethodName) (head1 (Jvm.Cond.code (⟨"java/lang/Record", "<init>", "()V"⟩ : MethodName) jdk_30_method_1_code 1 none :: ws) ({ frames := 1, cells := 0, slots := 0, locals := 12 } : Room)) (fun zA zU => zA = #[(.ref a)] ∧ Z.Warmed39 zU.vm ∧ zU.heap = h0) (fun _ _ _ _ _ => True) (fun _ zU zo zU' => ∃ zv zL, zo = .returned zv ∧ Q_recI Z a h0 n0 zv zU'.heap zL ∧ FrameEnd zU zo zU' zL ({ frames := 1, cells := 0, slots := 0, locals := 12 } : Room).cells ({ frames := 1, cells := 0, slots := 0, locals := 12 } : Room).slots) := by
  refine MetFree.of_bodySF (plainFor_of_name pn_16) hisR ?_
  intro p e s m args below meth c s₁ Bd hml0 hP hK
  obtain ⟨rfl, hZ, hh⟩ := hP
  have hx := Bd.exec
  have hby := Bd.bytes
  have hml : c.maxLocals = 1 := hml0
  have hown : s.vm.findClass "java/lang/Record" = some m.cls := findClass_of_methodNamed Bd.named
  have hnm := (name_of_methodNamed Bd.named Bd.method).1
  have X0 : Stand p l e ({ frames := 1, cells := 0, slots := 0, locals := 12 } : Room) s m #[(.ref a)] below meth c s₁ [] 0 0 := Stand.of_body Bd
  have e0 : s₁.heap = h0 := by rw [← hh, Bd.state]; rfl
  have N0 := Fr.nil n0
  have Z0 : n0 ≤ h0.size := O0.1 ▸ O0.2.1
  have pre0 : ∀ zt, Steps p.tables e below (s₁.setTop (mkF m 0 #[.val (.ref a)] [])) zt → Steps p.tables e below (s₁.setTop (entryFrame m #[(.ref a)] 1)) zt := fun zt zk => castTop (ef_15_R m a) zk
  obtain ⟨T1, X1, e1, st1⟩ := initO X0 hx hZ hown (hw _ (List.mem_of_getElem? (i := 23) rfl)) (hw _ (List.mem_of_getElem? (i := 24) rfl)) (hw _ (List.mem_of_getElem? (i := 25) rfl)) e0 (g := (mkF m 1 #[.val (.ref a)] [(.ref a)])) rfl (by rw [hml]; rfl) rfl (hb hby d15_1) (by decide) (W := 0) (by show 2 * 0 + _ ≤ _; exact Nat.le_of_eq rfl) (by decide)
  obtain ⟨fs, hr, hrun, hended, hW, hsame⟩ := X1.leave (v := none) (fun _ => rfl)
  refine ⟨_, _, pre0 _ ?_, hrun, hended, _, _, rfl, ?_, ⟨_, rfl⟩, hW, hsame.mono (by decide) (by decide)⟩
  · show Steps p.tables e below (s₁.setTop (mkF m 0 #[.val (.ref a)] [])) _
    refine XS.aloadN X0.here hx rfl (hb hby d15_0) rfl rfl ?_
    show Steps p.tables e below (s₁.setTop (mkF m 1 #[.val (.ref a)] [(.ref a)])) _
    refine st1 _ ?_
    show Steps p.tables e below (T1.setTop (mkF m 4 #[.val (.ref a)] [])) _
    exact X1.returnOut hx Bd.returns (hb hby d15_4) hr
  · show Q_recI Z a h0 n0 _ T1.heap _
    rw [e1]
    exact ⟨rfl, N0, rfl⟩
def Q_soI (Z : State) (a : Addr) (na : Addr) (ln : Int32) (h0 : Heap) (n0 : Nat) (v : Option Value) (h : Heap) (L : List Loc) : Prop := v = none ∧ Fr n0 L ∧ Keep h0 h [a] ∧ Exa Z h a "com/example/knooppunt/knooppunt/reader/Source"
theorem d17_0 : decode prog_141_method_1_code 0 = .ok (.aload_n 0, 1) := by decide +kernel
theorem d17_1 : decode prog_141_method_1_code 1 = .ok (.invokespecial 1, 3) := by decide +kernel
theorem pd_9 : parseMethodDescriptor "()V" = some ⟨[], none⟩ := by decide +kernel
theorem d17_4 : decode prog_141_method_1_code 4 = .ok (.aload_n 0, 1) := by decide +kernel
theorem d17_5 : decode prog_141_method_1_code 5 = .ok (.aload_n 1, 1) := by decide +kernel
theorem d17_6 : decode prog_141_method_1_code 6 = .ok (.putfield 7, 3) := by decide +kernel
theorem d17_9 : decode prog_141_method_1_code 9 = .ok (.aload_n 0, 1) := by decide +kernel
theorem d17_10 : decode prog_141_method_1_code 10 = .ok (.aload_n 2, 1) := by decide +kernel
theorem d17_11 : decode prog_141_method_1_code 11 = .ok (.putfield 13, 3) := by decide +kernel
theorem d17_14 : decode prog_141_method_1_code 14 = .ok (.aload_n 0, 1) := by decide +kernel
theorem d17_15 : decode prog_141_method_1_code 15 = .ok (.iload_n 3, 1) := by decide +kernel
theorem d17_16 : decode prog_141_method_1_code 16 = .ok (.putfield 16, 3) := by decide +kernel
theorem d17_19 : decode prog_141_method_1_code 19 = .ok (.return_, 1) := by decide +kernel
theorem pn_18 : plainName "com/example/knooppunt/knooppunt/reader/Source" = true := by first | (simp [plainName, overriddenIn]; done) | decide +kernel
theorem ef_17_RRnI (m : MethodId) (x0 : Addr) (x1 : Addr) (x3 : Int32) : entryFrame m #[(.ref x0), (.ref x1), .null, (.int x3)] 4 = mkF m 0 #[.val (.ref x0), .val (.ref x1), .val .null, .val (.int x3)] [] := by first | (simp [entryFrame, mkF, argsToLocals, Value.category]; done) | rfl
set_option maxRecDepth 65536 in
set_option maxHeartbeats 40000000 in
theorem soI (l : Launch) (Z : State) (a0 : Array Value) (hw : ∀ d ∈ tables_1, d.before a0 Z = true) (ws : List Jvm.Cond) (a : Addr) (na : Addr) (ln : Int32) (h0 : Heap) (n0 : Nat) (O0 : Old Z n0 h0) (P0 : Exa Z h0 a "com/example/knooppunt/knooppunt/reader/Source") (P1 : Fld Z h0 a "com/example/knooppunt/knooppunt/reader/Source" "element" "Ljava/lang/String;" .null) (P2 : Fld Z h0 a "com/example/knooppunt/knooppunt/reader/Source" "id" "Ljava/lang/String;" .null) (P3 : Fld Z h0 a "com/example/knooppunt/knooppunt/reader/Source" "line" "I" (.int (0 : Int32))) (g_a : n0 ≤ a) :
    MetFree l (⟨"com/example/knooppunt/knooppunt/reader/Source", "<init>", "(Ljava/lang/String;Ljava/lang/String;I)V"⟩ : MethodName) (head1 (Jvm.Cond.code (⟨"com/example/knooppunt/knooppunt/reader/Source", "<init>", "(Ljava/lang/String;Ljava/lang/String;I)V"⟩ : MethodName) prog_141_method_1_code 4 none :: ws) ({ frames := 2, cells := 0, slots := 0, locals := 24 } : Room)) (fun zA zU => zA = #[(.ref a), (.ref na), .null, (.int ln)] ∧ Z.Warmed39 zU.vm ∧ zU.heap = h0) (fun _ _ _ _ _ => True) (fun _ zU zo zU' => ∃ zv zL, zo = .returned zv ∧ Q_soI Z a na ln h0 n0 zv zU'.heap zL ∧ FrameEnd zU zo zU' zL ({ frames := 2, cells := 0, slots := 0, locals := 24 } : Room).cells ({ frames := 2, cells := 0, slots := 0, locals := 24 } : Room).slots) := by
  refine MetFree.of_bodySF (plainFor_of_name pn_18) hisR ?_
  intro p e s m args below meth c s₁ Bd hml0 hP hK
  obtain ⟨rfl, hZ, hh⟩ := hP
  have hx := Bd.exec
  have hby := Bd.bytes
  have hml : c.maxLocals = 4 := hml0
  have hown : s.vm.findClass "com/example/knooppunt/knooppunt/reader/Source" = some m.cls := findClass_of_methodNamed Bd.named
  have hnm := (name_of_methodNamed Bd.named Bd.method).1
  have X0 : Stand p l e ({ frames := 2, cells := 0, slots := 0, locals := 24 } : Room) s m #[(.ref a), (.ref na), .null, (.int ln)] below meth c s₁ [] 0 0 := Stand.of_body Bd
  have e0 : s₁.heap = h0 := by rw [← hh, Bd.state]; rfl
  have N0 := Fr.nil n0
  have Z0 : n0 ≤ h0.size := O0.1 ▸ O0.2.1
  have pre0 : ∀ zt, Steps p.tables e below (s₁.setTop (mkF m 0 #[.val (.ref a), .val (.ref na), .val .null, .val (.int ln)] [])) zt → Steps p.tables e below (s₁.setTop (entryFrame m #[(.ref a), (.ref na), .null, (.int ln)] 4)) zt := fun zt zk => castTop (ef_17_RRnI m a na ln) zk
  obtain ⟨_, _, ⟨T1, L1, k1, n1⟩, -, X1, ⟨Lc1, hQ1, l1, y1, z1⟩, st1⟩ := X0.specialBack hx (y := (⟨"java/lang/Record", "<init>", "()V"⟩ : MethodName)) rfl hown (mvT hZ (hw _ (List.mem_of_getElem? (i := 18) rfl))) (mvT hZ (hw _ (List.mem_of_getElem? (i := 19) rfl))) (mvT hZ (hw _ (List.mem_of_getElem? (i := 22) rfl))) (by decide) (backOf (W := 0) (recI l Z a0 hw [] a h0 n0 O0 ) hZ (hw _ (List.mem_of_getElem? (i := 22) rfl)) (hw _ (List.mem_of_getElem? (i := 21) rfl)) (by decide) (by decide)) (g := (mkF m 1 #[.val (.ref a), .val (.ref na), .val .null, .val (.int ln)] [(.ref a)])) rfl (by rw [hml]; rfl) (Steps.refl _) (a := a) (argsL := []) (rest := []) (lenOf pd_9 rfl) rfl (by show 2 * 0 + _ ≤ _; exact Nat.le_of_eq rfl) (hb hby d17_1) (fun _ _ => ⟨rfl, e0, (by decide : 0 + 0 ≤ _), (by decide : 0 + 0 ≤ _)⟩)
  dsimp only [Pt.U, Pt.locs, Pt.cells, Pt.slots] at X1 l1 y1 z1 st1 hQ1
  subst l1 y1 z1
  obtain ⟨rfl, Nq1, kh1⟩ := hQ1
  have N1 := Fr.app N0 Nq1
  obtain ⟨T2, h2, X2, e2, W2, st2⟩ := putF X1 hx hZ hown (host := "") (Or.inl (hw _ (List.mem_of_getElem? (i := 26) rfl))) Via.refl kh1 P1 P0 (Or.inr ⟨(hw _ (List.mem_of_getElem? (i := 27) rfl)), rfl, hnm⟩) (hw _ (List.mem_of_getElem? (i := 5) rfl)) (ty := (.object "java/lang/String")) (by decide) rfl rfl (g := (mkF m 6 #[.val (.ref a), .val (.ref na), .val .null, .val (.int ln)] [(.ref na), (.ref a)])) rfl rfl (hb hby d17_6)
  have Fw2 := P1.same W2
  have O2 := O0.wr W2 g_a
  have K2 : Keep h0 h2 [a] := (Keep.refl h0 [a]).wr W2 (Or.inl (List.mem_of_getElem? (i := 0) rfl))
  have N2 := Fr.snoc X2 N1 g_a
  have c4 : Fld Z h2 a "com/example/knooppunt/knooppunt/reader/Source" "id" "Ljava/lang/String;" .null := (P2.other W2 (Or.inr (slot_ne (Or.inr (hw _ (List.mem_of_getElem? (i := 29) rfl))) (Or.inr (hw _ (List.mem_of_getElem? (i := 27) rfl))) (by decide) (t := (.object "java/lang/String")) (t' := (.object "java/lang/String")) (by decide) (by decide))))
  obtain ⟨T3, h3, X3, e3, W3, st3⟩ := putF X2 hx hZ hown (host := "") (Or.inl (hw _ (List.mem_of_getElem? (i := 28) rfl))) Via.refl e2 c4 (P0.wr W2) (Or.inr ⟨(hw _ (List.mem_of_getElem? (i := 29) rfl)), rfl, hnm⟩) (hw _ (List.mem_of_getElem? (i := 5) rfl)) (ty := (.object "java/lang/String")) (by decide) rfl rfl (g := (mkF m 11 #[.val (.ref a), .val (.ref na), .val .null, .val (.int ln)] [.null, (.ref a)])) rfl rfl (hb hby d17_11)
  have Fw3 := c4.same W3
  have O3 := O2.wr W3 g_a
  have K3 : Keep h0 h3 [a] := K2.wr W3 (Or.inl (List.mem_of_getElem? (i := 0) rfl))
  have N3 := Fr.snoc X3 N2 g_a
  have c6 : Fld Z h3 a "com/example/knooppunt/knooppunt/reader/Source" "line" "I" (.int (0 : Int32)) := ((P3.other W2 (Or.inr (slot_ne (Or.inr (hw _ (List.mem_of_getElem? (i := 31) rfl))) (Or.inr (hw _ (List.mem_of_getElem? (i := 27) rfl))) (by decide) (t := .int) (t' := (.object "java/lang/String")) (by decide) (by decide)))).other W3 (Or.inr (slot_ne (Or.inr (hw _ (List.mem_of_getElem? (i := 31) rfl))) (Or.inr (hw _ (List.mem_of_getElem? (i := 29) rfl))) (by decide) (t := .int) (t' := (.object "java/lang/String")) (by decide) (by decide))))
  obtain ⟨T5, h5, X5, e5, W5, st5⟩ := putF X3 hx hZ hown (host := "") (Or.inl (hw _ (List.mem_of_getElem? (i := 30) rfl))) Via.refl e3 c6 ((P0.wr W2).wr W3) (Or.inr ⟨(hw _ (List.mem_of_getElem? (i := 31) rfl)), rfl, hnm⟩) (hw _ (List.mem_of_getElem? (i := 5) rfl)) (ty := .int) (by decide) rfl rfl (g := (mkF m 16 #[.val (.ref a), .val (.ref na), .val .null, .val (.int ln)] [(.int ln), (.ref a)])) rfl rfl (hb hby d17_16)
  have Fw5 := c6.same W5
  have O5 := O3.wr W5 g_a
  have K5 : Keep h0 h5 [a] := K3.wr W5 (Or.inl (List.mem_of_getElem? (i := 0) rfl))
  have N5 := Fr.snoc X5 N3 g_a
  obtain ⟨fs, hr, hrun, hended, hW, hsame⟩ := X5.leave (v := none) (fun _ => rfl)
  refine ⟨_, _, pre0 _ ?_, hrun, hended, _, _, rfl, ?_, ⟨_, rfl⟩, hW, hsame.mono (by decide) (by decide)⟩
  · show Steps p.tables e below (s₁.setTop (mkF m 0 #[.val (.ref a), .val (.ref na), .val .null, .val (.int ln)] [])) _
    refine XS.aloadN X0.here hx rfl (hb hby d17_0) rfl rfl ?_
    show Steps p.tables e below (s₁.setTop (mkF m 1 #[.val (.ref a), .val (.ref na), .val .null, .val (.int ln)] [(.ref a)])) _
    refine st1.trans ?_
    show Steps p.tables e below (T1.setTop (mkF m 4 #[.val (.ref a), .val (.ref na), .val .null, .val (.int ln)] [])) _
    refine XS.aloadN X1.here hx rfl (hb hby d17_4) rfl rfl ?_
    show Steps p.tables e below (T1.setTop (mkF m 5 #[.val (.ref a), .val (.ref na), .val .null, .val (.int ln)] [(.ref a)])) _
    refine XS.aloadN X1.here hx rfl (hb hby d17_5) rfl rfl ?_
    show Steps p.tables e below (T1.setTop (mkF m 6 #[.val (.ref a), .val (.ref na), .val .null, .val (.int ln)] [(.ref na), (.ref a)])) _
    refine st2 _ ?_
    show Steps p.tables e below (T2.setTop (mkF m 9 #[.val (.ref a), .val (.ref na), .val .null, .val (.int ln)] [])) _
    refine XS.aloadN X2.here hx rfl (hb hby d17_9) rfl rfl ?_
    show Steps p.tables e below (T2.setTop (mkF m 10 #[.val (.ref a), .val (.ref na), .val .null, .val (.int ln)] [(.ref a)])) _
    refine XS.aloadN X2.here hx rfl (hb hby d17_10) rfl rfl ?_
    show Steps p.tables e below (T2.setTop (mkF m 11 #[.val (.ref a), .val (.ref na), .val .null, .val (.int ln)] [.null, (.ref a)])) _
    refine st3 _ ?_
    show Steps p.tables e below (T3.setTop (mkF m 14 #[.val (.ref a), .val (.ref na), .val .null, .val (.int ln)] [])) _
    refine XS.aloadN X3.here hx rfl (hb hby d17_14) rfl rfl ?_
    show Steps p.tables e below (T3.setTop (mkF m 15 #[.val (.ref a), .val (.ref na), .val .null, .val (.int ln)] [(.ref a)])) _
    refine XS.iloadN X3.here hx rfl (hb hby d17_15) rfl ?_
    show Steps p.tables e below (T3.setTop (mkF m 16 #[.val (.ref a), .val (.ref na), .val .null, .val (.int ln)] [(.int ln), (.ref a)])) _
    refine st5 _ ?_
    show Steps p.tables e below (T5.setTop (mkF m 19 #[.val (.ref a), .val (.ref na), .val .null, .val (.int ln)] [])) _
    exact X5.returnOut hx Bd.returns (hb hby d17_19) hr
  · show Q_soI Z a na ln h0 n0 _ T5.heap _
    rw [e5]
    exact ⟨rfl, N5, K5, (((P0.wr W2).wr W3).wr W5)⟩
def Q_rdI (Z : State) (a : Addr) (na : Addr) (tx : Value) (va : Value) (pr : Value) (h0 : Heap) (n0 : Nat) (v : Option Value) (h : Heap) (L : List Loc) : Prop := v = none ∧ Fr n0 L ∧ Keep h0 h [a] ∧ Exa Z h a "com/example/knooppunt/knooppunt/model/Reading" ∧ Fld Z h a "com/example/knooppunt/knooppunt/model/Reading" "value" "Ljava/lang/Object;" va
theorem d19_0 : decode prog_72_method_1_code 0 = .ok (.aload_n 0, 1) := by decide +kernel
theorem d19_1 : decode prog_72_method_1_code 1 = .ok (.invokespecial 1, 3) := by decide +kernel
theorem d19_4 : decode prog_72_method_1_code 4 = .ok (.aload_n 0, 1) := by decide +kernel
theorem d19_5 : decode prog_72_method_1_code 5 = .ok (.aload_n 1, 1) := by decide +kernel
theorem d19_6 : decode prog_72_method_1_code 6 = .ok (.putfield 7, 3) := by decide +kernel
theorem d19_9 : decode prog_72_method_1_code 9 = .ok (.aload_n 0, 1) := by decide +kernel
theorem d19_10 : decode prog_72_method_1_code 10 = .ok (.aload_n 2, 1) := by decide +kernel
theorem d19_11 : decode prog_72_method_1_code 11 = .ok (.putfield 13, 3) := by decide +kernel
theorem d19_14 : decode prog_72_method_1_code 14 = .ok (.aload_n 0, 1) := by decide +kernel
theorem d19_15 : decode prog_72_method_1_code 15 = .ok (.aload_n 3, 1) := by decide +kernel
theorem d19_16 : decode prog_72_method_1_code 16 = .ok (.putfield 16, 3) := by decide +kernel
theorem d19_19 : decode prog_72_method_1_code 19 = .ok (.aload_n 0, 1) := by decide +kernel
theorem d19_20 : decode prog_72_method_1_code 20 = .ok (.aload 4, 2) := by decide +kernel
theorem d19_22 : decode prog_72_method_1_code 22 = .ok (.putfield 20, 3) := by decide +kernel
theorem d19_25 : decode prog_72_method_1_code 25 = .ok (.return_, 1) := by decide +kernel
theorem pn_20 : plainName "com/example/knooppunt/knooppunt/model/Reading" = true := by first | (simp [plainName, overriddenIn]; done) | decide +kernel
theorem ef_19_RRVVV (m : MethodId) (x0 : Addr) (x1 : Addr) (x2 : Value) (hx2 : x2.isRef = true) (x3 : Value) (hx3 : x3.isRef = true) (x4 : Value) (hx4 : x4.isRef = true) : entryFrame m #[(.ref x0), (.ref x1), x2, x3, x4] 5 = mkF m 0 #[.val (.ref x0), .val (.ref x1), .val x2, .val x3, .val x4] [] := by rcases ref_cases hx2 with rfl | ⟨_, rfl⟩ <;> rcases ref_cases hx3 with rfl | ⟨_, rfl⟩ <;> rcases ref_cases hx4 with rfl | ⟨_, rfl⟩ <;> first | (simp [entryFrame, mkF, argsToLocals, Value.category]; done) | rfl
set_option maxRecDepth 65536 in
set_option maxHeartbeats 40000000 in
theorem rdI (l : Launch) (Z : State) (a0 : Array Value) (hw : ∀ d ∈ tables_1, d.before a0 Z = true) (ws : List Jvm.Cond) (a : Addr) (na : Addr) (tx : Value) (va : Value) (pr : Value) (h0 : Heap) (n0 : Nat) (O0 : Old Z n0 h0) (P0 : Exa Z h0 a "com/example/knooppunt/knooppunt/model/Reading") (P1 : Fld Z h0 a "com/example/knooppunt/knooppunt/model/Reading" "name" "Ljava/lang/String;" .null) (P2 : Fld Z h0 a "com/example/knooppunt/knooppunt/model/Reading" "text" "Ljava/lang/String;" .null) (P3 : Fld Z h0 a "com/example/knooppunt/knooppunt/model/Reading" "value" "Ljava/lang/Object;" .null) (P4 : Fld Z h0 a "com/example/knooppunt/knooppunt/model/Reading" "problem" "Ljava/lang/String;" .null) (g_a : n0 ≤ a) (htx : tx.isRef = true) (hva : va.isRef = true) (hpr : pr.isRef = true) :
    MetFree l (⟨"com/example/knooppunt/knooppunt/model/Reading", "<init>", "(Ljava/lang/String;Ljava/lang/String;Ljava/lang/Object;Ljava/lang/String;)V"⟩ : MethodName) (head1 (Jvm.Cond.code (⟨"com/example/knooppunt/knooppunt/model/Reading", "<init>", "(Ljava/lang/String;Ljava/lang/String;Ljava/lang/Object;Ljava/lang/String;)V"⟩ : MethodName) prog_72_method_1_code 5 none :: ws) ({ frames := 2, cells := 0, slots := 0, locals := 24 } : Room)) (fun zA zU => zA = #[(.ref a), (.ref na), tx, va, pr] ∧ Z.Warmed39 zU.vm ∧ zU.heap = h0) (fun _ _ _ _ _ => True) (fun _ zU zo zU' => ∃ zv zL, zo = .returned zv ∧ Q_rdI Z a na tx va pr h0 n0 zv zU'.heap zL ∧ FrameEnd zU zo zU' zL ({ frames := 2, cells := 0, slots := 0, locals := 24 } : Room).cells ({ frames := 2, cells := 0, slots := 0, locals := 24 } : Room).slots) := by
  refine MetFree.of_bodySF (plainFor_of_name pn_20) hisR ?_
  intro p e s m args below meth c s₁ Bd hml0 hP hK
  obtain ⟨rfl, hZ, hh⟩ := hP
  have hx := Bd.exec
  have hby := Bd.bytes
  have hml : c.maxLocals = 5 := hml0
  have hown : s.vm.findClass "com/example/knooppunt/knooppunt/model/Reading" = some m.cls := findClass_of_methodNamed Bd.named
  have hnm := (name_of_methodNamed Bd.named Bd.method).1
  have X0 : Stand p l e ({ frames := 2, cells := 0, slots := 0, locals := 24 } : Room) s m #[(.ref a), (.ref na), tx, va, pr] below meth c s₁ [] 0 0 := Stand.of_body Bd
  have e0 : s₁.heap = h0 := by rw [← hh, Bd.state]; rfl
  have N0 := Fr.nil n0
  have Z0 : n0 ≤ h0.size := O0.1 ▸ O0.2.1
  have pre0 : ∀ zt, Steps p.tables e below (s₁.setTop (mkF m 0 #[.val (.ref a), .val (.ref na), .val tx, .val va, .val pr] [])) zt → Steps p.tables e below (s₁.setTop (entryFrame m #[(.ref a), (.ref na), tx, va, pr] 5)) zt := fun zt zk => castTop (ef_19_RRVVV m a na tx htx va hva pr hpr) zk
  obtain ⟨_, _, ⟨T1, L1, k1, n1⟩, -, X1, ⟨Lc1, hQ1, l1, y1, z1⟩, st1⟩ := X0.specialBack hx (y := (⟨"java/lang/Record", "<init>", "()V"⟩ : MethodName)) rfl hown (mvT hZ (hw _ (List.mem_of_getElem? (i := 39) rfl))) (mvT hZ (hw _ (List.mem_of_getElem? (i := 19) rfl))) (mvT hZ (hw _ (List.mem_of_getElem? (i := 22) rfl))) (by decide) (backOf (W := 0) (recI l Z a0 hw [] a h0 n0 O0 ) hZ (hw _ (List.mem_of_getElem? (i := 22) rfl)) (hw _ (List.mem_of_getElem? (i := 21) rfl)) (by decide) (by decide)) (g := (mkF m 1 #[.val (.ref a), .val (.ref na), .val tx, .val va, .val pr] [(.ref a)])) rfl (by rw [hml]; rfl) (Steps.refl _) (a := a) (argsL := []) (rest := []) (lenOf pd_9 rfl) rfl (by show 2 * 0 + _ ≤ _; exact Nat.le_of_eq rfl) (hb hby d19_1) (fun _ _ => ⟨rfl, e0, (by decide : 0 + 0 ≤ _), (by decide : 0 + 0 ≤ _)⟩)
  dsimp only [Pt.U, Pt.locs, Pt.cells, Pt.slots] at X1 l1 y1 z1 st1 hQ1
  subst l1 y1 z1
  obtain ⟨rfl, Nq1, kh1⟩ := hQ1
  have N1 := Fr.app N0 Nq1
  obtain ⟨T2, h2, X2, e2, W2, st2⟩ := putF X1 hx hZ hown (host := "") (Or.inl (hw _ (List.mem_of_getElem? (i := 40) rfl))) Via.refl kh1 P1 P0 (Or.inr ⟨(hw _ (List.mem_of_getElem? (i := 41) rfl)), rfl, hnm⟩) (hw _ (List.mem_of_getElem? (i := 33) rfl)) (ty := (.object "java/lang/String")) (by decide) rfl rfl (g := (mkF m 6 #[.val (.ref a), .val (.ref na), .val tx, .val va, .val pr] [(.ref na), (.ref a)])) rfl rfl (hb hby d19_6)
  have Fw2 := P1.same W2
  have O2 := O0.wr W2 g_a
  have K2 : Keep h0 h2 [a] := (Keep.refl h0 [a]).wr W2 (Or.inl (List.mem_of_getElem? (i := 0) rfl))
  have N2 := Fr.snoc X2 N1 g_a
  have c4 : Fld Z h2 a "com/example/knooppunt/knooppunt/model/Reading" "text" "Ljava/lang/String;" .null := (P2.other W2 (Or.inr (slot_ne (Or.inr (hw _ (List.mem_of_getElem? (i := 43) rfl))) (Or.inr (hw _ (List.mem_of_getElem? (i := 41) rfl))) (by decide) (t := (.object "java/lang/String")) (t' := (.object "java/lang/String")) (by decide) (by decide))))
  obtain ⟨T3, h3, X3, e3, W3, st3⟩ := putF X2 hx hZ hown (host := "") (Or.inl (hw _ (List.mem_of_getElem? (i := 42) rfl))) Via.refl e2 c4 (P0.wr W2) (Or.inr ⟨(hw _ (List.mem_of_getElem? (i := 43) rfl)), rfl, hnm⟩) (hw _ (List.mem_of_getElem? (i := 33) rfl)) (ty := (.object "java/lang/String")) (by decide) (own_nar htx) (own_fit htx) (g := (mkF m 11 #[.val (.ref a), .val (.ref na), .val tx, .val va, .val pr] [tx, (.ref a)])) rfl rfl (hb hby d19_11)
  have Fw3 := c4.same W3
  have O3 := O2.wr W3 g_a
  have K3 : Keep h0 h3 [a] := K2.wr W3 (Or.inl (List.mem_of_getElem? (i := 0) rfl))
  have N3 := Fr.snoc X3 N2 g_a
  have c6 : Fld Z h3 a "com/example/knooppunt/knooppunt/model/Reading" "value" "Ljava/lang/Object;" .null := ((P3.other W2 (Or.inr (slot_ne (Or.inr (hw _ (List.mem_of_getElem? (i := 45) rfl))) (Or.inr (hw _ (List.mem_of_getElem? (i := 41) rfl))) (by decide) (t := (.object "java/lang/Object")) (t' := (.object "java/lang/String")) (by decide) (by decide)))).other W3 (Or.inr (slot_ne (Or.inr (hw _ (List.mem_of_getElem? (i := 45) rfl))) (Or.inr (hw _ (List.mem_of_getElem? (i := 43) rfl))) (by decide) (t := (.object "java/lang/Object")) (t' := (.object "java/lang/String")) (by decide) (by decide))))
  obtain ⟨T5, h5, X5, e5, W5, st5⟩ := putF X3 hx hZ hown (host := "") (Or.inl (hw _ (List.mem_of_getElem? (i := 44) rfl))) Via.refl e3 c6 ((P0.wr W2).wr W3) (Or.inr ⟨(hw _ (List.mem_of_getElem? (i := 45) rfl)), rfl, hnm⟩) (hw _ (List.mem_of_getElem? (i := 33) rfl)) (ty := (.object "java/lang/Object")) (by decide) (own_nar hva) (own_fit hva) (g := (mkF m 16 #[.val (.ref a), .val (.ref na), .val tx, .val va, .val pr] [va, (.ref a)])) rfl rfl (hb hby d19_16)
  have Fw5 := c6.same W5
  have O5 := O3.wr W5 g_a
  have K5 : Keep h0 h5 [a] := K3.wr W5 (Or.inl (List.mem_of_getElem? (i := 0) rfl))
  have N5 := Fr.snoc X5 N3 g_a
  have c8 : Fld Z h5 a "com/example/knooppunt/knooppunt/model/Reading" "problem" "Ljava/lang/String;" .null := (((P4.other W2 (Or.inr (slot_ne (Or.inr (hw _ (List.mem_of_getElem? (i := 47) rfl))) (Or.inr (hw _ (List.mem_of_getElem? (i := 41) rfl))) (by decide) (t := (.object "java/lang/String")) (t' := (.object "java/lang/String")) (by decide) (by decide)))).other W3 (Or.inr (slot_ne (Or.inr (hw _ (List.mem_of_getElem? (i := 47) rfl))) (Or.inr (hw _ (List.mem_of_getElem? (i := 43) rfl))) (by decide) (t := (.object "java/lang/String")) (t' := (.object "java/lang/String")) (by decide) (by decide)))).other W5 (Or.inr (slot_ne (Or.inr (hw _ (List.mem_of_getElem? (i := 47) rfl))) (Or.inr (hw _ (List.mem_of_getElem? (i := 45) rfl))) (by decide) (t := (.object "java/lang/String")) (t' := (.object "java/lang/Object")) (by decide) (by decide))))
  obtain ⟨T7, h7, X7, e7, W7, st7⟩ := putF X5 hx hZ hown (host := "") (Or.inl (hw _ (List.mem_of_getElem? (i := 46) rfl))) Via.refl e5 c8 (((P0.wr W2).wr W3).wr W5) (Or.inr ⟨(hw _ (List.mem_of_getElem? (i := 47) rfl)), rfl, hnm⟩) (hw _ (List.mem_of_getElem? (i := 33) rfl)) (ty := (.object "java/lang/String")) (by decide) (own_nar hpr) (own_fit hpr) (g := (mkF m 22 #[.val (.ref a), .val (.ref na), .val tx, .val va, .val pr] [pr, (.ref a)])) rfl rfl (hb hby d19_22)
  have Fw7 := c8.same W7
  have O7 := O5.wr W7 g_a
  have K7 : Keep h0 h7 [a] := K5.wr W7 (Or.inl (List.mem_of_getElem? (i := 0) rfl))
  have N7 := Fr.snoc X7 N5 g_a
  have c9 : Fld Z h7 a "com/example/knooppunt/knooppunt/model/Reading" "value" "Ljava/lang/Object;" va := (Fw5.other W7 (Or.inr (slot_ne (Or.inr (hw _ (List.mem_of_getElem? (i := 45) rfl))) (Or.inr (hw _ (List.mem_of_getElem? (i := 47) rfl))) (by decide) (t := (.object "java/lang/Object")) (t' := (.object "java/lang/String")) (by decide) (by decide))))
  obtain ⟨fs, hr, hrun, hended, hW, hsame⟩ := X7.leave (v := none) (fun _ => rfl)
  refine ⟨_, _, pre0 _ ?_, hrun, hended, _, _, rfl, ?_, ⟨_, rfl⟩, hW, hsame.mono (by decide) (by decide)⟩
  · show Steps p.tables e below (s₁.setTop (mkF m 0 #[.val (.ref a), .val (.ref na), .val tx, .val va, .val pr] [])) _
    refine XS.aloadN X0.here hx rfl (hb hby d19_0) rfl rfl ?_
    show Steps p.tables e below (s₁.setTop (mkF m 1 #[.val (.ref a), .val (.ref na), .val tx, .val va, .val pr] [(.ref a)])) _
    refine st1.trans ?_
    show Steps p.tables e below (T1.setTop (mkF m 4 #[.val (.ref a), .val (.ref na), .val tx, .val va, .val pr] [])) _
    refine XS.aloadN X1.here hx rfl (hb hby d19_4) rfl rfl ?_
    show Steps p.tables e below (T1.setTop (mkF m 5 #[.val (.ref a), .val (.ref na), .val tx, .val va, .val pr] [(.ref a)])) _
    refine XS.aloadN X1.here hx rfl (hb hby d19_5) rfl rfl ?_
    show Steps p.tables e below (T1.setTop (mkF m 6 #[.val (.ref a), .val (.ref na), .val tx, .val va, .val pr] [(.ref na), (.ref a)])) _
    refine st2 _ ?_
    show Steps p.tables e below (T2.setTop (mkF m 9 #[.val (.ref a), .val (.ref na), .val tx, .val va, .val pr] [])) _
    refine XS.aloadN X2.here hx rfl (hb hby d19_9) rfl rfl ?_
    show Steps p.tables e below (T2.setTop (mkF m 10 #[.val (.ref a), .val (.ref na), .val tx, .val va, .val pr] [(.ref a)])) _
    refine XS.aloadN X2.here hx rfl (hb hby d19_10) rfl htx ?_
    show Steps p.tables e below (T2.setTop (mkF m 11 #[.val (.ref a), .val (.ref na), .val tx, .val va, .val pr] [tx, (.ref a)])) _
    refine st3 _ ?_
    show Steps p.tables e below (T3.setTop (mkF m 14 #[.val (.ref a), .val (.ref na), .val tx, .val va, .val pr] [])) _
    refine XS.aloadN X3.here hx rfl (hb hby d19_14) rfl rfl ?_
    show Steps p.tables e below (T3.setTop (mkF m 15 #[.val (.ref a), .val (.ref na), .val tx, .val va, .val pr] [(.ref a)])) _
    refine XS.aloadN X3.here hx rfl (hb hby d19_15) rfl hva ?_
    show Steps p.tables e below (T3.setTop (mkF m 16 #[.val (.ref a), .val (.ref na), .val tx, .val va, .val pr] [va, (.ref a)])) _
    refine st5 _ ?_
    show Steps p.tables e below (T5.setTop (mkF m 19 #[.val (.ref a), .val (.ref na), .val tx, .val va, .val pr] [])) _
    refine XS.aloadN X5.here hx rfl (hb hby d19_19) rfl rfl ?_
    show Steps p.tables e below (T5.setTop (mkF m 20 #[.val (.ref a), .val (.ref na), .val tx, .val va, .val pr] [(.ref a)])) _
    refine XS.aload X5.here hx rfl (hb hby d19_20) rfl hpr ?_
    show Steps p.tables e below (T5.setTop (mkF m 22 #[.val (.ref a), .val (.ref na), .val tx, .val va, .val pr] [pr, (.ref a)])) _
    refine st7 _ ?_
    show Steps p.tables e below (T7.setTop (mkF m 25 #[.val (.ref a), .val (.ref na), .val tx, .val va, .val pr] [])) _
    exact X7.returnOut hx Bd.returns (hb hby d19_25) hr
  · show Q_rdI Z a na tx va pr h0 n0 _ T7.heap _
    rw [e7]
    exact ⟨rfl, N7, K7, ((((P0.wr W2).wr W3).wr W5).wr W7), c9⟩
def Q_rtI (Z : State) (a : Addr) (so : Addr) (l1 : Addr) (l2 : Addr) (h0 : Heap) (n0 : Nat) (v : Option Value) (h : Heap) (L : List Loc) : Prop := v = none ∧ Fr n0 L ∧ Keep h0 h [a] ∧ Exa Z h a "com/example/knooppunt/knooppunt/reader/TimetableElements$Route" ∧ Fld Z h a "com/example/knooppunt/knooppunt/reader/TimetableElements$Route" "lineRef" "Lcom/example/knooppunt/knooppunt/model/Reading;" (.ref l1) ∧ Fld Z h a "com/example/knooppunt/knooppunt/reader/TimetableElements$Route" "flexibleLineRef" "Lcom/example/knooppunt/knooppunt/model/Reading;" (.ref l2)
theorem d21_0 : decode prog_173_method_1_code 0 = .ok (.aload_n 0, 1) := by decide +kernel
theorem d21_1 : decode prog_173_method_1_code 1 = .ok (.invokespecial 1, 3) := by decide +kernel
theorem d21_4 : decode prog_173_method_1_code 4 = .ok (.aload_n 0, 1) := by decide +kernel
theorem d21_5 : decode prog_173_method_1_code 5 = .ok (.aload_n 1, 1) := by decide +kernel
theorem d21_6 : decode prog_173_method_1_code 6 = .ok (.putfield 7, 3) := by decide +kernel
theorem d21_9 : decode prog_173_method_1_code 9 = .ok (.aload_n 0, 1) := by decide +kernel
theorem d21_10 : decode prog_173_method_1_code 10 = .ok (.aload_n 2, 1) := by decide +kernel
theorem d21_11 : decode prog_173_method_1_code 11 = .ok (.putfield 13, 3) := by decide +kernel
theorem d21_14 : decode prog_173_method_1_code 14 = .ok (.aload_n 0, 1) := by decide +kernel
theorem d21_15 : decode prog_173_method_1_code 15 = .ok (.aload_n 3, 1) := by decide +kernel
theorem d21_16 : decode prog_173_method_1_code 16 = .ok (.putfield 17, 3) := by decide +kernel
theorem d21_19 : decode prog_173_method_1_code 19 = .ok (.return_, 1) := by decide +kernel
theorem pn_22 : plainName "com/example/knooppunt/knooppunt/reader/TimetableElements$Route" = true := by first | (simp [plainName, overriddenIn]; done) | decide +kernel
theorem ef_21_RRRR (m : MethodId) (x0 : Addr) (x1 : Addr) (x2 : Addr) (x3 : Addr) : entryFrame m #[(.ref x0), (.ref x1), (.ref x2), (.ref x3)] 4 = mkF m 0 #[.val (.ref x0), .val (.ref x1), .val (.ref x2), .val (.ref x3)] [] := by first | (simp [entryFrame, mkF, argsToLocals, Value.category]; done) | rfl
set_option maxRecDepth 65536 in
set_option maxHeartbeats 40000000 in
theorem rtI (l : Launch) (Z : State) (a0 : Array Value) (hw : ∀ d ∈ tables_1, d.before a0 Z = true) (ws : List Jvm.Cond) (a : Addr) (so : Addr) (l1 : Addr) (l2 : Addr) (h0 : Heap) (n0 : Nat) (O0 : Old Z n0 h0) (P0 : Exa Z h0 a "com/example/knooppunt/knooppunt/reader/TimetableElements$Route") (P1 : Fld Z h0 a "com/example/knooppunt/knooppunt/reader/TimetableElements$Route" "source" "Lcom/example/knooppunt/knooppunt/reader/Source;" .null) (P2 : Fld Z h0 a "com/example/knooppunt/knooppunt/reader/TimetableElements$Route" "lineRef" "Lcom/example/knooppunt/knooppunt/model/Reading;" .null) (P3 : Fld Z h0 a "com/example/knooppunt/knooppunt/reader/TimetableElements$Route" "flexibleLineRef" "Lcom/example/knooppunt/knooppunt/model/Reading;" .null) (g_a : n0 ≤ a) :
    MetFree l (⟨"com/example/knooppunt/knooppunt/reader/TimetableElements$Route", "<init>", "(Lcom/example/knooppunt/knooppunt/reader/Source;Lcom/example/knooppunt/knooppunt/model/Reading;Lcom/example/knooppunt/knooppunt/model/Reading;)V"⟩ : MethodName) (head1 (Jvm.Cond.code (⟨"com/example/knooppunt/knooppunt/reader/TimetableElements$Route", "<init>", "(Lcom/example/knooppunt/knooppunt/reader/Source;Lcom/example/knooppunt/knooppunt/model/Reading;Lcom/example/knooppunt/knooppunt/model/Reading;)V"⟩ : MethodName) prog_173_method_1_code 4 none :: ws) ({ frames := 2, cells := 0, slots := 0, locals := 24 } : Room)) (fun zA zU => zA = #[(.ref a), (.ref so), (.ref l1), (.ref l2)] ∧ Z.Warmed39 zU.vm ∧ zU.heap = h0) (fun _ _ _ _ _ => True) (fun _ zU zo zU' => ∃ zv zL, zo = .returned zv ∧ Q_rtI Z a so l1 l2 h0 n0 zv zU'.heap zL ∧ FrameEnd zU zo zU' zL ({ frames := 2, cells := 0, slots := 0, locals := 24 } : Room).cells ({ frames := 2, cells := 0, slots := 0, locals := 24 } : Room).slots) := by
  refine MetFree.of_bodySF (plainFor_of_name pn_22) hisR ?_
  intro p e s m args below meth c s₁ Bd hml0 hP hK
  obtain ⟨rfl, hZ, hh⟩ := hP
  have hx := Bd.exec
  have hby := Bd.bytes
  have hml : c.maxLocals = 4 := hml0
  have hown : s.vm.findClass "com/example/knooppunt/knooppunt/reader/TimetableElements$Route" = some m.cls := findClass_of_methodNamed Bd.named
  have hnm := (name_of_methodNamed Bd.named Bd.method).1
  have X0 : Stand p l e ({ frames := 2, cells := 0, slots := 0, locals := 24 } : Room) s m #[(.ref a), (.ref so), (.ref l1), (.ref l2)] below meth c s₁ [] 0 0 := Stand.of_body Bd
  have e0 : s₁.heap = h0 := by rw [← hh, Bd.state]; rfl
  have N0 := Fr.nil n0
  have Z0 : n0 ≤ h0.size := O0.1 ▸ O0.2.1
  have pre0 : ∀ zt, Steps p.tables e below (s₁.setTop (mkF m 0 #[.val (.ref a), .val (.ref so), .val (.ref l1), .val (.ref l2)] [])) zt → Steps p.tables e below (s₁.setTop (entryFrame m #[(.ref a), (.ref so), (.ref l1), (.ref l2)] 4)) zt := fun zt zk => castTop (ef_21_RRRR m a so l1 l2) zk
  obtain ⟨_, _, ⟨T1, L1, k1, n1⟩, -, X1, ⟨Lc1, hQ1, l1, y1, z1⟩, st1⟩ := X0.specialBack hx (y := (⟨"java/lang/Record", "<init>", "()V"⟩ : MethodName)) rfl hown (mvT hZ (hw _ (List.mem_of_getElem? (i := 55) rfl))) (mvT hZ (hw _ (List.mem_of_getElem? (i := 19) rfl))) (mvT hZ (hw _ (List.mem_of_getElem? (i := 22) rfl))) (by decide) (backOf (W := 0) (recI l Z a0 hw [] a h0 n0 O0 ) hZ (hw _ (List.mem_of_getElem? (i := 22) rfl)) (hw _ (List.mem_of_getElem? (i := 21) rfl)) (by decide) (by decide)) (g := (mkF m 1 #[.val (.ref a), .val (.ref so), .val (.ref l1), .val (.ref l2)] [(.ref a)])) rfl (by rw [hml]; rfl) (Steps.refl _) (a := a) (argsL := []) (rest := []) (lenOf pd_9 rfl) rfl (by show 2 * 0 + _ ≤ _; exact Nat.le_of_eq rfl) (hb hby d21_1) (fun _ _ => ⟨rfl, e0, (by decide : 0 + 0 ≤ _), (by decide : 0 + 0 ≤ _)⟩)
  dsimp only [Pt.U, Pt.locs, Pt.cells, Pt.slots] at X1 l1 y1 z1 st1 hQ1
  subst l1 y1 z1
  obtain ⟨rfl, Nq1, kh1⟩ := hQ1
  have N1 := Fr.app N0 Nq1
  obtain ⟨T2, h2, X2, e2, W2, st2⟩ := putF X1 hx hZ hown (host := "") (Or.inl (hw _ (List.mem_of_getElem? (i := 56) rfl))) Via.refl kh1 P1 P0 (Or.inr ⟨(hw _ (List.mem_of_getElem? (i := 57) rfl)), rfl, hnm⟩) (hw _ (List.mem_of_getElem? (i := 50) rfl)) (ty := (.object "com/example/knooppunt/knooppunt/reader/Source")) (by decide) rfl rfl (g := (mkF m 6 #[.val (.ref a), .val (.ref so), .val (.ref l1), .val (.ref l2)] [(.ref so), (.ref a)])) rfl rfl (hb hby d21_6)
  have Fw2 := P1.same W2
  have O2 := O0.wr W2 g_a
  have K2 : Keep h0 h2 [a] := (Keep.refl h0 [a]).wr W2 (Or.inl (List.mem_of_getElem? (i := 0) rfl))
  have N2 := Fr.snoc X2 N1 g_a
  have c4 : Fld Z h2 a "com/example/knooppunt/knooppunt/reader/TimetableElements$Route" "lineRef" "Lcom/example/knooppunt/knooppunt/model/Reading;" .null := (P2.other W2 (Or.inr (slot_ne (Or.inr (hw _ (List.mem_of_getElem? (i := 59) rfl))) (Or.inr (hw _ (List.mem_of_getElem? (i := 57) rfl))) (by decide) (t := (.object "com/example/knooppunt/knooppunt/model/Reading")) (t' := (.object "com/example/knooppunt/knooppunt/reader/Source")) (by decide) (by decide))))
  obtain ⟨T3, h3, X3, e3, W3, st3⟩ := putF X2 hx hZ hown (host := "") (Or.inl (hw _ (List.mem_of_getElem? (i := 58) rfl))) Via.refl e2 c4 (P0.wr W2) (Or.inr ⟨(hw _ (List.mem_of_getElem? (i := 59) rfl)), rfl, hnm⟩) (hw _ (List.mem_of_getElem? (i := 50) rfl)) (ty := (.object "com/example/knooppunt/knooppunt/model/Reading")) (by decide) rfl rfl (g := (mkF m 11 #[.val (.ref a), .val (.ref so), .val (.ref l1), .val (.ref l2)] [(.ref l1), (.ref a)])) rfl rfl (hb hby d21_11)
  have Fw3 := c4.same W3
  have O3 := O2.wr W3 g_a
  have K3 : Keep h0 h3 [a] := K2.wr W3 (Or.inl (List.mem_of_getElem? (i := 0) rfl))
  have N3 := Fr.snoc X3 N2 g_a
  have c6 : Fld Z h3 a "com/example/knooppunt/knooppunt/reader/TimetableElements$Route" "flexibleLineRef" "Lcom/example/knooppunt/knooppunt/model/Reading;" .null := ((P3.other W2 (Or.inr (slot_ne (Or.inr (hw _ (List.mem_of_getElem? (i := 61) rfl))) (Or.inr (hw _ (List.mem_of_getElem? (i := 57) rfl))) (by decide) (t := (.object "com/example/knooppunt/knooppunt/model/Reading")) (t' := (.object "com/example/knooppunt/knooppunt/reader/Source")) (by decide) (by decide)))).other W3 (Or.inr (slot_ne (Or.inr (hw _ (List.mem_of_getElem? (i := 61) rfl))) (Or.inr (hw _ (List.mem_of_getElem? (i := 59) rfl))) (by decide) (t := (.object "com/example/knooppunt/knooppunt/model/Reading")) (t' := (.object "com/example/knooppunt/knooppunt/model/Reading")) (by decide) (by decide))))
  obtain ⟨T5, h5, X5, e5, W5, st5⟩ := putF X3 hx hZ hown (host := "") (Or.inl (hw _ (List.mem_of_getElem? (i := 60) rfl))) Via.refl e3 c6 ((P0.wr W2).wr W3) (Or.inr ⟨(hw _ (List.mem_of_getElem? (i := 61) rfl)), rfl, hnm⟩) (hw _ (List.mem_of_getElem? (i := 50) rfl)) (ty := (.object "com/example/knooppunt/knooppunt/model/Reading")) (by decide) rfl rfl (g := (mkF m 16 #[.val (.ref a), .val (.ref so), .val (.ref l1), .val (.ref l2)] [(.ref l2), (.ref a)])) rfl rfl (hb hby d21_16)
  have Fw5 := c6.same W5
  have O5 := O3.wr W5 g_a
  have K5 : Keep h0 h5 [a] := K3.wr W5 (Or.inl (List.mem_of_getElem? (i := 0) rfl))
  have N5 := Fr.snoc X5 N3 g_a
  have c7 : Fld Z h5 a "com/example/knooppunt/knooppunt/reader/TimetableElements$Route" "lineRef" "Lcom/example/knooppunt/knooppunt/model/Reading;" (.ref l1) := (Fw3.other W5 (Or.inr (slot_ne (Or.inr (hw _ (List.mem_of_getElem? (i := 59) rfl))) (Or.inr (hw _ (List.mem_of_getElem? (i := 61) rfl))) (by decide) (t := (.object "com/example/knooppunt/knooppunt/model/Reading")) (t' := (.object "com/example/knooppunt/knooppunt/model/Reading")) (by decide) (by decide))))
  obtain ⟨fs, hr, hrun, hended, hW, hsame⟩ := X5.leave (v := none) (fun _ => rfl)
  refine ⟨_, _, pre0 _ ?_, hrun, hended, _, _, rfl, ?_, ⟨_, rfl⟩, hW, hsame.mono (by decide) (by decide)⟩
  · show Steps p.tables e below (s₁.setTop (mkF m 0 #[.val (.ref a), .val (.ref so), .val (.ref l1), .val (.ref l2)] [])) _
    refine XS.aloadN X0.here hx rfl (hb hby d21_0) rfl rfl ?_
    show Steps p.tables e below (s₁.setTop (mkF m 1 #[.val (.ref a), .val (.ref so), .val (.ref l1), .val (.ref l2)] [(.ref a)])) _
    refine st1.trans ?_
    show Steps p.tables e below (T1.setTop (mkF m 4 #[.val (.ref a), .val (.ref so), .val (.ref l1), .val (.ref l2)] [])) _
    refine XS.aloadN X1.here hx rfl (hb hby d21_4) rfl rfl ?_
    show Steps p.tables e below (T1.setTop (mkF m 5 #[.val (.ref a), .val (.ref so), .val (.ref l1), .val (.ref l2)] [(.ref a)])) _
    refine XS.aloadN X1.here hx rfl (hb hby d21_5) rfl rfl ?_
    show Steps p.tables e below (T1.setTop (mkF m 6 #[.val (.ref a), .val (.ref so), .val (.ref l1), .val (.ref l2)] [(.ref so), (.ref a)])) _
    refine st2 _ ?_
    show Steps p.tables e below (T2.setTop (mkF m 9 #[.val (.ref a), .val (.ref so), .val (.ref l1), .val (.ref l2)] [])) _
    refine XS.aloadN X2.here hx rfl (hb hby d21_9) rfl rfl ?_
    show Steps p.tables e below (T2.setTop (mkF m 10 #[.val (.ref a), .val (.ref so), .val (.ref l1), .val (.ref l2)] [(.ref a)])) _
    refine XS.aloadN X2.here hx rfl (hb hby d21_10) rfl rfl ?_
    show Steps p.tables e below (T2.setTop (mkF m 11 #[.val (.ref a), .val (.ref so), .val (.ref l1), .val (.ref l2)] [(.ref l1), (.ref a)])) _
    refine st3 _ ?_
    show Steps p.tables e below (T3.setTop (mkF m 14 #[.val (.ref a), .val (.ref so), .val (.ref l1), .val (.ref l2)] [])) _
    refine XS.aloadN X3.here hx rfl (hb hby d21_14) rfl rfl ?_
    show Steps p.tables e below (T3.setTop (mkF m 15 #[.val (.ref a), .val (.ref so), .val (.ref l1), .val (.ref l2)] [(.ref a)])) _
    refine XS.aloadN X3.here hx rfl (hb hby d21_15) rfl rfl ?_
    show Steps p.tables e below (T3.setTop (mkF m 16 #[.val (.ref a), .val (.ref so), .val (.ref l1), .val (.ref l2)] [(.ref l2), (.ref a)])) _
    refine st5 _ ?_
    show Steps p.tables e below (T5.setTop (mkF m 19 #[.val (.ref a), .val (.ref so), .val (.ref l1), .val (.ref l2)] [])) _
    exact X5.returnOut hx Bd.returns (hb hby d21_19) hr
  · show Q_rtI Z a so l1 l2 h0 n0 _ T5.heap _
    rw [e5]
    exact ⟨rfl, N5, K5, (((P0.wr W2).wr W3).wr W5), c7, Fw5⟩
def Q_vaR (Z : State) (a : Addr) (r : Addr) (h0 : Heap) (n0 : Nat) (v : Option Value) (h : Heap) (L : List Loc) : Prop := v = some (.ref r) ∧ Fr n0 L ∧ h = h0
theorem d23_0 : decode prog_72_method_9_code 0 = .ok (.aload_n 0, 1) := by decide +kernel
theorem d23_1 : decode prog_72_method_9_code 1 = .ok (.getfield 16, 3) := by decide +kernel
theorem d23_4 : decode prog_72_method_9_code 4 = .ok (.areturn, 1) := by decide +kernel
theorem ef_23_R (m : MethodId) (x0 : Addr) : entryFrame m #[(.ref x0)] 1 = mkF m 0 #[.val (.ref x0)] [] := by first | (simp [entryFrame, mkF, argsToLocals, Value.category]; done) | rfl
set_option maxRecDepth 65536 in
set_option maxHeartbeats 40000000 in
theorem vaR (l : Launch) (Z : State) (a0 : Array Value) (hw : ∀ d ∈ tables_1, d.before a0 Z = true) (ws : List Jvm.Cond) (a : Addr) (r : Addr) (h0 : Heap) (n0 : Nat) (O0 : Old Z n0 h0) (P0 : Fld Z h0 a "com/example/knooppunt/knooppunt/model/Reading" "value" "Ljava/lang/Object;" (.ref r)) :
    MetFree l (⟨"com/example/knooppunt/knooppunt/model/Reading", "value", "()Ljava/lang/Object;"⟩ : MethodName) (head1 (Jvm.Cond.code (⟨"com/example/knooppunt/knooppunt/model/Reading", "value", "()Ljava/lang/Object;"⟩ : MethodName) prog_72_method_9_code 1 (some (.object "java/lang/Object")) :: ws) ({ frames := 0, cells := 0, slots := 0, locals := 0 } : Room)) (fun zA zU => zA = #[(.ref a)] ∧ Z.Warmed39 zU.vm ∧ zU.heap = h0) (fun _ _ _ _ _ => True) (fun _ zU zo zU' => ∃ zv zL, zo = .returned zv ∧ Q_vaR Z a r h0 n0 zv zU'.heap zL ∧ FrameEnd zU zo zU' zL ({ frames := 0, cells := 0, slots := 0, locals := 0 } : Room).cells ({ frames := 0, cells := 0, slots := 0, locals := 0 } : Room).slots) := by
  refine MetFree.of_bodySF (plainFor_of_name pn_20) hisR ?_
  intro p e s m args below meth c s₁ Bd hml0 hP hK
  obtain ⟨rfl, hZ, hh⟩ := hP
  have hx := Bd.exec
  have hby := Bd.bytes
  have hml : c.maxLocals = 1 := hml0
  have hown : s.vm.findClass "com/example/knooppunt/knooppunt/model/Reading" = some m.cls := findClass_of_methodNamed Bd.named
  have hnm := (name_of_methodNamed Bd.named Bd.method).1
  have X0 : Stand p l e ({ frames := 0, cells := 0, slots := 0, locals := 0 } : Room) s m #[(.ref a)] below meth c s₁ [] 0 0 := Stand.of_body Bd
  have e0 : s₁.heap = h0 := by rw [← hh, Bd.state]; rfl
  have N0 := Fr.nil n0
  have Z0 : n0 ≤ h0.size := O0.1 ▸ O0.2.1
  have pre0 : ∀ zt, Steps p.tables e below (s₁.setTop (mkF m 0 #[.val (.ref a)] [])) zt → Steps p.tables e below (s₁.setTop (entryFrame m #[(.ref a)] 1)) zt := fun zt zk => castTop (ef_23_R m a) zk
  obtain ⟨T1, X1, e1, st1⟩ := getF X0 hx hZ hown (host := "") (Or.inl (hw _ (List.mem_of_getElem? (i := 44) rfl))) Via.refl e0 P0 (g := (mkF m 1 #[.val (.ref a)] [(.ref a)])) rfl rfl (hb hby d23_1)
  obtain ⟨fs, hr, hrun, hended, hW, hsame⟩ := X1.leave (v := some (.ref r)) (fun h => by rw [Bd.returns] at h; cases h)
  refine ⟨_, _, pre0 _ ?_, hrun, hended, _, _, rfl, ?_, ⟨_, rfl⟩, hW, hsame.mono (by decide) (by decide)⟩
  · show Steps p.tables e below (s₁.setTop (mkF m 0 #[.val (.ref a)] [])) _
    refine XS.aloadN X0.here hx rfl (hb hby d23_0) rfl rfl ?_
    show Steps p.tables e below (s₁.setTop (mkF m 1 #[.val (.ref a)] [(.ref a)])) _
    refine st1 _ ?_
    show Steps p.tables e below (T1.setTop (mkF m 4 #[.val (.ref a)] [(.ref r)])) _
    jvm_step X1.here [X1.here.top, hx, (hb hby d23_4), X1.method', Bd.returns, Value.isRef, FieldType.isReference]
    first | (intro acts; rw [hr _ acts rfl rfl rfl]) | rw [hr _ _ rfl rfl rfl]
    exact Steps.refl _
  · show Q_vaR Z a r h0 n0 _ T1.heap _
    rw [e1]
    exact ⟨rfl, N0, rfl⟩
def Q_vaN (Z : State) (a : Addr) (h0 : Heap) (n0 : Nat) (v : Option Value) (h : Heap) (L : List Loc) : Prop := v = some .null ∧ Fr n0 L ∧ h = h0
set_option maxRecDepth 65536 in
set_option maxHeartbeats 40000000 in
theorem vaN (l : Launch) (Z : State) (a0 : Array Value) (hw : ∀ d ∈ tables_1, d.before a0 Z = true) (ws : List Jvm.Cond) (a : Addr) (h0 : Heap) (n0 : Nat) (O0 : Old Z n0 h0) (P0 : Fld Z h0 a "com/example/knooppunt/knooppunt/model/Reading" "value" "Ljava/lang/Object;" .null) :
    MetFree l (⟨"com/example/knooppunt/knooppunt/model/Reading", "value", "()Ljava/lang/Object;"⟩ : MethodName) (head1 (Jvm.Cond.code (⟨"com/example/knooppunt/knooppunt/model/Reading", "value", "()Ljava/lang/Object;"⟩ : MethodName) prog_72_method_9_code 1 (some (.object "java/lang/Object")) :: ws) ({ frames := 0, cells := 0, slots := 0, locals := 0 } : Room)) (fun zA zU => zA = #[(.ref a)] ∧ Z.Warmed39 zU.vm ∧ zU.heap = h0) (fun _ _ _ _ _ => True) (fun _ zU zo zU' => ∃ zv zL, zo = .returned zv ∧ Q_vaN Z a h0 n0 zv zU'.heap zL ∧ FrameEnd zU zo zU' zL ({ frames := 0, cells := 0, slots := 0, locals := 0 } : Room).cells ({ frames := 0, cells := 0, slots := 0, locals := 0 } : Room).slots) := by
  refine MetFree.of_bodySF (plainFor_of_name pn_20) hisR ?_
  intro p e s m args below meth c s₁ Bd hml0 hP hK
  obtain ⟨rfl, hZ, hh⟩ := hP
  have hx := Bd.exec
  have hby := Bd.bytes
  have hml : c.maxLocals = 1 := hml0
  have hown : s.vm.findClass "com/example/knooppunt/knooppunt/model/Reading" = some m.cls := findClass_of_methodNamed Bd.named
  have hnm := (name_of_methodNamed Bd.named Bd.method).1
  have X0 : Stand p l e ({ frames := 0, cells := 0, slots := 0, locals := 0 } : Room) s m #[(.ref a)] below meth c s₁ [] 0 0 := Stand.of_body Bd
  have e0 : s₁.heap = h0 := by rw [← hh, Bd.state]; rfl
  have N0 := Fr.nil n0
  have Z0 : n0 ≤ h0.size := O0.1 ▸ O0.2.1
  have pre0 : ∀ zt, Steps p.tables e below (s₁.setTop (mkF m 0 #[.val (.ref a)] [])) zt → Steps p.tables e below (s₁.setTop (entryFrame m #[(.ref a)] 1)) zt := fun zt zk => castTop (ef_23_R m a) zk
  obtain ⟨T1, X1, e1, st1⟩ := getF X0 hx hZ hown (host := "") (Or.inl (hw _ (List.mem_of_getElem? (i := 44) rfl))) Via.refl e0 P0 (g := (mkF m 1 #[.val (.ref a)] [(.ref a)])) rfl rfl (hb hby d23_1)
  obtain ⟨fs, hr, hrun, hended, hW, hsame⟩ := X1.leave (v := some .null) (fun h => by rw [Bd.returns] at h; cases h)
  refine ⟨_, _, pre0 _ ?_, hrun, hended, _, _, rfl, ?_, ⟨_, rfl⟩, hW, hsame.mono (by decide) (by decide)⟩
  · show Steps p.tables e below (s₁.setTop (mkF m 0 #[.val (.ref a)] [])) _
    refine XS.aloadN X0.here hx rfl (hb hby d23_0) rfl rfl ?_
    show Steps p.tables e below (s₁.setTop (mkF m 1 #[.val (.ref a)] [(.ref a)])) _
    refine st1 _ ?_
    show Steps p.tables e below (T1.setTop (mkF m 4 #[.val (.ref a)] [.null])) _
    jvm_step X1.here [X1.here.top, hx, (hb hby d23_4), X1.method', Bd.returns, Value.isRef, FieldType.isReference]
    first | (intro acts; rw [hr _ acts rfl rfl rfl]) | rw [hr _ _ rfl rfl rfl]
    exact Steps.refl _
  · show Q_vaN Z a h0 n0 _ T1.heap _
    rw [e1]
    exact ⟨rfl, N0, rfl⟩
def Q_lineR (Z : State) (a : Addr) (l1 : Addr) (r : Addr) (h0 : Heap) (n0 : Nat) (v : Option Value) (h : Heap) (L : List Loc) : Prop := v = some (.ref r) ∧ Fr n0 L ∧ h = h0
theorem d24_0 : decode prog_173_method_2_code 0 = .ok (.aload_n 0, 1) := by decide +kernel
theorem d24_1 : decode prog_173_method_2_code 1 = .ok (.getfield 13, 3) := by decide +kernel
theorem d24_4 : decode prog_173_method_2_code 4 = .ok (.invokevirtual 20, 3) := by decide +kernel
theorem pd_10 : parseMethodDescriptor "()Ljava/lang/Object;" = some ⟨[], some (.object "java/lang/Object")⟩ := by decide +kernel
theorem d24_7 : decode prog_173_method_2_code 7 = .ok (.ifnull 16, 3) := by decide +kernel
theorem d24_10 : decode prog_173_method_2_code 10 = .ok (.aload_n 0, 1) := by decide +kernel
theorem d24_11 : decode prog_173_method_2_code 11 = .ok (.getfield 13, 3) := by decide +kernel
theorem d24_14 : decode prog_173_method_2_code 14 = .ok (.invokevirtual 20, 3) := by decide +kernel
theorem d24_17 : decode prog_173_method_2_code 17 = .ok (.checkcast 26, 3) := by decide +kernel
theorem d24_20 : decode prog_173_method_2_code 20 = .ok (.goto 13, 3) := by decide +kernel
theorem d24_33 : decode prog_173_method_2_code 33 = .ok (.areturn, 1) := by decide +kernel
theorem ef_24_R (m : MethodId) (x0 : Addr) : entryFrame m #[(.ref x0)] 1 = mkF m 0 #[.val (.ref x0)] [] := by first | (simp [entryFrame, mkF, argsToLocals, Value.category]; done) | rfl
set_option maxRecDepth 65536 in
set_option maxHeartbeats 40000000 in
theorem lineR (l : Launch) (Z : State) (a0 : Array Value) (hw : ∀ d ∈ tables_1, d.before a0 Z = true) (ws : List Jvm.Cond) (a : Addr) (l1 : Addr) (r : Addr) (h0 : Heap) (n0 : Nat) (O0 : Old Z n0 h0) (P0 : Fld Z h0 a "com/example/knooppunt/knooppunt/reader/TimetableElements$Route" "lineRef" "Lcom/example/knooppunt/knooppunt/model/Reading;" (.ref l1)) (P1 : Exa Z h0 l1 "com/example/knooppunt/knooppunt/model/Reading") (P2 : Fld Z h0 l1 "com/example/knooppunt/knooppunt/model/Reading" "value" "Ljava/lang/Object;" (.ref r)) (P3 : Exa Z h0 r "java/lang/String") :
    MetFree l (⟨"com/example/knooppunt/knooppunt/reader/TimetableElements$Route", "line", "()Ljava/lang/String;"⟩ : MethodName) (head1 (Jvm.Cond.code (⟨"com/example/knooppunt/knooppunt/reader/TimetableElements$Route", "line", "()Ljava/lang/String;"⟩ : MethodName) prog_173_method_2_code 1 (some (.object "java/lang/String")) :: ws) ({ frames := 1, cells := 0, slots := 0, locals := 12 } : Room)) (fun zA zU => zA = #[(.ref a)] ∧ Z.Warmed39 zU.vm ∧ zU.heap = h0) (fun _ _ _ _ _ => True) (fun _ zU zo zU' => ∃ zv zL, zo = .returned zv ∧ Q_lineR Z a l1 r h0 n0 zv zU'.heap zL ∧ FrameEnd zU zo zU' zL ({ frames := 1, cells := 0, slots := 0, locals := 12 } : Room).cells ({ frames := 1, cells := 0, slots := 0, locals := 12 } : Room).slots) := by
  refine MetFree.of_bodySF (plainFor_of_name pn_22) hisR ?_
  intro p e s m args below meth c s₁ Bd hml0 hP hK
  obtain ⟨rfl, hZ, hh⟩ := hP
  have hx := Bd.exec
  have hby := Bd.bytes
  have hml : c.maxLocals = 1 := hml0
  have hown : s.vm.findClass "com/example/knooppunt/knooppunt/reader/TimetableElements$Route" = some m.cls := findClass_of_methodNamed Bd.named
  have hnm := (name_of_methodNamed Bd.named Bd.method).1
  have X0 : Stand p l e ({ frames := 1, cells := 0, slots := 0, locals := 12 } : Room) s m #[(.ref a)] below meth c s₁ [] 0 0 := Stand.of_body Bd
  have e0 : s₁.heap = h0 := by rw [← hh, Bd.state]; rfl
  have N0 := Fr.nil n0
  have Z0 : n0 ≤ h0.size := O0.1 ▸ O0.2.1
  have pre0 : ∀ zt, Steps p.tables e below (s₁.setTop (mkF m 0 #[.val (.ref a)] [])) zt → Steps p.tables e below (s₁.setTop (entryFrame m #[(.ref a)] 1)) zt := fun zt zk => castTop (ef_24_R m a) zk
  obtain ⟨T1, X1, e1, st1⟩ := getF X0 hx hZ hown (host := "") (Or.inl (hw _ (List.mem_of_getElem? (i := 58) rfl))) Via.refl e0 P0 (g := (mkF m 1 #[.val (.ref a)] [(.ref a)])) rfl rfl (hb hby d24_1)
  obtain ⟨cq2, kq2, q2a, q2b, q2c⟩ := isOf hZ e1 P1
  obtain ⟨_, _, ⟨T2, L2, k2, n2⟩, -, X2, ⟨Lc2, hQ2, l2, y2, z2⟩, st2⟩ := X1.virtualBack hx (y := (⟨"com/example/knooppunt/knooppunt/model/Reading", "value", "()Ljava/lang/Object;"⟩ : MethodName)) (z := (⟨"com/example/knooppunt/knooppunt/model/Reading", "value", "()Ljava/lang/Object;"⟩ : MethodName)) hown (mvT hZ (hw _ (List.mem_of_getElem? (i := 67) rfl))) (mvT hZ (hw _ (List.mem_of_getElem? (i := 68) rfl))) (notFace_of_selects (args := #[]) (mvT hZ (hw _ (List.mem_of_getElem? (i := 70) rfl)))) (mvT hZ (hw _ (List.mem_of_getElem? (i := 70) rfl))) (mvT hZ (hw _ (List.mem_of_getElem? (i := 69) rfl))) (by decide) (backOf (W := 0) (vaR l Z a0 hw [] l1 r h0 n0 O0 P2) hZ (hw _ (List.mem_of_getElem? (i := 71) rfl)) (hw _ (List.mem_of_getElem? (i := 34) rfl)) (by decide) (by decide)) q2a q2c (g := (mkF m 4 #[.val (.ref a)] [(.ref l1)])) rfl (by rw [hml]; rfl) (Steps.refl _) (argsL := []) (rest := []) (lenOf pd_10 rfl) rfl (by show 2 * 0 + _ ≤ _; exact Nat.le_of_eq rfl) (hb hby d24_4) (fun _ _ => ⟨rfl, e1, (by decide : 0 + 0 ≤ _), (by decide : 0 + 0 ≤ _)⟩)
  dsimp only [Pt.U, Pt.locs, Pt.cells, Pt.slots] at X2 l2 y2 z2 st2 hQ2
  subst l2 y2 z2
  obtain ⟨rfl, Nq2, kh2⟩ := hQ2
  have N2 := Fr.app N0 Nq2
  obtain ⟨T3, X3, e3, st3⟩ := getF X2 hx hZ hown (host := "") (Or.inl (hw _ (List.mem_of_getElem? (i := 58) rfl))) Via.refl kh2 P0 (g := (mkF m 11 #[.val (.ref a)] [(.ref a)])) rfl rfl (hb hby d24_11)
  obtain ⟨cq4, kq4, q4a, q4b, q4c⟩ := isOf hZ e3 P1
  obtain ⟨_, _, ⟨T4, L4, k4, n4⟩, -, X4, ⟨Lc4, hQ4, l4, y4, z4⟩, st4⟩ := X3.virtualBack hx (y := (⟨"com/example/knooppunt/knooppunt/model/Reading", "value", "()Ljava/lang/Object;"⟩ : MethodName)) (z := (⟨"com/example/knooppunt/knooppunt/model/Reading", "value", "()Ljava/lang/Object;"⟩ : MethodName)) hown (mvT hZ (hw _ (List.mem_of_getElem? (i := 67) rfl))) (mvT hZ (hw _ (List.mem_of_getElem? (i := 68) rfl))) (notFace_of_selects (args := #[]) (mvT hZ (hw _ (List.mem_of_getElem? (i := 70) rfl)))) (mvT hZ (hw _ (List.mem_of_getElem? (i := 70) rfl))) (mvT hZ (hw _ (List.mem_of_getElem? (i := 69) rfl))) (by decide) (backOf (W := 0) (vaR l Z a0 hw [] l1 r h0 n0 O0 P2) hZ (hw _ (List.mem_of_getElem? (i := 71) rfl)) (hw _ (List.mem_of_getElem? (i := 34) rfl)) (by decide) (by decide)) q4a q4c (g := (mkF m 14 #[.val (.ref a)] [(.ref l1)])) rfl (by rw [hml]; rfl) (Steps.refl _) (argsL := []) (rest := []) (lenOf pd_10 rfl) rfl (by show 2 * 0 + _ ≤ _; exact Nat.le_of_eq rfl) (hb hby d24_14) (fun _ _ => ⟨rfl, e3, (by decide : 0 + 0 ≤ _), (by decide : 0 + 0 ≤ _)⟩)
  dsimp only [Pt.U, Pt.locs, Pt.cells, Pt.slots] at X4 l4 y4 z4 st4 hQ4
  subst l4 y4 z4
  obtain ⟨rfl, Nq4, kh4⟩ := hQ4
  have N4 := Fr.app N2 Nq4
  obtain ⟨T5, X5, e5, st5⟩ := castY X4 hx hZ hown (hw _ (List.mem_of_getElem? (i := 95) rfl)) kh4 (Ins.self P3) (g := (mkF m 17 #[.val (.ref a)] [(.ref r)])) rfl rfl (hb hby d24_17)
  obtain ⟨fs, hr, hrun, hended, hW, hsame⟩ := X5.leave (v := some (.ref r)) (fun h => by rw [Bd.returns] at h; cases h)
  refine ⟨_, _, pre0 _ ?_, hrun, hended, _, _, rfl, ?_, ⟨_, rfl⟩, hW, hsame.mono (by decide) (by decide)⟩
  · show Steps p.tables e below (s₁.setTop (mkF m 0 #[.val (.ref a)] [])) _
    refine XS.aloadN X0.here hx rfl (hb hby d24_0) rfl rfl ?_
    show Steps p.tables e below (s₁.setTop (mkF m 1 #[.val (.ref a)] [(.ref a)])) _
    refine st1 _ ?_
    show Steps p.tables e below (T1.setTop (mkF m 4 #[.val (.ref a)] [(.ref l1)])) _
    refine st2.trans ?_
    show Steps p.tables e below (T2.setTop (mkF m 7 #[.val (.ref a)] [(.ref r)])) _
    refine XS.ifnullNo X2.here hx rfl (hb hby d24_7) rfl ?_
    show Steps p.tables e below (T2.setTop (mkF m 10 #[.val (.ref a)] [])) _
    refine XS.aloadN X2.here hx rfl (hb hby d24_10) rfl rfl ?_
    show Steps p.tables e below (T2.setTop (mkF m 11 #[.val (.ref a)] [(.ref a)])) _
    refine st3 _ ?_
    show Steps p.tables e below (T3.setTop (mkF m 14 #[.val (.ref a)] [(.ref l1)])) _
    refine st4.trans ?_
    show Steps p.tables e below (T4.setTop (mkF m 17 #[.val (.ref a)] [(.ref r)])) _
    refine st5 _ ?_
    show Steps p.tables e below (T5.setTop (mkF m 20 #[.val (.ref a)] [(.ref r)])) _
    refine XS.goto X5.here hx rfl (pc0 := 20) (pc' := 33) rfl (hb hby d24_20) (by decide) (by decide) ?_
    show Steps p.tables e below (T5.setTop (mkF m 33 #[.val (.ref a)] [(.ref r)])) _
    jvm_step X5.here [X5.here.top, hx, (hb hby d24_33), X5.method', Bd.returns, Value.isRef, FieldType.isReference]
    first | (intro acts; rw [hr _ acts rfl rfl rfl]) | rw [hr _ _ rfl rfl rfl]
    exact Steps.refl _
  · show Q_lineR Z a l1 r h0 n0 _ T5.heap _
    rw [e5]
    exact ⟨rfl, N4, rfl⟩
def Q_lineNR (Z : State) (a : Addr) (l1 : Addr) (l2 : Addr) (r : Addr) (h0 : Heap) (n0 : Nat) (v : Option Value) (h : Heap) (L : List Loc) : Prop := v = some (.ref r) ∧ Fr n0 L ∧ h = h0
theorem d24_23 : decode prog_173_method_2_code 23 = .ok (.aload_n 0, 1) := by decide +kernel
theorem d24_24 : decode prog_173_method_2_code 24 = .ok (.getfield 17, 3) := by decide +kernel
theorem d24_27 : decode prog_173_method_2_code 27 = .ok (.invokevirtual 20, 3) := by decide +kernel
theorem d24_30 : decode prog_173_method_2_code 30 = .ok (.checkcast 26, 3) := by decide +kernel
set_option maxRecDepth 65536 in
set_option maxHeartbeats 40000000 in
theorem lineNR (l : Launch) (Z : State) (a0 : Array Value) (hw : ∀ d ∈ tables_1, d.before a0 Z = true) (ws : List Jvm.Cond) (a : Addr) (l1 : Addr) (l2 : Addr) (r : Addr) (h0 : Heap) (n0 : Nat) (O0 : Old Z n0 h0) (P0 : Fld Z h0 a "com/example/knooppunt/knooppunt/reader/TimetableElements$Route" "lineRef" "Lcom/example/knooppunt/knooppunt/model/Reading;" (.ref l1)) (P1 : Exa Z h0 l1 "com/example/knooppunt/knooppunt/model/Reading") (P2 : Fld Z h0 l1 "com/example/knooppunt/knooppunt/model/Reading" "value" "Ljava/lang/Object;" .null) (P3 : Fld Z h0 a "com/example/knooppunt/knooppunt/reader/TimetableElements$Route" "flexibleLineRef" "Lcom/example/knooppunt/knooppunt/model/Reading;" (.ref l2)) (P4 : Exa Z h0 l2 "com/example/knooppunt/knooppunt/model/Reading") (P5 : Fld Z h0 l2 "com/example/knooppunt/knooppunt/model/Reading" "value" "Ljava/lang/Object;" (.ref r)) (P6 : Exa Z h0 r "java/lang/String") :
    MetFree l (⟨"com/example/knooppunt/knooppunt/reader/TimetableElements$Route", "line", "()Ljava/lang/String;"⟩ : MethodName) (head1 (Jvm.Cond.code (⟨"com/example/knooppunt/knooppunt/reader/TimetableElements$Route", "line", "()Ljava/lang/String;"⟩ : MethodName) prog_173_method_2_code 1 (some (.object "java/lang/String")) :: ws) ({ frames := 1, cells := 0, slots := 0, locals := 12 } : Room)) (fun zA zU => zA = #[(.ref a)] ∧ Z.Warmed39 zU.vm ∧ zU.heap = h0) (fun _ _ _ _ _ => True) (fun _ zU zo zU' => ∃ zv zL, zo = .returned zv ∧ Q_lineNR Z a l1 l2 r h0 n0 zv zU'.heap zL ∧ FrameEnd zU zo zU' zL ({ frames := 1, cells := 0, slots := 0, locals := 12 } : Room).cells ({ frames := 1, cells := 0, slots := 0, locals := 12 } : Room).slots) := by
  refine MetFree.of_bodySF (plainFor_of_name pn_22) hisR ?_
  intro p e s m args below meth c s₁ Bd hml0 hP hK
  obtain ⟨rfl, hZ, hh⟩ := hP
  have hx := Bd.exec
  have hby := Bd.bytes
  have hml : c.maxLocals = 1 := hml0
  have hown : s.vm.findClass "com/example/knooppunt/knooppunt/reader/TimetableElements$Route" = some m.cls := findClass_of_methodNamed Bd.named
  have hnm := (name_of_methodNamed Bd.named Bd.method).1
  have X0 : Stand p l e ({ frames := 1, cells := 0, slots := 0, locals := 12 } : Room) s m #[(.ref a)] below meth c s₁ [] 0 0 := Stand.of_body Bd
  have e0 : s₁.heap = h0 := by rw [← hh, Bd.state]; rfl
  have N0 := Fr.nil n0
  have Z0 : n0 ≤ h0.size := O0.1 ▸ O0.2.1
  have pre0 : ∀ zt, Steps p.tables e below (s₁.setTop (mkF m 0 #[.val (.ref a)] [])) zt → Steps p.tables e below (s₁.setTop (entryFrame m #[(.ref a)] 1)) zt := fun zt zk => castTop (ef_24_R m a) zk
  obtain ⟨T1, X1, e1, st1⟩ := getF X0 hx hZ hown (host := "") (Or.inl (hw _ (List.mem_of_getElem? (i := 58) rfl))) Via.refl e0 P0 (g := (mkF m 1 #[.val (.ref a)] [(.ref a)])) rfl rfl (hb hby d24_1)
  obtain ⟨cq2, kq2, q2a, q2b, q2c⟩ := isOf hZ e1 P1
  obtain ⟨_, _, ⟨T2, L2, k2, n2⟩, -, X2, ⟨Lc2, hQ2, l2, y2, z2⟩, st2⟩ := X1.virtualBack hx (y := (⟨"com/example/knooppunt/knooppunt/model/Reading", "value", "()Ljava/lang/Object;"⟩ : MethodName)) (z := (⟨"com/example/knooppunt/knooppunt/model/Reading", "value", "()Ljava/lang/Object;"⟩ : MethodName)) hown (mvT hZ (hw _ (List.mem_of_getElem? (i := 67) rfl))) (mvT hZ (hw _ (List.mem_of_getElem? (i := 68) rfl))) (notFace_of_selects (args := #[]) (mvT hZ (hw _ (List.mem_of_getElem? (i := 70) rfl)))) (mvT hZ (hw _ (List.mem_of_getElem? (i := 70) rfl))) (mvT hZ (hw _ (List.mem_of_getElem? (i := 69) rfl))) (by decide) (backOf (W := 0) (vaN l Z a0 hw [] l1 h0 n0 O0 P2) hZ (hw _ (List.mem_of_getElem? (i := 71) rfl)) (hw _ (List.mem_of_getElem? (i := 34) rfl)) (by decide) (by decide)) q2a q2c (g := (mkF m 4 #[.val (.ref a)] [(.ref l1)])) rfl (by rw [hml]; rfl) (Steps.refl _) (argsL := []) (rest := []) (lenOf pd_10 rfl) rfl (by show 2 * 0 + _ ≤ _; exact Nat.le_of_eq rfl) (hb hby d24_4) (fun _ _ => ⟨rfl, e1, (by decide : 0 + 0 ≤ _), (by decide : 0 + 0 ≤ _)⟩)
  dsimp only [Pt.U, Pt.locs, Pt.cells, Pt.slots] at X2 l2 y2 z2 st2 hQ2
  subst l2 y2 z2
  obtain ⟨rfl, Nq2, kh2⟩ := hQ2
  have N2 := Fr.app N0 Nq2
  obtain ⟨T3, X3, e3, st3⟩ := getF X2 hx hZ hown (host := "") (Or.inl (hw _ (List.mem_of_getElem? (i := 60) rfl))) Via.refl kh2 P3 (g := (mkF m 24 #[.val (.ref a)] [(.ref a)])) rfl rfl (hb hby d24_24)
  obtain ⟨cq4, kq4, q4a, q4b, q4c⟩ := isOf hZ e3 P4
  obtain ⟨_, _, ⟨T4, L4, k4, n4⟩, -, X4, ⟨Lc4, hQ4, l4, y4, z4⟩, st4⟩ := X3.virtualBack hx (y := (⟨"com/example/knooppunt/knooppunt/model/Reading", "value", "()Ljava/lang/Object;"⟩ : MethodName)) (z := (⟨"com/example/knooppunt/knooppunt/model/Reading", "value", "()Ljava/lang/Object;"⟩ : MethodName)) hown (mvT hZ (hw _ (List.mem_of_getElem? (i := 67) rfl))) (mvT hZ (hw _ (List.mem_of_getElem? (i := 68) rfl))) (notFace_of_selects (args := #[]) (mvT hZ (hw _ (List.mem_of_getElem? (i := 70) rfl)))) (mvT hZ (hw _ (List.mem_of_getElem? (i := 70) rfl))) (mvT hZ (hw _ (List.mem_of_getElem? (i := 69) rfl))) (by decide) (backOf (W := 0) (vaR l Z a0 hw [] l2 r h0 n0 O0 P5) hZ (hw _ (List.mem_of_getElem? (i := 71) rfl)) (hw _ (List.mem_of_getElem? (i := 34) rfl)) (by decide) (by decide)) q4a q4c (g := (mkF m 27 #[.val (.ref a)] [(.ref l2)])) rfl (by rw [hml]; rfl) (Steps.refl _) (argsL := []) (rest := []) (lenOf pd_10 rfl) rfl (by show 2 * 0 + _ ≤ _; exact Nat.le_of_eq rfl) (hb hby d24_27) (fun _ _ => ⟨rfl, e3, (by decide : 0 + 0 ≤ _), (by decide : 0 + 0 ≤ _)⟩)
  dsimp only [Pt.U, Pt.locs, Pt.cells, Pt.slots] at X4 l4 y4 z4 st4 hQ4
  subst l4 y4 z4
  obtain ⟨rfl, Nq4, kh4⟩ := hQ4
  have N4 := Fr.app N2 Nq4
  obtain ⟨T5, X5, e5, st5⟩ := castY X4 hx hZ hown (hw _ (List.mem_of_getElem? (i := 95) rfl)) kh4 (Ins.self P6) (g := (mkF m 30 #[.val (.ref a)] [(.ref r)])) rfl rfl (hb hby d24_30)
  obtain ⟨fs, hr, hrun, hended, hW, hsame⟩ := X5.leave (v := some (.ref r)) (fun h => by rw [Bd.returns] at h; cases h)
  refine ⟨_, _, pre0 _ ?_, hrun, hended, _, _, rfl, ?_, ⟨_, rfl⟩, hW, hsame.mono (by decide) (by decide)⟩
  · show Steps p.tables e below (s₁.setTop (mkF m 0 #[.val (.ref a)] [])) _
    refine XS.aloadN X0.here hx rfl (hb hby d24_0) rfl rfl ?_
    show Steps p.tables e below (s₁.setTop (mkF m 1 #[.val (.ref a)] [(.ref a)])) _
    refine st1 _ ?_
    show Steps p.tables e below (T1.setTop (mkF m 4 #[.val (.ref a)] [(.ref l1)])) _
    refine st2.trans ?_
    show Steps p.tables e below (T2.setTop (mkF m 7 #[.val (.ref a)] [.null])) _
    refine XS.ifnullYes X2.here hx rfl (pc0 := 7) (pc' := 23) rfl (hb hby d24_7) rfl (by decide) (by decide) ?_
    show Steps p.tables e below (T2.setTop (mkF m 23 #[.val (.ref a)] [])) _
    refine XS.aloadN X2.here hx rfl (hb hby d24_23) rfl rfl ?_
    show Steps p.tables e below (T2.setTop (mkF m 24 #[.val (.ref a)] [(.ref a)])) _
    refine st3 _ ?_
    show Steps p.tables e below (T3.setTop (mkF m 27 #[.val (.ref a)] [(.ref l2)])) _
    refine st4.trans ?_
    show Steps p.tables e below (T4.setTop (mkF m 30 #[.val (.ref a)] [(.ref r)])) _
    refine st5 _ ?_
    show Steps p.tables e below (T5.setTop (mkF m 33 #[.val (.ref a)] [(.ref r)])) _
    jvm_step X5.here [X5.here.top, hx, (hb hby d24_33), X5.method', Bd.returns, Value.isRef, FieldType.isReference]
    first | (intro acts; rw [hr _ acts rfl rfl rfl]) | rw [hr _ _ rfl rfl rfl]
    exact Steps.refl _
  · show Q_lineNR Z a l1 l2 r h0 n0 _ T5.heap _
    rw [e5]
    exact ⟨rfl, N4, rfl⟩
def Q_lineNN (Z : State) (a : Addr) (l1 : Addr) (l2 : Addr) (h0 : Heap) (n0 : Nat) (v : Option Value) (h : Heap) (L : List Loc) : Prop := v = some .null ∧ Fr n0 L ∧ h = h0
set_option maxRecDepth 65536 in
set_option maxHeartbeats 40000000 in
theorem lineNN (l : Launch) (Z : State) (a0 : Array Value) (hw : ∀ d ∈ tables_1, d.before a0 Z = true) (ws : List Jvm.Cond) (a : Addr) (l1 : Addr) (l2 : Addr) (h0 : Heap) (n0 : Nat) (O0 : Old Z n0 h0) (P0 : Fld Z h0 a "com/example/knooppunt/knooppunt/reader/TimetableElements$Route" "lineRef" "Lcom/example/knooppunt/knooppunt/model/Reading;" (.ref l1)) (P1 : Exa Z h0 l1 "com/example/knooppunt/knooppunt/model/Reading") (P2 : Fld Z h0 l1 "com/example/knooppunt/knooppunt/model/Reading" "value" "Ljava/lang/Object;" .null) (P3 : Fld Z h0 a "com/example/knooppunt/knooppunt/reader/TimetableElements$Route" "flexibleLineRef" "Lcom/example/knooppunt/knooppunt/model/Reading;" (.ref l2)) (P4 : Exa Z h0 l2 "com/example/knooppunt/knooppunt/model/Reading") (P5 : Fld Z h0 l2 "com/example/knooppunt/knooppunt/model/Reading" "value" "Ljava/lang/Object;" .null) :
    MetFree l (⟨"com/example/knooppunt/knooppunt/reader/TimetableElements$Route", "line", "()Ljava/lang/String;"⟩ : MethodName) (head1 (Jvm.Cond.code (⟨"com/example/knooppunt/knooppunt/reader/TimetableElements$Route", "line", "()Ljava/lang/String;"⟩ : MethodName) prog_173_method_2_code 1 (some (.object "java/lang/String")) :: ws) ({ frames := 1, cells := 0, slots := 0, locals := 12 } : Room)) (fun zA zU => zA = #[(.ref a)] ∧ Z.Warmed39 zU.vm ∧ zU.heap = h0) (fun _ _ _ _ _ => True) (fun _ zU zo zU' => ∃ zv zL, zo = .returned zv ∧ Q_lineNN Z a l1 l2 h0 n0 zv zU'.heap zL ∧ FrameEnd zU zo zU' zL ({ frames := 1, cells := 0, slots := 0, locals := 12 } : Room).cells ({ frames := 1, cells := 0, slots := 0, locals := 12 } : Room).slots) := by
  refine MetFree.of_bodySF (plainFor_of_name pn_22) hisR ?_
  intro p e s m args below meth c s₁ Bd hml0 hP hK
  obtain ⟨rfl, hZ, hh⟩ := hP
  have hx := Bd.exec
  have hby := Bd.bytes
  have hml : c.maxLocals = 1 := hml0
  have hown : s.vm.findClass "com/example/knooppunt/knooppunt/reader/TimetableElements$Route" = some m.cls := findClass_of_methodNamed Bd.named
  have hnm := (name_of_methodNamed Bd.named Bd.method).1
  have X0 : Stand p l e ({ frames := 1, cells := 0, slots := 0, locals := 12 } : Room) s m #[(.ref a)] below meth c s₁ [] 0 0 := Stand.of_body Bd
  have e0 : s₁.heap = h0 := by rw [← hh, Bd.state]; rfl
  have N0 := Fr.nil n0
  have Z0 : n0 ≤ h0.size := O0.1 ▸ O0.2.1
  have pre0 : ∀ zt, Steps p.tables e below (s₁.setTop (mkF m 0 #[.val (.ref a)] [])) zt → Steps p.tables e below (s₁.setTop (entryFrame m #[(.ref a)] 1)) zt := fun zt zk => castTop (ef_24_R m a) zk
  obtain ⟨T1, X1, e1, st1⟩ := getF X0 hx hZ hown (host := "") (Or.inl (hw _ (List.mem_of_getElem? (i := 58) rfl))) Via.refl e0 P0 (g := (mkF m 1 #[.val (.ref a)] [(.ref a)])) rfl rfl (hb hby d24_1)
  obtain ⟨cq2, kq2, q2a, q2b, q2c⟩ := isOf hZ e1 P1
  obtain ⟨_, _, ⟨T2, L2, k2, n2⟩, -, X2, ⟨Lc2, hQ2, l2, y2, z2⟩, st2⟩ := X1.virtualBack hx (y := (⟨"com/example/knooppunt/knooppunt/model/Reading", "value", "()Ljava/lang/Object;"⟩ : MethodName)) (z := (⟨"com/example/knooppunt/knooppunt/model/Reading", "value", "()Ljava/lang/Object;"⟩ : MethodName)) hown (mvT hZ (hw _ (List.mem_of_getElem? (i := 67) rfl))) (mvT hZ (hw _ (List.mem_of_getElem? (i := 68) rfl))) (notFace_of_selects (args := #[]) (mvT hZ (hw _ (List.mem_of_getElem? (i := 70) rfl)))) (mvT hZ (hw _ (List.mem_of_getElem? (i := 70) rfl))) (mvT hZ (hw _ (List.mem_of_getElem? (i := 69) rfl))) (by decide) (backOf (W := 0) (vaN l Z a0 hw [] l1 h0 n0 O0 P2) hZ (hw _ (List.mem_of_getElem? (i := 71) rfl)) (hw _ (List.mem_of_getElem? (i := 34) rfl)) (by decide) (by decide)) q2a q2c (g := (mkF m 4 #[.val (.ref a)] [(.ref l1)])) rfl (by rw [hml]; rfl) (Steps.refl _) (argsL := []) (rest := []) (lenOf pd_10 rfl) rfl (by show 2 * 0 + _ ≤ _; exact Nat.le_of_eq rfl) (hb hby d24_4) (fun _ _ => ⟨rfl, e1, (by decide : 0 + 0 ≤ _), (by decide : 0 + 0 ≤ _)⟩)
  dsimp only [Pt.U, Pt.locs, Pt.cells, Pt.slots] at X2 l2 y2 z2 st2 hQ2
  subst l2 y2 z2
  obtain ⟨rfl, Nq2, kh2⟩ := hQ2
  have N2 := Fr.app N0 Nq2
  obtain ⟨T3, X3, e3, st3⟩ := getF X2 hx hZ hown (host := "") (Or.inl (hw _ (List.mem_of_getElem? (i := 60) rfl))) Via.refl kh2 P3 (g := (mkF m 24 #[.val (.ref a)] [(.ref a)])) rfl rfl (hb hby d24_24)
  obtain ⟨cq4, kq4, q4a, q4b, q4c⟩ := isOf hZ e3 P4
  obtain ⟨_, _, ⟨T4, L4, k4, n4⟩, -, X4, ⟨Lc4, hQ4, l4, y4, z4⟩, st4⟩ := X3.virtualBack hx (y := (⟨"com/example/knooppunt/knooppunt/model/Reading", "value", "()Ljava/lang/Object;"⟩ : MethodName)) (z := (⟨"com/example/knooppunt/knooppunt/model/Reading", "value", "()Ljava/lang/Object;"⟩ : MethodName)) hown (mvT hZ (hw _ (List.mem_of_getElem? (i := 67) rfl))) (mvT hZ (hw _ (List.mem_of_getElem? (i := 68) rfl))) (notFace_of_selects (args := #[]) (mvT hZ (hw _ (List.mem_of_getElem? (i := 70) rfl)))) (mvT hZ (hw _ (List.mem_of_getElem? (i := 70) rfl))) (mvT hZ (hw _ (List.mem_of_getElem? (i := 69) rfl))) (by decide) (backOf (W := 0) (vaN l Z a0 hw [] l2 h0 n0 O0 P5) hZ (hw _ (List.mem_of_getElem? (i := 71) rfl)) (hw _ (List.mem_of_getElem? (i := 34) rfl)) (by decide) (by decide)) q4a q4c (g := (mkF m 27 #[.val (.ref a)] [(.ref l2)])) rfl (by rw [hml]; rfl) (Steps.refl _) (argsL := []) (rest := []) (lenOf pd_10 rfl) rfl (by show 2 * 0 + _ ≤ _; exact Nat.le_of_eq rfl) (hb hby d24_27) (fun _ _ => ⟨rfl, e3, (by decide : 0 + 0 ≤ _), (by decide : 0 + 0 ≤ _)⟩)
  dsimp only [Pt.U, Pt.locs, Pt.cells, Pt.slots] at X4 l4 y4 z4 st4 hQ4
  subst l4 y4 z4
  obtain ⟨rfl, Nq4, kh4⟩ := hQ4
  have N4 := Fr.app N2 Nq4
  obtain ⟨fs, hr, hrun, hended, hW, hsame⟩ := X4.leave (v := some .null) (fun h => by rw [Bd.returns] at h; cases h)
  refine ⟨_, _, pre0 _ ?_, hrun, hended, _, _, rfl, ?_, ⟨_, rfl⟩, hW, hsame.mono (by decide) (by decide)⟩
  · show Steps p.tables e below (s₁.setTop (mkF m 0 #[.val (.ref a)] [])) _
    refine XS.aloadN X0.here hx rfl (hb hby d24_0) rfl rfl ?_
    show Steps p.tables e below (s₁.setTop (mkF m 1 #[.val (.ref a)] [(.ref a)])) _
    refine st1 _ ?_
    show Steps p.tables e below (T1.setTop (mkF m 4 #[.val (.ref a)] [(.ref l1)])) _
    refine st2.trans ?_
    show Steps p.tables e below (T2.setTop (mkF m 7 #[.val (.ref a)] [.null])) _
    refine XS.ifnullYes X2.here hx rfl (pc0 := 7) (pc' := 23) rfl (hb hby d24_7) rfl (by decide) (by decide) ?_
    show Steps p.tables e below (T2.setTop (mkF m 23 #[.val (.ref a)] [])) _
    refine XS.aloadN X2.here hx rfl (hb hby d24_23) rfl rfl ?_
    show Steps p.tables e below (T2.setTop (mkF m 24 #[.val (.ref a)] [(.ref a)])) _
    refine st3 _ ?_
    show Steps p.tables e below (T3.setTop (mkF m 27 #[.val (.ref a)] [(.ref l2)])) _
    refine st4.trans ?_
    show Steps p.tables e below (T4.setTop (mkF m 30 #[.val (.ref a)] [.null])) _
    refine X4.checkcastNull hx (g := (mkF m 30 #[.val (.ref a)] [.null])) rfl rfl (hb hby d24_30) _ ?_
    show Steps p.tables e below (T4.setTop (mkF m 33 #[.val (.ref a)] [.null])) _
    jvm_step X4.here [X4.here.top, hx, (hb hby d24_33), X4.method', Bd.returns, Value.isRef, FieldType.isReference]
    first | (intro acts; rw [hr _ acts rfl rfl rfl]) | rw [hr _ _ rfl rfl rfl]
    exact Steps.refl _
  · show Q_lineNN Z a l1 l2 h0 n0 _ T4.heap _
    rw [kh4]
    exact ⟨rfl, N4, rfl⟩
def Q_eqS (Z : State) (a : Addr) (h0 : Heap) (n0 : Nat) (v : Option Value) (h : Heap) (L : List Loc) : Prop := v = some (.int (1 : Int32)) ∧ Fr n0 L ∧ h = h0
theorem d25_0 : decode jdk_42_method_66_code 0 = .ok (.aload_n 0, 1) := by decide +kernel
theorem d25_1 : decode jdk_42_method_66_code 1 = .ok (.aload_n 1, 1) := by decide +kernel
theorem d25_2 : decode jdk_42_method_66_code 2 = .ok (.if_acmp .ne 5, 3) := by decide +kernel
theorem d25_5 : decode jdk_42_method_66_code 5 = .ok (.iconst 1, 1) := by decide +kernel
theorem d25_6 : decode jdk_42_method_66_code 6 = .ok (.ireturn, 1) := by decide +kernel
theorem ef_25_RR (m : MethodId) (x0 : Addr) (x1 : Addr) : entryFrame m #[(.ref x0), (.ref x1)] 3 = mkF m 0 #[.val (.ref x0), .val (.ref x1), .unset] [] := by first | (simp [entryFrame, mkF, argsToLocals, Value.category]; done) | rfl
set_option maxRecDepth 65536 in
set_option maxHeartbeats 40000000 in
theorem eqS (l : Launch) (Z : State) (a0 : Array Value) (hw : ∀ d ∈ tables_1, d.before a0 Z = true) (ws : List Jvm.Cond) (a : Addr) (h0 : Heap) (n0 : Nat) (O0 : Old Z n0 h0) :
    MetFree l (⟨"java/lang/String", "equals", "(Ljava/lang/Object;)Z"⟩ : MethodName) (head1 (Jvm.Cond.code (⟨"java/lang/String", "equals", "(Ljava/lang/Object;)Z"⟩ : MethodName) jdk_42_method_66_code 3 (some .boolean) :: ws) ({ frames := 0, cells := 0, slots := 0, locals := 0 } : Room)) (fun zA zU => zA = #[(.ref a), (.ref a)] ∧ Z.Warmed39 zU.vm ∧ zU.heap = h0) (fun _ _ _ _ _ => True) (fun _ zU zo zU' => ∃ zv zL, zo = .returned zv ∧ Q_eqS Z a h0 n0 zv zU'.heap zL ∧ FrameEnd zU zo zU' zL ({ frames := 0, cells := 0, slots := 0, locals := 0 } : Room).cells ({ frames := 0, cells := 0, slots := 0, locals := 0 } : Room).slots) := by
  refine MetFree.of_bodySF (plainFor_of_name pn_6) hisR ?_
  intro p e s m args below meth c s₁ Bd hml0 hP hK
  obtain ⟨rfl, hZ, hh⟩ := hP
  have hx := Bd.exec
  have hby := Bd.bytes
  have hml : c.maxLocals = 3 := hml0
  have hown : s.vm.findClass "java/lang/String" = some m.cls := findClass_of_methodNamed Bd.named
  have hnm := (name_of_methodNamed Bd.named Bd.method).1
  have X0 : Stand p l e ({ frames := 0, cells := 0, slots := 0, locals := 0 } : Room) s m #[(.ref a), (.ref a)] below meth c s₁ [] 0 0 := Stand.of_body Bd
  have e0 : s₁.heap = h0 := by rw [← hh, Bd.state]; rfl
  have N0 := Fr.nil n0
  have Z0 : n0 ≤ h0.size := O0.1 ▸ O0.2.1
  have pre0 : ∀ zt, Steps p.tables e below (s₁.setTop (mkF m 0 #[.val (.ref a), .val (.ref a), .unset] [])) zt → Steps p.tables e below (s₁.setTop (entryFrame m #[(.ref a), (.ref a)] 3)) zt := fun zt zk => castTop (ef_25_RR m a a) zk
  obtain ⟨fs, hr, hrun, hended, hW, hsame⟩ := X0.leave (v := some (.int (1 : Int32))) (fun h => by rw [Bd.returns] at h; cases h)
  refine ⟨_, _, pre0 _ ?_, hrun, hended, _, _, rfl, ?_, ⟨_, rfl⟩, hW, hsame.mono (by decide) (by decide)⟩
  · show Steps p.tables e below (s₁.setTop (mkF m 0 #[.val (.ref a), .val (.ref a), .unset] [])) _
    refine XS.aloadN X0.here hx rfl (hb hby d25_0) rfl rfl ?_
    show Steps p.tables e below (s₁.setTop (mkF m 1 #[.val (.ref a), .val (.ref a), .unset] [(.ref a)])) _
    refine XS.aloadN X0.here hx rfl (hb hby d25_1) rfl rfl ?_
    show Steps p.tables e below (s₁.setTop (mkF m 2 #[.val (.ref a), .val (.ref a), .unset] [(.ref a), (.ref a)])) _
    refine Jvm.RoadKit.acmp (g := (mkF m 2 #[.val (.ref a), .val (.ref a), .unset] [(.ref a), (.ref a)])) X0 hx rfl rfl rfl (pc0 := 2) (pc' := 5) (same := true) rfl (hb hby d25_2) rfl (decide_eq_true rfl) (by decide) (by decide) ?_
    show Steps p.tables e below (s₁.setTop (mkF m 5 #[.val (.ref a), .val (.ref a), .unset] [])) _
    refine XS.iconst X0.here hx rfl (hb hby d25_5) ?_
    show Steps p.tables e below (s₁.setTop (mkF m 6 #[.val (.ref a), .val (.ref a), .unset] [(.int (1 : Int32))])) _
    exact retN X0 hx (t := .boolean) Bd.returns (by simp) (hb hby d25_6) hr
  · show Q_eqS Z a h0 n0 _ s₁.heap _
    rw [e0]
    exact ⟨rfl, N0, rfl⟩
def Q_law (Z : State) (fl : Int32) (pa : Int32) (pb : Int32) (pc : Int32) (pd : Int32) (cs : Int32) (h0 : Heap) (n0 : Nat) (v : Option Value) (h : Heap) (L : List Loc) : Prop := v = some (.int (1 : Int32)) ∧ Fr n0 L
theorem pd_11 : parseMethodDescriptor "(II)Ljava/lang/String;" = some ⟨[.int, .int], some (.object "java/lang/String")⟩ := by decide +kernel
theorem pd_12 : parseMethodDescriptor "(Ljava/lang/String;Ljava/lang/String;I)V" = some ⟨[(.object "java/lang/String"), (.object "java/lang/String"), .int], none⟩ := by decide +kernel
theorem pd_13 : parseMethodDescriptor "(Ljava/lang/String;Ljava/lang/String;Ljava/lang/Object;Ljava/lang/String;)V" = some ⟨[(.object "java/lang/String"), (.object "java/lang/String"), (.object "java/lang/Object"), (.object "java/lang/String")], none⟩ := by decide +kernel
theorem pd_14 : parseMethodDescriptor "(Lcom/example/knooppunt/knooppunt/reader/Source;Lcom/example/knooppunt/knooppunt/model/Reading;Lcom/example/knooppunt/knooppunt/model/Reading;)V" = some ⟨[(.object "com/example/knooppunt/knooppunt/reader/Source"), (.object "com/example/knooppunt/knooppunt/model/Reading"), (.object "com/example/knooppunt/knooppunt/model/Reading")], none⟩ := by decide +kernel
theorem pd_15 : parseMethodDescriptor "()Ljava/lang/String;" = some ⟨[], some (.object "java/lang/String")⟩ := by decide +kernel
theorem pd_16 : parseMethodDescriptor "(Ljava/lang/Object;)Z" = some ⟨[(.object "java/lang/Object")], some .boolean⟩ := by decide +kernel
theorem ef_0_IIIII (m : MethodId) (x0 : Int32) (x1 : Int32) (x2 : Int32) (x3 : Int32) (x4 : Int32) : entryFrame m #[(.int x0), (.int x1), (.int x2), (.int x3), (.int x4)] maxLocals = mkF m 0 #[.val (.int x0), .val (.int x1), .val (.int x2), .val (.int x3), .val (.int x4), .unset, .unset, .unset, .unset, .unset, .unset, .unset, .unset, .unset, .unset, .unset, .unset] [] := by first | (simp [entryFrame, mkF, argsToLocals, Value.category, maxLocals]; done) | rfl
set_option maxRecDepth 65536 in
set_option maxHeartbeats 40000000 in
theorem law_A (l : Launch) (Z : State) (a0 : Array Value) (hw : ∀ d ∈ tables_1, d.before a0 Z = true) (ws : List Jvm.Cond) (fl : Int32) (pa : Int32) (pb : Int32) (pc : Int32) (pd : Int32) (cs : Int32) (h0 : Heap) (n0 : Nat) (O0 : Old Z n0 h0) (G0 : Sta Z Z.heap "java/lang/String" "COMPACT_STRINGS" "Z" (.int cs)) (hcs : ¬ (cs = (0 : Int32))) (hk1 : ¬ ((fl &&& (3 : Int32)) = (0 : Int32))) :
    MetFree l x (head1 (Jvm.Cond.code x code maxLocals ret :: ws) room_1) (fun zA zU => zA = #[(.int fl), (.int pa), (.int pb), (.int pc), (.int pd)] ∧ Z.Warmed39 zU.vm ∧ zU.heap = h0 ∧ CHv Z own_EL zU.vm h0 ∧ ∀ x ∈ ([] : List Addr), Safe Z own_EL zU.vm h0 x) (fun _ _ _ _ _ => True) (fun _ zU zo zU' => ∃ zv zL, zo = .returned zv ∧ Q_law Z fl pa pb pc pd cs h0 n0 zv zU'.heap zL ∧ CHr Z own_EL zU.vm zU.heap zU'.vm zU'.heap ∧ ReturnedEndW zU zo zU' zL room_1.cells room_1.slots) := by
  refine MetFree.of_bodySF (plainFor_of_name pn_14) hisR ?_
  intro p e s m args below meth c s₁ Bd hml0 hP hK
  obtain ⟨rfl, hZ, hh, HC, HS⟩ := hP
  have hx := Bd.exec
  have hby := Bd.bytes
  have hml : c.maxLocals = 17 := hml0
  have hown : s.vm.findClass "com/example/knooppunt/knooppunt/reader/RouteLinePinLaw" = some m.cls := findClass_of_methodNamed Bd.named
  have hnm := (name_of_methodNamed Bd.named Bd.method).1
  have X0 : Stand p l e room_1 (s.setVm s.vm) m #[(.int fl), (.int pa), (.int pb), (.int pc), (.int pd)] below meth c s₁ [] 0 0 := Stand.of_body Bd
  have e0 : s₁.heap = h0 := by rw [← hh, Bd.state]; rfl
  have N0 := Fr.nil n0
  have Z0 : n0 ≤ h0.size := O0.1 ▸ O0.2.1
  have pre0 : ∀ zt, Steps p.tables e below (s₁.setTop (mkF m 0 #[.val (.int fl), .val (.int pa), .val (.int pb), .val (.int pc), .val (.int pd), .unset, .unset, .unset, .unset, .unset, .unset, .unset, .unset, .unset, .unset, .unset, .unset] [])) zt → Steps p.tables e below (s₁.setTop (entryFrame m #[(.int fl), (.int pa), (.int pb), (.int pc), (.int pd)] maxLocals)) zt := fun zt zk => castTop (ef_0_IIIII m fl pa pb pc pd) zk
  have hEL := own_EW hw
  have wS := own_wS hw
  have hS0 : s.Since s.vm 0 := (State.WarmedH.refl s).since 0
  have CR0 : CHr Z own_EL s.vm h0 s.vm h0 := CHr.refl HC
  have hZ0 := hZ
  have hown0 := hown
  obtain ⟨_, _, ⟨T1, L1, k1, n1⟩, -, Xr1, hSr1, hg1, ⟨Lc1, hQ1, l1, y1, z1, CL1⟩, st1⟩ := callSS X0 hx (y := (⟨"com/example/knooppunt/knooppunt/reader/RouteLinePinLaw", "draw", "(II)Ljava/lang/String;"⟩ : MethodName)) hown (mvT hZ (hw _ (List.mem_of_getElem? (i := 0) rfl))) (mvT hZ (hw _ (List.mem_of_getElem? (i := 1) rfl))) (mvT hZ (hw _ (List.mem_of_getElem? (i := 2) rfl))) (mvT hZ (hw _ (List.mem_of_getElem? (i := 3) rfl))) (by decide) (own_backSH (s := s) (vm0 := s.vm) (W := 0) (drawS l Z a0 hw [] (fl &&& (3 : Int32)) pa cs h0 n0 O0 G0 hcs hk1) hZ (hw _ (List.mem_of_getElem? (i := 3) rfl)) (hw _ (List.mem_of_getElem? (i := 2) rfl)) (by decide) (by decide) hEL CR0.1 all0) (g := (mkF m 4 #[.val (.int fl), .val (.int pa), .val (.int pb), .val (.int pc), .val (.int pd), .unset, .unset, .unset, .unset, .unset, .unset, .unset, .unset, .unset, .unset, .unset, .unset] [(.int pa), (.int (fl &&& (3 : Int32)))])) rfl (by rw [hml]; rfl) (argsL := [(.int (fl &&& (3 : Int32))), (.int pa)]) (rest := []) (lenOf pd_11 rfl) rfl (by show 2 * 0 + _ ≤ _; exact Nat.le_of_eq rfl) (hb hby at_4) (fun _ _ => ⟨rfl, e0, (by decide : 0 + 6 ≤ _), (by decide : 0 + 12 ≤ _)⟩)
  dsimp only [Pt.U, Pt.locs, Pt.cells, Pt.slots] at Xr1 l1 y1 z1 st1 hQ1 hSr1 hg1 CL1
  subst l1 y1 z1
  obtain ⟨X1, hS1, hZ, hown⟩ := rebS (s := s) (vm0 := s.vm) hS0 (own_hk e0 (Nat.zero_le _)) Xr1 hSr1 hg1 hZ hown
  obtain ⟨r_1, rfl, Nq1, kh1, Po1_0⟩ := hQ1
  have N1 := Fr.app N0 Nq1
  have hZ1 := hZ
  have hown1 := hown
  have O1 := O0.keep kh1 all0
  have K1 : Keep h0 T1.heap [] := (Keep.refl h0 []).trans kh1 all0
  have CR1 := CR0.trans CL1
  obtain ⟨_, _, ⟨T2, L2, k2, n2⟩, -, Xr2, hSr2, hg2, ⟨Lc2, hQ2, l2, y2, z2, CL2⟩, st2⟩ := callSS X1 hx (y := (⟨"com/example/knooppunt/knooppunt/reader/RouteLinePinLaw", "draw", "(II)Ljava/lang/String;"⟩ : MethodName)) hown (mvT hZ (hw _ (List.mem_of_getElem? (i := 0) rfl))) (mvT hZ (hw _ (List.mem_of_getElem? (i := 1) rfl))) (mvT hZ (hw _ (List.mem_of_getElem? (i := 2) rfl))) (mvT hZ (hw _ (List.mem_of_getElem? (i := 3) rfl))) (by decide) (own_backSH (s := s) (vm0 := T1.vm) (W := 0) (drawG l Z a0 hw [] (((fl.toUInt32 >>> ((2 : Int32) &&& 31).toUInt32).toInt32) &&& (3 : Int32)) pb cs T1.heap n0 O1 G0 hcs) hZ (hw _ (List.mem_of_getElem? (i := 3) rfl)) (hw _ (List.mem_of_getElem? (i := 2) rfl)) (by decide) (by decide) hEL CR1.1 all0) (g := (mkF m 15 #[.val (.int fl), .val (.int pa), .val (.int pb), .val (.int pc), .val (.int pd), .val (.ref r_1), .unset, .unset, .unset, .unset, .unset, .unset, .unset, .unset, .unset, .unset, .unset] [(.int pb), (.int (((fl.toUInt32 >>> ((2 : Int32) &&& 31).toUInt32).toInt32) &&& (3 : Int32)))])) rfl (by rw [hml]; rfl) (argsL := [(.int (((fl.toUInt32 >>> ((2 : Int32) &&& 31).toUInt32).toInt32) &&& (3 : Int32))), (.int pb)]) (rest := []) (lenOf pd_11 rfl) rfl (by show 2 * 0 + _ ≤ _; exact Nat.le_of_eq rfl) (hb hby at_15) (fun _ _ => ⟨rfl, rfl, (by decide : 6 + 6 ≤ _), (by decide : 12 + 12 ≤ _)⟩)
  dsimp only [Pt.U, Pt.locs, Pt.cells, Pt.slots] at Xr2 l2 y2 z2 st2 hQ2 hSr2 hg2 CL2
  subst l2 y2 z2
  obtain ⟨X2, hS2, hZ, hown⟩ := rebS (s := s) (vm0 := T1.vm) hS1 (own_hk rfl (Nat.le_refl _)) Xr2 hSr2 hg2 hZ hown
  obtain ⟨v0_2, rfl, Nq2, kh2, pq2_0⟩ := hQ2
  have N2 := Fr.app N1 Nq2
  have hZ2 := hZ
  have hown2 := hown
  have O2 := O1.keep kh2 all0
  have K2 : Keep h0 T2.heap [] := K1.trans kh2 all0
  have CR2 := CR1.trans CL2
  obtain ⟨_, _, ⟨T3, L3, k3, n3⟩, -, Xr3, hSr3, hg3, ⟨Lc3, hQ3, l3, y3, z3, CL3⟩, st3⟩ := callSS X2 hx (y := (⟨"com/example/knooppunt/knooppunt/reader/RouteLinePinLaw", "draw", "(II)Ljava/lang/String;"⟩ : MethodName)) hown (mvT hZ (hw _ (List.mem_of_getElem? (i := 0) rfl))) (mvT hZ (hw _ (List.mem_of_getElem? (i := 1) rfl))) (mvT hZ (hw _ (List.mem_of_getElem? (i := 2) rfl))) (mvT hZ (hw _ (List.mem_of_getElem? (i := 3) rfl))) (by decide) (own_backSH (s := s) (vm0 := T2.vm) (W := 0) (drawG l Z a0 hw [] (((fl.toUInt32 >>> ((4 : Int32) &&& 31).toUInt32).toInt32) &&& (3 : Int32)) pc cs T2.heap n0 O2 G0 hcs) hZ (hw _ (List.mem_of_getElem? (i := 3) rfl)) (hw _ (List.mem_of_getElem? (i := 2) rfl)) (by decide) (by decide) hEL CR2.1 all0) (g := (mkF m 26 #[.val (.int fl), .val (.int pa), .val (.int pb), .val (.int pc), .val (.int pd), .val (.ref r_1), .val v0_2, .unset, .unset, .unset, .unset, .unset, .unset, .unset, .unset, .unset, .unset] [(.int pc), (.int (((fl.toUInt32 >>> ((4 : Int32) &&& 31).toUInt32).toInt32) &&& (3 : Int32)))])) rfl (by rw [hml]; rfl) (argsL := [(.int (((fl.toUInt32 >>> ((4 : Int32) &&& 31).toUInt32).toInt32) &&& (3 : Int32))), (.int pc)]) (rest := []) (lenOf pd_11 rfl) rfl (by show 2 * 0 + _ ≤ _; exact Nat.le_of_eq rfl) (hb hby at_26) (fun _ _ => ⟨rfl, rfl, (by decide : 12 + 6 ≤ _), (by decide : 24 + 12 ≤ _)⟩)
  dsimp only [Pt.U, Pt.locs, Pt.cells, Pt.slots] at Xr3 l3 y3 z3 st3 hQ3 hSr3 hg3 CL3
  subst l3 y3 z3
  obtain ⟨X3, hS3, hZ, hown⟩ := rebS (s := s) (vm0 := T2.vm) hS2 (own_hk rfl (Nat.le_refl _)) Xr3 hSr3 hg3 hZ hown
  obtain ⟨v0_3, rfl, Nq3, kh3, pq3_0⟩ := hQ3
  have N3 := Fr.app N2 Nq3
  have hZ3 := hZ
  have hown3 := hown
  have O3 := O2.keep kh3 all0
  have K3 : Keep h0 T3.heap [] := K2.trans kh3 all0
  have CR3 := CR2.trans CL3
  obtain ⟨_, _, ⟨T4, L4, k4, n4⟩, -, Xr4, hSr4, hg4, ⟨Lc4, hQ4, l4, y4, z4, CL4⟩, st4⟩ := callSS X3 hx (y := (⟨"com/example/knooppunt/knooppunt/reader/RouteLinePinLaw", "draw", "(II)Ljava/lang/String;"⟩ : MethodName)) hown (mvT hZ (hw _ (List.mem_of_getElem? (i := 0) rfl))) (mvT hZ (hw _ (List.mem_of_getElem? (i := 1) rfl))) (mvT hZ (hw _ (List.mem_of_getElem? (i := 2) rfl))) (mvT hZ (hw _ (List.mem_of_getElem? (i := 3) rfl))) (by decide) (own_backSH (s := s) (vm0 := T3.vm) (W := 0) (drawG l Z a0 hw [] (((fl.toUInt32 >>> ((6 : Int32) &&& 31).toUInt32).toInt32) &&& (3 : Int32)) ((pc.toUInt32 >>> ((16 : Int32) &&& 31).toUInt32).toInt32) cs T3.heap n0 O3 G0 hcs) hZ (hw _ (List.mem_of_getElem? (i := 3) rfl)) (hw _ (List.mem_of_getElem? (i := 2) rfl)) (by decide) (by decide) hEL CR3.1 all0) (g := (mkF m 41 #[.val (.int fl), .val (.int pa), .val (.int pb), .val (.int pc), .val (.int pd), .val (.ref r_1), .val v0_2, .val v0_3, .unset, .unset, .unset, .unset, .unset, .unset, .unset, .unset, .unset] [(.int ((pc.toUInt32 >>> ((16 : Int32) &&& 31).toUInt32).toInt32)), (.int (((fl.toUInt32 >>> ((6 : Int32) &&& 31).toUInt32).toInt32) &&& (3 : Int32)))])) rfl (by rw [hml]; rfl) (argsL := [(.int (((fl.toUInt32 >>> ((6 : Int32) &&& 31).toUInt32).toInt32) &&& (3 : Int32))), (.int ((pc.toUInt32 >>> ((16 : Int32) &&& 31).toUInt32).toInt32))]) (rest := []) (lenOf pd_11 rfl) rfl (by show 2 * 0 + _ ≤ _; exact Nat.le_of_eq rfl) (hb hby at_41) (fun _ _ => ⟨rfl, rfl, (by decide : 18 + 6 ≤ _), (by decide : 36 + 12 ≤ _)⟩)
  dsimp only [Pt.U, Pt.locs, Pt.cells, Pt.slots] at Xr4 l4 y4 z4 st4 hQ4 hSr4 hg4 CL4
  subst l4 y4 z4
  obtain ⟨X4, hS4, hZ, hown⟩ := rebS (s := s) (vm0 := T3.vm) hS3 (own_hk rfl (Nat.le_refl _)) Xr4 hSr4 hg4 hZ hown
  obtain ⟨v0_4, rfl, Nq4, kh4, pq4_0⟩ := hQ4
  have N4 := Fr.app N3 Nq4
  have hZ4 := hZ
  have hown4 := hown
  have O4 := O3.keep kh4 all0
  have K4 : Keep h0 T4.heap [] := K3.trans kh4 all0
  have CR4 := CR3.trans CL4
  obtain ⟨_, _, ⟨T5, L5, k5, n5⟩, -, Xr5, hSr5, hg5, ⟨Lc5, hQ5, l5, y5, z5, CL5⟩, st5⟩ := callSS X4 hx (y := (⟨"com/example/knooppunt/knooppunt/reader/RouteLinePinLaw", "draw", "(II)Ljava/lang/String;"⟩ : MethodName)) hown (mvT hZ (hw _ (List.mem_of_getElem? (i := 0) rfl))) (mvT hZ (hw _ (List.mem_of_getElem? (i := 1) rfl))) (mvT hZ (hw _ (List.mem_of_getElem? (i := 2) rfl))) (mvT hZ (hw _ (List.mem_of_getElem? (i := 3) rfl))) (by decide) (own_backSH (s := s) (vm0 := T4.vm) (W := 0) (drawG l Z a0 hw [] (((fl.toUInt32 >>> ((8 : Int32) &&& 31).toUInt32).toInt32) &&& (3 : Int32)) pd cs T4.heap n0 O4 G0 hcs) hZ (hw _ (List.mem_of_getElem? (i := 3) rfl)) (hw _ (List.mem_of_getElem? (i := 2) rfl)) (by decide) (by decide) hEL CR4.1 all0) (g := (mkF m 54 #[.val (.int fl), .val (.int pa), .val (.int pb), .val (.int pc), .val (.int pd), .val (.ref r_1), .val v0_2, .val v0_3, .val v0_4, .unset, .unset, .unset, .unset, .unset, .unset, .unset, .unset] [(.int pd), (.int (((fl.toUInt32 >>> ((8 : Int32) &&& 31).toUInt32).toInt32) &&& (3 : Int32)))])) rfl (by rw [hml]; rfl) (argsL := [(.int (((fl.toUInt32 >>> ((8 : Int32) &&& 31).toUInt32).toInt32) &&& (3 : Int32))), (.int pd)]) (rest := []) (lenOf pd_11 rfl) rfl (by show 2 * 0 + _ ≤ _; exact Nat.le_of_eq rfl) (hb hby at_54) (fun _ _ => ⟨rfl, rfl, (by decide : 24 + 6 ≤ _), (by decide : 48 + 12 ≤ _)⟩)
  dsimp only [Pt.U, Pt.locs, Pt.cells, Pt.slots] at Xr5 l5 y5 z5 st5 hQ5 hSr5 hg5 CL5
  subst l5 y5 z5
  obtain ⟨X5, hS5, hZ, hown⟩ := rebS (s := s) (vm0 := T4.vm) hS4 (own_hk rfl (Nat.le_refl _)) Xr5 hSr5 hg5 hZ hown
  obtain ⟨v0_5, rfl, Nq5, kh5, pq5_0⟩ := hQ5
  have N5 := Fr.app N4 Nq5
  have hZ5 := hZ
  have hown5 := hown
  have O5 := O4.keep kh5 all0
  have K5 : Keep h0 T5.heap [] := K4.trans kh5 all0
  have CR5 := CR4.trans CL5
  obtain ⟨_, _, ⟨T6, L6, k6, n6⟩, -, Xr6, hSr6, hg6, ⟨Lc6, hQ6, l6, y6, z6, CL6⟩, st6⟩ := callSS X5 hx (y := (⟨"com/example/knooppunt/knooppunt/reader/RouteLinePinLaw", "draw", "(II)Ljava/lang/String;"⟩ : MethodName)) hown (mvT hZ (hw _ (List.mem_of_getElem? (i := 0) rfl))) (mvT hZ (hw _ (List.mem_of_getElem? (i := 1) rfl))) (mvT hZ (hw _ (List.mem_of_getElem? (i := 2) rfl))) (mvT hZ (hw _ (List.mem_of_getElem? (i := 3) rfl))) (by decide) (own_backSH (s := s) (vm0 := T5.vm) (W := 0) (drawG l Z a0 hw [] (((fl.toUInt32 >>> ((10 : Int32) &&& 31).toUInt32).toInt32) &&& (3 : Int32)) ((pd.toUInt32 >>> ((16 : Int32) &&& 31).toUInt32).toInt32) cs T5.heap n0 O5 G0 hcs) hZ (hw _ (List.mem_of_getElem? (i := 3) rfl)) (hw _ (List.mem_of_getElem? (i := 2) rfl)) (by decide) (by decide) hEL CR5.1 all0) (g := (mkF m 70 #[.val (.int fl), .val (.int pa), .val (.int pb), .val (.int pc), .val (.int pd), .val (.ref r_1), .val v0_2, .val v0_3, .val v0_4, .val v0_5, .unset, .unset, .unset, .unset, .unset, .unset, .unset] [(.int ((pd.toUInt32 >>> ((16 : Int32) &&& 31).toUInt32).toInt32)), (.int (((fl.toUInt32 >>> ((10 : Int32) &&& 31).toUInt32).toInt32) &&& (3 : Int32)))])) rfl (by rw [hml]; rfl) (argsL := [(.int (((fl.toUInt32 >>> ((10 : Int32) &&& 31).toUInt32).toInt32) &&& (3 : Int32))), (.int ((pd.toUInt32 >>> ((16 : Int32) &&& 31).toUInt32).toInt32))]) (rest := []) (lenOf pd_11 rfl) rfl (by show 2 * 0 + _ ≤ _; exact Nat.le_of_eq rfl) (hb hby at_70) (fun _ _ => ⟨rfl, rfl, (by decide : 30 + 6 ≤ _), (by decide : 60 + 12 ≤ _)⟩)
  dsimp only [Pt.U, Pt.locs, Pt.cells, Pt.slots] at Xr6 l6 y6 z6 st6 hQ6 hSr6 hg6 CL6
  subst l6 y6 z6
  obtain ⟨X6, hS6, hZ, hown⟩ := rebS (s := s) (vm0 := T5.vm) hS5 (own_hk rfl (Nat.le_refl _)) Xr6 hSr6 hg6 hZ hown
  obtain ⟨v0_6, rfl, Nq6, kh6, pq6_0⟩ := hQ6
  have N6 := Fr.app N5 Nq6
  have hZ6 := hZ
  have hown6 := hown
  have O6 := O5.keep kh6 all0
  have K6 : Keep h0 T6.heap [] := K5.trans kh6 all0
  have CR6 := CR5.trans CL6
  obtain ⟨T7, h7, X7, e7, E7, A7, D7, U7, st7⟩ := newO X6 hx hZ hown (hw _ (List.mem_of_getElem? (i := 4) rfl)) (hw _ (List.mem_of_getElem? (i := 5) rfl)) (hw _ (List.mem_of_getElem? (i := 6) rfl)) rfl (g := (mkF m 75 #[.val (.int fl), .val (.int pa), .val (.int pb), .val (.int pc), .val (.int pd), .val (.ref r_1), .val v0_2, .val v0_3, .val v0_4, .val v0_5, .val v0_6, .unset, .unset, .unset, .unset, .unset, .unset] [])) rfl (hb hby at_75) (by decide) (by decide)
  obtain ⟨b7, gz7⟩ : ∃ z, z = T6.heap.size := ⟨_, rfl⟩
  rw [← gz7] at A7 D7 U7 st7
  have sz_b7 : h0.size ≤ b7 := Nat.le_trans K6.1 (Nat.le_of_eq gz7.symm)
  have g_b7 : n0 ≤ b7 := Nat.le_trans Z0 sz_b7
  have O7 := O6.ext E7
  have K7 : Keep h0 h7 [] := K6.ext E7
  have CR7 := CR6.trans (CHr.ext E7 CR6.1)
  have Fi7_27 : Fld Z h7 b7 "com/example/knooppunt/knooppunt/reader/Source" "element" "Ljava/lang/String;" .null := D7 (Or.inr (hw _ (List.mem_of_getElem? (i := 27) rfl))) (ty := (.object "java/lang/String")) (by decide)
  have Fi7_29 : Fld Z h7 b7 "com/example/knooppunt/knooppunt/reader/Source" "id" "Ljava/lang/String;" .null := D7 (Or.inr (hw _ (List.mem_of_getElem? (i := 29) rfl))) (ty := (.object "java/lang/String")) (by decide)
  have Fi7_31 : Fld Z h7 b7 "com/example/knooppunt/knooppunt/reader/Source" "line" "I" (.int (0 : Int32)) := D7 (Or.inr (hw _ (List.mem_of_getElem? (i := 31) rfl))) (ty := .int) (by decide)
  obtain ⟨a8, T8, h8, k8, X8, e8, E8, hS8, hk8, hZ, hown, CL8, Lt8, st8⟩ := ldcOH (s := s) (vm0 := T6.vm) X7 hx hZ hown (hw _ (List.mem_of_getElem? (i := 7) rfl)) wS e7 hS6 (Nat.le_trans (Nat.le_refl _) E7.1) hEL CR7.1 (g := (mkF m 79 #[.val (.int fl), .val (.int pa), .val (.int pb), .val (.int pc), .val (.int pd), .val (.ref r_1), .val v0_2, .val v0_3, .val v0_4, .val v0_5, .val v0_6, .unset, .unset, .unset, .unset, .unset, .unset] [(.ref b7), (.ref b7)])) rfl (hb hby at_79) (n := 20) (by decide) (by decide) (by decide) (by decide)
  have hZ8 := hZ
  have hown8 := hown
  have O8 := O7.ext E8
  have K8 : Keep h0 h8 [] := K7.ext E8
  have CR8 := CR7.trans CL8
  obtain ⟨_, _, ⟨T9, L9, k9, n9⟩, -, X9, ⟨Lc9, hQ9, l9, y9, z9⟩, st9⟩ := X8.specialBack hx (y := (⟨"com/example/knooppunt/knooppunt/reader/Source", "<init>", "(Ljava/lang/String;Ljava/lang/String;I)V"⟩ : MethodName)) rfl hown (mvT hZ (hw _ (List.mem_of_getElem? (i := 15) rfl))) (mvT hZ (hw _ (List.mem_of_getElem? (i := 16) rfl))) (mvT hZ (hw _ (List.mem_of_getElem? (i := 17) rfl))) (by decide) (backOf (W := 1) (soI l Z a0 hw [] b7 a8 pd h8 n0 O8 (A7.ext E8) (Fi7_27.ext E8) (Fi7_29.ext E8) (Fi7_31.ext E8) g_b7) hZ (hw _ (List.mem_of_getElem? (i := 17) rfl)) (hw _ (List.mem_of_getElem? (i := 6) rfl)) (by decide) (by decide)) (g := (mkF m 84 #[.val (.int fl), .val (.int pa), .val (.int pb), .val (.int pc), .val (.int pd), .val (.ref r_1), .val v0_2, .val v0_3, .val v0_4, .val v0_5, .val v0_6, .unset, .unset, .unset, .unset, .unset, .unset] [(.int pd), .null, (.ref a8), (.ref b7), (.ref b7)])) rfl (by rw [hml]; rfl) (Steps.refl _) (a := b7) (argsL := [(.ref a8), .null, (.int pd)]) (rest := [(.ref b7)]) (lenOf pd_12 rfl) rfl (by show 2 * 0 + _ ≤ _; exact Nat.le_of_eq rfl) (hb hby at_84) (fun _ _ => ⟨rfl, e8, (by decide : 39 + 0 ≤ _), (by decide : 99 + 0 ≤ _)⟩)
  dsimp only [Pt.U, Pt.locs, Pt.cells, Pt.slots] at X9 l9 y9 z9 st9 hQ9
  subst l9 y9 z9
  obtain ⟨rfl, Nq9, kh9, Po9_0⟩ := hQ9
  have N9 := Fr.app N6 Nq9
  have O9 := O8.keep kh9 (allS g_b7 all0)
  have K9 : Keep h0 T9.heap [] := K8.trans kh9 (allS (Or.inr sz_b7) all0)
  have hs9 : ∀ x ∈ ([b7] : List Addr), Safe Z own_EL T8.vm h8 x := (allS (Safe.exa hZ.alike (A7.ext E8) (by decide) (by decide)) all0)
  have CR9 := CR8.trans (CHr.keep kh9 hs9 CR8.1)
  obtain ⟨T10, h10, X10, e10, E10, A10, D10, U10, st10⟩ := newO X9 hx hZ hown (hw _ (List.mem_of_getElem? (i := 32) rfl)) (hw _ (List.mem_of_getElem? (i := 33) rfl)) (hw _ (List.mem_of_getElem? (i := 34) rfl)) rfl (g := (mkF m 89 #[.val (.int fl), .val (.int pa), .val (.int pb), .val (.int pc), .val (.int pd), .val (.ref r_1), .val v0_2, .val v0_3, .val v0_4, .val v0_5, .val v0_6, .val (.ref b7), .unset, .unset, .unset, .unset, .unset] [])) rfl (hb hby at_89) (by decide) (by decide)
  obtain ⟨b10, gz10⟩ : ∃ z, z = T9.heap.size := ⟨_, rfl⟩
  rw [← gz10] at A10 D10 U10 st10
  have sz_b10 : h0.size ≤ b10 := Nat.le_trans K9.1 (Nat.le_of_eq gz10.symm)
  have g_b10 : n0 ≤ b10 := Nat.le_trans Z0 sz_b10
  have O10 := O9.ext E10
  have K10 : Keep h0 h10 [] := K9.ext E10
  have CR10 := CR9.trans (CHr.ext E10 CR9.1)
  have Fi10_41 : Fld Z h10 b10 "com/example/knooppunt/knooppunt/model/Reading" "name" "Ljava/lang/String;" .null := D10 (Or.inr (hw _ (List.mem_of_getElem? (i := 41) rfl))) (ty := (.object "java/lang/String")) (by decide)
  have Fi10_43 : Fld Z h10 b10 "com/example/knooppunt/knooppunt/model/Reading" "text" "Ljava/lang/String;" .null := D10 (Or.inr (hw _ (List.mem_of_getElem? (i := 43) rfl))) (ty := (.object "java/lang/String")) (by decide)
  have Fi10_45 : Fld Z h10 b10 "com/example/knooppunt/knooppunt/model/Reading" "value" "Ljava/lang/Object;" .null := D10 (Or.inr (hw _ (List.mem_of_getElem? (i := 45) rfl))) (ty := (.object "java/lang/Object")) (by decide)
  have Fi10_47 : Fld Z h10 b10 "com/example/knooppunt/knooppunt/model/Reading" "problem" "Ljava/lang/String;" .null := D10 (Or.inr (hw _ (List.mem_of_getElem? (i := 47) rfl))) (ty := (.object "java/lang/String")) (by decide)
  obtain ⟨a11, T11, h11, k11, X11, e11, E11, hS11, hk11, hZ, hown, CL11, Lt11, st11⟩ := ldcOH (s := s) (vm0 := T8.vm) X10 hx hZ hown (hw _ (List.mem_of_getElem? (i := 35) rfl)) wS e10 hS8 (Nat.le_trans (Nat.le_trans hk8 kh9.1) E10.1) hEL CR10.1 (g := (mkF m 93 #[.val (.int fl), .val (.int pa), .val (.int pb), .val (.int pc), .val (.int pd), .val (.ref r_1), .val v0_2, .val v0_3, .val v0_4, .val v0_5, .val v0_6, .val (.ref b7), .unset, .unset, .unset, .unset, .unset] [(.ref b10), (.ref b10)])) rfl (hb hby at_93) (n := 28) (by decide) (by decide) (by decide) (by decide)
  have hZ11 := hZ
  have hown11 := hown
  have O11 := O10.ext E11
  have K11 : Keep h0 h11 [] := K10.ext E11
  have CR11 := CR10.trans CL11
  obtain ⟨_, _, ⟨T12, L12, k12, n12⟩, -, X12, ⟨Lc12, hQ12, l12, y12, z12⟩, st12⟩ := X11.specialBack hx (y := (⟨"com/example/knooppunt/knooppunt/model/Reading", "<init>", "(Ljava/lang/String;Ljava/lang/String;Ljava/lang/Object;Ljava/lang/String;)V"⟩ : MethodName)) rfl hown (mvT hZ (hw _ (List.mem_of_getElem? (i := 36) rfl))) (mvT hZ (hw _ (List.mem_of_getElem? (i := 37) rfl))) (mvT hZ (hw _ (List.mem_of_getElem? (i := 38) rfl))) (by decide) (backOf (W := 1) (rdI l Z a0 hw [] b10 a11 v0_3 (.ref r_1) v0_5 h11 n0 O11 (A10.ext E11) (Fi10_41.ext E11) (Fi10_43.ext E11) (Fi10_45.ext E11) (Fi10_47.ext E11) g_b10 pq3_0 rfl pq5_0) hZ (hw _ (List.mem_of_getElem? (i := 38) rfl)) (hw _ (List.mem_of_getElem? (i := 34) rfl)) (by decide) (by decide)) (g := (mkF m 101 #[.val (.int fl), .val (.int pa), .val (.int pb), .val (.int pc), .val (.int pd), .val (.ref r_1), .val v0_2, .val v0_3, .val v0_4, .val v0_5, .val v0_6, .val (.ref b7), .unset, .unset, .unset, .unset, .unset] [v0_5, (.ref r_1), v0_3, (.ref a11), (.ref b10), (.ref b10)])) rfl (by rw [hml]; rfl) (Steps.refl _) (a := b10) (argsL := [(.ref a11), v0_3, (.ref r_1), v0_5]) (rest := [(.ref b10)]) (lenOf pd_13 rfl) rfl (by show 2 * 0 + _ ≤ _; exact Nat.le_of_eq rfl) (hb hby at_101) (fun _ _ => ⟨rfl, e11, (by decide : 42 + 0 ≤ _), (by decide : 135 + 0 ≤ _)⟩)
  dsimp only [Pt.U, Pt.locs, Pt.cells, Pt.slots] at X12 l12 y12 z12 st12 hQ12
  subst l12 y12 z12
  obtain ⟨rfl, Nq12, kh12, Po12_0, Po12_1⟩ := hQ12
  have N12 := Fr.app N9 Nq12
  have O12 := O11.keep kh12 (allS g_b10 all0)
  have K12 : Keep h0 T12.heap [] := K11.trans kh12 (allS (Or.inr sz_b10) all0)
  have hs12 : ∀ x ∈ ([b10] : List Addr), Safe Z own_EL T11.vm h11 x := (allS (Safe.exa hZ.alike (A10.ext E11) (by decide) (by decide)) all0)
  have CR12 := CR11.trans (CHr.keep kh12 hs12 CR11.1)
  obtain ⟨T13, h13, X13, e13, E13, A13, D13, U13, st13⟩ := newO X12 hx hZ hown (hw _ (List.mem_of_getElem? (i := 32) rfl)) (hw _ (List.mem_of_getElem? (i := 33) rfl)) (hw _ (List.mem_of_getElem? (i := 34) rfl)) rfl (g := (mkF m 106 #[.val (.int fl), .val (.int pa), .val (.int pb), .val (.int pc), .val (.int pd), .val (.ref r_1), .val v0_2, .val v0_3, .val v0_4, .val v0_5, .val v0_6, .val (.ref b7), .val (.ref b10), .unset, .unset, .unset, .unset] [])) rfl (hb hby at_106) (by decide) (by decide)
  obtain ⟨b13, gz13⟩ : ∃ z, z = T12.heap.size := ⟨_, rfl⟩
  rw [← gz13] at A13 D13 U13 st13
  have sz_b13 : h0.size ≤ b13 := Nat.le_trans K12.1 (Nat.le_of_eq gz13.symm)
  have g_b13 : n0 ≤ b13 := Nat.le_trans Z0 sz_b13
  have O13 := O12.ext E13
  have K13 : Keep h0 h13 [] := K12.ext E13
  have CR13 := CR12.trans (CHr.ext E13 CR12.1)
  have Fi13_41 : Fld Z h13 b13 "com/example/knooppunt/knooppunt/model/Reading" "name" "Ljava/lang/String;" .null := D13 (Or.inr (hw _ (List.mem_of_getElem? (i := 41) rfl))) (ty := (.object "java/lang/String")) (by decide)
  have Fi13_43 : Fld Z h13 b13 "com/example/knooppunt/knooppunt/model/Reading" "text" "Ljava/lang/String;" .null := D13 (Or.inr (hw _ (List.mem_of_getElem? (i := 43) rfl))) (ty := (.object "java/lang/String")) (by decide)
  have Fi13_45 : Fld Z h13 b13 "com/example/knooppunt/knooppunt/model/Reading" "value" "Ljava/lang/Object;" .null := D13 (Or.inr (hw _ (List.mem_of_getElem? (i := 45) rfl))) (ty := (.object "java/lang/Object")) (by decide)
  have Fi13_47 : Fld Z h13 b13 "com/example/knooppunt/knooppunt/model/Reading" "problem" "Ljava/lang/String;" .null := D13 (Or.inr (hw _ (List.mem_of_getElem? (i := 47) rfl))) (ty := (.object "java/lang/String")) (by decide)
  obtain ⟨a14, T14, h14, k14, X14, e14, E14, hS14, hk14, hZ, hown, CL14, Lt14, st14⟩ := ldcOH (s := s) (vm0 := T11.vm) X13 hx hZ hown (hw _ (List.mem_of_getElem? (i := 48) rfl)) wS e13 hS11 (Nat.le_trans (Nat.le_trans hk11 kh12.1) E13.1) hEL CR13.1 (g := (mkF m 110 #[.val (.int fl), .val (.int pa), .val (.int pb), .val (.int pc), .val (.int pd), .val (.ref r_1), .val v0_2, .val v0_3, .val v0_4, .val v0_5, .val v0_6, .val (.ref b7), .val (.ref b10), .unset, .unset, .unset, .unset] [(.ref b13), (.ref b13)])) rfl (hb hby at_110) (n := 60) (by decide) (by decide) (by decide) (by decide)
  have hZ14 := hZ
  have hown14 := hown
  have O14 := O13.ext E14
  have K14 : Keep h0 h14 [] := K13.ext E14
  have CR14 := CR13.trans CL14
  obtain ⟨_, _, ⟨T15, L15, k15, n15⟩, -, X15, ⟨Lc15, hQ15, l15, y15, z15⟩, st15⟩ := X14.specialBack hx (y := (⟨"com/example/knooppunt/knooppunt/model/Reading", "<init>", "(Ljava/lang/String;Ljava/lang/String;Ljava/lang/Object;Ljava/lang/String;)V"⟩ : MethodName)) rfl hown (mvT hZ (hw _ (List.mem_of_getElem? (i := 36) rfl))) (mvT hZ (hw _ (List.mem_of_getElem? (i := 37) rfl))) (mvT hZ (hw _ (List.mem_of_getElem? (i := 38) rfl))) (by decide) (backOf (W := 1) (rdI l Z a0 hw [] b13 a14 v0_4 v0_2 v0_6 h14 n0 O14 (A13.ext E14) (Fi13_41.ext E14) (Fi13_43.ext E14) (Fi13_45.ext E14) (Fi13_47.ext E14) g_b13 pq4_0 pq2_0 pq6_0) hZ (hw _ (List.mem_of_getElem? (i := 38) rfl)) (hw _ (List.mem_of_getElem? (i := 34) rfl)) (by decide) (by decide)) (g := (mkF m 118 #[.val (.int fl), .val (.int pa), .val (.int pb), .val (.int pc), .val (.int pd), .val (.ref r_1), .val v0_2, .val v0_3, .val v0_4, .val v0_5, .val v0_6, .val (.ref b7), .val (.ref b10), .unset, .unset, .unset, .unset] [v0_6, v0_2, v0_4, (.ref a14), (.ref b13), (.ref b13)])) rfl (by rw [hml]; rfl) (Steps.refl _) (a := b13) (argsL := [(.ref a14), v0_4, v0_2, v0_6]) (rest := [(.ref b13)]) (lenOf pd_13 rfl) rfl (by show 2 * 0 + _ ≤ _; exact Nat.le_of_eq rfl) (hb hby at_118) (fun _ _ => ⟨rfl, e14, (by decide : 45 + 0 ≤ _), (by decide : 203 + 0 ≤ _)⟩)
  dsimp only [Pt.U, Pt.locs, Pt.cells, Pt.slots] at X15 l15 y15 z15 st15 hQ15
  subst l15 y15 z15
  obtain ⟨rfl, Nq15, kh15, Po15_0, Po15_1⟩ := hQ15
  have N15 := Fr.app N12 Nq15
  have O15 := O14.keep kh15 (allS g_b13 all0)
  have K15 : Keep h0 T15.heap [] := K14.trans kh15 (allS (Or.inr sz_b13) all0)
  have hs15 : ∀ x ∈ ([b13] : List Addr), Safe Z own_EL T14.vm h14 x := (allS (Safe.exa hZ.alike (A13.ext E14) (by decide) (by decide)) all0)
  have CR15 := CR14.trans (CHr.keep kh15 hs15 CR14.1)
  obtain ⟨T16, h16, X16, e16, E16, A16, D16, U16, st16⟩ := newO X15 hx hZ hown (hw _ (List.mem_of_getElem? (i := 49) rfl)) (hw _ (List.mem_of_getElem? (i := 50) rfl)) (hw _ (List.mem_of_getElem? (i := 51) rfl)) rfl (g := (mkF m 123 #[.val (.int fl), .val (.int pa), .val (.int pb), .val (.int pc), .val (.int pd), .val (.ref r_1), .val v0_2, .val v0_3, .val v0_4, .val v0_5, .val v0_6, .val (.ref b7), .val (.ref b10), .val (.ref b13), .unset, .unset, .unset] [])) rfl (hb hby at_123) (by decide) (by decide)
  obtain ⟨b16, gz16⟩ : ∃ z, z = T15.heap.size := ⟨_, rfl⟩
  rw [← gz16] at A16 D16 U16 st16
  have sz_b16 : h0.size ≤ b16 := Nat.le_trans K15.1 (Nat.le_of_eq gz16.symm)
  have g_b16 : n0 ≤ b16 := Nat.le_trans Z0 sz_b16
  have O16 := O15.ext E16
  have K16 : Keep h0 h16 [] := K15.ext E16
  have CR16 := CR15.trans (CHr.ext E16 CR15.1)
  have Fi16_57 : Fld Z h16 b16 "com/example/knooppunt/knooppunt/reader/TimetableElements$Route" "source" "Lcom/example/knooppunt/knooppunt/reader/Source;" .null := D16 (Or.inr (hw _ (List.mem_of_getElem? (i := 57) rfl))) (ty := (.object "com/example/knooppunt/knooppunt/reader/Source")) (by decide)
  have Fi16_59 : Fld Z h16 b16 "com/example/knooppunt/knooppunt/reader/TimetableElements$Route" "lineRef" "Lcom/example/knooppunt/knooppunt/model/Reading;" .null := D16 (Or.inr (hw _ (List.mem_of_getElem? (i := 59) rfl))) (ty := (.object "com/example/knooppunt/knooppunt/model/Reading")) (by decide)
  have Fi16_61 : Fld Z h16 b16 "com/example/knooppunt/knooppunt/reader/TimetableElements$Route" "flexibleLineRef" "Lcom/example/knooppunt/knooppunt/model/Reading;" .null := D16 (Or.inr (hw _ (List.mem_of_getElem? (i := 61) rfl))) (ty := (.object "com/example/knooppunt/knooppunt/model/Reading")) (by decide)
  obtain ⟨_, _, ⟨T17, L17, k17, n17⟩, -, X17, ⟨Lc17, hQ17, l17, y17, z17⟩, st17⟩ := X16.specialBack hx (y := (⟨"com/example/knooppunt/knooppunt/reader/TimetableElements$Route", "<init>", "(Lcom/example/knooppunt/knooppunt/reader/Source;Lcom/example/knooppunt/knooppunt/model/Reading;Lcom/example/knooppunt/knooppunt/model/Reading;)V"⟩ : MethodName)) rfl hown (mvT hZ (hw _ (List.mem_of_getElem? (i := 52) rfl))) (mvT hZ (hw _ (List.mem_of_getElem? (i := 53) rfl))) (mvT hZ (hw _ (List.mem_of_getElem? (i := 54) rfl))) (by decide) (backOf (W := 1) (rtI l Z a0 hw [] b16 b7 b10 b13 h16 n0 O16 A16 Fi16_57 Fi16_59 Fi16_61 g_b16) hZ (hw _ (List.mem_of_getElem? (i := 54) rfl)) (hw _ (List.mem_of_getElem? (i := 51) rfl)) (by decide) (by decide)) (g := (mkF m 133 #[.val (.int fl), .val (.int pa), .val (.int pb), .val (.int pc), .val (.int pd), .val (.ref r_1), .val v0_2, .val v0_3, .val v0_4, .val v0_5, .val v0_6, .val (.ref b7), .val (.ref b10), .val (.ref b13), .unset, .unset, .unset] [(.ref b13), (.ref b10), (.ref b7), (.ref b16), (.ref b16)])) rfl (by rw [hml]; rfl) (Steps.refl _) (a := b16) (argsL := [(.ref b7), (.ref b10), (.ref b13)]) (rest := [(.ref b16)]) (lenOf pd_14 rfl) rfl (by show 2 * 0 + _ ≤ _; exact Nat.le_of_eq rfl) (hb hby at_133) (fun _ _ => ⟨rfl, e16, (by decide : 46 + 0 ≤ _), (by decide : 206 + 0 ≤ _)⟩)
  dsimp only [Pt.U, Pt.locs, Pt.cells, Pt.slots] at X17 l17 y17 z17 st17 hQ17
  subst l17 y17 z17
  obtain ⟨rfl, Nq17, kh17, Po17_0, Po17_1, Po17_2⟩ := hQ17
  have N17 := Fr.app N15 Nq17
  have O17 := O16.keep kh17 (allS g_b16 all0)
  have K17 : Keep h0 T17.heap [] := K16.trans kh17 (allS (Or.inr sz_b16) all0)
  have hs17 : ∀ x ∈ ([b16] : List Addr), Safe Z own_EL T14.vm h16 x := (allS (Safe.exa hZ.alike A16 (by decide) (by decide)) all0)
  have CR17 := CR16.trans (CHr.keep kh17 hs17 CR16.1)
  have c18 : Fld Z T17.heap b10 "com/example/knooppunt/knooppunt/model/Reading" "value" "Ljava/lang/Object;" (.ref r_1) := (((((Po12_1.ext E13).ext E14).keep kh15 (ninS (Nat.ne_of_lt (Nat.lt_of_lt_of_le (Po12_0).lt (Nat.le_of_eq gz13.symm))) nin0)).ext E16).keep kh17 (ninS (Nat.ne_of_lt (Nat.lt_of_lt_of_le ((((Po12_0.ext E13).ext E14).keep kh15)).lt (Nat.le_of_eq gz16.symm))) nin0))
  have c19 : Exa Z T17.heap r_1 "java/lang/String" := ((((((((((((((((Po1_0.keep kh2).keep kh3).keep kh4).keep kh5).keep kh6).ext E7).ext E8).keep kh9).ext E10).ext E11).keep kh12).ext E13).ext E14).keep kh15).ext E16).keep kh17)
  obtain ⟨cq20, kq20, q20a, q20b, q20c⟩ := isOf hZ rfl Po17_0
  obtain ⟨_, _, ⟨T20, L20, k20, n20⟩, -, X20, ⟨Lc20, hQ20, l20, y20, z20⟩, st20⟩ := X17.virtualBack hx (y := (⟨"com/example/knooppunt/knooppunt/reader/TimetableElements$Route", "line", "()Ljava/lang/String;"⟩ : MethodName)) (z := (⟨"com/example/knooppunt/knooppunt/reader/TimetableElements$Route", "line", "()Ljava/lang/String;"⟩ : MethodName)) hown (mvT hZ (hw _ (List.mem_of_getElem? (i := 62) rfl))) (mvT hZ (hw _ (List.mem_of_getElem? (i := 63) rfl))) (notFace_of_selects (args := #[]) (mvT hZ (hw _ (List.mem_of_getElem? (i := 65) rfl)))) (mvT hZ (hw _ (List.mem_of_getElem? (i := 65) rfl))) (mvT hZ (hw _ (List.mem_of_getElem? (i := 64) rfl))) (by decide) (backOf (W := 0) (lineR l Z a0 hw [] b16 b10 r_1 T17.heap n0 O17 Po17_1 (((((Po12_0.ext E13).ext E14).keep kh15).ext E16).keep kh17) c18 c19) hZ (hw _ (List.mem_of_getElem? (i := 66) rfl)) (hw _ (List.mem_of_getElem? (i := 51) rfl)) (by decide) (by decide)) q20a q20c (g := (mkF m 140 #[.val (.int fl), .val (.int pa), .val (.int pb), .val (.int pc), .val (.int pd), .val (.ref r_1), .val v0_2, .val v0_3, .val v0_4, .val v0_5, .val v0_6, .val (.ref b7), .val (.ref b10), .val (.ref b13), .val (.ref b16), .unset, .unset] [(.ref b16)])) rfl (by rw [hml]; rfl) (Steps.refl _) (argsL := []) (rest := []) (lenOf pd_15 rfl) rfl (by show 2 * 0 + _ ≤ _; exact Nat.le_of_eq rfl) (hb hby at_140) (fun _ _ => ⟨rfl, rfl, (by decide : 46 + 0 ≤ _), (by decide : 206 + 0 ≤ _)⟩)
  dsimp only [Pt.U, Pt.locs, Pt.cells, Pt.slots] at X20 l20 y20 z20 st20 hQ20
  subst l20 y20 z20
  obtain ⟨rfl, Nq20, kh20⟩ := hQ20
  have N20 := Fr.app N17 Nq20
  obtain ⟨cq21, kq21, q21a, q21b, q21c⟩ := isOf hZ kh20 c19
  obtain ⟨_, _, ⟨T21, L21, k21, n21⟩, -, X21, ⟨Lc21, hQ21, l21, y21, z21⟩, st21⟩ := X20.virtualBack hx (y := (⟨"java/lang/String", "equals", "(Ljava/lang/Object;)Z"⟩ : MethodName)) (z := (⟨"java/lang/String", "equals", "(Ljava/lang/Object;)Z"⟩ : MethodName)) hown (mvT hZ (hw _ (List.mem_of_getElem? (i := 96) rfl))) (mvT hZ (hw _ (List.mem_of_getElem? (i := 97) rfl))) (notFace_of_selects (args := #[]) (mvT hZ (hw _ (List.mem_of_getElem? (i := 99) rfl)))) (mvT hZ (hw _ (List.mem_of_getElem? (i := 99) rfl))) (mvT hZ (hw _ (List.mem_of_getElem? (i := 98) rfl))) (by decide) (backOf (W := 0) (eqS l Z a0 hw [] r_1 T17.heap n0 O17 ) hZ (hw _ (List.mem_of_getElem? (i := 100) rfl)) (hw _ (List.mem_of_getElem? (i := 8) rfl)) (by decide) (by decide)) q21a q21c (g := (mkF m 181 #[.val (.int fl), .val (.int pa), .val (.int pb), .val (.int pc), .val (.int pd), .val (.ref r_1), .val v0_2, .val v0_3, .val v0_4, .val v0_5, .val v0_6, .val (.ref b7), .val (.ref b10), .val (.ref b13), .val (.ref b16), .val (.ref r_1), .val (.ref r_1)] [(.ref r_1), (.ref r_1)])) rfl (by rw [hml]; rfl) (Steps.refl _) (argsL := [(.ref r_1)]) (rest := []) (lenOf pd_16 rfl) rfl (by show 2 * 0 + _ ≤ _; exact Nat.le_of_eq rfl) (hb hby at_181) (fun _ _ => ⟨rfl, kh20, (by decide : 46 + 0 ≤ _), (by decide : 206 + 0 ≤ _)⟩)
  dsimp only [Pt.U, Pt.locs, Pt.cells, Pt.slots] at X21 l21 y21 z21 st21 hQ21
  subst l21 y21 z21
  obtain ⟨rfl, Nq21, kh21⟩ := hQ21
  have N21 := Fr.app N20 Nq21
  obtain ⟨fs, hr, hrun, hended, hRW⟩ := X21.leaveW (s := s) hS14 (own_hk kh21 (Nat.le_trans (Nat.le_trans (Nat.le_trans hk14 kh15.1) E16.1) kh17.1)) (v := some (.int (1 : Int32))) (fun h => by rw [Bd.returns] at h; cases h)
  have CE := CR17.trans (CHv.at (s := s) (vm0 := T14.vm) X21 hZ hEL CR17.1)
  refine ⟨_, _, pre0 _ ?_, hrun, hended, _, _, rfl, ?_, ?_, own_rw_mono hRW (by decide) (by decide)⟩
  · show Steps p.tables e below (s₁.setTop (mkF m 0 #[.val (.int fl), .val (.int pa), .val (.int pb), .val (.int pc), .val (.int pd), .unset, .unset, .unset, .unset, .unset, .unset, .unset, .unset, .unset, .unset, .unset, .unset] [])) _
    refine XS.iloadN X0.here hx rfl (hb hby at_0) rfl ?_
    show Steps p.tables e below (s₁.setTop (mkF m 1 #[.val (.int fl), .val (.int pa), .val (.int pb), .val (.int pc), .val (.int pd), .unset, .unset, .unset, .unset, .unset, .unset, .unset, .unset, .unset, .unset, .unset, .unset] [(.int fl)])) _
    refine XS.iconst X0.here hx rfl (hb hby at_1) ?_
    show Steps p.tables e below (s₁.setTop (mkF m 2 #[.val (.int fl), .val (.int pa), .val (.int pb), .val (.int pc), .val (.int pd), .unset, .unset, .unset, .unset, .unset, .unset, .unset, .unset, .unset, .unset, .unset, .unset] [(.int (3 : Int32)), (.int fl)])) _
    refine XS.iand X0.here hx rfl (hb hby at_2) rfl ?_
    show Steps p.tables e below (s₁.setTop (mkF m 3 #[.val (.int fl), .val (.int pa), .val (.int pb), .val (.int pc), .val (.int pd), .unset, .unset, .unset, .unset, .unset, .unset, .unset, .unset, .unset, .unset, .unset, .unset] [(.int (fl &&& (3 : Int32)))])) _
    refine XS.iloadN X0.here hx rfl (hb hby at_3) rfl ?_
    show Steps p.tables e below (s₁.setTop (mkF m 4 #[.val (.int fl), .val (.int pa), .val (.int pb), .val (.int pc), .val (.int pd), .unset, .unset, .unset, .unset, .unset, .unset, .unset, .unset, .unset, .unset, .unset, .unset] [(.int pa), (.int (fl &&& (3 : Int32)))])) _
    refine st1.trans ?_
    show Steps p.tables e below (T1.setTop (mkF m 7 #[.val (.int fl), .val (.int pa), .val (.int pb), .val (.int pc), .val (.int pd), .unset, .unset, .unset, .unset, .unset, .unset, .unset, .unset, .unset, .unset, .unset, .unset] [(.ref r_1)])) _
    refine XS.astore X1.here hx rfl (hb hby at_7) rfl rfl (l' := #[.val (.int fl), .val (.int pa), .val (.int pb), .val (.int pc), .val (.int pd), .val (.ref r_1), .unset, .unset, .unset, .unset, .unset, .unset, .unset, .unset, .unset, .unset, .unset]) rfl ?_
    show Steps p.tables e below (T1.setTop (mkF m 9 #[.val (.int fl), .val (.int pa), .val (.int pb), .val (.int pc), .val (.int pd), .val (.ref r_1), .unset, .unset, .unset, .unset, .unset, .unset, .unset, .unset, .unset, .unset, .unset] [])) _
    refine XS.iloadN X1.here hx rfl (hb hby at_9) rfl ?_
    show Steps p.tables e below (T1.setTop (mkF m 10 #[.val (.int fl), .val (.int pa), .val (.int pb), .val (.int pc), .val (.int pd), .val (.ref r_1), .unset, .unset, .unset, .unset, .unset, .unset, .unset, .unset, .unset, .unset, .unset] [(.int fl)])) _
    refine XS.iconst X1.here hx rfl (hb hby at_10) ?_
    show Steps p.tables e below (T1.setTop (mkF m 11 #[.val (.int fl), .val (.int pa), .val (.int pb), .val (.int pc), .val (.int pd), .val (.ref r_1), .unset, .unset, .unset, .unset, .unset, .unset, .unset, .unset, .unset, .unset, .unset] [(.int (2 : Int32)), (.int fl)])) _
    refine XS.iushr X1.here hx rfl (hb hby at_11) rfl ?_
    show Steps p.tables e below (T1.setTop (mkF m 12 #[.val (.int fl), .val (.int pa), .val (.int pb), .val (.int pc), .val (.int pd), .val (.ref r_1), .unset, .unset, .unset, .unset, .unset, .unset, .unset, .unset, .unset, .unset, .unset] [(.int ((fl.toUInt32 >>> ((2 : Int32) &&& 31).toUInt32).toInt32))])) _
    refine XS.iconst X1.here hx rfl (hb hby at_12) ?_
    show Steps p.tables e below (T1.setTop (mkF m 13 #[.val (.int fl), .val (.int pa), .val (.int pb), .val (.int pc), .val (.int pd), .val (.ref r_1), .unset, .unset, .unset, .unset, .unset, .unset, .unset, .unset, .unset, .unset, .unset] [(.int (3 : Int32)), (.int ((fl.toUInt32 >>> ((2 : Int32) &&& 31).toUInt32).toInt32))])) _
    refine XS.iand X1.here hx rfl (hb hby at_13) rfl ?_
    show Steps p.tables e below (T1.setTop (mkF m 14 #[.val (.int fl), .val (.int pa), .val (.int pb), .val (.int pc), .val (.int pd), .val (.ref r_1), .unset, .unset, .unset, .unset, .unset, .unset, .unset, .unset, .unset, .unset, .unset] [(.int (((fl.toUInt32 >>> ((2 : Int32) &&& 31).toUInt32).toInt32) &&& (3 : Int32)))])) _
    refine XS.iloadN X1.here hx rfl (hb hby at_14) rfl ?_
    show Steps p.tables e below (T1.setTop (mkF m 15 #[.val (.int fl), .val (.int pa), .val (.int pb), .val (.int pc), .val (.int pd), .val (.ref r_1), .unset, .unset, .unset, .unset, .unset, .unset, .unset, .unset, .unset, .unset, .unset] [(.int pb), (.int (((fl.toUInt32 >>> ((2 : Int32) &&& 31).toUInt32).toInt32) &&& (3 : Int32)))])) _
    refine st2.trans ?_
    show Steps p.tables e below (T2.setTop (mkF m 18 #[.val (.int fl), .val (.int pa), .val (.int pb), .val (.int pc), .val (.int pd), .val (.ref r_1), .unset, .unset, .unset, .unset, .unset, .unset, .unset, .unset, .unset, .unset, .unset] [v0_2])) _
    refine XS.astore X2.here hx rfl (hb hby at_18) rfl pq2_0 (l' := #[.val (.int fl), .val (.int pa), .val (.int pb), .val (.int pc), .val (.int pd), .val (.ref r_1), .val v0_2, .unset, .unset, .unset, .unset, .unset, .unset, .unset, .unset, .unset, .unset]) (XS.store1 (o := .unset) rfl (Or.inl rfl) (own_cat pq2_0)) ?_
    show Steps p.tables e below (T2.setTop (mkF m 20 #[.val (.int fl), .val (.int pa), .val (.int pb), .val (.int pc), .val (.int pd), .val (.ref r_1), .val v0_2, .unset, .unset, .unset, .unset, .unset, .unset, .unset, .unset, .unset, .unset] [])) _
    refine XS.iloadN X2.here hx rfl (hb hby at_20) rfl ?_
    show Steps p.tables e below (T2.setTop (mkF m 21 #[.val (.int fl), .val (.int pa), .val (.int pb), .val (.int pc), .val (.int pd), .val (.ref r_1), .val v0_2, .unset, .unset, .unset, .unset, .unset, .unset, .unset, .unset, .unset, .unset] [(.int fl)])) _
    refine XS.iconst X2.here hx rfl (hb hby at_21) ?_
    show Steps p.tables e below (T2.setTop (mkF m 22 #[.val (.int fl), .val (.int pa), .val (.int pb), .val (.int pc), .val (.int pd), .val (.ref r_1), .val v0_2, .unset, .unset, .unset, .unset, .unset, .unset, .unset, .unset, .unset, .unset] [(.int (4 : Int32)), (.int fl)])) _
    refine XS.iushr X2.here hx rfl (hb hby at_22) rfl ?_
    show Steps p.tables e below (T2.setTop (mkF m 23 #[.val (.int fl), .val (.int pa), .val (.int pb), .val (.int pc), .val (.int pd), .val (.ref r_1), .val v0_2, .unset, .unset, .unset, .unset, .unset, .unset, .unset, .unset, .unset, .unset] [(.int ((fl.toUInt32 >>> ((4 : Int32) &&& 31).toUInt32).toInt32))])) _
    refine XS.iconst X2.here hx rfl (hb hby at_23) ?_
    show Steps p.tables e below (T2.setTop (mkF m 24 #[.val (.int fl), .val (.int pa), .val (.int pb), .val (.int pc), .val (.int pd), .val (.ref r_1), .val v0_2, .unset, .unset, .unset, .unset, .unset, .unset, .unset, .unset, .unset, .unset] [(.int (3 : Int32)), (.int ((fl.toUInt32 >>> ((4 : Int32) &&& 31).toUInt32).toInt32))])) _
    refine XS.iand X2.here hx rfl (hb hby at_24) rfl ?_
    show Steps p.tables e below (T2.setTop (mkF m 25 #[.val (.int fl), .val (.int pa), .val (.int pb), .val (.int pc), .val (.int pd), .val (.ref r_1), .val v0_2, .unset, .unset, .unset, .unset, .unset, .unset, .unset, .unset, .unset, .unset] [(.int (((fl.toUInt32 >>> ((4 : Int32) &&& 31).toUInt32).toInt32) &&& (3 : Int32)))])) _
    refine XS.iloadN X2.here hx rfl (hb hby at_25) rfl ?_
    show Steps p.tables e below (T2.setTop (mkF m 26 #[.val (.int fl), .val (.int pa), .val (.int pb), .val (.int pc), .val (.int pd), .val (.ref r_1), .val v0_2, .unset, .unset, .unset, .unset, .unset, .unset, .unset, .unset, .unset, .unset] [(.int pc), (.int (((fl.toUInt32 >>> ((4 : Int32) &&& 31).toUInt32).toInt32) &&& (3 : Int32)))])) _
    refine st3.trans ?_
    show Steps p.tables e below (T3.setTop (mkF m 29 #[.val (.int fl), .val (.int pa), .val (.int pb), .val (.int pc), .val (.int pd), .val (.ref r_1), .val v0_2, .unset, .unset, .unset, .unset, .unset, .unset, .unset, .unset, .unset, .unset] [v0_3])) _
    refine XS.astore X3.here hx rfl (hb hby at_29) rfl pq3_0 (l' := #[.val (.int fl), .val (.int pa), .val (.int pb), .val (.int pc), .val (.int pd), .val (.ref r_1), .val v0_2, .val v0_3, .unset, .unset, .unset, .unset, .unset, .unset, .unset, .unset, .unset]) (XS.store1 (o := .unset) rfl (Or.inl rfl) (own_cat pq3_0)) ?_
    show Steps p.tables e below (T3.setTop (mkF m 31 #[.val (.int fl), .val (.int pa), .val (.int pb), .val (.int pc), .val (.int pd), .val (.ref r_1), .val v0_2, .val v0_3, .unset, .unset, .unset, .unset, .unset, .unset, .unset, .unset, .unset] [])) _
    refine XS.iloadN X3.here hx rfl (hb hby at_31) rfl ?_
    show Steps p.tables e below (T3.setTop (mkF m 32 #[.val (.int fl), .val (.int pa), .val (.int pb), .val (.int pc), .val (.int pd), .val (.ref r_1), .val v0_2, .val v0_3, .unset, .unset, .unset, .unset, .unset, .unset, .unset, .unset, .unset] [(.int fl)])) _
    refine XS.bipush X3.here hx rfl (hb hby at_32) ?_
    show Steps p.tables e below (T3.setTop (mkF m 34 #[.val (.int fl), .val (.int pa), .val (.int pb), .val (.int pc), .val (.int pd), .val (.ref r_1), .val v0_2, .val v0_3, .unset, .unset, .unset, .unset, .unset, .unset, .unset, .unset, .unset] [(.int (6 : Int32)), (.int fl)])) _
    refine XS.iushr X3.here hx rfl (hb hby at_34) rfl ?_
    show Steps p.tables e below (T3.setTop (mkF m 35 #[.val (.int fl), .val (.int pa), .val (.int pb), .val (.int pc), .val (.int pd), .val (.ref r_1), .val v0_2, .val v0_3, .unset, .unset, .unset, .unset, .unset, .unset, .unset, .unset, .unset] [(.int ((fl.toUInt32 >>> ((6 : Int32) &&& 31).toUInt32).toInt32))])) _
    refine XS.iconst X3.here hx rfl (hb hby at_35) ?_
    show Steps p.tables e below (T3.setTop (mkF m 36 #[.val (.int fl), .val (.int pa), .val (.int pb), .val (.int pc), .val (.int pd), .val (.ref r_1), .val v0_2, .val v0_3, .unset, .unset, .unset, .unset, .unset, .unset, .unset, .unset, .unset] [(.int (3 : Int32)), (.int ((fl.toUInt32 >>> ((6 : Int32) &&& 31).toUInt32).toInt32))])) _
    refine XS.iand X3.here hx rfl (hb hby at_36) rfl ?_
    show Steps p.tables e below (T3.setTop (mkF m 37 #[.val (.int fl), .val (.int pa), .val (.int pb), .val (.int pc), .val (.int pd), .val (.ref r_1), .val v0_2, .val v0_3, .unset, .unset, .unset, .unset, .unset, .unset, .unset, .unset, .unset] [(.int (((fl.toUInt32 >>> ((6 : Int32) &&& 31).toUInt32).toInt32) &&& (3 : Int32)))])) _
    refine XS.iloadN X3.here hx rfl (hb hby at_37) rfl ?_
    show Steps p.tables e below (T3.setTop (mkF m 38 #[.val (.int fl), .val (.int pa), .val (.int pb), .val (.int pc), .val (.int pd), .val (.ref r_1), .val v0_2, .val v0_3, .unset, .unset, .unset, .unset, .unset, .unset, .unset, .unset, .unset] [(.int pc), (.int (((fl.toUInt32 >>> ((6 : Int32) &&& 31).toUInt32).toInt32) &&& (3 : Int32)))])) _
    refine XS.bipush X3.here hx rfl (hb hby at_38) ?_
    show Steps p.tables e below (T3.setTop (mkF m 40 #[.val (.int fl), .val (.int pa), .val (.int pb), .val (.int pc), .val (.int pd), .val (.ref r_1), .val v0_2, .val v0_3, .unset, .unset, .unset, .unset, .unset, .unset, .unset, .unset, .unset] [(.int (16 : Int32)), (.int pc), (.int (((fl.toUInt32 >>> ((6 : Int32) &&& 31).toUInt32).toInt32) &&& (3 : Int32)))])) _
    refine XS.iushr X3.here hx rfl (hb hby at_40) rfl ?_
    show Steps p.tables e below (T3.setTop (mkF m 41 #[.val (.int fl), .val (.int pa), .val (.int pb), .val (.int pc), .val (.int pd), .val (.ref r_1), .val v0_2, .val v0_3, .unset, .unset, .unset, .unset, .unset, .unset, .unset, .unset, .unset] [(.int ((pc.toUInt32 >>> ((16 : Int32) &&& 31).toUInt32).toInt32)), (.int (((fl.toUInt32 >>> ((6 : Int32) &&& 31).toUInt32).toInt32) &&& (3 : Int32)))])) _
    refine st4.trans ?_
    show Steps p.tables e below (T4.setTop (mkF m 44 #[.val (.int fl), .val (.int pa), .val (.int pb), .val (.int pc), .val (.int pd), .val (.ref r_1), .val v0_2, .val v0_3, .unset, .unset, .unset, .unset, .unset, .unset, .unset, .unset, .unset] [v0_4])) _
    refine XS.astore X4.here hx rfl (hb hby at_44) rfl pq4_0 (l' := #[.val (.int fl), .val (.int pa), .val (.int pb), .val (.int pc), .val (.int pd), .val (.ref r_1), .val v0_2, .val v0_3, .val v0_4, .unset, .unset, .unset, .unset, .unset, .unset, .unset, .unset]) (XS.store1 (o := .unset) rfl (Or.inl rfl) (own_cat pq4_0)) ?_
    show Steps p.tables e below (T4.setTop (mkF m 46 #[.val (.int fl), .val (.int pa), .val (.int pb), .val (.int pc), .val (.int pd), .val (.ref r_1), .val v0_2, .val v0_3, .val v0_4, .unset, .unset, .unset, .unset, .unset, .unset, .unset, .unset] [])) _
    refine XS.iloadN X4.here hx rfl (hb hby at_46) rfl ?_
    show Steps p.tables e below (T4.setTop (mkF m 47 #[.val (.int fl), .val (.int pa), .val (.int pb), .val (.int pc), .val (.int pd), .val (.ref r_1), .val v0_2, .val v0_3, .val v0_4, .unset, .unset, .unset, .unset, .unset, .unset, .unset, .unset] [(.int fl)])) _
    refine XS.bipush X4.here hx rfl (hb hby at_47) ?_
    show Steps p.tables e below (T4.setTop (mkF m 49 #[.val (.int fl), .val (.int pa), .val (.int pb), .val (.int pc), .val (.int pd), .val (.ref r_1), .val v0_2, .val v0_3, .val v0_4, .unset, .unset, .unset, .unset, .unset, .unset, .unset, .unset] [(.int (8 : Int32)), (.int fl)])) _
    refine XS.iushr X4.here hx rfl (hb hby at_49) rfl ?_
    show Steps p.tables e below (T4.setTop (mkF m 50 #[.val (.int fl), .val (.int pa), .val (.int pb), .val (.int pc), .val (.int pd), .val (.ref r_1), .val v0_2, .val v0_3, .val v0_4, .unset, .unset, .unset, .unset, .unset, .unset, .unset, .unset] [(.int ((fl.toUInt32 >>> ((8 : Int32) &&& 31).toUInt32).toInt32))])) _
    refine XS.iconst X4.here hx rfl (hb hby at_50) ?_
    show Steps p.tables e below (T4.setTop (mkF m 51 #[.val (.int fl), .val (.int pa), .val (.int pb), .val (.int pc), .val (.int pd), .val (.ref r_1), .val v0_2, .val v0_3, .val v0_4, .unset, .unset, .unset, .unset, .unset, .unset, .unset, .unset] [(.int (3 : Int32)), (.int ((fl.toUInt32 >>> ((8 : Int32) &&& 31).toUInt32).toInt32))])) _
    refine XS.iand X4.here hx rfl (hb hby at_51) rfl ?_
    show Steps p.tables e below (T4.setTop (mkF m 52 #[.val (.int fl), .val (.int pa), .val (.int pb), .val (.int pc), .val (.int pd), .val (.ref r_1), .val v0_2, .val v0_3, .val v0_4, .unset, .unset, .unset, .unset, .unset, .unset, .unset, .unset] [(.int (((fl.toUInt32 >>> ((8 : Int32) &&& 31).toUInt32).toInt32) &&& (3 : Int32)))])) _
    refine XS.iload X4.here hx rfl (hb hby at_52) rfl ?_
    show Steps p.tables e below (T4.setTop (mkF m 54 #[.val (.int fl), .val (.int pa), .val (.int pb), .val (.int pc), .val (.int pd), .val (.ref r_1), .val v0_2, .val v0_3, .val v0_4, .unset, .unset, .unset, .unset, .unset, .unset, .unset, .unset] [(.int pd), (.int (((fl.toUInt32 >>> ((8 : Int32) &&& 31).toUInt32).toInt32) &&& (3 : Int32)))])) _
    refine st5.trans ?_
    show Steps p.tables e below (T5.setTop (mkF m 57 #[.val (.int fl), .val (.int pa), .val (.int pb), .val (.int pc), .val (.int pd), .val (.ref r_1), .val v0_2, .val v0_3, .val v0_4, .unset, .unset, .unset, .unset, .unset, .unset, .unset, .unset] [v0_5])) _
    refine XS.astore X5.here hx rfl (hb hby at_57) rfl pq5_0 (l' := #[.val (.int fl), .val (.int pa), .val (.int pb), .val (.int pc), .val (.int pd), .val (.ref r_1), .val v0_2, .val v0_3, .val v0_4, .val v0_5, .unset, .unset, .unset, .unset, .unset, .unset, .unset]) (XS.store1 (o := .unset) rfl (Or.inl rfl) (own_cat pq5_0)) ?_
    show Steps p.tables e below (T5.setTop (mkF m 59 #[.val (.int fl), .val (.int pa), .val (.int pb), .val (.int pc), .val (.int pd), .val (.ref r_1), .val v0_2, .val v0_3, .val v0_4, .val v0_5, .unset, .unset, .unset, .unset, .unset, .unset, .unset] [])) _
    refine XS.iloadN X5.here hx rfl (hb hby at_59) rfl ?_
    show Steps p.tables e below (T5.setTop (mkF m 60 #[.val (.int fl), .val (.int pa), .val (.int pb), .val (.int pc), .val (.int pd), .val (.ref r_1), .val v0_2, .val v0_3, .val v0_4, .val v0_5, .unset, .unset, .unset, .unset, .unset, .unset, .unset] [(.int fl)])) _
    refine XS.bipush X5.here hx rfl (hb hby at_60) ?_
    show Steps p.tables e below (T5.setTop (mkF m 62 #[.val (.int fl), .val (.int pa), .val (.int pb), .val (.int pc), .val (.int pd), .val (.ref r_1), .val v0_2, .val v0_3, .val v0_4, .val v0_5, .unset, .unset, .unset, .unset, .unset, .unset, .unset] [(.int (10 : Int32)), (.int fl)])) _
    refine XS.iushr X5.here hx rfl (hb hby at_62) rfl ?_
    show Steps p.tables e below (T5.setTop (mkF m 63 #[.val (.int fl), .val (.int pa), .val (.int pb), .val (.int pc), .val (.int pd), .val (.ref r_1), .val v0_2, .val v0_3, .val v0_4, .val v0_5, .unset, .unset, .unset, .unset, .unset, .unset, .unset] [(.int ((fl.toUInt32 >>> ((10 : Int32) &&& 31).toUInt32).toInt32))])) _
    refine XS.iconst X5.here hx rfl (hb hby at_63) ?_
    show Steps p.tables e below (T5.setTop (mkF m 64 #[.val (.int fl), .val (.int pa), .val (.int pb), .val (.int pc), .val (.int pd), .val (.ref r_1), .val v0_2, .val v0_3, .val v0_4, .val v0_5, .unset, .unset, .unset, .unset, .unset, .unset, .unset] [(.int (3 : Int32)), (.int ((fl.toUInt32 >>> ((10 : Int32) &&& 31).toUInt32).toInt32))])) _
    refine XS.iand X5.here hx rfl (hb hby at_64) rfl ?_
    show Steps p.tables e below (T5.setTop (mkF m 65 #[.val (.int fl), .val (.int pa), .val (.int pb), .val (.int pc), .val (.int pd), .val (.ref r_1), .val v0_2, .val v0_3, .val v0_4, .val v0_5, .unset, .unset, .unset, .unset, .unset, .unset, .unset] [(.int (((fl.toUInt32 >>> ((10 : Int32) &&& 31).toUInt32).toInt32) &&& (3 : Int32)))])) _
    refine XS.iload X5.here hx rfl (hb hby at_65) rfl ?_
    show Steps p.tables e below (T5.setTop (mkF m 67 #[.val (.int fl), .val (.int pa), .val (.int pb), .val (.int pc), .val (.int pd), .val (.ref r_1), .val v0_2, .val v0_3, .val v0_4, .val v0_5, .unset, .unset, .unset, .unset, .unset, .unset, .unset] [(.int pd), (.int (((fl.toUInt32 >>> ((10 : Int32) &&& 31).toUInt32).toInt32) &&& (3 : Int32)))])) _
    refine XS.bipush X5.here hx rfl (hb hby at_67) ?_
    show Steps p.tables e below (T5.setTop (mkF m 69 #[.val (.int fl), .val (.int pa), .val (.int pb), .val (.int pc), .val (.int pd), .val (.ref r_1), .val v0_2, .val v0_3, .val v0_4, .val v0_5, .unset, .unset, .unset, .unset, .unset, .unset, .unset] [(.int (16 : Int32)), (.int pd), (.int (((fl.toUInt32 >>> ((10 : Int32) &&& 31).toUInt32).toInt32) &&& (3 : Int32)))])) _
    refine XS.iushr X5.here hx rfl (hb hby at_69) rfl ?_
    show Steps p.tables e below (T5.setTop (mkF m 70 #[.val (.int fl), .val (.int pa), .val (.int pb), .val (.int pc), .val (.int pd), .val (.ref r_1), .val v0_2, .val v0_3, .val v0_4, .val v0_5, .unset, .unset, .unset, .unset, .unset, .unset, .unset] [(.int ((pd.toUInt32 >>> ((16 : Int32) &&& 31).toUInt32).toInt32)), (.int (((fl.toUInt32 >>> ((10 : Int32) &&& 31).toUInt32).toInt32) &&& (3 : Int32)))])) _
    refine st6.trans ?_
    show Steps p.tables e below (T6.setTop (mkF m 73 #[.val (.int fl), .val (.int pa), .val (.int pb), .val (.int pc), .val (.int pd), .val (.ref r_1), .val v0_2, .val v0_3, .val v0_4, .val v0_5, .unset, .unset, .unset, .unset, .unset, .unset, .unset] [v0_6])) _
    refine XS.astore X6.here hx rfl (hb hby at_73) rfl pq6_0 (l' := #[.val (.int fl), .val (.int pa), .val (.int pb), .val (.int pc), .val (.int pd), .val (.ref r_1), .val v0_2, .val v0_3, .val v0_4, .val v0_5, .val v0_6, .unset, .unset, .unset, .unset, .unset, .unset]) (XS.store1 (o := .unset) rfl (Or.inl rfl) (own_cat pq6_0)) ?_
    show Steps p.tables e below (T6.setTop (mkF m 75 #[.val (.int fl), .val (.int pa), .val (.int pb), .val (.int pc), .val (.int pd), .val (.ref r_1), .val v0_2, .val v0_3, .val v0_4, .val v0_5, .val v0_6, .unset, .unset, .unset, .unset, .unset, .unset] [])) _
    refine st7 _ ?_
    show Steps p.tables e below (T7.setTop (mkF m 78 #[.val (.int fl), .val (.int pa), .val (.int pb), .val (.int pc), .val (.int pd), .val (.ref r_1), .val v0_2, .val v0_3, .val v0_4, .val v0_5, .val v0_6, .unset, .unset, .unset, .unset, .unset, .unset] [(.ref b7)])) _
    refine XS.dup X7.here hx rfl (hb hby at_78) rfl rfl ?_
    show Steps p.tables e below (T7.setTop (mkF m 79 #[.val (.int fl), .val (.int pa), .val (.int pb), .val (.int pc), .val (.int pd), .val (.ref r_1), .val v0_2, .val v0_3, .val v0_4, .val v0_5, .val v0_6, .unset, .unset, .unset, .unset, .unset, .unset] [(.ref b7), (.ref b7)])) _
    refine st8 _ ?_
    show Steps p.tables e below (T8.setTop (mkF m 81 #[.val (.int fl), .val (.int pa), .val (.int pb), .val (.int pc), .val (.int pd), .val (.ref r_1), .val v0_2, .val v0_3, .val v0_4, .val v0_5, .val v0_6, .unset, .unset, .unset, .unset, .unset, .unset] [(.ref a8), (.ref b7), (.ref b7)])) _
    refine XS.aconstNull X8.here hx rfl (hb hby at_81) ?_
    show Steps p.tables e below (T8.setTop (mkF m 82 #[.val (.int fl), .val (.int pa), .val (.int pb), .val (.int pc), .val (.int pd), .val (.ref r_1), .val v0_2, .val v0_3, .val v0_4, .val v0_5, .val v0_6, .unset, .unset, .unset, .unset, .unset, .unset] [.null, (.ref a8), (.ref b7), (.ref b7)])) _
    refine XS.iload X8.here hx rfl (hb hby at_82) rfl ?_
    show Steps p.tables e below (T8.setTop (mkF m 84 #[.val (.int fl), .val (.int pa), .val (.int pb), .val (.int pc), .val (.int pd), .val (.ref r_1), .val v0_2, .val v0_3, .val v0_4, .val v0_5, .val v0_6, .unset, .unset, .unset, .unset, .unset, .unset] [(.int pd), .null, (.ref a8), (.ref b7), (.ref b7)])) _
    refine st9.trans ?_
    show Steps p.tables e below (T9.setTop (mkF m 87 #[.val (.int fl), .val (.int pa), .val (.int pb), .val (.int pc), .val (.int pd), .val (.ref r_1), .val v0_2, .val v0_3, .val v0_4, .val v0_5, .val v0_6, .unset, .unset, .unset, .unset, .unset, .unset] [(.ref b7)])) _
    refine XS.astore X9.here hx rfl (hb hby at_87) rfl rfl (l' := #[.val (.int fl), .val (.int pa), .val (.int pb), .val (.int pc), .val (.int pd), .val (.ref r_1), .val v0_2, .val v0_3, .val v0_4, .val v0_5, .val v0_6, .val (.ref b7), .unset, .unset, .unset, .unset, .unset]) rfl ?_
    show Steps p.tables e below (T9.setTop (mkF m 89 #[.val (.int fl), .val (.int pa), .val (.int pb), .val (.int pc), .val (.int pd), .val (.ref r_1), .val v0_2, .val v0_3, .val v0_4, .val v0_5, .val v0_6, .val (.ref b7), .unset, .unset, .unset, .unset, .unset] [])) _
    refine st10 _ ?_
    show Steps p.tables e below (T10.setTop (mkF m 92 #[.val (.int fl), .val (.int pa), .val (.int pb), .val (.int pc), .val (.int pd), .val (.ref r_1), .val v0_2, .val v0_3, .val v0_4, .val v0_5, .val v0_6, .val (.ref b7), .unset, .unset, .unset, .unset, .unset] [(.ref b10)])) _
    refine XS.dup X10.here hx rfl (hb hby at_92) rfl rfl ?_
    show Steps p.tables e below (T10.setTop (mkF m 93 #[.val (.int fl), .val (.int pa), .val (.int pb), .val (.int pc), .val (.int pd), .val (.ref r_1), .val v0_2, .val v0_3, .val v0_4, .val v0_5, .val v0_6, .val (.ref b7), .unset, .unset, .unset, .unset, .unset] [(.ref b10), (.ref b10)])) _
    refine st11 _ ?_
    show Steps p.tables e below (T11.setTop (mkF m 95 #[.val (.int fl), .val (.int pa), .val (.int pb), .val (.int pc), .val (.int pd), .val (.ref r_1), .val v0_2, .val v0_3, .val v0_4, .val v0_5, .val v0_6, .val (.ref b7), .unset, .unset, .unset, .unset, .unset] [(.ref a11), (.ref b10), (.ref b10)])) _
    refine XS.aload X11.here hx rfl (hb hby at_95) rfl pq3_0 ?_
    show Steps p.tables e below (T11.setTop (mkF m 97 #[.val (.int fl), .val (.int pa), .val (.int pb), .val (.int pc), .val (.int pd), .val (.ref r_1), .val v0_2, .val v0_3, .val v0_4, .val v0_5, .val v0_6, .val (.ref b7), .unset, .unset, .unset, .unset, .unset] [v0_3, (.ref a11), (.ref b10), (.ref b10)])) _
    refine XS.aload X11.here hx rfl (hb hby at_97) rfl rfl ?_
    show Steps p.tables e below (T11.setTop (mkF m 99 #[.val (.int fl), .val (.int pa), .val (.int pb), .val (.int pc), .val (.int pd), .val (.ref r_1), .val v0_2, .val v0_3, .val v0_4, .val v0_5, .val v0_6, .val (.ref b7), .unset, .unset, .unset, .unset, .unset] [(.ref r_1), v0_3, (.ref a11), (.ref b10), (.ref b10)])) _
    refine XS.aload X11.here hx rfl (hb hby at_99) rfl pq5_0 ?_
    show Steps p.tables e below (T11.setTop (mkF m 101 #[.val (.int fl), .val (.int pa), .val (.int pb), .val (.int pc), .val (.int pd), .val (.ref r_1), .val v0_2, .val v0_3, .val v0_4, .val v0_5, .val v0_6, .val (.ref b7), .unset, .unset, .unset, .unset, .unset] [v0_5, (.ref r_1), v0_3, (.ref a11), (.ref b10), (.ref b10)])) _
    refine st12.trans ?_
    show Steps p.tables e below (T12.setTop (mkF m 104 #[.val (.int fl), .val (.int pa), .val (.int pb), .val (.int pc), .val (.int pd), .val (.ref r_1), .val v0_2, .val v0_3, .val v0_4, .val v0_5, .val v0_6, .val (.ref b7), .unset, .unset, .unset, .unset, .unset] [(.ref b10)])) _
    refine XS.astore X12.here hx rfl (hb hby at_104) rfl rfl (l' := #[.val (.int fl), .val (.int pa), .val (.int pb), .val (.int pc), .val (.int pd), .val (.ref r_1), .val v0_2, .val v0_3, .val v0_4, .val v0_5, .val v0_6, .val (.ref b7), .val (.ref b10), .unset, .unset, .unset, .unset]) rfl ?_
    show Steps p.tables e below (T12.setTop (mkF m 106 #[.val (.int fl), .val (.int pa), .val (.int pb), .val (.int pc), .val (.int pd), .val (.ref r_1), .val v0_2, .val v0_3, .val v0_4, .val v0_5, .val v0_6, .val (.ref b7), .val (.ref b10), .unset, .unset, .unset, .unset] [])) _
    refine st13 _ ?_
    show Steps p.tables e below (T13.setTop (mkF m 109 #[.val (.int fl), .val (.int pa), .val (.int pb), .val (.int pc), .val (.int pd), .val (.ref r_1), .val v0_2, .val v0_3, .val v0_4, .val v0_5, .val v0_6, .val (.ref b7), .val (.ref b10), .unset, .unset, .unset, .unset] [(.ref b13)])) _
    refine XS.dup X13.here hx rfl (hb hby at_109) rfl rfl ?_
    show Steps p.tables e below (T13.setTop (mkF m 110 #[.val (.int fl), .val (.int pa), .val (.int pb), .val (.int pc), .val (.int pd), .val (.ref r_1), .val v0_2, .val v0_3, .val v0_4, .val v0_5, .val v0_6, .val (.ref b7), .val (.ref b10), .unset, .unset, .unset, .unset] [(.ref b13), (.ref b13)])) _
    refine st14 _ ?_
    show Steps p.tables e below (T14.setTop (mkF m 112 #[.val (.int fl), .val (.int pa), .val (.int pb), .val (.int pc), .val (.int pd), .val (.ref r_1), .val v0_2, .val v0_3, .val v0_4, .val v0_5, .val v0_6, .val (.ref b7), .val (.ref b10), .unset, .unset, .unset, .unset] [(.ref a14), (.ref b13), (.ref b13)])) _
    refine XS.aload X14.here hx rfl (hb hby at_112) rfl pq4_0 ?_
    show Steps p.tables e below (T14.setTop (mkF m 114 #[.val (.int fl), .val (.int pa), .val (.int pb), .val (.int pc), .val (.int pd), .val (.ref r_1), .val v0_2, .val v0_3, .val v0_4, .val v0_5, .val v0_6, .val (.ref b7), .val (.ref b10), .unset, .unset, .unset, .unset] [v0_4, (.ref a14), (.ref b13), (.ref b13)])) _
    refine XS.aload X14.here hx rfl (hb hby at_114) rfl pq2_0 ?_
    show Steps p.tables e below (T14.setTop (mkF m 116 #[.val (.int fl), .val (.int pa), .val (.int pb), .val (.int pc), .val (.int pd), .val (.ref r_1), .val v0_2, .val v0_3, .val v0_4, .val v0_5, .val v0_6, .val (.ref b7), .val (.ref b10), .unset, .unset, .unset, .unset] [v0_2, v0_4, (.ref a14), (.ref b13), (.ref b13)])) _
    refine XS.aload X14.here hx rfl (hb hby at_116) rfl pq6_0 ?_
    show Steps p.tables e below (T14.setTop (mkF m 118 #[.val (.int fl), .val (.int pa), .val (.int pb), .val (.int pc), .val (.int pd), .val (.ref r_1), .val v0_2, .val v0_3, .val v0_4, .val v0_5, .val v0_6, .val (.ref b7), .val (.ref b10), .unset, .unset, .unset, .unset] [v0_6, v0_2, v0_4, (.ref a14), (.ref b13), (.ref b13)])) _
    refine st15.trans ?_
    show Steps p.tables e below (T15.setTop (mkF m 121 #[.val (.int fl), .val (.int pa), .val (.int pb), .val (.int pc), .val (.int pd), .val (.ref r_1), .val v0_2, .val v0_3, .val v0_4, .val v0_5, .val v0_6, .val (.ref b7), .val (.ref b10), .unset, .unset, .unset, .unset] [(.ref b13)])) _
    refine XS.astore X15.here hx rfl (hb hby at_121) rfl rfl (l' := #[.val (.int fl), .val (.int pa), .val (.int pb), .val (.int pc), .val (.int pd), .val (.ref r_1), .val v0_2, .val v0_3, .val v0_4, .val v0_5, .val v0_6, .val (.ref b7), .val (.ref b10), .val (.ref b13), .unset, .unset, .unset]) rfl ?_
    show Steps p.tables e below (T15.setTop (mkF m 123 #[.val (.int fl), .val (.int pa), .val (.int pb), .val (.int pc), .val (.int pd), .val (.ref r_1), .val v0_2, .val v0_3, .val v0_4, .val v0_5, .val v0_6, .val (.ref b7), .val (.ref b10), .val (.ref b13), .unset, .unset, .unset] [])) _
    refine st16 _ ?_
    show Steps p.tables e below (T16.setTop (mkF m 126 #[.val (.int fl), .val (.int pa), .val (.int pb), .val (.int pc), .val (.int pd), .val (.ref r_1), .val v0_2, .val v0_3, .val v0_4, .val v0_5, .val v0_6, .val (.ref b7), .val (.ref b10), .val (.ref b13), .unset, .unset, .unset] [(.ref b16)])) _
    refine XS.dup X16.here hx rfl (hb hby at_126) rfl rfl ?_
    show Steps p.tables e below (T16.setTop (mkF m 127 #[.val (.int fl), .val (.int pa), .val (.int pb), .val (.int pc), .val (.int pd), .val (.ref r_1), .val v0_2, .val v0_3, .val v0_4, .val v0_5, .val v0_6, .val (.ref b7), .val (.ref b10), .val (.ref b13), .unset, .unset, .unset] [(.ref b16), (.ref b16)])) _
    refine XS.aload X16.here hx rfl (hb hby at_127) rfl rfl ?_
    show Steps p.tables e below (T16.setTop (mkF m 129 #[.val (.int fl), .val (.int pa), .val (.int pb), .val (.int pc), .val (.int pd), .val (.ref r_1), .val v0_2, .val v0_3, .val v0_4, .val v0_5, .val v0_6, .val (.ref b7), .val (.ref b10), .val (.ref b13), .unset, .unset, .unset] [(.ref b7), (.ref b16), (.ref b16)])) _
    refine XS.aload X16.here hx rfl (hb hby at_129) rfl rfl ?_
    show Steps p.tables e below (T16.setTop (mkF m 131 #[.val (.int fl), .val (.int pa), .val (.int pb), .val (.int pc), .val (.int pd), .val (.ref r_1), .val v0_2, .val v0_3, .val v0_4, .val v0_5, .val v0_6, .val (.ref b7), .val (.ref b10), .val (.ref b13), .unset, .unset, .unset] [(.ref b10), (.ref b7), (.ref b16), (.ref b16)])) _
    refine XS.aload X16.here hx rfl (hb hby at_131) rfl rfl ?_
    show Steps p.tables e below (T16.setTop (mkF m 133 #[.val (.int fl), .val (.int pa), .val (.int pb), .val (.int pc), .val (.int pd), .val (.ref r_1), .val v0_2, .val v0_3, .val v0_4, .val v0_5, .val v0_6, .val (.ref b7), .val (.ref b10), .val (.ref b13), .unset, .unset, .unset] [(.ref b13), (.ref b10), (.ref b7), (.ref b16), (.ref b16)])) _
    refine st17.trans ?_
    show Steps p.tables e below (T17.setTop (mkF m 136 #[.val (.int fl), .val (.int pa), .val (.int pb), .val (.int pc), .val (.int pd), .val (.ref r_1), .val v0_2, .val v0_3, .val v0_4, .val v0_5, .val v0_6, .val (.ref b7), .val (.ref b10), .val (.ref b13), .unset, .unset, .unset] [(.ref b16)])) _
    refine XS.astore X17.here hx rfl (hb hby at_136) rfl rfl (l' := #[.val (.int fl), .val (.int pa), .val (.int pb), .val (.int pc), .val (.int pd), .val (.ref r_1), .val v0_2, .val v0_3, .val v0_4, .val v0_5, .val v0_6, .val (.ref b7), .val (.ref b10), .val (.ref b13), .val (.ref b16), .unset, .unset]) rfl ?_
    show Steps p.tables e below (T17.setTop (mkF m 138 #[.val (.int fl), .val (.int pa), .val (.int pb), .val (.int pc), .val (.int pd), .val (.ref r_1), .val v0_2, .val v0_3, .val v0_4, .val v0_5, .val v0_6, .val (.ref b7), .val (.ref b10), .val (.ref b13), .val (.ref b16), .unset, .unset] [])) _
    refine XS.aload X17.here hx rfl (hb hby at_138) rfl rfl ?_
    show Steps p.tables e below (T17.setTop (mkF m 140 #[.val (.int fl), .val (.int pa), .val (.int pb), .val (.int pc), .val (.int pd), .val (.ref r_1), .val v0_2, .val v0_3, .val v0_4, .val v0_5, .val v0_6, .val (.ref b7), .val (.ref b10), .val (.ref b13), .val (.ref b16), .unset, .unset] [(.ref b16)])) _
    refine st20.trans ?_
    show Steps p.tables e below (T20.setTop (mkF m 143 #[.val (.int fl), .val (.int pa), .val (.int pb), .val (.int pc), .val (.int pd), .val (.ref r_1), .val v0_2, .val v0_3, .val v0_4, .val v0_5, .val v0_6, .val (.ref b7), .val (.ref b10), .val (.ref b13), .val (.ref b16), .unset, .unset] [(.ref r_1)])) _
    refine XS.astore X20.here hx rfl (hb hby at_143) rfl rfl (l' := #[.val (.int fl), .val (.int pa), .val (.int pb), .val (.int pc), .val (.int pd), .val (.ref r_1), .val v0_2, .val v0_3, .val v0_4, .val v0_5, .val v0_6, .val (.ref b7), .val (.ref b10), .val (.ref b13), .val (.ref b16), .val (.ref r_1), .unset]) rfl ?_
    show Steps p.tables e below (T20.setTop (mkF m 145 #[.val (.int fl), .val (.int pa), .val (.int pb), .val (.int pc), .val (.int pd), .val (.ref r_1), .val v0_2, .val v0_3, .val v0_4, .val v0_5, .val v0_6, .val (.ref b7), .val (.ref b10), .val (.ref b13), .val (.ref b16), .val (.ref r_1), .unset] [])) _
    refine XS.aload X20.here hx rfl (hb hby at_145) rfl rfl ?_
    show Steps p.tables e below (T20.setTop (mkF m 147 #[.val (.int fl), .val (.int pa), .val (.int pb), .val (.int pc), .val (.int pd), .val (.ref r_1), .val v0_2, .val v0_3, .val v0_4, .val v0_5, .val v0_6, .val (.ref b7), .val (.ref b10), .val (.ref b13), .val (.ref b16), .val (.ref r_1), .unset] [(.ref r_1)])) _
    refine XS.ifnullNo X20.here hx rfl (hb hby at_147) rfl ?_
    show Steps p.tables e below (T20.setTop (mkF m 150 #[.val (.int fl), .val (.int pa), .val (.int pb), .val (.int pc), .val (.int pd), .val (.ref r_1), .val v0_2, .val v0_3, .val v0_4, .val v0_5, .val v0_6, .val (.ref b7), .val (.ref b10), .val (.ref b13), .val (.ref b16), .val (.ref r_1), .unset] [])) _
    refine XS.aload X20.here hx rfl (hb hby at_150) rfl rfl ?_
    show Steps p.tables e below (T20.setTop (mkF m 152 #[.val (.int fl), .val (.int pa), .val (.int pb), .val (.int pc), .val (.int pd), .val (.ref r_1), .val v0_2, .val v0_3, .val v0_4, .val v0_5, .val v0_6, .val (.ref b7), .val (.ref b10), .val (.ref b13), .val (.ref b16), .val (.ref r_1), .unset] [(.ref r_1)])) _
    refine XS.astore X20.here hx rfl (hb hby at_152) rfl rfl (l' := #[.val (.int fl), .val (.int pa), .val (.int pb), .val (.int pc), .val (.int pd), .val (.ref r_1), .val v0_2, .val v0_3, .val v0_4, .val v0_5, .val v0_6, .val (.ref b7), .val (.ref b10), .val (.ref b13), .val (.ref b16), .val (.ref r_1), .val (.ref r_1)]) rfl ?_
    show Steps p.tables e below (T20.setTop (mkF m 154 #[.val (.int fl), .val (.int pa), .val (.int pb), .val (.int pc), .val (.int pd), .val (.ref r_1), .val v0_2, .val v0_3, .val v0_4, .val v0_5, .val v0_6, .val (.ref b7), .val (.ref b10), .val (.ref b13), .val (.ref b16), .val (.ref r_1), .val (.ref r_1)] [])) _
    refine XS.goto X20.here hx rfl (pc0 := 154) (pc' := 161) rfl (hb hby at_154) (by decide) (by decide) ?_
    show Steps p.tables e below (T20.setTop (mkF m 161 #[.val (.int fl), .val (.int pa), .val (.int pb), .val (.int pc), .val (.int pd), .val (.ref r_1), .val v0_2, .val v0_3, .val v0_4, .val v0_5, .val v0_6, .val (.ref b7), .val (.ref b10), .val (.ref b13), .val (.ref b16), .val (.ref r_1), .val (.ref r_1)] [])) _
    refine XS.aload X20.here hx rfl (hb hby at_161) rfl rfl ?_
    show Steps p.tables e below (T20.setTop (mkF m 163 #[.val (.int fl), .val (.int pa), .val (.int pb), .val (.int pc), .val (.int pd), .val (.ref r_1), .val v0_2, .val v0_3, .val v0_4, .val v0_5, .val v0_6, .val (.ref b7), .val (.ref b10), .val (.ref b13), .val (.ref b16), .val (.ref r_1), .val (.ref r_1)] [(.ref r_1)])) _
    refine XS.ifnonnullYes X20.here hx rfl (pc0 := 163) (pc' := 177) rfl (hb hby at_163) rfl (by decide) (by decide) ?_
    show Steps p.tables e below (T20.setTop (mkF m 177 #[.val (.int fl), .val (.int pa), .val (.int pb), .val (.int pc), .val (.int pd), .val (.ref r_1), .val v0_2, .val v0_3, .val v0_4, .val v0_5, .val v0_6, .val (.ref b7), .val (.ref b10), .val (.ref b13), .val (.ref b16), .val (.ref r_1), .val (.ref r_1)] [])) _
    refine XS.aload X20.here hx rfl (hb hby at_177) rfl rfl ?_
    show Steps p.tables e below (T20.setTop (mkF m 179 #[.val (.int fl), .val (.int pa), .val (.int pb), .val (.int pc), .val (.int pd), .val (.ref r_1), .val v0_2, .val v0_3, .val v0_4, .val v0_5, .val v0_6, .val (.ref b7), .val (.ref b10), .val (.ref b13), .val (.ref b16), .val (.ref r_1), .val (.ref r_1)] [(.ref r_1)])) _
    refine XS.aload X20.here hx rfl (hb hby at_179) rfl rfl ?_
    show Steps p.tables e below (T20.setTop (mkF m 181 #[.val (.int fl), .val (.int pa), .val (.int pb), .val (.int pc), .val (.int pd), .val (.ref r_1), .val v0_2, .val v0_3, .val v0_4, .val v0_5, .val v0_6, .val (.ref b7), .val (.ref b10), .val (.ref b13), .val (.ref b16), .val (.ref r_1), .val (.ref r_1)] [(.ref r_1), (.ref r_1)])) _
    refine st21.trans ?_
    show Steps p.tables e below (T21.setTop (mkF m 184 #[.val (.int fl), .val (.int pa), .val (.int pb), .val (.int pc), .val (.int pd), .val (.ref r_1), .val v0_2, .val v0_3, .val v0_4, .val v0_5, .val v0_6, .val (.ref b7), .val (.ref b10), .val (.ref b13), .val (.ref b16), .val (.ref r_1), .val (.ref r_1)] [(.int (1 : Int32))])) _
    exact retN X21 hx (t := .boolean) Bd.returns (by simp) (hb hby at_184) hr
  · show Q_law Z fl pa pb pc pd cs h0 n0 _ T21.heap _
    rw [kh21]
    exact ⟨rfl, N21⟩
  · show CHr Z own_EL s.vm s.heap T21.vm T21.heap
    rw [hh, kh21]; exact CE
set_option maxRecDepth 65536 in
set_option maxHeartbeats 40000000 in
theorem law_B (l : Launch) (Z : State) (a0 : Array Value) (hw : ∀ d ∈ tables_1, d.before a0 Z = true) (ws : List Jvm.Cond) (fl : Int32) (pa : Int32) (pb : Int32) (pc : Int32) (pd : Int32) (cs : Int32) (h0 : Heap) (n0 : Nat) (O0 : Old Z n0 h0) (G0 : Sta Z Z.heap "java/lang/String" "COMPACT_STRINGS" "Z" (.int cs)) (hcs : ¬ (cs = (0 : Int32))) (hk1 : (fl &&& (3 : Int32)) = (0 : Int32)) (hk2 : ¬ ((((fl.toUInt32 >>> ((2 : Int32) &&& 31).toUInt32).toInt32) &&& (3 : Int32)) = (0 : Int32))) :
    MetFree l x (head1 (Jvm.Cond.code x code maxLocals ret :: ws) room_1) (fun zA zU => zA = #[(.int fl), (.int pa), (.int pb), (.int pc), (.int pd)] ∧ Z.Warmed39 zU.vm ∧ zU.heap = h0 ∧ CHv Z own_EL zU.vm h0 ∧ ∀ x ∈ ([] : List Addr), Safe Z own_EL zU.vm h0 x) (fun _ _ _ _ _ => True) (fun _ zU zo zU' => ∃ zv zL, zo = .returned zv ∧ Q_law Z fl pa pb pc pd cs h0 n0 zv zU'.heap zL ∧ CHr Z own_EL zU.vm zU.heap zU'.vm zU'.heap ∧ ReturnedEndW zU zo zU' zL room_1.cells room_1.slots) := by
  refine MetFree.of_bodySF (plainFor_of_name pn_14) hisR ?_
  intro p e s m args below meth c s₁ Bd hml0 hP hK
  obtain ⟨rfl, hZ, hh, HC, HS⟩ := hP
  have hx := Bd.exec
  have hby := Bd.bytes
  have hml : c.maxLocals = 17 := hml0
  have hown : s.vm.findClass "com/example/knooppunt/knooppunt/reader/RouteLinePinLaw" = some m.cls := findClass_of_methodNamed Bd.named
  have hnm := (name_of_methodNamed Bd.named Bd.method).1
  have X0 : Stand p l e room_1 (s.setVm s.vm) m #[(.int fl), (.int pa), (.int pb), (.int pc), (.int pd)] below meth c s₁ [] 0 0 := Stand.of_body Bd
  have e0 : s₁.heap = h0 := by rw [← hh, Bd.state]; rfl
  have N0 := Fr.nil n0
  have Z0 : n0 ≤ h0.size := O0.1 ▸ O0.2.1
  have pre0 : ∀ zt, Steps p.tables e below (s₁.setTop (mkF m 0 #[.val (.int fl), .val (.int pa), .val (.int pb), .val (.int pc), .val (.int pd), .unset, .unset, .unset, .unset, .unset, .unset, .unset, .unset, .unset, .unset, .unset, .unset] [])) zt → Steps p.tables e below (s₁.setTop (entryFrame m #[(.int fl), (.int pa), (.int pb), (.int pc), (.int pd)] maxLocals)) zt := fun zt zk => castTop (ef_0_IIIII m fl pa pb pc pd) zk
  have hEL := own_EW hw
  have wS := own_wS hw
  have hS0 : s.Since s.vm 0 := (State.WarmedH.refl s).since 0
  have CR0 : CHr Z own_EL s.vm h0 s.vm h0 := CHr.refl HC
  have hZ0 := hZ
  have hown0 := hown
  obtain ⟨_, _, ⟨T1, L1, k1, n1⟩, -, X1, ⟨Lc1, hQ1, l1, y1, z1⟩, st1⟩ := Jvm.LawKit.callS X0 hx (y := (⟨"com/example/knooppunt/knooppunt/reader/RouteLinePinLaw", "draw", "(II)Ljava/lang/String;"⟩ : MethodName)) hown (mvT hZ (hw _ (List.mem_of_getElem? (i := 0) rfl))) (mvT hZ (hw _ (List.mem_of_getElem? (i := 1) rfl))) (mvT hZ (hw _ (List.mem_of_getElem? (i := 2) rfl))) (mvT hZ (hw _ (List.mem_of_getElem? (i := 3) rfl))) (by decide) (backOf (W := 0) (drawN l Z a0 hw [] pa h0 n0 O0 ) hZ (hw _ (List.mem_of_getElem? (i := 3) rfl)) (hw _ (List.mem_of_getElem? (i := 2) rfl)) (by decide) (by decide)) (g := (mkF m 4 #[.val (.int fl), .val (.int pa), .val (.int pb), .val (.int pc), .val (.int pd), .unset, .unset, .unset, .unset, .unset, .unset, .unset, .unset, .unset, .unset, .unset, .unset] [(.int pa), (.int (0 : Int32))])) rfl (by rw [hml]; rfl) (argsL := [(.int (0 : Int32)), (.int pa)]) (rest := []) (lenOf pd_11 rfl) rfl (by show 2 * 0 + _ ≤ _; exact Nat.le_of_eq rfl) (hb hby at_4) (fun _ _ => ⟨rfl, e0, (by decide : 0 + 0 ≤ _), (by decide : 0 + 0 ≤ _)⟩)
  dsimp only [Pt.U, Pt.locs, Pt.cells, Pt.slots] at X1 l1 y1 z1 st1 hQ1
  subst l1 y1 z1
  obtain ⟨rfl, Nq1, kh1⟩ := hQ1
  have N1 := Fr.app N0 Nq1
  obtain ⟨_, _, ⟨T2, L2, k2, n2⟩, -, Xr2, hSr2, hg2, ⟨Lc2, hQ2, l2, y2, z2, CL2⟩, st2⟩ := callSS X1 hx (y := (⟨"com/example/knooppunt/knooppunt/reader/RouteLinePinLaw", "draw", "(II)Ljava/lang/String;"⟩ : MethodName)) hown (mvT hZ (hw _ (List.mem_of_getElem? (i := 0) rfl))) (mvT hZ (hw _ (List.mem_of_getElem? (i := 1) rfl))) (mvT hZ (hw _ (List.mem_of_getElem? (i := 2) rfl))) (mvT hZ (hw _ (List.mem_of_getElem? (i := 3) rfl))) (by decide) (own_backSH (s := s) (vm0 := s.vm) (W := 0) (drawS l Z a0 hw [] (((fl.toUInt32 >>> ((2 : Int32) &&& 31).toUInt32).toInt32) &&& (3 : Int32)) pb cs h0 n0 O0 G0 hcs hk2) hZ (hw _ (List.mem_of_getElem? (i := 3) rfl)) (hw _ (List.mem_of_getElem? (i := 2) rfl)) (by decide) (by decide) hEL CR0.1 all0) (g := (mkF m 15 #[.val (.int fl), .val (.int pa), .val (.int pb), .val (.int pc), .val (.int pd), .val .null, .unset, .unset, .unset, .unset, .unset, .unset, .unset, .unset, .unset, .unset, .unset] [(.int pb), (.int (((fl.toUInt32 >>> ((2 : Int32) &&& 31).toUInt32).toInt32) &&& (3 : Int32)))])) rfl (by rw [hml]; rfl) (argsL := [(.int (((fl.toUInt32 >>> ((2 : Int32) &&& 31).toUInt32).toInt32) &&& (3 : Int32))), (.int pb)]) (rest := []) (lenOf pd_11 rfl) rfl (by show 2 * 0 + _ ≤ _; exact Nat.le_of_eq rfl) (hb hby at_15) (fun _ _ => ⟨rfl, kh1, (by decide : 0 + 6 ≤ _), (by decide : 0 + 12 ≤ _)⟩)
  dsimp only [Pt.U, Pt.locs, Pt.cells, Pt.slots] at Xr2 l2 y2 z2 st2 hQ2 hSr2 hg2 CL2
  subst l2 y2 z2
  obtain ⟨X2, hS2, hZ, hown⟩ := rebS (s := s) (vm0 := s.vm) hS0 (own_hk kh1 (Nat.zero_le _)) Xr2 hSr2 hg2 hZ hown
  obtain ⟨r_2, rfl, Nq2, kh2, Po2_0⟩ := hQ2
  have N2 := Fr.app N1 Nq2
  have hZ2 := hZ
  have hown2 := hown
  have O2 := O0.keep kh2 all0
  have K2 : Keep h0 T2.heap [] := (Keep.refl h0 []).trans kh2 all0
  have CR2 := CR0.trans CL2
  obtain ⟨_, _, ⟨T3, L3, k3, n3⟩, -, Xr3, hSr3, hg3, ⟨Lc3, hQ3, l3, y3, z3, CL3⟩, st3⟩ := callSS X2 hx (y := (⟨"com/example/knooppunt/knooppunt/reader/RouteLinePinLaw", "draw", "(II)Ljava/lang/String;"⟩ : MethodName)) hown (mvT hZ (hw _ (List.mem_of_getElem? (i := 0) rfl))) (mvT hZ (hw _ (List.mem_of_getElem? (i := 1) rfl))) (mvT hZ (hw _ (List.mem_of_getElem? (i := 2) rfl))) (mvT hZ (hw _ (List.mem_of_getElem? (i := 3) rfl))) (by decide) (own_backSH (s := s) (vm0 := T2.vm) (W := 0) (drawG l Z a0 hw [] (((fl.toUInt32 >>> ((4 : Int32) &&& 31).toUInt32).toInt32) &&& (3 : Int32)) pc cs T2.heap n0 O2 G0 hcs) hZ (hw _ (List.mem_of_getElem? (i := 3) rfl)) (hw _ (List.mem_of_getElem? (i := 2) rfl)) (by decide) (by decide) hEL CR2.1 all0) (g := (mkF m 26 #[.val (.int fl), .val (.int pa), .val (.int pb), .val (.int pc), .val (.int pd), .val .null, .val (.ref r_2), .unset, .unset, .unset, .unset, .unset, .unset, .unset, .unset, .unset, .unset] [(.int pc), (.int (((fl.toUInt32 >>> ((4 : Int32) &&& 31).toUInt32).toInt32) &&& (3 : Int32)))])) rfl (by rw [hml]; rfl) (argsL := [(.int (((fl.toUInt32 >>> ((4 : Int32) &&& 31).toUInt32).toInt32) &&& (3 : Int32))), (.int pc)]) (rest := []) (lenOf pd_11 rfl) rfl (by show 2 * 0 + _ ≤ _; exact Nat.le_of_eq rfl) (hb hby at_26) (fun _ _ => ⟨rfl, rfl, (by decide : 6 + 6 ≤ _), (by decide : 12 + 12 ≤ _)⟩)
  dsimp only [Pt.U, Pt.locs, Pt.cells, Pt.slots] at Xr3 l3 y3 z3 st3 hQ3 hSr3 hg3 CL3
  subst l3 y3 z3
  obtain ⟨X3, hS3, hZ, hown⟩ := rebS (s := s) (vm0 := T2.vm) hS2 (own_hk rfl (Nat.le_refl _)) Xr3 hSr3 hg3 hZ hown
  obtain ⟨v0_3, rfl, Nq3, kh3, pq3_0⟩ := hQ3
  have N3 := Fr.app N2 Nq3
  have hZ3 := hZ
  have hown3 := hown
  have O3 := O2.keep kh3 all0
  have K3 : Keep h0 T3.heap [] := K2.trans kh3 all0
  have CR3 := CR2.trans CL3
  obtain ⟨_, _, ⟨T4, L4, k4, n4⟩, -, Xr4, hSr4, hg4, ⟨Lc4, hQ4, l4, y4, z4, CL4⟩, st4⟩ := callSS X3 hx (y := (⟨"com/example/knooppunt/knooppunt/reader/RouteLinePinLaw", "draw", "(II)Ljava/lang/String;"⟩ : MethodName)) hown (mvT hZ (hw _ (List.mem_of_getElem? (i := 0) rfl))) (mvT hZ (hw _ (List.mem_of_getElem? (i := 1) rfl))) (mvT hZ (hw _ (List.mem_of_getElem? (i := 2) rfl))) (mvT hZ (hw _ (List.mem_of_getElem? (i := 3) rfl))) (by decide) (own_backSH (s := s) (vm0 := T3.vm) (W := 0) (drawG l Z a0 hw [] (((fl.toUInt32 >>> ((6 : Int32) &&& 31).toUInt32).toInt32) &&& (3 : Int32)) ((pc.toUInt32 >>> ((16 : Int32) &&& 31).toUInt32).toInt32) cs T3.heap n0 O3 G0 hcs) hZ (hw _ (List.mem_of_getElem? (i := 3) rfl)) (hw _ (List.mem_of_getElem? (i := 2) rfl)) (by decide) (by decide) hEL CR3.1 all0) (g := (mkF m 41 #[.val (.int fl), .val (.int pa), .val (.int pb), .val (.int pc), .val (.int pd), .val .null, .val (.ref r_2), .val v0_3, .unset, .unset, .unset, .unset, .unset, .unset, .unset, .unset, .unset] [(.int ((pc.toUInt32 >>> ((16 : Int32) &&& 31).toUInt32).toInt32)), (.int (((fl.toUInt32 >>> ((6 : Int32) &&& 31).toUInt32).toInt32) &&& (3 : Int32)))])) rfl (by rw [hml]; rfl) (argsL := [(.int (((fl.toUInt32 >>> ((6 : Int32) &&& 31).toUInt32).toInt32) &&& (3 : Int32))), (.int ((pc.toUInt32 >>> ((16 : Int32) &&& 31).toUInt32).toInt32))]) (rest := []) (lenOf pd_11 rfl) rfl (by show 2 * 0 + _ ≤ _; exact Nat.le_of_eq rfl) (hb hby at_41) (fun _ _ => ⟨rfl, rfl, (by decide : 12 + 6 ≤ _), (by decide : 24 + 12 ≤ _)⟩)
  dsimp only [Pt.U, Pt.locs, Pt.cells, Pt.slots] at Xr4 l4 y4 z4 st4 hQ4 hSr4 hg4 CL4
  subst l4 y4 z4
  obtain ⟨X4, hS4, hZ, hown⟩ := rebS (s := s) (vm0 := T3.vm) hS3 (own_hk rfl (Nat.le_refl _)) Xr4 hSr4 hg4 hZ hown
  obtain ⟨v0_4, rfl, Nq4, kh4, pq4_0⟩ := hQ4
  have N4 := Fr.app N3 Nq4
  have hZ4 := hZ
  have hown4 := hown
  have O4 := O3.keep kh4 all0
  have K4 : Keep h0 T4.heap [] := K3.trans kh4 all0
  have CR4 := CR3.trans CL4
  obtain ⟨_, _, ⟨T5, L5, k5, n5⟩, -, Xr5, hSr5, hg5, ⟨Lc5, hQ5, l5, y5, z5, CL5⟩, st5⟩ := callSS X4 hx (y := (⟨"com/example/knooppunt/knooppunt/reader/RouteLinePinLaw", "draw", "(II)Ljava/lang/String;"⟩ : MethodName)) hown (mvT hZ (hw _ (List.mem_of_getElem? (i := 0) rfl))) (mvT hZ (hw _ (List.mem_of_getElem? (i := 1) rfl))) (mvT hZ (hw _ (List.mem_of_getElem? (i := 2) rfl))) (mvT hZ (hw _ (List.mem_of_getElem? (i := 3) rfl))) (by decide) (own_backSH (s := s) (vm0 := T4.vm) (W := 0) (drawG l Z a0 hw [] (((fl.toUInt32 >>> ((8 : Int32) &&& 31).toUInt32).toInt32) &&& (3 : Int32)) pd cs T4.heap n0 O4 G0 hcs) hZ (hw _ (List.mem_of_getElem? (i := 3) rfl)) (hw _ (List.mem_of_getElem? (i := 2) rfl)) (by decide) (by decide) hEL CR4.1 all0) (g := (mkF m 54 #[.val (.int fl), .val (.int pa), .val (.int pb), .val (.int pc), .val (.int pd), .val .null, .val (.ref r_2), .val v0_3, .val v0_4, .unset, .unset, .unset, .unset, .unset, .unset, .unset, .unset] [(.int pd), (.int (((fl.toUInt32 >>> ((8 : Int32) &&& 31).toUInt32).toInt32) &&& (3 : Int32)))])) rfl (by rw [hml]; rfl) (argsL := [(.int (((fl.toUInt32 >>> ((8 : Int32) &&& 31).toUInt32).toInt32) &&& (3 : Int32))), (.int pd)]) (rest := []) (lenOf pd_11 rfl) rfl (by show 2 * 0 + _ ≤ _; exact Nat.le_of_eq rfl) (hb hby at_54) (fun _ _ => ⟨rfl, rfl, (by decide : 18 + 6 ≤ _), (by decide : 36 + 12 ≤ _)⟩)
  dsimp only [Pt.U, Pt.locs, Pt.cells, Pt.slots] at Xr5 l5 y5 z5 st5 hQ5 hSr5 hg5 CL5
  subst l5 y5 z5
  obtain ⟨X5, hS5, hZ, hown⟩ := rebS (s := s) (vm0 := T4.vm) hS4 (own_hk rfl (Nat.le_refl _)) Xr5 hSr5 hg5 hZ hown
  obtain ⟨v0_5, rfl, Nq5, kh5, pq5_0⟩ := hQ5
  have N5 := Fr.app N4 Nq5
  have hZ5 := hZ
  have hown5 := hown
  have O5 := O4.keep kh5 all0
  have K5 : Keep h0 T5.heap [] := K4.trans kh5 all0
  have CR5 := CR4.trans CL5
  obtain ⟨_, _, ⟨T6, L6, k6, n6⟩, -, Xr6, hSr6, hg6, ⟨Lc6, hQ6, l6, y6, z6, CL6⟩, st6⟩ := callSS X5 hx (y := (⟨"com/example/knooppunt/knooppunt/reader/RouteLinePinLaw", "draw", "(II)Ljava/lang/String;"⟩ : MethodName)) hown (mvT hZ (hw _ (List.mem_of_getElem? (i := 0) rfl))) (mvT hZ (hw _ (List.mem_of_getElem? (i := 1) rfl))) (mvT hZ (hw _ (List.mem_of_getElem? (i := 2) rfl))) (mvT hZ (hw _ (List.mem_of_getElem? (i := 3) rfl))) (by decide) (own_backSH (s := s) (vm0 := T5.vm) (W := 0) (drawG l Z a0 hw [] (((fl.toUInt32 >>> ((10 : Int32) &&& 31).toUInt32).toInt32) &&& (3 : Int32)) ((pd.toUInt32 >>> ((16 : Int32) &&& 31).toUInt32).toInt32) cs T5.heap n0 O5 G0 hcs) hZ (hw _ (List.mem_of_getElem? (i := 3) rfl)) (hw _ (List.mem_of_getElem? (i := 2) rfl)) (by decide) (by decide) hEL CR5.1 all0) (g := (mkF m 70 #[.val (.int fl), .val (.int pa), .val (.int pb), .val (.int pc), .val (.int pd), .val .null, .val (.ref r_2), .val v0_3, .val v0_4, .val v0_5, .unset, .unset, .unset, .unset, .unset, .unset, .unset] [(.int ((pd.toUInt32 >>> ((16 : Int32) &&& 31).toUInt32).toInt32)), (.int (((fl.toUInt32 >>> ((10 : Int32) &&& 31).toUInt32).toInt32) &&& (3 : Int32)))])) rfl (by rw [hml]; rfl) (argsL := [(.int (((fl.toUInt32 >>> ((10 : Int32) &&& 31).toUInt32).toInt32) &&& (3 : Int32))), (.int ((pd.toUInt32 >>> ((16 : Int32) &&& 31).toUInt32).toInt32))]) (rest := []) (lenOf pd_11 rfl) rfl (by show 2 * 0 + _ ≤ _; exact Nat.le_of_eq rfl) (hb hby at_70) (fun _ _ => ⟨rfl, rfl, (by decide : 24 + 6 ≤ _), (by decide : 48 + 12 ≤ _)⟩)
  dsimp only [Pt.U, Pt.locs, Pt.cells, Pt.slots] at Xr6 l6 y6 z6 st6 hQ6 hSr6 hg6 CL6
  subst l6 y6 z6
  obtain ⟨X6, hS6, hZ, hown⟩ := rebS (s := s) (vm0 := T5.vm) hS5 (own_hk rfl (Nat.le_refl _)) Xr6 hSr6 hg6 hZ hown
  obtain ⟨v0_6, rfl, Nq6, kh6, pq6_0⟩ := hQ6
  have N6 := Fr.app N5 Nq6
  have hZ6 := hZ
  have hown6 := hown
  have O6 := O5.keep kh6 all0
  have K6 : Keep h0 T6.heap [] := K5.trans kh6 all0
  have CR6 := CR5.trans CL6
  obtain ⟨T7, h7, X7, e7, E7, A7, D7, U7, st7⟩ := newO X6 hx hZ hown (hw _ (List.mem_of_getElem? (i := 4) rfl)) (hw _ (List.mem_of_getElem? (i := 5) rfl)) (hw _ (List.mem_of_getElem? (i := 6) rfl)) rfl (g := (mkF m 75 #[.val (.int fl), .val (.int pa), .val (.int pb), .val (.int pc), .val (.int pd), .val .null, .val (.ref r_2), .val v0_3, .val v0_4, .val v0_5, .val v0_6, .unset, .unset, .unset, .unset, .unset, .unset] [])) rfl (hb hby at_75) (by decide) (by decide)
  obtain ⟨b7, gz7⟩ : ∃ z, z = T6.heap.size := ⟨_, rfl⟩
  rw [← gz7] at A7 D7 U7 st7
  have sz_b7 : h0.size ≤ b7 := Nat.le_trans K6.1 (Nat.le_of_eq gz7.symm)
  have g_b7 : n0 ≤ b7 := Nat.le_trans Z0 sz_b7
  have O7 := O6.ext E7
  have K7 : Keep h0 h7 [] := K6.ext E7
  have CR7 := CR6.trans (CHr.ext E7 CR6.1)
  have Fi7_27 : Fld Z h7 b7 "com/example/knooppunt/knooppunt/reader/Source" "element" "Ljava/lang/String;" .null := D7 (Or.inr (hw _ (List.mem_of_getElem? (i := 27) rfl))) (ty := (.object "java/lang/String")) (by decide)
  have Fi7_29 : Fld Z h7 b7 "com/example/knooppunt/knooppunt/reader/Source" "id" "Ljava/lang/String;" .null := D7 (Or.inr (hw _ (List.mem_of_getElem? (i := 29) rfl))) (ty := (.object "java/lang/String")) (by decide)
  have Fi7_31 : Fld Z h7 b7 "com/example/knooppunt/knooppunt/reader/Source" "line" "I" (.int (0 : Int32)) := D7 (Or.inr (hw _ (List.mem_of_getElem? (i := 31) rfl))) (ty := .int) (by decide)
  obtain ⟨a8, T8, h8, k8, X8, e8, E8, hS8, hk8, hZ, hown, CL8, Lt8, st8⟩ := ldcOH (s := s) (vm0 := T6.vm) X7 hx hZ hown (hw _ (List.mem_of_getElem? (i := 7) rfl)) wS e7 hS6 (Nat.le_trans (Nat.le_refl _) E7.1) hEL CR7.1 (g := (mkF m 79 #[.val (.int fl), .val (.int pa), .val (.int pb), .val (.int pc), .val (.int pd), .val .null, .val (.ref r_2), .val v0_3, .val v0_4, .val v0_5, .val v0_6, .unset, .unset, .unset, .unset, .unset, .unset] [(.ref b7), (.ref b7)])) rfl (hb hby at_79) (n := 20) (by decide) (by decide) (by decide) (by decide)
  have hZ8 := hZ
  have hown8 := hown
  have O8 := O7.ext E8
  have K8 : Keep h0 h8 [] := K7.ext E8
  have CR8 := CR7.trans CL8
  obtain ⟨_, _, ⟨T9, L9, k9, n9⟩, -, X9, ⟨Lc9, hQ9, l9, y9, z9⟩, st9⟩ := X8.specialBack hx (y := (⟨"com/example/knooppunt/knooppunt/reader/Source", "<init>", "(Ljava/lang/String;Ljava/lang/String;I)V"⟩ : MethodName)) rfl hown (mvT hZ (hw _ (List.mem_of_getElem? (i := 15) rfl))) (mvT hZ (hw _ (List.mem_of_getElem? (i := 16) rfl))) (mvT hZ (hw _ (List.mem_of_getElem? (i := 17) rfl))) (by decide) (backOf (W := 1) (soI l Z a0 hw [] b7 a8 pd h8 n0 O8 (A7.ext E8) (Fi7_27.ext E8) (Fi7_29.ext E8) (Fi7_31.ext E8) g_b7) hZ (hw _ (List.mem_of_getElem? (i := 17) rfl)) (hw _ (List.mem_of_getElem? (i := 6) rfl)) (by decide) (by decide)) (g := (mkF m 84 #[.val (.int fl), .val (.int pa), .val (.int pb), .val (.int pc), .val (.int pd), .val .null, .val (.ref r_2), .val v0_3, .val v0_4, .val v0_5, .val v0_6, .unset, .unset, .unset, .unset, .unset, .unset] [(.int pd), .null, (.ref a8), (.ref b7), (.ref b7)])) rfl (by rw [hml]; rfl) (Steps.refl _) (a := b7) (argsL := [(.ref a8), .null, (.int pd)]) (rest := [(.ref b7)]) (lenOf pd_12 rfl) rfl (by show 2 * 0 + _ ≤ _; exact Nat.le_of_eq rfl) (hb hby at_84) (fun _ _ => ⟨rfl, e8, (by decide : 33 + 0 ≤ _), (by decide : 87 + 0 ≤ _)⟩)
  dsimp only [Pt.U, Pt.locs, Pt.cells, Pt.slots] at X9 l9 y9 z9 st9 hQ9
  subst l9 y9 z9
  obtain ⟨rfl, Nq9, kh9, Po9_0⟩ := hQ9
  have N9 := Fr.app N6 Nq9
  have O9 := O8.keep kh9 (allS g_b7 all0)
  have K9 : Keep h0 T9.heap [] := K8.trans kh9 (allS (Or.inr sz_b7) all0)
  have hs9 : ∀ x ∈ ([b7] : List Addr), Safe Z own_EL T8.vm h8 x := (allS (Safe.exa hZ.alike (A7.ext E8) (by decide) (by decide)) all0)
  have CR9 := CR8.trans (CHr.keep kh9 hs9 CR8.1)
  obtain ⟨T10, h10, X10, e10, E10, A10, D10, U10, st10⟩ := newO X9 hx hZ hown (hw _ (List.mem_of_getElem? (i := 32) rfl)) (hw _ (List.mem_of_getElem? (i := 33) rfl)) (hw _ (List.mem_of_getElem? (i := 34) rfl)) rfl (g := (mkF m 89 #[.val (.int fl), .val (.int pa), .val (.int pb), .val (.int pc), .val (.int pd), .val .null, .val (.ref r_2), .val v0_3, .val v0_4, .val v0_5, .val v0_6, .val (.ref b7), .unset, .unset, .unset, .unset, .unset] [])) rfl (hb hby at_89) (by decide) (by decide)
  obtain ⟨b10, gz10⟩ : ∃ z, z = T9.heap.size := ⟨_, rfl⟩
  rw [← gz10] at A10 D10 U10 st10
  have sz_b10 : h0.size ≤ b10 := Nat.le_trans K9.1 (Nat.le_of_eq gz10.symm)
  have g_b10 : n0 ≤ b10 := Nat.le_trans Z0 sz_b10
  have O10 := O9.ext E10
  have K10 : Keep h0 h10 [] := K9.ext E10
  have CR10 := CR9.trans (CHr.ext E10 CR9.1)
  have Fi10_41 : Fld Z h10 b10 "com/example/knooppunt/knooppunt/model/Reading" "name" "Ljava/lang/String;" .null := D10 (Or.inr (hw _ (List.mem_of_getElem? (i := 41) rfl))) (ty := (.object "java/lang/String")) (by decide)
  have Fi10_43 : Fld Z h10 b10 "com/example/knooppunt/knooppunt/model/Reading" "text" "Ljava/lang/String;" .null := D10 (Or.inr (hw _ (List.mem_of_getElem? (i := 43) rfl))) (ty := (.object "java/lang/String")) (by decide)
  have Fi10_45 : Fld Z h10 b10 "com/example/knooppunt/knooppunt/model/Reading" "value" "Ljava/lang/Object;" .null := D10 (Or.inr (hw _ (List.mem_of_getElem? (i := 45) rfl))) (ty := (.object "java/lang/Object")) (by decide)
  have Fi10_47 : Fld Z h10 b10 "com/example/knooppunt/knooppunt/model/Reading" "problem" "Ljava/lang/String;" .null := D10 (Or.inr (hw _ (List.mem_of_getElem? (i := 47) rfl))) (ty := (.object "java/lang/String")) (by decide)
  obtain ⟨a11, T11, h11, k11, X11, e11, E11, hS11, hk11, hZ, hown, CL11, Lt11, st11⟩ := ldcOH (s := s) (vm0 := T8.vm) X10 hx hZ hown (hw _ (List.mem_of_getElem? (i := 35) rfl)) wS e10 hS8 (Nat.le_trans (Nat.le_trans hk8 kh9.1) E10.1) hEL CR10.1 (g := (mkF m 93 #[.val (.int fl), .val (.int pa), .val (.int pb), .val (.int pc), .val (.int pd), .val .null, .val (.ref r_2), .val v0_3, .val v0_4, .val v0_5, .val v0_6, .val (.ref b7), .unset, .unset, .unset, .unset, .unset] [(.ref b10), (.ref b10)])) rfl (hb hby at_93) (n := 28) (by decide) (by decide) (by decide) (by decide)
  have hZ11 := hZ
  have hown11 := hown
  have O11 := O10.ext E11
  have K11 : Keep h0 h11 [] := K10.ext E11
  have CR11 := CR10.trans CL11
  obtain ⟨_, _, ⟨T12, L12, k12, n12⟩, -, X12, ⟨Lc12, hQ12, l12, y12, z12⟩, st12⟩ := X11.specialBack hx (y := (⟨"com/example/knooppunt/knooppunt/model/Reading", "<init>", "(Ljava/lang/String;Ljava/lang/String;Ljava/lang/Object;Ljava/lang/String;)V"⟩ : MethodName)) rfl hown (mvT hZ (hw _ (List.mem_of_getElem? (i := 36) rfl))) (mvT hZ (hw _ (List.mem_of_getElem? (i := 37) rfl))) (mvT hZ (hw _ (List.mem_of_getElem? (i := 38) rfl))) (by decide) (backOf (W := 1) (rdI l Z a0 hw [] b10 a11 v0_3 .null v0_5 h11 n0 O11 (A10.ext E11) (Fi10_41.ext E11) (Fi10_43.ext E11) (Fi10_45.ext E11) (Fi10_47.ext E11) g_b10 pq3_0 rfl pq5_0) hZ (hw _ (List.mem_of_getElem? (i := 38) rfl)) (hw _ (List.mem_of_getElem? (i := 34) rfl)) (by decide) (by decide)) (g := (mkF m 101 #[.val (.int fl), .val (.int pa), .val (.int pb), .val (.int pc), .val (.int pd), .val .null, .val (.ref r_2), .val v0_3, .val v0_4, .val v0_5, .val v0_6, .val (.ref b7), .unset, .unset, .unset, .unset, .unset] [v0_5, .null, v0_3, (.ref a11), (.ref b10), (.ref b10)])) rfl (by rw [hml]; rfl) (Steps.refl _) (a := b10) (argsL := [(.ref a11), v0_3, .null, v0_5]) (rest := [(.ref b10)]) (lenOf pd_13 rfl) rfl (by show 2 * 0 + _ ≤ _; exact Nat.le_of_eq rfl) (hb hby at_101) (fun _ _ => ⟨rfl, e11, (by decide : 36 + 0 ≤ _), (by decide : 123 + 0 ≤ _)⟩)
  dsimp only [Pt.U, Pt.locs, Pt.cells, Pt.slots] at X12 l12 y12 z12 st12 hQ12
  subst l12 y12 z12
  obtain ⟨rfl, Nq12, kh12, Po12_0, Po12_1⟩ := hQ12
  have N12 := Fr.app N9 Nq12
  have O12 := O11.keep kh12 (allS g_b10 all0)
  have K12 : Keep h0 T12.heap [] := K11.trans kh12 (allS (Or.inr sz_b10) all0)
  have hs12 : ∀ x ∈ ([b10] : List Addr), Safe Z own_EL T11.vm h11 x := (allS (Safe.exa hZ.alike (A10.ext E11) (by decide) (by decide)) all0)
  have CR12 := CR11.trans (CHr.keep kh12 hs12 CR11.1)
  obtain ⟨T13, h13, X13, e13, E13, A13, D13, U13, st13⟩ := newO X12 hx hZ hown (hw _ (List.mem_of_getElem? (i := 32) rfl)) (hw _ (List.mem_of_getElem? (i := 33) rfl)) (hw _ (List.mem_of_getElem? (i := 34) rfl)) rfl (g := (mkF m 106 #[.val (.int fl), .val (.int pa), .val (.int pb), .val (.int pc), .val (.int pd), .val .null, .val (.ref r_2), .val v0_3, .val v0_4, .val v0_5, .val v0_6, .val (.ref b7), .val (.ref b10), .unset, .unset, .unset, .unset] [])) rfl (hb hby at_106) (by decide) (by decide)
  obtain ⟨b13, gz13⟩ : ∃ z, z = T12.heap.size := ⟨_, rfl⟩
  rw [← gz13] at A13 D13 U13 st13
  have sz_b13 : h0.size ≤ b13 := Nat.le_trans K12.1 (Nat.le_of_eq gz13.symm)
  have g_b13 : n0 ≤ b13 := Nat.le_trans Z0 sz_b13
  have O13 := O12.ext E13
  have K13 : Keep h0 h13 [] := K12.ext E13
  have CR13 := CR12.trans (CHr.ext E13 CR12.1)
  have Fi13_41 : Fld Z h13 b13 "com/example/knooppunt/knooppunt/model/Reading" "name" "Ljava/lang/String;" .null := D13 (Or.inr (hw _ (List.mem_of_getElem? (i := 41) rfl))) (ty := (.object "java/lang/String")) (by decide)
  have Fi13_43 : Fld Z h13 b13 "com/example/knooppunt/knooppunt/model/Reading" "text" "Ljava/lang/String;" .null := D13 (Or.inr (hw _ (List.mem_of_getElem? (i := 43) rfl))) (ty := (.object "java/lang/String")) (by decide)
  have Fi13_45 : Fld Z h13 b13 "com/example/knooppunt/knooppunt/model/Reading" "value" "Ljava/lang/Object;" .null := D13 (Or.inr (hw _ (List.mem_of_getElem? (i := 45) rfl))) (ty := (.object "java/lang/Object")) (by decide)
  have Fi13_47 : Fld Z h13 b13 "com/example/knooppunt/knooppunt/model/Reading" "problem" "Ljava/lang/String;" .null := D13 (Or.inr (hw _ (List.mem_of_getElem? (i := 47) rfl))) (ty := (.object "java/lang/String")) (by decide)
  obtain ⟨a14, T14, h14, k14, X14, e14, E14, hS14, hk14, hZ, hown, CL14, Lt14, st14⟩ := ldcOH (s := s) (vm0 := T11.vm) X13 hx hZ hown (hw _ (List.mem_of_getElem? (i := 48) rfl)) wS e13 hS11 (Nat.le_trans (Nat.le_trans hk11 kh12.1) E13.1) hEL CR13.1 (g := (mkF m 110 #[.val (.int fl), .val (.int pa), .val (.int pb), .val (.int pc), .val (.int pd), .val .null, .val (.ref r_2), .val v0_3, .val v0_4, .val v0_5, .val v0_6, .val (.ref b7), .val (.ref b10), .unset, .unset, .unset, .unset] [(.ref b13), (.ref b13)])) rfl (hb hby at_110) (n := 60) (by decide) (by decide) (by decide) (by decide)
  have hZ14 := hZ
  have hown14 := hown
  have O14 := O13.ext E14
  have K14 : Keep h0 h14 [] := K13.ext E14
  have CR14 := CR13.trans CL14
  obtain ⟨_, _, ⟨T15, L15, k15, n15⟩, -, X15, ⟨Lc15, hQ15, l15, y15, z15⟩, st15⟩ := X14.specialBack hx (y := (⟨"com/example/knooppunt/knooppunt/model/Reading", "<init>", "(Ljava/lang/String;Ljava/lang/String;Ljava/lang/Object;Ljava/lang/String;)V"⟩ : MethodName)) rfl hown (mvT hZ (hw _ (List.mem_of_getElem? (i := 36) rfl))) (mvT hZ (hw _ (List.mem_of_getElem? (i := 37) rfl))) (mvT hZ (hw _ (List.mem_of_getElem? (i := 38) rfl))) (by decide) (backOf (W := 1) (rdI l Z a0 hw [] b13 a14 v0_4 (.ref r_2) v0_6 h14 n0 O14 (A13.ext E14) (Fi13_41.ext E14) (Fi13_43.ext E14) (Fi13_45.ext E14) (Fi13_47.ext E14) g_b13 pq4_0 rfl pq6_0) hZ (hw _ (List.mem_of_getElem? (i := 38) rfl)) (hw _ (List.mem_of_getElem? (i := 34) rfl)) (by decide) (by decide)) (g := (mkF m 118 #[.val (.int fl), .val (.int pa), .val (.int pb), .val (.int pc), .val (.int pd), .val .null, .val (.ref r_2), .val v0_3, .val v0_4, .val v0_5, .val v0_6, .val (.ref b7), .val (.ref b10), .unset, .unset, .unset, .unset] [v0_6, (.ref r_2), v0_4, (.ref a14), (.ref b13), (.ref b13)])) rfl (by rw [hml]; rfl) (Steps.refl _) (a := b13) (argsL := [(.ref a14), v0_4, (.ref r_2), v0_6]) (rest := [(.ref b13)]) (lenOf pd_13 rfl) rfl (by show 2 * 0 + _ ≤ _; exact Nat.le_of_eq rfl) (hb hby at_118) (fun _ _ => ⟨rfl, e14, (by decide : 39 + 0 ≤ _), (by decide : 191 + 0 ≤ _)⟩)
  dsimp only [Pt.U, Pt.locs, Pt.cells, Pt.slots] at X15 l15 y15 z15 st15 hQ15
  subst l15 y15 z15
  obtain ⟨rfl, Nq15, kh15, Po15_0, Po15_1⟩ := hQ15
  have N15 := Fr.app N12 Nq15
  have O15 := O14.keep kh15 (allS g_b13 all0)
  have K15 : Keep h0 T15.heap [] := K14.trans kh15 (allS (Or.inr sz_b13) all0)
  have hs15 : ∀ x ∈ ([b13] : List Addr), Safe Z own_EL T14.vm h14 x := (allS (Safe.exa hZ.alike (A13.ext E14) (by decide) (by decide)) all0)
  have CR15 := CR14.trans (CHr.keep kh15 hs15 CR14.1)
  obtain ⟨T16, h16, X16, e16, E16, A16, D16, U16, st16⟩ := newO X15 hx hZ hown (hw _ (List.mem_of_getElem? (i := 49) rfl)) (hw _ (List.mem_of_getElem? (i := 50) rfl)) (hw _ (List.mem_of_getElem? (i := 51) rfl)) rfl (g := (mkF m 123 #[.val (.int fl), .val (.int pa), .val (.int pb), .val (.int pc), .val (.int pd), .val .null, .val (.ref r_2), .val v0_3, .val v0_4, .val v0_5, .val v0_6, .val (.ref b7), .val (.ref b10), .val (.ref b13), .unset, .unset, .unset] [])) rfl (hb hby at_123) (by decide) (by decide)
  obtain ⟨b16, gz16⟩ : ∃ z, z = T15.heap.size := ⟨_, rfl⟩
  rw [← gz16] at A16 D16 U16 st16
  have sz_b16 : h0.size ≤ b16 := Nat.le_trans K15.1 (Nat.le_of_eq gz16.symm)
  have g_b16 : n0 ≤ b16 := Nat.le_trans Z0 sz_b16
  have O16 := O15.ext E16
  have K16 : Keep h0 h16 [] := K15.ext E16
  have CR16 := CR15.trans (CHr.ext E16 CR15.1)
  have Fi16_57 : Fld Z h16 b16 "com/example/knooppunt/knooppunt/reader/TimetableElements$Route" "source" "Lcom/example/knooppunt/knooppunt/reader/Source;" .null := D16 (Or.inr (hw _ (List.mem_of_getElem? (i := 57) rfl))) (ty := (.object "com/example/knooppunt/knooppunt/reader/Source")) (by decide)
  have Fi16_59 : Fld Z h16 b16 "com/example/knooppunt/knooppunt/reader/TimetableElements$Route" "lineRef" "Lcom/example/knooppunt/knooppunt/model/Reading;" .null := D16 (Or.inr (hw _ (List.mem_of_getElem? (i := 59) rfl))) (ty := (.object "com/example/knooppunt/knooppunt/model/Reading")) (by decide)
  have Fi16_61 : Fld Z h16 b16 "com/example/knooppunt/knooppunt/reader/TimetableElements$Route" "flexibleLineRef" "Lcom/example/knooppunt/knooppunt/model/Reading;" .null := D16 (Or.inr (hw _ (List.mem_of_getElem? (i := 61) rfl))) (ty := (.object "com/example/knooppunt/knooppunt/model/Reading")) (by decide)
  obtain ⟨_, _, ⟨T17, L17, k17, n17⟩, -, X17, ⟨Lc17, hQ17, l17, y17, z17⟩, st17⟩ := X16.specialBack hx (y := (⟨"com/example/knooppunt/knooppunt/reader/TimetableElements$Route", "<init>", "(Lcom/example/knooppunt/knooppunt/reader/Source;Lcom/example/knooppunt/knooppunt/model/Reading;Lcom/example/knooppunt/knooppunt/model/Reading;)V"⟩ : MethodName)) rfl hown (mvT hZ (hw _ (List.mem_of_getElem? (i := 52) rfl))) (mvT hZ (hw _ (List.mem_of_getElem? (i := 53) rfl))) (mvT hZ (hw _ (List.mem_of_getElem? (i := 54) rfl))) (by decide) (backOf (W := 1) (rtI l Z a0 hw [] b16 b7 b10 b13 h16 n0 O16 A16 Fi16_57 Fi16_59 Fi16_61 g_b16) hZ (hw _ (List.mem_of_getElem? (i := 54) rfl)) (hw _ (List.mem_of_getElem? (i := 51) rfl)) (by decide) (by decide)) (g := (mkF m 133 #[.val (.int fl), .val (.int pa), .val (.int pb), .val (.int pc), .val (.int pd), .val .null, .val (.ref r_2), .val v0_3, .val v0_4, .val v0_5, .val v0_6, .val (.ref b7), .val (.ref b10), .val (.ref b13), .unset, .unset, .unset] [(.ref b13), (.ref b10), (.ref b7), (.ref b16), (.ref b16)])) rfl (by rw [hml]; rfl) (Steps.refl _) (a := b16) (argsL := [(.ref b7), (.ref b10), (.ref b13)]) (rest := [(.ref b16)]) (lenOf pd_14 rfl) rfl (by show 2 * 0 + _ ≤ _; exact Nat.le_of_eq rfl) (hb hby at_133) (fun _ _ => ⟨rfl, e16, (by decide : 40 + 0 ≤ _), (by decide : 194 + 0 ≤ _)⟩)
  dsimp only [Pt.U, Pt.locs, Pt.cells, Pt.slots] at X17 l17 y17 z17 st17 hQ17
  subst l17 y17 z17
  obtain ⟨rfl, Nq17, kh17, Po17_0, Po17_1, Po17_2⟩ := hQ17
  have N17 := Fr.app N15 Nq17
  have O17 := O16.keep kh17 (allS g_b16 all0)
  have K17 : Keep h0 T17.heap [] := K16.trans kh17 (allS (Or.inr sz_b16) all0)
  have hs17 : ∀ x ∈ ([b16] : List Addr), Safe Z own_EL T14.vm h16 x := (allS (Safe.exa hZ.alike A16 (by decide) (by decide)) all0)
  have CR17 := CR16.trans (CHr.keep kh17 hs17 CR16.1)
  have c18 : Fld Z T17.heap b10 "com/example/knooppunt/knooppunt/model/Reading" "value" "Ljava/lang/Object;" .null := (((((Po12_1.ext E13).ext E14).keep kh15 (ninS (Nat.ne_of_lt (Nat.lt_of_lt_of_le (Po12_0).lt (Nat.le_of_eq gz13.symm))) nin0)).ext E16).keep kh17 (ninS (Nat.ne_of_lt (Nat.lt_of_lt_of_le ((((Po12_0.ext E13).ext E14).keep kh15)).lt (Nat.le_of_eq gz16.symm))) nin0))
  have c19 : Fld Z T17.heap b13 "com/example/knooppunt/knooppunt/model/Reading" "value" "Ljava/lang/Object;" (.ref r_2) := ((Po15_1.ext E16).keep kh17 (ninS (Nat.ne_of_lt (Nat.lt_of_lt_of_le (Po15_0).lt (Nat.le_of_eq gz16.symm))) nin0))
  have c20 : Exa Z T17.heap r_2 "java/lang/String" := (((((((((((((((Po2_0.keep kh3).keep kh4).keep kh5).keep kh6).ext E7).ext E8).keep kh9).ext E10).ext E11).keep kh12).ext E13).ext E14).keep kh15).ext E16).keep kh17)
  obtain ⟨cq21, kq21, q21a, q21b, q21c⟩ := isOf hZ rfl Po17_0
  obtain ⟨_, _, ⟨T21, L21, k21, n21⟩, -, X21, ⟨Lc21, hQ21, l21, y21, z21⟩, st21⟩ := X17.virtualBack hx (y := (⟨"com/example/knooppunt/knooppunt/reader/TimetableElements$Route", "line", "()Ljava/lang/String;"⟩ : MethodName)) (z := (⟨"com/example/knooppunt/knooppunt/reader/TimetableElements$Route", "line", "()Ljava/lang/String;"⟩ : MethodName)) hown (mvT hZ (hw _ (List.mem_of_getElem? (i := 62) rfl))) (mvT hZ (hw _ (List.mem_of_getElem? (i := 63) rfl))) (notFace_of_selects (args := #[]) (mvT hZ (hw _ (List.mem_of_getElem? (i := 65) rfl)))) (mvT hZ (hw _ (List.mem_of_getElem? (i := 65) rfl))) (mvT hZ (hw _ (List.mem_of_getElem? (i := 64) rfl))) (by decide) (backOf (W := 0) (lineNR l Z a0 hw [] b16 b10 b13 r_2 T17.heap n0 O17 Po17_1 (((((Po12_0.ext E13).ext E14).keep kh15).ext E16).keep kh17) c18 Po17_2 ((Po15_0.ext E16).keep kh17) c19 c20) hZ (hw _ (List.mem_of_getElem? (i := 66) rfl)) (hw _ (List.mem_of_getElem? (i := 51) rfl)) (by decide) (by decide)) q21a q21c (g := (mkF m 140 #[.val (.int fl), .val (.int pa), .val (.int pb), .val (.int pc), .val (.int pd), .val .null, .val (.ref r_2), .val v0_3, .val v0_4, .val v0_5, .val v0_6, .val (.ref b7), .val (.ref b10), .val (.ref b13), .val (.ref b16), .unset, .unset] [(.ref b16)])) rfl (by rw [hml]; rfl) (Steps.refl _) (argsL := []) (rest := []) (lenOf pd_15 rfl) rfl (by show 2 * 0 + _ ≤ _; exact Nat.le_of_eq rfl) (hb hby at_140) (fun _ _ => ⟨rfl, rfl, (by decide : 40 + 0 ≤ _), (by decide : 194 + 0 ≤ _)⟩)
  dsimp only [Pt.U, Pt.locs, Pt.cells, Pt.slots] at X21 l21 y21 z21 st21 hQ21
  subst l21 y21 z21
  obtain ⟨rfl, Nq21, kh21⟩ := hQ21
  have N21 := Fr.app N17 Nq21
  obtain ⟨cq22, kq22, q22a, q22b, q22c⟩ := isOf hZ kh21 c20
  obtain ⟨_, _, ⟨T22, L22, k22, n22⟩, -, X22, ⟨Lc22, hQ22, l22, y22, z22⟩, st22⟩ := X21.virtualBack hx (y := (⟨"java/lang/String", "equals", "(Ljava/lang/Object;)Z"⟩ : MethodName)) (z := (⟨"java/lang/String", "equals", "(Ljava/lang/Object;)Z"⟩ : MethodName)) hown (mvT hZ (hw _ (List.mem_of_getElem? (i := 96) rfl))) (mvT hZ (hw _ (List.mem_of_getElem? (i := 97) rfl))) (notFace_of_selects (args := #[]) (mvT hZ (hw _ (List.mem_of_getElem? (i := 99) rfl)))) (mvT hZ (hw _ (List.mem_of_getElem? (i := 99) rfl))) (mvT hZ (hw _ (List.mem_of_getElem? (i := 98) rfl))) (by decide) (backOf (W := 0) (eqS l Z a0 hw [] r_2 T17.heap n0 O17 ) hZ (hw _ (List.mem_of_getElem? (i := 100) rfl)) (hw _ (List.mem_of_getElem? (i := 8) rfl)) (by decide) (by decide)) q22a q22c (g := (mkF m 181 #[.val (.int fl), .val (.int pa), .val (.int pb), .val (.int pc), .val (.int pd), .val .null, .val (.ref r_2), .val v0_3, .val v0_4, .val v0_5, .val v0_6, .val (.ref b7), .val (.ref b10), .val (.ref b13), .val (.ref b16), .val (.ref r_2), .val (.ref r_2)] [(.ref r_2), (.ref r_2)])) rfl (by rw [hml]; rfl) (Steps.refl _) (argsL := [(.ref r_2)]) (rest := []) (lenOf pd_16 rfl) rfl (by show 2 * 0 + _ ≤ _; exact Nat.le_of_eq rfl) (hb hby at_181) (fun _ _ => ⟨rfl, kh21, (by decide : 40 + 0 ≤ _), (by decide : 194 + 0 ≤ _)⟩)
  dsimp only [Pt.U, Pt.locs, Pt.cells, Pt.slots] at X22 l22 y22 z22 st22 hQ22
  subst l22 y22 z22
  obtain ⟨rfl, Nq22, kh22⟩ := hQ22
  have N22 := Fr.app N21 Nq22
  obtain ⟨fs, hr, hrun, hended, hRW⟩ := X22.leaveW (s := s) hS14 (own_hk kh22 (Nat.le_trans (Nat.le_trans (Nat.le_trans hk14 kh15.1) E16.1) kh17.1)) (v := some (.int (1 : Int32))) (fun h => by rw [Bd.returns] at h; cases h)
  have CE := CR17.trans (CHv.at (s := s) (vm0 := T14.vm) X22 hZ hEL CR17.1)
  refine ⟨_, _, pre0 _ ?_, hrun, hended, _, _, rfl, ?_, ?_, own_rw_mono hRW (by decide) (by decide)⟩
  · show Steps p.tables e below (s₁.setTop (mkF m 0 #[.val (.int fl), .val (.int pa), .val (.int pb), .val (.int pc), .val (.int pd), .unset, .unset, .unset, .unset, .unset, .unset, .unset, .unset, .unset, .unset, .unset, .unset] [])) _
    refine XS.iloadN X0.here hx rfl (hb hby at_0) rfl ?_
    show Steps p.tables e below (s₁.setTop (mkF m 1 #[.val (.int fl), .val (.int pa), .val (.int pb), .val (.int pc), .val (.int pd), .unset, .unset, .unset, .unset, .unset, .unset, .unset, .unset, .unset, .unset, .unset, .unset] [(.int fl)])) _
    refine XS.iconst X0.here hx rfl (hb hby at_1) ?_
    show Steps p.tables e below (s₁.setTop (mkF m 2 #[.val (.int fl), .val (.int pa), .val (.int pb), .val (.int pc), .val (.int pd), .unset, .unset, .unset, .unset, .unset, .unset, .unset, .unset, .unset, .unset, .unset, .unset] [(.int (3 : Int32)), (.int fl)])) _
    refine XS.iand X0.here hx rfl (hb hby at_2) rfl ?_
    show Steps p.tables e below (s₁.setTop (mkF m 3 #[.val (.int fl), .val (.int pa), .val (.int pb), .val (.int pc), .val (.int pd), .unset, .unset, .unset, .unset, .unset, .unset, .unset, .unset, .unset, .unset, .unset, .unset] [(.int (fl &&& (3 : Int32)))])) _
    refine castTop (congrArg (fun z_ => (mkF m 3 #[.val (.int fl), .val (.int pa), .val (.int pb), .val (.int pc), .val (.int pd), .unset, .unset, .unset, .unset, .unset, .unset, .unset, .unset, .unset, .unset, .unset, .unset] [(.int z_)])) (hk1 : (fl &&& (3 : Int32)) = (0 : Int32))) ?_
    show Steps p.tables e below (s₁.setTop (mkF m 3 #[.val (.int fl), .val (.int pa), .val (.int pb), .val (.int pc), .val (.int pd), .unset, .unset, .unset, .unset, .unset, .unset, .unset, .unset, .unset, .unset, .unset, .unset] [(.int (0 : Int32))])) _
    refine XS.iloadN X0.here hx rfl (hb hby at_3) rfl ?_
    show Steps p.tables e below (s₁.setTop (mkF m 4 #[.val (.int fl), .val (.int pa), .val (.int pb), .val (.int pc), .val (.int pd), .unset, .unset, .unset, .unset, .unset, .unset, .unset, .unset, .unset, .unset, .unset, .unset] [(.int pa), (.int (0 : Int32))])) _
    refine st1 _ ?_
    show Steps p.tables e below (T1.setTop (mkF m 7 #[.val (.int fl), .val (.int pa), .val (.int pb), .val (.int pc), .val (.int pd), .unset, .unset, .unset, .unset, .unset, .unset, .unset, .unset, .unset, .unset, .unset, .unset] [.null])) _
    refine XS.astore X1.here hx rfl (hb hby at_7) rfl rfl (l' := #[.val (.int fl), .val (.int pa), .val (.int pb), .val (.int pc), .val (.int pd), .val .null, .unset, .unset, .unset, .unset, .unset, .unset, .unset, .unset, .unset, .unset, .unset]) rfl ?_
    show Steps p.tables e below (T1.setTop (mkF m 9 #[.val (.int fl), .val (.int pa), .val (.int pb), .val (.int pc), .val (.int pd), .val .null, .unset, .unset, .unset, .unset, .unset, .unset, .unset, .unset, .unset, .unset, .unset] [])) _
    refine XS.iloadN X1.here hx rfl (hb hby at_9) rfl ?_
    show Steps p.tables e below (T1.setTop (mkF m 10 #[.val (.int fl), .val (.int pa), .val (.int pb), .val (.int pc), .val (.int pd), .val .null, .unset, .unset, .unset, .unset, .unset, .unset, .unset, .unset, .unset, .unset, .unset] [(.int fl)])) _
    refine XS.iconst X1.here hx rfl (hb hby at_10) ?_
    show Steps p.tables e below (T1.setTop (mkF m 11 #[.val (.int fl), .val (.int pa), .val (.int pb), .val (.int pc), .val (.int pd), .val .null, .unset, .unset, .unset, .unset, .unset, .unset, .unset, .unset, .unset, .unset, .unset] [(.int (2 : Int32)), (.int fl)])) _
    refine XS.iushr X1.here hx rfl (hb hby at_11) rfl ?_
    show Steps p.tables e below (T1.setTop (mkF m 12 #[.val (.int fl), .val (.int pa), .val (.int pb), .val (.int pc), .val (.int pd), .val .null, .unset, .unset, .unset, .unset, .unset, .unset, .unset, .unset, .unset, .unset, .unset] [(.int ((fl.toUInt32 >>> ((2 : Int32) &&& 31).toUInt32).toInt32))])) _
    refine XS.iconst X1.here hx rfl (hb hby at_12) ?_
    show Steps p.tables e below (T1.setTop (mkF m 13 #[.val (.int fl), .val (.int pa), .val (.int pb), .val (.int pc), .val (.int pd), .val .null, .unset, .unset, .unset, .unset, .unset, .unset, .unset, .unset, .unset, .unset, .unset] [(.int (3 : Int32)), (.int ((fl.toUInt32 >>> ((2 : Int32) &&& 31).toUInt32).toInt32))])) _
    refine XS.iand X1.here hx rfl (hb hby at_13) rfl ?_
    show Steps p.tables e below (T1.setTop (mkF m 14 #[.val (.int fl), .val (.int pa), .val (.int pb), .val (.int pc), .val (.int pd), .val .null, .unset, .unset, .unset, .unset, .unset, .unset, .unset, .unset, .unset, .unset, .unset] [(.int (((fl.toUInt32 >>> ((2 : Int32) &&& 31).toUInt32).toInt32) &&& (3 : Int32)))])) _
    refine XS.iloadN X1.here hx rfl (hb hby at_14) rfl ?_
    show Steps p.tables e below (T1.setTop (mkF m 15 #[.val (.int fl), .val (.int pa), .val (.int pb), .val (.int pc), .val (.int pd), .val .null, .unset, .unset, .unset, .unset, .unset, .unset, .unset, .unset, .unset, .unset, .unset] [(.int pb), (.int (((fl.toUInt32 >>> ((2 : Int32) &&& 31).toUInt32).toInt32) &&& (3 : Int32)))])) _
    refine st2.trans ?_
    show Steps p.tables e below (T2.setTop (mkF m 18 #[.val (.int fl), .val (.int pa), .val (.int pb), .val (.int pc), .val (.int pd), .val .null, .unset, .unset, .unset, .unset, .unset, .unset, .unset, .unset, .unset, .unset, .unset] [(.ref r_2)])) _
    refine XS.astore X2.here hx rfl (hb hby at_18) rfl rfl (l' := #[.val (.int fl), .val (.int pa), .val (.int pb), .val (.int pc), .val (.int pd), .val .null, .val (.ref r_2), .unset, .unset, .unset, .unset, .unset, .unset, .unset, .unset, .unset, .unset]) rfl ?_
    show Steps p.tables e below (T2.setTop (mkF m 20 #[.val (.int fl), .val (.int pa), .val (.int pb), .val (.int pc), .val (.int pd), .val .null, .val (.ref r_2), .unset, .unset, .unset, .unset, .unset, .unset, .unset, .unset, .unset, .unset] [])) _
    refine XS.iloadN X2.here hx rfl (hb hby at_20) rfl ?_
    show Steps p.tables e below (T2.setTop (mkF m 21 #[.val (.int fl), .val (.int pa), .val (.int pb), .val (.int pc), .val (.int pd), .val .null, .val (.ref r_2), .unset, .unset, .unset, .unset, .unset, .unset, .unset, .unset, .unset, .unset] [(.int fl)])) _
    refine XS.iconst X2.here hx rfl (hb hby at_21) ?_
    show Steps p.tables e below (T2.setTop (mkF m 22 #[.val (.int fl), .val (.int pa), .val (.int pb), .val (.int pc), .val (.int pd), .val .null, .val (.ref r_2), .unset, .unset, .unset, .unset, .unset, .unset, .unset, .unset, .unset, .unset] [(.int (4 : Int32)), (.int fl)])) _
    refine XS.iushr X2.here hx rfl (hb hby at_22) rfl ?_
    show Steps p.tables e below (T2.setTop (mkF m 23 #[.val (.int fl), .val (.int pa), .val (.int pb), .val (.int pc), .val (.int pd), .val .null, .val (.ref r_2), .unset, .unset, .unset, .unset, .unset, .unset, .unset, .unset, .unset, .unset] [(.int ((fl.toUInt32 >>> ((4 : Int32) &&& 31).toUInt32).toInt32))])) _
    refine XS.iconst X2.here hx rfl (hb hby at_23) ?_
    show Steps p.tables e below (T2.setTop (mkF m 24 #[.val (.int fl), .val (.int pa), .val (.int pb), .val (.int pc), .val (.int pd), .val .null, .val (.ref r_2), .unset, .unset, .unset, .unset, .unset, .unset, .unset, .unset, .unset, .unset] [(.int (3 : Int32)), (.int ((fl.toUInt32 >>> ((4 : Int32) &&& 31).toUInt32).toInt32))])) _
    refine XS.iand X2.here hx rfl (hb hby at_24) rfl ?_
    show Steps p.tables e below (T2.setTop (mkF m 25 #[.val (.int fl), .val (.int pa), .val (.int pb), .val (.int pc), .val (.int pd), .val .null, .val (.ref r_2), .unset, .unset, .unset, .unset, .unset, .unset, .unset, .unset, .unset, .unset] [(.int (((fl.toUInt32 >>> ((4 : Int32) &&& 31).toUInt32).toInt32) &&& (3 : Int32)))])) _
    refine XS.iloadN X2.here hx rfl (hb hby at_25) rfl ?_
    show Steps p.tables e below (T2.setTop (mkF m 26 #[.val (.int fl), .val (.int pa), .val (.int pb), .val (.int pc), .val (.int pd), .val .null, .val (.ref r_2), .unset, .unset, .unset, .unset, .unset, .unset, .unset, .unset, .unset, .unset] [(.int pc), (.int (((fl.toUInt32 >>> ((4 : Int32) &&& 31).toUInt32).toInt32) &&& (3 : Int32)))])) _
    refine st3.trans ?_
    show Steps p.tables e below (T3.setTop (mkF m 29 #[.val (.int fl), .val (.int pa), .val (.int pb), .val (.int pc), .val (.int pd), .val .null, .val (.ref r_2), .unset, .unset, .unset, .unset, .unset, .unset, .unset, .unset, .unset, .unset] [v0_3])) _
    refine XS.astore X3.here hx rfl (hb hby at_29) rfl pq3_0 (l' := #[.val (.int fl), .val (.int pa), .val (.int pb), .val (.int pc), .val (.int pd), .val .null, .val (.ref r_2), .val v0_3, .unset, .unset, .unset, .unset, .unset, .unset, .unset, .unset, .unset]) (XS.store1 (o := .unset) rfl (Or.inl rfl) (own_cat pq3_0)) ?_
    show Steps p.tables e below (T3.setTop (mkF m 31 #[.val (.int fl), .val (.int pa), .val (.int pb), .val (.int pc), .val (.int pd), .val .null, .val (.ref r_2), .val v0_3, .unset, .unset, .unset, .unset, .unset, .unset, .unset, .unset, .unset] [])) _
    refine XS.iloadN X3.here hx rfl (hb hby at_31) rfl ?_
    show Steps p.tables e below (T3.setTop (mkF m 32 #[.val (.int fl), .val (.int pa), .val (.int pb), .val (.int pc), .val (.int pd), .val .null, .val (.ref r_2), .val v0_3, .unset, .unset, .unset, .unset, .unset, .unset, .unset, .unset, .unset] [(.int fl)])) _
    refine XS.bipush X3.here hx rfl (hb hby at_32) ?_
    show Steps p.tables e below (T3.setTop (mkF m 34 #[.val (.int fl), .val (.int pa), .val (.int pb), .val (.int pc), .val (.int pd), .val .null, .val (.ref r_2), .val v0_3, .unset, .unset, .unset, .unset, .unset, .unset, .unset, .unset, .unset] [(.int (6 : Int32)), (.int fl)])) _
    refine XS.iushr X3.here hx rfl (hb hby at_34) rfl ?_
    show Steps p.tables e below (T3.setTop (mkF m 35 #[.val (.int fl), .val (.int pa), .val (.int pb), .val (.int pc), .val (.int pd), .val .null, .val (.ref r_2), .val v0_3, .unset, .unset, .unset, .unset, .unset, .unset, .unset, .unset, .unset] [(.int ((fl.toUInt32 >>> ((6 : Int32) &&& 31).toUInt32).toInt32))])) _
    refine XS.iconst X3.here hx rfl (hb hby at_35) ?_
    show Steps p.tables e below (T3.setTop (mkF m 36 #[.val (.int fl), .val (.int pa), .val (.int pb), .val (.int pc), .val (.int pd), .val .null, .val (.ref r_2), .val v0_3, .unset, .unset, .unset, .unset, .unset, .unset, .unset, .unset, .unset] [(.int (3 : Int32)), (.int ((fl.toUInt32 >>> ((6 : Int32) &&& 31).toUInt32).toInt32))])) _
    refine XS.iand X3.here hx rfl (hb hby at_36) rfl ?_
    show Steps p.tables e below (T3.setTop (mkF m 37 #[.val (.int fl), .val (.int pa), .val (.int pb), .val (.int pc), .val (.int pd), .val .null, .val (.ref r_2), .val v0_3, .unset, .unset, .unset, .unset, .unset, .unset, .unset, .unset, .unset] [(.int (((fl.toUInt32 >>> ((6 : Int32) &&& 31).toUInt32).toInt32) &&& (3 : Int32)))])) _
    refine XS.iloadN X3.here hx rfl (hb hby at_37) rfl ?_
    show Steps p.tables e below (T3.setTop (mkF m 38 #[.val (.int fl), .val (.int pa), .val (.int pb), .val (.int pc), .val (.int pd), .val .null, .val (.ref r_2), .val v0_3, .unset, .unset, .unset, .unset, .unset, .unset, .unset, .unset, .unset] [(.int pc), (.int (((fl.toUInt32 >>> ((6 : Int32) &&& 31).toUInt32).toInt32) &&& (3 : Int32)))])) _
    refine XS.bipush X3.here hx rfl (hb hby at_38) ?_
    show Steps p.tables e below (T3.setTop (mkF m 40 #[.val (.int fl), .val (.int pa), .val (.int pb), .val (.int pc), .val (.int pd), .val .null, .val (.ref r_2), .val v0_3, .unset, .unset, .unset, .unset, .unset, .unset, .unset, .unset, .unset] [(.int (16 : Int32)), (.int pc), (.int (((fl.toUInt32 >>> ((6 : Int32) &&& 31).toUInt32).toInt32) &&& (3 : Int32)))])) _
    refine XS.iushr X3.here hx rfl (hb hby at_40) rfl ?_
    show Steps p.tables e below (T3.setTop (mkF m 41 #[.val (.int fl), .val (.int pa), .val (.int pb), .val (.int pc), .val (.int pd), .val .null, .val (.ref r_2), .val v0_3, .unset, .unset, .unset, .unset, .unset, .unset, .unset, .unset, .unset] [(.int ((pc.toUInt32 >>> ((16 : Int32) &&& 31).toUInt32).toInt32)), (.int (((fl.toUInt32 >>> ((6 : Int32) &&& 31).toUInt32).toInt32) &&& (3 : Int32)))])) _
    refine st4.trans ?_
    show Steps p.tables e below (T4.setTop (mkF m 44 #[.val (.int fl), .val (.int pa), .val (.int pb), .val (.int pc), .val (.int pd), .val .null, .val (.ref r_2), .val v0_3, .unset, .unset, .unset, .unset, .unset, .unset, .unset, .unset, .unset] [v0_4])) _
    refine XS.astore X4.here hx rfl (hb hby at_44) rfl pq4_0 (l' := #[.val (.int fl), .val (.int pa), .val (.int pb), .val (.int pc), .val (.int pd), .val .null, .val (.ref r_2), .val v0_3, .val v0_4, .unset, .unset, .unset, .unset, .unset, .unset, .unset, .unset]) (XS.store1 (o := .unset) rfl (Or.inl rfl) (own_cat pq4_0)) ?_
    show Steps p.tables e below (T4.setTop (mkF m 46 #[.val (.int fl), .val (.int pa), .val (.int pb), .val (.int pc), .val (.int pd), .val .null, .val (.ref r_2), .val v0_3, .val v0_4, .unset, .unset, .unset, .unset, .unset, .unset, .unset, .unset] [])) _
    refine XS.iloadN X4.here hx rfl (hb hby at_46) rfl ?_
    show Steps p.tables e below (T4.setTop (mkF m 47 #[.val (.int fl), .val (.int pa), .val (.int pb), .val (.int pc), .val (.int pd), .val .null, .val (.ref r_2), .val v0_3, .val v0_4, .unset, .unset, .unset, .unset, .unset, .unset, .unset, .unset] [(.int fl)])) _
    refine XS.bipush X4.here hx rfl (hb hby at_47) ?_
    show Steps p.tables e below (T4.setTop (mkF m 49 #[.val (.int fl), .val (.int pa), .val (.int pb), .val (.int pc), .val (.int pd), .val .null, .val (.ref r_2), .val v0_3, .val v0_4, .unset, .unset, .unset, .unset, .unset, .unset, .unset, .unset] [(.int (8 : Int32)), (.int fl)])) _
    refine XS.iushr X4.here hx rfl (hb hby at_49) rfl ?_
    show Steps p.tables e below (T4.setTop (mkF m 50 #[.val (.int fl), .val (.int pa), .val (.int pb), .val (.int pc), .val (.int pd), .val .null, .val (.ref r_2), .val v0_3, .val v0_4, .unset, .unset, .unset, .unset, .unset, .unset, .unset, .unset] [(.int ((fl.toUInt32 >>> ((8 : Int32) &&& 31).toUInt32).toInt32))])) _
    refine XS.iconst X4.here hx rfl (hb hby at_50) ?_
    show Steps p.tables e below (T4.setTop (mkF m 51 #[.val (.int fl), .val (.int pa), .val (.int pb), .val (.int pc), .val (.int pd), .val .null, .val (.ref r_2), .val v0_3, .val v0_4, .unset, .unset, .unset, .unset, .unset, .unset, .unset, .unset] [(.int (3 : Int32)), (.int ((fl.toUInt32 >>> ((8 : Int32) &&& 31).toUInt32).toInt32))])) _
    refine XS.iand X4.here hx rfl (hb hby at_51) rfl ?_
    show Steps p.tables e below (T4.setTop (mkF m 52 #[.val (.int fl), .val (.int pa), .val (.int pb), .val (.int pc), .val (.int pd), .val .null, .val (.ref r_2), .val v0_3, .val v0_4, .unset, .unset, .unset, .unset, .unset, .unset, .unset, .unset] [(.int (((fl.toUInt32 >>> ((8 : Int32) &&& 31).toUInt32).toInt32) &&& (3 : Int32)))])) _
    refine XS.iload X4.here hx rfl (hb hby at_52) rfl ?_
    show Steps p.tables e below (T4.setTop (mkF m 54 #[.val (.int fl), .val (.int pa), .val (.int pb), .val (.int pc), .val (.int pd), .val .null, .val (.ref r_2), .val v0_3, .val v0_4, .unset, .unset, .unset, .unset, .unset, .unset, .unset, .unset] [(.int pd), (.int (((fl.toUInt32 >>> ((8 : Int32) &&& 31).toUInt32).toInt32) &&& (3 : Int32)))])) _
    refine st5.trans ?_
    show Steps p.tables e below (T5.setTop (mkF m 57 #[.val (.int fl), .val (.int pa), .val (.int pb), .val (.int pc), .val (.int pd), .val .null, .val (.ref r_2), .val v0_3, .val v0_4, .unset, .unset, .unset, .unset, .unset, .unset, .unset, .unset] [v0_5])) _
    refine XS.astore X5.here hx rfl (hb hby at_57) rfl pq5_0 (l' := #[.val (.int fl), .val (.int pa), .val (.int pb), .val (.int pc), .val (.int pd), .val .null, .val (.ref r_2), .val v0_3, .val v0_4, .val v0_5, .unset, .unset, .unset, .unset, .unset, .unset, .unset]) (XS.store1 (o := .unset) rfl (Or.inl rfl) (own_cat pq5_0)) ?_
    show Steps p.tables e below (T5.setTop (mkF m 59 #[.val (.int fl), .val (.int pa), .val (.int pb), .val (.int pc), .val (.int pd), .val .null, .val (.ref r_2), .val v0_3, .val v0_4, .val v0_5, .unset, .unset, .unset, .unset, .unset, .unset, .unset] [])) _
    refine XS.iloadN X5.here hx rfl (hb hby at_59) rfl ?_
    show Steps p.tables e below (T5.setTop (mkF m 60 #[.val (.int fl), .val (.int pa), .val (.int pb), .val (.int pc), .val (.int pd), .val .null, .val (.ref r_2), .val v0_3, .val v0_4, .val v0_5, .unset, .unset, .unset, .unset, .unset, .unset, .unset] [(.int fl)])) _
    refine XS.bipush X5.here hx rfl (hb hby at_60) ?_
    show Steps p.tables e below (T5.setTop (mkF m 62 #[.val (.int fl), .val (.int pa), .val (.int pb), .val (.int pc), .val (.int pd), .val .null, .val (.ref r_2), .val v0_3, .val v0_4, .val v0_5, .unset, .unset, .unset, .unset, .unset, .unset, .unset] [(.int (10 : Int32)), (.int fl)])) _
    refine XS.iushr X5.here hx rfl (hb hby at_62) rfl ?_
    show Steps p.tables e below (T5.setTop (mkF m 63 #[.val (.int fl), .val (.int pa), .val (.int pb), .val (.int pc), .val (.int pd), .val .null, .val (.ref r_2), .val v0_3, .val v0_4, .val v0_5, .unset, .unset, .unset, .unset, .unset, .unset, .unset] [(.int ((fl.toUInt32 >>> ((10 : Int32) &&& 31).toUInt32).toInt32))])) _
    refine XS.iconst X5.here hx rfl (hb hby at_63) ?_
    show Steps p.tables e below (T5.setTop (mkF m 64 #[.val (.int fl), .val (.int pa), .val (.int pb), .val (.int pc), .val (.int pd), .val .null, .val (.ref r_2), .val v0_3, .val v0_4, .val v0_5, .unset, .unset, .unset, .unset, .unset, .unset, .unset] [(.int (3 : Int32)), (.int ((fl.toUInt32 >>> ((10 : Int32) &&& 31).toUInt32).toInt32))])) _
    refine XS.iand X5.here hx rfl (hb hby at_64) rfl ?_
    show Steps p.tables e below (T5.setTop (mkF m 65 #[.val (.int fl), .val (.int pa), .val (.int pb), .val (.int pc), .val (.int pd), .val .null, .val (.ref r_2), .val v0_3, .val v0_4, .val v0_5, .unset, .unset, .unset, .unset, .unset, .unset, .unset] [(.int (((fl.toUInt32 >>> ((10 : Int32) &&& 31).toUInt32).toInt32) &&& (3 : Int32)))])) _
    refine XS.iload X5.here hx rfl (hb hby at_65) rfl ?_
    show Steps p.tables e below (T5.setTop (mkF m 67 #[.val (.int fl), .val (.int pa), .val (.int pb), .val (.int pc), .val (.int pd), .val .null, .val (.ref r_2), .val v0_3, .val v0_4, .val v0_5, .unset, .unset, .unset, .unset, .unset, .unset, .unset] [(.int pd), (.int (((fl.toUInt32 >>> ((10 : Int32) &&& 31).toUInt32).toInt32) &&& (3 : Int32)))])) _
    refine XS.bipush X5.here hx rfl (hb hby at_67) ?_
    show Steps p.tables e below (T5.setTop (mkF m 69 #[.val (.int fl), .val (.int pa), .val (.int pb), .val (.int pc), .val (.int pd), .val .null, .val (.ref r_2), .val v0_3, .val v0_4, .val v0_5, .unset, .unset, .unset, .unset, .unset, .unset, .unset] [(.int (16 : Int32)), (.int pd), (.int (((fl.toUInt32 >>> ((10 : Int32) &&& 31).toUInt32).toInt32) &&& (3 : Int32)))])) _
    refine XS.iushr X5.here hx rfl (hb hby at_69) rfl ?_
    show Steps p.tables e below (T5.setTop (mkF m 70 #[.val (.int fl), .val (.int pa), .val (.int pb), .val (.int pc), .val (.int pd), .val .null, .val (.ref r_2), .val v0_3, .val v0_4, .val v0_5, .unset, .unset, .unset, .unset, .unset, .unset, .unset] [(.int ((pd.toUInt32 >>> ((16 : Int32) &&& 31).toUInt32).toInt32)), (.int (((fl.toUInt32 >>> ((10 : Int32) &&& 31).toUInt32).toInt32) &&& (3 : Int32)))])) _
    refine st6.trans ?_
    show Steps p.tables e below (T6.setTop (mkF m 73 #[.val (.int fl), .val (.int pa), .val (.int pb), .val (.int pc), .val (.int pd), .val .null, .val (.ref r_2), .val v0_3, .val v0_4, .val v0_5, .unset, .unset, .unset, .unset, .unset, .unset, .unset] [v0_6])) _
    refine XS.astore X6.here hx rfl (hb hby at_73) rfl pq6_0 (l' := #[.val (.int fl), .val (.int pa), .val (.int pb), .val (.int pc), .val (.int pd), .val .null, .val (.ref r_2), .val v0_3, .val v0_4, .val v0_5, .val v0_6, .unset, .unset, .unset, .unset, .unset, .unset]) (XS.store1 (o := .unset) rfl (Or.inl rfl) (own_cat pq6_0)) ?_
    show Steps p.tables e below (T6.setTop (mkF m 75 #[.val (.int fl), .val (.int pa), .val (.int pb), .val (.int pc), .val (.int pd), .val .null, .val (.ref r_2), .val v0_3, .val v0_4, .val v0_5, .val v0_6, .unset, .unset, .unset, .unset, .unset, .unset] [])) _
    refine st7 _ ?_
    show Steps p.tables e below (T7.setTop (mkF m 78 #[.val (.int fl), .val (.int pa), .val (.int pb), .val (.int pc), .val (.int pd), .val .null, .val (.ref r_2), .val v0_3, .val v0_4, .val v0_5, .val v0_6, .unset, .unset, .unset, .unset, .unset, .unset] [(.ref b7)])) _
    refine XS.dup X7.here hx rfl (hb hby at_78) rfl rfl ?_
    show Steps p.tables e below (T7.setTop (mkF m 79 #[.val (.int fl), .val (.int pa), .val (.int pb), .val (.int pc), .val (.int pd), .val .null, .val (.ref r_2), .val v0_3, .val v0_4, .val v0_5, .val v0_6, .unset, .unset, .unset, .unset, .unset, .unset] [(.ref b7), (.ref b7)])) _
    refine st8 _ ?_
    show Steps p.tables e below (T8.setTop (mkF m 81 #[.val (.int fl), .val (.int pa), .val (.int pb), .val (.int pc), .val (.int pd), .val .null, .val (.ref r_2), .val v0_3, .val v0_4, .val v0_5, .val v0_6, .unset, .unset, .unset, .unset, .unset, .unset] [(.ref a8), (.ref b7), (.ref b7)])) _
    refine XS.aconstNull X8.here hx rfl (hb hby at_81) ?_
    show Steps p.tables e below (T8.setTop (mkF m 82 #[.val (.int fl), .val (.int pa), .val (.int pb), .val (.int pc), .val (.int pd), .val .null, .val (.ref r_2), .val v0_3, .val v0_4, .val v0_5, .val v0_6, .unset, .unset, .unset, .unset, .unset, .unset] [.null, (.ref a8), (.ref b7), (.ref b7)])) _
    refine XS.iload X8.here hx rfl (hb hby at_82) rfl ?_
    show Steps p.tables e below (T8.setTop (mkF m 84 #[.val (.int fl), .val (.int pa), .val (.int pb), .val (.int pc), .val (.int pd), .val .null, .val (.ref r_2), .val v0_3, .val v0_4, .val v0_5, .val v0_6, .unset, .unset, .unset, .unset, .unset, .unset] [(.int pd), .null, (.ref a8), (.ref b7), (.ref b7)])) _
    refine st9.trans ?_
    show Steps p.tables e below (T9.setTop (mkF m 87 #[.val (.int fl), .val (.int pa), .val (.int pb), .val (.int pc), .val (.int pd), .val .null, .val (.ref r_2), .val v0_3, .val v0_4, .val v0_5, .val v0_6, .unset, .unset, .unset, .unset, .unset, .unset] [(.ref b7)])) _
    refine XS.astore X9.here hx rfl (hb hby at_87) rfl rfl (l' := #[.val (.int fl), .val (.int pa), .val (.int pb), .val (.int pc), .val (.int pd), .val .null, .val (.ref r_2), .val v0_3, .val v0_4, .val v0_5, .val v0_6, .val (.ref b7), .unset, .unset, .unset, .unset, .unset]) rfl ?_
    show Steps p.tables e below (T9.setTop (mkF m 89 #[.val (.int fl), .val (.int pa), .val (.int pb), .val (.int pc), .val (.int pd), .val .null, .val (.ref r_2), .val v0_3, .val v0_4, .val v0_5, .val v0_6, .val (.ref b7), .unset, .unset, .unset, .unset, .unset] [])) _
    refine st10 _ ?_
    show Steps p.tables e below (T10.setTop (mkF m 92 #[.val (.int fl), .val (.int pa), .val (.int pb), .val (.int pc), .val (.int pd), .val .null, .val (.ref r_2), .val v0_3, .val v0_4, .val v0_5, .val v0_6, .val (.ref b7), .unset, .unset, .unset, .unset, .unset] [(.ref b10)])) _
    refine XS.dup X10.here hx rfl (hb hby at_92) rfl rfl ?_
    show Steps p.tables e below (T10.setTop (mkF m 93 #[.val (.int fl), .val (.int pa), .val (.int pb), .val (.int pc), .val (.int pd), .val .null, .val (.ref r_2), .val v0_3, .val v0_4, .val v0_5, .val v0_6, .val (.ref b7), .unset, .unset, .unset, .unset, .unset] [(.ref b10), (.ref b10)])) _
    refine st11 _ ?_
    show Steps p.tables e below (T11.setTop (mkF m 95 #[.val (.int fl), .val (.int pa), .val (.int pb), .val (.int pc), .val (.int pd), .val .null, .val (.ref r_2), .val v0_3, .val v0_4, .val v0_5, .val v0_6, .val (.ref b7), .unset, .unset, .unset, .unset, .unset] [(.ref a11), (.ref b10), (.ref b10)])) _
    refine XS.aload X11.here hx rfl (hb hby at_95) rfl pq3_0 ?_
    show Steps p.tables e below (T11.setTop (mkF m 97 #[.val (.int fl), .val (.int pa), .val (.int pb), .val (.int pc), .val (.int pd), .val .null, .val (.ref r_2), .val v0_3, .val v0_4, .val v0_5, .val v0_6, .val (.ref b7), .unset, .unset, .unset, .unset, .unset] [v0_3, (.ref a11), (.ref b10), (.ref b10)])) _
    refine XS.aload X11.here hx rfl (hb hby at_97) rfl rfl ?_
    show Steps p.tables e below (T11.setTop (mkF m 99 #[.val (.int fl), .val (.int pa), .val (.int pb), .val (.int pc), .val (.int pd), .val .null, .val (.ref r_2), .val v0_3, .val v0_4, .val v0_5, .val v0_6, .val (.ref b7), .unset, .unset, .unset, .unset, .unset] [.null, v0_3, (.ref a11), (.ref b10), (.ref b10)])) _
    refine XS.aload X11.here hx rfl (hb hby at_99) rfl pq5_0 ?_
    show Steps p.tables e below (T11.setTop (mkF m 101 #[.val (.int fl), .val (.int pa), .val (.int pb), .val (.int pc), .val (.int pd), .val .null, .val (.ref r_2), .val v0_3, .val v0_4, .val v0_5, .val v0_6, .val (.ref b7), .unset, .unset, .unset, .unset, .unset] [v0_5, .null, v0_3, (.ref a11), (.ref b10), (.ref b10)])) _
    refine st12.trans ?_
    show Steps p.tables e below (T12.setTop (mkF m 104 #[.val (.int fl), .val (.int pa), .val (.int pb), .val (.int pc), .val (.int pd), .val .null, .val (.ref r_2), .val v0_3, .val v0_4, .val v0_5, .val v0_6, .val (.ref b7), .unset, .unset, .unset, .unset, .unset] [(.ref b10)])) _
    refine XS.astore X12.here hx rfl (hb hby at_104) rfl rfl (l' := #[.val (.int fl), .val (.int pa), .val (.int pb), .val (.int pc), .val (.int pd), .val .null, .val (.ref r_2), .val v0_3, .val v0_4, .val v0_5, .val v0_6, .val (.ref b7), .val (.ref b10), .unset, .unset, .unset, .unset]) rfl ?_
    show Steps p.tables e below (T12.setTop (mkF m 106 #[.val (.int fl), .val (.int pa), .val (.int pb), .val (.int pc), .val (.int pd), .val .null, .val (.ref r_2), .val v0_3, .val v0_4, .val v0_5, .val v0_6, .val (.ref b7), .val (.ref b10), .unset, .unset, .unset, .unset] [])) _
    refine st13 _ ?_
    show Steps p.tables e below (T13.setTop (mkF m 109 #[.val (.int fl), .val (.int pa), .val (.int pb), .val (.int pc), .val (.int pd), .val .null, .val (.ref r_2), .val v0_3, .val v0_4, .val v0_5, .val v0_6, .val (.ref b7), .val (.ref b10), .unset, .unset, .unset, .unset] [(.ref b13)])) _
    refine XS.dup X13.here hx rfl (hb hby at_109) rfl rfl ?_
    show Steps p.tables e below (T13.setTop (mkF m 110 #[.val (.int fl), .val (.int pa), .val (.int pb), .val (.int pc), .val (.int pd), .val .null, .val (.ref r_2), .val v0_3, .val v0_4, .val v0_5, .val v0_6, .val (.ref b7), .val (.ref b10), .unset, .unset, .unset, .unset] [(.ref b13), (.ref b13)])) _
    refine st14 _ ?_
    show Steps p.tables e below (T14.setTop (mkF m 112 #[.val (.int fl), .val (.int pa), .val (.int pb), .val (.int pc), .val (.int pd), .val .null, .val (.ref r_2), .val v0_3, .val v0_4, .val v0_5, .val v0_6, .val (.ref b7), .val (.ref b10), .unset, .unset, .unset, .unset] [(.ref a14), (.ref b13), (.ref b13)])) _
    refine XS.aload X14.here hx rfl (hb hby at_112) rfl pq4_0 ?_
    show Steps p.tables e below (T14.setTop (mkF m 114 #[.val (.int fl), .val (.int pa), .val (.int pb), .val (.int pc), .val (.int pd), .val .null, .val (.ref r_2), .val v0_3, .val v0_4, .val v0_5, .val v0_6, .val (.ref b7), .val (.ref b10), .unset, .unset, .unset, .unset] [v0_4, (.ref a14), (.ref b13), (.ref b13)])) _
    refine XS.aload X14.here hx rfl (hb hby at_114) rfl rfl ?_
    show Steps p.tables e below (T14.setTop (mkF m 116 #[.val (.int fl), .val (.int pa), .val (.int pb), .val (.int pc), .val (.int pd), .val .null, .val (.ref r_2), .val v0_3, .val v0_4, .val v0_5, .val v0_6, .val (.ref b7), .val (.ref b10), .unset, .unset, .unset, .unset] [(.ref r_2), v0_4, (.ref a14), (.ref b13), (.ref b13)])) _
    refine XS.aload X14.here hx rfl (hb hby at_116) rfl pq6_0 ?_
    show Steps p.tables e below (T14.setTop (mkF m 118 #[.val (.int fl), .val (.int pa), .val (.int pb), .val (.int pc), .val (.int pd), .val .null, .val (.ref r_2), .val v0_3, .val v0_4, .val v0_5, .val v0_6, .val (.ref b7), .val (.ref b10), .unset, .unset, .unset, .unset] [v0_6, (.ref r_2), v0_4, (.ref a14), (.ref b13), (.ref b13)])) _
    refine st15.trans ?_
    show Steps p.tables e below (T15.setTop (mkF m 121 #[.val (.int fl), .val (.int pa), .val (.int pb), .val (.int pc), .val (.int pd), .val .null, .val (.ref r_2), .val v0_3, .val v0_4, .val v0_5, .val v0_6, .val (.ref b7), .val (.ref b10), .unset, .unset, .unset, .unset] [(.ref b13)])) _
    refine XS.astore X15.here hx rfl (hb hby at_121) rfl rfl (l' := #[.val (.int fl), .val (.int pa), .val (.int pb), .val (.int pc), .val (.int pd), .val .null, .val (.ref r_2), .val v0_3, .val v0_4, .val v0_5, .val v0_6, .val (.ref b7), .val (.ref b10), .val (.ref b13), .unset, .unset, .unset]) rfl ?_
    show Steps p.tables e below (T15.setTop (mkF m 123 #[.val (.int fl), .val (.int pa), .val (.int pb), .val (.int pc), .val (.int pd), .val .null, .val (.ref r_2), .val v0_3, .val v0_4, .val v0_5, .val v0_6, .val (.ref b7), .val (.ref b10), .val (.ref b13), .unset, .unset, .unset] [])) _
    refine st16 _ ?_
    show Steps p.tables e below (T16.setTop (mkF m 126 #[.val (.int fl), .val (.int pa), .val (.int pb), .val (.int pc), .val (.int pd), .val .null, .val (.ref r_2), .val v0_3, .val v0_4, .val v0_5, .val v0_6, .val (.ref b7), .val (.ref b10), .val (.ref b13), .unset, .unset, .unset] [(.ref b16)])) _
    refine XS.dup X16.here hx rfl (hb hby at_126) rfl rfl ?_
    show Steps p.tables e below (T16.setTop (mkF m 127 #[.val (.int fl), .val (.int pa), .val (.int pb), .val (.int pc), .val (.int pd), .val .null, .val (.ref r_2), .val v0_3, .val v0_4, .val v0_5, .val v0_6, .val (.ref b7), .val (.ref b10), .val (.ref b13), .unset, .unset, .unset] [(.ref b16), (.ref b16)])) _
    refine XS.aload X16.here hx rfl (hb hby at_127) rfl rfl ?_
    show Steps p.tables e below (T16.setTop (mkF m 129 #[.val (.int fl), .val (.int pa), .val (.int pb), .val (.int pc), .val (.int pd), .val .null, .val (.ref r_2), .val v0_3, .val v0_4, .val v0_5, .val v0_6, .val (.ref b7), .val (.ref b10), .val (.ref b13), .unset, .unset, .unset] [(.ref b7), (.ref b16), (.ref b16)])) _
    refine XS.aload X16.here hx rfl (hb hby at_129) rfl rfl ?_
    show Steps p.tables e below (T16.setTop (mkF m 131 #[.val (.int fl), .val (.int pa), .val (.int pb), .val (.int pc), .val (.int pd), .val .null, .val (.ref r_2), .val v0_3, .val v0_4, .val v0_5, .val v0_6, .val (.ref b7), .val (.ref b10), .val (.ref b13), .unset, .unset, .unset] [(.ref b10), (.ref b7), (.ref b16), (.ref b16)])) _
    refine XS.aload X16.here hx rfl (hb hby at_131) rfl rfl ?_
    show Steps p.tables e below (T16.setTop (mkF m 133 #[.val (.int fl), .val (.int pa), .val (.int pb), .val (.int pc), .val (.int pd), .val .null, .val (.ref r_2), .val v0_3, .val v0_4, .val v0_5, .val v0_6, .val (.ref b7), .val (.ref b10), .val (.ref b13), .unset, .unset, .unset] [(.ref b13), (.ref b10), (.ref b7), (.ref b16), (.ref b16)])) _
    refine st17.trans ?_
    show Steps p.tables e below (T17.setTop (mkF m 136 #[.val (.int fl), .val (.int pa), .val (.int pb), .val (.int pc), .val (.int pd), .val .null, .val (.ref r_2), .val v0_3, .val v0_4, .val v0_5, .val v0_6, .val (.ref b7), .val (.ref b10), .val (.ref b13), .unset, .unset, .unset] [(.ref b16)])) _
    refine XS.astore X17.here hx rfl (hb hby at_136) rfl rfl (l' := #[.val (.int fl), .val (.int pa), .val (.int pb), .val (.int pc), .val (.int pd), .val .null, .val (.ref r_2), .val v0_3, .val v0_4, .val v0_5, .val v0_6, .val (.ref b7), .val (.ref b10), .val (.ref b13), .val (.ref b16), .unset, .unset]) rfl ?_
    show Steps p.tables e below (T17.setTop (mkF m 138 #[.val (.int fl), .val (.int pa), .val (.int pb), .val (.int pc), .val (.int pd), .val .null, .val (.ref r_2), .val v0_3, .val v0_4, .val v0_5, .val v0_6, .val (.ref b7), .val (.ref b10), .val (.ref b13), .val (.ref b16), .unset, .unset] [])) _
    refine XS.aload X17.here hx rfl (hb hby at_138) rfl rfl ?_
    show Steps p.tables e below (T17.setTop (mkF m 140 #[.val (.int fl), .val (.int pa), .val (.int pb), .val (.int pc), .val (.int pd), .val .null, .val (.ref r_2), .val v0_3, .val v0_4, .val v0_5, .val v0_6, .val (.ref b7), .val (.ref b10), .val (.ref b13), .val (.ref b16), .unset, .unset] [(.ref b16)])) _
    refine st21.trans ?_
    show Steps p.tables e below (T21.setTop (mkF m 143 #[.val (.int fl), .val (.int pa), .val (.int pb), .val (.int pc), .val (.int pd), .val .null, .val (.ref r_2), .val v0_3, .val v0_4, .val v0_5, .val v0_6, .val (.ref b7), .val (.ref b10), .val (.ref b13), .val (.ref b16), .unset, .unset] [(.ref r_2)])) _
    refine XS.astore X21.here hx rfl (hb hby at_143) rfl rfl (l' := #[.val (.int fl), .val (.int pa), .val (.int pb), .val (.int pc), .val (.int pd), .val .null, .val (.ref r_2), .val v0_3, .val v0_4, .val v0_5, .val v0_6, .val (.ref b7), .val (.ref b10), .val (.ref b13), .val (.ref b16), .val (.ref r_2), .unset]) rfl ?_
    show Steps p.tables e below (T21.setTop (mkF m 145 #[.val (.int fl), .val (.int pa), .val (.int pb), .val (.int pc), .val (.int pd), .val .null, .val (.ref r_2), .val v0_3, .val v0_4, .val v0_5, .val v0_6, .val (.ref b7), .val (.ref b10), .val (.ref b13), .val (.ref b16), .val (.ref r_2), .unset] [])) _
    refine XS.aload X21.here hx rfl (hb hby at_145) rfl rfl ?_
    show Steps p.tables e below (T21.setTop (mkF m 147 #[.val (.int fl), .val (.int pa), .val (.int pb), .val (.int pc), .val (.int pd), .val .null, .val (.ref r_2), .val v0_3, .val v0_4, .val v0_5, .val v0_6, .val (.ref b7), .val (.ref b10), .val (.ref b13), .val (.ref b16), .val (.ref r_2), .unset] [.null])) _
    refine XS.ifnullYes X21.here hx rfl (pc0 := 147) (pc' := 157) rfl (hb hby at_147) rfl (by decide) (by decide) ?_
    show Steps p.tables e below (T21.setTop (mkF m 157 #[.val (.int fl), .val (.int pa), .val (.int pb), .val (.int pc), .val (.int pd), .val .null, .val (.ref r_2), .val v0_3, .val v0_4, .val v0_5, .val v0_6, .val (.ref b7), .val (.ref b10), .val (.ref b13), .val (.ref b16), .val (.ref r_2), .unset] [])) _
    refine XS.aload X21.here hx rfl (hb hby at_157) rfl rfl ?_
    show Steps p.tables e below (T21.setTop (mkF m 159 #[.val (.int fl), .val (.int pa), .val (.int pb), .val (.int pc), .val (.int pd), .val .null, .val (.ref r_2), .val v0_3, .val v0_4, .val v0_5, .val v0_6, .val (.ref b7), .val (.ref b10), .val (.ref b13), .val (.ref b16), .val (.ref r_2), .unset] [(.ref r_2)])) _
    refine XS.astore X21.here hx rfl (hb hby at_159) rfl rfl (l' := #[.val (.int fl), .val (.int pa), .val (.int pb), .val (.int pc), .val (.int pd), .val .null, .val (.ref r_2), .val v0_3, .val v0_4, .val v0_5, .val v0_6, .val (.ref b7), .val (.ref b10), .val (.ref b13), .val (.ref b16), .val (.ref r_2), .val (.ref r_2)]) rfl ?_
    show Steps p.tables e below (T21.setTop (mkF m 161 #[.val (.int fl), .val (.int pa), .val (.int pb), .val (.int pc), .val (.int pd), .val .null, .val (.ref r_2), .val v0_3, .val v0_4, .val v0_5, .val v0_6, .val (.ref b7), .val (.ref b10), .val (.ref b13), .val (.ref b16), .val (.ref r_2), .val (.ref r_2)] [])) _
    refine XS.aload X21.here hx rfl (hb hby at_161) rfl rfl ?_
    show Steps p.tables e below (T21.setTop (mkF m 163 #[.val (.int fl), .val (.int pa), .val (.int pb), .val (.int pc), .val (.int pd), .val .null, .val (.ref r_2), .val v0_3, .val v0_4, .val v0_5, .val v0_6, .val (.ref b7), .val (.ref b10), .val (.ref b13), .val (.ref b16), .val (.ref r_2), .val (.ref r_2)] [(.ref r_2)])) _
    refine XS.ifnonnullYes X21.here hx rfl (pc0 := 163) (pc' := 177) rfl (hb hby at_163) rfl (by decide) (by decide) ?_
    show Steps p.tables e below (T21.setTop (mkF m 177 #[.val (.int fl), .val (.int pa), .val (.int pb), .val (.int pc), .val (.int pd), .val .null, .val (.ref r_2), .val v0_3, .val v0_4, .val v0_5, .val v0_6, .val (.ref b7), .val (.ref b10), .val (.ref b13), .val (.ref b16), .val (.ref r_2), .val (.ref r_2)] [])) _
    refine XS.aload X21.here hx rfl (hb hby at_177) rfl rfl ?_
    show Steps p.tables e below (T21.setTop (mkF m 179 #[.val (.int fl), .val (.int pa), .val (.int pb), .val (.int pc), .val (.int pd), .val .null, .val (.ref r_2), .val v0_3, .val v0_4, .val v0_5, .val v0_6, .val (.ref b7), .val (.ref b10), .val (.ref b13), .val (.ref b16), .val (.ref r_2), .val (.ref r_2)] [(.ref r_2)])) _
    refine XS.aload X21.here hx rfl (hb hby at_179) rfl rfl ?_
    show Steps p.tables e below (T21.setTop (mkF m 181 #[.val (.int fl), .val (.int pa), .val (.int pb), .val (.int pc), .val (.int pd), .val .null, .val (.ref r_2), .val v0_3, .val v0_4, .val v0_5, .val v0_6, .val (.ref b7), .val (.ref b10), .val (.ref b13), .val (.ref b16), .val (.ref r_2), .val (.ref r_2)] [(.ref r_2), (.ref r_2)])) _
    refine st22.trans ?_
    show Steps p.tables e below (T22.setTop (mkF m 184 #[.val (.int fl), .val (.int pa), .val (.int pb), .val (.int pc), .val (.int pd), .val .null, .val (.ref r_2), .val v0_3, .val v0_4, .val v0_5, .val v0_6, .val (.ref b7), .val (.ref b10), .val (.ref b13), .val (.ref b16), .val (.ref r_2), .val (.ref r_2)] [(.int (1 : Int32))])) _
    exact retN X22 hx (t := .boolean) Bd.returns (by simp) (hb hby at_184) hr
  · show Q_law Z fl pa pb pc pd cs h0 n0 _ T22.heap _
    rw [kh22]
    exact ⟨rfl, N22⟩
  · show CHr Z own_EL s.vm s.heap T22.vm T22.heap
    rw [hh, kh22]; exact CE
set_option maxRecDepth 65536 in
set_option maxHeartbeats 40000000 in
theorem law_C (l : Launch) (Z : State) (a0 : Array Value) (hw : ∀ d ∈ tables_1, d.before a0 Z = true) (ws : List Jvm.Cond) (fl : Int32) (pa : Int32) (pb : Int32) (pc : Int32) (pd : Int32) (cs : Int32) (h0 : Heap) (n0 : Nat) (O0 : Old Z n0 h0) (G0 : Sta Z Z.heap "java/lang/String" "COMPACT_STRINGS" "Z" (.int cs)) (hcs : ¬ (cs = (0 : Int32))) (hk1 : (fl &&& (3 : Int32)) = (0 : Int32)) (hk2 : (((fl.toUInt32 >>> ((2 : Int32) &&& 31).toUInt32).toInt32) &&& (3 : Int32)) = (0 : Int32)) :
    MetFree l x (head1 (Jvm.Cond.code x code maxLocals ret :: ws) room_1) (fun zA zU => zA = #[(.int fl), (.int pa), (.int pb), (.int pc), (.int pd)] ∧ Z.Warmed39 zU.vm ∧ zU.heap = h0 ∧ CHv Z own_EL zU.vm h0 ∧ ∀ x ∈ ([] : List Addr), Safe Z own_EL zU.vm h0 x) (fun _ _ _ _ _ => True) (fun _ zU zo zU' => ∃ zv zL, zo = .returned zv ∧ Q_law Z fl pa pb pc pd cs h0 n0 zv zU'.heap zL ∧ CHr Z own_EL zU.vm zU.heap zU'.vm zU'.heap ∧ ReturnedEndW zU zo zU' zL room_1.cells room_1.slots) := by
  refine MetFree.of_bodySF (plainFor_of_name pn_14) hisR ?_
  intro p e s m args below meth c s₁ Bd hml0 hP hK
  obtain ⟨rfl, hZ, hh, HC, HS⟩ := hP
  have hx := Bd.exec
  have hby := Bd.bytes
  have hml : c.maxLocals = 17 := hml0
  have hown : s.vm.findClass "com/example/knooppunt/knooppunt/reader/RouteLinePinLaw" = some m.cls := findClass_of_methodNamed Bd.named
  have hnm := (name_of_methodNamed Bd.named Bd.method).1
  have X0 : Stand p l e room_1 (s.setVm s.vm) m #[(.int fl), (.int pa), (.int pb), (.int pc), (.int pd)] below meth c s₁ [] 0 0 := Stand.of_body Bd
  have e0 : s₁.heap = h0 := by rw [← hh, Bd.state]; rfl
  have N0 := Fr.nil n0
  have Z0 : n0 ≤ h0.size := O0.1 ▸ O0.2.1
  have pre0 : ∀ zt, Steps p.tables e below (s₁.setTop (mkF m 0 #[.val (.int fl), .val (.int pa), .val (.int pb), .val (.int pc), .val (.int pd), .unset, .unset, .unset, .unset, .unset, .unset, .unset, .unset, .unset, .unset, .unset, .unset] [])) zt → Steps p.tables e below (s₁.setTop (entryFrame m #[(.int fl), (.int pa), (.int pb), (.int pc), (.int pd)] maxLocals)) zt := fun zt zk => castTop (ef_0_IIIII m fl pa pb pc pd) zk
  have hEL := own_EW hw
  have wS := own_wS hw
  have hS0 : s.Since s.vm 0 := (State.WarmedH.refl s).since 0
  have CR0 : CHr Z own_EL s.vm h0 s.vm h0 := CHr.refl HC
  have hZ0 := hZ
  have hown0 := hown
  obtain ⟨_, _, ⟨T1, L1, k1, n1⟩, -, X1, ⟨Lc1, hQ1, l1, y1, z1⟩, st1⟩ := Jvm.LawKit.callS X0 hx (y := (⟨"com/example/knooppunt/knooppunt/reader/RouteLinePinLaw", "draw", "(II)Ljava/lang/String;"⟩ : MethodName)) hown (mvT hZ (hw _ (List.mem_of_getElem? (i := 0) rfl))) (mvT hZ (hw _ (List.mem_of_getElem? (i := 1) rfl))) (mvT hZ (hw _ (List.mem_of_getElem? (i := 2) rfl))) (mvT hZ (hw _ (List.mem_of_getElem? (i := 3) rfl))) (by decide) (backOf (W := 0) (drawN l Z a0 hw [] pa h0 n0 O0 ) hZ (hw _ (List.mem_of_getElem? (i := 3) rfl)) (hw _ (List.mem_of_getElem? (i := 2) rfl)) (by decide) (by decide)) (g := (mkF m 4 #[.val (.int fl), .val (.int pa), .val (.int pb), .val (.int pc), .val (.int pd), .unset, .unset, .unset, .unset, .unset, .unset, .unset, .unset, .unset, .unset, .unset, .unset] [(.int pa), (.int (0 : Int32))])) rfl (by rw [hml]; rfl) (argsL := [(.int (0 : Int32)), (.int pa)]) (rest := []) (lenOf pd_11 rfl) rfl (by show 2 * 0 + _ ≤ _; exact Nat.le_of_eq rfl) (hb hby at_4) (fun _ _ => ⟨rfl, e0, (by decide : 0 + 0 ≤ _), (by decide : 0 + 0 ≤ _)⟩)
  dsimp only [Pt.U, Pt.locs, Pt.cells, Pt.slots] at X1 l1 y1 z1 st1 hQ1
  subst l1 y1 z1
  obtain ⟨rfl, Nq1, kh1⟩ := hQ1
  have N1 := Fr.app N0 Nq1
  obtain ⟨_, _, ⟨T2, L2, k2, n2⟩, -, X2, ⟨Lc2, hQ2, l2, y2, z2⟩, st2⟩ := Jvm.LawKit.callS X1 hx (y := (⟨"com/example/knooppunt/knooppunt/reader/RouteLinePinLaw", "draw", "(II)Ljava/lang/String;"⟩ : MethodName)) hown (mvT hZ (hw _ (List.mem_of_getElem? (i := 0) rfl))) (mvT hZ (hw _ (List.mem_of_getElem? (i := 1) rfl))) (mvT hZ (hw _ (List.mem_of_getElem? (i := 2) rfl))) (mvT hZ (hw _ (List.mem_of_getElem? (i := 3) rfl))) (by decide) (backOf (W := 0) (drawN l Z a0 hw [] pb h0 n0 O0 ) hZ (hw _ (List.mem_of_getElem? (i := 3) rfl)) (hw _ (List.mem_of_getElem? (i := 2) rfl)) (by decide) (by decide)) (g := (mkF m 15 #[.val (.int fl), .val (.int pa), .val (.int pb), .val (.int pc), .val (.int pd), .val .null, .unset, .unset, .unset, .unset, .unset, .unset, .unset, .unset, .unset, .unset, .unset] [(.int pb), (.int (0 : Int32))])) rfl (by rw [hml]; rfl) (argsL := [(.int (0 : Int32)), (.int pb)]) (rest := []) (lenOf pd_11 rfl) rfl (by show 2 * 0 + _ ≤ _; exact Nat.le_of_eq rfl) (hb hby at_15) (fun _ _ => ⟨rfl, kh1, (by decide : 0 + 0 ≤ _), (by decide : 0 + 0 ≤ _)⟩)
  dsimp only [Pt.U, Pt.locs, Pt.cells, Pt.slots] at X2 l2 y2 z2 st2 hQ2
  subst l2 y2 z2
  obtain ⟨rfl, Nq2, kh2⟩ := hQ2
  have N2 := Fr.app N1 Nq2
  obtain ⟨_, _, ⟨T3, L3, k3, n3⟩, -, Xr3, hSr3, hg3, ⟨Lc3, hQ3, l3, y3, z3, CL3⟩, st3⟩ := callSS X2 hx (y := (⟨"com/example/knooppunt/knooppunt/reader/RouteLinePinLaw", "draw", "(II)Ljava/lang/String;"⟩ : MethodName)) hown (mvT hZ (hw _ (List.mem_of_getElem? (i := 0) rfl))) (mvT hZ (hw _ (List.mem_of_getElem? (i := 1) rfl))) (mvT hZ (hw _ (List.mem_of_getElem? (i := 2) rfl))) (mvT hZ (hw _ (List.mem_of_getElem? (i := 3) rfl))) (by decide) (own_backSH (s := s) (vm0 := s.vm) (W := 0) (drawG l Z a0 hw [] (((fl.toUInt32 >>> ((4 : Int32) &&& 31).toUInt32).toInt32) &&& (3 : Int32)) pc cs h0 n0 O0 G0 hcs) hZ (hw _ (List.mem_of_getElem? (i := 3) rfl)) (hw _ (List.mem_of_getElem? (i := 2) rfl)) (by decide) (by decide) hEL CR0.1 all0) (g := (mkF m 26 #[.val (.int fl), .val (.int pa), .val (.int pb), .val (.int pc), .val (.int pd), .val .null, .val .null, .unset, .unset, .unset, .unset, .unset, .unset, .unset, .unset, .unset, .unset] [(.int pc), (.int (((fl.toUInt32 >>> ((4 : Int32) &&& 31).toUInt32).toInt32) &&& (3 : Int32)))])) rfl (by rw [hml]; rfl) (argsL := [(.int (((fl.toUInt32 >>> ((4 : Int32) &&& 31).toUInt32).toInt32) &&& (3 : Int32))), (.int pc)]) (rest := []) (lenOf pd_11 rfl) rfl (by show 2 * 0 + _ ≤ _; exact Nat.le_of_eq rfl) (hb hby at_26) (fun _ _ => ⟨rfl, kh2, (by decide : 0 + 6 ≤ _), (by decide : 0 + 12 ≤ _)⟩)
  dsimp only [Pt.U, Pt.locs, Pt.cells, Pt.slots] at Xr3 l3 y3 z3 st3 hQ3 hSr3 hg3 CL3
  subst l3 y3 z3
  obtain ⟨X3, hS3, hZ, hown⟩ := rebS (s := s) (vm0 := s.vm) hS0 (own_hk kh2 (Nat.zero_le _)) Xr3 hSr3 hg3 hZ hown
  obtain ⟨v0_3, rfl, Nq3, kh3, pq3_0⟩ := hQ3
  have N3 := Fr.app N2 Nq3
  have hZ3 := hZ
  have hown3 := hown
  have O3 := O0.keep kh3 all0
  have K3 : Keep h0 T3.heap [] := (Keep.refl h0 []).trans kh3 all0
  have CR3 := CR0.trans CL3
  obtain ⟨_, _, ⟨T4, L4, k4, n4⟩, -, Xr4, hSr4, hg4, ⟨Lc4, hQ4, l4, y4, z4, CL4⟩, st4⟩ := callSS X3 hx (y := (⟨"com/example/knooppunt/knooppunt/reader/RouteLinePinLaw", "draw", "(II)Ljava/lang/String;"⟩ : MethodName)) hown (mvT hZ (hw _ (List.mem_of_getElem? (i := 0) rfl))) (mvT hZ (hw _ (List.mem_of_getElem? (i := 1) rfl))) (mvT hZ (hw _ (List.mem_of_getElem? (i := 2) rfl))) (mvT hZ (hw _ (List.mem_of_getElem? (i := 3) rfl))) (by decide) (own_backSH (s := s) (vm0 := T3.vm) (W := 0) (drawG l Z a0 hw [] (((fl.toUInt32 >>> ((6 : Int32) &&& 31).toUInt32).toInt32) &&& (3 : Int32)) ((pc.toUInt32 >>> ((16 : Int32) &&& 31).toUInt32).toInt32) cs T3.heap n0 O3 G0 hcs) hZ (hw _ (List.mem_of_getElem? (i := 3) rfl)) (hw _ (List.mem_of_getElem? (i := 2) rfl)) (by decide) (by decide) hEL CR3.1 all0) (g := (mkF m 41 #[.val (.int fl), .val (.int pa), .val (.int pb), .val (.int pc), .val (.int pd), .val .null, .val .null, .val v0_3, .unset, .unset, .unset, .unset, .unset, .unset, .unset, .unset, .unset] [(.int ((pc.toUInt32 >>> ((16 : Int32) &&& 31).toUInt32).toInt32)), (.int (((fl.toUInt32 >>> ((6 : Int32) &&& 31).toUInt32).toInt32) &&& (3 : Int32)))])) rfl (by rw [hml]; rfl) (argsL := [(.int (((fl.toUInt32 >>> ((6 : Int32) &&& 31).toUInt32).toInt32) &&& (3 : Int32))), (.int ((pc.toUInt32 >>> ((16 : Int32) &&& 31).toUInt32).toInt32))]) (rest := []) (lenOf pd_11 rfl) rfl (by show 2 * 0 + _ ≤ _; exact Nat.le_of_eq rfl) (hb hby at_41) (fun _ _ => ⟨rfl, rfl, (by decide : 6 + 6 ≤ _), (by decide : 12 + 12 ≤ _)⟩)
  dsimp only [Pt.U, Pt.locs, Pt.cells, Pt.slots] at Xr4 l4 y4 z4 st4 hQ4 hSr4 hg4 CL4
  subst l4 y4 z4
  obtain ⟨X4, hS4, hZ, hown⟩ := rebS (s := s) (vm0 := T3.vm) hS3 (own_hk rfl (Nat.le_refl _)) Xr4 hSr4 hg4 hZ hown
  obtain ⟨v0_4, rfl, Nq4, kh4, pq4_0⟩ := hQ4
  have N4 := Fr.app N3 Nq4
  have hZ4 := hZ
  have hown4 := hown
  have O4 := O3.keep kh4 all0
  have K4 : Keep h0 T4.heap [] := K3.trans kh4 all0
  have CR4 := CR3.trans CL4
  obtain ⟨_, _, ⟨T5, L5, k5, n5⟩, -, Xr5, hSr5, hg5, ⟨Lc5, hQ5, l5, y5, z5, CL5⟩, st5⟩ := callSS X4 hx (y := (⟨"com/example/knooppunt/knooppunt/reader/RouteLinePinLaw", "draw", "(II)Ljava/lang/String;"⟩ : MethodName)) hown (mvT hZ (hw _ (List.mem_of_getElem? (i := 0) rfl))) (mvT hZ (hw _ (List.mem_of_getElem? (i := 1) rfl))) (mvT hZ (hw _ (List.mem_of_getElem? (i := 2) rfl))) (mvT hZ (hw _ (List.mem_of_getElem? (i := 3) rfl))) (by decide) (own_backSH (s := s) (vm0 := T4.vm) (W := 0) (drawG l Z a0 hw [] (((fl.toUInt32 >>> ((8 : Int32) &&& 31).toUInt32).toInt32) &&& (3 : Int32)) pd cs T4.heap n0 O4 G0 hcs) hZ (hw _ (List.mem_of_getElem? (i := 3) rfl)) (hw _ (List.mem_of_getElem? (i := 2) rfl)) (by decide) (by decide) hEL CR4.1 all0) (g := (mkF m 54 #[.val (.int fl), .val (.int pa), .val (.int pb), .val (.int pc), .val (.int pd), .val .null, .val .null, .val v0_3, .val v0_4, .unset, .unset, .unset, .unset, .unset, .unset, .unset, .unset] [(.int pd), (.int (((fl.toUInt32 >>> ((8 : Int32) &&& 31).toUInt32).toInt32) &&& (3 : Int32)))])) rfl (by rw [hml]; rfl) (argsL := [(.int (((fl.toUInt32 >>> ((8 : Int32) &&& 31).toUInt32).toInt32) &&& (3 : Int32))), (.int pd)]) (rest := []) (lenOf pd_11 rfl) rfl (by show 2 * 0 + _ ≤ _; exact Nat.le_of_eq rfl) (hb hby at_54) (fun _ _ => ⟨rfl, rfl, (by decide : 12 + 6 ≤ _), (by decide : 24 + 12 ≤ _)⟩)
  dsimp only [Pt.U, Pt.locs, Pt.cells, Pt.slots] at Xr5 l5 y5 z5 st5 hQ5 hSr5 hg5 CL5
  subst l5 y5 z5
  obtain ⟨X5, hS5, hZ, hown⟩ := rebS (s := s) (vm0 := T4.vm) hS4 (own_hk rfl (Nat.le_refl _)) Xr5 hSr5 hg5 hZ hown
  obtain ⟨v0_5, rfl, Nq5, kh5, pq5_0⟩ := hQ5
  have N5 := Fr.app N4 Nq5
  have hZ5 := hZ
  have hown5 := hown
  have O5 := O4.keep kh5 all0
  have K5 : Keep h0 T5.heap [] := K4.trans kh5 all0
  have CR5 := CR4.trans CL5
  obtain ⟨_, _, ⟨T6, L6, k6, n6⟩, -, Xr6, hSr6, hg6, ⟨Lc6, hQ6, l6, y6, z6, CL6⟩, st6⟩ := callSS X5 hx (y := (⟨"com/example/knooppunt/knooppunt/reader/RouteLinePinLaw", "draw", "(II)Ljava/lang/String;"⟩ : MethodName)) hown (mvT hZ (hw _ (List.mem_of_getElem? (i := 0) rfl))) (mvT hZ (hw _ (List.mem_of_getElem? (i := 1) rfl))) (mvT hZ (hw _ (List.mem_of_getElem? (i := 2) rfl))) (mvT hZ (hw _ (List.mem_of_getElem? (i := 3) rfl))) (by decide) (own_backSH (s := s) (vm0 := T5.vm) (W := 0) (drawG l Z a0 hw [] (((fl.toUInt32 >>> ((10 : Int32) &&& 31).toUInt32).toInt32) &&& (3 : Int32)) ((pd.toUInt32 >>> ((16 : Int32) &&& 31).toUInt32).toInt32) cs T5.heap n0 O5 G0 hcs) hZ (hw _ (List.mem_of_getElem? (i := 3) rfl)) (hw _ (List.mem_of_getElem? (i := 2) rfl)) (by decide) (by decide) hEL CR5.1 all0) (g := (mkF m 70 #[.val (.int fl), .val (.int pa), .val (.int pb), .val (.int pc), .val (.int pd), .val .null, .val .null, .val v0_3, .val v0_4, .val v0_5, .unset, .unset, .unset, .unset, .unset, .unset, .unset] [(.int ((pd.toUInt32 >>> ((16 : Int32) &&& 31).toUInt32).toInt32)), (.int (((fl.toUInt32 >>> ((10 : Int32) &&& 31).toUInt32).toInt32) &&& (3 : Int32)))])) rfl (by rw [hml]; rfl) (argsL := [(.int (((fl.toUInt32 >>> ((10 : Int32) &&& 31).toUInt32).toInt32) &&& (3 : Int32))), (.int ((pd.toUInt32 >>> ((16 : Int32) &&& 31).toUInt32).toInt32))]) (rest := []) (lenOf pd_11 rfl) rfl (by show 2 * 0 + _ ≤ _; exact Nat.le_of_eq rfl) (hb hby at_70) (fun _ _ => ⟨rfl, rfl, (by decide : 18 + 6 ≤ _), (by decide : 36 + 12 ≤ _)⟩)
  dsimp only [Pt.U, Pt.locs, Pt.cells, Pt.slots] at Xr6 l6 y6 z6 st6 hQ6 hSr6 hg6 CL6
  subst l6 y6 z6
  obtain ⟨X6, hS6, hZ, hown⟩ := rebS (s := s) (vm0 := T5.vm) hS5 (own_hk rfl (Nat.le_refl _)) Xr6 hSr6 hg6 hZ hown
  obtain ⟨v0_6, rfl, Nq6, kh6, pq6_0⟩ := hQ6
  have N6 := Fr.app N5 Nq6
  have hZ6 := hZ
  have hown6 := hown
  have O6 := O5.keep kh6 all0
  have K6 : Keep h0 T6.heap [] := K5.trans kh6 all0
  have CR6 := CR5.trans CL6
  obtain ⟨T7, h7, X7, e7, E7, A7, D7, U7, st7⟩ := newO X6 hx hZ hown (hw _ (List.mem_of_getElem? (i := 4) rfl)) (hw _ (List.mem_of_getElem? (i := 5) rfl)) (hw _ (List.mem_of_getElem? (i := 6) rfl)) rfl (g := (mkF m 75 #[.val (.int fl), .val (.int pa), .val (.int pb), .val (.int pc), .val (.int pd), .val .null, .val .null, .val v0_3, .val v0_4, .val v0_5, .val v0_6, .unset, .unset, .unset, .unset, .unset, .unset] [])) rfl (hb hby at_75) (by decide) (by decide)
  obtain ⟨b7, gz7⟩ : ∃ z, z = T6.heap.size := ⟨_, rfl⟩
  rw [← gz7] at A7 D7 U7 st7
  have sz_b7 : h0.size ≤ b7 := Nat.le_trans K6.1 (Nat.le_of_eq gz7.symm)
  have g_b7 : n0 ≤ b7 := Nat.le_trans Z0 sz_b7
  have O7 := O6.ext E7
  have K7 : Keep h0 h7 [] := K6.ext E7
  have CR7 := CR6.trans (CHr.ext E7 CR6.1)
  have Fi7_27 : Fld Z h7 b7 "com/example/knooppunt/knooppunt/reader/Source" "element" "Ljava/lang/String;" .null := D7 (Or.inr (hw _ (List.mem_of_getElem? (i := 27) rfl))) (ty := (.object "java/lang/String")) (by decide)
  have Fi7_29 : Fld Z h7 b7 "com/example/knooppunt/knooppunt/reader/Source" "id" "Ljava/lang/String;" .null := D7 (Or.inr (hw _ (List.mem_of_getElem? (i := 29) rfl))) (ty := (.object "java/lang/String")) (by decide)
  have Fi7_31 : Fld Z h7 b7 "com/example/knooppunt/knooppunt/reader/Source" "line" "I" (.int (0 : Int32)) := D7 (Or.inr (hw _ (List.mem_of_getElem? (i := 31) rfl))) (ty := .int) (by decide)
  obtain ⟨a8, T8, h8, k8, X8, e8, E8, hS8, hk8, hZ, hown, CL8, Lt8, st8⟩ := ldcOH (s := s) (vm0 := T6.vm) X7 hx hZ hown (hw _ (List.mem_of_getElem? (i := 7) rfl)) wS e7 hS6 (Nat.le_trans (Nat.le_refl _) E7.1) hEL CR7.1 (g := (mkF m 79 #[.val (.int fl), .val (.int pa), .val (.int pb), .val (.int pc), .val (.int pd), .val .null, .val .null, .val v0_3, .val v0_4, .val v0_5, .val v0_6, .unset, .unset, .unset, .unset, .unset, .unset] [(.ref b7), (.ref b7)])) rfl (hb hby at_79) (n := 20) (by decide) (by decide) (by decide) (by decide)
  have hZ8 := hZ
  have hown8 := hown
  have O8 := O7.ext E8
  have K8 : Keep h0 h8 [] := K7.ext E8
  have CR8 := CR7.trans CL8
  obtain ⟨_, _, ⟨T9, L9, k9, n9⟩, -, X9, ⟨Lc9, hQ9, l9, y9, z9⟩, st9⟩ := X8.specialBack hx (y := (⟨"com/example/knooppunt/knooppunt/reader/Source", "<init>", "(Ljava/lang/String;Ljava/lang/String;I)V"⟩ : MethodName)) rfl hown (mvT hZ (hw _ (List.mem_of_getElem? (i := 15) rfl))) (mvT hZ (hw _ (List.mem_of_getElem? (i := 16) rfl))) (mvT hZ (hw _ (List.mem_of_getElem? (i := 17) rfl))) (by decide) (backOf (W := 1) (soI l Z a0 hw [] b7 a8 pd h8 n0 O8 (A7.ext E8) (Fi7_27.ext E8) (Fi7_29.ext E8) (Fi7_31.ext E8) g_b7) hZ (hw _ (List.mem_of_getElem? (i := 17) rfl)) (hw _ (List.mem_of_getElem? (i := 6) rfl)) (by decide) (by decide)) (g := (mkF m 84 #[.val (.int fl), .val (.int pa), .val (.int pb), .val (.int pc), .val (.int pd), .val .null, .val .null, .val v0_3, .val v0_4, .val v0_5, .val v0_6, .unset, .unset, .unset, .unset, .unset, .unset] [(.int pd), .null, (.ref a8), (.ref b7), (.ref b7)])) rfl (by rw [hml]; rfl) (Steps.refl _) (a := b7) (argsL := [(.ref a8), .null, (.int pd)]) (rest := [(.ref b7)]) (lenOf pd_12 rfl) rfl (by show 2 * 0 + _ ≤ _; exact Nat.le_of_eq rfl) (hb hby at_84) (fun _ _ => ⟨rfl, e8, (by decide : 27 + 0 ≤ _), (by decide : 75 + 0 ≤ _)⟩)
  dsimp only [Pt.U, Pt.locs, Pt.cells, Pt.slots] at X9 l9 y9 z9 st9 hQ9
  subst l9 y9 z9
  obtain ⟨rfl, Nq9, kh9, Po9_0⟩ := hQ9
  have N9 := Fr.app N6 Nq9
  have O9 := O8.keep kh9 (allS g_b7 all0)
  have K9 : Keep h0 T9.heap [] := K8.trans kh9 (allS (Or.inr sz_b7) all0)
  have hs9 : ∀ x ∈ ([b7] : List Addr), Safe Z own_EL T8.vm h8 x := (allS (Safe.exa hZ.alike (A7.ext E8) (by decide) (by decide)) all0)
  have CR9 := CR8.trans (CHr.keep kh9 hs9 CR8.1)
  obtain ⟨T10, h10, X10, e10, E10, A10, D10, U10, st10⟩ := newO X9 hx hZ hown (hw _ (List.mem_of_getElem? (i := 32) rfl)) (hw _ (List.mem_of_getElem? (i := 33) rfl)) (hw _ (List.mem_of_getElem? (i := 34) rfl)) rfl (g := (mkF m 89 #[.val (.int fl), .val (.int pa), .val (.int pb), .val (.int pc), .val (.int pd), .val .null, .val .null, .val v0_3, .val v0_4, .val v0_5, .val v0_6, .val (.ref b7), .unset, .unset, .unset, .unset, .unset] [])) rfl (hb hby at_89) (by decide) (by decide)
  obtain ⟨b10, gz10⟩ : ∃ z, z = T9.heap.size := ⟨_, rfl⟩
  rw [← gz10] at A10 D10 U10 st10
  have sz_b10 : h0.size ≤ b10 := Nat.le_trans K9.1 (Nat.le_of_eq gz10.symm)
  have g_b10 : n0 ≤ b10 := Nat.le_trans Z0 sz_b10
  have O10 := O9.ext E10
  have K10 : Keep h0 h10 [] := K9.ext E10
  have CR10 := CR9.trans (CHr.ext E10 CR9.1)
  have Fi10_41 : Fld Z h10 b10 "com/example/knooppunt/knooppunt/model/Reading" "name" "Ljava/lang/String;" .null := D10 (Or.inr (hw _ (List.mem_of_getElem? (i := 41) rfl))) (ty := (.object "java/lang/String")) (by decide)
  have Fi10_43 : Fld Z h10 b10 "com/example/knooppunt/knooppunt/model/Reading" "text" "Ljava/lang/String;" .null := D10 (Or.inr (hw _ (List.mem_of_getElem? (i := 43) rfl))) (ty := (.object "java/lang/String")) (by decide)
  have Fi10_45 : Fld Z h10 b10 "com/example/knooppunt/knooppunt/model/Reading" "value" "Ljava/lang/Object;" .null := D10 (Or.inr (hw _ (List.mem_of_getElem? (i := 45) rfl))) (ty := (.object "java/lang/Object")) (by decide)
  have Fi10_47 : Fld Z h10 b10 "com/example/knooppunt/knooppunt/model/Reading" "problem" "Ljava/lang/String;" .null := D10 (Or.inr (hw _ (List.mem_of_getElem? (i := 47) rfl))) (ty := (.object "java/lang/String")) (by decide)
  obtain ⟨a11, T11, h11, k11, X11, e11, E11, hS11, hk11, hZ, hown, CL11, Lt11, st11⟩ := ldcOH (s := s) (vm0 := T8.vm) X10 hx hZ hown (hw _ (List.mem_of_getElem? (i := 35) rfl)) wS e10 hS8 (Nat.le_trans (Nat.le_trans hk8 kh9.1) E10.1) hEL CR10.1 (g := (mkF m 93 #[.val (.int fl), .val (.int pa), .val (.int pb), .val (.int pc), .val (.int pd), .val .null, .val .null, .val v0_3, .val v0_4, .val v0_5, .val v0_6, .val (.ref b7), .unset, .unset, .unset, .unset, .unset] [(.ref b10), (.ref b10)])) rfl (hb hby at_93) (n := 28) (by decide) (by decide) (by decide) (by decide)
  have hZ11 := hZ
  have hown11 := hown
  have O11 := O10.ext E11
  have K11 : Keep h0 h11 [] := K10.ext E11
  have CR11 := CR10.trans CL11
  obtain ⟨_, _, ⟨T12, L12, k12, n12⟩, -, X12, ⟨Lc12, hQ12, l12, y12, z12⟩, st12⟩ := X11.specialBack hx (y := (⟨"com/example/knooppunt/knooppunt/model/Reading", "<init>", "(Ljava/lang/String;Ljava/lang/String;Ljava/lang/Object;Ljava/lang/String;)V"⟩ : MethodName)) rfl hown (mvT hZ (hw _ (List.mem_of_getElem? (i := 36) rfl))) (mvT hZ (hw _ (List.mem_of_getElem? (i := 37) rfl))) (mvT hZ (hw _ (List.mem_of_getElem? (i := 38) rfl))) (by decide) (backOf (W := 1) (rdI l Z a0 hw [] b10 a11 v0_3 .null v0_5 h11 n0 O11 (A10.ext E11) (Fi10_41.ext E11) (Fi10_43.ext E11) (Fi10_45.ext E11) (Fi10_47.ext E11) g_b10 pq3_0 rfl pq5_0) hZ (hw _ (List.mem_of_getElem? (i := 38) rfl)) (hw _ (List.mem_of_getElem? (i := 34) rfl)) (by decide) (by decide)) (g := (mkF m 101 #[.val (.int fl), .val (.int pa), .val (.int pb), .val (.int pc), .val (.int pd), .val .null, .val .null, .val v0_3, .val v0_4, .val v0_5, .val v0_6, .val (.ref b7), .unset, .unset, .unset, .unset, .unset] [v0_5, .null, v0_3, (.ref a11), (.ref b10), (.ref b10)])) rfl (by rw [hml]; rfl) (Steps.refl _) (a := b10) (argsL := [(.ref a11), v0_3, .null, v0_5]) (rest := [(.ref b10)]) (lenOf pd_13 rfl) rfl (by show 2 * 0 + _ ≤ _; exact Nat.le_of_eq rfl) (hb hby at_101) (fun _ _ => ⟨rfl, e11, (by decide : 30 + 0 ≤ _), (by decide : 111 + 0 ≤ _)⟩)
  dsimp only [Pt.U, Pt.locs, Pt.cells, Pt.slots] at X12 l12 y12 z12 st12 hQ12
  subst l12 y12 z12
  obtain ⟨rfl, Nq12, kh12, Po12_0, Po12_1⟩ := hQ12
  have N12 := Fr.app N9 Nq12
  have O12 := O11.keep kh12 (allS g_b10 all0)
  have K12 : Keep h0 T12.heap [] := K11.trans kh12 (allS (Or.inr sz_b10) all0)
  have hs12 : ∀ x ∈ ([b10] : List Addr), Safe Z own_EL T11.vm h11 x := (allS (Safe.exa hZ.alike (A10.ext E11) (by decide) (by decide)) all0)
  have CR12 := CR11.trans (CHr.keep kh12 hs12 CR11.1)
  obtain ⟨T13, h13, X13, e13, E13, A13, D13, U13, st13⟩ := newO X12 hx hZ hown (hw _ (List.mem_of_getElem? (i := 32) rfl)) (hw _ (List.mem_of_getElem? (i := 33) rfl)) (hw _ (List.mem_of_getElem? (i := 34) rfl)) rfl (g := (mkF m 106 #[.val (.int fl), .val (.int pa), .val (.int pb), .val (.int pc), .val (.int pd), .val .null, .val .null, .val v0_3, .val v0_4, .val v0_5, .val v0_6, .val (.ref b7), .val (.ref b10), .unset, .unset, .unset, .unset] [])) rfl (hb hby at_106) (by decide) (by decide)
  obtain ⟨b13, gz13⟩ : ∃ z, z = T12.heap.size := ⟨_, rfl⟩
  rw [← gz13] at A13 D13 U13 st13
  have sz_b13 : h0.size ≤ b13 := Nat.le_trans K12.1 (Nat.le_of_eq gz13.symm)
  have g_b13 : n0 ≤ b13 := Nat.le_trans Z0 sz_b13
  have O13 := O12.ext E13
  have K13 : Keep h0 h13 [] := K12.ext E13
  have CR13 := CR12.trans (CHr.ext E13 CR12.1)
  have Fi13_41 : Fld Z h13 b13 "com/example/knooppunt/knooppunt/model/Reading" "name" "Ljava/lang/String;" .null := D13 (Or.inr (hw _ (List.mem_of_getElem? (i := 41) rfl))) (ty := (.object "java/lang/String")) (by decide)
  have Fi13_43 : Fld Z h13 b13 "com/example/knooppunt/knooppunt/model/Reading" "text" "Ljava/lang/String;" .null := D13 (Or.inr (hw _ (List.mem_of_getElem? (i := 43) rfl))) (ty := (.object "java/lang/String")) (by decide)
  have Fi13_45 : Fld Z h13 b13 "com/example/knooppunt/knooppunt/model/Reading" "value" "Ljava/lang/Object;" .null := D13 (Or.inr (hw _ (List.mem_of_getElem? (i := 45) rfl))) (ty := (.object "java/lang/Object")) (by decide)
  have Fi13_47 : Fld Z h13 b13 "com/example/knooppunt/knooppunt/model/Reading" "problem" "Ljava/lang/String;" .null := D13 (Or.inr (hw _ (List.mem_of_getElem? (i := 47) rfl))) (ty := (.object "java/lang/String")) (by decide)
  obtain ⟨a14, T14, h14, k14, X14, e14, E14, hS14, hk14, hZ, hown, CL14, Lt14, st14⟩ := ldcOH (s := s) (vm0 := T11.vm) X13 hx hZ hown (hw _ (List.mem_of_getElem? (i := 48) rfl)) wS e13 hS11 (Nat.le_trans (Nat.le_trans hk11 kh12.1) E13.1) hEL CR13.1 (g := (mkF m 110 #[.val (.int fl), .val (.int pa), .val (.int pb), .val (.int pc), .val (.int pd), .val .null, .val .null, .val v0_3, .val v0_4, .val v0_5, .val v0_6, .val (.ref b7), .val (.ref b10), .unset, .unset, .unset, .unset] [(.ref b13), (.ref b13)])) rfl (hb hby at_110) (n := 60) (by decide) (by decide) (by decide) (by decide)
  have hZ14 := hZ
  have hown14 := hown
  have O14 := O13.ext E14
  have K14 : Keep h0 h14 [] := K13.ext E14
  have CR14 := CR13.trans CL14
  obtain ⟨_, _, ⟨T15, L15, k15, n15⟩, -, X15, ⟨Lc15, hQ15, l15, y15, z15⟩, st15⟩ := X14.specialBack hx (y := (⟨"com/example/knooppunt/knooppunt/model/Reading", "<init>", "(Ljava/lang/String;Ljava/lang/String;Ljava/lang/Object;Ljava/lang/String;)V"⟩ : MethodName)) rfl hown (mvT hZ (hw _ (List.mem_of_getElem? (i := 36) rfl))) (mvT hZ (hw _ (List.mem_of_getElem? (i := 37) rfl))) (mvT hZ (hw _ (List.mem_of_getElem? (i := 38) rfl))) (by decide) (backOf (W := 1) (rdI l Z a0 hw [] b13 a14 v0_4 .null v0_6 h14 n0 O14 (A13.ext E14) (Fi13_41.ext E14) (Fi13_43.ext E14) (Fi13_45.ext E14) (Fi13_47.ext E14) g_b13 pq4_0 rfl pq6_0) hZ (hw _ (List.mem_of_getElem? (i := 38) rfl)) (hw _ (List.mem_of_getElem? (i := 34) rfl)) (by decide) (by decide)) (g := (mkF m 118 #[.val (.int fl), .val (.int pa), .val (.int pb), .val (.int pc), .val (.int pd), .val .null, .val .null, .val v0_3, .val v0_4, .val v0_5, .val v0_6, .val (.ref b7), .val (.ref b10), .unset, .unset, .unset, .unset] [v0_6, .null, v0_4, (.ref a14), (.ref b13), (.ref b13)])) rfl (by rw [hml]; rfl) (Steps.refl _) (a := b13) (argsL := [(.ref a14), v0_4, .null, v0_6]) (rest := [(.ref b13)]) (lenOf pd_13 rfl) rfl (by show 2 * 0 + _ ≤ _; exact Nat.le_of_eq rfl) (hb hby at_118) (fun _ _ => ⟨rfl, e14, (by decide : 33 + 0 ≤ _), (by decide : 179 + 0 ≤ _)⟩)
  dsimp only [Pt.U, Pt.locs, Pt.cells, Pt.slots] at X15 l15 y15 z15 st15 hQ15
  subst l15 y15 z15
  obtain ⟨rfl, Nq15, kh15, Po15_0, Po15_1⟩ := hQ15
  have N15 := Fr.app N12 Nq15
  have O15 := O14.keep kh15 (allS g_b13 all0)
  have K15 : Keep h0 T15.heap [] := K14.trans kh15 (allS (Or.inr sz_b13) all0)
  have hs15 : ∀ x ∈ ([b13] : List Addr), Safe Z own_EL T14.vm h14 x := (allS (Safe.exa hZ.alike (A13.ext E14) (by decide) (by decide)) all0)
  have CR15 := CR14.trans (CHr.keep kh15 hs15 CR14.1)
  obtain ⟨T16, h16, X16, e16, E16, A16, D16, U16, st16⟩ := newO X15 hx hZ hown (hw _ (List.mem_of_getElem? (i := 49) rfl)) (hw _ (List.mem_of_getElem? (i := 50) rfl)) (hw _ (List.mem_of_getElem? (i := 51) rfl)) rfl (g := (mkF m 123 #[.val (.int fl), .val (.int pa), .val (.int pb), .val (.int pc), .val (.int pd), .val .null, .val .null, .val v0_3, .val v0_4, .val v0_5, .val v0_6, .val (.ref b7), .val (.ref b10), .val (.ref b13), .unset, .unset, .unset] [])) rfl (hb hby at_123) (by decide) (by decide)
  obtain ⟨b16, gz16⟩ : ∃ z, z = T15.heap.size := ⟨_, rfl⟩
  rw [← gz16] at A16 D16 U16 st16
  have sz_b16 : h0.size ≤ b16 := Nat.le_trans K15.1 (Nat.le_of_eq gz16.symm)
  have g_b16 : n0 ≤ b16 := Nat.le_trans Z0 sz_b16
  have O16 := O15.ext E16
  have K16 : Keep h0 h16 [] := K15.ext E16
  have CR16 := CR15.trans (CHr.ext E16 CR15.1)
  have Fi16_57 : Fld Z h16 b16 "com/example/knooppunt/knooppunt/reader/TimetableElements$Route" "source" "Lcom/example/knooppunt/knooppunt/reader/Source;" .null := D16 (Or.inr (hw _ (List.mem_of_getElem? (i := 57) rfl))) (ty := (.object "com/example/knooppunt/knooppunt/reader/Source")) (by decide)
  have Fi16_59 : Fld Z h16 b16 "com/example/knooppunt/knooppunt/reader/TimetableElements$Route" "lineRef" "Lcom/example/knooppunt/knooppunt/model/Reading;" .null := D16 (Or.inr (hw _ (List.mem_of_getElem? (i := 59) rfl))) (ty := (.object "com/example/knooppunt/knooppunt/model/Reading")) (by decide)
  have Fi16_61 : Fld Z h16 b16 "com/example/knooppunt/knooppunt/reader/TimetableElements$Route" "flexibleLineRef" "Lcom/example/knooppunt/knooppunt/model/Reading;" .null := D16 (Or.inr (hw _ (List.mem_of_getElem? (i := 61) rfl))) (ty := (.object "com/example/knooppunt/knooppunt/model/Reading")) (by decide)
  obtain ⟨_, _, ⟨T17, L17, k17, n17⟩, -, X17, ⟨Lc17, hQ17, l17, y17, z17⟩, st17⟩ := X16.specialBack hx (y := (⟨"com/example/knooppunt/knooppunt/reader/TimetableElements$Route", "<init>", "(Lcom/example/knooppunt/knooppunt/reader/Source;Lcom/example/knooppunt/knooppunt/model/Reading;Lcom/example/knooppunt/knooppunt/model/Reading;)V"⟩ : MethodName)) rfl hown (mvT hZ (hw _ (List.mem_of_getElem? (i := 52) rfl))) (mvT hZ (hw _ (List.mem_of_getElem? (i := 53) rfl))) (mvT hZ (hw _ (List.mem_of_getElem? (i := 54) rfl))) (by decide) (backOf (W := 1) (rtI l Z a0 hw [] b16 b7 b10 b13 h16 n0 O16 A16 Fi16_57 Fi16_59 Fi16_61 g_b16) hZ (hw _ (List.mem_of_getElem? (i := 54) rfl)) (hw _ (List.mem_of_getElem? (i := 51) rfl)) (by decide) (by decide)) (g := (mkF m 133 #[.val (.int fl), .val (.int pa), .val (.int pb), .val (.int pc), .val (.int pd), .val .null, .val .null, .val v0_3, .val v0_4, .val v0_5, .val v0_6, .val (.ref b7), .val (.ref b10), .val (.ref b13), .unset, .unset, .unset] [(.ref b13), (.ref b10), (.ref b7), (.ref b16), (.ref b16)])) rfl (by rw [hml]; rfl) (Steps.refl _) (a := b16) (argsL := [(.ref b7), (.ref b10), (.ref b13)]) (rest := [(.ref b16)]) (lenOf pd_14 rfl) rfl (by show 2 * 0 + _ ≤ _; exact Nat.le_of_eq rfl) (hb hby at_133) (fun _ _ => ⟨rfl, e16, (by decide : 34 + 0 ≤ _), (by decide : 182 + 0 ≤ _)⟩)
  dsimp only [Pt.U, Pt.locs, Pt.cells, Pt.slots] at X17 l17 y17 z17 st17 hQ17
  subst l17 y17 z17
  obtain ⟨rfl, Nq17, kh17, Po17_0, Po17_1, Po17_2⟩ := hQ17
  have N17 := Fr.app N15 Nq17
  have O17 := O16.keep kh17 (allS g_b16 all0)
  have K17 : Keep h0 T17.heap [] := K16.trans kh17 (allS (Or.inr sz_b16) all0)
  have hs17 : ∀ x ∈ ([b16] : List Addr), Safe Z own_EL T14.vm h16 x := (allS (Safe.exa hZ.alike A16 (by decide) (by decide)) all0)
  have CR17 := CR16.trans (CHr.keep kh17 hs17 CR16.1)
  have c18 : Fld Z T17.heap b10 "com/example/knooppunt/knooppunt/model/Reading" "value" "Ljava/lang/Object;" .null := (((((Po12_1.ext E13).ext E14).keep kh15 (ninS (Nat.ne_of_lt (Nat.lt_of_lt_of_le (Po12_0).lt (Nat.le_of_eq gz13.symm))) nin0)).ext E16).keep kh17 (ninS (Nat.ne_of_lt (Nat.lt_of_lt_of_le ((((Po12_0.ext E13).ext E14).keep kh15)).lt (Nat.le_of_eq gz16.symm))) nin0))
  have c19 : Fld Z T17.heap b13 "com/example/knooppunt/knooppunt/model/Reading" "value" "Ljava/lang/Object;" .null := ((Po15_1.ext E16).keep kh17 (ninS (Nat.ne_of_lt (Nat.lt_of_lt_of_le (Po15_0).lt (Nat.le_of_eq gz16.symm))) nin0))
  obtain ⟨cq20, kq20, q20a, q20b, q20c⟩ := isOf hZ rfl Po17_0
  obtain ⟨_, _, ⟨T20, L20, k20, n20⟩, -, X20, ⟨Lc20, hQ20, l20, y20, z20⟩, st20⟩ := X17.virtualBack hx (y := (⟨"com/example/knooppunt/knooppunt/reader/TimetableElements$Route", "line", "()Ljava/lang/String;"⟩ : MethodName)) (z := (⟨"com/example/knooppunt/knooppunt/reader/TimetableElements$Route", "line", "()Ljava/lang/String;"⟩ : MethodName)) hown (mvT hZ (hw _ (List.mem_of_getElem? (i := 62) rfl))) (mvT hZ (hw _ (List.mem_of_getElem? (i := 63) rfl))) (notFace_of_selects (args := #[]) (mvT hZ (hw _ (List.mem_of_getElem? (i := 65) rfl)))) (mvT hZ (hw _ (List.mem_of_getElem? (i := 65) rfl))) (mvT hZ (hw _ (List.mem_of_getElem? (i := 64) rfl))) (by decide) (backOf (W := 0) (lineNN l Z a0 hw [] b16 b10 b13 T17.heap n0 O17 Po17_1 (((((Po12_0.ext E13).ext E14).keep kh15).ext E16).keep kh17) c18 Po17_2 ((Po15_0.ext E16).keep kh17) c19) hZ (hw _ (List.mem_of_getElem? (i := 66) rfl)) (hw _ (List.mem_of_getElem? (i := 51) rfl)) (by decide) (by decide)) q20a q20c (g := (mkF m 140 #[.val (.int fl), .val (.int pa), .val (.int pb), .val (.int pc), .val (.int pd), .val .null, .val .null, .val v0_3, .val v0_4, .val v0_5, .val v0_6, .val (.ref b7), .val (.ref b10), .val (.ref b13), .val (.ref b16), .unset, .unset] [(.ref b16)])) rfl (by rw [hml]; rfl) (Steps.refl _) (argsL := []) (rest := []) (lenOf pd_15 rfl) rfl (by show 2 * 0 + _ ≤ _; exact Nat.le_of_eq rfl) (hb hby at_140) (fun _ _ => ⟨rfl, rfl, (by decide : 34 + 0 ≤ _), (by decide : 182 + 0 ≤ _)⟩)
  dsimp only [Pt.U, Pt.locs, Pt.cells, Pt.slots] at X20 l20 y20 z20 st20 hQ20
  subst l20 y20 z20
  obtain ⟨rfl, Nq20, kh20⟩ := hQ20
  have N20 := Fr.app N17 Nq20
  obtain ⟨fs, hr, hrun, hended, hRW⟩ := X20.leaveW (s := s) hS14 (own_hk kh20 (Nat.le_trans (Nat.le_trans (Nat.le_trans hk14 kh15.1) E16.1) kh17.1)) (v := some (.int (1 : Int32))) (fun h => by rw [Bd.returns] at h; cases h)
  have CE := CR17.trans (CHv.at (s := s) (vm0 := T14.vm) X20 hZ hEL CR17.1)
  refine ⟨_, _, pre0 _ ?_, hrun, hended, _, _, rfl, ?_, ?_, own_rw_mono hRW (by decide) (by decide)⟩
  · show Steps p.tables e below (s₁.setTop (mkF m 0 #[.val (.int fl), .val (.int pa), .val (.int pb), .val (.int pc), .val (.int pd), .unset, .unset, .unset, .unset, .unset, .unset, .unset, .unset, .unset, .unset, .unset, .unset] [])) _
    refine XS.iloadN X0.here hx rfl (hb hby at_0) rfl ?_
    show Steps p.tables e below (s₁.setTop (mkF m 1 #[.val (.int fl), .val (.int pa), .val (.int pb), .val (.int pc), .val (.int pd), .unset, .unset, .unset, .unset, .unset, .unset, .unset, .unset, .unset, .unset, .unset, .unset] [(.int fl)])) _
    refine XS.iconst X0.here hx rfl (hb hby at_1) ?_
    show Steps p.tables e below (s₁.setTop (mkF m 2 #[.val (.int fl), .val (.int pa), .val (.int pb), .val (.int pc), .val (.int pd), .unset, .unset, .unset, .unset, .unset, .unset, .unset, .unset, .unset, .unset, .unset, .unset] [(.int (3 : Int32)), (.int fl)])) _
    refine XS.iand X0.here hx rfl (hb hby at_2) rfl ?_
    show Steps p.tables e below (s₁.setTop (mkF m 3 #[.val (.int fl), .val (.int pa), .val (.int pb), .val (.int pc), .val (.int pd), .unset, .unset, .unset, .unset, .unset, .unset, .unset, .unset, .unset, .unset, .unset, .unset] [(.int (fl &&& (3 : Int32)))])) _
    refine castTop (congrArg (fun z_ => (mkF m 3 #[.val (.int fl), .val (.int pa), .val (.int pb), .val (.int pc), .val (.int pd), .unset, .unset, .unset, .unset, .unset, .unset, .unset, .unset, .unset, .unset, .unset, .unset] [(.int z_)])) (hk1 : (fl &&& (3 : Int32)) = (0 : Int32))) ?_
    show Steps p.tables e below (s₁.setTop (mkF m 3 #[.val (.int fl), .val (.int pa), .val (.int pb), .val (.int pc), .val (.int pd), .unset, .unset, .unset, .unset, .unset, .unset, .unset, .unset, .unset, .unset, .unset, .unset] [(.int (0 : Int32))])) _
    refine XS.iloadN X0.here hx rfl (hb hby at_3) rfl ?_
    show Steps p.tables e below (s₁.setTop (mkF m 4 #[.val (.int fl), .val (.int pa), .val (.int pb), .val (.int pc), .val (.int pd), .unset, .unset, .unset, .unset, .unset, .unset, .unset, .unset, .unset, .unset, .unset, .unset] [(.int pa), (.int (0 : Int32))])) _
    refine st1 _ ?_
    show Steps p.tables e below (T1.setTop (mkF m 7 #[.val (.int fl), .val (.int pa), .val (.int pb), .val (.int pc), .val (.int pd), .unset, .unset, .unset, .unset, .unset, .unset, .unset, .unset, .unset, .unset, .unset, .unset] [.null])) _
    refine XS.astore X1.here hx rfl (hb hby at_7) rfl rfl (l' := #[.val (.int fl), .val (.int pa), .val (.int pb), .val (.int pc), .val (.int pd), .val .null, .unset, .unset, .unset, .unset, .unset, .unset, .unset, .unset, .unset, .unset, .unset]) rfl ?_
    show Steps p.tables e below (T1.setTop (mkF m 9 #[.val (.int fl), .val (.int pa), .val (.int pb), .val (.int pc), .val (.int pd), .val .null, .unset, .unset, .unset, .unset, .unset, .unset, .unset, .unset, .unset, .unset, .unset] [])) _
    refine XS.iloadN X1.here hx rfl (hb hby at_9) rfl ?_
    show Steps p.tables e below (T1.setTop (mkF m 10 #[.val (.int fl), .val (.int pa), .val (.int pb), .val (.int pc), .val (.int pd), .val .null, .unset, .unset, .unset, .unset, .unset, .unset, .unset, .unset, .unset, .unset, .unset] [(.int fl)])) _
    refine XS.iconst X1.here hx rfl (hb hby at_10) ?_
    show Steps p.tables e below (T1.setTop (mkF m 11 #[.val (.int fl), .val (.int pa), .val (.int pb), .val (.int pc), .val (.int pd), .val .null, .unset, .unset, .unset, .unset, .unset, .unset, .unset, .unset, .unset, .unset, .unset] [(.int (2 : Int32)), (.int fl)])) _
    refine XS.iushr X1.here hx rfl (hb hby at_11) rfl ?_
    show Steps p.tables e below (T1.setTop (mkF m 12 #[.val (.int fl), .val (.int pa), .val (.int pb), .val (.int pc), .val (.int pd), .val .null, .unset, .unset, .unset, .unset, .unset, .unset, .unset, .unset, .unset, .unset, .unset] [(.int ((fl.toUInt32 >>> ((2 : Int32) &&& 31).toUInt32).toInt32))])) _
    refine XS.iconst X1.here hx rfl (hb hby at_12) ?_
    show Steps p.tables e below (T1.setTop (mkF m 13 #[.val (.int fl), .val (.int pa), .val (.int pb), .val (.int pc), .val (.int pd), .val .null, .unset, .unset, .unset, .unset, .unset, .unset, .unset, .unset, .unset, .unset, .unset] [(.int (3 : Int32)), (.int ((fl.toUInt32 >>> ((2 : Int32) &&& 31).toUInt32).toInt32))])) _
    refine XS.iand X1.here hx rfl (hb hby at_13) rfl ?_
    show Steps p.tables e below (T1.setTop (mkF m 14 #[.val (.int fl), .val (.int pa), .val (.int pb), .val (.int pc), .val (.int pd), .val .null, .unset, .unset, .unset, .unset, .unset, .unset, .unset, .unset, .unset, .unset, .unset] [(.int (((fl.toUInt32 >>> ((2 : Int32) &&& 31).toUInt32).toInt32) &&& (3 : Int32)))])) _
    refine castTop (congrArg (fun z_ => (mkF m 14 #[.val (.int fl), .val (.int pa), .val (.int pb), .val (.int pc), .val (.int pd), .val .null, .unset, .unset, .unset, .unset, .unset, .unset, .unset, .unset, .unset, .unset, .unset] [(.int z_)])) (hk2 : (((fl.toUInt32 >>> ((2 : Int32) &&& 31).toUInt32).toInt32) &&& (3 : Int32)) = (0 : Int32))) ?_
    show Steps p.tables e below (T1.setTop (mkF m 14 #[.val (.int fl), .val (.int pa), .val (.int pb), .val (.int pc), .val (.int pd), .val .null, .unset, .unset, .unset, .unset, .unset, .unset, .unset, .unset, .unset, .unset, .unset] [(.int (0 : Int32))])) _
    refine XS.iloadN X1.here hx rfl (hb hby at_14) rfl ?_
    show Steps p.tables e below (T1.setTop (mkF m 15 #[.val (.int fl), .val (.int pa), .val (.int pb), .val (.int pc), .val (.int pd), .val .null, .unset, .unset, .unset, .unset, .unset, .unset, .unset, .unset, .unset, .unset, .unset] [(.int pb), (.int (0 : Int32))])) _
    refine st2 _ ?_
    show Steps p.tables e below (T2.setTop (mkF m 18 #[.val (.int fl), .val (.int pa), .val (.int pb), .val (.int pc), .val (.int pd), .val .null, .unset, .unset, .unset, .unset, .unset, .unset, .unset, .unset, .unset, .unset, .unset] [.null])) _
    refine XS.astore X2.here hx rfl (hb hby at_18) rfl rfl (l' := #[.val (.int fl), .val (.int pa), .val (.int pb), .val (.int pc), .val (.int pd), .val .null, .val .null, .unset, .unset, .unset, .unset, .unset, .unset, .unset, .unset, .unset, .unset]) rfl ?_
    show Steps p.tables e below (T2.setTop (mkF m 20 #[.val (.int fl), .val (.int pa), .val (.int pb), .val (.int pc), .val (.int pd), .val .null, .val .null, .unset, .unset, .unset, .unset, .unset, .unset, .unset, .unset, .unset, .unset] [])) _
    refine XS.iloadN X2.here hx rfl (hb hby at_20) rfl ?_
    show Steps p.tables e below (T2.setTop (mkF m 21 #[.val (.int fl), .val (.int pa), .val (.int pb), .val (.int pc), .val (.int pd), .val .null, .val .null, .unset, .unset, .unset, .unset, .unset, .unset, .unset, .unset, .unset, .unset] [(.int fl)])) _
    refine XS.iconst X2.here hx rfl (hb hby at_21) ?_
    show Steps p.tables e below (T2.setTop (mkF m 22 #[.val (.int fl), .val (.int pa), .val (.int pb), .val (.int pc), .val (.int pd), .val .null, .val .null, .unset, .unset, .unset, .unset, .unset, .unset, .unset, .unset, .unset, .unset] [(.int (4 : Int32)), (.int fl)])) _
    refine XS.iushr X2.here hx rfl (hb hby at_22) rfl ?_
    show Steps p.tables e below (T2.setTop (mkF m 23 #[.val (.int fl), .val (.int pa), .val (.int pb), .val (.int pc), .val (.int pd), .val .null, .val .null, .unset, .unset, .unset, .unset, .unset, .unset, .unset, .unset, .unset, .unset] [(.int ((fl.toUInt32 >>> ((4 : Int32) &&& 31).toUInt32).toInt32))])) _
    refine XS.iconst X2.here hx rfl (hb hby at_23) ?_
    show Steps p.tables e below (T2.setTop (mkF m 24 #[.val (.int fl), .val (.int pa), .val (.int pb), .val (.int pc), .val (.int pd), .val .null, .val .null, .unset, .unset, .unset, .unset, .unset, .unset, .unset, .unset, .unset, .unset] [(.int (3 : Int32)), (.int ((fl.toUInt32 >>> ((4 : Int32) &&& 31).toUInt32).toInt32))])) _
    refine XS.iand X2.here hx rfl (hb hby at_24) rfl ?_
    show Steps p.tables e below (T2.setTop (mkF m 25 #[.val (.int fl), .val (.int pa), .val (.int pb), .val (.int pc), .val (.int pd), .val .null, .val .null, .unset, .unset, .unset, .unset, .unset, .unset, .unset, .unset, .unset, .unset] [(.int (((fl.toUInt32 >>> ((4 : Int32) &&& 31).toUInt32).toInt32) &&& (3 : Int32)))])) _
    refine XS.iloadN X2.here hx rfl (hb hby at_25) rfl ?_
    show Steps p.tables e below (T2.setTop (mkF m 26 #[.val (.int fl), .val (.int pa), .val (.int pb), .val (.int pc), .val (.int pd), .val .null, .val .null, .unset, .unset, .unset, .unset, .unset, .unset, .unset, .unset, .unset, .unset] [(.int pc), (.int (((fl.toUInt32 >>> ((4 : Int32) &&& 31).toUInt32).toInt32) &&& (3 : Int32)))])) _
    refine st3.trans ?_
    show Steps p.tables e below (T3.setTop (mkF m 29 #[.val (.int fl), .val (.int pa), .val (.int pb), .val (.int pc), .val (.int pd), .val .null, .val .null, .unset, .unset, .unset, .unset, .unset, .unset, .unset, .unset, .unset, .unset] [v0_3])) _
    refine XS.astore X3.here hx rfl (hb hby at_29) rfl pq3_0 (l' := #[.val (.int fl), .val (.int pa), .val (.int pb), .val (.int pc), .val (.int pd), .val .null, .val .null, .val v0_3, .unset, .unset, .unset, .unset, .unset, .unset, .unset, .unset, .unset]) (XS.store1 (o := .unset) rfl (Or.inl rfl) (own_cat pq3_0)) ?_
    show Steps p.tables e below (T3.setTop (mkF m 31 #[.val (.int fl), .val (.int pa), .val (.int pb), .val (.int pc), .val (.int pd), .val .null, .val .null, .val v0_3, .unset, .unset, .unset, .unset, .unset, .unset, .unset, .unset, .unset] [])) _
    refine XS.iloadN X3.here hx rfl (hb hby at_31) rfl ?_
    show Steps p.tables e below (T3.setTop (mkF m 32 #[.val (.int fl), .val (.int pa), .val (.int pb), .val (.int pc), .val (.int pd), .val .null, .val .null, .val v0_3, .unset, .unset, .unset, .unset, .unset, .unset, .unset, .unset, .unset] [(.int fl)])) _
    refine XS.bipush X3.here hx rfl (hb hby at_32) ?_
    show Steps p.tables e below (T3.setTop (mkF m 34 #[.val (.int fl), .val (.int pa), .val (.int pb), .val (.int pc), .val (.int pd), .val .null, .val .null, .val v0_3, .unset, .unset, .unset, .unset, .unset, .unset, .unset, .unset, .unset] [(.int (6 : Int32)), (.int fl)])) _
    refine XS.iushr X3.here hx rfl (hb hby at_34) rfl ?_
    show Steps p.tables e below (T3.setTop (mkF m 35 #[.val (.int fl), .val (.int pa), .val (.int pb), .val (.int pc), .val (.int pd), .val .null, .val .null, .val v0_3, .unset, .unset, .unset, .unset, .unset, .unset, .unset, .unset, .unset] [(.int ((fl.toUInt32 >>> ((6 : Int32) &&& 31).toUInt32).toInt32))])) _
    refine XS.iconst X3.here hx rfl (hb hby at_35) ?_
    show Steps p.tables e below (T3.setTop (mkF m 36 #[.val (.int fl), .val (.int pa), .val (.int pb), .val (.int pc), .val (.int pd), .val .null, .val .null, .val v0_3, .unset, .unset, .unset, .unset, .unset, .unset, .unset, .unset, .unset] [(.int (3 : Int32)), (.int ((fl.toUInt32 >>> ((6 : Int32) &&& 31).toUInt32).toInt32))])) _
    refine XS.iand X3.here hx rfl (hb hby at_36) rfl ?_
    show Steps p.tables e below (T3.setTop (mkF m 37 #[.val (.int fl), .val (.int pa), .val (.int pb), .val (.int pc), .val (.int pd), .val .null, .val .null, .val v0_3, .unset, .unset, .unset, .unset, .unset, .unset, .unset, .unset, .unset] [(.int (((fl.toUInt32 >>> ((6 : Int32) &&& 31).toUInt32).toInt32) &&& (3 : Int32)))])) _
    refine XS.iloadN X3.here hx rfl (hb hby at_37) rfl ?_
    show Steps p.tables e below (T3.setTop (mkF m 38 #[.val (.int fl), .val (.int pa), .val (.int pb), .val (.int pc), .val (.int pd), .val .null, .val .null, .val v0_3, .unset, .unset, .unset, .unset, .unset, .unset, .unset, .unset, .unset] [(.int pc), (.int (((fl.toUInt32 >>> ((6 : Int32) &&& 31).toUInt32).toInt32) &&& (3 : Int32)))])) _
    refine XS.bipush X3.here hx rfl (hb hby at_38) ?_
    show Steps p.tables e below (T3.setTop (mkF m 40 #[.val (.int fl), .val (.int pa), .val (.int pb), .val (.int pc), .val (.int pd), .val .null, .val .null, .val v0_3, .unset, .unset, .unset, .unset, .unset, .unset, .unset, .unset, .unset] [(.int (16 : Int32)), (.int pc), (.int (((fl.toUInt32 >>> ((6 : Int32) &&& 31).toUInt32).toInt32) &&& (3 : Int32)))])) _
    refine XS.iushr X3.here hx rfl (hb hby at_40) rfl ?_
    show Steps p.tables e below (T3.setTop (mkF m 41 #[.val (.int fl), .val (.int pa), .val (.int pb), .val (.int pc), .val (.int pd), .val .null, .val .null, .val v0_3, .unset, .unset, .unset, .unset, .unset, .unset, .unset, .unset, .unset] [(.int ((pc.toUInt32 >>> ((16 : Int32) &&& 31).toUInt32).toInt32)), (.int (((fl.toUInt32 >>> ((6 : Int32) &&& 31).toUInt32).toInt32) &&& (3 : Int32)))])) _
    refine st4.trans ?_
    show Steps p.tables e below (T4.setTop (mkF m 44 #[.val (.int fl), .val (.int pa), .val (.int pb), .val (.int pc), .val (.int pd), .val .null, .val .null, .val v0_3, .unset, .unset, .unset, .unset, .unset, .unset, .unset, .unset, .unset] [v0_4])) _
    refine XS.astore X4.here hx rfl (hb hby at_44) rfl pq4_0 (l' := #[.val (.int fl), .val (.int pa), .val (.int pb), .val (.int pc), .val (.int pd), .val .null, .val .null, .val v0_3, .val v0_4, .unset, .unset, .unset, .unset, .unset, .unset, .unset, .unset]) (XS.store1 (o := .unset) rfl (Or.inl rfl) (own_cat pq4_0)) ?_
    show Steps p.tables e below (T4.setTop (mkF m 46 #[.val (.int fl), .val (.int pa), .val (.int pb), .val (.int pc), .val (.int pd), .val .null, .val .null, .val v0_3, .val v0_4, .unset, .unset, .unset, .unset, .unset, .unset, .unset, .unset] [])) _
    refine XS.iloadN X4.here hx rfl (hb hby at_46) rfl ?_
    show Steps p.tables e below (T4.setTop (mkF m 47 #[.val (.int fl), .val (.int pa), .val (.int pb), .val (.int pc), .val (.int pd), .val .null, .val .null, .val v0_3, .val v0_4, .unset, .unset, .unset, .unset, .unset, .unset, .unset, .unset] [(.int fl)])) _
    refine XS.bipush X4.here hx rfl (hb hby at_47) ?_
    show Steps p.tables e below (T4.setTop (mkF m 49 #[.val (.int fl), .val (.int pa), .val (.int pb), .val (.int pc), .val (.int pd), .val .null, .val .null, .val v0_3, .val v0_4, .unset, .unset, .unset, .unset, .unset, .unset, .unset, .unset] [(.int (8 : Int32)), (.int fl)])) _
    refine XS.iushr X4.here hx rfl (hb hby at_49) rfl ?_
    show Steps p.tables e below (T4.setTop (mkF m 50 #[.val (.int fl), .val (.int pa), .val (.int pb), .val (.int pc), .val (.int pd), .val .null, .val .null, .val v0_3, .val v0_4, .unset, .unset, .unset, .unset, .unset, .unset, .unset, .unset] [(.int ((fl.toUInt32 >>> ((8 : Int32) &&& 31).toUInt32).toInt32))])) _
    refine XS.iconst X4.here hx rfl (hb hby at_50) ?_
    show Steps p.tables e below (T4.setTop (mkF m 51 #[.val (.int fl), .val (.int pa), .val (.int pb), .val (.int pc), .val (.int pd), .val .null, .val .null, .val v0_3, .val v0_4, .unset, .unset, .unset, .unset, .unset, .unset, .unset, .unset] [(.int (3 : Int32)), (.int ((fl.toUInt32 >>> ((8 : Int32) &&& 31).toUInt32).toInt32))])) _
    refine XS.iand X4.here hx rfl (hb hby at_51) rfl ?_
    show Steps p.tables e below (T4.setTop (mkF m 52 #[.val (.int fl), .val (.int pa), .val (.int pb), .val (.int pc), .val (.int pd), .val .null, .val .null, .val v0_3, .val v0_4, .unset, .unset, .unset, .unset, .unset, .unset, .unset, .unset] [(.int (((fl.toUInt32 >>> ((8 : Int32) &&& 31).toUInt32).toInt32) &&& (3 : Int32)))])) _
    refine XS.iload X4.here hx rfl (hb hby at_52) rfl ?_
    show Steps p.tables e below (T4.setTop (mkF m 54 #[.val (.int fl), .val (.int pa), .val (.int pb), .val (.int pc), .val (.int pd), .val .null, .val .null, .val v0_3, .val v0_4, .unset, .unset, .unset, .unset, .unset, .unset, .unset, .unset] [(.int pd), (.int (((fl.toUInt32 >>> ((8 : Int32) &&& 31).toUInt32).toInt32) &&& (3 : Int32)))])) _
    refine st5.trans ?_
    show Steps p.tables e below (T5.setTop (mkF m 57 #[.val (.int fl), .val (.int pa), .val (.int pb), .val (.int pc), .val (.int pd), .val .null, .val .null, .val v0_3, .val v0_4, .unset, .unset, .unset, .unset, .unset, .unset, .unset, .unset] [v0_5])) _
    refine XS.astore X5.here hx rfl (hb hby at_57) rfl pq5_0 (l' := #[.val (.int fl), .val (.int pa), .val (.int pb), .val (.int pc), .val (.int pd), .val .null, .val .null, .val v0_3, .val v0_4, .val v0_5, .unset, .unset, .unset, .unset, .unset, .unset, .unset]) (XS.store1 (o := .unset) rfl (Or.inl rfl) (own_cat pq5_0)) ?_
    show Steps p.tables e below (T5.setTop (mkF m 59 #[.val (.int fl), .val (.int pa), .val (.int pb), .val (.int pc), .val (.int pd), .val .null, .val .null, .val v0_3, .val v0_4, .val v0_5, .unset, .unset, .unset, .unset, .unset, .unset, .unset] [])) _
    refine XS.iloadN X5.here hx rfl (hb hby at_59) rfl ?_
    show Steps p.tables e below (T5.setTop (mkF m 60 #[.val (.int fl), .val (.int pa), .val (.int pb), .val (.int pc), .val (.int pd), .val .null, .val .null, .val v0_3, .val v0_4, .val v0_5, .unset, .unset, .unset, .unset, .unset, .unset, .unset] [(.int fl)])) _
    refine XS.bipush X5.here hx rfl (hb hby at_60) ?_
    show Steps p.tables e below (T5.setTop (mkF m 62 #[.val (.int fl), .val (.int pa), .val (.int pb), .val (.int pc), .val (.int pd), .val .null, .val .null, .val v0_3, .val v0_4, .val v0_5, .unset, .unset, .unset, .unset, .unset, .unset, .unset] [(.int (10 : Int32)), (.int fl)])) _
    refine XS.iushr X5.here hx rfl (hb hby at_62) rfl ?_
    show Steps p.tables e below (T5.setTop (mkF m 63 #[.val (.int fl), .val (.int pa), .val (.int pb), .val (.int pc), .val (.int pd), .val .null, .val .null, .val v0_3, .val v0_4, .val v0_5, .unset, .unset, .unset, .unset, .unset, .unset, .unset] [(.int ((fl.toUInt32 >>> ((10 : Int32) &&& 31).toUInt32).toInt32))])) _
    refine XS.iconst X5.here hx rfl (hb hby at_63) ?_
    show Steps p.tables e below (T5.setTop (mkF m 64 #[.val (.int fl), .val (.int pa), .val (.int pb), .val (.int pc), .val (.int pd), .val .null, .val .null, .val v0_3, .val v0_4, .val v0_5, .unset, .unset, .unset, .unset, .unset, .unset, .unset] [(.int (3 : Int32)), (.int ((fl.toUInt32 >>> ((10 : Int32) &&& 31).toUInt32).toInt32))])) _
    refine XS.iand X5.here hx rfl (hb hby at_64) rfl ?_
    show Steps p.tables e below (T5.setTop (mkF m 65 #[.val (.int fl), .val (.int pa), .val (.int pb), .val (.int pc), .val (.int pd), .val .null, .val .null, .val v0_3, .val v0_4, .val v0_5, .unset, .unset, .unset, .unset, .unset, .unset, .unset] [(.int (((fl.toUInt32 >>> ((10 : Int32) &&& 31).toUInt32).toInt32) &&& (3 : Int32)))])) _
    refine XS.iload X5.here hx rfl (hb hby at_65) rfl ?_
    show Steps p.tables e below (T5.setTop (mkF m 67 #[.val (.int fl), .val (.int pa), .val (.int pb), .val (.int pc), .val (.int pd), .val .null, .val .null, .val v0_3, .val v0_4, .val v0_5, .unset, .unset, .unset, .unset, .unset, .unset, .unset] [(.int pd), (.int (((fl.toUInt32 >>> ((10 : Int32) &&& 31).toUInt32).toInt32) &&& (3 : Int32)))])) _
    refine XS.bipush X5.here hx rfl (hb hby at_67) ?_
    show Steps p.tables e below (T5.setTop (mkF m 69 #[.val (.int fl), .val (.int pa), .val (.int pb), .val (.int pc), .val (.int pd), .val .null, .val .null, .val v0_3, .val v0_4, .val v0_5, .unset, .unset, .unset, .unset, .unset, .unset, .unset] [(.int (16 : Int32)), (.int pd), (.int (((fl.toUInt32 >>> ((10 : Int32) &&& 31).toUInt32).toInt32) &&& (3 : Int32)))])) _
    refine XS.iushr X5.here hx rfl (hb hby at_69) rfl ?_
    show Steps p.tables e below (T5.setTop (mkF m 70 #[.val (.int fl), .val (.int pa), .val (.int pb), .val (.int pc), .val (.int pd), .val .null, .val .null, .val v0_3, .val v0_4, .val v0_5, .unset, .unset, .unset, .unset, .unset, .unset, .unset] [(.int ((pd.toUInt32 >>> ((16 : Int32) &&& 31).toUInt32).toInt32)), (.int (((fl.toUInt32 >>> ((10 : Int32) &&& 31).toUInt32).toInt32) &&& (3 : Int32)))])) _
    refine st6.trans ?_
    show Steps p.tables e below (T6.setTop (mkF m 73 #[.val (.int fl), .val (.int pa), .val (.int pb), .val (.int pc), .val (.int pd), .val .null, .val .null, .val v0_3, .val v0_4, .val v0_5, .unset, .unset, .unset, .unset, .unset, .unset, .unset] [v0_6])) _
    refine XS.astore X6.here hx rfl (hb hby at_73) rfl pq6_0 (l' := #[.val (.int fl), .val (.int pa), .val (.int pb), .val (.int pc), .val (.int pd), .val .null, .val .null, .val v0_3, .val v0_4, .val v0_5, .val v0_6, .unset, .unset, .unset, .unset, .unset, .unset]) (XS.store1 (o := .unset) rfl (Or.inl rfl) (own_cat pq6_0)) ?_
    show Steps p.tables e below (T6.setTop (mkF m 75 #[.val (.int fl), .val (.int pa), .val (.int pb), .val (.int pc), .val (.int pd), .val .null, .val .null, .val v0_3, .val v0_4, .val v0_5, .val v0_6, .unset, .unset, .unset, .unset, .unset, .unset] [])) _
    refine st7 _ ?_
    show Steps p.tables e below (T7.setTop (mkF m 78 #[.val (.int fl), .val (.int pa), .val (.int pb), .val (.int pc), .val (.int pd), .val .null, .val .null, .val v0_3, .val v0_4, .val v0_5, .val v0_6, .unset, .unset, .unset, .unset, .unset, .unset] [(.ref b7)])) _
    refine XS.dup X7.here hx rfl (hb hby at_78) rfl rfl ?_
    show Steps p.tables e below (T7.setTop (mkF m 79 #[.val (.int fl), .val (.int pa), .val (.int pb), .val (.int pc), .val (.int pd), .val .null, .val .null, .val v0_3, .val v0_4, .val v0_5, .val v0_6, .unset, .unset, .unset, .unset, .unset, .unset] [(.ref b7), (.ref b7)])) _
    refine st8 _ ?_
    show Steps p.tables e below (T8.setTop (mkF m 81 #[.val (.int fl), .val (.int pa), .val (.int pb), .val (.int pc), .val (.int pd), .val .null, .val .null, .val v0_3, .val v0_4, .val v0_5, .val v0_6, .unset, .unset, .unset, .unset, .unset, .unset] [(.ref a8), (.ref b7), (.ref b7)])) _
    refine XS.aconstNull X8.here hx rfl (hb hby at_81) ?_
    show Steps p.tables e below (T8.setTop (mkF m 82 #[.val (.int fl), .val (.int pa), .val (.int pb), .val (.int pc), .val (.int pd), .val .null, .val .null, .val v0_3, .val v0_4, .val v0_5, .val v0_6, .unset, .unset, .unset, .unset, .unset, .unset] [.null, (.ref a8), (.ref b7), (.ref b7)])) _
    refine XS.iload X8.here hx rfl (hb hby at_82) rfl ?_
    show Steps p.tables e below (T8.setTop (mkF m 84 #[.val (.int fl), .val (.int pa), .val (.int pb), .val (.int pc), .val (.int pd), .val .null, .val .null, .val v0_3, .val v0_4, .val v0_5, .val v0_6, .unset, .unset, .unset, .unset, .unset, .unset] [(.int pd), .null, (.ref a8), (.ref b7), (.ref b7)])) _
    refine st9.trans ?_
    show Steps p.tables e below (T9.setTop (mkF m 87 #[.val (.int fl), .val (.int pa), .val (.int pb), .val (.int pc), .val (.int pd), .val .null, .val .null, .val v0_3, .val v0_4, .val v0_5, .val v0_6, .unset, .unset, .unset, .unset, .unset, .unset] [(.ref b7)])) _
    refine XS.astore X9.here hx rfl (hb hby at_87) rfl rfl (l' := #[.val (.int fl), .val (.int pa), .val (.int pb), .val (.int pc), .val (.int pd), .val .null, .val .null, .val v0_3, .val v0_4, .val v0_5, .val v0_6, .val (.ref b7), .unset, .unset, .unset, .unset, .unset]) rfl ?_
    show Steps p.tables e below (T9.setTop (mkF m 89 #[.val (.int fl), .val (.int pa), .val (.int pb), .val (.int pc), .val (.int pd), .val .null, .val .null, .val v0_3, .val v0_4, .val v0_5, .val v0_6, .val (.ref b7), .unset, .unset, .unset, .unset, .unset] [])) _
    refine st10 _ ?_
    show Steps p.tables e below (T10.setTop (mkF m 92 #[.val (.int fl), .val (.int pa), .val (.int pb), .val (.int pc), .val (.int pd), .val .null, .val .null, .val v0_3, .val v0_4, .val v0_5, .val v0_6, .val (.ref b7), .unset, .unset, .unset, .unset, .unset] [(.ref b10)])) _
    refine XS.dup X10.here hx rfl (hb hby at_92) rfl rfl ?_
    show Steps p.tables e below (T10.setTop (mkF m 93 #[.val (.int fl), .val (.int pa), .val (.int pb), .val (.int pc), .val (.int pd), .val .null, .val .null, .val v0_3, .val v0_4, .val v0_5, .val v0_6, .val (.ref b7), .unset, .unset, .unset, .unset, .unset] [(.ref b10), (.ref b10)])) _
    refine st11 _ ?_
    show Steps p.tables e below (T11.setTop (mkF m 95 #[.val (.int fl), .val (.int pa), .val (.int pb), .val (.int pc), .val (.int pd), .val .null, .val .null, .val v0_3, .val v0_4, .val v0_5, .val v0_6, .val (.ref b7), .unset, .unset, .unset, .unset, .unset] [(.ref a11), (.ref b10), (.ref b10)])) _
    refine XS.aload X11.here hx rfl (hb hby at_95) rfl pq3_0 ?_
    show Steps p.tables e below (T11.setTop (mkF m 97 #[.val (.int fl), .val (.int pa), .val (.int pb), .val (.int pc), .val (.int pd), .val .null, .val .null, .val v0_3, .val v0_4, .val v0_5, .val v0_6, .val (.ref b7), .unset, .unset, .unset, .unset, .unset] [v0_3, (.ref a11), (.ref b10), (.ref b10)])) _
    refine XS.aload X11.here hx rfl (hb hby at_97) rfl rfl ?_
    show Steps p.tables e below (T11.setTop (mkF m 99 #[.val (.int fl), .val (.int pa), .val (.int pb), .val (.int pc), .val (.int pd), .val .null, .val .null, .val v0_3, .val v0_4, .val v0_5, .val v0_6, .val (.ref b7), .unset, .unset, .unset, .unset, .unset] [.null, v0_3, (.ref a11), (.ref b10), (.ref b10)])) _
    refine XS.aload X11.here hx rfl (hb hby at_99) rfl pq5_0 ?_
    show Steps p.tables e below (T11.setTop (mkF m 101 #[.val (.int fl), .val (.int pa), .val (.int pb), .val (.int pc), .val (.int pd), .val .null, .val .null, .val v0_3, .val v0_4, .val v0_5, .val v0_6, .val (.ref b7), .unset, .unset, .unset, .unset, .unset] [v0_5, .null, v0_3, (.ref a11), (.ref b10), (.ref b10)])) _
    refine st12.trans ?_
    show Steps p.tables e below (T12.setTop (mkF m 104 #[.val (.int fl), .val (.int pa), .val (.int pb), .val (.int pc), .val (.int pd), .val .null, .val .null, .val v0_3, .val v0_4, .val v0_5, .val v0_6, .val (.ref b7), .unset, .unset, .unset, .unset, .unset] [(.ref b10)])) _
    refine XS.astore X12.here hx rfl (hb hby at_104) rfl rfl (l' := #[.val (.int fl), .val (.int pa), .val (.int pb), .val (.int pc), .val (.int pd), .val .null, .val .null, .val v0_3, .val v0_4, .val v0_5, .val v0_6, .val (.ref b7), .val (.ref b10), .unset, .unset, .unset, .unset]) rfl ?_
    show Steps p.tables e below (T12.setTop (mkF m 106 #[.val (.int fl), .val (.int pa), .val (.int pb), .val (.int pc), .val (.int pd), .val .null, .val .null, .val v0_3, .val v0_4, .val v0_5, .val v0_6, .val (.ref b7), .val (.ref b10), .unset, .unset, .unset, .unset] [])) _
    refine st13 _ ?_
    show Steps p.tables e below (T13.setTop (mkF m 109 #[.val (.int fl), .val (.int pa), .val (.int pb), .val (.int pc), .val (.int pd), .val .null, .val .null, .val v0_3, .val v0_4, .val v0_5, .val v0_6, .val (.ref b7), .val (.ref b10), .unset, .unset, .unset, .unset] [(.ref b13)])) _
    refine XS.dup X13.here hx rfl (hb hby at_109) rfl rfl ?_
    show Steps p.tables e below (T13.setTop (mkF m 110 #[.val (.int fl), .val (.int pa), .val (.int pb), .val (.int pc), .val (.int pd), .val .null, .val .null, .val v0_3, .val v0_4, .val v0_5, .val v0_6, .val (.ref b7), .val (.ref b10), .unset, .unset, .unset, .unset] [(.ref b13), (.ref b13)])) _
    refine st14 _ ?_
    show Steps p.tables e below (T14.setTop (mkF m 112 #[.val (.int fl), .val (.int pa), .val (.int pb), .val (.int pc), .val (.int pd), .val .null, .val .null, .val v0_3, .val v0_4, .val v0_5, .val v0_6, .val (.ref b7), .val (.ref b10), .unset, .unset, .unset, .unset] [(.ref a14), (.ref b13), (.ref b13)])) _
    refine XS.aload X14.here hx rfl (hb hby at_112) rfl pq4_0 ?_
    show Steps p.tables e below (T14.setTop (mkF m 114 #[.val (.int fl), .val (.int pa), .val (.int pb), .val (.int pc), .val (.int pd), .val .null, .val .null, .val v0_3, .val v0_4, .val v0_5, .val v0_6, .val (.ref b7), .val (.ref b10), .unset, .unset, .unset, .unset] [v0_4, (.ref a14), (.ref b13), (.ref b13)])) _
    refine XS.aload X14.here hx rfl (hb hby at_114) rfl rfl ?_
    show Steps p.tables e below (T14.setTop (mkF m 116 #[.val (.int fl), .val (.int pa), .val (.int pb), .val (.int pc), .val (.int pd), .val .null, .val .null, .val v0_3, .val v0_4, .val v0_5, .val v0_6, .val (.ref b7), .val (.ref b10), .unset, .unset, .unset, .unset] [.null, v0_4, (.ref a14), (.ref b13), (.ref b13)])) _
    refine XS.aload X14.here hx rfl (hb hby at_116) rfl pq6_0 ?_
    show Steps p.tables e below (T14.setTop (mkF m 118 #[.val (.int fl), .val (.int pa), .val (.int pb), .val (.int pc), .val (.int pd), .val .null, .val .null, .val v0_3, .val v0_4, .val v0_5, .val v0_6, .val (.ref b7), .val (.ref b10), .unset, .unset, .unset, .unset] [v0_6, .null, v0_4, (.ref a14), (.ref b13), (.ref b13)])) _
    refine st15.trans ?_
    show Steps p.tables e below (T15.setTop (mkF m 121 #[.val (.int fl), .val (.int pa), .val (.int pb), .val (.int pc), .val (.int pd), .val .null, .val .null, .val v0_3, .val v0_4, .val v0_5, .val v0_6, .val (.ref b7), .val (.ref b10), .unset, .unset, .unset, .unset] [(.ref b13)])) _
    refine XS.astore X15.here hx rfl (hb hby at_121) rfl rfl (l' := #[.val (.int fl), .val (.int pa), .val (.int pb), .val (.int pc), .val (.int pd), .val .null, .val .null, .val v0_3, .val v0_4, .val v0_5, .val v0_6, .val (.ref b7), .val (.ref b10), .val (.ref b13), .unset, .unset, .unset]) rfl ?_
    show Steps p.tables e below (T15.setTop (mkF m 123 #[.val (.int fl), .val (.int pa), .val (.int pb), .val (.int pc), .val (.int pd), .val .null, .val .null, .val v0_3, .val v0_4, .val v0_5, .val v0_6, .val (.ref b7), .val (.ref b10), .val (.ref b13), .unset, .unset, .unset] [])) _
    refine st16 _ ?_
    show Steps p.tables e below (T16.setTop (mkF m 126 #[.val (.int fl), .val (.int pa), .val (.int pb), .val (.int pc), .val (.int pd), .val .null, .val .null, .val v0_3, .val v0_4, .val v0_5, .val v0_6, .val (.ref b7), .val (.ref b10), .val (.ref b13), .unset, .unset, .unset] [(.ref b16)])) _
    refine XS.dup X16.here hx rfl (hb hby at_126) rfl rfl ?_
    show Steps p.tables e below (T16.setTop (mkF m 127 #[.val (.int fl), .val (.int pa), .val (.int pb), .val (.int pc), .val (.int pd), .val .null, .val .null, .val v0_3, .val v0_4, .val v0_5, .val v0_6, .val (.ref b7), .val (.ref b10), .val (.ref b13), .unset, .unset, .unset] [(.ref b16), (.ref b16)])) _
    refine XS.aload X16.here hx rfl (hb hby at_127) rfl rfl ?_
    show Steps p.tables e below (T16.setTop (mkF m 129 #[.val (.int fl), .val (.int pa), .val (.int pb), .val (.int pc), .val (.int pd), .val .null, .val .null, .val v0_3, .val v0_4, .val v0_5, .val v0_6, .val (.ref b7), .val (.ref b10), .val (.ref b13), .unset, .unset, .unset] [(.ref b7), (.ref b16), (.ref b16)])) _
    refine XS.aload X16.here hx rfl (hb hby at_129) rfl rfl ?_
    show Steps p.tables e below (T16.setTop (mkF m 131 #[.val (.int fl), .val (.int pa), .val (.int pb), .val (.int pc), .val (.int pd), .val .null, .val .null, .val v0_3, .val v0_4, .val v0_5, .val v0_6, .val (.ref b7), .val (.ref b10), .val (.ref b13), .unset, .unset, .unset] [(.ref b10), (.ref b7), (.ref b16), (.ref b16)])) _
    refine XS.aload X16.here hx rfl (hb hby at_131) rfl rfl ?_
    show Steps p.tables e below (T16.setTop (mkF m 133 #[.val (.int fl), .val (.int pa), .val (.int pb), .val (.int pc), .val (.int pd), .val .null, .val .null, .val v0_3, .val v0_4, .val v0_5, .val v0_6, .val (.ref b7), .val (.ref b10), .val (.ref b13), .unset, .unset, .unset] [(.ref b13), (.ref b10), (.ref b7), (.ref b16), (.ref b16)])) _
    refine st17.trans ?_
    show Steps p.tables e below (T17.setTop (mkF m 136 #[.val (.int fl), .val (.int pa), .val (.int pb), .val (.int pc), .val (.int pd), .val .null, .val .null, .val v0_3, .val v0_4, .val v0_5, .val v0_6, .val (.ref b7), .val (.ref b10), .val (.ref b13), .unset, .unset, .unset] [(.ref b16)])) _
    refine XS.astore X17.here hx rfl (hb hby at_136) rfl rfl (l' := #[.val (.int fl), .val (.int pa), .val (.int pb), .val (.int pc), .val (.int pd), .val .null, .val .null, .val v0_3, .val v0_4, .val v0_5, .val v0_6, .val (.ref b7), .val (.ref b10), .val (.ref b13), .val (.ref b16), .unset, .unset]) rfl ?_
    show Steps p.tables e below (T17.setTop (mkF m 138 #[.val (.int fl), .val (.int pa), .val (.int pb), .val (.int pc), .val (.int pd), .val .null, .val .null, .val v0_3, .val v0_4, .val v0_5, .val v0_6, .val (.ref b7), .val (.ref b10), .val (.ref b13), .val (.ref b16), .unset, .unset] [])) _
    refine XS.aload X17.here hx rfl (hb hby at_138) rfl rfl ?_
    show Steps p.tables e below (T17.setTop (mkF m 140 #[.val (.int fl), .val (.int pa), .val (.int pb), .val (.int pc), .val (.int pd), .val .null, .val .null, .val v0_3, .val v0_4, .val v0_5, .val v0_6, .val (.ref b7), .val (.ref b10), .val (.ref b13), .val (.ref b16), .unset, .unset] [(.ref b16)])) _
    refine st20.trans ?_
    show Steps p.tables e below (T20.setTop (mkF m 143 #[.val (.int fl), .val (.int pa), .val (.int pb), .val (.int pc), .val (.int pd), .val .null, .val .null, .val v0_3, .val v0_4, .val v0_5, .val v0_6, .val (.ref b7), .val (.ref b10), .val (.ref b13), .val (.ref b16), .unset, .unset] [.null])) _
    refine XS.astore X20.here hx rfl (hb hby at_143) rfl rfl (l' := #[.val (.int fl), .val (.int pa), .val (.int pb), .val (.int pc), .val (.int pd), .val .null, .val .null, .val v0_3, .val v0_4, .val v0_5, .val v0_6, .val (.ref b7), .val (.ref b10), .val (.ref b13), .val (.ref b16), .val .null, .unset]) rfl ?_
    show Steps p.tables e below (T20.setTop (mkF m 145 #[.val (.int fl), .val (.int pa), .val (.int pb), .val (.int pc), .val (.int pd), .val .null, .val .null, .val v0_3, .val v0_4, .val v0_5, .val v0_6, .val (.ref b7), .val (.ref b10), .val (.ref b13), .val (.ref b16), .val .null, .unset] [])) _
    refine XS.aload X20.here hx rfl (hb hby at_145) rfl rfl ?_
    show Steps p.tables e below (T20.setTop (mkF m 147 #[.val (.int fl), .val (.int pa), .val (.int pb), .val (.int pc), .val (.int pd), .val .null, .val .null, .val v0_3, .val v0_4, .val v0_5, .val v0_6, .val (.ref b7), .val (.ref b10), .val (.ref b13), .val (.ref b16), .val .null, .unset] [.null])) _
    refine XS.ifnullYes X20.here hx rfl (pc0 := 147) (pc' := 157) rfl (hb hby at_147) rfl (by decide) (by decide) ?_
    show Steps p.tables e below (T20.setTop (mkF m 157 #[.val (.int fl), .val (.int pa), .val (.int pb), .val (.int pc), .val (.int pd), .val .null, .val .null, .val v0_3, .val v0_4, .val v0_5, .val v0_6, .val (.ref b7), .val (.ref b10), .val (.ref b13), .val (.ref b16), .val .null, .unset] [])) _
    refine XS.aload X20.here hx rfl (hb hby at_157) rfl rfl ?_
    show Steps p.tables e below (T20.setTop (mkF m 159 #[.val (.int fl), .val (.int pa), .val (.int pb), .val (.int pc), .val (.int pd), .val .null, .val .null, .val v0_3, .val v0_4, .val v0_5, .val v0_6, .val (.ref b7), .val (.ref b10), .val (.ref b13), .val (.ref b16), .val .null, .unset] [.null])) _
    refine XS.astore X20.here hx rfl (hb hby at_159) rfl rfl (l' := #[.val (.int fl), .val (.int pa), .val (.int pb), .val (.int pc), .val (.int pd), .val .null, .val .null, .val v0_3, .val v0_4, .val v0_5, .val v0_6, .val (.ref b7), .val (.ref b10), .val (.ref b13), .val (.ref b16), .val .null, .val .null]) rfl ?_
    show Steps p.tables e below (T20.setTop (mkF m 161 #[.val (.int fl), .val (.int pa), .val (.int pb), .val (.int pc), .val (.int pd), .val .null, .val .null, .val v0_3, .val v0_4, .val v0_5, .val v0_6, .val (.ref b7), .val (.ref b10), .val (.ref b13), .val (.ref b16), .val .null, .val .null] [])) _
    refine XS.aload X20.here hx rfl (hb hby at_161) rfl rfl ?_
    show Steps p.tables e below (T20.setTop (mkF m 163 #[.val (.int fl), .val (.int pa), .val (.int pb), .val (.int pc), .val (.int pd), .val .null, .val .null, .val v0_3, .val v0_4, .val v0_5, .val v0_6, .val (.ref b7), .val (.ref b10), .val (.ref b13), .val (.ref b16), .val .null, .val .null] [.null])) _
    refine XS.ifnonnullNo X20.here hx rfl (hb hby at_163) rfl ?_
    show Steps p.tables e below (T20.setTop (mkF m 166 #[.val (.int fl), .val (.int pa), .val (.int pb), .val (.int pc), .val (.int pd), .val .null, .val .null, .val v0_3, .val v0_4, .val v0_5, .val v0_6, .val (.ref b7), .val (.ref b10), .val (.ref b13), .val (.ref b16), .val .null, .val .null] [])) _
    refine XS.aload X20.here hx rfl (hb hby at_166) rfl rfl ?_
    show Steps p.tables e below (T20.setTop (mkF m 168 #[.val (.int fl), .val (.int pa), .val (.int pb), .val (.int pc), .val (.int pd), .val .null, .val .null, .val v0_3, .val v0_4, .val v0_5, .val v0_6, .val (.ref b7), .val (.ref b10), .val (.ref b13), .val (.ref b16), .val .null, .val .null] [.null])) _
    refine XS.ifnonnullNo X20.here hx rfl (hb hby at_168) rfl ?_
    show Steps p.tables e below (T20.setTop (mkF m 171 #[.val (.int fl), .val (.int pa), .val (.int pb), .val (.int pc), .val (.int pd), .val .null, .val .null, .val v0_3, .val v0_4, .val v0_5, .val v0_6, .val (.ref b7), .val (.ref b10), .val (.ref b13), .val (.ref b16), .val .null, .val .null] [])) _
    refine XS.iconst X20.here hx rfl (hb hby at_171) ?_
    show Steps p.tables e below (T20.setTop (mkF m 172 #[.val (.int fl), .val (.int pa), .val (.int pb), .val (.int pc), .val (.int pd), .val .null, .val .null, .val v0_3, .val v0_4, .val v0_5, .val v0_6, .val (.ref b7), .val (.ref b10), .val (.ref b13), .val (.ref b16), .val .null, .val .null] [(.int (1 : Int32))])) _
    refine XS.goto X20.here hx rfl (pc0 := 172) (pc' := 176) rfl (hb hby at_172) (by decide) (by decide) ?_
    show Steps p.tables e below (T20.setTop (mkF m 176 #[.val (.int fl), .val (.int pa), .val (.int pb), .val (.int pc), .val (.int pd), .val .null, .val .null, .val v0_3, .val v0_4, .val v0_5, .val v0_6, .val (.ref b7), .val (.ref b10), .val (.ref b13), .val (.ref b16), .val .null, .val .null] [(.int (1 : Int32))])) _
    exact retN X20 hx (t := .boolean) Bd.returns (by simp) (hb hby at_176) hr
  · show Q_law Z fl pa pb pc pd cs h0 n0 _ T20.heap _
    rw [kh20]
    exact ⟨rfl, N20⟩
  · show CHr Z own_EL s.vm s.heap T20.vm T20.heap
    rw [hh, kh20]; exact CE
set_option maxRecDepth 65536 in
set_option maxHeartbeats 40000000 in
theorem law (l : Launch) (Z : State) (a0 : Array Value) (hw : ∀ d ∈ tables_1, d.before a0 Z = true) (ws : List Jvm.Cond) (fl : Int32) (pa : Int32) (pb : Int32) (pc : Int32) (pd : Int32) (cs : Int32) (h0 : Heap) (n0 : Nat) (O0 : Old Z n0 h0) (G0 : Sta Z Z.heap "java/lang/String" "COMPACT_STRINGS" "Z" (.int cs)) (hcs : ¬ (cs = (0 : Int32))) :
    MetFree l x (head1 (Jvm.Cond.code x code maxLocals ret :: ws) room_1) (fun zA zU => zA = #[(.int fl), (.int pa), (.int pb), (.int pc), (.int pd)] ∧ Z.Warmed39 zU.vm ∧ zU.heap = h0 ∧ CHv Z own_EL zU.vm h0 ∧ ∀ x ∈ ([] : List Addr), Safe Z own_EL zU.vm h0 x) (fun _ _ _ _ _ => True) (fun _ zU zo zU' => ∃ zv zL, zo = .returned zv ∧ Q_law Z fl pa pb pc pd cs h0 n0 zv zU'.heap zL ∧ CHr Z own_EL zU.vm zU.heap zU'.vm zU'.heap ∧ ReturnedEndW zU zo zU' zL room_1.cells room_1.slots) := by
  by_cases h1 : (fl &&& (3 : Int32)) = (0 : Int32)
  · by_cases h2 : (((fl.toUInt32 >>> ((2 : Int32) &&& 31).toUInt32).toInt32) &&& (3 : Int32)) = (0 : Int32)
    · exact law_C l Z a0 hw ws fl pa pb pc pd cs h0 n0 O0 G0 hcs h1 h2
    · exact law_B l Z a0 hw ws fl pa pb pc pd cs h0 n0 O0 G0 hcs h1 h2
  · exact law_A l Z a0 hw ws fl pa pb pc pd cs h0 n0 O0 G0 hcs h1
set_option maxRecDepth 65536 in
set_option maxHeartbeats 40000000 in
theorem comes_1 {Post : Tables → Env → Array Value → State → Outcome → State → Prop} (hpost : ∀ tb e args s v u, (limb_1_1.after args s (.returned v) u = true ∧ limb_1_2.after args s (.returned v) u = true ∧ True) → Jvm.D.FramedW s (.returned v) u (Jvm.fieldLocs frame_1_writes args s ++ Jvm.arrayLocs frame_1_arrays args s ++ Jvm.staticLocs frame_1_statics s) 64 4352 → Post tb e args s (.returned v) u) :
    ArmFor flags0 classFile x code maxLocals ret World_1 tables_1 room_1 Calls_1 rest_1 Pre_1 Post := by
  intro l hfl _ _ p e ha hc hk s m args below hf hA hF happ hP
  obtain ⟨hcalls, hrest, hpre⟩ := hP
  obtain ⟨-, -, -, hnamed, -, -, -, hat⟩ := (Spec.applies_iff hf).mp happ
  obtain ⟨hg, hn⟩ := and_e (Cond.before_iff.mp (show (Jvm.Cond.and given_1 narrow_1).before args s = true from hpre))
  obtain ⟨gA0, gB0⟩ := and_e hg
  obtain ⟨gA1, gB1⟩ := and_e gB0
  obtain ⟨gA2, gB2⟩ := and_e gB1
  obtain ⟨gA3, gB3⟩ := and_e gB2
  obtain ⟨gA4, gB4⟩ := and_e gB3
  obtain ⟨w0, w1, w2, w3, w4, rfl⟩ : ∃ w0 w1 w2 w3 w4 : Value, args = #[w0, w1, w2, w3, w4] := by
    have hs : args.size = 5 := by simpa [Cond.value, given_1] using gA0
    obtain ⟨L⟩ := args
    match L, hs with
    | [w0, w1, w2, w3, w4], _ => exact ⟨w0, w1, w2, w3, w4, rfl⟩
  have hw := fun d (hd : d ∈ tables_1) => atoms_spec (ws := Jvm.Cond.code x code maxLocals ret :: tables_1) hat d (List.mem_cons_of_mem _ hd)
  have hfit : Fit s := fun {y c} hc i hi => by
    obtain ⟨ha, rfl⟩ := Array.getElem?_eq_some_iff.mp hc
    have q := List.all_eq_true.mp ((Array.all_eq_true_iff_forall_mem.mp hF) _ (Array.getElem_mem ha)) i (List.mem_range.mpr hi)
    simpa [Array.getElem?_eq_getElem hi] using q
  obtain ⟨hsets, hown0⟩ := atoms_of _ (rest_1_c_eq ▸ (show rest_1_c.before _ s = true from hrest))
  have hr0 := Cond.before_iff.mp hown0
  obtain ⟨i0, ei0⟩ := is_v gA1
  obtain rfl : w0 = (.int i0) := Option.some.inj ei0
  obtain ⟨i1, ei1⟩ := is_v gA2
  obtain rfl : w1 = (.int i1) := Option.some.inj ei1
  obtain ⟨i2, ei2⟩ := is_v gA3
  obtain rfl : w2 = (.int i2) := Option.some.inj ei2
  obtain ⟨i3, ei3⟩ := is_v gA4
  obtain rfl : w3 = (.int i3) := Option.some.inj ei3
  obtain ⟨i4, ei4⟩ := is_v gB4
  obtain rfl : w4 = (.int i4) := Option.some.inj ei4
  obtain ⟨cs, ecs⟩ := is_v (Cond.before_iff.mp (hsets _ (List.mem_of_getElem? (i := 1) rfl)))
  have hcs : ¬ (cs = (0 : Int32)) := fun q => by
    subst q
    have u := not_v (Cond.before_iff.mp (hsets _ (List.mem_of_getElem? (i := 2) rfl)))
    rw [eq_i ecs (Term.int_eval (0)) rfl] at u; cases u
  have SC := Sta.start ecs (Or.inl (hsets _ (List.mem_of_getElem? (i := 0) rfl)))
  have HC : CHv s own_EL s.vm s.heap := CHv.start (own_EW hw) (fun q hq => by
    rcases List.mem_singleton.mp hq with rfl
    exact hcalls.1 _ (List.mem_of_getElem? (i := 3) rfl)) (hsets _ (List.mem_of_getElem? (i := 2) rfl)) (hw _ (List.mem_of_getElem? (i := 10) rfl)) (hw _ (List.mem_of_getElem? (i := 9) rfl))
  obtain ⟨n, o, h1, h2, h3, _, L, rfl, ⟨rfl, N⟩, -, hq⟩ := law l s _ hw tables_1 i0 i1 i2 i3 i4 cs s.heap s.heap.size (Old.start s) SC hcs p e ha hc hk s m _ below hf ((Spec.applies_iff_loose hf).mp happ).1 ⟨rfl, State.Warmed39.refl s, rfl, HC, fun x hx => nomatch hx⟩ trivial
  refine ⟨n, _, h1, h2, h3, hpost _ _ _ _ _ _ ⟨Cond.after_iff.mpr rfl, Cond.after_iff.mpr (eq_i res_at (Term.int_eval (1)) rfl), trivial⟩ ⟨hq.1, hq.2.1, hq.2.2.1, (hq.2.2.2.sift fun y hy => Or.inr (N y hy)).mono (by decide) (by decide)⟩⟩
theorem main_1_1 : Claimed_1_1 := comes_1 fun _ _ _ _ _ _ h hF => ⟨h.1, hF⟩
theorem main_1_2 : Claimed_1_2 := comes_1 fun _ _ _ _ _ _ h hF => ⟨h.2.1, hF⟩
end Jvm.Pilot.@@N@@
namespace Jvm.Pilot.@@N@@
open Jvm Jvm.ClassFile Sem Op Lib Jvm.Free Jvm.Stand Jvm.Pilot.@@N@@.Jvm.D
/-! MADE BY PROGRAM (witnessworld.py) out of the Statement's table words and the real class files: 23 classes; the members and pool entries that the words name. The judged class is class 1, her method 2. -/
namespace start1
open Jvm.ClassFile
def u (s : String) : CpInfo := .utf8 (stringToUtf16 s)
/-- a pool by its gaps: so many unusable entries, then the entry; so many at the end -/
def gap : Nat → List CpInfo → List CpInfo
  | 0, r => r
  | n + 1, r => .unusable :: gap n r
def poolList (es : List (Nat × CpInfo)) (last : Nat) : List CpInfo := es.foldr (fun e r => gap e.1 (e.2 :: r)) (gap last [])
def pool (es : List (Nat × CpInfo)) (last : Nat) : Array CpInfo := ⟨poolList es last⟩
def fileOf (pool : Array CpInfo) (this : Nat) (attrs : Array Attribute := #[]) (ms : Array MethodInfo := #[]) (fl : Nat := 33) (sup : Nat := 0) (ifs : Array Nat := #[]) (fds : Array FieldInfo := #[]) : ClassFile where
  minorVersion := 0
  majorVersion := 65
  constantPool := pool
  accessFlags := fl
  thisClass := this
  superClass := sup
  interfaces := ifs
  fields := fds
  methods := ms
  attributes := attrs
def plain (name : String) (sup : Option ClassId) : Class where
  name := name
  kind := .ordinary
  loader := none
  accessFlags := 33
  super := sup
  interfaces := #[]
  cf := none
  fields := #[]
  methods := #[]
  instanceTypes := #[]
  staticTypes := #[]
  resolved := #[]
  callSites := []
  init := .initialized
  statics := none
  mirror := none

def pool0 : Array CpInfo := pool [(5, u "<init>"), (0, u "()V"), (1, .class_ 10), (1, u "java/lang/Object")] 113

def k0c0 : Code := { maxStack := 0, maxLocals := 1, code := object_method_1_code, exceptionTable := #[], attributes := #[] }
def k0m0 : Method := { name := "<init>", desc := "()V", sig := { parameters := [], returnType := none }, accessFlags := 1, code := some k0c0 }
/-- java/lang/Object -/
def k0 : Class := { plain "java/lang/Object" none with
  accessFlags := 33
  interfaces := #[]
  cf := some (fileOf pool0 8 #[] #[{ accessFlags := 1, nameIndex := 5, descriptorIndex := 6, attributes := #[] }] 33 0 #[] #[])
  fields := #[]
  methods := #[k0m0]
  instanceTypes := #[]
  staticTypes := #[]
  resolved := Array.replicate 124 none
  statics := none }

def pool1 : Array CpInfo := pool [(2, .class_ 4), (1, u "java/lang/Object"), (0, u "<init>"), (0, u "()V"), (0, .class_ 8), (0, u "java/lang/String"), (0, .methodref 7 10), (0, .nameAndType 5 11), (0, u "([C)V"), (0, .methodref 7 13), (0, .nameAndType 14 15), (0, u "valueOf"), (0, u "(C)Ljava/lang/String;"), (0, .methodref 17 18), (0, .class_ 19), (0, .nameAndType 20 21), (0, u "com/example/knooppunt/knooppunt/reader/RouteLinePinLaw"), (0, u "draw"), (0, u "(II)Ljava/lang/String;"), (0, .class_ 23), (0, u "com/example/knooppunt/knooppunt/reader/Source"), (0, .string 25), (0, u "Route"), (0, .methodref 22 27), (0, .nameAndType 5 28), (0, u "(Ljava/lang/String;Ljava/lang/String;I)V"), (0, .class_ 30), (0, u "com/example/knooppunt/knooppunt/model/Reading"), (0, .string 32), (0, u "LineRef"), (0, .methodref 29 34), (0, .nameAndType 5 35), (0, u "(Ljava/lang/String;Ljava/lang/String;Ljava/lang/Object;Ljava/lang/String;)V"), (0, .string 37), (0, u "FlexibleLineRef"), (0, .class_ 39), (0, u "com/example/knooppunt/knooppunt/reader/TimetableElements$Route"), (0, .methodref 38 41), (0, .nameAndType 5 42), (0, u "(Lcom/example/knooppunt/knooppunt/reader/Source;Lcom/example/knooppunt/knooppunt/model/Reading;Lcom/example/knooppunt/knooppunt/model/Reading;)V"), (0, .methodref 38 44), (0, .nameAndType 45 46), (0, u "line"), (0, u "()Ljava/lang/String;"), (0, .methodref 7 48), (0, .nameAndType 49 50), (0, u "equals"), (0, u "(Ljava/lang/Object;)Z"), (3, u "law"), (0, u "(IIIII)Z")] 5

def k1m0 : Method := { name := "<init>", desc := "()V", sig := { parameters := [], returnType := none }, accessFlags := 2, code := none }
def k1c1 : Code := { maxStack := 4, maxLocals := 3, code := method_2_code, exceptionTable := #[], attributes := #[] }
def k1m1 : Method := { name := "draw", desc := "(II)Ljava/lang/String;", sig := { parameters := [.int, .int], returnType := some (.object "java/lang/String") }, accessFlags := 10, code := some k1c1 }
def k1c2 : Code := { maxStack := 6, maxLocals := 17, code := code, exceptionTable := #[], attributes := #[] }
def k1m2 : Method := { name := "law", desc := "(IIIII)Z", sig := { parameters := [.int, .int, .int, .int, .int], returnType := some .boolean }, accessFlags := 9, code := some k1c2 }
/-- com/example/knooppunt/knooppunt/reader/RouteLinePinLaw -/
def k1 : Class := { plain "com/example/knooppunt/knooppunt/reader/RouteLinePinLaw" (some 0) with
  accessFlags := 49
  interfaces := #[]
  cf := some (fileOf pool1 17 #[] #[{ accessFlags := 2, nameIndex := 5, descriptorIndex := 6, attributes := #[] }, { accessFlags := 10, nameIndex := 20, descriptorIndex := 21, attributes := #[] }, { accessFlags := 9, nameIndex := 54, descriptorIndex := 55, attributes := #[] }] 49 2 #[] #[])
  fields := #[]
  methods := #[k1m0, k1m1, k1m2]
  instanceTypes := #[]
  staticTypes := #[]
  resolved := Array.replicate 61 none
  statics := none }

def pool2 : Array CpInfo := pool [(1, .methodref 2 3), (0, .class_ 4), (0, .nameAndType 5 6), (0, u "java/lang/Object"), (0, u "<init>"), (0, u "()V"), (0, .class_ 8), (0, u "java/lang/Record")] 13

def k2c0 : Code := { maxStack := 1, maxLocals := 1, code := jdk_30_method_1_code, exceptionTable := #[], attributes := #[] }
def k2m0 : Method := { name := "<init>", desc := "()V", sig := { parameters := [], returnType := none }, accessFlags := 4, code := some k2c0 }
/-- java/lang/Record -/
def k2 : Class := { plain "java/lang/Record" (some 0) with
  accessFlags := 1057
  interfaces := #[]
  cf := some (fileOf pool2 7 #[] #[{ accessFlags := 4, nameIndex := 5, descriptorIndex := 6, attributes := #[] }] 1057 2 #[] #[])
  fields := #[]
  methods := #[k2m0]
  instanceTypes := #[]
  staticTypes := #[]
  resolved := Array.replicate 22 none
  statics := none }

def pool3 : Array CpInfo := pool [(1, .methodref 2 3), (0, .class_ 4), (0, .nameAndType 5 6), (0, u "java/lang/Record"), (0, u "<init>"), (0, u "()V"), (0, .fieldref 8 9), (0, .class_ 10), (0, .nameAndType 11 12), (0, u "com/example/knooppunt/knooppunt/reader/Source"), (0, u "element"), (0, u "Ljava/lang/String;"), (0, .fieldref 8 14), (0, .nameAndType 15 12), (0, u "id"), (0, .fieldref 8 17), (0, .nameAndType 18 19), (0, u "line"), (0, u "I"), (63, u "Ljava/math/BigDecimal;"), (7, u "MAX_SECONDS"), (31, u "(Ljava/lang/String;Ljava/lang/String;I)V")] 55

def k3c0 : Code := { maxStack := 2, maxLocals := 4, code := prog_141_method_1_code, exceptionTable := #[], attributes := #[] }
def k3m0 : Method := { name := "<init>", desc := "(Ljava/lang/String;Ljava/lang/String;I)V", sig := { parameters := [(.object "java/lang/String"), (.object "java/lang/String"), .int], returnType := none }, accessFlags := 0, code := some k3c0 }
/-- com/example/knooppunt/knooppunt/reader/Source -/
def k3 : Class := { plain "com/example/knooppunt/knooppunt/reader/Source" (some 2) with
  accessFlags := 48
  interfaces := #[]
  cf := some (fileOf pool3 8 #[] #[{ accessFlags := 0, nameIndex := 5, descriptorIndex := 123, attributes := #[] }] 48 2 #[] #[{ accessFlags := 18, nameIndex := 11, descriptorIndex := 12, attributes := #[] }, { accessFlags := 18, nameIndex := 15, descriptorIndex := 12, attributes := #[] }, { accessFlags := 18, nameIndex := 18, descriptorIndex := 19, attributes := #[] }, { accessFlags := 26, nameIndex := 91, descriptorIndex := 83, attributes := #[] }])
  fields := #[{ name := "element", type := (.object "java/lang/String"), accessFlags := 18, slot := 0, constantValue := 0 }, { name := "id", type := (.object "java/lang/String"), accessFlags := 18, slot := 1, constantValue := 0 }, { name := "line", type := .int, accessFlags := 18, slot := 2, constantValue := 0 }, { name := "MAX_SECONDS", type := (.object "java/math/BigDecimal"), accessFlags := 26, slot := 0, constantValue := 0 }]
  methods := #[k3m0]
  instanceTypes := #[(.object "java/lang/String"), (.object "java/lang/String"), .int]
  staticTypes := #[(.object "java/math/BigDecimal")]
  resolved := Array.replicate 179 none
  statics := none }

def pool4 : Array CpInfo := pool [(1, .class_ 2), (0, u "java/io/Serializable"), (0, .class_ 4), (0, u "java/lang/Object")] 2

/-- java/io/Serializable -/
def k4 : Class := { plain "java/io/Serializable" (some 0) with
  accessFlags := 1537
  interfaces := #[]
  cf := some (fileOf pool4 1 #[] #[] 1537 3 #[] #[])
  fields := #[]
  methods := #[]
  instanceTypes := #[]
  staticTypes := #[]
  resolved := Array.replicate 7 none
  statics := none }

def pool5 : Array CpInfo := pool [(1, .class_ 2), (0, u "java/lang/Comparable"), (0, .class_ 4), (0, u "java/lang/Object")] 7

/-- java/lang/Comparable -/
def k5 : Class := { plain "java/lang/Comparable" (some 0) with
  accessFlags := 1537
  interfaces := #[]
  cf := some (fileOf pool5 1 #[] #[] 1537 3 #[] #[])
  fields := #[]
  methods := #[]
  instanceTypes := #[]
  staticTypes := #[]
  resolved := Array.replicate 12 none
  statics := none }

def pool6 : Array CpInfo := pool [(2, .class_ 4), (1, u "java/lang/CharSequence"), (42, .class_ 48), (0, u "java/lang/CharSequence$1CodePointIterator"), (10, .class_ 60), (0, u "java/lang/CharSequence$1CharIterator"), (5, .class_ 67), (0, u "java/lang/Object")] 63

/-- java/lang/CharSequence -/
def k6 : Class := { plain "java/lang/CharSequence" (some 0) with
  accessFlags := 1537
  interfaces := #[]
  cf := some (fileOf pool6 2 #[.nestMembers #[47, 59]] #[] 1537 66 #[] #[])
  fields := #[]
  methods := #[]
  instanceTypes := #[]
  staticTypes := #[]
  resolved := Array.replicate 131 none
  statics := none }

def pool7 : Array CpInfo := pool [(1, .class_ 2), (0, u "java/lang/constant/Constable"), (0, .class_ 4), (0, u "java/lang/Object")] 6

/-- java/lang/constant/Constable -/
def k7 : Class := { plain "java/lang/constant/Constable" (some 0) with
  accessFlags := 1537
  interfaces := #[]
  cf := some (fileOf pool7 1 #[] #[] 1537 3 #[] #[])
  fields := #[]
  methods := #[]
  instanceTypes := #[]
  staticTypes := #[]
  resolved := Array.replicate 11 none
  statics := none }

def pool8 : Array CpInfo := pool [(1, .class_ 2), (0, u "java/lang/constant/ConstantDesc"), (0, .class_ 4), (0, u "java/lang/Object")] 32

/-- java/lang/constant/ConstantDesc -/
def k8 : Class := { plain "java/lang/constant/ConstantDesc" (some 0) with
  accessFlags := 1537
  interfaces := #[]
  cf := some (fileOf pool8 1 #[] #[] 1537 3 #[] #[])
  fields := #[]
  methods := #[]
  instanceTypes := #[]
  staticTypes := #[]
  resolved := Array.replicate 37 none
  statics := none }

def pool9 : Array CpInfo := pool [(1, .methodref 2 3), (0, .class_ 4), (0, .nameAndType 5 6), (0, u "java/lang/Object"), (0, u "<init>"), (0, u "()V"), (0, .string 8), (0, u ""), (0, .fieldref 10 11), (0, .class_ 12), (0, .nameAndType 13 14), (0, u "java/lang/String"), (0, u "value"), (0, u "[B"), (0, .fieldref 10 16), (0, .nameAndType 17 18), (0, u "coder"), (0, u "B"), (2, u "hash"), (0, u "I"), (2, u "hashIsZero"), (0, u "Z"), (0, .methodref 10 28), (0, .nameAndType 5 29), (0, u "([CIILjava/lang/Void;)V"), (8, .fieldref 10 39), (0, .nameAndType 40 26), (0, u "COMPACT_STRINGS"), (1, .class_ 44), (1, u "java/lang/StringUTF16"), (0, u "compress"), (1, .methodref 42 48), (0, .nameAndType 49 50), (0, u "coderFromArrayLen"), (0, u "([BI)B"), (2, u "toBytes"), (53, .class_ 109), (1, u "java/lang/StringLatin1"), (67, .methodref 42 178), (0, .nameAndType 45 179), (0, u "([CII)[B"), (29, .methodref 10 210), (0, .nameAndType 5 211), (0, u "([BB)V"), (157, u "(C)Z"), (173, u "equals"), (29, u "(Ljava/lang/Object;)Z"), (1, .class_ 576), (0, u "java/lang/CharSequence"), (22, u "CASE_INSENSITIVE_ORDER"), (0, u "Ljava/util/Comparator;"), (181, u "valueOf"), (0, u "(C)Ljava/lang/String;"), (226, u "([C)V"), (4, .methodref 107 1016), (0, .nameAndType 1017 369), (0, u "canEncode"), (0, .methodref 107 1019), (0, .nameAndType 53 1020), (0, u "(C)[B"), (80, u "serialPersistentFields"), (0, u "[Ljava/io/ObjectStreamField;"), (0, .class_ 1104), (0, u "java/lang/String$CaseInsensitiveComparator"), (1, .class_ 1107), (0, u "java/io/Serializable"), (0, .class_ 1109), (0, u "java/lang/Comparable"), (0, .class_ 1111), (0, u "java/lang/constant/Constable"), (0, .class_ 1113), (0, u "java/lang/constant/ConstantDesc"), (2, u "serialVersionUID"), (0, u "J"), (3, u "REPL"), (0, u "C"), (2, u "LATIN1"), (1, u "UTF16")] 323

def k9m0 : Method := { name := "<init>", desc := "()V", sig := { parameters := [], returnType := none }, accessFlags := 1, code := none }
def k9c1 : Code := { maxStack := 5, maxLocals := 2, code := jdk_42_method_3_code, exceptionTable := #[], attributes := #[] }
def k9m1 : Method := { name := "<init>", desc := "([C)V", sig := { parameters := [(.array .char)], returnType := none }, accessFlags := 1, code := some k9c1 }
def k9c2 : Code := { maxStack := 2, maxLocals := 3, code := jdk_42_method_66_code, exceptionTable := #[], attributes := #[] }
def k9m2 : Method := { name := "equals", desc := "(Ljava/lang/Object;)Z", sig := { parameters := [(.object "java/lang/Object")], returnType := some .boolean }, accessFlags := 1, code := some k9c2 }
def k9c3 : Code := { maxStack := 4, maxLocals := 1, code := jdk_42_method_139_code, exceptionTable := #[], attributes := #[] }
def k9m3 : Method := { name := "valueOf", desc := "(C)Ljava/lang/String;", sig := { parameters := [.char], returnType := some (.object "java/lang/String") }, accessFlags := 9, code := some k9c3 }
def k9c4 : Code := { maxStack := 4, maxLocals := 6, code := jdk_42_method_149_code, exceptionTable := #[], attributes := #[] }
def k9m4 : Method := { name := "<init>", desc := "([CIILjava/lang/Void;)V", sig := { parameters := [(.array .char), .int, .int, (.object "java/lang/Void")], returnType := none }, accessFlags := 2, code := some k9c4 }
def k9c5 : Code := { maxStack := 2, maxLocals := 3, code := jdk_42_method_151_code, exceptionTable := #[], attributes := #[] }
def k9m5 : Method := { name := "<init>", desc := "([BB)V", sig := { parameters := [(.array .byte), .byte], returnType := none }, accessFlags := 0, code := some k9c5 }
/-- java/lang/String -/
def k9 : Class := { plain "java/lang/String" (some 0) with
  accessFlags := 49
  interfaces := #[4, 5, 6, 7, 8]
  cf := some (fileOf pool9 10 #[.nestMembers #[1103]] #[{ accessFlags := 1, nameIndex := 5, descriptorIndex := 6, attributes := #[] }, { accessFlags := 1, nameIndex := 5, descriptorIndex := 1010, attributes := #[] }, { accessFlags := 1, nameIndex := 543, descriptorIndex := 573, attributes := #[] }, { accessFlags := 9, nameIndex := 782, descriptorIndex := 783, attributes := #[] }, { accessFlags := 2, nameIndex := 5, descriptorIndex := 29, attributes := #[] }, { accessFlags := 0, nameIndex := 5, descriptorIndex := 211, attributes := #[] }] 49 2 #[1106, 1108, 575, 1110, 1112] #[{ accessFlags := 18, nameIndex := 13, descriptorIndex := 14, attributes := #[] }, { accessFlags := 18, nameIndex := 17, descriptorIndex := 18, attributes := #[] }, { accessFlags := 2, nameIndex := 21, descriptorIndex := 22, attributes := #[] }, { accessFlags := 2, nameIndex := 25, descriptorIndex := 26, attributes := #[] }, { accessFlags := 26, nameIndex := 1116, descriptorIndex := 1117, attributes := #[] }, { accessFlags := 24, nameIndex := 40, descriptorIndex := 26, attributes := #[] }, { accessFlags := 26, nameIndex := 1101, descriptorIndex := 1102, attributes := #[] }, { accessFlags := 26, nameIndex := 1121, descriptorIndex := 1122, attributes := #[] }, { accessFlags := 25, nameIndex := 599, descriptorIndex := 600, attributes := #[] }, { accessFlags := 24, nameIndex := 1125, descriptorIndex := 18, attributes := #[] }, { accessFlags := 24, nameIndex := 1127, descriptorIndex := 18, attributes := #[] }])
  fields := #[{ name := "value", type := (.array .byte), accessFlags := 18, slot := 0, constantValue := 0 }, { name := "coder", type := .byte, accessFlags := 18, slot := 1, constantValue := 0 }, { name := "hash", type := .int, accessFlags := 2, slot := 2, constantValue := 0 }, { name := "hashIsZero", type := .boolean, accessFlags := 2, slot := 3, constantValue := 0 }, { name := "serialVersionUID", type := .long, accessFlags := 26, slot := 0, constantValue := 0 }, { name := "COMPACT_STRINGS", type := .boolean, accessFlags := 24, slot := 1, constantValue := 0 }, { name := "serialPersistentFields", type := (.array (.object "java/io/ObjectStreamField")), accessFlags := 26, slot := 2, constantValue := 0 }, { name := "REPL", type := .char, accessFlags := 26, slot := 3, constantValue := 0 }, { name := "CASE_INSENSITIVE_ORDER", type := (.object "java/util/Comparator"), accessFlags := 25, slot := 4, constantValue := 0 }, { name := "LATIN1", type := .byte, accessFlags := 24, slot := 5, constantValue := 0 }, { name := "UTF16", type := .byte, accessFlags := 24, slot := 6, constantValue := 0 }]
  methods := #[k9m0, k9m1, k9m2, k9m3, k9m4, k9m5]
  instanceTypes := #[(.array .byte), .byte, .int, .boolean]
  staticTypes := #[.long, .boolean, (.array (.object "java/io/ObjectStreamField")), .char, (.object "java/util/Comparator"), .byte, .byte]
  resolved := Array.replicate 1451 none
  statics := some 0 }

def pool10 : Array CpInfo := pool [(1, .methodref 2 3), (0, .class_ 4), (0, .nameAndType 5 6), (0, u "java/lang/Record"), (0, u "<init>"), (0, u "()V"), (0, .fieldref 8 9), (0, .class_ 10), (0, .nameAndType 11 12), (0, u "com/example/knooppunt/knooppunt/model/Reading"), (0, u "name"), (0, u "Ljava/lang/String;"), (0, .fieldref 8 14), (0, .nameAndType 15 12), (0, u "text"), (0, .fieldref 8 17), (0, .nameAndType 18 19), (0, u "value"), (0, u "Ljava/lang/Object;"), (0, .fieldref 8 21), (0, .nameAndType 22 12), (0, u "problem"), (34, u "SHOWN_LENGTH"), (0, u "I"), (2, u "(Ljava/lang/String;Ljava/lang/String;Ljava/lang/Object;Ljava/lang/String;)V"), (8, u "()Ljava/lang/Object;")] 35

def k10c0 : Code := { maxStack := 2, maxLocals := 5, code := prog_72_method_1_code, exceptionTable := #[], attributes := #[] }
def k10m0 : Method := { name := "<init>", desc := "(Ljava/lang/String;Ljava/lang/String;Ljava/lang/Object;Ljava/lang/String;)V", sig := { parameters := [(.object "java/lang/String"), (.object "java/lang/String"), (.object "java/lang/Object"), (.object "java/lang/String")], returnType := none }, accessFlags := 1, code := some k10c0 }
def k10c1 : Code := { maxStack := 1, maxLocals := 1, code := prog_72_method_9_code, exceptionTable := #[], attributes := #[] }
def k10m1 : Method := { name := "value", desc := "()Ljava/lang/Object;", sig := { parameters := [], returnType := some (.object "java/lang/Object") }, accessFlags := 1, code := some k10c1 }
/-- com/example/knooppunt/knooppunt/model/Reading -/
def k10 : Class := { plain "com/example/knooppunt/knooppunt/model/Reading" (some 2) with
  accessFlags := 49
  interfaces := #[]
  cf := some (fileOf pool10 8 #[] #[{ accessFlags := 1, nameIndex := 5, descriptorIndex := 61, attributes := #[] }, { accessFlags := 1, nameIndex := 18, descriptorIndex := 70, attributes := #[] }] 49 2 #[] #[{ accessFlags := 18, nameIndex := 11, descriptorIndex := 12, attributes := #[] }, { accessFlags := 18, nameIndex := 15, descriptorIndex := 12, attributes := #[] }, { accessFlags := 18, nameIndex := 18, descriptorIndex := 19, attributes := #[] }, { accessFlags := 18, nameIndex := 22, descriptorIndex := 12, attributes := #[] }, { accessFlags := 26, nameIndex := 57, descriptorIndex := 58, attributes := #[] }])
  fields := #[{ name := "name", type := (.object "java/lang/String"), accessFlags := 18, slot := 0, constantValue := 0 }, { name := "text", type := (.object "java/lang/String"), accessFlags := 18, slot := 1, constantValue := 0 }, { name := "value", type := (.object "java/lang/Object"), accessFlags := 18, slot := 2, constantValue := 0 }, { name := "problem", type := (.object "java/lang/String"), accessFlags := 18, slot := 3, constantValue := 0 }, { name := "SHOWN_LENGTH", type := .int, accessFlags := 26, slot := 0, constantValue := 0 }]
  methods := #[k10m0, k10m1]
  instanceTypes := #[(.object "java/lang/String"), (.object "java/lang/String"), (.object "java/lang/Object"), (.object "java/lang/String")]
  staticTypes := #[.int]
  resolved := Array.replicate 106 none
  statics := none }

def pool11 : Array CpInfo := pool [(1, .methodref 2 3), (0, .class_ 4), (0, .nameAndType 5 6), (0, u "java/lang/Record"), (0, u "<init>"), (0, u "()V"), (0, .fieldref 8 9), (0, .class_ 10), (0, .nameAndType 11 12), (0, u "com/example/knooppunt/knooppunt/reader/TimetableElements$Route"), (0, u "source"), (0, u "Lcom/example/knooppunt/knooppunt/reader/Source;"), (0, .fieldref 8 14), (0, .nameAndType 15 16), (0, u "lineRef"), (0, u "Lcom/example/knooppunt/knooppunt/model/Reading;"), (0, .fieldref 8 18), (0, .nameAndType 19 16), (0, u "flexibleLineRef"), (0, .methodref 21 22), (0, .class_ 23), (0, .nameAndType 24 25), (0, u "com/example/knooppunt/knooppunt/model/Reading"), (0, u "value"), (0, u "()Ljava/lang/Object;"), (0, .class_ 27), (0, u "java/lang/String"), (14, u "(Lcom/example/knooppunt/knooppunt/reader/Source;Lcom/example/knooppunt/knooppunt/model/Reading;Lcom/example/knooppunt/knooppunt/model/Reading;)V"), (4, u "line"), (0, u "()Ljava/lang/String;"), (9, .class_ 59), (0, u "com/example/knooppunt/knooppunt/reader/TimetableElements")] 21

def k11c0 : Code := { maxStack := 2, maxLocals := 4, code := prog_173_method_1_code, exceptionTable := #[], attributes := #[] }
def k11m0 : Method := { name := "<init>", desc := "(Lcom/example/knooppunt/knooppunt/reader/Source;Lcom/example/knooppunt/knooppunt/model/Reading;Lcom/example/knooppunt/knooppunt/model/Reading;)V", sig := { parameters := [(.object "com/example/knooppunt/knooppunt/reader/Source"), (.object "com/example/knooppunt/knooppunt/model/Reading"), (.object "com/example/knooppunt/knooppunt/model/Reading")], returnType := none }, accessFlags := 0, code := some k11c0 }
def k11c1 : Code := { maxStack := 1, maxLocals := 1, code := prog_173_method_2_code, exceptionTable := #[], attributes := #[] }
def k11m1 : Method := { name := "line", desc := "()Ljava/lang/String;", sig := { parameters := [], returnType := some (.object "java/lang/String") }, accessFlags := 0, code := some k11c1 }
/-- com/example/knooppunt/knooppunt/reader/TimetableElements$Route -/
def k11 : Class := { plain "com/example/knooppunt/knooppunt/reader/TimetableElements$Route" (some 2) with
  accessFlags := 48
  interfaces := #[]
  cf := some (fileOf pool11 8 #[.nestHost 58] #[{ accessFlags := 0, nameIndex := 5, descriptorIndex := 42, attributes := #[] }, { accessFlags := 0, nameIndex := 47, descriptorIndex := 48, attributes := #[] }] 48 2 #[] #[{ accessFlags := 18, nameIndex := 11, descriptorIndex := 12, attributes := #[] }, { accessFlags := 18, nameIndex := 15, descriptorIndex := 16, attributes := #[] }, { accessFlags := 18, nameIndex := 19, descriptorIndex := 16, attributes := #[] }])
  fields := #[{ name := "source", type := (.object "com/example/knooppunt/knooppunt/reader/Source"), accessFlags := 18, slot := 0, constantValue := 0 }, { name := "lineRef", type := (.object "com/example/knooppunt/knooppunt/model/Reading"), accessFlags := 18, slot := 1, constantValue := 0 }, { name := "flexibleLineRef", type := (.object "com/example/knooppunt/knooppunt/model/Reading"), accessFlags := 18, slot := 2, constantValue := 0 }]
  methods := #[k11m0, k11m1]
  instanceTypes := #[(.object "com/example/knooppunt/knooppunt/reader/Source"), (.object "com/example/knooppunt/knooppunt/model/Reading"), (.object "com/example/knooppunt/knooppunt/model/Reading")]
  staticTypes := #[]
  resolved := Array.replicate 81 none
  statics := none }

def pool12 : Array CpInfo := pool [(6, .class_ 8), (1, u "java/lang/Object"), (0, u "<init>"), (0, u "()V"), (1, .class_ 14), (1, u "java/lang/StringUTF16"), (31, u "$assertionsDisabled"), (0, u "Z"), (13, u "HI_BYTE_SHIFT"), (0, u "I"), (2, u "LO_BYTE_SHIFT"), (49, .methodref 12 116), (0, .nameAndType 117 118), (0, u "compress"), (0, u "([CI[BII)I"), (3, u "([CII)[B"), (138, u "coderFromArrayLen"), (0, u "([BI)B"), (106, .class_ 371), (1, u "java/lang/StringUTF16$LinesSpliterator"), (58, u "MAX_LENGTH"), (196, .class_ 628), (0, u "java/lang/StringUTF16$CodePointsSpliterator"), (0, .class_ 630), (0, u "java/lang/StringUTF16$CharsSpliterator")] 4

def k12m0 : Method := { name := "<init>", desc := "()V", sig := { parameters := [], returnType := none }, accessFlags := 0, code := none }
def k12c1 : Code := { maxStack := 2, maxLocals := 2, code := jdk_52_method_15_code, exceptionTable := #[], attributes := #[] }
def k12m1 : Method := { name := "coderFromArrayLen", desc := "([BI)B", sig := { parameters := [(.array .byte), .int], returnType := some .byte }, accessFlags := 8, code := some k12c1 }
def k12c2 : Code := { maxStack := 5, maxLocals := 6, code := jdk_52_method_16_code, exceptionTable := #[], attributes := #[] }
def k12m2 : Method := { name := "compress", desc := "([CII)[B", sig := { parameters := [(.array .char), .int, .int], returnType := some (.array .byte) }, accessFlags := 9, code := some k12c2 }
def k12c3 : Code := { maxStack := 3, maxLocals := 7, code := jdk_52_method_21_code, exceptionTable := #[], attributes := #[] }
def k12m3 : Method := { name := "compress", desc := "([CI[BII)I", sig := { parameters := [(.array .char), .int, (.array .byte), .int, .int], returnType := some .int }, accessFlags := 9, code := some k12c3 }
/-- java/lang/StringUTF16 -/
def k12 : Class := { plain "java/lang/StringUTF16" (some 0) with
  accessFlags := 48
  interfaces := #[]
  cf := some (fileOf pool12 12 #[.nestMembers #[627, 629, 369]] #[{ accessFlags := 0, nameIndex := 9, descriptorIndex := 10, attributes := #[] }, { accessFlags := 8, nameIndex := 261, descriptorIndex := 262, attributes := #[] }, { accessFlags := 9, nameIndex := 117, descriptorIndex := 122, attributes := #[] }, { accessFlags := 9, nameIndex := 117, descriptorIndex := 118, attributes := #[] }] 48 6 #[] #[{ accessFlags := 26, nameIndex := 61, descriptorIndex := 62, attributes := #[] }, { accessFlags := 26, nameIndex := 65, descriptorIndex := 62, attributes := #[] }, { accessFlags := 24, nameIndex := 430, descriptorIndex := 62, attributes := #[] }, { accessFlags := 4120, nameIndex := 46, descriptorIndex := 47, attributes := #[] }])
  fields := #[{ name := "HI_BYTE_SHIFT", type := .int, accessFlags := 26, slot := 0, constantValue := 0 }, { name := "LO_BYTE_SHIFT", type := .int, accessFlags := 26, slot := 1, constantValue := 0 }, { name := "MAX_LENGTH", type := .int, accessFlags := 24, slot := 2, constantValue := 0 }, { name := "$assertionsDisabled", type := .boolean, accessFlags := 4120, slot := 3, constantValue := 0 }]
  methods := #[k12m0, k12m1, k12m2, k12m3]
  instanceTypes := #[]
  staticTypes := #[.int, .int, .int, .boolean]
  resolved := Array.replicate 635 none
  statics := none }

def pool13 : Array CpInfo := pool [(4, .class_ 6), (1, u "java/lang/Object"), (0, u "<init>"), (0, u "()V"), (5, .class_ 16), (1, u "java/lang/StringLatin1"), (73, u "canEncode"), (14, u "(C)Z"), (15, u "$assertionsDisabled"), (0, u "Z"), (98, .class_ 223), (1, u "java/lang/StringLatin1$LinesSpliterator"), (156, u "toBytes"), (1, u "(C)[B"), (7, .class_ 391), (0, u "java/lang/StringLatin1$CharsSpliterator")] 3

def k13m0 : Method := { name := "<init>", desc := "()V", sig := { parameters := [], returnType := none }, accessFlags := 0, code := none }
def k13c1 : Code := { maxStack := 2, maxLocals := 1, code := jdk_43_method_3_code, exceptionTable := #[], attributes := #[] }
def k13m1 : Method := { name := "canEncode", desc := "(C)Z", sig := { parameters := [.char], returnType := some .boolean }, accessFlags := 9, code := some k13c1 }
def k13c2 : Code := { maxStack := 4, maxLocals := 1, code := jdk_43_method_46_code, exceptionTable := #[], attributes := #[] }
def k13m2 : Method := { name := "toBytes", desc := "(C)[B", sig := { parameters := [.char], returnType := some (.array .byte) }, accessFlags := 9, code := some k13c2 }
/-- java/lang/StringLatin1 -/
def k13 : Class := { plain "java/lang/StringLatin1" (some 0) with
  accessFlags := 48
  interfaces := #[]
  cf := some (fileOf pool13 14 #[.nestMembers #[390, 221]] #[{ accessFlags := 0, nameIndex := 7, descriptorIndex := 8, attributes := #[] }, { accessFlags := 9, nameIndex := 90, descriptorIndex := 105, attributes := #[] }, { accessFlags := 9, nameIndex := 380, descriptorIndex := 382, attributes := #[] }] 48 4 #[] #[{ accessFlags := 4120, nameIndex := 121, descriptorIndex := 122, attributes := #[] }])
  fields := #[{ name := "$assertionsDisabled", type := .boolean, accessFlags := 4120, slot := 0, constantValue := 0 }]
  methods := #[k13m0, k13m1, k13m2]
  instanceTypes := #[]
  staticTypes := #[.boolean]
  resolved := Array.replicate 395 none
  statics := none }

def pool14 : Array CpInfo := pool [(2, .class_ 4), (1, u "java/lang/Object"), (0, u "<init>"), (0, u "()V"), (17, .class_ 26), (1, u "jdk/internal/util/Preconditions"), (28, .class_ 56), (0, u "jdk/internal/util/Preconditions$4"), (57, .class_ 115), (0, u "jdk/internal/util/Preconditions$1"), (7, u "SIOOBE_FORMATTER"), (0, u "Ljava/util/function/BiFunction;"), (0, .class_ 126), (0, u "jdk/internal/util/Preconditions$2"), (3, u "AIOOBE_FORMATTER"), (0, .class_ 132), (0, u "jdk/internal/util/Preconditions$3"), (3, u "IOOBE_FORMATTER")] 57

def k14m0 : Method := { name := "<init>", desc := "()V", sig := { parameters := [], returnType := none }, accessFlags := 1, code := none }
/-- jdk/internal/util/Preconditions -/
def k14 : Class := { plain "jdk/internal/util/Preconditions" (some 0) with
  accessFlags := 33
  interfaces := #[]
  cf := some (fileOf pool14 24 #[.nestMembers #[55, 131, 125, 114]] #[{ accessFlags := 1, nameIndex := 5, descriptorIndex := 6, attributes := #[] }] 33 2 #[] #[{ accessFlags := 25, nameIndex := 123, descriptorIndex := 124, attributes := #[] }, { accessFlags := 25, nameIndex := 130, descriptorIndex := 124, attributes := #[] }, { accessFlags := 25, nameIndex := 136, descriptorIndex := 124, attributes := #[] }])
  fields := #[{ name := "SIOOBE_FORMATTER", type := (.object "java/util/function/BiFunction"), accessFlags := 25, slot := 0, constantValue := 0 }, { name := "AIOOBE_FORMATTER", type := (.object "java/util/function/BiFunction"), accessFlags := 25, slot := 1, constantValue := 0 }, { name := "IOOBE_FORMATTER", type := (.object "java/util/function/BiFunction"), accessFlags := 25, slot := 2, constantValue := 0 }]
  methods := #[k14m0]
  instanceTypes := #[]
  staticTypes := #[(.object "java/util/function/BiFunction"), (.object "java/util/function/BiFunction"), (.object "java/util/function/BiFunction")]
  resolved := Array.replicate 194 none
  statics := some 1 }

def pool15 : Array CpInfo := pool [(9, u "<init>"), (6, .class_ 18), (1, u "java/lang/Object"), (0, u "()V"), (1, .class_ 23), (1, u "jdk/internal/util/ArraysSupport"), (0, u "LOG2_ARRAY_LONG_INDEX_SCALE"), (0, u "I"), (2, u "U"), (0, u "Ljdk/internal/misc/Unsafe;"), (8, u "BIG_ENDIAN"), (0, u "Z"), (8, u "LOG2_BYTE_BIT_SIZE"), (4, u "LOG2_ARRAY_INT_INDEX_SCALE"), (54, u "JLA"), (0, u "Ljdk/internal/access/JavaLangAccess;"), (11, u "LOG2_ARRAY_BOOLEAN_INDEX_SCALE"), (9, u "LOG2_ARRAY_BYTE_INDEX_SCALE"), (5, u "LOG2_ARRAY_CHAR_INDEX_SCALE"), (5, u "LOG2_ARRAY_SHORT_INDEX_SCALE"), (18, u "LOG2_ARRAY_FLOAT_INDEX_SCALE"), (24, u "LOG2_ARRAY_DOUBLE_INDEX_SCALE"), (89, u "T_BOOLEAN"), (2, u "T_CHAR"), (1, u "T_FLOAT"), (1, u "T_DOUBLE"), (1, u "T_BYTE"), (1, u "T_SHORT"), (1, u "T_INT"), (1, u "T_LONG"), (1, u "SOFT_MAX_ARRAY_LENGTH")] 83

def k15m0 : Method := { name := "<init>", desc := "()V", sig := { parameters := [], returnType := none }, accessFlags := 2, code := none }
/-- jdk/internal/util/ArraysSupport -/
def k15 : Class := { plain "jdk/internal/util/ArraysSupport" (some 0) with
  accessFlags := 33
  interfaces := #[]
  cf := some (fileOf pool15 21 #[] #[{ accessFlags := 2, nameIndex := 9, descriptorIndex := 19, attributes := #[] }] 33 16 #[] #[{ accessFlags := 24, nameIndex := 28, descriptorIndex := 29, attributes := #[] }, { accessFlags := 26, nameIndex := 38, descriptorIndex := 39, attributes := #[] }, { accessFlags := 25, nameIndex := 121, descriptorIndex := 25, attributes := #[] }, { accessFlags := 25, nameIndex := 131, descriptorIndex := 25, attributes := #[] }, { accessFlags := 25, nameIndex := 137, descriptorIndex := 25, attributes := #[] }, { accessFlags := 25, nameIndex := 143, descriptorIndex := 25, attributes := #[] }, { accessFlags := 25, nameIndex := 53, descriptorIndex := 25, attributes := #[] }, { accessFlags := 25, nameIndex := 24, descriptorIndex := 25, attributes := #[] }, { accessFlags := 25, nameIndex := 162, descriptorIndex := 25, attributes := #[] }, { accessFlags := 25, nameIndex := 187, descriptorIndex := 25, attributes := #[] }, { accessFlags := 26, nameIndex := 48, descriptorIndex := 25, attributes := #[] }, { accessFlags := 25, nameIndex := 277, descriptorIndex := 25, attributes := #[] }, { accessFlags := 25, nameIndex := 280, descriptorIndex := 25, attributes := #[] }, { accessFlags := 25, nameIndex := 282, descriptorIndex := 25, attributes := #[] }, { accessFlags := 25, nameIndex := 284, descriptorIndex := 25, attributes := #[] }, { accessFlags := 25, nameIndex := 286, descriptorIndex := 25, attributes := #[] }, { accessFlags := 25, nameIndex := 288, descriptorIndex := 25, attributes := #[] }, { accessFlags := 25, nameIndex := 290, descriptorIndex := 25, attributes := #[] }, { accessFlags := 25, nameIndex := 292, descriptorIndex := 25, attributes := #[] }, { accessFlags := 26, nameIndex := 108, descriptorIndex := 109, attributes := #[] }, { accessFlags := 25, nameIndex := 294, descriptorIndex := 25, attributes := #[] }])
  fields := #[{ name := "U", type := (.object "jdk/internal/misc/Unsafe"), accessFlags := 24, slot := 0, constantValue := 0 }, { name := "BIG_ENDIAN", type := .boolean, accessFlags := 26, slot := 1, constantValue := 0 }, { name := "LOG2_ARRAY_BOOLEAN_INDEX_SCALE", type := .int, accessFlags := 25, slot := 2, constantValue := 0 }, { name := "LOG2_ARRAY_BYTE_INDEX_SCALE", type := .int, accessFlags := 25, slot := 3, constantValue := 0 }, { name := "LOG2_ARRAY_CHAR_INDEX_SCALE", type := .int, accessFlags := 25, slot := 4, constantValue := 0 }, { name := "LOG2_ARRAY_SHORT_INDEX_SCALE", type := .int, accessFlags := 25, slot := 5, constantValue := 0 }, { name := "LOG2_ARRAY_INT_INDEX_SCALE", type := .int, accessFlags := 25, slot := 6, constantValue := 0 }, { name := "LOG2_ARRAY_LONG_INDEX_SCALE", type := .int, accessFlags := 25, slot := 7, constantValue := 0 }, { name := "LOG2_ARRAY_FLOAT_INDEX_SCALE", type := .int, accessFlags := 25, slot := 8, constantValue := 0 }, { name := "LOG2_ARRAY_DOUBLE_INDEX_SCALE", type := .int, accessFlags := 25, slot := 9, constantValue := 0 }, { name := "LOG2_BYTE_BIT_SIZE", type := .int, accessFlags := 26, slot := 10, constantValue := 0 }, { name := "T_BOOLEAN", type := .int, accessFlags := 25, slot := 11, constantValue := 0 }, { name := "T_CHAR", type := .int, accessFlags := 25, slot := 12, constantValue := 0 }, { name := "T_FLOAT", type := .int, accessFlags := 25, slot := 13, constantValue := 0 }, { name := "T_DOUBLE", type := .int, accessFlags := 25, slot := 14, constantValue := 0 }, { name := "T_BYTE", type := .int, accessFlags := 25, slot := 15, constantValue := 0 }, { name := "T_SHORT", type := .int, accessFlags := 25, slot := 16, constantValue := 0 }, { name := "T_INT", type := .int, accessFlags := 25, slot := 17, constantValue := 0 }, { name := "T_LONG", type := .int, accessFlags := 25, slot := 18, constantValue := 0 }, { name := "JLA", type := (.object "jdk/internal/access/JavaLangAccess"), accessFlags := 26, slot := 19, constantValue := 0 }, { name := "SOFT_MAX_ARRAY_LENGTH", type := .int, accessFlags := 25, slot := 20, constantValue := 0 }]
  methods := #[k15m0]
  instanceTypes := #[]
  staticTypes := #[(.object "jdk/internal/misc/Unsafe"), .boolean, .int, .int, .int, .int, .int, .int, .int, .int, .int, .int, .int, .int, .int, .int, .int, .int, .int, (.object "jdk/internal/access/JavaLangAccess"), .int]
  resolved := Array.replicate 378 none
  statics := none }

def pool16 : Array CpInfo := pool [(1, u "java/lang/Cloneable"), (0, .class_ 1), (0, u "java/lang/Object"), (0, .class_ 3)] 3

/-- java/lang/Cloneable -/
def k16 : Class := { plain "java/lang/Cloneable" (some 0) with
  accessFlags := 1537
  interfaces := #[]
  cf := some (fileOf pool16 2 #[] #[] 1537 4 #[] #[])
  fields := #[]
  methods := #[]
  instanceTypes := #[]
  staticTypes := #[]
  resolved := Array.replicate 8 none
  statics := none }

/-- the primitive byte -/
def k17 : Class := { plain "byte" none with kind := .primitive 'B', accessFlags := 0x411 }
/-- [B -/
def k18 : Class := { plain "[B" (some 0) with kind := .array 17 .byte, interfaces := #[16, 4], accessFlags := 1041 }

/-- the primitive char -/
def k19 : Class := { plain "char" none with kind := .primitive 'C', accessFlags := 0x411 }
/-- [C -/
def k20 : Class := { plain "[C" (some 0) with kind := .array 19 .char, interfaces := #[16, 4], accessFlags := 1041 }

/-- the primitive int -/
def k21 : Class := { plain "int" none with kind := .primitive 'I', accessFlags := 0x411 }
/-- [I -/
def k22 : Class := { plain "[I" (some 0) with kind := .array 21 .int, interfaces := #[16, 4], accessFlags := 1041 }

def heap : Heap := #[{ cls := 9, slots := #[.long 0, .int 1, .null, .int 0, .null, .int 0, .int 0], vm := .statics 9 },
  { cls := 14, slots := #[.null, .null, .null], vm := .statics 14 }]
def classes : Array Class := #[k0, k1, k2, k3, k4, k5, k6, k7, k8, k9, k10, k11, k12, k13, k14, k15, k16, k17, k18, k19, k20, k21, k22]
def interned : List (Array UInt16 × Addr) := []
def slotsUsed : Nat := 10
def theMethod : MethodId := ⟨1, 2⟩
def args0 : Array Value := #[.int 3, .int 3, .int 3, .int 3, .int 3]
def aboutOver (below : List Frame) : State where
  vm := { classes := classes, interned := interned.toArray }
  heap := heap
  slotsUsed := slotsUsed
  threads := #[{ frames := .invoking theMethod args0 :: below }]
def below0 : List Frame := [.native { method := ⟨0, 0⟩, args := #[] }]
def about1 : State := aboutOver below0
def p0 : Program := .bare "" "" ""
def e0 : Env := launch0.env 0 0 0
theorem w_frames : about1.frames = Frame.invoking theMethod args0 :: below0 := rfl
set_option maxRecDepth 65536 in
theorem w_args : argsFit about1.vm theMethod args0 = true := by decide +kernel
set_option maxRecDepth 65536 in
theorem w_heap : heapFits about1 = true := by decide +kernel
set_option maxRecDepth 65536 in
theorem w_runnable : about1.curStatus? = some .runnable := by decide +kernel
set_option maxRecDepth 65536 in
theorem w_alone : about1.alone = true := by decide +kernel
set_option maxRecDepth 65536 in
theorem w_named : about1.methodNamed? x = some theMethod := by decide +kernel
set_option maxRecDepth 65536 in
theorem w_hears : about1.hears theMethod below0 = true := by decide +kernel
set_option maxRecDepth 65536 in
theorem w_ripe : about1.ripe theMethod args0 below0 = true := by decide +kernel
theorem w_running : about1.status = .running := rfl
set_option maxRecDepth 65536 in
theorem w_room : about1.hasRoom e0.platform room_1 = true :=
  launch0.hasRoom_least _ room_1 (by decide +kernel) (by decide +kernel) (by decide +kernel) (by decide +kernel) (by decide +kernel) (by decide +kernel)
theorem allAtoms_all (ts : List Jvm.Cond) (a : Array Jvm.Value) (st : Jvm.State) : (allAtoms ts).before a st = ts.all (fun c => c.before a st) := by
  induction ts with
  | nil => rfl
  | cons c t ih =>
    show (Jvm.Cond.and c (allAtoms t)).before a st = _
    rw [Jvm.Cond.before_and, ih, List.all_cons]
def words1 : List Jvm.Cond := Jvm.Cond.code x code maxLocals ret :: tables_1
/-- a 'code' word, met by the world's own term for the bytes: nothing is compared byte by byte -/
theorem code_word {y : MethodName} {bytes : ByteArray} {mx : Nat} {rt : Option FieldType} {a : Array Value} {s : State} {m : MethodId} {meth : Method} {c : Code} (h1 : s.methodNamed? y = some m) (h2 : s.vm.method? m = some meth) (h3 : meth.code = some c) (h4 : c.code = bytes)
    (h5 : (c.maxLocals == mx && c.exceptionTable.isEmpty && decide (c.maxStack ≤ mostOperands) && decide (meth.sig.returnType = rt) && !meth.locks && decide (parseMethodDescriptor y.desc = some meth.sig)) = true) : (Jvm.Cond.code y bytes mx rt).before a s = true := by
  simp only [Bool.and_eq_true, beq_iff_eq, Bool.not_eq_true', decide_eq_true_eq] at h5
  obtain ⟨⟨⟨⟨⟨g1, g2⟩, g3⟩, g4⟩, g5⟩, g6⟩ := h5
  simp [Cond.before, Cond.holds, Cond.value, h1, h2, h3, h4, g1, g2, g3, g4, g5, g6]
def isCode : Jvm.Cond → Bool
  | .code _ _ _ _ => true
  | _ => false
theorem all_split {L : List Jvm.Cond} {P : Jvm.Cond → Bool} (h1 : L.all (fun c => isCode c || P c) = true) (h2 : ∀ c ∈ L.filter isCode, P c = true) : L.all P = true := by
  refine List.all_eq_true.mpr fun c hc => ?_
  have h := List.all_eq_true.mp h1 c hc
  rcases Bool.eq_false_or_eq_true (isCode c) with hi | hi
  · exact h2 c (List.mem_filter.mpr ⟨hc, hi⟩)
  · simpa [hi] using h
set_option maxRecDepth 65536 in
theorem w_c0 : (Jvm.Cond.code x code maxLocals ret).before args0 about1 = true := code_word (m := ⟨1, 2⟩) (meth := k1m2) (c := k1c2) (by decide +kernel) rfl rfl rfl (by decide +kernel)
set_option maxRecDepth 65536 in
theorem w_c1 : (Jvm.Cond.code ({ cls := "com/example/knooppunt/knooppunt/reader/RouteLinePinLaw", name := "draw", desc := "(II)Ljava/lang/String;" } : Jvm.MethodName) method_2_code (3 : Nat) (Option.some (Jvm.ClassFile.FieldType.object "java/lang/String"))).before args0 about1 = true := code_word (m := ⟨1, 1⟩) (meth := k1m1) (c := k1c1) (by decide +kernel) rfl rfl rfl (by decide +kernel)
set_option maxRecDepth 65536 in
theorem w_c2 : (Jvm.Cond.code ({ cls := "com/example/knooppunt/knooppunt/reader/Source", name := "<init>", desc := "(Ljava/lang/String;Ljava/lang/String;I)V" } : Jvm.MethodName) prog_141_method_1_code (4 : Nat) (Option.none : Option Jvm.ClassFile.FieldType)).before args0 about1 = true := code_word (m := ⟨3, 0⟩) (meth := k3m0) (c := k3c0) (by decide +kernel) rfl rfl rfl (by decide +kernel)
set_option maxRecDepth 65536 in
theorem w_c3 : (Jvm.Cond.code ({ cls := "java/lang/Record", name := "<init>", desc := "()V" } : Jvm.MethodName) jdk_30_method_1_code (1 : Nat) (Option.none : Option Jvm.ClassFile.FieldType)).before args0 about1 = true := code_word (m := ⟨2, 0⟩) (meth := k2m0) (c := k2c0) (by decide +kernel) rfl rfl rfl (by decide +kernel)
set_option maxRecDepth 65536 in
theorem w_c4 : (Jvm.Cond.code ({ cls := "java/lang/Object", name := "<init>", desc := "()V" } : Jvm.MethodName) object_method_1_code (1 : Nat) (Option.none : Option Jvm.ClassFile.FieldType)).before args0 about1 = true := code_word (m := ⟨0, 0⟩) (meth := k0m0) (c := k0c0) (by decide +kernel) rfl rfl rfl (by decide +kernel)
set_option maxRecDepth 65536 in
theorem w_c5 : (Jvm.Cond.code ({ cls := "com/example/knooppunt/knooppunt/model/Reading", name := "<init>", desc := "(Ljava/lang/String;Ljava/lang/String;Ljava/lang/Object;Ljava/lang/String;)V" } : Jvm.MethodName) prog_72_method_1_code (5 : Nat) (Option.none : Option Jvm.ClassFile.FieldType)).before args0 about1 = true := code_word (m := ⟨10, 0⟩) (meth := k10m0) (c := k10c0) (by decide +kernel) rfl rfl rfl (by decide +kernel)
set_option maxRecDepth 65536 in
theorem w_c6 : (Jvm.Cond.code ({ cls := "com/example/knooppunt/knooppunt/reader/TimetableElements$Route", name := "<init>", desc := "(Lcom/example/knooppunt/knooppunt/reader/Source;Lcom/example/knooppunt/knooppunt/model/Reading;Lcom/example/knooppunt/knooppunt/model/Reading;)V" } : Jvm.MethodName) prog_173_method_1_code (4 : Nat) (Option.none : Option Jvm.ClassFile.FieldType)).before args0 about1 = true := code_word (m := ⟨11, 0⟩) (meth := k11m0) (c := k11c0) (by decide +kernel) rfl rfl rfl (by decide +kernel)
set_option maxRecDepth 65536 in
theorem w_c7 : (Jvm.Cond.code ({ cls := "com/example/knooppunt/knooppunt/reader/TimetableElements$Route", name := "line", desc := "()Ljava/lang/String;" } : Jvm.MethodName) prog_173_method_2_code (1 : Nat) (Option.some (Jvm.ClassFile.FieldType.object "java/lang/String"))).before args0 about1 = true := code_word (m := ⟨11, 1⟩) (meth := k11m1) (c := k11c1) (by decide +kernel) rfl rfl rfl (by decide +kernel)
set_option maxRecDepth 65536 in
theorem w_c8 : (Jvm.Cond.code ({ cls := "com/example/knooppunt/knooppunt/model/Reading", name := "value", desc := "()Ljava/lang/Object;" } : Jvm.MethodName) prog_72_method_9_code (1 : Nat) (Option.some (Jvm.ClassFile.FieldType.object "java/lang/Object"))).before args0 about1 = true := code_word (m := ⟨10, 1⟩) (meth := k10m1) (c := k10c1) (by decide +kernel) rfl rfl rfl (by decide +kernel)
set_option maxRecDepth 65536 in
theorem w_c9 : (Jvm.Cond.code ({ cls := "java/lang/String", name := "<init>", desc := "([C)V" } : Jvm.MethodName) jdk_42_method_3_code (2 : Nat) (Option.none : Option Jvm.ClassFile.FieldType)).before args0 about1 = true := code_word (m := ⟨9, 1⟩) (meth := k9m1) (c := k9c1) (by decide +kernel) rfl rfl rfl (by decide +kernel)
set_option maxRecDepth 65536 in
theorem w_c10 : (Jvm.Cond.code ({ cls := "java/lang/String", name := "<init>", desc := "([CIILjava/lang/Void;)V" } : Jvm.MethodName) jdk_42_method_149_code (6 : Nat) (Option.none : Option Jvm.ClassFile.FieldType)).before args0 about1 = true := code_word (m := ⟨9, 4⟩) (meth := k9m4) (c := k9c4) (by decide +kernel) rfl rfl rfl (by decide +kernel)
set_option maxRecDepth 65536 in
theorem w_c11 : (Jvm.Cond.code ({ cls := "java/lang/StringUTF16", name := "compress", desc := "([CII)[B" } : Jvm.MethodName) jdk_52_method_16_code (6 : Nat) (Option.some (Jvm.ClassFile.FieldType.array Jvm.ClassFile.FieldType.byte))).before args0 about1 = true := code_word (m := ⟨12, 2⟩) (meth := k12m2) (c := k12c2) (by decide +kernel) rfl rfl rfl (by decide +kernel)
set_option maxRecDepth 65536 in
theorem w_c12 : (Jvm.Cond.code ({ cls := "java/lang/StringUTF16", name := "compress", desc := "([CI[BII)I" } : Jvm.MethodName) jdk_52_method_21_code (7 : Nat) (Option.some Jvm.ClassFile.FieldType.int)).before args0 about1 = true := code_word (m := ⟨12, 3⟩) (meth := k12m3) (c := k12c3) (by decide +kernel) rfl rfl rfl (by decide +kernel)
set_option maxRecDepth 65536 in
theorem w_c13 : (Jvm.Cond.code ({ cls := "java/lang/StringUTF16", name := "coderFromArrayLen", desc := "([BI)B" } : Jvm.MethodName) jdk_52_method_15_code (2 : Nat) (Option.some Jvm.ClassFile.FieldType.byte)).before args0 about1 = true := code_word (m := ⟨12, 1⟩) (meth := k12m1) (c := k12c1) (by decide +kernel) rfl rfl rfl (by decide +kernel)
set_option maxRecDepth 65536 in
theorem w_c14 : (Jvm.Cond.code ({ cls := "java/lang/String", name := "equals", desc := "(Ljava/lang/Object;)Z" } : Jvm.MethodName) jdk_42_method_66_code (3 : Nat) (Option.some Jvm.ClassFile.FieldType.boolean)).before args0 about1 = true := code_word (m := ⟨9, 2⟩) (meth := k9m2) (c := k9c2) (by decide +kernel) rfl rfl rfl (by decide +kernel)
set_option maxRecDepth 65536 in
theorem w_c15 : (Jvm.Cond.code ({ cls := "java/lang/String", name := "valueOf", desc := "(C)Ljava/lang/String;" } : Jvm.MethodName) jdk_42_method_139_code (1 : Nat) (Option.some (Jvm.ClassFile.FieldType.object "java/lang/String"))).before args0 about1 = true := code_word (m := ⟨9, 3⟩) (meth := k9m3) (c := k9c3) (by decide +kernel) rfl rfl rfl (by decide +kernel)
set_option maxRecDepth 65536 in
theorem w_c16 : (Jvm.Cond.code ({ cls := "java/lang/StringLatin1", name := "canEncode", desc := "(C)Z" } : Jvm.MethodName) jdk_43_method_3_code (1 : Nat) (Option.some Jvm.ClassFile.FieldType.boolean)).before args0 about1 = true := code_word (m := ⟨13, 1⟩) (meth := k13m1) (c := k13c1) (by decide +kernel) rfl rfl rfl (by decide +kernel)
set_option maxRecDepth 65536 in
theorem w_c17 : (Jvm.Cond.code ({ cls := "java/lang/StringLatin1", name := "toBytes", desc := "(C)[B" } : Jvm.MethodName) jdk_43_method_46_code (1 : Nat) (Option.some (Jvm.ClassFile.FieldType.array Jvm.ClassFile.FieldType.byte))).before args0 about1 = true := code_word (m := ⟨13, 2⟩) (meth := k13m2) (c := k13c2) (by decide +kernel) rfl rfl rfl (by decide +kernel)
set_option maxRecDepth 65536 in
theorem w_c18 : (Jvm.Cond.code ({ cls := "java/lang/String", name := "<init>", desc := "([BB)V" } : Jvm.MethodName) jdk_42_method_151_code (3 : Nat) (Option.none : Option Jvm.ClassFile.FieldType)).before args0 about1 = true := code_word (m := ⟨9, 5⟩) (meth := k9m5) (c := k9c5) (by decide +kernel) rfl rfl rfl (by decide +kernel)
def codes1 : List Jvm.Cond := [Jvm.Cond.code x code maxLocals ret, Jvm.Cond.code ({ cls := "com/example/knooppunt/knooppunt/reader/RouteLinePinLaw", name := "draw", desc := "(II)Ljava/lang/String;" } : Jvm.MethodName) method_2_code (3 : Nat) (Option.some (Jvm.ClassFile.FieldType.object "java/lang/String")), Jvm.Cond.code ({ cls := "com/example/knooppunt/knooppunt/reader/Source", name := "<init>", desc := "(Ljava/lang/String;Ljava/lang/String;I)V" } : Jvm.MethodName) prog_141_method_1_code (4 : Nat) (Option.none : Option Jvm.ClassFile.FieldType), Jvm.Cond.code ({ cls := "java/lang/Record", name := "<init>", desc := "()V" } : Jvm.MethodName) jdk_30_method_1_code (1 : Nat) (Option.none : Option Jvm.ClassFile.FieldType), Jvm.Cond.code ({ cls := "java/lang/Object", name := "<init>", desc := "()V" } : Jvm.MethodName) object_method_1_code (1 : Nat) (Option.none : Option Jvm.ClassFile.FieldType), Jvm.Cond.code ({ cls := "com/example/knooppunt/knooppunt/model/Reading", name := "<init>", desc := "(Ljava/lang/String;Ljava/lang/String;Ljava/lang/Object;Ljava/lang/String;)V" } : Jvm.MethodName) prog_72_method_1_code (5 : Nat) (Option.none : Option Jvm.ClassFile.FieldType), Jvm.Cond.code ({ cls := "com/example/knooppunt/knooppunt/reader/TimetableElements$Route", name := "<init>", desc := "(Lcom/example/knooppunt/knooppunt/reader/Source;Lcom/example/knooppunt/knooppunt/model/Reading;Lcom/example/knooppunt/knooppunt/model/Reading;)V" } : Jvm.MethodName) prog_173_method_1_code (4 : Nat) (Option.none : Option Jvm.ClassFile.FieldType), Jvm.Cond.code ({ cls := "com/example/knooppunt/knooppunt/reader/TimetableElements$Route", name := "line", desc := "()Ljava/lang/String;" } : Jvm.MethodName) prog_173_method_2_code (1 : Nat) (Option.some (Jvm.ClassFile.FieldType.object "java/lang/String")), Jvm.Cond.code ({ cls := "com/example/knooppunt/knooppunt/model/Reading", name := "value", desc := "()Ljava/lang/Object;" } : Jvm.MethodName) prog_72_method_9_code (1 : Nat) (Option.some (Jvm.ClassFile.FieldType.object "java/lang/Object")), Jvm.Cond.code ({ cls := "java/lang/String", name := "<init>", desc := "([C)V" } : Jvm.MethodName) jdk_42_method_3_code (2 : Nat) (Option.none : Option Jvm.ClassFile.FieldType), Jvm.Cond.code ({ cls := "java/lang/String", name := "<init>", desc := "([CIILjava/lang/Void;)V" } : Jvm.MethodName) jdk_42_method_149_code (6 : Nat) (Option.none : Option Jvm.ClassFile.FieldType), Jvm.Cond.code ({ cls := "java/lang/StringUTF16", name := "compress", desc := "([CII)[B" } : Jvm.MethodName) jdk_52_method_16_code (6 : Nat) (Option.some (Jvm.ClassFile.FieldType.array Jvm.ClassFile.FieldType.byte)), Jvm.Cond.code ({ cls := "java/lang/StringUTF16", name := "compress", desc := "([CI[BII)I" } : Jvm.MethodName) jdk_52_method_21_code (7 : Nat) (Option.some Jvm.ClassFile.FieldType.int), Jvm.Cond.code ({ cls := "java/lang/StringUTF16", name := "coderFromArrayLen", desc := "([BI)B" } : Jvm.MethodName) jdk_52_method_15_code (2 : Nat) (Option.some Jvm.ClassFile.FieldType.byte), Jvm.Cond.code ({ cls := "java/lang/String", name := "equals", desc := "(Ljava/lang/Object;)Z" } : Jvm.MethodName) jdk_42_method_66_code (3 : Nat) (Option.some Jvm.ClassFile.FieldType.boolean), Jvm.Cond.code ({ cls := "java/lang/String", name := "valueOf", desc := "(C)Ljava/lang/String;" } : Jvm.MethodName) jdk_42_method_139_code (1 : Nat) (Option.some (Jvm.ClassFile.FieldType.object "java/lang/String")), Jvm.Cond.code ({ cls := "java/lang/StringLatin1", name := "canEncode", desc := "(C)Z" } : Jvm.MethodName) jdk_43_method_3_code (1 : Nat) (Option.some Jvm.ClassFile.FieldType.boolean), Jvm.Cond.code ({ cls := "java/lang/StringLatin1", name := "toBytes", desc := "(C)[B" } : Jvm.MethodName) jdk_43_method_46_code (1 : Nat) (Option.some (Jvm.ClassFile.FieldType.array Jvm.ClassFile.FieldType.byte)), Jvm.Cond.code ({ cls := "java/lang/String", name := "<init>", desc := "([BB)V" } : Jvm.MethodName) jdk_42_method_151_code (3 : Nat) (Option.none : Option Jvm.ClassFile.FieldType)]
set_option maxRecDepth 65536 in
theorem codes_eq : words1.filter isCode = codes1 := rfl
theorem w_codes : ∀ c ∈ words1.filter isCode, c.before args0 about1 = true := by
  rw [codes_eq]
  intro c hc
  simp only [codes1, List.mem_cons, List.not_mem_nil, or_false] at hc
  rcases hc with rfl | rfl | rfl | rfl | rfl | rfl | rfl | rfl | rfl | rfl | rfl | rfl | rfl | rfl | rfl | rfl | rfl | rfl | rfl
  · exact w_c0
  · exact w_c1
  · exact w_c2
  · exact w_c3
  · exact w_c4
  · exact w_c5
  · exact w_c6
  · exact w_c7
  · exact w_c8
  · exact w_c9
  · exact w_c10
  · exact w_c11
  · exact w_c12
  · exact w_c13
  · exact w_c14
  · exact w_c15
  · exact w_c16
  · exact w_c17
  · exact w_c18
set_option maxRecDepth 65536 in
theorem w_t1 : (words1.take 24).all (fun c => isCode c || c.before args0 about1) = true := by decide +kernel
set_option maxRecDepth 65536 in
theorem w_t2 : ((words1.drop 24).take 24).all (fun c => isCode c || c.before args0 about1) = true := by decide +kernel
set_option maxRecDepth 65536 in
theorem w_t3 : (((words1.drop 24).drop 24).take 24).all (fun c => isCode c || c.before args0 about1) = true := by decide +kernel
set_option maxRecDepth 65536 in
theorem w_t4 : ((((words1.drop 24).drop 24).drop 24).take 24).all (fun c => isCode c || c.before args0 about1) = true := by decide +kernel
set_option maxRecDepth 65536 in
theorem w_t5 : ((((words1.drop 24).drop 24).drop 24).drop 24).all (fun c => isCode c || c.before args0 about1) = true := by decide +kernel
theorem w_tables : (allAtoms (Jvm.Cond.code x code maxLocals ret :: tables_1)).before args0 about1 = true := by
  rw [allAtoms_all]
  show words1.all (fun c => c.before args0 about1) = true
  refine all_split ?_ w_codes
  rw [← List.take_append_drop 24 words1, List.all_append, w_t1, ← List.take_append_drop 24 (words1.drop 24), List.all_append, w_t2, ← List.take_append_drop 24 ((words1.drop 24).drop 24), List.all_append, w_t3, ← List.take_append_drop 24 (((words1.drop 24).drop 24).drop 24), List.all_append, w_t4, w_t5]
  rfl
set_option maxRecDepth 65536 in
theorem w_rest : rest_1_c.before args0 about1 = true := by decide +kernel
set_option maxRecDepth 65536 in
theorem w_case : (Jvm.Cond.and given_1 narrow_1).before args0 about1 = true := by decide +kernel
set_option maxRecDepth 65536 in
theorem w_consts : constsHeld consts_1 about1 := Jvm.Lit.constsHeldB_iff.mp (by decide +kernel)
theorem w_applies : (headSpec (Jvm.Cond.code x code maxLocals ret :: tables_1) room_1).applies x e0.platform about1 = true :=
  (Spec.applies_iff w_frames).mpr ⟨w_running, w_runnable, w_alone, w_named, w_hears, w_ripe, w_room, w_tables⟩
theorem atStart : AtStart classFile x code maxLocals ret World_1 tables_1 room_1 Calls_1 rest_1 Pre_1 launch0 p0 e0 about1 theMethod args0 below0 :=
  ⟨lists_1, trivial, launch0.admits_env _ _ _, launch0.least_env, fairChoices_fair.cas, fairChoices_fair.clock, w_frames, w_args, w_heap, w_applies, ⟨w_consts, trivial⟩, w_rest, w_case⟩
end start1
theorem witness_1 : WitnessClaimed_1 := ⟨start1.p0, start1.e0, start1.about1, start1.theMethod, start1.args0, start1.below0, start1.atStart⟩
end Jvm.Pilot.@@N@@
