import JvmDerived
import JvmDerived.Pilot.@@N@@Statement
import JvmDerived.Pilot.@@N@@Code
set_option linter.unusedVariables false
set_option linter.unusedSimpArgs false
namespace Jvm.RoadKit
open Sem ClassFile Op Lib Jvm.Stand Jvm.Free Jvm.LawKit
section New
variable {p : Program} {l : Launch} {e : Env} {R : Room} {s : State} {m : MethodId} {args : Array Value} {below : List Frame} {meth : Method} {c : Code} {T : State} {locs : List Loc} {cells slots : Nat}
theorem retI (X : Stand p l e R s m args below meth c T locs cells slots) (hx : p.tables.exec = Jvm.exec) {pc : Nat} {Ls : Array Slot} {z : Int32} {rest : List Value} (hret : meth.sig.returnType = some .int) (hd : decode c.code pc = .ok (.ireturn, 1)) {fs : List Frame}
    (hl : ∀ (f : JFrame) (acts : List Action), f.method = m → f.locked = none → f.entered = [] → (doReturn e (T.setTop f) acts (some (.int z))).1 = T.setFrames fs) : Steps p.tables e below (T.setTop (mkF m pc Ls (.int z :: rest))) (T.setFrames fs) := by
  have hm' : T.vm.method? m = some meth := X.method'
  have hn : narrow .int (.int z) = .int z := rfl
  show Steps p.tables e below (T.setTop { method := m, pc := pc, locals := Ls, stack := _ :: rest, locked := none }) _
  jvm_step X.here [X.here.top, hx, hd, hm', hret, hn]
  first | (intro acts; rw [hl _ acts rfl rfl rfl]) | rw [hl _ _ rfl rfl rfl]
  exact Steps.refl _
theorem Arr.at_ {Z : State} {h : Heap} {a : Addr} {cl : Cell} {ty : FieldType} (A : Arr Z h a cl ty) {U : State} (q : U.heap = h) : U.heap[a]? = some cl := by rw [q]; exact A.1
end New
end Jvm.RoadKit
namespace Jvm.Pilot.@@N@@
open Jvm Jvm.ClassFile Sem Op Lib Jvm.Free Jvm.Stand Jvm.LawKit Jvm.RoadKit Bundle Jvm.Pilot.@@N@@.Jvm.D
theorem own_eqI {args : Array Value} {first s : State} {o : Option Outcome} {idx : List Nat} {t : Term} {n : Int32} (h : (Jvm.Cond.eq t (.int n)).value args first o s idx = some true) : t.eval args first o idx s = some (.int n) := by
  cases ht : t.eval args first o idx s with
  | none => simp [Jvm.Cond.value, Term.eval, ht] at h
  | some x => cases x <;> simp [Jvm.Cond.value, Term.eval, ht] at h ⊢; exact h
theorem own_eqL {args : Array Value} {first s : State} {o : Option Outcome} {idx : List Nat} {t : Term} {n : Int64} (h : (Jvm.Cond.eq t (.long n)).value args first o s idx = some true) : t.eval args first o idx s = some (.long n) := by
  cases ht : t.eval args first o idx s with
  | none => simp [Jvm.Cond.value, Term.eval, ht] at h
  | some x => cases x <;> simp [Jvm.Cond.value, Term.eval, ht] at h ⊢; exact h
theorem own_fld {args : Array Value} {Z : State} {t : Term} {a : Addr} {C n d : String} {v : Value} (ht : t.eval args Z none [] Z = some (.ref a)) (h : (Term.field t C n d).eval args Z none [] Z = some v) : Fld Z Z.heap a C n d v := Fld.start ((fld_at ht).symm.trans h)
theorem own_exa {args : Array Value} {Z : State} {t : Term} {C : String} (h : (Jvm.Cond.exactly t C).value args Z none Z [] = some true) : ∃ a, t.eval args Z none [] Z = some (.ref a) ∧ Exa Z Z.heap a C := by
  obtain ⟨a, e⟩ := exa_v h
  exact ⟨a, e, Exa.start e h⟩
def Cache (Z : State) (w : Addr) (C : String) : Prop := ∃ cl : Cell, Arr Z Z.heap w cl (.object C) ∧ cl.slots.size = 256 ∧ ∀ i, i < 256 → ∃ b, cl.slots[i]? = some (.ref b) ∧ Exa Z Z.heap b C
theorem own_cache {args : Array Value} {Z : State} {O n d C : String} {u : Jvm.Cond} (h1 : (Jvm.Cond.arrayOf (.static O n d) (.object C)).before args Z = true) (h2 : (Jvm.Cond.eq (.length (.static O n d)) (.int 256)).before args Z = true)
    (h3 : (Jvm.Cond.all (.static O n d) (.and (.exactly (.elem (.static O n d) (.index 0)) C) u)).before args Z = true) : ∃ w, (Term.static O n d).eval args Z none [] Z = some (.ref w) ∧ Cache Z w C := by
  have h1' := Cond.before_iff.mp h1
  obtain ⟨w, ev⟩ := arr_v h1'
  obtain ⟨cl, A⟩ := Arr.start ev h1'
  have hat := A.fin (Vm.Alike.refl _)
  obtain ⟨hsz, hsize⟩ := Jvm.Free.IntBox.length_fwd h2 ev A.1 A.2.1 A.2.2
  have hsz256 : cl.slots.size = 256 := by
    have e : (cl.slots.size.toInt32).toInt = cl.slots.size := len_toInt hsz
    rw [hsize] at e
    have : ((256 : Int32)).toInt = 256 := by decide
    omega
  have hall := Cond.all_elim ev hat (Cond.before_iff.mp h3)
  refine ⟨w, ev, cl, A, hsz256, fun i hi => ?_⟩
  obtain ⟨hx, -⟩ := and_e (hall i (by omega))
  obtain ⟨b, cB, cellB, kB, e1, e2, e3, e4, e5, e6, e7⟩ := Cond.exactly_spec (beq_iff_eq.mpr hx : (Jvm.Cond.exactly (.elem (.static O n d) (.index 0)) C).holds args Z none Z [i] = true)
  obtain ⟨hnn, hback⟩ := Jvm.Free.IntBox.place_nonneg i hi
  have evi : (Term.static O n d).eval args Z none [i] Z = some (.ref w) := ev
  have evE : (Term.elem (.static O n d) (.index 0)).eval args Z none [i] Z = cl.slots[i]? := by rw [elem_f evi (j := i.toInt32) rfl hat hnn, hback]
  subst e6
  exact ⟨b, evE.symm.trans e1, cellB, kB, e3, e2, e4, e5, e7⟩
theorem own_no {Z : State} {a0 : Array Value} {C S O K : String} {n : Nat} (w1 : (Jvm.Cond.superclass C S).before a0 Z = true) (w2 : (Jvm.Cond.superclass S O).before a0 Z = true) (w3 : (Jvm.Cond.noSuperclass O).before a0 Z = true) (wk : (Jvm.Cond.instantiable K n).before a0 Z = true)
    (n1 : C ≠ K) (n2 : S ≠ K) (n3 : O ≠ K) : ∃ c t, Z.vm.findClass C = some c ∧ Z.vm.findClass K = some t ∧ Z.vm.assignable c t = false := by
  obtain ⟨t, k', g0, g2, g5, g7, -⟩ := Cond.instantiable_spec wk
  have r : NS Z O K := by
    obtain ⟨c, k, h1, h2, h3, -, -⟩ := Cond.noSuperclass_spec w3
    have ne := ids_ne h1 g0 n3
    refine ⟨c, t, h1, g0, fun fuel => ?_⟩
    cases fuel with
    | zero => rfl
    | succ f => simp [Vm.isSubclassAux, ne, h2, h3]
  obtain ⟨c, t', h0, g0', n3'⟩ := NS.step w1 (NS.step w2 r n2) n1
  cases g0.symm.trans g0'
  obtain ⟨p, k, kp, h1, h2, h3, h4, h5, -, h7⟩ := Cond.superclass_spec h0 w1
  have ne := ids_ne h0 g0 n1
  have g7' : k'.isInterface = false := by simp only [Bool.or_eq_false_iff] at g7; exact g7.1
  refine ⟨c, t, h0, g0, ?_⟩
  show Z.vm.assignableAux (255 + 1) c t = false
  simp [Vm.assignableAux, ne, h2, g2, h5, g5, g7', Vm.isSubclass, n3']
def eqV (s1 : Int64) (i1 : Int32) (s2 : Int64) (i2 : Int32) : Int32 := if s1 = s2 ∧ i1 = i2 then 1 else 0
theorem eqV_y {s1 s2 : Int64} {i1 i2 : Int32} (h1 : s1 = s2) (h2 : i1 = i2) : eqV s1 i1 s2 i2 = 1 := if_pos ⟨h1, h2⟩
theorem eqV_n1 {s1 s2 : Int64} {i1 i2 : Int32} (h1 : ¬ s1 = s2) : eqV s1 i1 s2 i2 = 0 := if_neg fun h => h1 h.1
theorem eqV_n2 {s1 s2 : Int64} {i1 i2 : Int32} (h1 : ¬ i1 = i2) : eqV s1 i1 s2 i2 = 0 := if_neg fun h => h1 h.2
theorem lw_t {x y : Int64} (h : lcmpW x y = (0 : Int32)) : x = y := (lw_eq x y).mp h
theorem lw_f {x y : Int64} (h : ¬ (lcmpW x y = (0 : Int32))) : ¬ x = y := fun q => h ((lw_eq x y).mpr q)
def Q_recI (Z : State) (a : Addr) (h0 : Heap) (n0 : Nat) (v : Option Value) (h : Heap) (L : List Loc) : Prop := v = none ∧ Fr n0 L ∧ h = h0
theorem d1_0 : decode jdk_30_method_1_code 0 = .ok (.aload_n 0, 1) := by decide +kernel
theorem d1_1 : decode jdk_30_method_1_code 1 = .ok (.invokespecial 1, 3) := by decide +kernel
theorem d1_4 : decode jdk_30_method_1_code 4 = .ok (.return_, 1) := by decide +kernel
theorem pn_2 : plainName "java/lang/Record" = true := by first | (simp [plainName, overriddenIn]; done) | decide +kernel
theorem ef_1_R (m : MethodId) (x0 : Addr) : entryFrame m #[(.ref x0)] 1 = mkF m 0 #[.val (.ref x0)] [] := by first | (simp [entryFrame, mkF, argsToLocals, Value.category]; done) | rfl
set_option maxRecDepth 65536 in
set_option maxHeartbeats 40000000 in
theorem recI (l : Launch) (Z : State) (a0 : Array Value) (hw : ∀ d ∈ tables_1, d.before a0 Z = true) (ws : List Jvm.Cond) (a : Addr) (h0 : Heap) (n0 : Nat) (O0 : Old Z n0 h0) :
    MetFree l (⟨"java/lang/Record", "<init>", "()V"⟩ : MethodName) (head1 (Jvm.Cond.code (⟨"java/lang/Record", "<init>", "()V"⟩ : MethodName) jdk_30_method_1_code 1 none :: ws) ({ frames := 1, cells := 0, slots := 0, locals := 12 } : Room)) (fun zA zU => zA = #[(.ref a)] ∧ Z.Warmed39 zU.vm ∧ zU.heap = h0) (fun _ _ _ _ _ => True) (fun _ zU zo zU' => ∃ zv zL, zo = .returned zv ∧ Q_recI Z a h0 n0 zv zU'.heap zL ∧ FrameEnd zU zo zU' zL ({ frames := 1, cells := 0, slots := 0, locals := 12 } : Room).cells ({ frames := 1, cells := 0, slots := 0, locals := 12 } : Room).slots) := by
  refine MetFree.of_bodySF (plainFor_of_name pn_2) hisR ?_
  intro p e s m args below meth c s₁ Bd hml0 hP hK
  obtain ⟨rfl, hZ, hh⟩ := hP
  have hx := Bd.exec
  have hby := Bd.bytes
  have hml : c.maxLocals = 1 := hml0
  have hown : s.vm.findClass "java/lang/Record" = some m.cls := findClass_of_methodNamed Bd.named
  have hnm := (name_of_methodNamed Bd.named Bd.method).1
  have X0 : Stand p l e ({ frames := 1, cells := 0, slots := 0, locals := 12 } : Room) s m #[(.ref a)] below meth c s₁ [] 0 0 := Stand.of_body Bd
  have e0 : s₁.heap = h0 := by rw [← hh, Bd.state]; rfl
  have N0 := Fr.nil n0
  have Z0 : n0 ≤ h0.size := O0.1 ▸ O0.2.1
  have pre0 : ∀ zt, Steps p.tables e below (s₁.setTop (mkF m 0 #[.val (.ref a)] [])) zt → Steps p.tables e below (s₁.setTop (entryFrame m #[(.ref a)] 1)) zt := fun zt zk => castTop (ef_1_R m a) zk
  obtain ⟨T1, X1, e1, st1⟩ := initO X0 hx hZ hown (hw _ (List.mem_of_getElem? (i := 11) rfl)) (hw _ (List.mem_of_getElem? (i := 12) rfl)) (hw _ (List.mem_of_getElem? (i := 13) rfl)) e0 (g := (mkF m 1 #[.val (.ref a)] [(.ref a)])) rfl (by rw [hml]; rfl) rfl (hb hby d1_1) (by decide) (W := 0) (by show 2 * 0 + _ ≤ _; exact Nat.le_of_eq rfl) (by decide)
  obtain ⟨fs, hr, hrun, hended, hW, hsame⟩ := X1.leave (v := none) (fun _ => rfl)
  refine ⟨_, _, pre0 _ ?_, hrun, hended, _, _, rfl, ?_, ⟨_, rfl⟩, hW, hsame.mono (by decide) (by decide)⟩
  · show Steps p.tables e below (s₁.setTop (mkF m 0 #[.val (.ref a)] [])) _
    refine XS.aloadN X0.here hx rfl (hb hby d1_0) rfl rfl ?_
    show Steps p.tables e below (s₁.setTop (mkF m 1 #[.val (.ref a)] [(.ref a)])) _
    refine st1 _ ?_
    show Steps p.tables e below (T1.setTop (mkF m 4 #[.val (.ref a)] [])) _
    exact X1.returnOut hx Bd.returns (hb hby d1_4) hr
  · show Q_recI Z a h0 n0 _ T1.heap _
    rw [e1]
    exact ⟨rfl, N0, rfl⟩
def Q_turnI (Z : State) (a : Addr) (q : Int64) (i : Int32) (h0 : Heap) (n0 : Nat) (v : Option Value) (h : Heap) (L : List Loc) : Prop := v = none ∧ Fr n0 L ∧ Keep h0 h [a] ∧ Exa Z h a "com/example/maat/maat/Turn" ∧ Fld Z h a "com/example/maat/maat/Turn" "seq" "J" (.long q) ∧ Fld Z h a "com/example/maat/maat/Turn" "index" "I" (.int i)
theorem d3_0 : decode prog_17_method_1_code 0 = .ok (.aload_n 0, 1) := by decide +kernel
theorem d3_1 : decode prog_17_method_1_code 1 = .ok (.invokespecial 1, 3) := by decide +kernel
theorem pd_0 : parseMethodDescriptor "()V" = some ⟨[], none⟩ := by decide +kernel
theorem d3_4 : decode prog_17_method_1_code 4 = .ok (.aload_n 0, 1) := by decide +kernel
theorem d3_5 : decode prog_17_method_1_code 5 = .ok (.lload_n 1, 1) := by decide +kernel
theorem d3_6 : decode prog_17_method_1_code 6 = .ok (.putfield 7, 3) := by decide +kernel
theorem d3_9 : decode prog_17_method_1_code 9 = .ok (.aload_n 0, 1) := by decide +kernel
theorem d3_10 : decode prog_17_method_1_code 10 = .ok (.iload_n 3, 1) := by decide +kernel
theorem d3_11 : decode prog_17_method_1_code 11 = .ok (.putfield 13, 3) := by decide +kernel
theorem d3_14 : decode prog_17_method_1_code 14 = .ok (.return_, 1) := by decide +kernel
theorem pn_4 : plainName "com/example/maat/maat/Turn" = true := by first | (simp [plainName, overriddenIn]; done) | decide +kernel
theorem ef_3_RJI (m : MethodId) (x0 : Addr) (x1 : Int64) (x2 : Int32) : entryFrame m #[(.ref x0), (.long x1), (.int x2)] 4 = mkF m 0 #[.val (.ref x0), .val (.long x1), .second, .val (.int x2)] [] := by first | (simp [entryFrame, mkF, argsToLocals, Value.category]; done) | rfl
set_option maxRecDepth 65536 in
set_option maxHeartbeats 40000000 in
theorem turnI (l : Launch) (Z : State) (a0 : Array Value) (hw : ∀ d ∈ tables_1, d.before a0 Z = true) (ws : List Jvm.Cond) (a : Addr) (q : Int64) (i : Int32) (h0 : Heap) (n0 : Nat) (O0 : Old Z n0 h0) (P0 : Fld Z h0 a "com/example/maat/maat/Turn" "seq" "J" (.long (0 : Int64))) (P1 : Fld Z h0 a "com/example/maat/maat/Turn" "index" "I" (.int (0 : Int32))) (P2 : Exa Z h0 a "com/example/maat/maat/Turn") (g_a : n0 ≤ a) :
    MetFree l (⟨"com/example/maat/maat/Turn", "<init>", "(JI)V"⟩ : MethodName) (head1 (Jvm.Cond.code (⟨"com/example/maat/maat/Turn", "<init>", "(JI)V"⟩ : MethodName) prog_17_method_1_code 4 none :: ws) ({ frames := 2, cells := 0, slots := 0, locals := 24 } : Room)) (fun zA zU => zA = #[(.ref a), (.long q), (.int i)] ∧ Z.Warmed39 zU.vm ∧ zU.heap = h0) (fun _ _ _ _ _ => True) (fun _ zU zo zU' => ∃ zv zL, zo = .returned zv ∧ Q_turnI Z a q i h0 n0 zv zU'.heap zL ∧ FrameEnd zU zo zU' zL ({ frames := 2, cells := 0, slots := 0, locals := 24 } : Room).cells ({ frames := 2, cells := 0, slots := 0, locals := 24 } : Room).slots) := by
  refine MetFree.of_bodySF (plainFor_of_name pn_4) hisR ?_
  intro p e s m args below meth c s₁ Bd hml0 hP hK
  obtain ⟨rfl, hZ, hh⟩ := hP
  have hx := Bd.exec
  have hby := Bd.bytes
  have hml : c.maxLocals = 4 := hml0
  have hown : s.vm.findClass "com/example/maat/maat/Turn" = some m.cls := findClass_of_methodNamed Bd.named
  have hnm := (name_of_methodNamed Bd.named Bd.method).1
  have X0 : Stand p l e ({ frames := 2, cells := 0, slots := 0, locals := 24 } : Room) s m #[(.ref a), (.long q), (.int i)] below meth c s₁ [] 0 0 := Stand.of_body Bd
  have e0 : s₁.heap = h0 := by rw [← hh, Bd.state]; rfl
  have N0 := Fr.nil n0
  have Z0 : n0 ≤ h0.size := O0.1 ▸ O0.2.1
  have pre0 : ∀ zt, Steps p.tables e below (s₁.setTop (mkF m 0 #[.val (.ref a), .val (.long q), .second, .val (.int i)] [])) zt → Steps p.tables e below (s₁.setTop (entryFrame m #[(.ref a), (.long q), (.int i)] 4)) zt := fun zt zk => castTop (ef_3_RJI m a q i) zk
  obtain ⟨_, _, ⟨T1, L1, k1, n1⟩, -, X1, ⟨Lc1, hQ1, l1, y1, z1⟩, st1⟩ := X0.specialBack hx (y := (⟨"java/lang/Record", "<init>", "()V"⟩ : MethodName)) rfl hown (mvT hZ (hw _ (List.mem_of_getElem? (i := 6) rfl))) (mvT hZ (hw _ (List.mem_of_getElem? (i := 7) rfl))) (mvT hZ (hw _ (List.mem_of_getElem? (i := 10) rfl))) (by decide) (backOf (W := 0) (recI l Z a0 hw [] a h0 n0 O0 ) hZ (hw _ (List.mem_of_getElem? (i := 10) rfl)) (hw _ (List.mem_of_getElem? (i := 9) rfl)) (by decide) (by decide)) (g := (mkF m 1 #[.val (.ref a), .val (.long q), .second, .val (.int i)] [(.ref a)])) rfl (by rw [hml]; rfl) (Steps.refl _) (a := a) (argsL := []) (rest := []) (lenOf pd_0 rfl) rfl (by show 2 * 0 + _ ≤ _; exact Nat.le_of_eq rfl) (hb hby d3_1) (fun _ _ => ⟨rfl, e0, (by decide : 0 + 0 ≤ _), (by decide : 0 + 0 ≤ _)⟩)
  dsimp only [Pt.U, Pt.locs, Pt.cells, Pt.slots] at X1 l1 y1 z1 st1 hQ1
  subst l1 y1 z1
  obtain ⟨rfl, Nq1, kh1⟩ := hQ1
  have N1 := Fr.app N0 Nq1
  obtain ⟨T2, h2, X2, e2, W2, st2⟩ := putF X1 hx hZ hown (host := "") (Or.inl (hw _ (List.mem_of_getElem? (i := 14) rfl))) Via.refl kh1 P0 P2 (Or.inr ⟨(hw _ (List.mem_of_getElem? (i := 15) rfl)), rfl, hnm⟩) (hw _ (List.mem_of_getElem? (i := 1) rfl)) (ty := .long) (by decide) rfl rfl (g := (mkF m 6 #[.val (.ref a), .val (.long q), .second, .val (.int i)] [(.long q), (.ref a)])) rfl rfl (hb hby d3_6)
  have Fw2 := P0.same W2
  have O2 := O0.wr W2 g_a
  have K2 : Keep h0 h2 [a] := (Keep.refl h0 [a]).wr W2 (Or.inl (List.mem_of_getElem? (i := 0) rfl))
  have N2 := Fr.snoc X2 N1 g_a
  have c4 : Fld Z h2 a "com/example/maat/maat/Turn" "index" "I" (.int (0 : Int32)) := (P1.other W2 (Or.inr (slot_ne (Or.inr (hw _ (List.mem_of_getElem? (i := 17) rfl))) (Or.inr (hw _ (List.mem_of_getElem? (i := 15) rfl))) (by decide) (t := .int) (t' := .long) (by decide) (by decide))))
  obtain ⟨T3, h3, X3, e3, W3, st3⟩ := putF X2 hx hZ hown (host := "") (Or.inl (hw _ (List.mem_of_getElem? (i := 16) rfl))) Via.refl e2 c4 (P2.wr W2) (Or.inr ⟨(hw _ (List.mem_of_getElem? (i := 17) rfl)), rfl, hnm⟩) (hw _ (List.mem_of_getElem? (i := 1) rfl)) (ty := .int) (by decide) rfl rfl (g := (mkF m 11 #[.val (.ref a), .val (.long q), .second, .val (.int i)] [(.int i), (.ref a)])) rfl rfl (hb hby d3_11)
  have Fw3 := c4.same W3
  have O3 := O2.wr W3 g_a
  have K3 : Keep h0 h3 [a] := K2.wr W3 (Or.inl (List.mem_of_getElem? (i := 0) rfl))
  have N3 := Fr.snoc X3 N2 g_a
  have c5 : Fld Z h3 a "com/example/maat/maat/Turn" "seq" "J" (.long q) := (Fw2.other W3 (Or.inr (slot_ne (Or.inr (hw _ (List.mem_of_getElem? (i := 15) rfl))) (Or.inr (hw _ (List.mem_of_getElem? (i := 17) rfl))) (by decide) (t := .long) (t' := .int) (by decide) (by decide))))
  obtain ⟨fs, hr, hrun, hended, hW, hsame⟩ := X3.leave (v := none) (fun _ => rfl)
  refine ⟨_, _, pre0 _ ?_, hrun, hended, _, _, rfl, ?_, ⟨_, rfl⟩, hW, hsame.mono (by decide) (by decide)⟩
  · show Steps p.tables e below (s₁.setTop (mkF m 0 #[.val (.ref a), .val (.long q), .second, .val (.int i)] [])) _
    refine XS.aloadN X0.here hx rfl (hb hby d3_0) rfl rfl ?_
    show Steps p.tables e below (s₁.setTop (mkF m 1 #[.val (.ref a), .val (.long q), .second, .val (.int i)] [(.ref a)])) _
    refine st1.trans ?_
    show Steps p.tables e below (T1.setTop (mkF m 4 #[.val (.ref a), .val (.long q), .second, .val (.int i)] [])) _
    refine XS.aloadN X1.here hx rfl (hb hby d3_4) rfl rfl ?_
    show Steps p.tables e below (T1.setTop (mkF m 5 #[.val (.ref a), .val (.long q), .second, .val (.int i)] [(.ref a)])) _
    refine XS.lloadN X1.here hx rfl (hb hby d3_5) rfl ?_
    show Steps p.tables e below (T1.setTop (mkF m 6 #[.val (.ref a), .val (.long q), .second, .val (.int i)] [(.long q), (.ref a)])) _
    refine st2 _ ?_
    show Steps p.tables e below (T2.setTop (mkF m 9 #[.val (.ref a), .val (.long q), .second, .val (.int i)] [])) _
    refine XS.aloadN X2.here hx rfl (hb hby d3_9) rfl rfl ?_
    show Steps p.tables e below (T2.setTop (mkF m 10 #[.val (.ref a), .val (.long q), .second, .val (.int i)] [(.ref a)])) _
    refine XS.iloadN X2.here hx rfl (hb hby d3_10) rfl ?_
    show Steps p.tables e below (T2.setTop (mkF m 11 #[.val (.ref a), .val (.long q), .second, .val (.int i)] [(.int i), (.ref a)])) _
    refine st3 _ ?_
    show Steps p.tables e below (T3.setTop (mkF m 14 #[.val (.ref a), .val (.long q), .second, .val (.int i)] [])) _
    exact X3.returnOut hx Bd.returns (hb hby d3_14) hr
  · show Q_turnI Z a q i h0 n0 _ T3.heap _
    rw [e3]
    exact ⟨rfl, N3, K3, ((P2.wr W2).wr W3), c5, Fw3⟩
def Q_numI (Z : State) (a : Addr) (h0 : Heap) (n0 : Nat) (v : Option Value) (h : Heap) (L : List Loc) : Prop := v = none ∧ Fr n0 L ∧ h = h0
theorem d5_0 : decode jdk_18_method_1_code 0 = .ok (.aload_n 0, 1) := by decide +kernel
theorem d5_1 : decode jdk_18_method_1_code 1 = .ok (.invokespecial 1, 3) := by decide +kernel
theorem d5_4 : decode jdk_18_method_1_code 4 = .ok (.return_, 1) := by decide +kernel
theorem pn_6 : plainName "java/lang/Number" = true := by first | (simp [plainName, overriddenIn]; done) | decide +kernel
theorem ef_5_R (m : MethodId) (x0 : Addr) : entryFrame m #[(.ref x0)] 1 = mkF m 0 #[.val (.ref x0)] [] := by first | (simp [entryFrame, mkF, argsToLocals, Value.category]; done) | rfl
set_option maxRecDepth 65536 in
set_option maxHeartbeats 40000000 in
theorem numI (l : Launch) (Z : State) (a0 : Array Value) (hw : ∀ d ∈ tables_1, d.before a0 Z = true) (ws : List Jvm.Cond) (a : Addr) (h0 : Heap) (n0 : Nat) (O0 : Old Z n0 h0) :
    MetFree l (⟨"java/lang/Number", "<init>", "()V"⟩ : MethodName) (head1 (Jvm.Cond.code (⟨"java/lang/Number", "<init>", "()V"⟩ : MethodName) jdk_18_method_1_code 1 none :: ws) ({ frames := 1, cells := 0, slots := 0, locals := 12 } : Room)) (fun zA zU => zA = #[(.ref a)] ∧ Z.Warmed39 zU.vm ∧ zU.heap = h0) (fun _ _ _ _ _ => True) (fun _ zU zo zU' => ∃ zv zL, zo = .returned zv ∧ Q_numI Z a h0 n0 zv zU'.heap zL ∧ FrameEnd zU zo zU' zL ({ frames := 1, cells := 0, slots := 0, locals := 12 } : Room).cells ({ frames := 1, cells := 0, slots := 0, locals := 12 } : Room).slots) := by
  refine MetFree.of_bodySF (plainFor_of_name pn_6) hisR ?_
  intro p e s m args below meth c s₁ Bd hml0 hP hK
  obtain ⟨rfl, hZ, hh⟩ := hP
  have hx := Bd.exec
  have hby := Bd.bytes
  have hml : c.maxLocals = 1 := hml0
  have hown : s.vm.findClass "java/lang/Number" = some m.cls := findClass_of_methodNamed Bd.named
  have hnm := (name_of_methodNamed Bd.named Bd.method).1
  have X0 : Stand p l e ({ frames := 1, cells := 0, slots := 0, locals := 12 } : Room) s m #[(.ref a)] below meth c s₁ [] 0 0 := Stand.of_body Bd
  have e0 : s₁.heap = h0 := by rw [← hh, Bd.state]; rfl
  have N0 := Fr.nil n0
  have Z0 : n0 ≤ h0.size := O0.1 ▸ O0.2.1
  have pre0 : ∀ zt, Steps p.tables e below (s₁.setTop (mkF m 0 #[.val (.ref a)] [])) zt → Steps p.tables e below (s₁.setTop (entryFrame m #[(.ref a)] 1)) zt := fun zt zk => castTop (ef_5_R m a) zk
  obtain ⟨T1, X1, e1, st1⟩ := initO X0 hx hZ hown (hw _ (List.mem_of_getElem? (i := 48) rfl)) (hw _ (List.mem_of_getElem? (i := 12) rfl)) (hw _ (List.mem_of_getElem? (i := 13) rfl)) e0 (g := (mkF m 1 #[.val (.ref a)] [(.ref a)])) rfl (by rw [hml]; rfl) rfl (hb hby d5_1) (by decide) (W := 0) (by show 2 * 0 + _ ≤ _; exact Nat.le_of_eq rfl) (by decide)
  obtain ⟨fs, hr, hrun, hended, hW, hsame⟩ := X1.leave (v := none) (fun _ => rfl)
  refine ⟨_, _, pre0 _ ?_, hrun, hended, _, _, rfl, ?_, ⟨_, rfl⟩, hW, hsame.mono (by decide) (by decide)⟩
  · show Steps p.tables e below (s₁.setTop (mkF m 0 #[.val (.ref a)] [])) _
    refine XS.aloadN X0.here hx rfl (hb hby d5_0) rfl rfl ?_
    show Steps p.tables e below (s₁.setTop (mkF m 1 #[.val (.ref a)] [(.ref a)])) _
    refine st1 _ ?_
    show Steps p.tables e below (T1.setTop (mkF m 4 #[.val (.ref a)] [])) _
    exact X1.returnOut hx Bd.returns (hb hby d5_4) hr
  · show Q_numI Z a h0 n0 _ T1.heap _
    rw [e1]
    exact ⟨rfl, N0, rfl⟩
def Q_longI (Z : State) (a : Addr) (pj : Int64) (h0 : Heap) (n0 : Nat) (v : Option Value) (h : Heap) (L : List Loc) : Prop := v = none ∧ Fr n0 L ∧ Keep h0 h [a] ∧ Exa Z h a "java/lang/Long"
theorem d7_0 : decode jdk_35_method_26_code 0 = .ok (.aload_n 0, 1) := by decide +kernel
theorem d7_1 : decode jdk_35_method_26_code 1 = .ok (.invokespecial 270, 3) := by decide +kernel
theorem d7_4 : decode jdk_35_method_26_code 4 = .ok (.aload_n 0, 1) := by decide +kernel
theorem d7_5 : decode jdk_35_method_26_code 5 = .ok (.lload_n 1, 1) := by decide +kernel
theorem d7_6 : decode jdk_35_method_26_code 6 = .ok (.putfield 273, 3) := by decide +kernel
theorem d7_9 : decode jdk_35_method_26_code 9 = .ok (.return_, 1) := by decide +kernel
theorem pn_8 : plainName "java/lang/Long" = true := by first | (simp [plainName, overriddenIn]; done) | decide +kernel
theorem ef_7_RJ (m : MethodId) (x0 : Addr) (x1 : Int64) : entryFrame m #[(.ref x0), (.long x1)] 3 = mkF m 0 #[.val (.ref x0), .val (.long x1), .second] [] := by first | (simp [entryFrame, mkF, argsToLocals, Value.category]; done) | rfl
set_option maxRecDepth 65536 in
set_option maxHeartbeats 40000000 in
theorem longI (l : Launch) (Z : State) (a0 : Array Value) (hw : ∀ d ∈ tables_1, d.before a0 Z = true) (ws : List Jvm.Cond) (a : Addr) (pj : Int64) (h0 : Heap) (n0 : Nat) (O0 : Old Z n0 h0) (P0 : Fld Z h0 a "java/lang/Long" "value" "J" (.long (0 : Int64))) (P1 : Exa Z h0 a "java/lang/Long") (g_a : n0 ≤ a) :
    MetFree l (⟨"java/lang/Long", "<init>", "(J)V"⟩ : MethodName) (head1 (Jvm.Cond.code (⟨"java/lang/Long", "<init>", "(J)V"⟩ : MethodName) jdk_35_method_26_code 3 none :: ws) ({ frames := 2, cells := 0, slots := 0, locals := 24 } : Room)) (fun zA zU => zA = #[(.ref a), (.long pj)] ∧ Z.Warmed39 zU.vm ∧ zU.heap = h0) (fun _ _ _ _ _ => True) (fun _ zU zo zU' => ∃ zv zL, zo = .returned zv ∧ Q_longI Z a pj h0 n0 zv zU'.heap zL ∧ FrameEnd zU zo zU' zL ({ frames := 2, cells := 0, slots := 0, locals := 24 } : Room).cells ({ frames := 2, cells := 0, slots := 0, locals := 24 } : Room).slots) := by
  refine MetFree.of_bodySF (plainFor_of_name pn_8) hisR ?_
  intro p e s m args below meth c s₁ Bd hml0 hP hK
  obtain ⟨rfl, hZ, hh⟩ := hP
  have hx := Bd.exec
  have hby := Bd.bytes
  have hml : c.maxLocals = 3 := hml0
  have hown : s.vm.findClass "java/lang/Long" = some m.cls := findClass_of_methodNamed Bd.named
  have hnm := (name_of_methodNamed Bd.named Bd.method).1
  have X0 : Stand p l e ({ frames := 2, cells := 0, slots := 0, locals := 24 } : Room) s m #[(.ref a), (.long pj)] below meth c s₁ [] 0 0 := Stand.of_body Bd
  have e0 : s₁.heap = h0 := by rw [← hh, Bd.state]; rfl
  have N0 := Fr.nil n0
  have Z0 : n0 ≤ h0.size := O0.1 ▸ O0.2.1
  have pre0 : ∀ zt, Steps p.tables e below (s₁.setTop (mkF m 0 #[.val (.ref a), .val (.long pj), .second] [])) zt → Steps p.tables e below (s₁.setTop (entryFrame m #[(.ref a), (.long pj)] 3)) zt := fun zt zk => castTop (ef_7_RJ m a pj) zk
  obtain ⟨_, _, ⟨T1, L1, k1, n1⟩, -, X1, ⟨Lc1, hQ1, l1, y1, z1⟩, st1⟩ := X0.specialBack hx (y := (⟨"java/lang/Number", "<init>", "()V"⟩ : MethodName)) rfl hown (mvT hZ (hw _ (List.mem_of_getElem? (i := 42) rfl))) (mvT hZ (hw _ (List.mem_of_getElem? (i := 43) rfl))) (mvT hZ (hw _ (List.mem_of_getElem? (i := 47) rfl))) (by decide) (backOf (W := 0) (numI l Z a0 hw [] a h0 n0 O0 ) hZ (hw _ (List.mem_of_getElem? (i := 47) rfl)) (hw _ (List.mem_of_getElem? (i := 46) rfl)) (by decide) (by decide)) (g := (mkF m 1 #[.val (.ref a), .val (.long pj), .second] [(.ref a)])) rfl (by rw [hml]; rfl) (Steps.refl _) (a := a) (argsL := []) (rest := []) (lenOf pd_0 rfl) rfl (by show 2 * 0 + _ ≤ _; exact Nat.le_of_eq rfl) (hb hby d7_1) (fun _ _ => ⟨rfl, e0, (by decide : 0 + 0 ≤ _), (by decide : 0 + 0 ≤ _)⟩)
  dsimp only [Pt.U, Pt.locs, Pt.cells, Pt.slots] at X1 l1 y1 z1 st1 hQ1
  subst l1 y1 z1
  obtain ⟨rfl, Nq1, kh1⟩ := hQ1
  have N1 := Fr.app N0 Nq1
  obtain ⟨T2, h2, X2, e2, W2, st2⟩ := putF X1 hx hZ hown (host := "") (Or.inl (hw _ (List.mem_of_getElem? (i := 49) rfl))) Via.refl kh1 P0 P1 (Or.inr ⟨(hw _ (List.mem_of_getElem? (i := 50) rfl)), rfl, hnm⟩) (hw _ (List.mem_of_getElem? (i := 37) rfl)) (ty := .long) (by decide) rfl rfl (g := (mkF m 6 #[.val (.ref a), .val (.long pj), .second] [(.long pj), (.ref a)])) rfl rfl (hb hby d7_6)
  have Fw2 := P0.same W2
  have O2 := O0.wr W2 g_a
  have K2 : Keep h0 h2 [a] := (Keep.refl h0 [a]).wr W2 (Or.inl (List.mem_of_getElem? (i := 0) rfl))
  have N2 := Fr.snoc X2 N1 g_a
  obtain ⟨fs, hr, hrun, hended, hW, hsame⟩ := X2.leave (v := none) (fun _ => rfl)
  refine ⟨_, _, pre0 _ ?_, hrun, hended, _, _, rfl, ?_, ⟨_, rfl⟩, hW, hsame.mono (by decide) (by decide)⟩
  · show Steps p.tables e below (s₁.setTop (mkF m 0 #[.val (.ref a), .val (.long pj), .second] [])) _
    refine XS.aloadN X0.here hx rfl (hb hby d7_0) rfl rfl ?_
    show Steps p.tables e below (s₁.setTop (mkF m 1 #[.val (.ref a), .val (.long pj), .second] [(.ref a)])) _
    refine st1.trans ?_
    show Steps p.tables e below (T1.setTop (mkF m 4 #[.val (.ref a), .val (.long pj), .second] [])) _
    refine XS.aloadN X1.here hx rfl (hb hby d7_4) rfl rfl ?_
    show Steps p.tables e below (T1.setTop (mkF m 5 #[.val (.ref a), .val (.long pj), .second] [(.ref a)])) _
    refine XS.lloadN X1.here hx rfl (hb hby d7_5) rfl ?_
    show Steps p.tables e below (T1.setTop (mkF m 6 #[.val (.ref a), .val (.long pj), .second] [(.long pj), (.ref a)])) _
    refine st2 _ ?_
    show Steps p.tables e below (T2.setTop (mkF m 9 #[.val (.ref a), .val (.long pj), .second] [])) _
    exact X2.returnOut hx Bd.returns (hb hby d7_9) hr
  · show Q_longI Z a pj h0 n0 _ T2.heap _
    rw [e2]
    exact ⟨rfl, N2, K2, (P1.wr W2)⟩
def Q_valueOf (Z : State) (pj : Int64) (wc : Addr) (h0 : Heap) (n0 : Nat) (v : Option Value) (h : Heap) (L : List Loc) : Prop := ∃ r : Addr, v = some (.ref r) ∧ Fr n0 L ∧ Keep h0 h [] ∧ Exa Z h r "java/lang/Long"
theorem d9_0 : decode jdk_35_method_24_code 0 = .ok (.sipush 128, 3) := by decide +kernel
theorem d9_3 : decode jdk_35_method_24_code 3 = .ok (.istore_n 2, 1) := by decide +kernel
theorem d9_4 : decode jdk_35_method_24_code 4 = .ok (.lload_n 0, 1) := by decide +kernel
theorem d9_5 : decode jdk_35_method_24_code 5 = .ok (.ldc2_w 230, 3) := by decide +kernel
theorem d9_8 : decode jdk_35_method_24_code 8 = .ok (.lcmp, 1) := by decide +kernel
theorem d9_9 : decode jdk_35_method_24_code 9 = .ok (.ifCond .lt 22, 3) := by decide +kernel
theorem d9_12 : decode jdk_35_method_24_code 12 = .ok (.lload_n 0, 1) := by decide +kernel
theorem d9_13 : decode jdk_35_method_24_code 13 = .ok (.ldc2_w 232, 3) := by decide +kernel
theorem d9_16 : decode jdk_35_method_24_code 16 = .ok (.lcmp, 1) := by decide +kernel
theorem d9_17 : decode jdk_35_method_24_code 17 = .ok (.ifCond .gt 14, 3) := by decide +kernel
theorem d9_20 : decode jdk_35_method_24_code 20 = .ok (.getstatic 234, 3) := by decide +kernel
theorem d9_23 : decode jdk_35_method_24_code 23 = .ok (.lload_n 0, 1) := by decide +kernel
theorem d9_24 : decode jdk_35_method_24_code 24 = .ok (.l2i, 1) := by decide +kernel
theorem d9_25 : decode jdk_35_method_24_code 25 = .ok (.sipush 128, 3) := by decide +kernel
theorem d9_28 : decode jdk_35_method_24_code 28 = .ok (.iadd, 1) := by decide +kernel
theorem d9_29 : decode jdk_35_method_24_code 29 = .ok (.aaload, 1) := by decide +kernel
theorem d9_30 : decode jdk_35_method_24_code 30 = .ok (.areturn, 1) := by decide +kernel
theorem ef_9_J (m : MethodId) (x0 : Int64) : entryFrame m #[(.long x0)] 3 = mkF m 0 #[.val (.long x0), .second, .unset] [] := by first | (simp [entryFrame, mkF, argsToLocals, Value.category]; done) | rfl
set_option maxRecDepth 65536 in
set_option maxHeartbeats 40000000 in
theorem valueOf_1 (l : Launch) (Z : State) (a0 : Array Value) (hw : ∀ d ∈ tables_1, d.before a0 Z = true) (ws : List Jvm.Cond) (pj : Int64) (wc : Addr) (h0 : Heap) (n0 : Nat) (O0 : Old Z n0 h0) (G0 : Sta Z Z.heap "java/lang/Long$LongCache" "cache" "[Ljava/lang/Long;" (.ref wc)) (CA : Cache Z wc "java/lang/Long") (hc9 : ¬ ((lcmpW pj (-128 : Int64)) < (0 : Int32))) (hc17 : ¬ ((0 : Int32) < (lcmpW pj (127 : Int64)))) :
    MetFree l (⟨"java/lang/Long", "valueOf", "(J)Ljava/lang/Long;"⟩ : MethodName) (head1 (Jvm.Cond.code (⟨"java/lang/Long", "valueOf", "(J)Ljava/lang/Long;"⟩ : MethodName) jdk_35_method_24_code 3 (some (.object "java/lang/Long")) :: ws) ({ frames := 3, cells := 1, slots := 1, locals := 39 } : Room)) (fun zA zU => zA = #[(.long pj)] ∧ Z.Warmed39 zU.vm ∧ zU.heap = h0) (fun _ _ _ _ _ => True) (fun _ zU zo zU' => ∃ zv zL, zo = .returned zv ∧ Q_valueOf Z pj wc h0 n0 zv zU'.heap zL ∧ FrameEnd zU zo zU' zL ({ frames := 3, cells := 1, slots := 1, locals := 39 } : Room).cells ({ frames := 3, cells := 1, slots := 1, locals := 39 } : Room).slots) := by
  refine MetFree.of_bodySF (plainFor_of_name pn_8) hisR ?_
  intro p e s m args below meth c s₁ Bd hml0 hP hK
  obtain ⟨rfl, hZ, hh⟩ := hP
  have hx := Bd.exec
  have hby := Bd.bytes
  have hml : c.maxLocals = 3 := hml0
  have hown : s.vm.findClass "java/lang/Long" = some m.cls := findClass_of_methodNamed Bd.named
  have hnm := (name_of_methodNamed Bd.named Bd.method).1
  have X0 : Stand p l e ({ frames := 3, cells := 1, slots := 1, locals := 39 } : Room) s m #[(.long pj)] below meth c s₁ [] 0 0 := Stand.of_body Bd
  have e0 : s₁.heap = h0 := by rw [← hh, Bd.state]; rfl
  have N0 := Fr.nil n0
  have Z0 : n0 ≤ h0.size := O0.1 ▸ O0.2.1
  have pre0 : ∀ zt, Steps p.tables e below (s₁.setTop (mkF m 0 #[.val (.long pj), .second, .unset] [])) zt → Steps p.tables e below (s₁.setTop (entryFrame m #[(.long pj)] 3)) zt := fun zt zk => castTop (ef_9_J m pj) zk
  obtain ⟨T1, X1, e1, st1⟩ := getS2 X0 hx hZ hown (host := "") (Or.inl (hw _ (List.mem_of_getElem? (i := 24) rfl))) Via.refl e0 (G0.ext O0.2) (g := (mkF m 20 #[.val (.long pj), .second, .val (.int (128 : Int32))] [])) rfl (hb hby d9_20)
  obtain ⟨hin2, hlt2⟩ := Jvm.Free.LongBox.place_okL pj (fun h => hc9 ((lw_lt _ _).mpr h)) (fun h => hc17 ((lw_gt _ _).mpr h))
  obtain ⟨cl2, Ar2, Sz2, El2⟩ := CA
  obtain ⟨r2, hat2, Ex2⟩ := El2 _ hlt2
  have Ar2' := Ar2.ext O0.2
  rw [← Sz2] at hin2
  obtain ⟨fs, hr, hrun, hended, hW, hsame⟩ := X1.leave (v := some (.ref r2)) (fun h => by rw [Bd.returns] at h; cases h)
  refine ⟨_, _, pre0 _ ?_, hrun, hended, _, _, rfl, ?_, ⟨_, rfl⟩, hW, hsame.mono (by decide) (by decide)⟩
  · show Steps p.tables e below (s₁.setTop (mkF m 0 #[.val (.long pj), .second, .unset] [])) _
    refine XS.sipush X0.here hx rfl (hb hby d9_0) ?_
    show Steps p.tables e below (s₁.setTop (mkF m 3 #[.val (.long pj), .second, .unset] [(.int (128 : Int32))])) _
    refine XS.istoreN X0.here hx rfl (hb hby d9_3) rfl (l' := #[.val (.long pj), .second, .val (.int (128 : Int32))]) rfl ?_
    show Steps p.tables e below (s₁.setTop (mkF m 4 #[.val (.long pj), .second, .val (.int (128 : Int32))] [])) _
    refine XS.lloadN X0.here hx rfl (hb hby d9_4) rfl ?_
    show Steps p.tables e below (s₁.setTop (mkF m 5 #[.val (.long pj), .second, .val (.int (128 : Int32))] [(.long pj)])) _
    refine X0.ldc2Long hx hown (mvT hZ (hw _ (List.mem_of_getElem? (i := 22) rfl))) (g := (mkF m 5 #[.val (.long pj), .second, .val (.int (128 : Int32))] [(.long pj)])) rfl (hb hby d9_5) _ ?_
    show Steps p.tables e below (s₁.setTop (mkF m 8 #[.val (.long pj), .second, .val (.int (128 : Int32))] [(.long (-128 : Int64)), (.long pj)])) _
    refine XS.lcmp X0.here hx rfl (hb hby d9_8) rfl ?_
    show Steps p.tables e below (s₁.setTop (mkF m 9 #[.val (.long pj), .second, .val (.int (128 : Int32))] [(.int (lcmpW pj (-128 : Int64)))])) _
    refine XS.ifNo X0.here hx rfl (hb hby d9_9) rfl ((if0 _ _).trans (flt (hc9 : ¬ ((lcmpW pj (-128 : Int64)) < (0 : Int32)))).1) ?_
    show Steps p.tables e below (s₁.setTop (mkF m 12 #[.val (.long pj), .second, .val (.int (128 : Int32))] [])) _
    refine XS.lloadN X0.here hx rfl (hb hby d9_12) rfl ?_
    show Steps p.tables e below (s₁.setTop (mkF m 13 #[.val (.long pj), .second, .val (.int (128 : Int32))] [(.long pj)])) _
    refine X0.ldc2Long hx hown (mvT hZ (hw _ (List.mem_of_getElem? (i := 23) rfl))) (g := (mkF m 13 #[.val (.long pj), .second, .val (.int (128 : Int32))] [(.long pj)])) rfl (hb hby d9_13) _ ?_
    show Steps p.tables e below (s₁.setTop (mkF m 16 #[.val (.long pj), .second, .val (.int (128 : Int32))] [(.long (127 : Int64)), (.long pj)])) _
    refine XS.lcmp X0.here hx rfl (hb hby d9_16) rfl ?_
    show Steps p.tables e below (s₁.setTop (mkF m 17 #[.val (.long pj), .second, .val (.int (128 : Int32))] [(.int (lcmpW pj (127 : Int64)))])) _
    refine XS.ifNo X0.here hx rfl (hb hby d9_17) rfl ((if0 _ _).trans (flt (hc17 : ¬ ((0 : Int32) < (lcmpW pj (127 : Int64))))).2.2.1) ?_
    show Steps p.tables e below (s₁.setTop (mkF m 20 #[.val (.long pj), .second, .val (.int (128 : Int32))] [])) _
    refine st1 _ ?_
    show Steps p.tables e below (T1.setTop (mkF m 23 #[.val (.long pj), .second, .val (.int (128 : Int32))] [(.ref wc)])) _
    refine XS.lloadN X1.here hx rfl (hb hby d9_23) rfl ?_
    show Steps p.tables e below (T1.setTop (mkF m 24 #[.val (.long pj), .second, .val (.int (128 : Int32))] [(.long pj), (.ref wc)])) _
    refine XS.l2i X1.here hx rfl (hb hby d9_24) rfl ?_
    show Steps p.tables e below (T1.setTop (mkF m 25 #[.val (.long pj), .second, .val (.int (128 : Int32))] [(.int (pj.toInt32)), (.ref wc)])) _
    refine XS.sipush X1.here hx rfl (hb hby d9_25) ?_
    show Steps p.tables e below (T1.setTop (mkF m 28 #[.val (.long pj), .second, .val (.int (128 : Int32))] [(.int (128 : Int32)), (.int (pj.toInt32)), (.ref wc)])) _
    refine XS.iadd X1.here hx rfl (hb hby d9_28) rfl ?_
    show Steps p.tables e below (T1.setTop (mkF m 29 #[.val (.long pj), .second, .val (.int (128 : Int32))] [(.int ((pj.toInt32) + (128 : Int32))), (.ref wc)])) _
    refine X1.aaload hx (j := ((pj.toInt32) + (128 : Int32))) (v := (.ref r2)) (Ar2'.at_ e1) (State.isArrayOf_alike hZ.alike Ar2'.2.1) rfl Ar2'.2.2 hin2 hat2 (g := (mkF m 29 #[.val (.long pj), .second, .val (.int (128 : Int32))] [(.int ((pj.toInt32) + (128 : Int32))), (.ref wc)])) rfl rfl (hb hby d9_29) _ ?_
    show Steps p.tables e below (T1.setTop (mkF m 30 #[.val (.long pj), .second, .val (.int (128 : Int32))] [(.ref r2)])) _
    jvm_step X1.here [X1.here.top, hx, (hb hby d9_30), X1.method', Bd.returns, Value.isRef, FieldType.isReference]
    first | (intro acts; rw [hr _ acts rfl rfl rfl]) | rw [hr _ _ rfl rfl rfl]
    exact Steps.refl _
  · show Q_valueOf Z pj wc h0 n0 _ T1.heap _
    rw [e1]
    exact ⟨r2, rfl, N0, (Keep.refl h0 []), (Ex2.ext O0.2)⟩
theorem d9_31 : decode jdk_35_method_24_code 31 = .ok (.new 1, 3) := by decide +kernel
theorem d9_34 : decode jdk_35_method_24_code 34 = .ok (.dup, 1) := by decide +kernel
theorem d9_35 : decode jdk_35_method_24_code 35 = .ok (.lload_n 0, 1) := by decide +kernel
theorem d9_36 : decode jdk_35_method_24_code 36 = .ok (.invokespecial 240, 3) := by decide +kernel
theorem pd_1 : parseMethodDescriptor "(J)V" = some ⟨[.long], none⟩ := by decide +kernel
theorem d9_39 : decode jdk_35_method_24_code 39 = .ok (.areturn, 1) := by decide +kernel
set_option maxRecDepth 65536 in
set_option maxHeartbeats 40000000 in
theorem valueOf_2 (l : Launch) (Z : State) (a0 : Array Value) (hw : ∀ d ∈ tables_1, d.before a0 Z = true) (ws : List Jvm.Cond) (pj : Int64) (wc : Addr) (h0 : Heap) (n0 : Nat) (O0 : Old Z n0 h0) (G0 : Sta Z Z.heap "java/lang/Long$LongCache" "cache" "[Ljava/lang/Long;" (.ref wc)) (CA : Cache Z wc "java/lang/Long") (hc9 : (lcmpW pj (-128 : Int64)) < (0 : Int32)) :
    MetFree l (⟨"java/lang/Long", "valueOf", "(J)Ljava/lang/Long;"⟩ : MethodName) (head1 (Jvm.Cond.code (⟨"java/lang/Long", "valueOf", "(J)Ljava/lang/Long;"⟩ : MethodName) jdk_35_method_24_code 3 (some (.object "java/lang/Long")) :: ws) ({ frames := 3, cells := 1, slots := 1, locals := 39 } : Room)) (fun zA zU => zA = #[(.long pj)] ∧ Z.Warmed39 zU.vm ∧ zU.heap = h0) (fun _ _ _ _ _ => True) (fun _ zU zo zU' => ∃ zv zL, zo = .returned zv ∧ Q_valueOf Z pj wc h0 n0 zv zU'.heap zL ∧ FrameEnd zU zo zU' zL ({ frames := 3, cells := 1, slots := 1, locals := 39 } : Room).cells ({ frames := 3, cells := 1, slots := 1, locals := 39 } : Room).slots) := by
  refine MetFree.of_bodySF (plainFor_of_name pn_8) hisR ?_
  intro p e s m args below meth c s₁ Bd hml0 hP hK
  obtain ⟨rfl, hZ, hh⟩ := hP
  have hx := Bd.exec
  have hby := Bd.bytes
  have hml : c.maxLocals = 3 := hml0
  have hown : s.vm.findClass "java/lang/Long" = some m.cls := findClass_of_methodNamed Bd.named
  have hnm := (name_of_methodNamed Bd.named Bd.method).1
  have X0 : Stand p l e ({ frames := 3, cells := 1, slots := 1, locals := 39 } : Room) s m #[(.long pj)] below meth c s₁ [] 0 0 := Stand.of_body Bd
  have e0 : s₁.heap = h0 := by rw [← hh, Bd.state]; rfl
  have N0 := Fr.nil n0
  have Z0 : n0 ≤ h0.size := O0.1 ▸ O0.2.1
  have pre0 : ∀ zt, Steps p.tables e below (s₁.setTop (mkF m 0 #[.val (.long pj), .second, .unset] [])) zt → Steps p.tables e below (s₁.setTop (entryFrame m #[(.long pj)] 3)) zt := fun zt zk => castTop (ef_9_J m pj) zk
  obtain ⟨T1, h1, X1, e1, E1, A1, D1, U1, st1⟩ := newO X0 hx hZ hown (hw _ (List.mem_of_getElem? (i := 36) rfl)) (hw _ (List.mem_of_getElem? (i := 37) rfl)) (hw _ (List.mem_of_getElem? (i := 20) rfl)) e0 (g := (mkF m 31 #[.val (.long pj), .second, .val (.int (128 : Int32))] [])) rfl (hb hby d9_31) (by decide) (by decide)
  obtain ⟨b1, gz1⟩ : ∃ z, z = h0.size := ⟨_, rfl⟩
  rw [← gz1] at A1 D1 U1 st1
  have sz_b1 : h0.size ≤ b1 := Nat.le_trans (Keep.refl h0 []).1 (Nat.le_of_eq gz1.symm)
  have g_b1 : n0 ≤ b1 := Nat.le_trans Z0 sz_b1
  have O1 := O0.ext E1
  have K1 : Keep h0 h1 [] := (Keep.refl h0 []).ext E1
  have Fi1_50 : Fld Z h1 b1 "java/lang/Long" "value" "J" (.long (0 : Int64)) := D1 (Or.inr (hw _ (List.mem_of_getElem? (i := 50) rfl))) (ty := .long) (by decide)
  obtain ⟨_, _, ⟨T2, L2, k2, n2⟩, -, X2, ⟨Lc2, hQ2, l2, y2, z2⟩, st2⟩ := X1.specialBack hx (y := (⟨"java/lang/Long", "<init>", "(J)V"⟩ : MethodName)) rfl hown (mvT hZ (hw _ (List.mem_of_getElem? (i := 38) rfl))) (mvT hZ (hw _ (List.mem_of_getElem? (i := 39) rfl))) (mvT hZ (hw _ (List.mem_of_getElem? (i := 41) rfl))) (by decide) (backOf (W := 1) (longI l Z a0 hw [] b1 pj h1 n0 O1 Fi1_50 A1 g_b1) hZ (hw _ (List.mem_of_getElem? (i := 41) rfl)) (hw _ (List.mem_of_getElem? (i := 20) rfl)) (by decide) (by decide)) (g := (mkF m 36 #[.val (.long pj), .second, .val (.int (128 : Int32))] [(.long pj), (.ref b1), (.ref b1)])) rfl (by rw [hml]; rfl) (Steps.refl _) (a := b1) (argsL := [(.long pj)]) (rest := [(.ref b1)]) (lenOf pd_1 rfl) rfl (by show 2 * 0 + _ ≤ _; exact Nat.le_of_eq rfl) (hb hby d9_36) (fun _ _ => ⟨rfl, e1, (by decide : 1 + 0 ≤ _), (by decide : 1 + 0 ≤ _)⟩)
  dsimp only [Pt.U, Pt.locs, Pt.cells, Pt.slots] at X2 l2 y2 z2 st2 hQ2
  subst l2 y2 z2
  obtain ⟨rfl, Nq2, kh2, Po2_0⟩ := hQ2
  have N2 := Fr.app N0 Nq2
  have O2 := O1.keep kh2 (allS g_b1 all0)
  have K2 : Keep h0 T2.heap [] := K1.trans kh2 (allS (Or.inr sz_b1) all0)
  obtain ⟨fs, hr, hrun, hended, hW, hsame⟩ := X2.leave (v := some (.ref b1)) (fun h => by rw [Bd.returns] at h; cases h)
  refine ⟨_, _, pre0 _ ?_, hrun, hended, _, _, rfl, ?_, ⟨_, rfl⟩, hW, hsame.mono (by decide) (by decide)⟩
  · show Steps p.tables e below (s₁.setTop (mkF m 0 #[.val (.long pj), .second, .unset] [])) _
    refine XS.sipush X0.here hx rfl (hb hby d9_0) ?_
    show Steps p.tables e below (s₁.setTop (mkF m 3 #[.val (.long pj), .second, .unset] [(.int (128 : Int32))])) _
    refine XS.istoreN X0.here hx rfl (hb hby d9_3) rfl (l' := #[.val (.long pj), .second, .val (.int (128 : Int32))]) rfl ?_
    show Steps p.tables e below (s₁.setTop (mkF m 4 #[.val (.long pj), .second, .val (.int (128 : Int32))] [])) _
    refine XS.lloadN X0.here hx rfl (hb hby d9_4) rfl ?_
    show Steps p.tables e below (s₁.setTop (mkF m 5 #[.val (.long pj), .second, .val (.int (128 : Int32))] [(.long pj)])) _
    refine X0.ldc2Long hx hown (mvT hZ (hw _ (List.mem_of_getElem? (i := 22) rfl))) (g := (mkF m 5 #[.val (.long pj), .second, .val (.int (128 : Int32))] [(.long pj)])) rfl (hb hby d9_5) _ ?_
    show Steps p.tables e below (s₁.setTop (mkF m 8 #[.val (.long pj), .second, .val (.int (128 : Int32))] [(.long (-128 : Int64)), (.long pj)])) _
    refine XS.lcmp X0.here hx rfl (hb hby d9_8) rfl ?_
    show Steps p.tables e below (s₁.setTop (mkF m 9 #[.val (.long pj), .second, .val (.int (128 : Int32))] [(.int (lcmpW pj (-128 : Int64)))])) _
    refine XS.ifYes X0.here hx rfl (pc0 := 9) (pc' := 31) rfl (hb hby d9_9) rfl ((if0 _ _).trans (tlt (hc9 : (lcmpW pj (-128 : Int64)) < (0 : Int32))).1) (by decide) (by decide) ?_
    show Steps p.tables e below (s₁.setTop (mkF m 31 #[.val (.long pj), .second, .val (.int (128 : Int32))] [])) _
    refine st1 _ ?_
    show Steps p.tables e below (T1.setTop (mkF m 34 #[.val (.long pj), .second, .val (.int (128 : Int32))] [(.ref b1)])) _
    refine XS.dup X1.here hx rfl (hb hby d9_34) rfl rfl ?_
    show Steps p.tables e below (T1.setTop (mkF m 35 #[.val (.long pj), .second, .val (.int (128 : Int32))] [(.ref b1), (.ref b1)])) _
    refine XS.lloadN X1.here hx rfl (hb hby d9_35) rfl ?_
    show Steps p.tables e below (T1.setTop (mkF m 36 #[.val (.long pj), .second, .val (.int (128 : Int32))] [(.long pj), (.ref b1), (.ref b1)])) _
    refine st2.trans ?_
    show Steps p.tables e below (T2.setTop (mkF m 39 #[.val (.long pj), .second, .val (.int (128 : Int32))] [(.ref b1)])) _
    jvm_step X2.here [X2.here.top, hx, (hb hby d9_39), X2.method', Bd.returns, Value.isRef, FieldType.isReference]
    first | (intro acts; rw [hr _ acts rfl rfl rfl]) | rw [hr _ _ rfl rfl rfl]
    exact Steps.refl _
  · show Q_valueOf Z pj wc h0 n0 _ T2.heap _
    exact ⟨b1, rfl, N2, K2, Po2_0⟩
set_option maxRecDepth 65536 in
set_option maxHeartbeats 40000000 in
theorem valueOf_3 (l : Launch) (Z : State) (a0 : Array Value) (hw : ∀ d ∈ tables_1, d.before a0 Z = true) (ws : List Jvm.Cond) (pj : Int64) (wc : Addr) (h0 : Heap) (n0 : Nat) (O0 : Old Z n0 h0) (G0 : Sta Z Z.heap "java/lang/Long$LongCache" "cache" "[Ljava/lang/Long;" (.ref wc)) (CA : Cache Z wc "java/lang/Long") (hc9 : ¬ ((lcmpW pj (-128 : Int64)) < (0 : Int32))) (hc17 : (0 : Int32) < (lcmpW pj (127 : Int64))) :
    MetFree l (⟨"java/lang/Long", "valueOf", "(J)Ljava/lang/Long;"⟩ : MethodName) (head1 (Jvm.Cond.code (⟨"java/lang/Long", "valueOf", "(J)Ljava/lang/Long;"⟩ : MethodName) jdk_35_method_24_code 3 (some (.object "java/lang/Long")) :: ws) ({ frames := 3, cells := 1, slots := 1, locals := 39 } : Room)) (fun zA zU => zA = #[(.long pj)] ∧ Z.Warmed39 zU.vm ∧ zU.heap = h0) (fun _ _ _ _ _ => True) (fun _ zU zo zU' => ∃ zv zL, zo = .returned zv ∧ Q_valueOf Z pj wc h0 n0 zv zU'.heap zL ∧ FrameEnd zU zo zU' zL ({ frames := 3, cells := 1, slots := 1, locals := 39 } : Room).cells ({ frames := 3, cells := 1, slots := 1, locals := 39 } : Room).slots) := by
  refine MetFree.of_bodySF (plainFor_of_name pn_8) hisR ?_
  intro p e s m args below meth c s₁ Bd hml0 hP hK
  obtain ⟨rfl, hZ, hh⟩ := hP
  have hx := Bd.exec
  have hby := Bd.bytes
  have hml : c.maxLocals = 3 := hml0
  have hown : s.vm.findClass "java/lang/Long" = some m.cls := findClass_of_methodNamed Bd.named
  have hnm := (name_of_methodNamed Bd.named Bd.method).1
  have X0 : Stand p l e ({ frames := 3, cells := 1, slots := 1, locals := 39 } : Room) s m #[(.long pj)] below meth c s₁ [] 0 0 := Stand.of_body Bd
  have e0 : s₁.heap = h0 := by rw [← hh, Bd.state]; rfl
  have N0 := Fr.nil n0
  have Z0 : n0 ≤ h0.size := O0.1 ▸ O0.2.1
  have pre0 : ∀ zt, Steps p.tables e below (s₁.setTop (mkF m 0 #[.val (.long pj), .second, .unset] [])) zt → Steps p.tables e below (s₁.setTop (entryFrame m #[(.long pj)] 3)) zt := fun zt zk => castTop (ef_9_J m pj) zk
  obtain ⟨T1, h1, X1, e1, E1, A1, D1, U1, st1⟩ := newO X0 hx hZ hown (hw _ (List.mem_of_getElem? (i := 36) rfl)) (hw _ (List.mem_of_getElem? (i := 37) rfl)) (hw _ (List.mem_of_getElem? (i := 20) rfl)) e0 (g := (mkF m 31 #[.val (.long pj), .second, .val (.int (128 : Int32))] [])) rfl (hb hby d9_31) (by decide) (by decide)
  obtain ⟨b1, gz1⟩ : ∃ z, z = h0.size := ⟨_, rfl⟩
  rw [← gz1] at A1 D1 U1 st1
  have sz_b1 : h0.size ≤ b1 := Nat.le_trans (Keep.refl h0 []).1 (Nat.le_of_eq gz1.symm)
  have g_b1 : n0 ≤ b1 := Nat.le_trans Z0 sz_b1
  have O1 := O0.ext E1
  have K1 : Keep h0 h1 [] := (Keep.refl h0 []).ext E1
  have Fi1_50 : Fld Z h1 b1 "java/lang/Long" "value" "J" (.long (0 : Int64)) := D1 (Or.inr (hw _ (List.mem_of_getElem? (i := 50) rfl))) (ty := .long) (by decide)
  obtain ⟨_, _, ⟨T2, L2, k2, n2⟩, -, X2, ⟨Lc2, hQ2, l2, y2, z2⟩, st2⟩ := X1.specialBack hx (y := (⟨"java/lang/Long", "<init>", "(J)V"⟩ : MethodName)) rfl hown (mvT hZ (hw _ (List.mem_of_getElem? (i := 38) rfl))) (mvT hZ (hw _ (List.mem_of_getElem? (i := 39) rfl))) (mvT hZ (hw _ (List.mem_of_getElem? (i := 41) rfl))) (by decide) (backOf (W := 1) (longI l Z a0 hw [] b1 pj h1 n0 O1 Fi1_50 A1 g_b1) hZ (hw _ (List.mem_of_getElem? (i := 41) rfl)) (hw _ (List.mem_of_getElem? (i := 20) rfl)) (by decide) (by decide)) (g := (mkF m 36 #[.val (.long pj), .second, .val (.int (128 : Int32))] [(.long pj), (.ref b1), (.ref b1)])) rfl (by rw [hml]; rfl) (Steps.refl _) (a := b1) (argsL := [(.long pj)]) (rest := [(.ref b1)]) (lenOf pd_1 rfl) rfl (by show 2 * 0 + _ ≤ _; exact Nat.le_of_eq rfl) (hb hby d9_36) (fun _ _ => ⟨rfl, e1, (by decide : 1 + 0 ≤ _), (by decide : 1 + 0 ≤ _)⟩)
  dsimp only [Pt.U, Pt.locs, Pt.cells, Pt.slots] at X2 l2 y2 z2 st2 hQ2
  subst l2 y2 z2
  obtain ⟨rfl, Nq2, kh2, Po2_0⟩ := hQ2
  have N2 := Fr.app N0 Nq2
  have O2 := O1.keep kh2 (allS g_b1 all0)
  have K2 : Keep h0 T2.heap [] := K1.trans kh2 (allS (Or.inr sz_b1) all0)
  obtain ⟨fs, hr, hrun, hended, hW, hsame⟩ := X2.leave (v := some (.ref b1)) (fun h => by rw [Bd.returns] at h; cases h)
  refine ⟨_, _, pre0 _ ?_, hrun, hended, _, _, rfl, ?_, ⟨_, rfl⟩, hW, hsame.mono (by decide) (by decide)⟩
  · show Steps p.tables e below (s₁.setTop (mkF m 0 #[.val (.long pj), .second, .unset] [])) _
    refine XS.sipush X0.here hx rfl (hb hby d9_0) ?_
    show Steps p.tables e below (s₁.setTop (mkF m 3 #[.val (.long pj), .second, .unset] [(.int (128 : Int32))])) _
    refine XS.istoreN X0.here hx rfl (hb hby d9_3) rfl (l' := #[.val (.long pj), .second, .val (.int (128 : Int32))]) rfl ?_
    show Steps p.tables e below (s₁.setTop (mkF m 4 #[.val (.long pj), .second, .val (.int (128 : Int32))] [])) _
    refine XS.lloadN X0.here hx rfl (hb hby d9_4) rfl ?_
    show Steps p.tables e below (s₁.setTop (mkF m 5 #[.val (.long pj), .second, .val (.int (128 : Int32))] [(.long pj)])) _
    refine X0.ldc2Long hx hown (mvT hZ (hw _ (List.mem_of_getElem? (i := 22) rfl))) (g := (mkF m 5 #[.val (.long pj), .second, .val (.int (128 : Int32))] [(.long pj)])) rfl (hb hby d9_5) _ ?_
    show Steps p.tables e below (s₁.setTop (mkF m 8 #[.val (.long pj), .second, .val (.int (128 : Int32))] [(.long (-128 : Int64)), (.long pj)])) _
    refine XS.lcmp X0.here hx rfl (hb hby d9_8) rfl ?_
    show Steps p.tables e below (s₁.setTop (mkF m 9 #[.val (.long pj), .second, .val (.int (128 : Int32))] [(.int (lcmpW pj (-128 : Int64)))])) _
    refine XS.ifNo X0.here hx rfl (hb hby d9_9) rfl ((if0 _ _).trans (flt (hc9 : ¬ ((lcmpW pj (-128 : Int64)) < (0 : Int32)))).1) ?_
    show Steps p.tables e below (s₁.setTop (mkF m 12 #[.val (.long pj), .second, .val (.int (128 : Int32))] [])) _
    refine XS.lloadN X0.here hx rfl (hb hby d9_12) rfl ?_
    show Steps p.tables e below (s₁.setTop (mkF m 13 #[.val (.long pj), .second, .val (.int (128 : Int32))] [(.long pj)])) _
    refine X0.ldc2Long hx hown (mvT hZ (hw _ (List.mem_of_getElem? (i := 23) rfl))) (g := (mkF m 13 #[.val (.long pj), .second, .val (.int (128 : Int32))] [(.long pj)])) rfl (hb hby d9_13) _ ?_
    show Steps p.tables e below (s₁.setTop (mkF m 16 #[.val (.long pj), .second, .val (.int (128 : Int32))] [(.long (127 : Int64)), (.long pj)])) _
    refine XS.lcmp X0.here hx rfl (hb hby d9_16) rfl ?_
    show Steps p.tables e below (s₁.setTop (mkF m 17 #[.val (.long pj), .second, .val (.int (128 : Int32))] [(.int (lcmpW pj (127 : Int64)))])) _
    refine XS.ifYes X0.here hx rfl (pc0 := 17) (pc' := 31) rfl (hb hby d9_17) rfl ((if0 _ _).trans (tlt (hc17 : (0 : Int32) < (lcmpW pj (127 : Int64)))).2.2.1) (by decide) (by decide) ?_
    show Steps p.tables e below (s₁.setTop (mkF m 31 #[.val (.long pj), .second, .val (.int (128 : Int32))] [])) _
    refine st1 _ ?_
    show Steps p.tables e below (T1.setTop (mkF m 34 #[.val (.long pj), .second, .val (.int (128 : Int32))] [(.ref b1)])) _
    refine XS.dup X1.here hx rfl (hb hby d9_34) rfl rfl ?_
    show Steps p.tables e below (T1.setTop (mkF m 35 #[.val (.long pj), .second, .val (.int (128 : Int32))] [(.ref b1), (.ref b1)])) _
    refine XS.lloadN X1.here hx rfl (hb hby d9_35) rfl ?_
    show Steps p.tables e below (T1.setTop (mkF m 36 #[.val (.long pj), .second, .val (.int (128 : Int32))] [(.long pj), (.ref b1), (.ref b1)])) _
    refine st2.trans ?_
    show Steps p.tables e below (T2.setTop (mkF m 39 #[.val (.long pj), .second, .val (.int (128 : Int32))] [(.ref b1)])) _
    jvm_step X2.here [X2.here.top, hx, (hb hby d9_39), X2.method', Bd.returns, Value.isRef, FieldType.isReference]
    first | (intro acts; rw [hr _ acts rfl rfl rfl]) | rw [hr _ _ rfl rfl rfl]
    exact Steps.refl _
  · show Q_valueOf Z pj wc h0 n0 _ T2.heap _
    exact ⟨b1, rfl, N2, K2, Po2_0⟩
set_option maxRecDepth 65536 in
set_option maxHeartbeats 40000000 in
theorem valueOf (l : Launch) (Z : State) (a0 : Array Value) (hw : ∀ d ∈ tables_1, d.before a0 Z = true) (ws : List Jvm.Cond) (pj : Int64) (wc : Addr) (h0 : Heap) (n0 : Nat) (O0 : Old Z n0 h0) (G0 : Sta Z Z.heap "java/lang/Long$LongCache" "cache" "[Ljava/lang/Long;" (.ref wc)) (CA : Cache Z wc "java/lang/Long") :
    MetFree l (⟨"java/lang/Long", "valueOf", "(J)Ljava/lang/Long;"⟩ : MethodName) (head1 (Jvm.Cond.code (⟨"java/lang/Long", "valueOf", "(J)Ljava/lang/Long;"⟩ : MethodName) jdk_35_method_24_code 3 (some (.object "java/lang/Long")) :: ws) ({ frames := 3, cells := 1, slots := 1, locals := 39 } : Room)) (fun zA zU => zA = #[(.long pj)] ∧ Z.Warmed39 zU.vm ∧ zU.heap = h0) (fun _ _ _ _ _ => True) (fun _ zU zo zU' => ∃ zv zL, zo = .returned zv ∧ Q_valueOf Z pj wc h0 n0 zv zU'.heap zL ∧ FrameEnd zU zo zU' zL ({ frames := 3, cells := 1, slots := 1, locals := 39 } : Room).cells ({ frames := 3, cells := 1, slots := 1, locals := 39 } : Room).slots) := by
  by_cases h1 : (lcmpW pj (-128 : Int64)) < (0 : Int32)
  · exact valueOf_2 l Z a0 hw ws pj wc h0 n0 O0 G0 CA h1
  · by_cases h2 : (0 : Int32) < (lcmpW pj (127 : Int64))
    · exact valueOf_3 l Z a0 hw ws pj wc h0 n0 O0 G0 CA h1 h2
    · exact valueOf_1 l Z a0 hw ws pj wc h0 n0 O0 G0 CA h1 h2
def Q_eqT (Z : State) (a : Addr) (o : Addr) (s1 : Int64) (i1 : Int32) (s2 : Int64) (i2 : Int32) (h0 : Heap) (n0 : Nat) (v : Option Value) (h : Heap) (L : List Loc) : Prop := v = some (.int (eqV s1 i1 s2 i2)) ∧ Fr n0 L ∧ h = h0
theorem d10_0 : decode prog_17_method_2_code 0 = .ok (.aload_n 1, 1) := by decide +kernel
theorem d10_1 : decode prog_17_method_2_code 1 = .ok (.instanceof 8, 3) := by decide +kernel
theorem d10_4 : decode prog_17_method_2_code 4 = .ok (.ifCond .eq 35, 3) := by decide +kernel
theorem d10_7 : decode prog_17_method_2_code 7 = .ok (.aload_n 1, 1) := by decide +kernel
theorem d10_8 : decode prog_17_method_2_code 8 = .ok (.checkcast 8, 3) := by decide +kernel
theorem d10_11 : decode prog_17_method_2_code 11 = .ok (.astore_n 2, 1) := by decide +kernel
theorem d10_12 : decode prog_17_method_2_code 12 = .ok (.aload_n 0, 1) := by decide +kernel
theorem d10_13 : decode prog_17_method_2_code 13 = .ok (.getfield 7, 3) := by decide +kernel
theorem d10_16 : decode prog_17_method_2_code 16 = .ok (.aload_n 2, 1) := by decide +kernel
theorem d10_17 : decode prog_17_method_2_code 17 = .ok (.getfield 7, 3) := by decide +kernel
theorem d10_20 : decode prog_17_method_2_code 20 = .ok (.lcmp, 1) := by decide +kernel
theorem d10_21 : decode prog_17_method_2_code 21 = .ok (.ifCond .ne 18, 3) := by decide +kernel
theorem d10_39 : decode prog_17_method_2_code 39 = .ok (.iconst 0, 1) := by decide +kernel
theorem d10_40 : decode prog_17_method_2_code 40 = .ok (.ireturn, 1) := by decide +kernel
theorem ef_10_RR (m : MethodId) (x0 : Addr) (x1 : Addr) : entryFrame m #[(.ref x0), (.ref x1)] 3 = mkF m 0 #[.val (.ref x0), .val (.ref x1), .unset] [] := by first | (simp [entryFrame, mkF, argsToLocals, Value.category]; done) | rfl
set_option maxRecDepth 65536 in
set_option maxHeartbeats 40000000 in
theorem eqT_1 (l : Launch) (Z : State) (a0 : Array Value) (hw : ∀ d ∈ tables_1, d.before a0 Z = true) (ws : List Jvm.Cond) (a : Addr) (o : Addr) (s1 : Int64) (i1 : Int32) (s2 : Int64) (i2 : Int32) (h0 : Heap) (n0 : Nat) (O0 : Old Z n0 h0) (P0 : Fld Z h0 a "com/example/maat/maat/Turn" "seq" "J" (.long s1)) (P1 : Fld Z h0 a "com/example/maat/maat/Turn" "index" "I" (.int i1)) (P2 : Fld Z h0 o "com/example/maat/maat/Turn" "seq" "J" (.long s2)) (P3 : Fld Z h0 o "com/example/maat/maat/Turn" "index" "I" (.int i2)) (P4 : Exa Z h0 o "com/example/maat/maat/Turn") (hc21 : ¬ ((lcmpW s1 s2) = (0 : Int32))) :
    MetFree l (⟨"com/example/maat/maat/Turn", "equals", "(Ljava/lang/Object;)Z"⟩ : MethodName) (head1 (Jvm.Cond.code (⟨"com/example/maat/maat/Turn", "equals", "(Ljava/lang/Object;)Z"⟩ : MethodName) prog_17_method_2_code 3 (some .boolean) :: ws) ({ frames := 0, cells := 0, slots := 0, locals := 0 } : Room)) (fun zA zU => zA = #[(.ref a), (.ref o)] ∧ Z.Warmed39 zU.vm ∧ zU.heap = h0) (fun _ _ _ _ _ => True) (fun _ zU zo zU' => ∃ zv zL, zo = .returned zv ∧ Q_eqT Z a o s1 i1 s2 i2 h0 n0 zv zU'.heap zL ∧ FrameEnd zU zo zU' zL ({ frames := 0, cells := 0, slots := 0, locals := 0 } : Room).cells ({ frames := 0, cells := 0, slots := 0, locals := 0 } : Room).slots) := by
  refine MetFree.of_bodySF (plainFor_of_name pn_4) hisR ?_
  intro p e s m args below meth c s₁ Bd hml0 hP hK
  obtain ⟨rfl, hZ, hh⟩ := hP
  have hx := Bd.exec
  have hby := Bd.bytes
  have hml : c.maxLocals = 3 := hml0
  have hown : s.vm.findClass "com/example/maat/maat/Turn" = some m.cls := findClass_of_methodNamed Bd.named
  have hnm := (name_of_methodNamed Bd.named Bd.method).1
  have X0 : Stand p l e ({ frames := 0, cells := 0, slots := 0, locals := 0 } : Room) s m #[(.ref a), (.ref o)] below meth c s₁ [] 0 0 := Stand.of_body Bd
  have e0 : s₁.heap = h0 := by rw [← hh, Bd.state]; rfl
  have N0 := Fr.nil n0
  have Z0 : n0 ≤ h0.size := O0.1 ▸ O0.2.1
  have pre0 : ∀ zt, Steps p.tables e below (s₁.setTop (mkF m 0 #[.val (.ref a), .val (.ref o), .unset] [])) zt → Steps p.tables e below (s₁.setTop (entryFrame m #[(.ref a), (.ref o)] 3)) zt := fun zt zk => castTop (ef_10_RR m a o) zk
  obtain ⟨T1, X1, e1, st1⟩ := instY X0 hx hZ hown (hw _ (List.mem_of_getElem? (i := 31) rfl)) e0 (Ins.self P4) (g := (mkF m 1 #[.val (.ref a), .val (.ref o), .unset] [(.ref o)])) rfl rfl (hb hby d10_1)
  obtain ⟨T2, X2, e2, st2⟩ := castY X1 hx hZ hown (hw _ (List.mem_of_getElem? (i := 31) rfl)) e1 (Ins.self P4) (g := (mkF m 8 #[.val (.ref a), .val (.ref o), .unset] [(.ref o)])) rfl rfl (hb hby d10_8)
  obtain ⟨T3, X3, e3, st3⟩ := getF X2 hx hZ hown (host := "") (Or.inl (hw _ (List.mem_of_getElem? (i := 14) rfl))) Via.refl e2 P0 (g := (mkF m 13 #[.val (.ref a), .val (.ref o), .val (.ref o)] [(.ref a)])) rfl rfl (hb hby d10_13)
  obtain ⟨T4, X4, e4, st4⟩ := getF X3 hx hZ hown (host := "") (Or.inl (hw _ (List.mem_of_getElem? (i := 14) rfl))) Via.refl e3 P2 (g := (mkF m 17 #[.val (.ref a), .val (.ref o), .val (.ref o)] [(.ref o), (.long s1)])) rfl rfl (hb hby d10_17)
  obtain ⟨fs, hr, hrun, hended, hW, hsame⟩ := X4.leave (v := some (.int (0 : Int32))) (fun h => by rw [Bd.returns] at h; cases h)
  refine ⟨_, _, pre0 _ ?_, hrun, hended, _, _, rfl, ?_, ⟨_, rfl⟩, hW, hsame.mono (by decide) (by decide)⟩
  · show Steps p.tables e below (s₁.setTop (mkF m 0 #[.val (.ref a), .val (.ref o), .unset] [])) _
    refine XS.aloadN X0.here hx rfl (hb hby d10_0) rfl rfl ?_
    show Steps p.tables e below (s₁.setTop (mkF m 1 #[.val (.ref a), .val (.ref o), .unset] [(.ref o)])) _
    refine st1 _ ?_
    show Steps p.tables e below (T1.setTop (mkF m 4 #[.val (.ref a), .val (.ref o), .unset] [(.int (1 : Int32))])) _
    refine XS.ifNo X1.here hx rfl (hb hby d10_4) rfl ((if0 _ _).trans (feq (by decide : ¬ ((1 : Int32) = (0 : Int32)))).1) ?_
    show Steps p.tables e below (T1.setTop (mkF m 7 #[.val (.ref a), .val (.ref o), .unset] [])) _
    refine XS.aloadN X1.here hx rfl (hb hby d10_7) rfl rfl ?_
    show Steps p.tables e below (T1.setTop (mkF m 8 #[.val (.ref a), .val (.ref o), .unset] [(.ref o)])) _
    refine st2 _ ?_
    show Steps p.tables e below (T2.setTop (mkF m 11 #[.val (.ref a), .val (.ref o), .unset] [(.ref o)])) _
    refine XS.astoreN X2.here hx rfl (hb hby d10_11) rfl rfl (l' := #[.val (.ref a), .val (.ref o), .val (.ref o)]) rfl ?_
    show Steps p.tables e below (T2.setTop (mkF m 12 #[.val (.ref a), .val (.ref o), .val (.ref o)] [])) _
    refine XS.aloadN X2.here hx rfl (hb hby d10_12) rfl rfl ?_
    show Steps p.tables e below (T2.setTop (mkF m 13 #[.val (.ref a), .val (.ref o), .val (.ref o)] [(.ref a)])) _
    refine st3 _ ?_
    show Steps p.tables e below (T3.setTop (mkF m 16 #[.val (.ref a), .val (.ref o), .val (.ref o)] [(.long s1)])) _
    refine XS.aloadN X3.here hx rfl (hb hby d10_16) rfl rfl ?_
    show Steps p.tables e below (T3.setTop (mkF m 17 #[.val (.ref a), .val (.ref o), .val (.ref o)] [(.ref o), (.long s1)])) _
    refine st4 _ ?_
    show Steps p.tables e below (T4.setTop (mkF m 20 #[.val (.ref a), .val (.ref o), .val (.ref o)] [(.long s2), (.long s1)])) _
    refine XS.lcmp X4.here hx rfl (hb hby d10_20) rfl ?_
    show Steps p.tables e below (T4.setTop (mkF m 21 #[.val (.ref a), .val (.ref o), .val (.ref o)] [(.int (lcmpW s1 s2))])) _
    refine XS.ifYes X4.here hx rfl (pc0 := 21) (pc' := 39) rfl (hb hby d10_21) rfl ((if0 _ _).trans (feq (hc21 : ¬ ((lcmpW s1 s2) = (0 : Int32)))).2) (by decide) (by decide) ?_
    show Steps p.tables e below (T4.setTop (mkF m 39 #[.val (.ref a), .val (.ref o), .val (.ref o)] [])) _
    refine XS.iconst X4.here hx rfl (hb hby d10_39) ?_
    show Steps p.tables e below (T4.setTop (mkF m 40 #[.val (.ref a), .val (.ref o), .val (.ref o)] [(.int (0 : Int32))])) _
    exact retN X4 hx (t := .boolean) Bd.returns (by simp) (hb hby d10_40) hr
  · show Q_eqT Z a o s1 i1 s2 i2 h0 n0 _ T4.heap _
    rw [e4]
    exact ⟨by rw [eqV_n1 (lw_f hc21)], N0, rfl⟩
theorem d10_24 : decode prog_17_method_2_code 24 = .ok (.aload_n 0, 1) := by decide +kernel
theorem d10_25 : decode prog_17_method_2_code 25 = .ok (.getfield 13, 3) := by decide +kernel
theorem d10_28 : decode prog_17_method_2_code 28 = .ok (.aload_n 2, 1) := by decide +kernel
theorem d10_29 : decode prog_17_method_2_code 29 = .ok (.getfield 13, 3) := by decide +kernel
theorem d10_32 : decode prog_17_method_2_code 32 = .ok (.if_icmp .ne 7, 3) := by decide +kernel
set_option maxRecDepth 65536 in
set_option maxHeartbeats 40000000 in
theorem eqT_2 (l : Launch) (Z : State) (a0 : Array Value) (hw : ∀ d ∈ tables_1, d.before a0 Z = true) (ws : List Jvm.Cond) (a : Addr) (o : Addr) (s1 : Int64) (i1 : Int32) (s2 : Int64) (i2 : Int32) (h0 : Heap) (n0 : Nat) (O0 : Old Z n0 h0) (P0 : Fld Z h0 a "com/example/maat/maat/Turn" "seq" "J" (.long s1)) (P1 : Fld Z h0 a "com/example/maat/maat/Turn" "index" "I" (.int i1)) (P2 : Fld Z h0 o "com/example/maat/maat/Turn" "seq" "J" (.long s2)) (P3 : Fld Z h0 o "com/example/maat/maat/Turn" "index" "I" (.int i2)) (P4 : Exa Z h0 o "com/example/maat/maat/Turn") (hc21 : (lcmpW s1 s2) = (0 : Int32)) (hc32 : ¬ (i1 = i2)) :
    MetFree l (⟨"com/example/maat/maat/Turn", "equals", "(Ljava/lang/Object;)Z"⟩ : MethodName) (head1 (Jvm.Cond.code (⟨"com/example/maat/maat/Turn", "equals", "(Ljava/lang/Object;)Z"⟩ : MethodName) prog_17_method_2_code 3 (some .boolean) :: ws) ({ frames := 0, cells := 0, slots := 0, locals := 0 } : Room)) (fun zA zU => zA = #[(.ref a), (.ref o)] ∧ Z.Warmed39 zU.vm ∧ zU.heap = h0) (fun _ _ _ _ _ => True) (fun _ zU zo zU' => ∃ zv zL, zo = .returned zv ∧ Q_eqT Z a o s1 i1 s2 i2 h0 n0 zv zU'.heap zL ∧ FrameEnd zU zo zU' zL ({ frames := 0, cells := 0, slots := 0, locals := 0 } : Room).cells ({ frames := 0, cells := 0, slots := 0, locals := 0 } : Room).slots) := by
  refine MetFree.of_bodySF (plainFor_of_name pn_4) hisR ?_
  intro p e s m args below meth c s₁ Bd hml0 hP hK
  obtain ⟨rfl, hZ, hh⟩ := hP
  have hx := Bd.exec
  have hby := Bd.bytes
  have hml : c.maxLocals = 3 := hml0
  have hown : s.vm.findClass "com/example/maat/maat/Turn" = some m.cls := findClass_of_methodNamed Bd.named
  have hnm := (name_of_methodNamed Bd.named Bd.method).1
  have X0 : Stand p l e ({ frames := 0, cells := 0, slots := 0, locals := 0 } : Room) s m #[(.ref a), (.ref o)] below meth c s₁ [] 0 0 := Stand.of_body Bd
  have e0 : s₁.heap = h0 := by rw [← hh, Bd.state]; rfl
  have N0 := Fr.nil n0
  have Z0 : n0 ≤ h0.size := O0.1 ▸ O0.2.1
  have pre0 : ∀ zt, Steps p.tables e below (s₁.setTop (mkF m 0 #[.val (.ref a), .val (.ref o), .unset] [])) zt → Steps p.tables e below (s₁.setTop (entryFrame m #[(.ref a), (.ref o)] 3)) zt := fun zt zk => castTop (ef_10_RR m a o) zk
  obtain ⟨T1, X1, e1, st1⟩ := instY X0 hx hZ hown (hw _ (List.mem_of_getElem? (i := 31) rfl)) e0 (Ins.self P4) (g := (mkF m 1 #[.val (.ref a), .val (.ref o), .unset] [(.ref o)])) rfl rfl (hb hby d10_1)
  obtain ⟨T2, X2, e2, st2⟩ := castY X1 hx hZ hown (hw _ (List.mem_of_getElem? (i := 31) rfl)) e1 (Ins.self P4) (g := (mkF m 8 #[.val (.ref a), .val (.ref o), .unset] [(.ref o)])) rfl rfl (hb hby d10_8)
  obtain ⟨T3, X3, e3, st3⟩ := getF X2 hx hZ hown (host := "") (Or.inl (hw _ (List.mem_of_getElem? (i := 14) rfl))) Via.refl e2 P0 (g := (mkF m 13 #[.val (.ref a), .val (.ref o), .val (.ref o)] [(.ref a)])) rfl rfl (hb hby d10_13)
  obtain ⟨T4, X4, e4, st4⟩ := getF X3 hx hZ hown (host := "") (Or.inl (hw _ (List.mem_of_getElem? (i := 14) rfl))) Via.refl e3 P2 (g := (mkF m 17 #[.val (.ref a), .val (.ref o), .val (.ref o)] [(.ref o), (.long s1)])) rfl rfl (hb hby d10_17)
  obtain ⟨T5, X5, e5, st5⟩ := getF X4 hx hZ hown (host := "") (Or.inl (hw _ (List.mem_of_getElem? (i := 16) rfl))) Via.refl e4 P1 (g := (mkF m 25 #[.val (.ref a), .val (.ref o), .val (.ref o)] [(.ref a)])) rfl rfl (hb hby d10_25)
  obtain ⟨T6, X6, e6, st6⟩ := getF X5 hx hZ hown (host := "") (Or.inl (hw _ (List.mem_of_getElem? (i := 16) rfl))) Via.refl e5 P3 (g := (mkF m 29 #[.val (.ref a), .val (.ref o), .val (.ref o)] [(.ref o), (.int i1)])) rfl rfl (hb hby d10_29)
  obtain ⟨fs, hr, hrun, hended, hW, hsame⟩ := X6.leave (v := some (.int (0 : Int32))) (fun h => by rw [Bd.returns] at h; cases h)
  refine ⟨_, _, pre0 _ ?_, hrun, hended, _, _, rfl, ?_, ⟨_, rfl⟩, hW, hsame.mono (by decide) (by decide)⟩
  · show Steps p.tables e below (s₁.setTop (mkF m 0 #[.val (.ref a), .val (.ref o), .unset] [])) _
    refine XS.aloadN X0.here hx rfl (hb hby d10_0) rfl rfl ?_
    show Steps p.tables e below (s₁.setTop (mkF m 1 #[.val (.ref a), .val (.ref o), .unset] [(.ref o)])) _
    refine st1 _ ?_
    show Steps p.tables e below (T1.setTop (mkF m 4 #[.val (.ref a), .val (.ref o), .unset] [(.int (1 : Int32))])) _
    refine XS.ifNo X1.here hx rfl (hb hby d10_4) rfl ((if0 _ _).trans (feq (by decide : ¬ ((1 : Int32) = (0 : Int32)))).1) ?_
    show Steps p.tables e below (T1.setTop (mkF m 7 #[.val (.ref a), .val (.ref o), .unset] [])) _
    refine XS.aloadN X1.here hx rfl (hb hby d10_7) rfl rfl ?_
    show Steps p.tables e below (T1.setTop (mkF m 8 #[.val (.ref a), .val (.ref o), .unset] [(.ref o)])) _
    refine st2 _ ?_
    show Steps p.tables e below (T2.setTop (mkF m 11 #[.val (.ref a), .val (.ref o), .unset] [(.ref o)])) _
    refine XS.astoreN X2.here hx rfl (hb hby d10_11) rfl rfl (l' := #[.val (.ref a), .val (.ref o), .val (.ref o)]) rfl ?_
    show Steps p.tables e below (T2.setTop (mkF m 12 #[.val (.ref a), .val (.ref o), .val (.ref o)] [])) _
    refine XS.aloadN X2.here hx rfl (hb hby d10_12) rfl rfl ?_
    show Steps p.tables e below (T2.setTop (mkF m 13 #[.val (.ref a), .val (.ref o), .val (.ref o)] [(.ref a)])) _
    refine st3 _ ?_
    show Steps p.tables e below (T3.setTop (mkF m 16 #[.val (.ref a), .val (.ref o), .val (.ref o)] [(.long s1)])) _
    refine XS.aloadN X3.here hx rfl (hb hby d10_16) rfl rfl ?_
    show Steps p.tables e below (T3.setTop (mkF m 17 #[.val (.ref a), .val (.ref o), .val (.ref o)] [(.ref o), (.long s1)])) _
    refine st4 _ ?_
    show Steps p.tables e below (T4.setTop (mkF m 20 #[.val (.ref a), .val (.ref o), .val (.ref o)] [(.long s2), (.long s1)])) _
    refine XS.lcmp X4.here hx rfl (hb hby d10_20) rfl ?_
    show Steps p.tables e below (T4.setTop (mkF m 21 #[.val (.ref a), .val (.ref o), .val (.ref o)] [(.int (lcmpW s1 s2))])) _
    refine XS.ifNo X4.here hx rfl (hb hby d10_21) rfl ((if0 _ _).trans (teq (hc21 : (lcmpW s1 s2) = (0 : Int32))).2) ?_
    show Steps p.tables e below (T4.setTop (mkF m 24 #[.val (.ref a), .val (.ref o), .val (.ref o)] [])) _
    refine XS.aloadN X4.here hx rfl (hb hby d10_24) rfl rfl ?_
    show Steps p.tables e below (T4.setTop (mkF m 25 #[.val (.ref a), .val (.ref o), .val (.ref o)] [(.ref a)])) _
    refine st5 _ ?_
    show Steps p.tables e below (T5.setTop (mkF m 28 #[.val (.ref a), .val (.ref o), .val (.ref o)] [(.int i1)])) _
    refine XS.aloadN X5.here hx rfl (hb hby d10_28) rfl rfl ?_
    show Steps p.tables e below (T5.setTop (mkF m 29 #[.val (.ref a), .val (.ref o), .val (.ref o)] [(.ref o), (.int i1)])) _
    refine st6 _ ?_
    show Steps p.tables e below (T6.setTop (mkF m 32 #[.val (.ref a), .val (.ref o), .val (.ref o)] [(.int i2), (.int i1)])) _
    refine XS.icmpYes X6.here hx rfl (pc0 := 32) (pc' := 39) rfl (hb hby d10_32) rfl (feq (hc32 : ¬ (i1 = i2))).2 (by decide) (by decide) ?_
    show Steps p.tables e below (T6.setTop (mkF m 39 #[.val (.ref a), .val (.ref o), .val (.ref o)] [])) _
    refine XS.iconst X6.here hx rfl (hb hby d10_39) ?_
    show Steps p.tables e below (T6.setTop (mkF m 40 #[.val (.ref a), .val (.ref o), .val (.ref o)] [(.int (0 : Int32))])) _
    exact retN X6 hx (t := .boolean) Bd.returns (by simp) (hb hby d10_40) hr
  · show Q_eqT Z a o s1 i1 s2 i2 h0 n0 _ T6.heap _
    rw [e6]
    exact ⟨by rw [eqV_n2 hc32], N0, rfl⟩
theorem d10_35 : decode prog_17_method_2_code 35 = .ok (.iconst 1, 1) := by decide +kernel
theorem d10_36 : decode prog_17_method_2_code 36 = .ok (.goto 4, 3) := by decide +kernel
set_option maxRecDepth 65536 in
set_option maxHeartbeats 40000000 in
theorem eqT_3 (l : Launch) (Z : State) (a0 : Array Value) (hw : ∀ d ∈ tables_1, d.before a0 Z = true) (ws : List Jvm.Cond) (a : Addr) (o : Addr) (s1 : Int64) (i1 : Int32) (s2 : Int64) (i2 : Int32) (h0 : Heap) (n0 : Nat) (O0 : Old Z n0 h0) (P0 : Fld Z h0 a "com/example/maat/maat/Turn" "seq" "J" (.long s1)) (P1 : Fld Z h0 a "com/example/maat/maat/Turn" "index" "I" (.int i1)) (P2 : Fld Z h0 o "com/example/maat/maat/Turn" "seq" "J" (.long s2)) (P3 : Fld Z h0 o "com/example/maat/maat/Turn" "index" "I" (.int i2)) (P4 : Exa Z h0 o "com/example/maat/maat/Turn") (hc21 : (lcmpW s1 s2) = (0 : Int32)) (hc32 : i1 = i2) :
    MetFree l (⟨"com/example/maat/maat/Turn", "equals", "(Ljava/lang/Object;)Z"⟩ : MethodName) (head1 (Jvm.Cond.code (⟨"com/example/maat/maat/Turn", "equals", "(Ljava/lang/Object;)Z"⟩ : MethodName) prog_17_method_2_code 3 (some .boolean) :: ws) ({ frames := 0, cells := 0, slots := 0, locals := 0 } : Room)) (fun zA zU => zA = #[(.ref a), (.ref o)] ∧ Z.Warmed39 zU.vm ∧ zU.heap = h0) (fun _ _ _ _ _ => True) (fun _ zU zo zU' => ∃ zv zL, zo = .returned zv ∧ Q_eqT Z a o s1 i1 s2 i2 h0 n0 zv zU'.heap zL ∧ FrameEnd zU zo zU' zL ({ frames := 0, cells := 0, slots := 0, locals := 0 } : Room).cells ({ frames := 0, cells := 0, slots := 0, locals := 0 } : Room).slots) := by
  refine MetFree.of_bodySF (plainFor_of_name pn_4) hisR ?_
  intro p e s m args below meth c s₁ Bd hml0 hP hK
  obtain ⟨rfl, hZ, hh⟩ := hP
  have hx := Bd.exec
  have hby := Bd.bytes
  have hml : c.maxLocals = 3 := hml0
  have hown : s.vm.findClass "com/example/maat/maat/Turn" = some m.cls := findClass_of_methodNamed Bd.named
  have hnm := (name_of_methodNamed Bd.named Bd.method).1
  have X0 : Stand p l e ({ frames := 0, cells := 0, slots := 0, locals := 0 } : Room) s m #[(.ref a), (.ref o)] below meth c s₁ [] 0 0 := Stand.of_body Bd
  have e0 : s₁.heap = h0 := by rw [← hh, Bd.state]; rfl
  have N0 := Fr.nil n0
  have Z0 : n0 ≤ h0.size := O0.1 ▸ O0.2.1
  have pre0 : ∀ zt, Steps p.tables e below (s₁.setTop (mkF m 0 #[.val (.ref a), .val (.ref o), .unset] [])) zt → Steps p.tables e below (s₁.setTop (entryFrame m #[(.ref a), (.ref o)] 3)) zt := fun zt zk => castTop (ef_10_RR m a o) zk
  obtain ⟨T1, X1, e1, st1⟩ := instY X0 hx hZ hown (hw _ (List.mem_of_getElem? (i := 31) rfl)) e0 (Ins.self P4) (g := (mkF m 1 #[.val (.ref a), .val (.ref o), .unset] [(.ref o)])) rfl rfl (hb hby d10_1)
  obtain ⟨T2, X2, e2, st2⟩ := castY X1 hx hZ hown (hw _ (List.mem_of_getElem? (i := 31) rfl)) e1 (Ins.self P4) (g := (mkF m 8 #[.val (.ref a), .val (.ref o), .unset] [(.ref o)])) rfl rfl (hb hby d10_8)
  obtain ⟨T3, X3, e3, st3⟩ := getF X2 hx hZ hown (host := "") (Or.inl (hw _ (List.mem_of_getElem? (i := 14) rfl))) Via.refl e2 P0 (g := (mkF m 13 #[.val (.ref a), .val (.ref o), .val (.ref o)] [(.ref a)])) rfl rfl (hb hby d10_13)
  obtain ⟨T4, X4, e4, st4⟩ := getF X3 hx hZ hown (host := "") (Or.inl (hw _ (List.mem_of_getElem? (i := 14) rfl))) Via.refl e3 P2 (g := (mkF m 17 #[.val (.ref a), .val (.ref o), .val (.ref o)] [(.ref o), (.long s1)])) rfl rfl (hb hby d10_17)
  obtain ⟨T5, X5, e5, st5⟩ := getF X4 hx hZ hown (host := "") (Or.inl (hw _ (List.mem_of_getElem? (i := 16) rfl))) Via.refl e4 P1 (g := (mkF m 25 #[.val (.ref a), .val (.ref o), .val (.ref o)] [(.ref a)])) rfl rfl (hb hby d10_25)
  obtain ⟨T6, X6, e6, st6⟩ := getF X5 hx hZ hown (host := "") (Or.inl (hw _ (List.mem_of_getElem? (i := 16) rfl))) Via.refl e5 P3 (g := (mkF m 29 #[.val (.ref a), .val (.ref o), .val (.ref o)] [(.ref o), (.int i1)])) rfl rfl (hb hby d10_29)
  obtain ⟨fs, hr, hrun, hended, hW, hsame⟩ := X6.leave (v := some (.int (1 : Int32))) (fun h => by rw [Bd.returns] at h; cases h)
  refine ⟨_, _, pre0 _ ?_, hrun, hended, _, _, rfl, ?_, ⟨_, rfl⟩, hW, hsame.mono (by decide) (by decide)⟩
  · show Steps p.tables e below (s₁.setTop (mkF m 0 #[.val (.ref a), .val (.ref o), .unset] [])) _
    refine XS.aloadN X0.here hx rfl (hb hby d10_0) rfl rfl ?_
    show Steps p.tables e below (s₁.setTop (mkF m 1 #[.val (.ref a), .val (.ref o), .unset] [(.ref o)])) _
    refine st1 _ ?_
    show Steps p.tables e below (T1.setTop (mkF m 4 #[.val (.ref a), .val (.ref o), .unset] [(.int (1 : Int32))])) _
    refine XS.ifNo X1.here hx rfl (hb hby d10_4) rfl ((if0 _ _).trans (feq (by decide : ¬ ((1 : Int32) = (0 : Int32)))).1) ?_
    show Steps p.tables e below (T1.setTop (mkF m 7 #[.val (.ref a), .val (.ref o), .unset] [])) _
    refine XS.aloadN X1.here hx rfl (hb hby d10_7) rfl rfl ?_
    show Steps p.tables e below (T1.setTop (mkF m 8 #[.val (.ref a), .val (.ref o), .unset] [(.ref o)])) _
    refine st2 _ ?_
    show Steps p.tables e below (T2.setTop (mkF m 11 #[.val (.ref a), .val (.ref o), .unset] [(.ref o)])) _
    refine XS.astoreN X2.here hx rfl (hb hby d10_11) rfl rfl (l' := #[.val (.ref a), .val (.ref o), .val (.ref o)]) rfl ?_
    show Steps p.tables e below (T2.setTop (mkF m 12 #[.val (.ref a), .val (.ref o), .val (.ref o)] [])) _
    refine XS.aloadN X2.here hx rfl (hb hby d10_12) rfl rfl ?_
    show Steps p.tables e below (T2.setTop (mkF m 13 #[.val (.ref a), .val (.ref o), .val (.ref o)] [(.ref a)])) _
    refine st3 _ ?_
    show Steps p.tables e below (T3.setTop (mkF m 16 #[.val (.ref a), .val (.ref o), .val (.ref o)] [(.long s1)])) _
    refine XS.aloadN X3.here hx rfl (hb hby d10_16) rfl rfl ?_
    show Steps p.tables e below (T3.setTop (mkF m 17 #[.val (.ref a), .val (.ref o), .val (.ref o)] [(.ref o), (.long s1)])) _
    refine st4 _ ?_
    show Steps p.tables e below (T4.setTop (mkF m 20 #[.val (.ref a), .val (.ref o), .val (.ref o)] [(.long s2), (.long s1)])) _
    refine XS.lcmp X4.here hx rfl (hb hby d10_20) rfl ?_
    show Steps p.tables e below (T4.setTop (mkF m 21 #[.val (.ref a), .val (.ref o), .val (.ref o)] [(.int (lcmpW s1 s2))])) _
    refine XS.ifNo X4.here hx rfl (hb hby d10_21) rfl ((if0 _ _).trans (teq (hc21 : (lcmpW s1 s2) = (0 : Int32))).2) ?_
    show Steps p.tables e below (T4.setTop (mkF m 24 #[.val (.ref a), .val (.ref o), .val (.ref o)] [])) _
    refine XS.aloadN X4.here hx rfl (hb hby d10_24) rfl rfl ?_
    show Steps p.tables e below (T4.setTop (mkF m 25 #[.val (.ref a), .val (.ref o), .val (.ref o)] [(.ref a)])) _
    refine st5 _ ?_
    show Steps p.tables e below (T5.setTop (mkF m 28 #[.val (.ref a), .val (.ref o), .val (.ref o)] [(.int i1)])) _
    refine XS.aloadN X5.here hx rfl (hb hby d10_28) rfl rfl ?_
    show Steps p.tables e below (T5.setTop (mkF m 29 #[.val (.ref a), .val (.ref o), .val (.ref o)] [(.ref o), (.int i1)])) _
    refine st6 _ ?_
    show Steps p.tables e below (T6.setTop (mkF m 32 #[.val (.ref a), .val (.ref o), .val (.ref o)] [(.int i2), (.int i1)])) _
    refine XS.icmpNo X6.here hx rfl (hb hby d10_32) rfl (teq (hc32 : i1 = i2)).2 ?_
    show Steps p.tables e below (T6.setTop (mkF m 35 #[.val (.ref a), .val (.ref o), .val (.ref o)] [])) _
    refine XS.iconst X6.here hx rfl (hb hby d10_35) ?_
    show Steps p.tables e below (T6.setTop (mkF m 36 #[.val (.ref a), .val (.ref o), .val (.ref o)] [(.int (1 : Int32))])) _
    refine XS.goto X6.here hx rfl (pc0 := 36) (pc' := 40) rfl (hb hby d10_36) (by decide) (by decide) ?_
    show Steps p.tables e below (T6.setTop (mkF m 40 #[.val (.ref a), .val (.ref o), .val (.ref o)] [(.int (1 : Int32))])) _
    exact retN X6 hx (t := .boolean) Bd.returns (by simp) (hb hby d10_40) hr
  · show Q_eqT Z a o s1 i1 s2 i2 h0 n0 _ T6.heap _
    rw [e6]
    exact ⟨by rw [eqV_y (lw_t hc21) hc32], N0, rfl⟩
set_option maxRecDepth 65536 in
set_option maxHeartbeats 40000000 in
theorem eqT (l : Launch) (Z : State) (a0 : Array Value) (hw : ∀ d ∈ tables_1, d.before a0 Z = true) (ws : List Jvm.Cond) (a : Addr) (o : Addr) (s1 : Int64) (i1 : Int32) (s2 : Int64) (i2 : Int32) (h0 : Heap) (n0 : Nat) (O0 : Old Z n0 h0) (P0 : Fld Z h0 a "com/example/maat/maat/Turn" "seq" "J" (.long s1)) (P1 : Fld Z h0 a "com/example/maat/maat/Turn" "index" "I" (.int i1)) (P2 : Fld Z h0 o "com/example/maat/maat/Turn" "seq" "J" (.long s2)) (P3 : Fld Z h0 o "com/example/maat/maat/Turn" "index" "I" (.int i2)) (P4 : Exa Z h0 o "com/example/maat/maat/Turn") :
    MetFree l (⟨"com/example/maat/maat/Turn", "equals", "(Ljava/lang/Object;)Z"⟩ : MethodName) (head1 (Jvm.Cond.code (⟨"com/example/maat/maat/Turn", "equals", "(Ljava/lang/Object;)Z"⟩ : MethodName) prog_17_method_2_code 3 (some .boolean) :: ws) ({ frames := 0, cells := 0, slots := 0, locals := 0 } : Room)) (fun zA zU => zA = #[(.ref a), (.ref o)] ∧ Z.Warmed39 zU.vm ∧ zU.heap = h0) (fun _ _ _ _ _ => True) (fun _ zU zo zU' => ∃ zv zL, zo = .returned zv ∧ Q_eqT Z a o s1 i1 s2 i2 h0 n0 zv zU'.heap zL ∧ FrameEnd zU zo zU' zL ({ frames := 0, cells := 0, slots := 0, locals := 0 } : Room).cells ({ frames := 0, cells := 0, slots := 0, locals := 0 } : Room).slots) := by
  by_cases h1 : (lcmpW s1 s2) = (0 : Int32)
  · by_cases h2 : i1 = i2
    · exact eqT_3 l Z a0 hw ws a o s1 i1 s2 i2 h0 n0 O0 P0 P1 P2 P3 P4 h1 h2
    · exact eqT_2 l Z a0 hw ws a o s1 i1 s2 i2 h0 n0 O0 P0 P1 P2 P3 P4 h1 h2
  · exact eqT_1 l Z a0 hw ws a o s1 i1 s2 i2 h0 n0 O0 P0 P1 P2 P3 P4 h1
def Q_eqN (Z : State) (a : Addr) (h0 : Heap) (n0 : Nat) (v : Option Value) (h : Heap) (L : List Loc) : Prop := v = some (.int (0 : Int32)) ∧ Fr n0 L ∧ h = h0
theorem ef_10_Rn (m : MethodId) (x0 : Addr) : entryFrame m #[(.ref x0), .null] 3 = mkF m 0 #[.val (.ref x0), .val .null, .unset] [] := by first | (simp [entryFrame, mkF, argsToLocals, Value.category]; done) | rfl
set_option maxRecDepth 65536 in
set_option maxHeartbeats 40000000 in
theorem eqN (l : Launch) (Z : State) (a0 : Array Value) (hw : ∀ d ∈ tables_1, d.before a0 Z = true) (ws : List Jvm.Cond) (a : Addr) (h0 : Heap) (n0 : Nat) (O0 : Old Z n0 h0) :
    MetFree l (⟨"com/example/maat/maat/Turn", "equals", "(Ljava/lang/Object;)Z"⟩ : MethodName) (head1 (Jvm.Cond.code (⟨"com/example/maat/maat/Turn", "equals", "(Ljava/lang/Object;)Z"⟩ : MethodName) prog_17_method_2_code 3 (some .boolean) :: ws) ({ frames := 0, cells := 0, slots := 0, locals := 0 } : Room)) (fun zA zU => zA = #[(.ref a), .null] ∧ Z.Warmed39 zU.vm ∧ zU.heap = h0) (fun _ _ _ _ _ => True) (fun _ zU zo zU' => ∃ zv zL, zo = .returned zv ∧ Q_eqN Z a h0 n0 zv zU'.heap zL ∧ FrameEnd zU zo zU' zL ({ frames := 0, cells := 0, slots := 0, locals := 0 } : Room).cells ({ frames := 0, cells := 0, slots := 0, locals := 0 } : Room).slots) := by
  refine MetFree.of_bodySF (plainFor_of_name pn_4) hisR ?_
  intro p e s m args below meth c s₁ Bd hml0 hP hK
  obtain ⟨rfl, hZ, hh⟩ := hP
  have hx := Bd.exec
  have hby := Bd.bytes
  have hml : c.maxLocals = 3 := hml0
  have hown : s.vm.findClass "com/example/maat/maat/Turn" = some m.cls := findClass_of_methodNamed Bd.named
  have hnm := (name_of_methodNamed Bd.named Bd.method).1
  have X0 : Stand p l e ({ frames := 0, cells := 0, slots := 0, locals := 0 } : Room) s m #[(.ref a), .null] below meth c s₁ [] 0 0 := Stand.of_body Bd
  have e0 : s₁.heap = h0 := by rw [← hh, Bd.state]; rfl
  have N0 := Fr.nil n0
  have Z0 : n0 ≤ h0.size := O0.1 ▸ O0.2.1
  have pre0 : ∀ zt, Steps p.tables e below (s₁.setTop (mkF m 0 #[.val (.ref a), .val .null, .unset] [])) zt → Steps p.tables e below (s₁.setTop (entryFrame m #[(.ref a), .null] 3)) zt := fun zt zk => castTop (ef_10_Rn m a) zk
  obtain ⟨fs, hr, hrun, hended, hW, hsame⟩ := X0.leave (v := some (.int (0 : Int32))) (fun h => by rw [Bd.returns] at h; cases h)
  refine ⟨_, _, pre0 _ ?_, hrun, hended, _, _, rfl, ?_, ⟨_, rfl⟩, hW, hsame.mono (by decide) (by decide)⟩
  · show Steps p.tables e below (s₁.setTop (mkF m 0 #[.val (.ref a), .val .null, .unset] [])) _
    refine XS.aloadN X0.here hx rfl (hb hby d10_0) rfl rfl ?_
    show Steps p.tables e below (s₁.setTop (mkF m 1 #[.val (.ref a), .val .null, .unset] [.null])) _
    refine X0.instanceofNull hx (g := (mkF m 1 #[.val (.ref a), .val .null, .unset] [.null])) rfl rfl (hb hby d10_1) _ ?_
    show Steps p.tables e below (s₁.setTop (mkF m 4 #[.val (.ref a), .val .null, .unset] [(.int (0 : Int32))])) _
    refine XS.ifYes X0.here hx rfl (pc0 := 4) (pc' := 39) rfl (hb hby d10_4) rfl ((if0 _ _).trans (teq (by decide : (0 : Int32) = (0 : Int32))).1) (by decide) (by decide) ?_
    show Steps p.tables e below (s₁.setTop (mkF m 39 #[.val (.ref a), .val .null, .unset] [])) _
    refine XS.iconst X0.here hx rfl (hb hby d10_39) ?_
    show Steps p.tables e below (s₁.setTop (mkF m 40 #[.val (.ref a), .val .null, .unset] [(.int (0 : Int32))])) _
    exact retN X0 hx (t := .boolean) Bd.returns (by simp) (hb hby d10_40) hr
  · show Q_eqN Z a h0 n0 _ s₁.heap _
    rw [e0]
    exact ⟨rfl, N0, rfl⟩
def Q_eqL (Z : State) (a : Addr) (o : Addr) (h0 : Heap) (n0 : Nat) (v : Option Value) (h : Heap) (L : List Loc) : Prop := v = some (.int (0 : Int32)) ∧ Fr n0 L ∧ h = h0
set_option maxRecDepth 65536 in
set_option maxHeartbeats 40000000 in
theorem eqL (l : Launch) (Z : State) (a0 : Array Value) (hw : ∀ d ∈ tables_1, d.before a0 Z = true) (ws : List Jvm.Cond) (a : Addr) (o : Addr) (h0 : Heap) (n0 : Nat) (O0 : Old Z n0 h0) (P0 : Exa Z h0 o "java/lang/Long") :
    MetFree l (⟨"com/example/maat/maat/Turn", "equals", "(Ljava/lang/Object;)Z"⟩ : MethodName) (head1 (Jvm.Cond.code (⟨"com/example/maat/maat/Turn", "equals", "(Ljava/lang/Object;)Z"⟩ : MethodName) prog_17_method_2_code 3 (some .boolean) :: ws) ({ frames := 0, cells := 0, slots := 0, locals := 0 } : Room)) (fun zA zU => zA = #[(.ref a), (.ref o)] ∧ Z.Warmed39 zU.vm ∧ zU.heap = h0) (fun _ _ _ _ _ => True) (fun _ zU zo zU' => ∃ zv zL, zo = .returned zv ∧ Q_eqL Z a o h0 n0 zv zU'.heap zL ∧ FrameEnd zU zo zU' zL ({ frames := 0, cells := 0, slots := 0, locals := 0 } : Room).cells ({ frames := 0, cells := 0, slots := 0, locals := 0 } : Room).slots) := by
  refine MetFree.of_bodySF (plainFor_of_name pn_4) hisR ?_
  intro p e s m args below meth c s₁ Bd hml0 hP hK
  obtain ⟨rfl, hZ, hh⟩ := hP
  have hx := Bd.exec
  have hby := Bd.bytes
  have hml : c.maxLocals = 3 := hml0
  have hown : s.vm.findClass "com/example/maat/maat/Turn" = some m.cls := findClass_of_methodNamed Bd.named
  have hnm := (name_of_methodNamed Bd.named Bd.method).1
  have X0 : Stand p l e ({ frames := 0, cells := 0, slots := 0, locals := 0 } : Room) s m #[(.ref a), (.ref o)] below meth c s₁ [] 0 0 := Stand.of_body Bd
  have e0 : s₁.heap = h0 := by rw [← hh, Bd.state]; rfl
  have N0 := Fr.nil n0
  have Z0 : n0 ≤ h0.size := O0.1 ▸ O0.2.1
  have pre0 : ∀ zt, Steps p.tables e below (s₁.setTop (mkF m 0 #[.val (.ref a), .val (.ref o), .unset] [])) zt → Steps p.tables e below (s₁.setTop (entryFrame m #[(.ref a), (.ref o)] 3)) zt := fun zt zk => castTop (ef_10_RR m a o) zk
  obtain ⟨T1, X1, e1, st1⟩ := instNo X0 hx hZ hown (hw _ (List.mem_of_getElem? (i := 31) rfl)) e0 P0 (own_no (hw _ (List.mem_of_getElem? (i := 33) rfl)) (hw _ (List.mem_of_getElem? (i := 34) rfl)) (hw _ (List.mem_of_getElem? (i := 35) rfl)) (hw _ (List.mem_of_getElem? (i := 1) rfl)) (by decide) (by decide) (by decide)) (g := (mkF m 1 #[.val (.ref a), .val (.ref o), .unset] [(.ref o)])) rfl rfl (hb hby d10_1)
  obtain ⟨fs, hr, hrun, hended, hW, hsame⟩ := X1.leave (v := some (.int (0 : Int32))) (fun h => by rw [Bd.returns] at h; cases h)
  refine ⟨_, _, pre0 _ ?_, hrun, hended, _, _, rfl, ?_, ⟨_, rfl⟩, hW, hsame.mono (by decide) (by decide)⟩
  · show Steps p.tables e below (s₁.setTop (mkF m 0 #[.val (.ref a), .val (.ref o), .unset] [])) _
    refine XS.aloadN X0.here hx rfl (hb hby d10_0) rfl rfl ?_
    show Steps p.tables e below (s₁.setTop (mkF m 1 #[.val (.ref a), .val (.ref o), .unset] [(.ref o)])) _
    refine st1 _ ?_
    show Steps p.tables e below (T1.setTop (mkF m 4 #[.val (.ref a), .val (.ref o), .unset] [(.int (0 : Int32))])) _
    refine XS.ifYes X1.here hx rfl (pc0 := 4) (pc' := 39) rfl (hb hby d10_4) rfl ((if0 _ _).trans (teq (by decide : (0 : Int32) = (0 : Int32))).1) (by decide) (by decide) ?_
    show Steps p.tables e below (T1.setTop (mkF m 39 #[.val (.ref a), .val (.ref o), .unset] [])) _
    refine XS.iconst X1.here hx rfl (hb hby d10_39) ?_
    show Steps p.tables e below (T1.setTop (mkF m 40 #[.val (.ref a), .val (.ref o), .unset] [(.int (0 : Int32))])) _
    exact retN X1 hx (t := .boolean) Bd.returns (by simp) (hb hby d10_40) hr
  · show Q_eqL Z a o h0 n0 _ T1.heap _
    rw [e1]
    exact ⟨rfl, N0, rfl⟩
def Q_law (Z : State) (s1 : Int64) (i : Int32) (t : Int64) (j : Int32) (md : Int32) (wc : Addr) (h0 : Heap) (n0 : Nat) (v : Option Value) (h : Heap) (L : List Loc) : Prop := v = some (.int (1 : Int32)) ∧ Fr n0 L
theorem pd_2 : parseMethodDescriptor "(JI)V" = some ⟨[.long, .int], none⟩ := by decide +kernel
theorem pd_3 : parseMethodDescriptor "(J)Ljava/lang/Long;" = some ⟨[.long], some (.object "java/lang/Long")⟩ := by decide +kernel
theorem pd_4 : parseMethodDescriptor "(Ljava/lang/Object;)Z" = some ⟨[(.object "java/lang/Object")], some .boolean⟩ := by decide +kernel
theorem pn_11 : plainName "com/example/maat/maat/TurnEqualsPinLaw" = true := by first | (simp [plainName, overriddenIn]; done) | decide +kernel
theorem ef_0_JIJII (m : MethodId) (x0 : Int64) (x1 : Int32) (x2 : Int64) (x3 : Int32) (x4 : Int32) : entryFrame m #[(.long x0), (.int x1), (.long x2), (.int x3), (.int x4)] maxLocals = mkF m 0 #[.val (.long x0), .second, .val (.int x1), .val (.long x2), .second, .val (.int x3), .val (.int x4), .unset, .unset, .unset, .unset, .unset, .unset, .unset, .unset] [] := by first | (simp [entryFrame, mkF, argsToLocals, Value.category, maxLocals]; done) | rfl
set_option maxRecDepth 65536 in
set_option maxHeartbeats 40000000 in
theorem law_1 (l : Launch) (Z : State) (a0 : Array Value) (hw : ∀ d ∈ tables_1, d.before a0 Z = true) (ws : List Jvm.Cond) (s1 : Int64) (i : Int32) (t : Int64) (j : Int32) (md : Int32) (wc : Addr) (h0 : Heap) (n0 : Nat) (O0 : Old Z n0 h0) (G0 : Sta Z Z.heap "java/lang/Long$LongCache" "cache" "[Ljava/lang/Long;" (.ref wc)) (CA : Cache Z wc "java/lang/Long") (hc21 : ((md &&& (3 : Int32)) &&& (1 : Int32)) = (0 : Int32)) (hc35 : ((md &&& (3 : Int32)) &&& (2 : Int32)) = (0 : Int32)) :
    MetFree l x (head1 (Jvm.Cond.code x code maxLocals ret :: ws) room_1) (fun zA zU => zA = #[(.long s1), (.int i), (.long t), (.int j), (.int md)] ∧ Z.Warmed39 zU.vm ∧ zU.heap = h0) (fun _ _ _ _ _ => True) (fun _ zU zo zU' => ∃ zv zL, zo = .returned zv ∧ Q_law Z s1 i t j md wc h0 n0 zv zU'.heap zL ∧ FrameEnd zU zo zU' zL room_1.cells room_1.slots) := by
  refine MetFree.of_bodySF (plainFor_of_name pn_11) hisR ?_
  intro p e s m args below meth c s₁ Bd hml0 hP hK
  obtain ⟨rfl, hZ, hh⟩ := hP
  have hx := Bd.exec
  have hby := Bd.bytes
  have hml : c.maxLocals = 15 := hml0
  have hown : s.vm.findClass "com/example/maat/maat/TurnEqualsPinLaw" = some m.cls := findClass_of_methodNamed Bd.named
  have hnm := (name_of_methodNamed Bd.named Bd.method).1
  have X0 : Stand p l e room_1 s m #[(.long s1), (.int i), (.long t), (.int j), (.int md)] below meth c s₁ [] 0 0 := Stand.of_body Bd
  have e0 : s₁.heap = h0 := by rw [← hh, Bd.state]; rfl
  have N0 := Fr.nil n0
  have Z0 : n0 ≤ h0.size := O0.1 ▸ O0.2.1
  have pre0 : ∀ zt, Steps p.tables e below (s₁.setTop (mkF m 0 #[.val (.long s1), .second, .val (.int i), .val (.long t), .second, .val (.int j), .val (.int md), .unset, .unset, .unset, .unset, .unset, .unset, .unset, .unset] [])) zt → Steps p.tables e below (s₁.setTop (entryFrame m #[(.long s1), (.int i), (.long t), (.int j), (.int md)] maxLocals)) zt := fun zt zk => castTop (ef_0_JIJII m s1 i t j md) zk
  obtain ⟨T1, h1, X1, e1, E1, A1, D1, U1, st1⟩ := newO X0 hx hZ hown (hw _ (List.mem_of_getElem? (i := 0) rfl)) (hw _ (List.mem_of_getElem? (i := 1) rfl)) (hw _ (List.mem_of_getElem? (i := 2) rfl)) e0 (g := (mkF m 0 #[.val (.long s1), .second, .val (.int i), .val (.long t), .second, .val (.int j), .val (.int md), .unset, .unset, .unset, .unset, .unset, .unset, .unset, .unset] [])) rfl (hb hby at_0) (by decide) (by decide)
  obtain ⟨b1, gz1⟩ : ∃ z, z = h0.size := ⟨_, rfl⟩
  rw [← gz1] at A1 D1 U1 st1
  have sz_b1 : h0.size ≤ b1 := Nat.le_trans (Keep.refl h0 []).1 (Nat.le_of_eq gz1.symm)
  have g_b1 : n0 ≤ b1 := Nat.le_trans Z0 sz_b1
  have O1 := O0.ext E1
  have K1 : Keep h0 h1 [] := (Keep.refl h0 []).ext E1
  have Fi1_15 : Fld Z h1 b1 "com/example/maat/maat/Turn" "seq" "J" (.long (0 : Int64)) := D1 (Or.inr (hw _ (List.mem_of_getElem? (i := 15) rfl))) (ty := .long) (by decide)
  have Fi1_17 : Fld Z h1 b1 "com/example/maat/maat/Turn" "index" "I" (.int (0 : Int32)) := D1 (Or.inr (hw _ (List.mem_of_getElem? (i := 17) rfl))) (ty := .int) (by decide)
  obtain ⟨_, _, ⟨T2, L2, k2, n2⟩, -, X2, ⟨Lc2, hQ2, l2, y2, z2⟩, st2⟩ := X1.specialBack hx (y := (⟨"com/example/maat/maat/Turn", "<init>", "(JI)V"⟩ : MethodName)) rfl hown (mvT hZ (hw _ (List.mem_of_getElem? (i := 3) rfl))) (mvT hZ (hw _ (List.mem_of_getElem? (i := 4) rfl))) (mvT hZ (hw _ (List.mem_of_getElem? (i := 5) rfl))) (by decide) (backOf (W := 1) (turnI l Z a0 hw [] b1 s1 i h1 n0 O1 Fi1_15 Fi1_17 A1 g_b1) hZ (hw _ (List.mem_of_getElem? (i := 5) rfl)) (hw _ (List.mem_of_getElem? (i := 2) rfl)) (by decide) (by decide)) (g := (mkF m 6 #[.val (.long s1), .second, .val (.int i), .val (.long t), .second, .val (.int j), .val (.int md), .unset, .unset, .unset, .unset, .unset, .unset, .unset, .unset] [(.int i), (.long s1), (.ref b1), (.ref b1)])) rfl (by rw [hml]; rfl) (Steps.refl _) (a := b1) (argsL := [(.long s1), (.int i)]) (rest := [(.ref b1)]) (lenOf pd_2 rfl) rfl (by show 2 * 0 + _ ≤ _; exact Nat.le_of_eq rfl) (hb hby at_6) (fun _ _ => ⟨rfl, e1, (by decide : 1 + 0 ≤ _), (by decide : 2 + 0 ≤ _)⟩)
  dsimp only [Pt.U, Pt.locs, Pt.cells, Pt.slots] at X2 l2 y2 z2 st2 hQ2
  subst l2 y2 z2
  obtain ⟨rfl, Nq2, kh2, Po2_0, Po2_1, Po2_2⟩ := hQ2
  have N2 := Fr.app N0 Nq2
  have O2 := O1.keep kh2 (allS g_b1 all0)
  have K2 : Keep h0 T2.heap [] := K1.trans kh2 (allS (Or.inr sz_b1) all0)
  obtain ⟨T3, h3, X3, e3, E3, A3, D3, U3, st3⟩ := newO X2 hx hZ hown (hw _ (List.mem_of_getElem? (i := 0) rfl)) (hw _ (List.mem_of_getElem? (i := 1) rfl)) (hw _ (List.mem_of_getElem? (i := 2) rfl)) rfl (g := (mkF m 46 #[.val (.long s1), .second, .val (.int i), .val (.long t), .second, .val (.int j), .val (.int md), .val (.ref b1), .val (.int (md &&& (3 : Int32))), .val (.long s1), .second, .val (.int i), .unset, .unset, .unset] [])) rfl (hb hby at_46) (by decide) (by decide)
  obtain ⟨b3, gz3⟩ : ∃ z, z = T2.heap.size := ⟨_, rfl⟩
  rw [← gz3] at A3 D3 U3 st3
  have sz_b3 : h0.size ≤ b3 := Nat.le_trans K2.1 (Nat.le_of_eq gz3.symm)
  have g_b3 : n0 ≤ b3 := Nat.le_trans Z0 sz_b3
  have O3 := O2.ext E3
  have K3 : Keep h0 h3 [] := K2.ext E3
  have Fi3_15 : Fld Z h3 b3 "com/example/maat/maat/Turn" "seq" "J" (.long (0 : Int64)) := D3 (Or.inr (hw _ (List.mem_of_getElem? (i := 15) rfl))) (ty := .long) (by decide)
  have Fi3_17 : Fld Z h3 b3 "com/example/maat/maat/Turn" "index" "I" (.int (0 : Int32)) := D3 (Or.inr (hw _ (List.mem_of_getElem? (i := 17) rfl))) (ty := .int) (by decide)
  obtain ⟨_, _, ⟨T4, L4, k4, n4⟩, -, X4, ⟨Lc4, hQ4, l4, y4, z4⟩, st4⟩ := X3.specialBack hx (y := (⟨"com/example/maat/maat/Turn", "<init>", "(JI)V"⟩ : MethodName)) rfl hown (mvT hZ (hw _ (List.mem_of_getElem? (i := 3) rfl))) (mvT hZ (hw _ (List.mem_of_getElem? (i := 4) rfl))) (mvT hZ (hw _ (List.mem_of_getElem? (i := 5) rfl))) (by decide) (backOf (W := 1) (turnI l Z a0 hw [] b3 s1 i h3 n0 O3 Fi3_15 Fi3_17 A3 g_b3) hZ (hw _ (List.mem_of_getElem? (i := 5) rfl)) (hw _ (List.mem_of_getElem? (i := 2) rfl)) (by decide) (by decide)) (g := (mkF m 54 #[.val (.long s1), .second, .val (.int i), .val (.long t), .second, .val (.int j), .val (.int md), .val (.ref b1), .val (.int (md &&& (3 : Int32))), .val (.long s1), .second, .val (.int i), .unset, .unset, .unset] [(.int i), (.long s1), (.ref b3), (.ref b3)])) rfl (by rw [hml]; rfl) (Steps.refl _) (a := b3) (argsL := [(.long s1), (.int i)]) (rest := [(.ref b3)]) (lenOf pd_2 rfl) rfl (by show 2 * 0 + _ ≤ _; exact Nat.le_of_eq rfl) (hb hby at_54) (fun _ _ => ⟨rfl, e3, (by decide : 2 + 0 ≤ _), (by decide : 4 + 0 ≤ _)⟩)
  dsimp only [Pt.U, Pt.locs, Pt.cells, Pt.slots] at X4 l4 y4 z4 st4 hQ4
  subst l4 y4 z4
  obtain ⟨rfl, Nq4, kh4, Po4_0, Po4_1, Po4_2⟩ := hQ4
  have N4 := Fr.app N2 Nq4
  have O4 := O3.keep kh4 (allS g_b3 all0)
  have K4 : Keep h0 T4.heap [] := K3.trans kh4 (allS (Or.inr sz_b3) all0)
  obtain ⟨_, _, ⟨T5, L5, k5, n5⟩, -, X5, ⟨Lc5, hQ5, l5, y5, z5⟩, st5⟩ := Jvm.LawKit.callS X4 hx (y := (⟨"java/lang/Long", "valueOf", "(J)Ljava/lang/Long;"⟩ : MethodName)) hown (mvT hZ (hw _ (List.mem_of_getElem? (i := 18) rfl))) (mvT hZ (hw _ (List.mem_of_getElem? (i := 19) rfl))) (mvT hZ (hw _ (List.mem_of_getElem? (i := 20) rfl))) (mvT hZ (hw _ (List.mem_of_getElem? (i := 21) rfl))) (by decide) (backOf (W := 0) (valueOf l Z a0 hw [] s1 wc T4.heap n0 O4 G0 CA) hZ (hw _ (List.mem_of_getElem? (i := 21) rfl)) (hw _ (List.mem_of_getElem? (i := 20) rfl)) (by decide) (by decide)) (g := (mkF m 60 #[.val (.long s1), .second, .val (.int i), .val (.long t), .second, .val (.int j), .val (.int md), .val (.ref b1), .val (.int (md &&& (3 : Int32))), .val (.long s1), .second, .val (.int i), .val (.ref b3), .unset, .unset] [(.long s1)])) rfl (by rw [hml]; rfl) (argsL := [(.long s1)]) (rest := []) (lenOf pd_3 rfl) rfl (by show 2 * 0 + _ ≤ _; exact Nat.le_of_eq rfl) (hb hby at_60) (fun _ _ => ⟨rfl, rfl, (by decide : 2 + 1 ≤ _), (by decide : 4 + 1 ≤ _)⟩)
  dsimp only [Pt.U, Pt.locs, Pt.cells, Pt.slots] at X5 l5 y5 z5 st5 hQ5
  subst l5 y5 z5
  obtain ⟨r_5, rfl, Nq5, kh5, Po5_0⟩ := hQ5
  have N5 := Fr.app N4 Nq5
  have O5 := O4.keep kh5 all0
  have K5 : Keep h0 T5.heap [] := K4.trans kh5 all0
  have c6 : Fld Z T5.heap b1 "com/example/maat/maat/Turn" "seq" "J" (.long s1) := (((Po2_1.ext E3).keep kh4 (ninS (Nat.ne_of_lt (Nat.lt_of_lt_of_le (Po2_0).lt (Nat.le_of_eq gz3.symm))) nin0)).keep kh5 nin0)
  have c7 : Fld Z T5.heap b1 "com/example/maat/maat/Turn" "index" "I" (.int i) := (((Po2_2.ext E3).keep kh4 (ninS (Nat.ne_of_lt (Nat.lt_of_lt_of_le (Po2_0).lt (Nat.le_of_eq gz3.symm))) nin0)).keep kh5 nin0)
  obtain ⟨cq8, kq8, q8a, q8b, q8c⟩ := isOf hZ rfl (((Po2_0.ext E3).keep kh4).keep kh5)
  obtain ⟨_, _, ⟨T8, L8, k8, n8⟩, -, X8, ⟨Lc8, hQ8, l8, y8, z8⟩, st8⟩ := X5.virtualBack hx (y := (⟨"com/example/maat/maat/Turn", "equals", "(Ljava/lang/Object;)Z"⟩ : MethodName)) (z := (⟨"com/example/maat/maat/Turn", "equals", "(Ljava/lang/Object;)Z"⟩ : MethodName)) hown (mvT hZ (hw _ (List.mem_of_getElem? (i := 26) rfl))) (mvT hZ (hw _ (List.mem_of_getElem? (i := 27) rfl))) (notFace_of_selects (args := #[]) (mvT hZ (hw _ (List.mem_of_getElem? (i := 29) rfl)))) (mvT hZ (hw _ (List.mem_of_getElem? (i := 29) rfl))) (mvT hZ (hw _ (List.mem_of_getElem? (i := 28) rfl))) (by decide) (backOf (W := 0) (eqT l Z a0 hw [] b1 b3 s1 i s1 i T5.heap n0 O5 c6 c7 (Po4_1.keep kh5 nin0) (Po4_2.keep kh5 nin0) (Po4_0.keep kh5)) hZ (hw _ (List.mem_of_getElem? (i := 30) rfl)) (hw _ (List.mem_of_getElem? (i := 2) rfl)) (by decide) (by decide)) q8a q8c (g := (mkF m 89 #[.val (.long s1), .second, .val (.int i), .val (.long t), .second, .val (.int j), .val (.int md), .val (.ref b1), .val (.int (md &&& (3 : Int32))), .val (.long s1), .second, .val (.int i), .val (.ref b3), .val (.ref r_5), .val (.int (1 : Int32))] [(.ref b3), (.ref b1)])) rfl (by rw [hml]; rfl) (Steps.refl _) (argsL := [(.ref b3)]) (rest := []) (lenOf pd_4 rfl) rfl (by show 2 * 0 + _ ≤ _; exact Nat.le_of_eq rfl) (hb hby at_89) (fun _ _ => ⟨rfl, rfl, (by decide : 3 + 0 ≤ _), (by decide : 5 + 0 ≤ _)⟩)
  dsimp only [Pt.U, Pt.locs, Pt.cells, Pt.slots] at X8 l8 y8 z8 st8 hQ8
  subst l8 y8 z8
  obtain ⟨rfl, Nq8, kh8⟩ := hQ8
  have N8 := Fr.app N5 Nq8
  obtain ⟨cq9, kq9, q9a, q9b, q9c⟩ := isOf hZ kh8 (Po4_0.keep kh5)
  obtain ⟨_, _, ⟨T9, L9, k9, n9⟩, -, X9, ⟨Lc9, hQ9, l9, y9, z9⟩, st9⟩ := X8.virtualBack hx (y := (⟨"com/example/maat/maat/Turn", "equals", "(Ljava/lang/Object;)Z"⟩ : MethodName)) (z := (⟨"com/example/maat/maat/Turn", "equals", "(Ljava/lang/Object;)Z"⟩ : MethodName)) hown (mvT hZ (hw _ (List.mem_of_getElem? (i := 26) rfl))) (mvT hZ (hw _ (List.mem_of_getElem? (i := 27) rfl))) (notFace_of_selects (args := #[]) (mvT hZ (hw _ (List.mem_of_getElem? (i := 29) rfl)))) (mvT hZ (hw _ (List.mem_of_getElem? (i := 29) rfl))) (mvT hZ (hw _ (List.mem_of_getElem? (i := 28) rfl))) (by decide) (backOf (W := 0) (eqT l Z a0 hw [] b3 b1 s1 i s1 i T5.heap n0 O5 (Po4_1.keep kh5 nin0) (Po4_2.keep kh5 nin0) c6 c7 (((Po2_0.ext E3).keep kh4).keep kh5)) hZ (hw _ (List.mem_of_getElem? (i := 30) rfl)) (hw _ (List.mem_of_getElem? (i := 2) rfl)) (by decide) (by decide)) q9a q9c (g := (mkF m 103 #[.val (.long s1), .second, .val (.int i), .val (.long t), .second, .val (.int j), .val (.int md), .val (.ref b1), .val (.int (md &&& (3 : Int32))), .val (.long s1), .second, .val (.int i), .val (.ref b3), .val (.ref r_5), .val (.int (1 : Int32))] [(.ref b1), (.ref b3)])) rfl (by rw [hml]; rfl) (Steps.refl _) (argsL := [(.ref b1)]) (rest := []) (lenOf pd_4 rfl) rfl (by show 2 * 0 + _ ≤ _; exact Nat.le_of_eq rfl) (hb hby at_103) (fun _ _ => ⟨rfl, kh8, (by decide : 3 + 0 ≤ _), (by decide : 5 + 0 ≤ _)⟩)
  dsimp only [Pt.U, Pt.locs, Pt.cells, Pt.slots] at X9 l9 y9 z9 st9 hQ9
  subst l9 y9 z9
  obtain ⟨rfl, Nq9, kh9⟩ := hQ9
  have N9 := Fr.app N8 Nq9
  obtain ⟨cq10, kq10, q10a, q10b, q10c⟩ := isOf hZ kh9 (((Po2_0.ext E3).keep kh4).keep kh5)
  obtain ⟨_, _, ⟨T10, L10, k10, n10⟩, -, X10, ⟨Lc10, hQ10, l10, y10, z10⟩, st10⟩ := X9.virtualBack hx (y := (⟨"com/example/maat/maat/Turn", "equals", "(Ljava/lang/Object;)Z"⟩ : MethodName)) (z := (⟨"com/example/maat/maat/Turn", "equals", "(Ljava/lang/Object;)Z"⟩ : MethodName)) hown (mvT hZ (hw _ (List.mem_of_getElem? (i := 26) rfl))) (mvT hZ (hw _ (List.mem_of_getElem? (i := 27) rfl))) (notFace_of_selects (args := #[]) (mvT hZ (hw _ (List.mem_of_getElem? (i := 29) rfl)))) (mvT hZ (hw _ (List.mem_of_getElem? (i := 29) rfl))) (mvT hZ (hw _ (List.mem_of_getElem? (i := 28) rfl))) (by decide) (backOf (W := 0) (eqT l Z a0 hw [] b1 b1 s1 i s1 i T5.heap n0 O5 c6 c7 c6 c7 (((Po2_0.ext E3).keep kh4).keep kh5)) hZ (hw _ (List.mem_of_getElem? (i := 30) rfl)) (hw _ (List.mem_of_getElem? (i := 2) rfl)) (by decide) (by decide)) q10a q10c (g := (mkF m 117 #[.val (.long s1), .second, .val (.int i), .val (.long t), .second, .val (.int j), .val (.int md), .val (.ref b1), .val (.int (md &&& (3 : Int32))), .val (.long s1), .second, .val (.int i), .val (.ref b3), .val (.ref r_5), .val (.int (1 : Int32))] [(.ref b1), (.ref b1)])) rfl (by rw [hml]; rfl) (Steps.refl _) (argsL := [(.ref b1)]) (rest := []) (lenOf pd_4 rfl) rfl (by show 2 * 0 + _ ≤ _; exact Nat.le_of_eq rfl) (hb hby at_117) (fun _ _ => ⟨rfl, kh9, (by decide : 3 + 0 ≤ _), (by decide : 5 + 0 ≤ _)⟩)
  dsimp only [Pt.U, Pt.locs, Pt.cells, Pt.slots] at X10 l10 y10 z10 st10 hQ10
  subst l10 y10 z10
  obtain ⟨rfl, Nq10, kh10⟩ := hQ10
  have N10 := Fr.app N9 Nq10
  obtain ⟨cq11, kq11, q11a, q11b, q11c⟩ := isOf hZ kh10 (((Po2_0.ext E3).keep kh4).keep kh5)
  obtain ⟨_, _, ⟨T11, L11, k11, n11⟩, -, X11, ⟨Lc11, hQ11, l11, y11, z11⟩, st11⟩ := X10.virtualBack hx (y := (⟨"com/example/maat/maat/Turn", "equals", "(Ljava/lang/Object;)Z"⟩ : MethodName)) (z := (⟨"com/example/maat/maat/Turn", "equals", "(Ljava/lang/Object;)Z"⟩ : MethodName)) hown (mvT hZ (hw _ (List.mem_of_getElem? (i := 26) rfl))) (mvT hZ (hw _ (List.mem_of_getElem? (i := 27) rfl))) (notFace_of_selects (args := #[]) (mvT hZ (hw _ (List.mem_of_getElem? (i := 29) rfl)))) (mvT hZ (hw _ (List.mem_of_getElem? (i := 29) rfl))) (mvT hZ (hw _ (List.mem_of_getElem? (i := 28) rfl))) (by decide) (backOf (W := 0) (eqN l Z a0 hw [] b1 T5.heap n0 O5 ) hZ (hw _ (List.mem_of_getElem? (i := 30) rfl)) (hw _ (List.mem_of_getElem? (i := 2) rfl)) (by decide) (by decide)) q11a q11c (g := (mkF m 128 #[.val (.long s1), .second, .val (.int i), .val (.long t), .second, .val (.int j), .val (.int md), .val (.ref b1), .val (.int (md &&& (3 : Int32))), .val (.long s1), .second, .val (.int i), .val (.ref b3), .val (.ref r_5), .val (.int (1 : Int32))] [.null, (.ref b1)])) rfl (by rw [hml]; rfl) (Steps.refl _) (argsL := [.null]) (rest := []) (lenOf pd_4 rfl) rfl (by show 2 * 0 + _ ≤ _; exact Nat.le_of_eq rfl) (hb hby at_128) (fun _ _ => ⟨rfl, kh10, (by decide : 3 + 0 ≤ _), (by decide : 5 + 0 ≤ _)⟩)
  dsimp only [Pt.U, Pt.locs, Pt.cells, Pt.slots] at X11 l11 y11 z11 st11 hQ11
  subst l11 y11 z11
  obtain ⟨rfl, Nq11, kh11⟩ := hQ11
  have N11 := Fr.app N10 Nq11
  obtain ⟨cq12, kq12, q12a, q12b, q12c⟩ := isOf hZ kh11 (((Po2_0.ext E3).keep kh4).keep kh5)
  obtain ⟨_, _, ⟨T12, L12, k12, n12⟩, -, X12, ⟨Lc12, hQ12, l12, y12, z12⟩, st12⟩ := X11.virtualBack hx (y := (⟨"com/example/maat/maat/Turn", "equals", "(Ljava/lang/Object;)Z"⟩ : MethodName)) (z := (⟨"com/example/maat/maat/Turn", "equals", "(Ljava/lang/Object;)Z"⟩ : MethodName)) hown (mvT hZ (hw _ (List.mem_of_getElem? (i := 26) rfl))) (mvT hZ (hw _ (List.mem_of_getElem? (i := 27) rfl))) (notFace_of_selects (args := #[]) (mvT hZ (hw _ (List.mem_of_getElem? (i := 29) rfl)))) (mvT hZ (hw _ (List.mem_of_getElem? (i := 29) rfl))) (mvT hZ (hw _ (List.mem_of_getElem? (i := 28) rfl))) (by decide) (backOf (W := 0) (eqL l Z a0 hw [] b1 r_5 T5.heap n0 O5 Po5_0) hZ (hw _ (List.mem_of_getElem? (i := 30) rfl)) (hw _ (List.mem_of_getElem? (i := 2) rfl)) (by decide) (by decide)) q12a q12c (g := (mkF m 140 #[.val (.long s1), .second, .val (.int i), .val (.long t), .second, .val (.int j), .val (.int md), .val (.ref b1), .val (.int (md &&& (3 : Int32))), .val (.long s1), .second, .val (.int i), .val (.ref b3), .val (.ref r_5), .val (.int (1 : Int32))] [(.ref r_5), (.ref b1)])) rfl (by rw [hml]; rfl) (Steps.refl _) (argsL := [(.ref r_5)]) (rest := []) (lenOf pd_4 rfl) rfl (by show 2 * 0 + _ ≤ _; exact Nat.le_of_eq rfl) (hb hby at_140) (fun _ _ => ⟨rfl, kh11, (by decide : 3 + 0 ≤ _), (by decide : 5 + 0 ≤ _)⟩)
  dsimp only [Pt.U, Pt.locs, Pt.cells, Pt.slots] at X12 l12 y12 z12 st12 hQ12
  subst l12 y12 z12
  obtain ⟨rfl, Nq12, kh12⟩ := hQ12
  have N12 := Fr.app N11 Nq12
  obtain ⟨fs, hr, hrun, hended, hW, hsame⟩ := X12.leave (v := some (.int (1 : Int32))) (fun h => by rw [Bd.returns] at h; cases h)
  refine ⟨_, _, pre0 _ ?_, hrun, hended, _, _, rfl, ?_, ⟨_, rfl⟩, hW, hsame.mono (by decide) (by decide)⟩
  · show Steps p.tables e below (s₁.setTop (mkF m 0 #[.val (.long s1), .second, .val (.int i), .val (.long t), .second, .val (.int j), .val (.int md), .unset, .unset, .unset, .unset, .unset, .unset, .unset, .unset] [])) _
    refine st1 _ ?_
    show Steps p.tables e below (T1.setTop (mkF m 3 #[.val (.long s1), .second, .val (.int i), .val (.long t), .second, .val (.int j), .val (.int md), .unset, .unset, .unset, .unset, .unset, .unset, .unset, .unset] [(.ref b1)])) _
    refine XS.dup X1.here hx rfl (hb hby at_3) rfl rfl ?_
    show Steps p.tables e below (T1.setTop (mkF m 4 #[.val (.long s1), .second, .val (.int i), .val (.long t), .second, .val (.int j), .val (.int md), .unset, .unset, .unset, .unset, .unset, .unset, .unset, .unset] [(.ref b1), (.ref b1)])) _
    refine XS.lloadN X1.here hx rfl (hb hby at_4) rfl ?_
    show Steps p.tables e below (T1.setTop (mkF m 5 #[.val (.long s1), .second, .val (.int i), .val (.long t), .second, .val (.int j), .val (.int md), .unset, .unset, .unset, .unset, .unset, .unset, .unset, .unset] [(.long s1), (.ref b1), (.ref b1)])) _
    refine XS.iloadN X1.here hx rfl (hb hby at_5) rfl ?_
    show Steps p.tables e below (T1.setTop (mkF m 6 #[.val (.long s1), .second, .val (.int i), .val (.long t), .second, .val (.int j), .val (.int md), .unset, .unset, .unset, .unset, .unset, .unset, .unset, .unset] [(.int i), (.long s1), (.ref b1), (.ref b1)])) _
    refine st2.trans ?_
    show Steps p.tables e below (T2.setTop (mkF m 9 #[.val (.long s1), .second, .val (.int i), .val (.long t), .second, .val (.int j), .val (.int md), .unset, .unset, .unset, .unset, .unset, .unset, .unset, .unset] [(.ref b1)])) _
    refine XS.astore X2.here hx rfl (hb hby at_9) rfl rfl (l' := #[.val (.long s1), .second, .val (.int i), .val (.long t), .second, .val (.int j), .val (.int md), .val (.ref b1), .unset, .unset, .unset, .unset, .unset, .unset, .unset]) rfl ?_
    show Steps p.tables e below (T2.setTop (mkF m 11 #[.val (.long s1), .second, .val (.int i), .val (.long t), .second, .val (.int j), .val (.int md), .val (.ref b1), .unset, .unset, .unset, .unset, .unset, .unset, .unset] [])) _
    refine XS.iload X2.here hx rfl (hb hby at_11) rfl ?_
    show Steps p.tables e below (T2.setTop (mkF m 13 #[.val (.long s1), .second, .val (.int i), .val (.long t), .second, .val (.int j), .val (.int md), .val (.ref b1), .unset, .unset, .unset, .unset, .unset, .unset, .unset] [(.int md)])) _
    refine XS.iconst X2.here hx rfl (hb hby at_13) ?_
    show Steps p.tables e below (T2.setTop (mkF m 14 #[.val (.long s1), .second, .val (.int i), .val (.long t), .second, .val (.int j), .val (.int md), .val (.ref b1), .unset, .unset, .unset, .unset, .unset, .unset, .unset] [(.int (3 : Int32)), (.int md)])) _
    refine XS.iand X2.here hx rfl (hb hby at_14) rfl ?_
    show Steps p.tables e below (T2.setTop (mkF m 15 #[.val (.long s1), .second, .val (.int i), .val (.long t), .second, .val (.int j), .val (.int md), .val (.ref b1), .unset, .unset, .unset, .unset, .unset, .unset, .unset] [(.int (md &&& (3 : Int32)))])) _
    refine XS.istore X2.here hx rfl (hb hby at_15) rfl (l' := #[.val (.long s1), .second, .val (.int i), .val (.long t), .second, .val (.int j), .val (.int md), .val (.ref b1), .val (.int (md &&& (3 : Int32))), .unset, .unset, .unset, .unset, .unset, .unset]) rfl ?_
    show Steps p.tables e below (T2.setTop (mkF m 17 #[.val (.long s1), .second, .val (.int i), .val (.long t), .second, .val (.int j), .val (.int md), .val (.ref b1), .val (.int (md &&& (3 : Int32))), .unset, .unset, .unset, .unset, .unset, .unset] [])) _
    refine XS.iload X2.here hx rfl (hb hby at_17) rfl ?_
    show Steps p.tables e below (T2.setTop (mkF m 19 #[.val (.long s1), .second, .val (.int i), .val (.long t), .second, .val (.int j), .val (.int md), .val (.ref b1), .val (.int (md &&& (3 : Int32))), .unset, .unset, .unset, .unset, .unset, .unset] [(.int (md &&& (3 : Int32)))])) _
    refine XS.iconst X2.here hx rfl (hb hby at_19) ?_
    show Steps p.tables e below (T2.setTop (mkF m 20 #[.val (.long s1), .second, .val (.int i), .val (.long t), .second, .val (.int j), .val (.int md), .val (.ref b1), .val (.int (md &&& (3 : Int32))), .unset, .unset, .unset, .unset, .unset, .unset] [(.int (1 : Int32)), (.int (md &&& (3 : Int32)))])) _
    refine XS.iand X2.here hx rfl (hb hby at_20) rfl ?_
    show Steps p.tables e below (T2.setTop (mkF m 21 #[.val (.long s1), .second, .val (.int i), .val (.long t), .second, .val (.int j), .val (.int md), .val (.ref b1), .val (.int (md &&& (3 : Int32))), .unset, .unset, .unset, .unset, .unset, .unset] [(.int ((md &&& (3 : Int32)) &&& (1 : Int32)))])) _
    refine XS.ifYes X2.here hx rfl (pc0 := 21) (pc' := 28) rfl (hb hby at_21) rfl ((if0 _ _).trans (teq (hc21 : ((md &&& (3 : Int32)) &&& (1 : Int32)) = (0 : Int32))).1) (by decide) (by decide) ?_
    show Steps p.tables e below (T2.setTop (mkF m 28 #[.val (.long s1), .second, .val (.int i), .val (.long t), .second, .val (.int j), .val (.int md), .val (.ref b1), .val (.int (md &&& (3 : Int32))), .unset, .unset, .unset, .unset, .unset, .unset] [])) _
    refine XS.lloadN X2.here hx rfl (hb hby at_28) rfl ?_
    show Steps p.tables e below (T2.setTop (mkF m 29 #[.val (.long s1), .second, .val (.int i), .val (.long t), .second, .val (.int j), .val (.int md), .val (.ref b1), .val (.int (md &&& (3 : Int32))), .unset, .unset, .unset, .unset, .unset, .unset] [(.long s1)])) _
    refine XS.lstore X2.here hx rfl (hb hby at_29) rfl (l' := #[.val (.long s1), .second, .val (.int i), .val (.long t), .second, .val (.int j), .val (.int md), .val (.ref b1), .val (.int (md &&& (3 : Int32))), .val (.long s1), .second, .unset, .unset, .unset, .unset]) rfl ?_
    show Steps p.tables e below (T2.setTop (mkF m 31 #[.val (.long s1), .second, .val (.int i), .val (.long t), .second, .val (.int j), .val (.int md), .val (.ref b1), .val (.int (md &&& (3 : Int32))), .val (.long s1), .second, .unset, .unset, .unset, .unset] [])) _
    refine XS.iload X2.here hx rfl (hb hby at_31) rfl ?_
    show Steps p.tables e below (T2.setTop (mkF m 33 #[.val (.long s1), .second, .val (.int i), .val (.long t), .second, .val (.int j), .val (.int md), .val (.ref b1), .val (.int (md &&& (3 : Int32))), .val (.long s1), .second, .unset, .unset, .unset, .unset] [(.int (md &&& (3 : Int32)))])) _
    refine XS.iconst X2.here hx rfl (hb hby at_33) ?_
    show Steps p.tables e below (T2.setTop (mkF m 34 #[.val (.long s1), .second, .val (.int i), .val (.long t), .second, .val (.int j), .val (.int md), .val (.ref b1), .val (.int (md &&& (3 : Int32))), .val (.long s1), .second, .unset, .unset, .unset, .unset] [(.int (2 : Int32)), (.int (md &&& (3 : Int32)))])) _
    refine XS.iand X2.here hx rfl (hb hby at_34) rfl ?_
    show Steps p.tables e below (T2.setTop (mkF m 35 #[.val (.long s1), .second, .val (.int i), .val (.long t), .second, .val (.int j), .val (.int md), .val (.ref b1), .val (.int (md &&& (3 : Int32))), .val (.long s1), .second, .unset, .unset, .unset, .unset] [(.int ((md &&& (3 : Int32)) &&& (2 : Int32)))])) _
    refine XS.ifYes X2.here hx rfl (pc0 := 35) (pc' := 43) rfl (hb hby at_35) rfl ((if0 _ _).trans (teq (hc35 : ((md &&& (3 : Int32)) &&& (2 : Int32)) = (0 : Int32))).1) (by decide) (by decide) ?_
    show Steps p.tables e below (T2.setTop (mkF m 43 #[.val (.long s1), .second, .val (.int i), .val (.long t), .second, .val (.int j), .val (.int md), .val (.ref b1), .val (.int (md &&& (3 : Int32))), .val (.long s1), .second, .unset, .unset, .unset, .unset] [])) _
    refine XS.iloadN X2.here hx rfl (hb hby at_43) rfl ?_
    show Steps p.tables e below (T2.setTop (mkF m 44 #[.val (.long s1), .second, .val (.int i), .val (.long t), .second, .val (.int j), .val (.int md), .val (.ref b1), .val (.int (md &&& (3 : Int32))), .val (.long s1), .second, .unset, .unset, .unset, .unset] [(.int i)])) _
    refine XS.istore X2.here hx rfl (hb hby at_44) rfl (l' := #[.val (.long s1), .second, .val (.int i), .val (.long t), .second, .val (.int j), .val (.int md), .val (.ref b1), .val (.int (md &&& (3 : Int32))), .val (.long s1), .second, .val (.int i), .unset, .unset, .unset]) rfl ?_
    show Steps p.tables e below (T2.setTop (mkF m 46 #[.val (.long s1), .second, .val (.int i), .val (.long t), .second, .val (.int j), .val (.int md), .val (.ref b1), .val (.int (md &&& (3 : Int32))), .val (.long s1), .second, .val (.int i), .unset, .unset, .unset] [])) _
    refine st3 _ ?_
    show Steps p.tables e below (T3.setTop (mkF m 49 #[.val (.long s1), .second, .val (.int i), .val (.long t), .second, .val (.int j), .val (.int md), .val (.ref b1), .val (.int (md &&& (3 : Int32))), .val (.long s1), .second, .val (.int i), .unset, .unset, .unset] [(.ref b3)])) _
    refine XS.dup X3.here hx rfl (hb hby at_49) rfl rfl ?_
    show Steps p.tables e below (T3.setTop (mkF m 50 #[.val (.long s1), .second, .val (.int i), .val (.long t), .second, .val (.int j), .val (.int md), .val (.ref b1), .val (.int (md &&& (3 : Int32))), .val (.long s1), .second, .val (.int i), .unset, .unset, .unset] [(.ref b3), (.ref b3)])) _
    refine XS.lload X3.here hx rfl (hb hby at_50) rfl ?_
    show Steps p.tables e below (T3.setTop (mkF m 52 #[.val (.long s1), .second, .val (.int i), .val (.long t), .second, .val (.int j), .val (.int md), .val (.ref b1), .val (.int (md &&& (3 : Int32))), .val (.long s1), .second, .val (.int i), .unset, .unset, .unset] [(.long s1), (.ref b3), (.ref b3)])) _
    refine XS.iload X3.here hx rfl (hb hby at_52) rfl ?_
    show Steps p.tables e below (T3.setTop (mkF m 54 #[.val (.long s1), .second, .val (.int i), .val (.long t), .second, .val (.int j), .val (.int md), .val (.ref b1), .val (.int (md &&& (3 : Int32))), .val (.long s1), .second, .val (.int i), .unset, .unset, .unset] [(.int i), (.long s1), (.ref b3), (.ref b3)])) _
    refine st4.trans ?_
    show Steps p.tables e below (T4.setTop (mkF m 57 #[.val (.long s1), .second, .val (.int i), .val (.long t), .second, .val (.int j), .val (.int md), .val (.ref b1), .val (.int (md &&& (3 : Int32))), .val (.long s1), .second, .val (.int i), .unset, .unset, .unset] [(.ref b3)])) _
    refine XS.astore X4.here hx rfl (hb hby at_57) rfl rfl (l' := #[.val (.long s1), .second, .val (.int i), .val (.long t), .second, .val (.int j), .val (.int md), .val (.ref b1), .val (.int (md &&& (3 : Int32))), .val (.long s1), .second, .val (.int i), .val (.ref b3), .unset, .unset]) rfl ?_
    show Steps p.tables e below (T4.setTop (mkF m 59 #[.val (.long s1), .second, .val (.int i), .val (.long t), .second, .val (.int j), .val (.int md), .val (.ref b1), .val (.int (md &&& (3 : Int32))), .val (.long s1), .second, .val (.int i), .val (.ref b3), .unset, .unset] [])) _
    refine XS.lloadN X4.here hx rfl (hb hby at_59) rfl ?_
    show Steps p.tables e below (T4.setTop (mkF m 60 #[.val (.long s1), .second, .val (.int i), .val (.long t), .second, .val (.int j), .val (.int md), .val (.ref b1), .val (.int (md &&& (3 : Int32))), .val (.long s1), .second, .val (.int i), .val (.ref b3), .unset, .unset] [(.long s1)])) _
    refine st5 _ ?_
    show Steps p.tables e below (T5.setTop (mkF m 63 #[.val (.long s1), .second, .val (.int i), .val (.long t), .second, .val (.int j), .val (.int md), .val (.ref b1), .val (.int (md &&& (3 : Int32))), .val (.long s1), .second, .val (.int i), .val (.ref b3), .unset, .unset] [(.ref r_5)])) _
    refine XS.astore X5.here hx rfl (hb hby at_63) rfl rfl (l' := #[.val (.long s1), .second, .val (.int i), .val (.long t), .second, .val (.int j), .val (.int md), .val (.ref b1), .val (.int (md &&& (3 : Int32))), .val (.long s1), .second, .val (.int i), .val (.ref b3), .val (.ref r_5), .unset]) rfl ?_
    show Steps p.tables e below (T5.setTop (mkF m 65 #[.val (.long s1), .second, .val (.int i), .val (.long t), .second, .val (.int j), .val (.int md), .val (.ref b1), .val (.int (md &&& (3 : Int32))), .val (.long s1), .second, .val (.int i), .val (.ref b3), .val (.ref r_5), .unset] [])) _
    refine XS.lload X5.here hx rfl (hb hby at_65) rfl ?_
    show Steps p.tables e below (T5.setTop (mkF m 67 #[.val (.long s1), .second, .val (.int i), .val (.long t), .second, .val (.int j), .val (.int md), .val (.ref b1), .val (.int (md &&& (3 : Int32))), .val (.long s1), .second, .val (.int i), .val (.ref b3), .val (.ref r_5), .unset] [(.long s1)])) _
    refine XS.lloadN X5.here hx rfl (hb hby at_67) rfl ?_
    show Steps p.tables e below (T5.setTop (mkF m 68 #[.val (.long s1), .second, .val (.int i), .val (.long t), .second, .val (.int j), .val (.int md), .val (.ref b1), .val (.int (md &&& (3 : Int32))), .val (.long s1), .second, .val (.int i), .val (.ref b3), .val (.ref r_5), .unset] [(.long s1), (.long s1)])) _
    refine XS.lcmp X5.here hx rfl (hb hby at_68) rfl ?_
    show Steps p.tables e below (T5.setTop (mkF m 69 #[.val (.long s1), .second, .val (.int i), .val (.long t), .second, .val (.int j), .val (.int md), .val (.ref b1), .val (.int (md &&& (3 : Int32))), .val (.long s1), .second, .val (.int i), .val (.ref b3), .val (.ref r_5), .unset] [(.int (lcmpW s1 s1))])) _
    refine XS.ifNo X5.here hx rfl (hb hby at_69) rfl ((if0 _ _).trans (teq (((lw_eq _ _).mpr rfl) : (lcmpW s1 s1) = (0 : Int32))).2) ?_
    show Steps p.tables e below (T5.setTop (mkF m 72 #[.val (.long s1), .second, .val (.int i), .val (.long t), .second, .val (.int j), .val (.int md), .val (.ref b1), .val (.int (md &&& (3 : Int32))), .val (.long s1), .second, .val (.int i), .val (.ref b3), .val (.ref r_5), .unset] [])) _
    refine XS.iload X5.here hx rfl (hb hby at_72) rfl ?_
    show Steps p.tables e below (T5.setTop (mkF m 74 #[.val (.long s1), .second, .val (.int i), .val (.long t), .second, .val (.int j), .val (.int md), .val (.ref b1), .val (.int (md &&& (3 : Int32))), .val (.long s1), .second, .val (.int i), .val (.ref b3), .val (.ref r_5), .unset] [(.int i)])) _
    refine XS.iloadN X5.here hx rfl (hb hby at_74) rfl ?_
    show Steps p.tables e below (T5.setTop (mkF m 75 #[.val (.long s1), .second, .val (.int i), .val (.long t), .second, .val (.int j), .val (.int md), .val (.ref b1), .val (.int (md &&& (3 : Int32))), .val (.long s1), .second, .val (.int i), .val (.ref b3), .val (.ref r_5), .unset] [(.int i), (.int i)])) _
    refine XS.icmpNo X5.here hx rfl (hb hby at_75) rfl (teq (rfl : i = i)).2 ?_
    show Steps p.tables e below (T5.setTop (mkF m 78 #[.val (.long s1), .second, .val (.int i), .val (.long t), .second, .val (.int j), .val (.int md), .val (.ref b1), .val (.int (md &&& (3 : Int32))), .val (.long s1), .second, .val (.int i), .val (.ref b3), .val (.ref r_5), .unset] [])) _
    refine XS.iconst X5.here hx rfl (hb hby at_78) ?_
    show Steps p.tables e below (T5.setTop (mkF m 79 #[.val (.long s1), .second, .val (.int i), .val (.long t), .second, .val (.int j), .val (.int md), .val (.ref b1), .val (.int (md &&& (3 : Int32))), .val (.long s1), .second, .val (.int i), .val (.ref b3), .val (.ref r_5), .unset] [(.int (1 : Int32))])) _
    refine XS.goto X5.here hx rfl (pc0 := 79) (pc' := 83) rfl (hb hby at_79) (by decide) (by decide) ?_
    show Steps p.tables e below (T5.setTop (mkF m 83 #[.val (.long s1), .second, .val (.int i), .val (.long t), .second, .val (.int j), .val (.int md), .val (.ref b1), .val (.int (md &&& (3 : Int32))), .val (.long s1), .second, .val (.int i), .val (.ref b3), .val (.ref r_5), .unset] [(.int (1 : Int32))])) _
    refine XS.istore X5.here hx rfl (hb hby at_83) rfl (l' := #[.val (.long s1), .second, .val (.int i), .val (.long t), .second, .val (.int j), .val (.int md), .val (.ref b1), .val (.int (md &&& (3 : Int32))), .val (.long s1), .second, .val (.int i), .val (.ref b3), .val (.ref r_5), .val (.int (1 : Int32))]) rfl ?_
    show Steps p.tables e below (T5.setTop (mkF m 85 #[.val (.long s1), .second, .val (.int i), .val (.long t), .second, .val (.int j), .val (.int md), .val (.ref b1), .val (.int (md &&& (3 : Int32))), .val (.long s1), .second, .val (.int i), .val (.ref b3), .val (.ref r_5), .val (.int (1 : Int32))] [])) _
    refine XS.aload X5.here hx rfl (hb hby at_85) rfl rfl ?_
    show Steps p.tables e below (T5.setTop (mkF m 87 #[.val (.long s1), .second, .val (.int i), .val (.long t), .second, .val (.int j), .val (.int md), .val (.ref b1), .val (.int (md &&& (3 : Int32))), .val (.long s1), .second, .val (.int i), .val (.ref b3), .val (.ref r_5), .val (.int (1 : Int32))] [(.ref b1)])) _
    refine XS.aload X5.here hx rfl (hb hby at_87) rfl rfl ?_
    show Steps p.tables e below (T5.setTop (mkF m 89 #[.val (.long s1), .second, .val (.int i), .val (.long t), .second, .val (.int j), .val (.int md), .val (.ref b1), .val (.int (md &&& (3 : Int32))), .val (.long s1), .second, .val (.int i), .val (.ref b3), .val (.ref r_5), .val (.int (1 : Int32))] [(.ref b3), (.ref b1)])) _
    refine st8.trans ?_
    show Steps p.tables e below (T8.setTop (mkF m 92 #[.val (.long s1), .second, .val (.int i), .val (.long t), .second, .val (.int j), .val (.int md), .val (.ref b1), .val (.int (md &&& (3 : Int32))), .val (.long s1), .second, .val (.int i), .val (.ref b3), .val (.ref r_5), .val (.int (1 : Int32))] [(.int (eqV s1 i s1 i))])) _
    refine XS.iload X8.here hx rfl (hb hby at_92) rfl ?_
    show Steps p.tables e below (T8.setTop (mkF m 94 #[.val (.long s1), .second, .val (.int i), .val (.long t), .second, .val (.int j), .val (.int md), .val (.ref b1), .val (.int (md &&& (3 : Int32))), .val (.long s1), .second, .val (.int i), .val (.ref b3), .val (.ref r_5), .val (.int (1 : Int32))] [(.int (1 : Int32)), (.int (eqV s1 i s1 i))])) _
    refine XS.icmpYes X8.here hx rfl (pc0 := 94) (pc' := 99) rfl (hb hby at_94) rfl (teq ((eqV_y rfl rfl) : (eqV s1 i s1 i) = (1 : Int32))).1 (by decide) (by decide) ?_
    show Steps p.tables e below (T8.setTop (mkF m 99 #[.val (.long s1), .second, .val (.int i), .val (.long t), .second, .val (.int j), .val (.int md), .val (.ref b1), .val (.int (md &&& (3 : Int32))), .val (.long s1), .second, .val (.int i), .val (.ref b3), .val (.ref r_5), .val (.int (1 : Int32))] [])) _
    refine XS.aload X8.here hx rfl (hb hby at_99) rfl rfl ?_
    show Steps p.tables e below (T8.setTop (mkF m 101 #[.val (.long s1), .second, .val (.int i), .val (.long t), .second, .val (.int j), .val (.int md), .val (.ref b1), .val (.int (md &&& (3 : Int32))), .val (.long s1), .second, .val (.int i), .val (.ref b3), .val (.ref r_5), .val (.int (1 : Int32))] [(.ref b3)])) _
    refine XS.aload X8.here hx rfl (hb hby at_101) rfl rfl ?_
    show Steps p.tables e below (T8.setTop (mkF m 103 #[.val (.long s1), .second, .val (.int i), .val (.long t), .second, .val (.int j), .val (.int md), .val (.ref b1), .val (.int (md &&& (3 : Int32))), .val (.long s1), .second, .val (.int i), .val (.ref b3), .val (.ref r_5), .val (.int (1 : Int32))] [(.ref b1), (.ref b3)])) _
    refine st9.trans ?_
    show Steps p.tables e below (T9.setTop (mkF m 106 #[.val (.long s1), .second, .val (.int i), .val (.long t), .second, .val (.int j), .val (.int md), .val (.ref b1), .val (.int (md &&& (3 : Int32))), .val (.long s1), .second, .val (.int i), .val (.ref b3), .val (.ref r_5), .val (.int (1 : Int32))] [(.int (eqV s1 i s1 i))])) _
    refine XS.iload X9.here hx rfl (hb hby at_106) rfl ?_
    show Steps p.tables e below (T9.setTop (mkF m 108 #[.val (.long s1), .second, .val (.int i), .val (.long t), .second, .val (.int j), .val (.int md), .val (.ref b1), .val (.int (md &&& (3 : Int32))), .val (.long s1), .second, .val (.int i), .val (.ref b3), .val (.ref r_5), .val (.int (1 : Int32))] [(.int (1 : Int32)), (.int (eqV s1 i s1 i))])) _
    refine XS.icmpYes X9.here hx rfl (pc0 := 108) (pc' := 113) rfl (hb hby at_108) rfl (teq ((eqV_y rfl rfl) : (eqV s1 i s1 i) = (1 : Int32))).1 (by decide) (by decide) ?_
    show Steps p.tables e below (T9.setTop (mkF m 113 #[.val (.long s1), .second, .val (.int i), .val (.long t), .second, .val (.int j), .val (.int md), .val (.ref b1), .val (.int (md &&& (3 : Int32))), .val (.long s1), .second, .val (.int i), .val (.ref b3), .val (.ref r_5), .val (.int (1 : Int32))] [])) _
    refine XS.aload X9.here hx rfl (hb hby at_113) rfl rfl ?_
    show Steps p.tables e below (T9.setTop (mkF m 115 #[.val (.long s1), .second, .val (.int i), .val (.long t), .second, .val (.int j), .val (.int md), .val (.ref b1), .val (.int (md &&& (3 : Int32))), .val (.long s1), .second, .val (.int i), .val (.ref b3), .val (.ref r_5), .val (.int (1 : Int32))] [(.ref b1)])) _
    refine XS.aload X9.here hx rfl (hb hby at_115) rfl rfl ?_
    show Steps p.tables e below (T9.setTop (mkF m 117 #[.val (.long s1), .second, .val (.int i), .val (.long t), .second, .val (.int j), .val (.int md), .val (.ref b1), .val (.int (md &&& (3 : Int32))), .val (.long s1), .second, .val (.int i), .val (.ref b3), .val (.ref r_5), .val (.int (1 : Int32))] [(.ref b1), (.ref b1)])) _
    refine st10.trans ?_
    show Steps p.tables e below (T10.setTop (mkF m 120 #[.val (.long s1), .second, .val (.int i), .val (.long t), .second, .val (.int j), .val (.int md), .val (.ref b1), .val (.int (md &&& (3 : Int32))), .val (.long s1), .second, .val (.int i), .val (.ref b3), .val (.ref r_5), .val (.int (1 : Int32))] [(.int (eqV s1 i s1 i))])) _
    refine XS.ifYes X10.here hx rfl (pc0 := 120) (pc' := 125) rfl (hb hby at_120) rfl ((if0 _ _).trans (feq ((by rw [eqV_y rfl rfl]; decide) : ¬ ((eqV s1 i s1 i) = (0 : Int32)))).2) (by decide) (by decide) ?_
    show Steps p.tables e below (T10.setTop (mkF m 125 #[.val (.long s1), .second, .val (.int i), .val (.long t), .second, .val (.int j), .val (.int md), .val (.ref b1), .val (.int (md &&& (3 : Int32))), .val (.long s1), .second, .val (.int i), .val (.ref b3), .val (.ref r_5), .val (.int (1 : Int32))] [])) _
    refine XS.aload X10.here hx rfl (hb hby at_125) rfl rfl ?_
    show Steps p.tables e below (T10.setTop (mkF m 127 #[.val (.long s1), .second, .val (.int i), .val (.long t), .second, .val (.int j), .val (.int md), .val (.ref b1), .val (.int (md &&& (3 : Int32))), .val (.long s1), .second, .val (.int i), .val (.ref b3), .val (.ref r_5), .val (.int (1 : Int32))] [(.ref b1)])) _
    refine XS.aconstNull X10.here hx rfl (hb hby at_127) ?_
    show Steps p.tables e below (T10.setTop (mkF m 128 #[.val (.long s1), .second, .val (.int i), .val (.long t), .second, .val (.int j), .val (.int md), .val (.ref b1), .val (.int (md &&& (3 : Int32))), .val (.long s1), .second, .val (.int i), .val (.ref b3), .val (.ref r_5), .val (.int (1 : Int32))] [.null, (.ref b1)])) _
    refine st11.trans ?_
    show Steps p.tables e below (T11.setTop (mkF m 131 #[.val (.long s1), .second, .val (.int i), .val (.long t), .second, .val (.int j), .val (.int md), .val (.ref b1), .val (.int (md &&& (3 : Int32))), .val (.long s1), .second, .val (.int i), .val (.ref b3), .val (.ref r_5), .val (.int (1 : Int32))] [(.int (0 : Int32))])) _
    refine XS.ifYes X11.here hx rfl (pc0 := 131) (pc' := 136) rfl (hb hby at_131) rfl ((if0 _ _).trans (teq (by decide : (0 : Int32) = (0 : Int32))).1) (by decide) (by decide) ?_
    show Steps p.tables e below (T11.setTop (mkF m 136 #[.val (.long s1), .second, .val (.int i), .val (.long t), .second, .val (.int j), .val (.int md), .val (.ref b1), .val (.int (md &&& (3 : Int32))), .val (.long s1), .second, .val (.int i), .val (.ref b3), .val (.ref r_5), .val (.int (1 : Int32))] [])) _
    refine XS.aload X11.here hx rfl (hb hby at_136) rfl rfl ?_
    show Steps p.tables e below (T11.setTop (mkF m 138 #[.val (.long s1), .second, .val (.int i), .val (.long t), .second, .val (.int j), .val (.int md), .val (.ref b1), .val (.int (md &&& (3 : Int32))), .val (.long s1), .second, .val (.int i), .val (.ref b3), .val (.ref r_5), .val (.int (1 : Int32))] [(.ref b1)])) _
    refine XS.aload X11.here hx rfl (hb hby at_138) rfl rfl ?_
    show Steps p.tables e below (T11.setTop (mkF m 140 #[.val (.long s1), .second, .val (.int i), .val (.long t), .second, .val (.int j), .val (.int md), .val (.ref b1), .val (.int (md &&& (3 : Int32))), .val (.long s1), .second, .val (.int i), .val (.ref b3), .val (.ref r_5), .val (.int (1 : Int32))] [(.ref r_5), (.ref b1)])) _
    refine st12.trans ?_
    show Steps p.tables e below (T12.setTop (mkF m 143 #[.val (.long s1), .second, .val (.int i), .val (.long t), .second, .val (.int j), .val (.int md), .val (.ref b1), .val (.int (md &&& (3 : Int32))), .val (.long s1), .second, .val (.int i), .val (.ref b3), .val (.ref r_5), .val (.int (1 : Int32))] [(.int (0 : Int32))])) _
    refine XS.ifYes X12.here hx rfl (pc0 := 143) (pc' := 148) rfl (hb hby at_143) rfl ((if0 _ _).trans (teq (by decide : (0 : Int32) = (0 : Int32))).1) (by decide) (by decide) ?_
    show Steps p.tables e below (T12.setTop (mkF m 148 #[.val (.long s1), .second, .val (.int i), .val (.long t), .second, .val (.int j), .val (.int md), .val (.ref b1), .val (.int (md &&& (3 : Int32))), .val (.long s1), .second, .val (.int i), .val (.ref b3), .val (.ref r_5), .val (.int (1 : Int32))] [])) _
    refine XS.iconst X12.here hx rfl (hb hby at_148) ?_
    show Steps p.tables e below (T12.setTop (mkF m 149 #[.val (.long s1), .second, .val (.int i), .val (.long t), .second, .val (.int j), .val (.int md), .val (.ref b1), .val (.int (md &&& (3 : Int32))), .val (.long s1), .second, .val (.int i), .val (.ref b3), .val (.ref r_5), .val (.int (1 : Int32))] [(.int (1 : Int32))])) _
    exact retN X12 hx (t := .boolean) Bd.returns (by simp) (hb hby at_149) hr
  · show Q_law Z s1 i t j md wc h0 n0 _ T12.heap _
    rw [kh12]
    exact ⟨rfl, N12⟩
set_option maxRecDepth 65536 in
set_option maxHeartbeats 40000000 in
theorem law_2 (l : Launch) (Z : State) (a0 : Array Value) (hw : ∀ d ∈ tables_1, d.before a0 Z = true) (ws : List Jvm.Cond) (s1 : Int64) (i : Int32) (t : Int64) (j : Int32) (md : Int32) (wc : Addr) (h0 : Heap) (n0 : Nat) (O0 : Old Z n0 h0) (G0 : Sta Z Z.heap "java/lang/Long$LongCache" "cache" "[Ljava/lang/Long;" (.ref wc)) (CA : Cache Z wc "java/lang/Long") (hc21 : ((md &&& (3 : Int32)) &&& (1 : Int32)) = (0 : Int32)) (hc35 : ¬ (((md &&& (3 : Int32)) &&& (2 : Int32)) = (0 : Int32))) (hc75 : j = i) :
    MetFree l x (head1 (Jvm.Cond.code x code maxLocals ret :: ws) room_1) (fun zA zU => zA = #[(.long s1), (.int i), (.long t), (.int j), (.int md)] ∧ Z.Warmed39 zU.vm ∧ zU.heap = h0) (fun _ _ _ _ _ => True) (fun _ zU zo zU' => ∃ zv zL, zo = .returned zv ∧ Q_law Z s1 i t j md wc h0 n0 zv zU'.heap zL ∧ FrameEnd zU zo zU' zL room_1.cells room_1.slots) := by
  refine MetFree.of_bodySF (plainFor_of_name pn_11) hisR ?_
  intro p e s m args below meth c s₁ Bd hml0 hP hK
  obtain ⟨rfl, hZ, hh⟩ := hP
  have hx := Bd.exec
  have hby := Bd.bytes
  have hml : c.maxLocals = 15 := hml0
  have hown : s.vm.findClass "com/example/maat/maat/TurnEqualsPinLaw" = some m.cls := findClass_of_methodNamed Bd.named
  have hnm := (name_of_methodNamed Bd.named Bd.method).1
  have X0 : Stand p l e room_1 s m #[(.long s1), (.int i), (.long t), (.int j), (.int md)] below meth c s₁ [] 0 0 := Stand.of_body Bd
  have e0 : s₁.heap = h0 := by rw [← hh, Bd.state]; rfl
  have N0 := Fr.nil n0
  have Z0 : n0 ≤ h0.size := O0.1 ▸ O0.2.1
  have pre0 : ∀ zt, Steps p.tables e below (s₁.setTop (mkF m 0 #[.val (.long s1), .second, .val (.int i), .val (.long t), .second, .val (.int j), .val (.int md), .unset, .unset, .unset, .unset, .unset, .unset, .unset, .unset] [])) zt → Steps p.tables e below (s₁.setTop (entryFrame m #[(.long s1), (.int i), (.long t), (.int j), (.int md)] maxLocals)) zt := fun zt zk => castTop (ef_0_JIJII m s1 i t j md) zk
  obtain ⟨T1, h1, X1, e1, E1, A1, D1, U1, st1⟩ := newO X0 hx hZ hown (hw _ (List.mem_of_getElem? (i := 0) rfl)) (hw _ (List.mem_of_getElem? (i := 1) rfl)) (hw _ (List.mem_of_getElem? (i := 2) rfl)) e0 (g := (mkF m 0 #[.val (.long s1), .second, .val (.int i), .val (.long t), .second, .val (.int j), .val (.int md), .unset, .unset, .unset, .unset, .unset, .unset, .unset, .unset] [])) rfl (hb hby at_0) (by decide) (by decide)
  obtain ⟨b1, gz1⟩ : ∃ z, z = h0.size := ⟨_, rfl⟩
  rw [← gz1] at A1 D1 U1 st1
  have sz_b1 : h0.size ≤ b1 := Nat.le_trans (Keep.refl h0 []).1 (Nat.le_of_eq gz1.symm)
  have g_b1 : n0 ≤ b1 := Nat.le_trans Z0 sz_b1
  have O1 := O0.ext E1
  have K1 : Keep h0 h1 [] := (Keep.refl h0 []).ext E1
  have Fi1_15 : Fld Z h1 b1 "com/example/maat/maat/Turn" "seq" "J" (.long (0 : Int64)) := D1 (Or.inr (hw _ (List.mem_of_getElem? (i := 15) rfl))) (ty := .long) (by decide)
  have Fi1_17 : Fld Z h1 b1 "com/example/maat/maat/Turn" "index" "I" (.int (0 : Int32)) := D1 (Or.inr (hw _ (List.mem_of_getElem? (i := 17) rfl))) (ty := .int) (by decide)
  obtain ⟨_, _, ⟨T2, L2, k2, n2⟩, -, X2, ⟨Lc2, hQ2, l2, y2, z2⟩, st2⟩ := X1.specialBack hx (y := (⟨"com/example/maat/maat/Turn", "<init>", "(JI)V"⟩ : MethodName)) rfl hown (mvT hZ (hw _ (List.mem_of_getElem? (i := 3) rfl))) (mvT hZ (hw _ (List.mem_of_getElem? (i := 4) rfl))) (mvT hZ (hw _ (List.mem_of_getElem? (i := 5) rfl))) (by decide) (backOf (W := 1) (turnI l Z a0 hw [] b1 s1 i h1 n0 O1 Fi1_15 Fi1_17 A1 g_b1) hZ (hw _ (List.mem_of_getElem? (i := 5) rfl)) (hw _ (List.mem_of_getElem? (i := 2) rfl)) (by decide) (by decide)) (g := (mkF m 6 #[.val (.long s1), .second, .val (.int i), .val (.long t), .second, .val (.int j), .val (.int md), .unset, .unset, .unset, .unset, .unset, .unset, .unset, .unset] [(.int i), (.long s1), (.ref b1), (.ref b1)])) rfl (by rw [hml]; rfl) (Steps.refl _) (a := b1) (argsL := [(.long s1), (.int i)]) (rest := [(.ref b1)]) (lenOf pd_2 rfl) rfl (by show 2 * 0 + _ ≤ _; exact Nat.le_of_eq rfl) (hb hby at_6) (fun _ _ => ⟨rfl, e1, (by decide : 1 + 0 ≤ _), (by decide : 2 + 0 ≤ _)⟩)
  dsimp only [Pt.U, Pt.locs, Pt.cells, Pt.slots] at X2 l2 y2 z2 st2 hQ2
  subst l2 y2 z2
  obtain ⟨rfl, Nq2, kh2, Po2_0, Po2_1, Po2_2⟩ := hQ2
  have N2 := Fr.app N0 Nq2
  have O2 := O1.keep kh2 (allS g_b1 all0)
  have K2 : Keep h0 T2.heap [] := K1.trans kh2 (allS (Or.inr sz_b1) all0)
  obtain ⟨T3, h3, X3, e3, E3, A3, D3, U3, st3⟩ := newO X2 hx hZ hown (hw _ (List.mem_of_getElem? (i := 0) rfl)) (hw _ (List.mem_of_getElem? (i := 1) rfl)) (hw _ (List.mem_of_getElem? (i := 2) rfl)) rfl (g := (mkF m 46 #[.val (.long s1), .second, .val (.int i), .val (.long t), .second, .val (.int j), .val (.int md), .val (.ref b1), .val (.int (md &&& (3 : Int32))), .val (.long s1), .second, .val (.int j), .unset, .unset, .unset] [])) rfl (hb hby at_46) (by decide) (by decide)
  obtain ⟨b3, gz3⟩ : ∃ z, z = T2.heap.size := ⟨_, rfl⟩
  rw [← gz3] at A3 D3 U3 st3
  have sz_b3 : h0.size ≤ b3 := Nat.le_trans K2.1 (Nat.le_of_eq gz3.symm)
  have g_b3 : n0 ≤ b3 := Nat.le_trans Z0 sz_b3
  have O3 := O2.ext E3
  have K3 : Keep h0 h3 [] := K2.ext E3
  have Fi3_15 : Fld Z h3 b3 "com/example/maat/maat/Turn" "seq" "J" (.long (0 : Int64)) := D3 (Or.inr (hw _ (List.mem_of_getElem? (i := 15) rfl))) (ty := .long) (by decide)
  have Fi3_17 : Fld Z h3 b3 "com/example/maat/maat/Turn" "index" "I" (.int (0 : Int32)) := D3 (Or.inr (hw _ (List.mem_of_getElem? (i := 17) rfl))) (ty := .int) (by decide)
  obtain ⟨_, _, ⟨T4, L4, k4, n4⟩, -, X4, ⟨Lc4, hQ4, l4, y4, z4⟩, st4⟩ := X3.specialBack hx (y := (⟨"com/example/maat/maat/Turn", "<init>", "(JI)V"⟩ : MethodName)) rfl hown (mvT hZ (hw _ (List.mem_of_getElem? (i := 3) rfl))) (mvT hZ (hw _ (List.mem_of_getElem? (i := 4) rfl))) (mvT hZ (hw _ (List.mem_of_getElem? (i := 5) rfl))) (by decide) (backOf (W := 1) (turnI l Z a0 hw [] b3 s1 j h3 n0 O3 Fi3_15 Fi3_17 A3 g_b3) hZ (hw _ (List.mem_of_getElem? (i := 5) rfl)) (hw _ (List.mem_of_getElem? (i := 2) rfl)) (by decide) (by decide)) (g := (mkF m 54 #[.val (.long s1), .second, .val (.int i), .val (.long t), .second, .val (.int j), .val (.int md), .val (.ref b1), .val (.int (md &&& (3 : Int32))), .val (.long s1), .second, .val (.int j), .unset, .unset, .unset] [(.int j), (.long s1), (.ref b3), (.ref b3)])) rfl (by rw [hml]; rfl) (Steps.refl _) (a := b3) (argsL := [(.long s1), (.int j)]) (rest := [(.ref b3)]) (lenOf pd_2 rfl) rfl (by show 2 * 0 + _ ≤ _; exact Nat.le_of_eq rfl) (hb hby at_54) (fun _ _ => ⟨rfl, e3, (by decide : 2 + 0 ≤ _), (by decide : 4 + 0 ≤ _)⟩)
  dsimp only [Pt.U, Pt.locs, Pt.cells, Pt.slots] at X4 l4 y4 z4 st4 hQ4
  subst l4 y4 z4
  obtain ⟨rfl, Nq4, kh4, Po4_0, Po4_1, Po4_2⟩ := hQ4
  have N4 := Fr.app N2 Nq4
  have O4 := O3.keep kh4 (allS g_b3 all0)
  have K4 : Keep h0 T4.heap [] := K3.trans kh4 (allS (Or.inr sz_b3) all0)
  obtain ⟨_, _, ⟨T5, L5, k5, n5⟩, -, X5, ⟨Lc5, hQ5, l5, y5, z5⟩, st5⟩ := Jvm.LawKit.callS X4 hx (y := (⟨"java/lang/Long", "valueOf", "(J)Ljava/lang/Long;"⟩ : MethodName)) hown (mvT hZ (hw _ (List.mem_of_getElem? (i := 18) rfl))) (mvT hZ (hw _ (List.mem_of_getElem? (i := 19) rfl))) (mvT hZ (hw _ (List.mem_of_getElem? (i := 20) rfl))) (mvT hZ (hw _ (List.mem_of_getElem? (i := 21) rfl))) (by decide) (backOf (W := 0) (valueOf l Z a0 hw [] s1 wc T4.heap n0 O4 G0 CA) hZ (hw _ (List.mem_of_getElem? (i := 21) rfl)) (hw _ (List.mem_of_getElem? (i := 20) rfl)) (by decide) (by decide)) (g := (mkF m 60 #[.val (.long s1), .second, .val (.int i), .val (.long t), .second, .val (.int j), .val (.int md), .val (.ref b1), .val (.int (md &&& (3 : Int32))), .val (.long s1), .second, .val (.int j), .val (.ref b3), .unset, .unset] [(.long s1)])) rfl (by rw [hml]; rfl) (argsL := [(.long s1)]) (rest := []) (lenOf pd_3 rfl) rfl (by show 2 * 0 + _ ≤ _; exact Nat.le_of_eq rfl) (hb hby at_60) (fun _ _ => ⟨rfl, rfl, (by decide : 2 + 1 ≤ _), (by decide : 4 + 1 ≤ _)⟩)
  dsimp only [Pt.U, Pt.locs, Pt.cells, Pt.slots] at X5 l5 y5 z5 st5 hQ5
  subst l5 y5 z5
  obtain ⟨r_5, rfl, Nq5, kh5, Po5_0⟩ := hQ5
  have N5 := Fr.app N4 Nq5
  have O5 := O4.keep kh5 all0
  have K5 : Keep h0 T5.heap [] := K4.trans kh5 all0
  have c6 : Fld Z T5.heap b1 "com/example/maat/maat/Turn" "seq" "J" (.long s1) := (((Po2_1.ext E3).keep kh4 (ninS (Nat.ne_of_lt (Nat.lt_of_lt_of_le (Po2_0).lt (Nat.le_of_eq gz3.symm))) nin0)).keep kh5 nin0)
  have c7 : Fld Z T5.heap b1 "com/example/maat/maat/Turn" "index" "I" (.int i) := (((Po2_2.ext E3).keep kh4 (ninS (Nat.ne_of_lt (Nat.lt_of_lt_of_le (Po2_0).lt (Nat.le_of_eq gz3.symm))) nin0)).keep kh5 nin0)
  obtain ⟨cq8, kq8, q8a, q8b, q8c⟩ := isOf hZ rfl (((Po2_0.ext E3).keep kh4).keep kh5)
  obtain ⟨_, _, ⟨T8, L8, k8, n8⟩, -, X8, ⟨Lc8, hQ8, l8, y8, z8⟩, st8⟩ := X5.virtualBack hx (y := (⟨"com/example/maat/maat/Turn", "equals", "(Ljava/lang/Object;)Z"⟩ : MethodName)) (z := (⟨"com/example/maat/maat/Turn", "equals", "(Ljava/lang/Object;)Z"⟩ : MethodName)) hown (mvT hZ (hw _ (List.mem_of_getElem? (i := 26) rfl))) (mvT hZ (hw _ (List.mem_of_getElem? (i := 27) rfl))) (notFace_of_selects (args := #[]) (mvT hZ (hw _ (List.mem_of_getElem? (i := 29) rfl)))) (mvT hZ (hw _ (List.mem_of_getElem? (i := 29) rfl))) (mvT hZ (hw _ (List.mem_of_getElem? (i := 28) rfl))) (by decide) (backOf (W := 0) (eqT l Z a0 hw [] b1 b3 s1 i s1 j T5.heap n0 O5 c6 c7 (Po4_1.keep kh5 nin0) (Po4_2.keep kh5 nin0) (Po4_0.keep kh5)) hZ (hw _ (List.mem_of_getElem? (i := 30) rfl)) (hw _ (List.mem_of_getElem? (i := 2) rfl)) (by decide) (by decide)) q8a q8c (g := (mkF m 89 #[.val (.long s1), .second, .val (.int i), .val (.long t), .second, .val (.int j), .val (.int md), .val (.ref b1), .val (.int (md &&& (3 : Int32))), .val (.long s1), .second, .val (.int j), .val (.ref b3), .val (.ref r_5), .val (.int (1 : Int32))] [(.ref b3), (.ref b1)])) rfl (by rw [hml]; rfl) (Steps.refl _) (argsL := [(.ref b3)]) (rest := []) (lenOf pd_4 rfl) rfl (by show 2 * 0 + _ ≤ _; exact Nat.le_of_eq rfl) (hb hby at_89) (fun _ _ => ⟨rfl, rfl, (by decide : 3 + 0 ≤ _), (by decide : 5 + 0 ≤ _)⟩)
  dsimp only [Pt.U, Pt.locs, Pt.cells, Pt.slots] at X8 l8 y8 z8 st8 hQ8
  subst l8 y8 z8
  obtain ⟨rfl, Nq8, kh8⟩ := hQ8
  have N8 := Fr.app N5 Nq8
  obtain ⟨cq9, kq9, q9a, q9b, q9c⟩ := isOf hZ kh8 (Po4_0.keep kh5)
  obtain ⟨_, _, ⟨T9, L9, k9, n9⟩, -, X9, ⟨Lc9, hQ9, l9, y9, z9⟩, st9⟩ := X8.virtualBack hx (y := (⟨"com/example/maat/maat/Turn", "equals", "(Ljava/lang/Object;)Z"⟩ : MethodName)) (z := (⟨"com/example/maat/maat/Turn", "equals", "(Ljava/lang/Object;)Z"⟩ : MethodName)) hown (mvT hZ (hw _ (List.mem_of_getElem? (i := 26) rfl))) (mvT hZ (hw _ (List.mem_of_getElem? (i := 27) rfl))) (notFace_of_selects (args := #[]) (mvT hZ (hw _ (List.mem_of_getElem? (i := 29) rfl)))) (mvT hZ (hw _ (List.mem_of_getElem? (i := 29) rfl))) (mvT hZ (hw _ (List.mem_of_getElem? (i := 28) rfl))) (by decide) (backOf (W := 0) (eqT l Z a0 hw [] b3 b1 s1 j s1 i T5.heap n0 O5 (Po4_1.keep kh5 nin0) (Po4_2.keep kh5 nin0) c6 c7 (((Po2_0.ext E3).keep kh4).keep kh5)) hZ (hw _ (List.mem_of_getElem? (i := 30) rfl)) (hw _ (List.mem_of_getElem? (i := 2) rfl)) (by decide) (by decide)) q9a q9c (g := (mkF m 103 #[.val (.long s1), .second, .val (.int i), .val (.long t), .second, .val (.int j), .val (.int md), .val (.ref b1), .val (.int (md &&& (3 : Int32))), .val (.long s1), .second, .val (.int j), .val (.ref b3), .val (.ref r_5), .val (.int (1 : Int32))] [(.ref b1), (.ref b3)])) rfl (by rw [hml]; rfl) (Steps.refl _) (argsL := [(.ref b1)]) (rest := []) (lenOf pd_4 rfl) rfl (by show 2 * 0 + _ ≤ _; exact Nat.le_of_eq rfl) (hb hby at_103) (fun _ _ => ⟨rfl, kh8, (by decide : 3 + 0 ≤ _), (by decide : 5 + 0 ≤ _)⟩)
  dsimp only [Pt.U, Pt.locs, Pt.cells, Pt.slots] at X9 l9 y9 z9 st9 hQ9
  subst l9 y9 z9
  obtain ⟨rfl, Nq9, kh9⟩ := hQ9
  have N9 := Fr.app N8 Nq9
  obtain ⟨cq10, kq10, q10a, q10b, q10c⟩ := isOf hZ kh9 (((Po2_0.ext E3).keep kh4).keep kh5)
  obtain ⟨_, _, ⟨T10, L10, k10, n10⟩, -, X10, ⟨Lc10, hQ10, l10, y10, z10⟩, st10⟩ := X9.virtualBack hx (y := (⟨"com/example/maat/maat/Turn", "equals", "(Ljava/lang/Object;)Z"⟩ : MethodName)) (z := (⟨"com/example/maat/maat/Turn", "equals", "(Ljava/lang/Object;)Z"⟩ : MethodName)) hown (mvT hZ (hw _ (List.mem_of_getElem? (i := 26) rfl))) (mvT hZ (hw _ (List.mem_of_getElem? (i := 27) rfl))) (notFace_of_selects (args := #[]) (mvT hZ (hw _ (List.mem_of_getElem? (i := 29) rfl)))) (mvT hZ (hw _ (List.mem_of_getElem? (i := 29) rfl))) (mvT hZ (hw _ (List.mem_of_getElem? (i := 28) rfl))) (by decide) (backOf (W := 0) (eqT l Z a0 hw [] b1 b1 s1 i s1 i T5.heap n0 O5 c6 c7 c6 c7 (((Po2_0.ext E3).keep kh4).keep kh5)) hZ (hw _ (List.mem_of_getElem? (i := 30) rfl)) (hw _ (List.mem_of_getElem? (i := 2) rfl)) (by decide) (by decide)) q10a q10c (g := (mkF m 117 #[.val (.long s1), .second, .val (.int i), .val (.long t), .second, .val (.int j), .val (.int md), .val (.ref b1), .val (.int (md &&& (3 : Int32))), .val (.long s1), .second, .val (.int j), .val (.ref b3), .val (.ref r_5), .val (.int (1 : Int32))] [(.ref b1), (.ref b1)])) rfl (by rw [hml]; rfl) (Steps.refl _) (argsL := [(.ref b1)]) (rest := []) (lenOf pd_4 rfl) rfl (by show 2 * 0 + _ ≤ _; exact Nat.le_of_eq rfl) (hb hby at_117) (fun _ _ => ⟨rfl, kh9, (by decide : 3 + 0 ≤ _), (by decide : 5 + 0 ≤ _)⟩)
  dsimp only [Pt.U, Pt.locs, Pt.cells, Pt.slots] at X10 l10 y10 z10 st10 hQ10
  subst l10 y10 z10
  obtain ⟨rfl, Nq10, kh10⟩ := hQ10
  have N10 := Fr.app N9 Nq10
  obtain ⟨cq11, kq11, q11a, q11b, q11c⟩ := isOf hZ kh10 (((Po2_0.ext E3).keep kh4).keep kh5)
  obtain ⟨_, _, ⟨T11, L11, k11, n11⟩, -, X11, ⟨Lc11, hQ11, l11, y11, z11⟩, st11⟩ := X10.virtualBack hx (y := (⟨"com/example/maat/maat/Turn", "equals", "(Ljava/lang/Object;)Z"⟩ : MethodName)) (z := (⟨"com/example/maat/maat/Turn", "equals", "(Ljava/lang/Object;)Z"⟩ : MethodName)) hown (mvT hZ (hw _ (List.mem_of_getElem? (i := 26) rfl))) (mvT hZ (hw _ (List.mem_of_getElem? (i := 27) rfl))) (notFace_of_selects (args := #[]) (mvT hZ (hw _ (List.mem_of_getElem? (i := 29) rfl)))) (mvT hZ (hw _ (List.mem_of_getElem? (i := 29) rfl))) (mvT hZ (hw _ (List.mem_of_getElem? (i := 28) rfl))) (by decide) (backOf (W := 0) (eqN l Z a0 hw [] b1 T5.heap n0 O5 ) hZ (hw _ (List.mem_of_getElem? (i := 30) rfl)) (hw _ (List.mem_of_getElem? (i := 2) rfl)) (by decide) (by decide)) q11a q11c (g := (mkF m 128 #[.val (.long s1), .second, .val (.int i), .val (.long t), .second, .val (.int j), .val (.int md), .val (.ref b1), .val (.int (md &&& (3 : Int32))), .val (.long s1), .second, .val (.int j), .val (.ref b3), .val (.ref r_5), .val (.int (1 : Int32))] [.null, (.ref b1)])) rfl (by rw [hml]; rfl) (Steps.refl _) (argsL := [.null]) (rest := []) (lenOf pd_4 rfl) rfl (by show 2 * 0 + _ ≤ _; exact Nat.le_of_eq rfl) (hb hby at_128) (fun _ _ => ⟨rfl, kh10, (by decide : 3 + 0 ≤ _), (by decide : 5 + 0 ≤ _)⟩)
  dsimp only [Pt.U, Pt.locs, Pt.cells, Pt.slots] at X11 l11 y11 z11 st11 hQ11
  subst l11 y11 z11
  obtain ⟨rfl, Nq11, kh11⟩ := hQ11
  have N11 := Fr.app N10 Nq11
  obtain ⟨cq12, kq12, q12a, q12b, q12c⟩ := isOf hZ kh11 (((Po2_0.ext E3).keep kh4).keep kh5)
  obtain ⟨_, _, ⟨T12, L12, k12, n12⟩, -, X12, ⟨Lc12, hQ12, l12, y12, z12⟩, st12⟩ := X11.virtualBack hx (y := (⟨"com/example/maat/maat/Turn", "equals", "(Ljava/lang/Object;)Z"⟩ : MethodName)) (z := (⟨"com/example/maat/maat/Turn", "equals", "(Ljava/lang/Object;)Z"⟩ : MethodName)) hown (mvT hZ (hw _ (List.mem_of_getElem? (i := 26) rfl))) (mvT hZ (hw _ (List.mem_of_getElem? (i := 27) rfl))) (notFace_of_selects (args := #[]) (mvT hZ (hw _ (List.mem_of_getElem? (i := 29) rfl)))) (mvT hZ (hw _ (List.mem_of_getElem? (i := 29) rfl))) (mvT hZ (hw _ (List.mem_of_getElem? (i := 28) rfl))) (by decide) (backOf (W := 0) (eqL l Z a0 hw [] b1 r_5 T5.heap n0 O5 Po5_0) hZ (hw _ (List.mem_of_getElem? (i := 30) rfl)) (hw _ (List.mem_of_getElem? (i := 2) rfl)) (by decide) (by decide)) q12a q12c (g := (mkF m 140 #[.val (.long s1), .second, .val (.int i), .val (.long t), .second, .val (.int j), .val (.int md), .val (.ref b1), .val (.int (md &&& (3 : Int32))), .val (.long s1), .second, .val (.int j), .val (.ref b3), .val (.ref r_5), .val (.int (1 : Int32))] [(.ref r_5), (.ref b1)])) rfl (by rw [hml]; rfl) (Steps.refl _) (argsL := [(.ref r_5)]) (rest := []) (lenOf pd_4 rfl) rfl (by show 2 * 0 + _ ≤ _; exact Nat.le_of_eq rfl) (hb hby at_140) (fun _ _ => ⟨rfl, kh11, (by decide : 3 + 0 ≤ _), (by decide : 5 + 0 ≤ _)⟩)
  dsimp only [Pt.U, Pt.locs, Pt.cells, Pt.slots] at X12 l12 y12 z12 st12 hQ12
  subst l12 y12 z12
  obtain ⟨rfl, Nq12, kh12⟩ := hQ12
  have N12 := Fr.app N11 Nq12
  obtain ⟨fs, hr, hrun, hended, hW, hsame⟩ := X12.leave (v := some (.int (1 : Int32))) (fun h => by rw [Bd.returns] at h; cases h)
  refine ⟨_, _, pre0 _ ?_, hrun, hended, _, _, rfl, ?_, ⟨_, rfl⟩, hW, hsame.mono (by decide) (by decide)⟩
  · show Steps p.tables e below (s₁.setTop (mkF m 0 #[.val (.long s1), .second, .val (.int i), .val (.long t), .second, .val (.int j), .val (.int md), .unset, .unset, .unset, .unset, .unset, .unset, .unset, .unset] [])) _
    refine st1 _ ?_
    show Steps p.tables e below (T1.setTop (mkF m 3 #[.val (.long s1), .second, .val (.int i), .val (.long t), .second, .val (.int j), .val (.int md), .unset, .unset, .unset, .unset, .unset, .unset, .unset, .unset] [(.ref b1)])) _
    refine XS.dup X1.here hx rfl (hb hby at_3) rfl rfl ?_
    show Steps p.tables e below (T1.setTop (mkF m 4 #[.val (.long s1), .second, .val (.int i), .val (.long t), .second, .val (.int j), .val (.int md), .unset, .unset, .unset, .unset, .unset, .unset, .unset, .unset] [(.ref b1), (.ref b1)])) _
    refine XS.lloadN X1.here hx rfl (hb hby at_4) rfl ?_
    show Steps p.tables e below (T1.setTop (mkF m 5 #[.val (.long s1), .second, .val (.int i), .val (.long t), .second, .val (.int j), .val (.int md), .unset, .unset, .unset, .unset, .unset, .unset, .unset, .unset] [(.long s1), (.ref b1), (.ref b1)])) _
    refine XS.iloadN X1.here hx rfl (hb hby at_5) rfl ?_
    show Steps p.tables e below (T1.setTop (mkF m 6 #[.val (.long s1), .second, .val (.int i), .val (.long t), .second, .val (.int j), .val (.int md), .unset, .unset, .unset, .unset, .unset, .unset, .unset, .unset] [(.int i), (.long s1), (.ref b1), (.ref b1)])) _
    refine st2.trans ?_
    show Steps p.tables e below (T2.setTop (mkF m 9 #[.val (.long s1), .second, .val (.int i), .val (.long t), .second, .val (.int j), .val (.int md), .unset, .unset, .unset, .unset, .unset, .unset, .unset, .unset] [(.ref b1)])) _
    refine XS.astore X2.here hx rfl (hb hby at_9) rfl rfl (l' := #[.val (.long s1), .second, .val (.int i), .val (.long t), .second, .val (.int j), .val (.int md), .val (.ref b1), .unset, .unset, .unset, .unset, .unset, .unset, .unset]) rfl ?_
    show Steps p.tables e below (T2.setTop (mkF m 11 #[.val (.long s1), .second, .val (.int i), .val (.long t), .second, .val (.int j), .val (.int md), .val (.ref b1), .unset, .unset, .unset, .unset, .unset, .unset, .unset] [])) _
    refine XS.iload X2.here hx rfl (hb hby at_11) rfl ?_
    show Steps p.tables e below (T2.setTop (mkF m 13 #[.val (.long s1), .second, .val (.int i), .val (.long t), .second, .val (.int j), .val (.int md), .val (.ref b1), .unset, .unset, .unset, .unset, .unset, .unset, .unset] [(.int md)])) _
    refine XS.iconst X2.here hx rfl (hb hby at_13) ?_
    show Steps p.tables e below (T2.setTop (mkF m 14 #[.val (.long s1), .second, .val (.int i), .val (.long t), .second, .val (.int j), .val (.int md), .val (.ref b1), .unset, .unset, .unset, .unset, .unset, .unset, .unset] [(.int (3 : Int32)), (.int md)])) _
    refine XS.iand X2.here hx rfl (hb hby at_14) rfl ?_
    show Steps p.tables e below (T2.setTop (mkF m 15 #[.val (.long s1), .second, .val (.int i), .val (.long t), .second, .val (.int j), .val (.int md), .val (.ref b1), .unset, .unset, .unset, .unset, .unset, .unset, .unset] [(.int (md &&& (3 : Int32)))])) _
    refine XS.istore X2.here hx rfl (hb hby at_15) rfl (l' := #[.val (.long s1), .second, .val (.int i), .val (.long t), .second, .val (.int j), .val (.int md), .val (.ref b1), .val (.int (md &&& (3 : Int32))), .unset, .unset, .unset, .unset, .unset, .unset]) rfl ?_
    show Steps p.tables e below (T2.setTop (mkF m 17 #[.val (.long s1), .second, .val (.int i), .val (.long t), .second, .val (.int j), .val (.int md), .val (.ref b1), .val (.int (md &&& (3 : Int32))), .unset, .unset, .unset, .unset, .unset, .unset] [])) _
    refine XS.iload X2.here hx rfl (hb hby at_17) rfl ?_
    show Steps p.tables e below (T2.setTop (mkF m 19 #[.val (.long s1), .second, .val (.int i), .val (.long t), .second, .val (.int j), .val (.int md), .val (.ref b1), .val (.int (md &&& (3 : Int32))), .unset, .unset, .unset, .unset, .unset, .unset] [(.int (md &&& (3 : Int32)))])) _
    refine XS.iconst X2.here hx rfl (hb hby at_19) ?_
    show Steps p.tables e below (T2.setTop (mkF m 20 #[.val (.long s1), .second, .val (.int i), .val (.long t), .second, .val (.int j), .val (.int md), .val (.ref b1), .val (.int (md &&& (3 : Int32))), .unset, .unset, .unset, .unset, .unset, .unset] [(.int (1 : Int32)), (.int (md &&& (3 : Int32)))])) _
    refine XS.iand X2.here hx rfl (hb hby at_20) rfl ?_
    show Steps p.tables e below (T2.setTop (mkF m 21 #[.val (.long s1), .second, .val (.int i), .val (.long t), .second, .val (.int j), .val (.int md), .val (.ref b1), .val (.int (md &&& (3 : Int32))), .unset, .unset, .unset, .unset, .unset, .unset] [(.int ((md &&& (3 : Int32)) &&& (1 : Int32)))])) _
    refine XS.ifYes X2.here hx rfl (pc0 := 21) (pc' := 28) rfl (hb hby at_21) rfl ((if0 _ _).trans (teq (hc21 : ((md &&& (3 : Int32)) &&& (1 : Int32)) = (0 : Int32))).1) (by decide) (by decide) ?_
    show Steps p.tables e below (T2.setTop (mkF m 28 #[.val (.long s1), .second, .val (.int i), .val (.long t), .second, .val (.int j), .val (.int md), .val (.ref b1), .val (.int (md &&& (3 : Int32))), .unset, .unset, .unset, .unset, .unset, .unset] [])) _
    refine XS.lloadN X2.here hx rfl (hb hby at_28) rfl ?_
    show Steps p.tables e below (T2.setTop (mkF m 29 #[.val (.long s1), .second, .val (.int i), .val (.long t), .second, .val (.int j), .val (.int md), .val (.ref b1), .val (.int (md &&& (3 : Int32))), .unset, .unset, .unset, .unset, .unset, .unset] [(.long s1)])) _
    refine XS.lstore X2.here hx rfl (hb hby at_29) rfl (l' := #[.val (.long s1), .second, .val (.int i), .val (.long t), .second, .val (.int j), .val (.int md), .val (.ref b1), .val (.int (md &&& (3 : Int32))), .val (.long s1), .second, .unset, .unset, .unset, .unset]) rfl ?_
    show Steps p.tables e below (T2.setTop (mkF m 31 #[.val (.long s1), .second, .val (.int i), .val (.long t), .second, .val (.int j), .val (.int md), .val (.ref b1), .val (.int (md &&& (3 : Int32))), .val (.long s1), .second, .unset, .unset, .unset, .unset] [])) _
    refine XS.iload X2.here hx rfl (hb hby at_31) rfl ?_
    show Steps p.tables e below (T2.setTop (mkF m 33 #[.val (.long s1), .second, .val (.int i), .val (.long t), .second, .val (.int j), .val (.int md), .val (.ref b1), .val (.int (md &&& (3 : Int32))), .val (.long s1), .second, .unset, .unset, .unset, .unset] [(.int (md &&& (3 : Int32)))])) _
    refine XS.iconst X2.here hx rfl (hb hby at_33) ?_
    show Steps p.tables e below (T2.setTop (mkF m 34 #[.val (.long s1), .second, .val (.int i), .val (.long t), .second, .val (.int j), .val (.int md), .val (.ref b1), .val (.int (md &&& (3 : Int32))), .val (.long s1), .second, .unset, .unset, .unset, .unset] [(.int (2 : Int32)), (.int (md &&& (3 : Int32)))])) _
    refine XS.iand X2.here hx rfl (hb hby at_34) rfl ?_
    show Steps p.tables e below (T2.setTop (mkF m 35 #[.val (.long s1), .second, .val (.int i), .val (.long t), .second, .val (.int j), .val (.int md), .val (.ref b1), .val (.int (md &&& (3 : Int32))), .val (.long s1), .second, .unset, .unset, .unset, .unset] [(.int ((md &&& (3 : Int32)) &&& (2 : Int32)))])) _
    refine XS.ifNo X2.here hx rfl (hb hby at_35) rfl ((if0 _ _).trans (feq (hc35 : ¬ (((md &&& (3 : Int32)) &&& (2 : Int32)) = (0 : Int32)))).1) ?_
    show Steps p.tables e below (T2.setTop (mkF m 38 #[.val (.long s1), .second, .val (.int i), .val (.long t), .second, .val (.int j), .val (.int md), .val (.ref b1), .val (.int (md &&& (3 : Int32))), .val (.long s1), .second, .unset, .unset, .unset, .unset] [])) _
    refine XS.iload X2.here hx rfl (hb hby at_38) rfl ?_
    show Steps p.tables e below (T2.setTop (mkF m 40 #[.val (.long s1), .second, .val (.int i), .val (.long t), .second, .val (.int j), .val (.int md), .val (.ref b1), .val (.int (md &&& (3 : Int32))), .val (.long s1), .second, .unset, .unset, .unset, .unset] [(.int j)])) _
    refine XS.goto X2.here hx rfl (pc0 := 40) (pc' := 44) rfl (hb hby at_40) (by decide) (by decide) ?_
    show Steps p.tables e below (T2.setTop (mkF m 44 #[.val (.long s1), .second, .val (.int i), .val (.long t), .second, .val (.int j), .val (.int md), .val (.ref b1), .val (.int (md &&& (3 : Int32))), .val (.long s1), .second, .unset, .unset, .unset, .unset] [(.int j)])) _
    refine XS.istore X2.here hx rfl (hb hby at_44) rfl (l' := #[.val (.long s1), .second, .val (.int i), .val (.long t), .second, .val (.int j), .val (.int md), .val (.ref b1), .val (.int (md &&& (3 : Int32))), .val (.long s1), .second, .val (.int j), .unset, .unset, .unset]) rfl ?_
    show Steps p.tables e below (T2.setTop (mkF m 46 #[.val (.long s1), .second, .val (.int i), .val (.long t), .second, .val (.int j), .val (.int md), .val (.ref b1), .val (.int (md &&& (3 : Int32))), .val (.long s1), .second, .val (.int j), .unset, .unset, .unset] [])) _
    refine st3 _ ?_
    show Steps p.tables e below (T3.setTop (mkF m 49 #[.val (.long s1), .second, .val (.int i), .val (.long t), .second, .val (.int j), .val (.int md), .val (.ref b1), .val (.int (md &&& (3 : Int32))), .val (.long s1), .second, .val (.int j), .unset, .unset, .unset] [(.ref b3)])) _
    refine XS.dup X3.here hx rfl (hb hby at_49) rfl rfl ?_
    show Steps p.tables e below (T3.setTop (mkF m 50 #[.val (.long s1), .second, .val (.int i), .val (.long t), .second, .val (.int j), .val (.int md), .val (.ref b1), .val (.int (md &&& (3 : Int32))), .val (.long s1), .second, .val (.int j), .unset, .unset, .unset] [(.ref b3), (.ref b3)])) _
    refine XS.lload X3.here hx rfl (hb hby at_50) rfl ?_
    show Steps p.tables e below (T3.setTop (mkF m 52 #[.val (.long s1), .second, .val (.int i), .val (.long t), .second, .val (.int j), .val (.int md), .val (.ref b1), .val (.int (md &&& (3 : Int32))), .val (.long s1), .second, .val (.int j), .unset, .unset, .unset] [(.long s1), (.ref b3), (.ref b3)])) _
    refine XS.iload X3.here hx rfl (hb hby at_52) rfl ?_
    show Steps p.tables e below (T3.setTop (mkF m 54 #[.val (.long s1), .second, .val (.int i), .val (.long t), .second, .val (.int j), .val (.int md), .val (.ref b1), .val (.int (md &&& (3 : Int32))), .val (.long s1), .second, .val (.int j), .unset, .unset, .unset] [(.int j), (.long s1), (.ref b3), (.ref b3)])) _
    refine st4.trans ?_
    show Steps p.tables e below (T4.setTop (mkF m 57 #[.val (.long s1), .second, .val (.int i), .val (.long t), .second, .val (.int j), .val (.int md), .val (.ref b1), .val (.int (md &&& (3 : Int32))), .val (.long s1), .second, .val (.int j), .unset, .unset, .unset] [(.ref b3)])) _
    refine XS.astore X4.here hx rfl (hb hby at_57) rfl rfl (l' := #[.val (.long s1), .second, .val (.int i), .val (.long t), .second, .val (.int j), .val (.int md), .val (.ref b1), .val (.int (md &&& (3 : Int32))), .val (.long s1), .second, .val (.int j), .val (.ref b3), .unset, .unset]) rfl ?_
    show Steps p.tables e below (T4.setTop (mkF m 59 #[.val (.long s1), .second, .val (.int i), .val (.long t), .second, .val (.int j), .val (.int md), .val (.ref b1), .val (.int (md &&& (3 : Int32))), .val (.long s1), .second, .val (.int j), .val (.ref b3), .unset, .unset] [])) _
    refine XS.lloadN X4.here hx rfl (hb hby at_59) rfl ?_
    show Steps p.tables e below (T4.setTop (mkF m 60 #[.val (.long s1), .second, .val (.int i), .val (.long t), .second, .val (.int j), .val (.int md), .val (.ref b1), .val (.int (md &&& (3 : Int32))), .val (.long s1), .second, .val (.int j), .val (.ref b3), .unset, .unset] [(.long s1)])) _
    refine st5 _ ?_
    show Steps p.tables e below (T5.setTop (mkF m 63 #[.val (.long s1), .second, .val (.int i), .val (.long t), .second, .val (.int j), .val (.int md), .val (.ref b1), .val (.int (md &&& (3 : Int32))), .val (.long s1), .second, .val (.int j), .val (.ref b3), .unset, .unset] [(.ref r_5)])) _
    refine XS.astore X5.here hx rfl (hb hby at_63) rfl rfl (l' := #[.val (.long s1), .second, .val (.int i), .val (.long t), .second, .val (.int j), .val (.int md), .val (.ref b1), .val (.int (md &&& (3 : Int32))), .val (.long s1), .second, .val (.int j), .val (.ref b3), .val (.ref r_5), .unset]) rfl ?_
    show Steps p.tables e below (T5.setTop (mkF m 65 #[.val (.long s1), .second, .val (.int i), .val (.long t), .second, .val (.int j), .val (.int md), .val (.ref b1), .val (.int (md &&& (3 : Int32))), .val (.long s1), .second, .val (.int j), .val (.ref b3), .val (.ref r_5), .unset] [])) _
    refine XS.lload X5.here hx rfl (hb hby at_65) rfl ?_
    show Steps p.tables e below (T5.setTop (mkF m 67 #[.val (.long s1), .second, .val (.int i), .val (.long t), .second, .val (.int j), .val (.int md), .val (.ref b1), .val (.int (md &&& (3 : Int32))), .val (.long s1), .second, .val (.int j), .val (.ref b3), .val (.ref r_5), .unset] [(.long s1)])) _
    refine XS.lloadN X5.here hx rfl (hb hby at_67) rfl ?_
    show Steps p.tables e below (T5.setTop (mkF m 68 #[.val (.long s1), .second, .val (.int i), .val (.long t), .second, .val (.int j), .val (.int md), .val (.ref b1), .val (.int (md &&& (3 : Int32))), .val (.long s1), .second, .val (.int j), .val (.ref b3), .val (.ref r_5), .unset] [(.long s1), (.long s1)])) _
    refine XS.lcmp X5.here hx rfl (hb hby at_68) rfl ?_
    show Steps p.tables e below (T5.setTop (mkF m 69 #[.val (.long s1), .second, .val (.int i), .val (.long t), .second, .val (.int j), .val (.int md), .val (.ref b1), .val (.int (md &&& (3 : Int32))), .val (.long s1), .second, .val (.int j), .val (.ref b3), .val (.ref r_5), .unset] [(.int (lcmpW s1 s1))])) _
    refine XS.ifNo X5.here hx rfl (hb hby at_69) rfl ((if0 _ _).trans (teq (((lw_eq _ _).mpr rfl) : (lcmpW s1 s1) = (0 : Int32))).2) ?_
    show Steps p.tables e below (T5.setTop (mkF m 72 #[.val (.long s1), .second, .val (.int i), .val (.long t), .second, .val (.int j), .val (.int md), .val (.ref b1), .val (.int (md &&& (3 : Int32))), .val (.long s1), .second, .val (.int j), .val (.ref b3), .val (.ref r_5), .unset] [])) _
    refine XS.iload X5.here hx rfl (hb hby at_72) rfl ?_
    show Steps p.tables e below (T5.setTop (mkF m 74 #[.val (.long s1), .second, .val (.int i), .val (.long t), .second, .val (.int j), .val (.int md), .val (.ref b1), .val (.int (md &&& (3 : Int32))), .val (.long s1), .second, .val (.int j), .val (.ref b3), .val (.ref r_5), .unset] [(.int j)])) _
    refine XS.iloadN X5.here hx rfl (hb hby at_74) rfl ?_
    show Steps p.tables e below (T5.setTop (mkF m 75 #[.val (.long s1), .second, .val (.int i), .val (.long t), .second, .val (.int j), .val (.int md), .val (.ref b1), .val (.int (md &&& (3 : Int32))), .val (.long s1), .second, .val (.int j), .val (.ref b3), .val (.ref r_5), .unset] [(.int i), (.int j)])) _
    refine XS.icmpNo X5.here hx rfl (hb hby at_75) rfl (teq (hc75 : j = i)).2 ?_
    show Steps p.tables e below (T5.setTop (mkF m 78 #[.val (.long s1), .second, .val (.int i), .val (.long t), .second, .val (.int j), .val (.int md), .val (.ref b1), .val (.int (md &&& (3 : Int32))), .val (.long s1), .second, .val (.int j), .val (.ref b3), .val (.ref r_5), .unset] [])) _
    refine XS.iconst X5.here hx rfl (hb hby at_78) ?_
    show Steps p.tables e below (T5.setTop (mkF m 79 #[.val (.long s1), .second, .val (.int i), .val (.long t), .second, .val (.int j), .val (.int md), .val (.ref b1), .val (.int (md &&& (3 : Int32))), .val (.long s1), .second, .val (.int j), .val (.ref b3), .val (.ref r_5), .unset] [(.int (1 : Int32))])) _
    refine XS.goto X5.here hx rfl (pc0 := 79) (pc' := 83) rfl (hb hby at_79) (by decide) (by decide) ?_
    show Steps p.tables e below (T5.setTop (mkF m 83 #[.val (.long s1), .second, .val (.int i), .val (.long t), .second, .val (.int j), .val (.int md), .val (.ref b1), .val (.int (md &&& (3 : Int32))), .val (.long s1), .second, .val (.int j), .val (.ref b3), .val (.ref r_5), .unset] [(.int (1 : Int32))])) _
    refine XS.istore X5.here hx rfl (hb hby at_83) rfl (l' := #[.val (.long s1), .second, .val (.int i), .val (.long t), .second, .val (.int j), .val (.int md), .val (.ref b1), .val (.int (md &&& (3 : Int32))), .val (.long s1), .second, .val (.int j), .val (.ref b3), .val (.ref r_5), .val (.int (1 : Int32))]) rfl ?_
    show Steps p.tables e below (T5.setTop (mkF m 85 #[.val (.long s1), .second, .val (.int i), .val (.long t), .second, .val (.int j), .val (.int md), .val (.ref b1), .val (.int (md &&& (3 : Int32))), .val (.long s1), .second, .val (.int j), .val (.ref b3), .val (.ref r_5), .val (.int (1 : Int32))] [])) _
    refine XS.aload X5.here hx rfl (hb hby at_85) rfl rfl ?_
    show Steps p.tables e below (T5.setTop (mkF m 87 #[.val (.long s1), .second, .val (.int i), .val (.long t), .second, .val (.int j), .val (.int md), .val (.ref b1), .val (.int (md &&& (3 : Int32))), .val (.long s1), .second, .val (.int j), .val (.ref b3), .val (.ref r_5), .val (.int (1 : Int32))] [(.ref b1)])) _
    refine XS.aload X5.here hx rfl (hb hby at_87) rfl rfl ?_
    show Steps p.tables e below (T5.setTop (mkF m 89 #[.val (.long s1), .second, .val (.int i), .val (.long t), .second, .val (.int j), .val (.int md), .val (.ref b1), .val (.int (md &&& (3 : Int32))), .val (.long s1), .second, .val (.int j), .val (.ref b3), .val (.ref r_5), .val (.int (1 : Int32))] [(.ref b3), (.ref b1)])) _
    refine st8.trans ?_
    show Steps p.tables e below (T8.setTop (mkF m 92 #[.val (.long s1), .second, .val (.int i), .val (.long t), .second, .val (.int j), .val (.int md), .val (.ref b1), .val (.int (md &&& (3 : Int32))), .val (.long s1), .second, .val (.int j), .val (.ref b3), .val (.ref r_5), .val (.int (1 : Int32))] [(.int (eqV s1 i s1 j))])) _
    refine XS.iload X8.here hx rfl (hb hby at_92) rfl ?_
    show Steps p.tables e below (T8.setTop (mkF m 94 #[.val (.long s1), .second, .val (.int i), .val (.long t), .second, .val (.int j), .val (.int md), .val (.ref b1), .val (.int (md &&& (3 : Int32))), .val (.long s1), .second, .val (.int j), .val (.ref b3), .val (.ref r_5), .val (.int (1 : Int32))] [(.int (1 : Int32)), (.int (eqV s1 i s1 j))])) _
    refine XS.icmpYes X8.here hx rfl (pc0 := 94) (pc' := 99) rfl (hb hby at_94) rfl (teq ((eqV_y rfl hc75.symm) : (eqV s1 i s1 j) = (1 : Int32))).1 (by decide) (by decide) ?_
    show Steps p.tables e below (T8.setTop (mkF m 99 #[.val (.long s1), .second, .val (.int i), .val (.long t), .second, .val (.int j), .val (.int md), .val (.ref b1), .val (.int (md &&& (3 : Int32))), .val (.long s1), .second, .val (.int j), .val (.ref b3), .val (.ref r_5), .val (.int (1 : Int32))] [])) _
    refine XS.aload X8.here hx rfl (hb hby at_99) rfl rfl ?_
    show Steps p.tables e below (T8.setTop (mkF m 101 #[.val (.long s1), .second, .val (.int i), .val (.long t), .second, .val (.int j), .val (.int md), .val (.ref b1), .val (.int (md &&& (3 : Int32))), .val (.long s1), .second, .val (.int j), .val (.ref b3), .val (.ref r_5), .val (.int (1 : Int32))] [(.ref b3)])) _
    refine XS.aload X8.here hx rfl (hb hby at_101) rfl rfl ?_
    show Steps p.tables e below (T8.setTop (mkF m 103 #[.val (.long s1), .second, .val (.int i), .val (.long t), .second, .val (.int j), .val (.int md), .val (.ref b1), .val (.int (md &&& (3 : Int32))), .val (.long s1), .second, .val (.int j), .val (.ref b3), .val (.ref r_5), .val (.int (1 : Int32))] [(.ref b1), (.ref b3)])) _
    refine st9.trans ?_
    show Steps p.tables e below (T9.setTop (mkF m 106 #[.val (.long s1), .second, .val (.int i), .val (.long t), .second, .val (.int j), .val (.int md), .val (.ref b1), .val (.int (md &&& (3 : Int32))), .val (.long s1), .second, .val (.int j), .val (.ref b3), .val (.ref r_5), .val (.int (1 : Int32))] [(.int (eqV s1 j s1 i))])) _
    refine XS.iload X9.here hx rfl (hb hby at_106) rfl ?_
    show Steps p.tables e below (T9.setTop (mkF m 108 #[.val (.long s1), .second, .val (.int i), .val (.long t), .second, .val (.int j), .val (.int md), .val (.ref b1), .val (.int (md &&& (3 : Int32))), .val (.long s1), .second, .val (.int j), .val (.ref b3), .val (.ref r_5), .val (.int (1 : Int32))] [(.int (1 : Int32)), (.int (eqV s1 j s1 i))])) _
    refine XS.icmpYes X9.here hx rfl (pc0 := 108) (pc' := 113) rfl (hb hby at_108) rfl (teq ((eqV_y rfl hc75) : (eqV s1 j s1 i) = (1 : Int32))).1 (by decide) (by decide) ?_
    show Steps p.tables e below (T9.setTop (mkF m 113 #[.val (.long s1), .second, .val (.int i), .val (.long t), .second, .val (.int j), .val (.int md), .val (.ref b1), .val (.int (md &&& (3 : Int32))), .val (.long s1), .second, .val (.int j), .val (.ref b3), .val (.ref r_5), .val (.int (1 : Int32))] [])) _
    refine XS.aload X9.here hx rfl (hb hby at_113) rfl rfl ?_
    show Steps p.tables e below (T9.setTop (mkF m 115 #[.val (.long s1), .second, .val (.int i), .val (.long t), .second, .val (.int j), .val (.int md), .val (.ref b1), .val (.int (md &&& (3 : Int32))), .val (.long s1), .second, .val (.int j), .val (.ref b3), .val (.ref r_5), .val (.int (1 : Int32))] [(.ref b1)])) _
    refine XS.aload X9.here hx rfl (hb hby at_115) rfl rfl ?_
    show Steps p.tables e below (T9.setTop (mkF m 117 #[.val (.long s1), .second, .val (.int i), .val (.long t), .second, .val (.int j), .val (.int md), .val (.ref b1), .val (.int (md &&& (3 : Int32))), .val (.long s1), .second, .val (.int j), .val (.ref b3), .val (.ref r_5), .val (.int (1 : Int32))] [(.ref b1), (.ref b1)])) _
    refine st10.trans ?_
    show Steps p.tables e below (T10.setTop (mkF m 120 #[.val (.long s1), .second, .val (.int i), .val (.long t), .second, .val (.int j), .val (.int md), .val (.ref b1), .val (.int (md &&& (3 : Int32))), .val (.long s1), .second, .val (.int j), .val (.ref b3), .val (.ref r_5), .val (.int (1 : Int32))] [(.int (eqV s1 i s1 i))])) _
    refine XS.ifYes X10.here hx rfl (pc0 := 120) (pc' := 125) rfl (hb hby at_120) rfl ((if0 _ _).trans (feq ((by rw [eqV_y rfl rfl]; decide) : ¬ ((eqV s1 i s1 i) = (0 : Int32)))).2) (by decide) (by decide) ?_
    show Steps p.tables e below (T10.setTop (mkF m 125 #[.val (.long s1), .second, .val (.int i), .val (.long t), .second, .val (.int j), .val (.int md), .val (.ref b1), .val (.int (md &&& (3 : Int32))), .val (.long s1), .second, .val (.int j), .val (.ref b3), .val (.ref r_5), .val (.int (1 : Int32))] [])) _
    refine XS.aload X10.here hx rfl (hb hby at_125) rfl rfl ?_
    show Steps p.tables e below (T10.setTop (mkF m 127 #[.val (.long s1), .second, .val (.int i), .val (.long t), .second, .val (.int j), .val (.int md), .val (.ref b1), .val (.int (md &&& (3 : Int32))), .val (.long s1), .second, .val (.int j), .val (.ref b3), .val (.ref r_5), .val (.int (1 : Int32))] [(.ref b1)])) _
    refine XS.aconstNull X10.here hx rfl (hb hby at_127) ?_
    show Steps p.tables e below (T10.setTop (mkF m 128 #[.val (.long s1), .second, .val (.int i), .val (.long t), .second, .val (.int j), .val (.int md), .val (.ref b1), .val (.int (md &&& (3 : Int32))), .val (.long s1), .second, .val (.int j), .val (.ref b3), .val (.ref r_5), .val (.int (1 : Int32))] [.null, (.ref b1)])) _
    refine st11.trans ?_
    show Steps p.tables e below (T11.setTop (mkF m 131 #[.val (.long s1), .second, .val (.int i), .val (.long t), .second, .val (.int j), .val (.int md), .val (.ref b1), .val (.int (md &&& (3 : Int32))), .val (.long s1), .second, .val (.int j), .val (.ref b3), .val (.ref r_5), .val (.int (1 : Int32))] [(.int (0 : Int32))])) _
    refine XS.ifYes X11.here hx rfl (pc0 := 131) (pc' := 136) rfl (hb hby at_131) rfl ((if0 _ _).trans (teq (by decide : (0 : Int32) = (0 : Int32))).1) (by decide) (by decide) ?_
    show Steps p.tables e below (T11.setTop (mkF m 136 #[.val (.long s1), .second, .val (.int i), .val (.long t), .second, .val (.int j), .val (.int md), .val (.ref b1), .val (.int (md &&& (3 : Int32))), .val (.long s1), .second, .val (.int j), .val (.ref b3), .val (.ref r_5), .val (.int (1 : Int32))] [])) _
    refine XS.aload X11.here hx rfl (hb hby at_136) rfl rfl ?_
    show Steps p.tables e below (T11.setTop (mkF m 138 #[.val (.long s1), .second, .val (.int i), .val (.long t), .second, .val (.int j), .val (.int md), .val (.ref b1), .val (.int (md &&& (3 : Int32))), .val (.long s1), .second, .val (.int j), .val (.ref b3), .val (.ref r_5), .val (.int (1 : Int32))] [(.ref b1)])) _
    refine XS.aload X11.here hx rfl (hb hby at_138) rfl rfl ?_
    show Steps p.tables e below (T11.setTop (mkF m 140 #[.val (.long s1), .second, .val (.int i), .val (.long t), .second, .val (.int j), .val (.int md), .val (.ref b1), .val (.int (md &&& (3 : Int32))), .val (.long s1), .second, .val (.int j), .val (.ref b3), .val (.ref r_5), .val (.int (1 : Int32))] [(.ref r_5), (.ref b1)])) _
    refine st12.trans ?_
    show Steps p.tables e below (T12.setTop (mkF m 143 #[.val (.long s1), .second, .val (.int i), .val (.long t), .second, .val (.int j), .val (.int md), .val (.ref b1), .val (.int (md &&& (3 : Int32))), .val (.long s1), .second, .val (.int j), .val (.ref b3), .val (.ref r_5), .val (.int (1 : Int32))] [(.int (0 : Int32))])) _
    refine XS.ifYes X12.here hx rfl (pc0 := 143) (pc' := 148) rfl (hb hby at_143) rfl ((if0 _ _).trans (teq (by decide : (0 : Int32) = (0 : Int32))).1) (by decide) (by decide) ?_
    show Steps p.tables e below (T12.setTop (mkF m 148 #[.val (.long s1), .second, .val (.int i), .val (.long t), .second, .val (.int j), .val (.int md), .val (.ref b1), .val (.int (md &&& (3 : Int32))), .val (.long s1), .second, .val (.int j), .val (.ref b3), .val (.ref r_5), .val (.int (1 : Int32))] [])) _
    refine XS.iconst X12.here hx rfl (hb hby at_148) ?_
    show Steps p.tables e below (T12.setTop (mkF m 149 #[.val (.long s1), .second, .val (.int i), .val (.long t), .second, .val (.int j), .val (.int md), .val (.ref b1), .val (.int (md &&& (3 : Int32))), .val (.long s1), .second, .val (.int j), .val (.ref b3), .val (.ref r_5), .val (.int (1 : Int32))] [(.int (1 : Int32))])) _
    exact retN X12 hx (t := .boolean) Bd.returns (by simp) (hb hby at_149) hr
  · show Q_law Z s1 i t j md wc h0 n0 _ T12.heap _
    rw [kh12]
    exact ⟨rfl, N12⟩
set_option maxRecDepth 65536 in
set_option maxHeartbeats 40000000 in
theorem law_3 (l : Launch) (Z : State) (a0 : Array Value) (hw : ∀ d ∈ tables_1, d.before a0 Z = true) (ws : List Jvm.Cond) (s1 : Int64) (i : Int32) (t : Int64) (j : Int32) (md : Int32) (wc : Addr) (h0 : Heap) (n0 : Nat) (O0 : Old Z n0 h0) (G0 : Sta Z Z.heap "java/lang/Long$LongCache" "cache" "[Ljava/lang/Long;" (.ref wc)) (CA : Cache Z wc "java/lang/Long") (hc21 : ((md &&& (3 : Int32)) &&& (1 : Int32)) = (0 : Int32)) (hc35 : ¬ (((md &&& (3 : Int32)) &&& (2 : Int32)) = (0 : Int32))) (hc75 : ¬ (j = i)) :
    MetFree l x (head1 (Jvm.Cond.code x code maxLocals ret :: ws) room_1) (fun zA zU => zA = #[(.long s1), (.int i), (.long t), (.int j), (.int md)] ∧ Z.Warmed39 zU.vm ∧ zU.heap = h0) (fun _ _ _ _ _ => True) (fun _ zU zo zU' => ∃ zv zL, zo = .returned zv ∧ Q_law Z s1 i t j md wc h0 n0 zv zU'.heap zL ∧ FrameEnd zU zo zU' zL room_1.cells room_1.slots) := by
  refine MetFree.of_bodySF (plainFor_of_name pn_11) hisR ?_
  intro p e s m args below meth c s₁ Bd hml0 hP hK
  obtain ⟨rfl, hZ, hh⟩ := hP
  have hx := Bd.exec
  have hby := Bd.bytes
  have hml : c.maxLocals = 15 := hml0
  have hown : s.vm.findClass "com/example/maat/maat/TurnEqualsPinLaw" = some m.cls := findClass_of_methodNamed Bd.named
  have hnm := (name_of_methodNamed Bd.named Bd.method).1
  have X0 : Stand p l e room_1 s m #[(.long s1), (.int i), (.long t), (.int j), (.int md)] below meth c s₁ [] 0 0 := Stand.of_body Bd
  have e0 : s₁.heap = h0 := by rw [← hh, Bd.state]; rfl
  have N0 := Fr.nil n0
  have Z0 : n0 ≤ h0.size := O0.1 ▸ O0.2.1
  have pre0 : ∀ zt, Steps p.tables e below (s₁.setTop (mkF m 0 #[.val (.long s1), .second, .val (.int i), .val (.long t), .second, .val (.int j), .val (.int md), .unset, .unset, .unset, .unset, .unset, .unset, .unset, .unset] [])) zt → Steps p.tables e below (s₁.setTop (entryFrame m #[(.long s1), (.int i), (.long t), (.int j), (.int md)] maxLocals)) zt := fun zt zk => castTop (ef_0_JIJII m s1 i t j md) zk
  obtain ⟨T1, h1, X1, e1, E1, A1, D1, U1, st1⟩ := newO X0 hx hZ hown (hw _ (List.mem_of_getElem? (i := 0) rfl)) (hw _ (List.mem_of_getElem? (i := 1) rfl)) (hw _ (List.mem_of_getElem? (i := 2) rfl)) e0 (g := (mkF m 0 #[.val (.long s1), .second, .val (.int i), .val (.long t), .second, .val (.int j), .val (.int md), .unset, .unset, .unset, .unset, .unset, .unset, .unset, .unset] [])) rfl (hb hby at_0) (by decide) (by decide)
  obtain ⟨b1, gz1⟩ : ∃ z, z = h0.size := ⟨_, rfl⟩
  rw [← gz1] at A1 D1 U1 st1
  have sz_b1 : h0.size ≤ b1 := Nat.le_trans (Keep.refl h0 []).1 (Nat.le_of_eq gz1.symm)
  have g_b1 : n0 ≤ b1 := Nat.le_trans Z0 sz_b1
  have O1 := O0.ext E1
  have K1 : Keep h0 h1 [] := (Keep.refl h0 []).ext E1
  have Fi1_15 : Fld Z h1 b1 "com/example/maat/maat/Turn" "seq" "J" (.long (0 : Int64)) := D1 (Or.inr (hw _ (List.mem_of_getElem? (i := 15) rfl))) (ty := .long) (by decide)
  have Fi1_17 : Fld Z h1 b1 "com/example/maat/maat/Turn" "index" "I" (.int (0 : Int32)) := D1 (Or.inr (hw _ (List.mem_of_getElem? (i := 17) rfl))) (ty := .int) (by decide)
  obtain ⟨_, _, ⟨T2, L2, k2, n2⟩, -, X2, ⟨Lc2, hQ2, l2, y2, z2⟩, st2⟩ := X1.specialBack hx (y := (⟨"com/example/maat/maat/Turn", "<init>", "(JI)V"⟩ : MethodName)) rfl hown (mvT hZ (hw _ (List.mem_of_getElem? (i := 3) rfl))) (mvT hZ (hw _ (List.mem_of_getElem? (i := 4) rfl))) (mvT hZ (hw _ (List.mem_of_getElem? (i := 5) rfl))) (by decide) (backOf (W := 1) (turnI l Z a0 hw [] b1 s1 i h1 n0 O1 Fi1_15 Fi1_17 A1 g_b1) hZ (hw _ (List.mem_of_getElem? (i := 5) rfl)) (hw _ (List.mem_of_getElem? (i := 2) rfl)) (by decide) (by decide)) (g := (mkF m 6 #[.val (.long s1), .second, .val (.int i), .val (.long t), .second, .val (.int j), .val (.int md), .unset, .unset, .unset, .unset, .unset, .unset, .unset, .unset] [(.int i), (.long s1), (.ref b1), (.ref b1)])) rfl (by rw [hml]; rfl) (Steps.refl _) (a := b1) (argsL := [(.long s1), (.int i)]) (rest := [(.ref b1)]) (lenOf pd_2 rfl) rfl (by show 2 * 0 + _ ≤ _; exact Nat.le_of_eq rfl) (hb hby at_6) (fun _ _ => ⟨rfl, e1, (by decide : 1 + 0 ≤ _), (by decide : 2 + 0 ≤ _)⟩)
  dsimp only [Pt.U, Pt.locs, Pt.cells, Pt.slots] at X2 l2 y2 z2 st2 hQ2
  subst l2 y2 z2
  obtain ⟨rfl, Nq2, kh2, Po2_0, Po2_1, Po2_2⟩ := hQ2
  have N2 := Fr.app N0 Nq2
  have O2 := O1.keep kh2 (allS g_b1 all0)
  have K2 : Keep h0 T2.heap [] := K1.trans kh2 (allS (Or.inr sz_b1) all0)
  obtain ⟨T3, h3, X3, e3, E3, A3, D3, U3, st3⟩ := newO X2 hx hZ hown (hw _ (List.mem_of_getElem? (i := 0) rfl)) (hw _ (List.mem_of_getElem? (i := 1) rfl)) (hw _ (List.mem_of_getElem? (i := 2) rfl)) rfl (g := (mkF m 46 #[.val (.long s1), .second, .val (.int i), .val (.long t), .second, .val (.int j), .val (.int md), .val (.ref b1), .val (.int (md &&& (3 : Int32))), .val (.long s1), .second, .val (.int j), .unset, .unset, .unset] [])) rfl (hb hby at_46) (by decide) (by decide)
  obtain ⟨b3, gz3⟩ : ∃ z, z = T2.heap.size := ⟨_, rfl⟩
  rw [← gz3] at A3 D3 U3 st3
  have sz_b3 : h0.size ≤ b3 := Nat.le_trans K2.1 (Nat.le_of_eq gz3.symm)
  have g_b3 : n0 ≤ b3 := Nat.le_trans Z0 sz_b3
  have O3 := O2.ext E3
  have K3 : Keep h0 h3 [] := K2.ext E3
  have Fi3_15 : Fld Z h3 b3 "com/example/maat/maat/Turn" "seq" "J" (.long (0 : Int64)) := D3 (Or.inr (hw _ (List.mem_of_getElem? (i := 15) rfl))) (ty := .long) (by decide)
  have Fi3_17 : Fld Z h3 b3 "com/example/maat/maat/Turn" "index" "I" (.int (0 : Int32)) := D3 (Or.inr (hw _ (List.mem_of_getElem? (i := 17) rfl))) (ty := .int) (by decide)
  obtain ⟨_, _, ⟨T4, L4, k4, n4⟩, -, X4, ⟨Lc4, hQ4, l4, y4, z4⟩, st4⟩ := X3.specialBack hx (y := (⟨"com/example/maat/maat/Turn", "<init>", "(JI)V"⟩ : MethodName)) rfl hown (mvT hZ (hw _ (List.mem_of_getElem? (i := 3) rfl))) (mvT hZ (hw _ (List.mem_of_getElem? (i := 4) rfl))) (mvT hZ (hw _ (List.mem_of_getElem? (i := 5) rfl))) (by decide) (backOf (W := 1) (turnI l Z a0 hw [] b3 s1 j h3 n0 O3 Fi3_15 Fi3_17 A3 g_b3) hZ (hw _ (List.mem_of_getElem? (i := 5) rfl)) (hw _ (List.mem_of_getElem? (i := 2) rfl)) (by decide) (by decide)) (g := (mkF m 54 #[.val (.long s1), .second, .val (.int i), .val (.long t), .second, .val (.int j), .val (.int md), .val (.ref b1), .val (.int (md &&& (3 : Int32))), .val (.long s1), .second, .val (.int j), .unset, .unset, .unset] [(.int j), (.long s1), (.ref b3), (.ref b3)])) rfl (by rw [hml]; rfl) (Steps.refl _) (a := b3) (argsL := [(.long s1), (.int j)]) (rest := [(.ref b3)]) (lenOf pd_2 rfl) rfl (by show 2 * 0 + _ ≤ _; exact Nat.le_of_eq rfl) (hb hby at_54) (fun _ _ => ⟨rfl, e3, (by decide : 2 + 0 ≤ _), (by decide : 4 + 0 ≤ _)⟩)
  dsimp only [Pt.U, Pt.locs, Pt.cells, Pt.slots] at X4 l4 y4 z4 st4 hQ4
  subst l4 y4 z4
  obtain ⟨rfl, Nq4, kh4, Po4_0, Po4_1, Po4_2⟩ := hQ4
  have N4 := Fr.app N2 Nq4
  have O4 := O3.keep kh4 (allS g_b3 all0)
  have K4 : Keep h0 T4.heap [] := K3.trans kh4 (allS (Or.inr sz_b3) all0)
  obtain ⟨_, _, ⟨T5, L5, k5, n5⟩, -, X5, ⟨Lc5, hQ5, l5, y5, z5⟩, st5⟩ := Jvm.LawKit.callS X4 hx (y := (⟨"java/lang/Long", "valueOf", "(J)Ljava/lang/Long;"⟩ : MethodName)) hown (mvT hZ (hw _ (List.mem_of_getElem? (i := 18) rfl))) (mvT hZ (hw _ (List.mem_of_getElem? (i := 19) rfl))) (mvT hZ (hw _ (List.mem_of_getElem? (i := 20) rfl))) (mvT hZ (hw _ (List.mem_of_getElem? (i := 21) rfl))) (by decide) (backOf (W := 0) (valueOf l Z a0 hw [] s1 wc T4.heap n0 O4 G0 CA) hZ (hw _ (List.mem_of_getElem? (i := 21) rfl)) (hw _ (List.mem_of_getElem? (i := 20) rfl)) (by decide) (by decide)) (g := (mkF m 60 #[.val (.long s1), .second, .val (.int i), .val (.long t), .second, .val (.int j), .val (.int md), .val (.ref b1), .val (.int (md &&& (3 : Int32))), .val (.long s1), .second, .val (.int j), .val (.ref b3), .unset, .unset] [(.long s1)])) rfl (by rw [hml]; rfl) (argsL := [(.long s1)]) (rest := []) (lenOf pd_3 rfl) rfl (by show 2 * 0 + _ ≤ _; exact Nat.le_of_eq rfl) (hb hby at_60) (fun _ _ => ⟨rfl, rfl, (by decide : 2 + 1 ≤ _), (by decide : 4 + 1 ≤ _)⟩)
  dsimp only [Pt.U, Pt.locs, Pt.cells, Pt.slots] at X5 l5 y5 z5 st5 hQ5
  subst l5 y5 z5
  obtain ⟨r_5, rfl, Nq5, kh5, Po5_0⟩ := hQ5
  have N5 := Fr.app N4 Nq5
  have O5 := O4.keep kh5 all0
  have K5 : Keep h0 T5.heap [] := K4.trans kh5 all0
  have c6 : Fld Z T5.heap b1 "com/example/maat/maat/Turn" "seq" "J" (.long s1) := (((Po2_1.ext E3).keep kh4 (ninS (Nat.ne_of_lt (Nat.lt_of_lt_of_le (Po2_0).lt (Nat.le_of_eq gz3.symm))) nin0)).keep kh5 nin0)
  have c7 : Fld Z T5.heap b1 "com/example/maat/maat/Turn" "index" "I" (.int i) := (((Po2_2.ext E3).keep kh4 (ninS (Nat.ne_of_lt (Nat.lt_of_lt_of_le (Po2_0).lt (Nat.le_of_eq gz3.symm))) nin0)).keep kh5 nin0)
  obtain ⟨cq8, kq8, q8a, q8b, q8c⟩ := isOf hZ rfl (((Po2_0.ext E3).keep kh4).keep kh5)
  obtain ⟨_, _, ⟨T8, L8, k8, n8⟩, -, X8, ⟨Lc8, hQ8, l8, y8, z8⟩, st8⟩ := X5.virtualBack hx (y := (⟨"com/example/maat/maat/Turn", "equals", "(Ljava/lang/Object;)Z"⟩ : MethodName)) (z := (⟨"com/example/maat/maat/Turn", "equals", "(Ljava/lang/Object;)Z"⟩ : MethodName)) hown (mvT hZ (hw _ (List.mem_of_getElem? (i := 26) rfl))) (mvT hZ (hw _ (List.mem_of_getElem? (i := 27) rfl))) (notFace_of_selects (args := #[]) (mvT hZ (hw _ (List.mem_of_getElem? (i := 29) rfl)))) (mvT hZ (hw _ (List.mem_of_getElem? (i := 29) rfl))) (mvT hZ (hw _ (List.mem_of_getElem? (i := 28) rfl))) (by decide) (backOf (W := 0) (eqT l Z a0 hw [] b1 b3 s1 i s1 j T5.heap n0 O5 c6 c7 (Po4_1.keep kh5 nin0) (Po4_2.keep kh5 nin0) (Po4_0.keep kh5)) hZ (hw _ (List.mem_of_getElem? (i := 30) rfl)) (hw _ (List.mem_of_getElem? (i := 2) rfl)) (by decide) (by decide)) q8a q8c (g := (mkF m 89 #[.val (.long s1), .second, .val (.int i), .val (.long t), .second, .val (.int j), .val (.int md), .val (.ref b1), .val (.int (md &&& (3 : Int32))), .val (.long s1), .second, .val (.int j), .val (.ref b3), .val (.ref r_5), .val (.int (0 : Int32))] [(.ref b3), (.ref b1)])) rfl (by rw [hml]; rfl) (Steps.refl _) (argsL := [(.ref b3)]) (rest := []) (lenOf pd_4 rfl) rfl (by show 2 * 0 + _ ≤ _; exact Nat.le_of_eq rfl) (hb hby at_89) (fun _ _ => ⟨rfl, rfl, (by decide : 3 + 0 ≤ _), (by decide : 5 + 0 ≤ _)⟩)
  dsimp only [Pt.U, Pt.locs, Pt.cells, Pt.slots] at X8 l8 y8 z8 st8 hQ8
  subst l8 y8 z8
  obtain ⟨rfl, Nq8, kh8⟩ := hQ8
  have N8 := Fr.app N5 Nq8
  obtain ⟨cq9, kq9, q9a, q9b, q9c⟩ := isOf hZ kh8 (Po4_0.keep kh5)
  obtain ⟨_, _, ⟨T9, L9, k9, n9⟩, -, X9, ⟨Lc9, hQ9, l9, y9, z9⟩, st9⟩ := X8.virtualBack hx (y := (⟨"com/example/maat/maat/Turn", "equals", "(Ljava/lang/Object;)Z"⟩ : MethodName)) (z := (⟨"com/example/maat/maat/Turn", "equals", "(Ljava/lang/Object;)Z"⟩ : MethodName)) hown (mvT hZ (hw _ (List.mem_of_getElem? (i := 26) rfl))) (mvT hZ (hw _ (List.mem_of_getElem? (i := 27) rfl))) (notFace_of_selects (args := #[]) (mvT hZ (hw _ (List.mem_of_getElem? (i := 29) rfl)))) (mvT hZ (hw _ (List.mem_of_getElem? (i := 29) rfl))) (mvT hZ (hw _ (List.mem_of_getElem? (i := 28) rfl))) (by decide) (backOf (W := 0) (eqT l Z a0 hw [] b3 b1 s1 j s1 i T5.heap n0 O5 (Po4_1.keep kh5 nin0) (Po4_2.keep kh5 nin0) c6 c7 (((Po2_0.ext E3).keep kh4).keep kh5)) hZ (hw _ (List.mem_of_getElem? (i := 30) rfl)) (hw _ (List.mem_of_getElem? (i := 2) rfl)) (by decide) (by decide)) q9a q9c (g := (mkF m 103 #[.val (.long s1), .second, .val (.int i), .val (.long t), .second, .val (.int j), .val (.int md), .val (.ref b1), .val (.int (md &&& (3 : Int32))), .val (.long s1), .second, .val (.int j), .val (.ref b3), .val (.ref r_5), .val (.int (0 : Int32))] [(.ref b1), (.ref b3)])) rfl (by rw [hml]; rfl) (Steps.refl _) (argsL := [(.ref b1)]) (rest := []) (lenOf pd_4 rfl) rfl (by show 2 * 0 + _ ≤ _; exact Nat.le_of_eq rfl) (hb hby at_103) (fun _ _ => ⟨rfl, kh8, (by decide : 3 + 0 ≤ _), (by decide : 5 + 0 ≤ _)⟩)
  dsimp only [Pt.U, Pt.locs, Pt.cells, Pt.slots] at X9 l9 y9 z9 st9 hQ9
  subst l9 y9 z9
  obtain ⟨rfl, Nq9, kh9⟩ := hQ9
  have N9 := Fr.app N8 Nq9
  obtain ⟨cq10, kq10, q10a, q10b, q10c⟩ := isOf hZ kh9 (((Po2_0.ext E3).keep kh4).keep kh5)
  obtain ⟨_, _, ⟨T10, L10, k10, n10⟩, -, X10, ⟨Lc10, hQ10, l10, y10, z10⟩, st10⟩ := X9.virtualBack hx (y := (⟨"com/example/maat/maat/Turn", "equals", "(Ljava/lang/Object;)Z"⟩ : MethodName)) (z := (⟨"com/example/maat/maat/Turn", "equals", "(Ljava/lang/Object;)Z"⟩ : MethodName)) hown (mvT hZ (hw _ (List.mem_of_getElem? (i := 26) rfl))) (mvT hZ (hw _ (List.mem_of_getElem? (i := 27) rfl))) (notFace_of_selects (args := #[]) (mvT hZ (hw _ (List.mem_of_getElem? (i := 29) rfl)))) (mvT hZ (hw _ (List.mem_of_getElem? (i := 29) rfl))) (mvT hZ (hw _ (List.mem_of_getElem? (i := 28) rfl))) (by decide) (backOf (W := 0) (eqT l Z a0 hw [] b1 b1 s1 i s1 i T5.heap n0 O5 c6 c7 c6 c7 (((Po2_0.ext E3).keep kh4).keep kh5)) hZ (hw _ (List.mem_of_getElem? (i := 30) rfl)) (hw _ (List.mem_of_getElem? (i := 2) rfl)) (by decide) (by decide)) q10a q10c (g := (mkF m 117 #[.val (.long s1), .second, .val (.int i), .val (.long t), .second, .val (.int j), .val (.int md), .val (.ref b1), .val (.int (md &&& (3 : Int32))), .val (.long s1), .second, .val (.int j), .val (.ref b3), .val (.ref r_5), .val (.int (0 : Int32))] [(.ref b1), (.ref b1)])) rfl (by rw [hml]; rfl) (Steps.refl _) (argsL := [(.ref b1)]) (rest := []) (lenOf pd_4 rfl) rfl (by show 2 * 0 + _ ≤ _; exact Nat.le_of_eq rfl) (hb hby at_117) (fun _ _ => ⟨rfl, kh9, (by decide : 3 + 0 ≤ _), (by decide : 5 + 0 ≤ _)⟩)
  dsimp only [Pt.U, Pt.locs, Pt.cells, Pt.slots] at X10 l10 y10 z10 st10 hQ10
  subst l10 y10 z10
  obtain ⟨rfl, Nq10, kh10⟩ := hQ10
  have N10 := Fr.app N9 Nq10
  obtain ⟨cq11, kq11, q11a, q11b, q11c⟩ := isOf hZ kh10 (((Po2_0.ext E3).keep kh4).keep kh5)
  obtain ⟨_, _, ⟨T11, L11, k11, n11⟩, -, X11, ⟨Lc11, hQ11, l11, y11, z11⟩, st11⟩ := X10.virtualBack hx (y := (⟨"com/example/maat/maat/Turn", "equals", "(Ljava/lang/Object;)Z"⟩ : MethodName)) (z := (⟨"com/example/maat/maat/Turn", "equals", "(Ljava/lang/Object;)Z"⟩ : MethodName)) hown (mvT hZ (hw _ (List.mem_of_getElem? (i := 26) rfl))) (mvT hZ (hw _ (List.mem_of_getElem? (i := 27) rfl))) (notFace_of_selects (args := #[]) (mvT hZ (hw _ (List.mem_of_getElem? (i := 29) rfl)))) (mvT hZ (hw _ (List.mem_of_getElem? (i := 29) rfl))) (mvT hZ (hw _ (List.mem_of_getElem? (i := 28) rfl))) (by decide) (backOf (W := 0) (eqN l Z a0 hw [] b1 T5.heap n0 O5 ) hZ (hw _ (List.mem_of_getElem? (i := 30) rfl)) (hw _ (List.mem_of_getElem? (i := 2) rfl)) (by decide) (by decide)) q11a q11c (g := (mkF m 128 #[.val (.long s1), .second, .val (.int i), .val (.long t), .second, .val (.int j), .val (.int md), .val (.ref b1), .val (.int (md &&& (3 : Int32))), .val (.long s1), .second, .val (.int j), .val (.ref b3), .val (.ref r_5), .val (.int (0 : Int32))] [.null, (.ref b1)])) rfl (by rw [hml]; rfl) (Steps.refl _) (argsL := [.null]) (rest := []) (lenOf pd_4 rfl) rfl (by show 2 * 0 + _ ≤ _; exact Nat.le_of_eq rfl) (hb hby at_128) (fun _ _ => ⟨rfl, kh10, (by decide : 3 + 0 ≤ _), (by decide : 5 + 0 ≤ _)⟩)
  dsimp only [Pt.U, Pt.locs, Pt.cells, Pt.slots] at X11 l11 y11 z11 st11 hQ11
  subst l11 y11 z11
  obtain ⟨rfl, Nq11, kh11⟩ := hQ11
  have N11 := Fr.app N10 Nq11
  obtain ⟨cq12, kq12, q12a, q12b, q12c⟩ := isOf hZ kh11 (((Po2_0.ext E3).keep kh4).keep kh5)
  obtain ⟨_, _, ⟨T12, L12, k12, n12⟩, -, X12, ⟨Lc12, hQ12, l12, y12, z12⟩, st12⟩ := X11.virtualBack hx (y := (⟨"com/example/maat/maat/Turn", "equals", "(Ljava/lang/Object;)Z"⟩ : MethodName)) (z := (⟨"com/example/maat/maat/Turn", "equals", "(Ljava/lang/Object;)Z"⟩ : MethodName)) hown (mvT hZ (hw _ (List.mem_of_getElem? (i := 26) rfl))) (mvT hZ (hw _ (List.mem_of_getElem? (i := 27) rfl))) (notFace_of_selects (args := #[]) (mvT hZ (hw _ (List.mem_of_getElem? (i := 29) rfl)))) (mvT hZ (hw _ (List.mem_of_getElem? (i := 29) rfl))) (mvT hZ (hw _ (List.mem_of_getElem? (i := 28) rfl))) (by decide) (backOf (W := 0) (eqL l Z a0 hw [] b1 r_5 T5.heap n0 O5 Po5_0) hZ (hw _ (List.mem_of_getElem? (i := 30) rfl)) (hw _ (List.mem_of_getElem? (i := 2) rfl)) (by decide) (by decide)) q12a q12c (g := (mkF m 140 #[.val (.long s1), .second, .val (.int i), .val (.long t), .second, .val (.int j), .val (.int md), .val (.ref b1), .val (.int (md &&& (3 : Int32))), .val (.long s1), .second, .val (.int j), .val (.ref b3), .val (.ref r_5), .val (.int (0 : Int32))] [(.ref r_5), (.ref b1)])) rfl (by rw [hml]; rfl) (Steps.refl _) (argsL := [(.ref r_5)]) (rest := []) (lenOf pd_4 rfl) rfl (by show 2 * 0 + _ ≤ _; exact Nat.le_of_eq rfl) (hb hby at_140) (fun _ _ => ⟨rfl, kh11, (by decide : 3 + 0 ≤ _), (by decide : 5 + 0 ≤ _)⟩)
  dsimp only [Pt.U, Pt.locs, Pt.cells, Pt.slots] at X12 l12 y12 z12 st12 hQ12
  subst l12 y12 z12
  obtain ⟨rfl, Nq12, kh12⟩ := hQ12
  have N12 := Fr.app N11 Nq12
  obtain ⟨fs, hr, hrun, hended, hW, hsame⟩ := X12.leave (v := some (.int (1 : Int32))) (fun h => by rw [Bd.returns] at h; cases h)
  refine ⟨_, _, pre0 _ ?_, hrun, hended, _, _, rfl, ?_, ⟨_, rfl⟩, hW, hsame.mono (by decide) (by decide)⟩
  · show Steps p.tables e below (s₁.setTop (mkF m 0 #[.val (.long s1), .second, .val (.int i), .val (.long t), .second, .val (.int j), .val (.int md), .unset, .unset, .unset, .unset, .unset, .unset, .unset, .unset] [])) _
    refine st1 _ ?_
    show Steps p.tables e below (T1.setTop (mkF m 3 #[.val (.long s1), .second, .val (.int i), .val (.long t), .second, .val (.int j), .val (.int md), .unset, .unset, .unset, .unset, .unset, .unset, .unset, .unset] [(.ref b1)])) _
    refine XS.dup X1.here hx rfl (hb hby at_3) rfl rfl ?_
    show Steps p.tables e below (T1.setTop (mkF m 4 #[.val (.long s1), .second, .val (.int i), .val (.long t), .second, .val (.int j), .val (.int md), .unset, .unset, .unset, .unset, .unset, .unset, .unset, .unset] [(.ref b1), (.ref b1)])) _
    refine XS.lloadN X1.here hx rfl (hb hby at_4) rfl ?_
    show Steps p.tables e below (T1.setTop (mkF m 5 #[.val (.long s1), .second, .val (.int i), .val (.long t), .second, .val (.int j), .val (.int md), .unset, .unset, .unset, .unset, .unset, .unset, .unset, .unset] [(.long s1), (.ref b1), (.ref b1)])) _
    refine XS.iloadN X1.here hx rfl (hb hby at_5) rfl ?_
    show Steps p.tables e below (T1.setTop (mkF m 6 #[.val (.long s1), .second, .val (.int i), .val (.long t), .second, .val (.int j), .val (.int md), .unset, .unset, .unset, .unset, .unset, .unset, .unset, .unset] [(.int i), (.long s1), (.ref b1), (.ref b1)])) _
    refine st2.trans ?_
    show Steps p.tables e below (T2.setTop (mkF m 9 #[.val (.long s1), .second, .val (.int i), .val (.long t), .second, .val (.int j), .val (.int md), .unset, .unset, .unset, .unset, .unset, .unset, .unset, .unset] [(.ref b1)])) _
    refine XS.astore X2.here hx rfl (hb hby at_9) rfl rfl (l' := #[.val (.long s1), .second, .val (.int i), .val (.long t), .second, .val (.int j), .val (.int md), .val (.ref b1), .unset, .unset, .unset, .unset, .unset, .unset, .unset]) rfl ?_
    show Steps p.tables e below (T2.setTop (mkF m 11 #[.val (.long s1), .second, .val (.int i), .val (.long t), .second, .val (.int j), .val (.int md), .val (.ref b1), .unset, .unset, .unset, .unset, .unset, .unset, .unset] [])) _
    refine XS.iload X2.here hx rfl (hb hby at_11) rfl ?_
    show Steps p.tables e below (T2.setTop (mkF m 13 #[.val (.long s1), .second, .val (.int i), .val (.long t), .second, .val (.int j), .val (.int md), .val (.ref b1), .unset, .unset, .unset, .unset, .unset, .unset, .unset] [(.int md)])) _
    refine XS.iconst X2.here hx rfl (hb hby at_13) ?_
    show Steps p.tables e below (T2.setTop (mkF m 14 #[.val (.long s1), .second, .val (.int i), .val (.long t), .second, .val (.int j), .val (.int md), .val (.ref b1), .unset, .unset, .unset, .unset, .unset, .unset, .unset] [(.int (3 : Int32)), (.int md)])) _
    refine XS.iand X2.here hx rfl (hb hby at_14) rfl ?_
    show Steps p.tables e below (T2.setTop (mkF m 15 #[.val (.long s1), .second, .val (.int i), .val (.long t), .second, .val (.int j), .val (.int md), .val (.ref b1), .unset, .unset, .unset, .unset, .unset, .unset, .unset] [(.int (md &&& (3 : Int32)))])) _
    refine XS.istore X2.here hx rfl (hb hby at_15) rfl (l' := #[.val (.long s1), .second, .val (.int i), .val (.long t), .second, .val (.int j), .val (.int md), .val (.ref b1), .val (.int (md &&& (3 : Int32))), .unset, .unset, .unset, .unset, .unset, .unset]) rfl ?_
    show Steps p.tables e below (T2.setTop (mkF m 17 #[.val (.long s1), .second, .val (.int i), .val (.long t), .second, .val (.int j), .val (.int md), .val (.ref b1), .val (.int (md &&& (3 : Int32))), .unset, .unset, .unset, .unset, .unset, .unset] [])) _
    refine XS.iload X2.here hx rfl (hb hby at_17) rfl ?_
    show Steps p.tables e below (T2.setTop (mkF m 19 #[.val (.long s1), .second, .val (.int i), .val (.long t), .second, .val (.int j), .val (.int md), .val (.ref b1), .val (.int (md &&& (3 : Int32))), .unset, .unset, .unset, .unset, .unset, .unset] [(.int (md &&& (3 : Int32)))])) _
    refine XS.iconst X2.here hx rfl (hb hby at_19) ?_
    show Steps p.tables e below (T2.setTop (mkF m 20 #[.val (.long s1), .second, .val (.int i), .val (.long t), .second, .val (.int j), .val (.int md), .val (.ref b1), .val (.int (md &&& (3 : Int32))), .unset, .unset, .unset, .unset, .unset, .unset] [(.int (1 : Int32)), (.int (md &&& (3 : Int32)))])) _
    refine XS.iand X2.here hx rfl (hb hby at_20) rfl ?_
    show Steps p.tables e below (T2.setTop (mkF m 21 #[.val (.long s1), .second, .val (.int i), .val (.long t), .second, .val (.int j), .val (.int md), .val (.ref b1), .val (.int (md &&& (3 : Int32))), .unset, .unset, .unset, .unset, .unset, .unset] [(.int ((md &&& (3 : Int32)) &&& (1 : Int32)))])) _
    refine XS.ifYes X2.here hx rfl (pc0 := 21) (pc' := 28) rfl (hb hby at_21) rfl ((if0 _ _).trans (teq (hc21 : ((md &&& (3 : Int32)) &&& (1 : Int32)) = (0 : Int32))).1) (by decide) (by decide) ?_
    show Steps p.tables e below (T2.setTop (mkF m 28 #[.val (.long s1), .second, .val (.int i), .val (.long t), .second, .val (.int j), .val (.int md), .val (.ref b1), .val (.int (md &&& (3 : Int32))), .unset, .unset, .unset, .unset, .unset, .unset] [])) _
    refine XS.lloadN X2.here hx rfl (hb hby at_28) rfl ?_
    show Steps p.tables e below (T2.setTop (mkF m 29 #[.val (.long s1), .second, .val (.int i), .val (.long t), .second, .val (.int j), .val (.int md), .val (.ref b1), .val (.int (md &&& (3 : Int32))), .unset, .unset, .unset, .unset, .unset, .unset] [(.long s1)])) _
    refine XS.lstore X2.here hx rfl (hb hby at_29) rfl (l' := #[.val (.long s1), .second, .val (.int i), .val (.long t), .second, .val (.int j), .val (.int md), .val (.ref b1), .val (.int (md &&& (3 : Int32))), .val (.long s1), .second, .unset, .unset, .unset, .unset]) rfl ?_
    show Steps p.tables e below (T2.setTop (mkF m 31 #[.val (.long s1), .second, .val (.int i), .val (.long t), .second, .val (.int j), .val (.int md), .val (.ref b1), .val (.int (md &&& (3 : Int32))), .val (.long s1), .second, .unset, .unset, .unset, .unset] [])) _
    refine XS.iload X2.here hx rfl (hb hby at_31) rfl ?_
    show Steps p.tables e below (T2.setTop (mkF m 33 #[.val (.long s1), .second, .val (.int i), .val (.long t), .second, .val (.int j), .val (.int md), .val (.ref b1), .val (.int (md &&& (3 : Int32))), .val (.long s1), .second, .unset, .unset, .unset, .unset] [(.int (md &&& (3 : Int32)))])) _
    refine XS.iconst X2.here hx rfl (hb hby at_33) ?_
    show Steps p.tables e below (T2.setTop (mkF m 34 #[.val (.long s1), .second, .val (.int i), .val (.long t), .second, .val (.int j), .val (.int md), .val (.ref b1), .val (.int (md &&& (3 : Int32))), .val (.long s1), .second, .unset, .unset, .unset, .unset] [(.int (2 : Int32)), (.int (md &&& (3 : Int32)))])) _
    refine XS.iand X2.here hx rfl (hb hby at_34) rfl ?_
    show Steps p.tables e below (T2.setTop (mkF m 35 #[.val (.long s1), .second, .val (.int i), .val (.long t), .second, .val (.int j), .val (.int md), .val (.ref b1), .val (.int (md &&& (3 : Int32))), .val (.long s1), .second, .unset, .unset, .unset, .unset] [(.int ((md &&& (3 : Int32)) &&& (2 : Int32)))])) _
    refine XS.ifNo X2.here hx rfl (hb hby at_35) rfl ((if0 _ _).trans (feq (hc35 : ¬ (((md &&& (3 : Int32)) &&& (2 : Int32)) = (0 : Int32)))).1) ?_
    show Steps p.tables e below (T2.setTop (mkF m 38 #[.val (.long s1), .second, .val (.int i), .val (.long t), .second, .val (.int j), .val (.int md), .val (.ref b1), .val (.int (md &&& (3 : Int32))), .val (.long s1), .second, .unset, .unset, .unset, .unset] [])) _
    refine XS.iload X2.here hx rfl (hb hby at_38) rfl ?_
    show Steps p.tables e below (T2.setTop (mkF m 40 #[.val (.long s1), .second, .val (.int i), .val (.long t), .second, .val (.int j), .val (.int md), .val (.ref b1), .val (.int (md &&& (3 : Int32))), .val (.long s1), .second, .unset, .unset, .unset, .unset] [(.int j)])) _
    refine XS.goto X2.here hx rfl (pc0 := 40) (pc' := 44) rfl (hb hby at_40) (by decide) (by decide) ?_
    show Steps p.tables e below (T2.setTop (mkF m 44 #[.val (.long s1), .second, .val (.int i), .val (.long t), .second, .val (.int j), .val (.int md), .val (.ref b1), .val (.int (md &&& (3 : Int32))), .val (.long s1), .second, .unset, .unset, .unset, .unset] [(.int j)])) _
    refine XS.istore X2.here hx rfl (hb hby at_44) rfl (l' := #[.val (.long s1), .second, .val (.int i), .val (.long t), .second, .val (.int j), .val (.int md), .val (.ref b1), .val (.int (md &&& (3 : Int32))), .val (.long s1), .second, .val (.int j), .unset, .unset, .unset]) rfl ?_
    show Steps p.tables e below (T2.setTop (mkF m 46 #[.val (.long s1), .second, .val (.int i), .val (.long t), .second, .val (.int j), .val (.int md), .val (.ref b1), .val (.int (md &&& (3 : Int32))), .val (.long s1), .second, .val (.int j), .unset, .unset, .unset] [])) _
    refine st3 _ ?_
    show Steps p.tables e below (T3.setTop (mkF m 49 #[.val (.long s1), .second, .val (.int i), .val (.long t), .second, .val (.int j), .val (.int md), .val (.ref b1), .val (.int (md &&& (3 : Int32))), .val (.long s1), .second, .val (.int j), .unset, .unset, .unset] [(.ref b3)])) _
    refine XS.dup X3.here hx rfl (hb hby at_49) rfl rfl ?_
    show Steps p.tables e below (T3.setTop (mkF m 50 #[.val (.long s1), .second, .val (.int i), .val (.long t), .second, .val (.int j), .val (.int md), .val (.ref b1), .val (.int (md &&& (3 : Int32))), .val (.long s1), .second, .val (.int j), .unset, .unset, .unset] [(.ref b3), (.ref b3)])) _
    refine XS.lload X3.here hx rfl (hb hby at_50) rfl ?_
    show Steps p.tables e below (T3.setTop (mkF m 52 #[.val (.long s1), .second, .val (.int i), .val (.long t), .second, .val (.int j), .val (.int md), .val (.ref b1), .val (.int (md &&& (3 : Int32))), .val (.long s1), .second, .val (.int j), .unset, .unset, .unset] [(.long s1), (.ref b3), (.ref b3)])) _
    refine XS.iload X3.here hx rfl (hb hby at_52) rfl ?_
    show Steps p.tables e below (T3.setTop (mkF m 54 #[.val (.long s1), .second, .val (.int i), .val (.long t), .second, .val (.int j), .val (.int md), .val (.ref b1), .val (.int (md &&& (3 : Int32))), .val (.long s1), .second, .val (.int j), .unset, .unset, .unset] [(.int j), (.long s1), (.ref b3), (.ref b3)])) _
    refine st4.trans ?_
    show Steps p.tables e below (T4.setTop (mkF m 57 #[.val (.long s1), .second, .val (.int i), .val (.long t), .second, .val (.int j), .val (.int md), .val (.ref b1), .val (.int (md &&& (3 : Int32))), .val (.long s1), .second, .val (.int j), .unset, .unset, .unset] [(.ref b3)])) _
    refine XS.astore X4.here hx rfl (hb hby at_57) rfl rfl (l' := #[.val (.long s1), .second, .val (.int i), .val (.long t), .second, .val (.int j), .val (.int md), .val (.ref b1), .val (.int (md &&& (3 : Int32))), .val (.long s1), .second, .val (.int j), .val (.ref b3), .unset, .unset]) rfl ?_
    show Steps p.tables e below (T4.setTop (mkF m 59 #[.val (.long s1), .second, .val (.int i), .val (.long t), .second, .val (.int j), .val (.int md), .val (.ref b1), .val (.int (md &&& (3 : Int32))), .val (.long s1), .second, .val (.int j), .val (.ref b3), .unset, .unset] [])) _
    refine XS.lloadN X4.here hx rfl (hb hby at_59) rfl ?_
    show Steps p.tables e below (T4.setTop (mkF m 60 #[.val (.long s1), .second, .val (.int i), .val (.long t), .second, .val (.int j), .val (.int md), .val (.ref b1), .val (.int (md &&& (3 : Int32))), .val (.long s1), .second, .val (.int j), .val (.ref b3), .unset, .unset] [(.long s1)])) _
    refine st5 _ ?_
    show Steps p.tables e below (T5.setTop (mkF m 63 #[.val (.long s1), .second, .val (.int i), .val (.long t), .second, .val (.int j), .val (.int md), .val (.ref b1), .val (.int (md &&& (3 : Int32))), .val (.long s1), .second, .val (.int j), .val (.ref b3), .unset, .unset] [(.ref r_5)])) _
    refine XS.astore X5.here hx rfl (hb hby at_63) rfl rfl (l' := #[.val (.long s1), .second, .val (.int i), .val (.long t), .second, .val (.int j), .val (.int md), .val (.ref b1), .val (.int (md &&& (3 : Int32))), .val (.long s1), .second, .val (.int j), .val (.ref b3), .val (.ref r_5), .unset]) rfl ?_
    show Steps p.tables e below (T5.setTop (mkF m 65 #[.val (.long s1), .second, .val (.int i), .val (.long t), .second, .val (.int j), .val (.int md), .val (.ref b1), .val (.int (md &&& (3 : Int32))), .val (.long s1), .second, .val (.int j), .val (.ref b3), .val (.ref r_5), .unset] [])) _
    refine XS.lload X5.here hx rfl (hb hby at_65) rfl ?_
    show Steps p.tables e below (T5.setTop (mkF m 67 #[.val (.long s1), .second, .val (.int i), .val (.long t), .second, .val (.int j), .val (.int md), .val (.ref b1), .val (.int (md &&& (3 : Int32))), .val (.long s1), .second, .val (.int j), .val (.ref b3), .val (.ref r_5), .unset] [(.long s1)])) _
    refine XS.lloadN X5.here hx rfl (hb hby at_67) rfl ?_
    show Steps p.tables e below (T5.setTop (mkF m 68 #[.val (.long s1), .second, .val (.int i), .val (.long t), .second, .val (.int j), .val (.int md), .val (.ref b1), .val (.int (md &&& (3 : Int32))), .val (.long s1), .second, .val (.int j), .val (.ref b3), .val (.ref r_5), .unset] [(.long s1), (.long s1)])) _
    refine XS.lcmp X5.here hx rfl (hb hby at_68) rfl ?_
    show Steps p.tables e below (T5.setTop (mkF m 69 #[.val (.long s1), .second, .val (.int i), .val (.long t), .second, .val (.int j), .val (.int md), .val (.ref b1), .val (.int (md &&& (3 : Int32))), .val (.long s1), .second, .val (.int j), .val (.ref b3), .val (.ref r_5), .unset] [(.int (lcmpW s1 s1))])) _
    refine XS.ifNo X5.here hx rfl (hb hby at_69) rfl ((if0 _ _).trans (teq (((lw_eq _ _).mpr rfl) : (lcmpW s1 s1) = (0 : Int32))).2) ?_
    show Steps p.tables e below (T5.setTop (mkF m 72 #[.val (.long s1), .second, .val (.int i), .val (.long t), .second, .val (.int j), .val (.int md), .val (.ref b1), .val (.int (md &&& (3 : Int32))), .val (.long s1), .second, .val (.int j), .val (.ref b3), .val (.ref r_5), .unset] [])) _
    refine XS.iload X5.here hx rfl (hb hby at_72) rfl ?_
    show Steps p.tables e below (T5.setTop (mkF m 74 #[.val (.long s1), .second, .val (.int i), .val (.long t), .second, .val (.int j), .val (.int md), .val (.ref b1), .val (.int (md &&& (3 : Int32))), .val (.long s1), .second, .val (.int j), .val (.ref b3), .val (.ref r_5), .unset] [(.int j)])) _
    refine XS.iloadN X5.here hx rfl (hb hby at_74) rfl ?_
    show Steps p.tables e below (T5.setTop (mkF m 75 #[.val (.long s1), .second, .val (.int i), .val (.long t), .second, .val (.int j), .val (.int md), .val (.ref b1), .val (.int (md &&& (3 : Int32))), .val (.long s1), .second, .val (.int j), .val (.ref b3), .val (.ref r_5), .unset] [(.int i), (.int j)])) _
    refine XS.icmpYes X5.here hx rfl (pc0 := 75) (pc' := 82) rfl (hb hby at_75) rfl (feq (hc75 : ¬ (j = i))).2 (by decide) (by decide) ?_
    show Steps p.tables e below (T5.setTop (mkF m 82 #[.val (.long s1), .second, .val (.int i), .val (.long t), .second, .val (.int j), .val (.int md), .val (.ref b1), .val (.int (md &&& (3 : Int32))), .val (.long s1), .second, .val (.int j), .val (.ref b3), .val (.ref r_5), .unset] [])) _
    refine XS.iconst X5.here hx rfl (hb hby at_82) ?_
    show Steps p.tables e below (T5.setTop (mkF m 83 #[.val (.long s1), .second, .val (.int i), .val (.long t), .second, .val (.int j), .val (.int md), .val (.ref b1), .val (.int (md &&& (3 : Int32))), .val (.long s1), .second, .val (.int j), .val (.ref b3), .val (.ref r_5), .unset] [(.int (0 : Int32))])) _
    refine XS.istore X5.here hx rfl (hb hby at_83) rfl (l' := #[.val (.long s1), .second, .val (.int i), .val (.long t), .second, .val (.int j), .val (.int md), .val (.ref b1), .val (.int (md &&& (3 : Int32))), .val (.long s1), .second, .val (.int j), .val (.ref b3), .val (.ref r_5), .val (.int (0 : Int32))]) rfl ?_
    show Steps p.tables e below (T5.setTop (mkF m 85 #[.val (.long s1), .second, .val (.int i), .val (.long t), .second, .val (.int j), .val (.int md), .val (.ref b1), .val (.int (md &&& (3 : Int32))), .val (.long s1), .second, .val (.int j), .val (.ref b3), .val (.ref r_5), .val (.int (0 : Int32))] [])) _
    refine XS.aload X5.here hx rfl (hb hby at_85) rfl rfl ?_
    show Steps p.tables e below (T5.setTop (mkF m 87 #[.val (.long s1), .second, .val (.int i), .val (.long t), .second, .val (.int j), .val (.int md), .val (.ref b1), .val (.int (md &&& (3 : Int32))), .val (.long s1), .second, .val (.int j), .val (.ref b3), .val (.ref r_5), .val (.int (0 : Int32))] [(.ref b1)])) _
    refine XS.aload X5.here hx rfl (hb hby at_87) rfl rfl ?_
    show Steps p.tables e below (T5.setTop (mkF m 89 #[.val (.long s1), .second, .val (.int i), .val (.long t), .second, .val (.int j), .val (.int md), .val (.ref b1), .val (.int (md &&& (3 : Int32))), .val (.long s1), .second, .val (.int j), .val (.ref b3), .val (.ref r_5), .val (.int (0 : Int32))] [(.ref b3), (.ref b1)])) _
    refine st8.trans ?_
    show Steps p.tables e below (T8.setTop (mkF m 92 #[.val (.long s1), .second, .val (.int i), .val (.long t), .second, .val (.int j), .val (.int md), .val (.ref b1), .val (.int (md &&& (3 : Int32))), .val (.long s1), .second, .val (.int j), .val (.ref b3), .val (.ref r_5), .val (.int (0 : Int32))] [(.int (eqV s1 i s1 j))])) _
    refine XS.iload X8.here hx rfl (hb hby at_92) rfl ?_
    show Steps p.tables e below (T8.setTop (mkF m 94 #[.val (.long s1), .second, .val (.int i), .val (.long t), .second, .val (.int j), .val (.int md), .val (.ref b1), .val (.int (md &&& (3 : Int32))), .val (.long s1), .second, .val (.int j), .val (.ref b3), .val (.ref r_5), .val (.int (0 : Int32))] [(.int (0 : Int32)), (.int (eqV s1 i s1 j))])) _
    refine XS.icmpYes X8.here hx rfl (pc0 := 94) (pc' := 99) rfl (hb hby at_94) rfl (teq ((eqV_n2 fun h => hc75 h.symm) : (eqV s1 i s1 j) = (0 : Int32))).1 (by decide) (by decide) ?_
    show Steps p.tables e below (T8.setTop (mkF m 99 #[.val (.long s1), .second, .val (.int i), .val (.long t), .second, .val (.int j), .val (.int md), .val (.ref b1), .val (.int (md &&& (3 : Int32))), .val (.long s1), .second, .val (.int j), .val (.ref b3), .val (.ref r_5), .val (.int (0 : Int32))] [])) _
    refine XS.aload X8.here hx rfl (hb hby at_99) rfl rfl ?_
    show Steps p.tables e below (T8.setTop (mkF m 101 #[.val (.long s1), .second, .val (.int i), .val (.long t), .second, .val (.int j), .val (.int md), .val (.ref b1), .val (.int (md &&& (3 : Int32))), .val (.long s1), .second, .val (.int j), .val (.ref b3), .val (.ref r_5), .val (.int (0 : Int32))] [(.ref b3)])) _
    refine XS.aload X8.here hx rfl (hb hby at_101) rfl rfl ?_
    show Steps p.tables e below (T8.setTop (mkF m 103 #[.val (.long s1), .second, .val (.int i), .val (.long t), .second, .val (.int j), .val (.int md), .val (.ref b1), .val (.int (md &&& (3 : Int32))), .val (.long s1), .second, .val (.int j), .val (.ref b3), .val (.ref r_5), .val (.int (0 : Int32))] [(.ref b1), (.ref b3)])) _
    refine st9.trans ?_
    show Steps p.tables e below (T9.setTop (mkF m 106 #[.val (.long s1), .second, .val (.int i), .val (.long t), .second, .val (.int j), .val (.int md), .val (.ref b1), .val (.int (md &&& (3 : Int32))), .val (.long s1), .second, .val (.int j), .val (.ref b3), .val (.ref r_5), .val (.int (0 : Int32))] [(.int (eqV s1 j s1 i))])) _
    refine XS.iload X9.here hx rfl (hb hby at_106) rfl ?_
    show Steps p.tables e below (T9.setTop (mkF m 108 #[.val (.long s1), .second, .val (.int i), .val (.long t), .second, .val (.int j), .val (.int md), .val (.ref b1), .val (.int (md &&& (3 : Int32))), .val (.long s1), .second, .val (.int j), .val (.ref b3), .val (.ref r_5), .val (.int (0 : Int32))] [(.int (0 : Int32)), (.int (eqV s1 j s1 i))])) _
    refine XS.icmpYes X9.here hx rfl (pc0 := 108) (pc' := 113) rfl (hb hby at_108) rfl (teq ((eqV_n2 hc75) : (eqV s1 j s1 i) = (0 : Int32))).1 (by decide) (by decide) ?_
    show Steps p.tables e below (T9.setTop (mkF m 113 #[.val (.long s1), .second, .val (.int i), .val (.long t), .second, .val (.int j), .val (.int md), .val (.ref b1), .val (.int (md &&& (3 : Int32))), .val (.long s1), .second, .val (.int j), .val (.ref b3), .val (.ref r_5), .val (.int (0 : Int32))] [])) _
    refine XS.aload X9.here hx rfl (hb hby at_113) rfl rfl ?_
    show Steps p.tables e below (T9.setTop (mkF m 115 #[.val (.long s1), .second, .val (.int i), .val (.long t), .second, .val (.int j), .val (.int md), .val (.ref b1), .val (.int (md &&& (3 : Int32))), .val (.long s1), .second, .val (.int j), .val (.ref b3), .val (.ref r_5), .val (.int (0 : Int32))] [(.ref b1)])) _
    refine XS.aload X9.here hx rfl (hb hby at_115) rfl rfl ?_
    show Steps p.tables e below (T9.setTop (mkF m 117 #[.val (.long s1), .second, .val (.int i), .val (.long t), .second, .val (.int j), .val (.int md), .val (.ref b1), .val (.int (md &&& (3 : Int32))), .val (.long s1), .second, .val (.int j), .val (.ref b3), .val (.ref r_5), .val (.int (0 : Int32))] [(.ref b1), (.ref b1)])) _
    refine st10.trans ?_
    show Steps p.tables e below (T10.setTop (mkF m 120 #[.val (.long s1), .second, .val (.int i), .val (.long t), .second, .val (.int j), .val (.int md), .val (.ref b1), .val (.int (md &&& (3 : Int32))), .val (.long s1), .second, .val (.int j), .val (.ref b3), .val (.ref r_5), .val (.int (0 : Int32))] [(.int (eqV s1 i s1 i))])) _
    refine XS.ifYes X10.here hx rfl (pc0 := 120) (pc' := 125) rfl (hb hby at_120) rfl ((if0 _ _).trans (feq ((by rw [eqV_y rfl rfl]; decide) : ¬ ((eqV s1 i s1 i) = (0 : Int32)))).2) (by decide) (by decide) ?_
    show Steps p.tables e below (T10.setTop (mkF m 125 #[.val (.long s1), .second, .val (.int i), .val (.long t), .second, .val (.int j), .val (.int md), .val (.ref b1), .val (.int (md &&& (3 : Int32))), .val (.long s1), .second, .val (.int j), .val (.ref b3), .val (.ref r_5), .val (.int (0 : Int32))] [])) _
    refine XS.aload X10.here hx rfl (hb hby at_125) rfl rfl ?_
    show Steps p.tables e below (T10.setTop (mkF m 127 #[.val (.long s1), .second, .val (.int i), .val (.long t), .second, .val (.int j), .val (.int md), .val (.ref b1), .val (.int (md &&& (3 : Int32))), .val (.long s1), .second, .val (.int j), .val (.ref b3), .val (.ref r_5), .val (.int (0 : Int32))] [(.ref b1)])) _
    refine XS.aconstNull X10.here hx rfl (hb hby at_127) ?_
    show Steps p.tables e below (T10.setTop (mkF m 128 #[.val (.long s1), .second, .val (.int i), .val (.long t), .second, .val (.int j), .val (.int md), .val (.ref b1), .val (.int (md &&& (3 : Int32))), .val (.long s1), .second, .val (.int j), .val (.ref b3), .val (.ref r_5), .val (.int (0 : Int32))] [.null, (.ref b1)])) _
    refine st11.trans ?_
    show Steps p.tables e below (T11.setTop (mkF m 131 #[.val (.long s1), .second, .val (.int i), .val (.long t), .second, .val (.int j), .val (.int md), .val (.ref b1), .val (.int (md &&& (3 : Int32))), .val (.long s1), .second, .val (.int j), .val (.ref b3), .val (.ref r_5), .val (.int (0 : Int32))] [(.int (0 : Int32))])) _
    refine XS.ifYes X11.here hx rfl (pc0 := 131) (pc' := 136) rfl (hb hby at_131) rfl ((if0 _ _).trans (teq (by decide : (0 : Int32) = (0 : Int32))).1) (by decide) (by decide) ?_
    show Steps p.tables e below (T11.setTop (mkF m 136 #[.val (.long s1), .second, .val (.int i), .val (.long t), .second, .val (.int j), .val (.int md), .val (.ref b1), .val (.int (md &&& (3 : Int32))), .val (.long s1), .second, .val (.int j), .val (.ref b3), .val (.ref r_5), .val (.int (0 : Int32))] [])) _
    refine XS.aload X11.here hx rfl (hb hby at_136) rfl rfl ?_
    show Steps p.tables e below (T11.setTop (mkF m 138 #[.val (.long s1), .second, .val (.int i), .val (.long t), .second, .val (.int j), .val (.int md), .val (.ref b1), .val (.int (md &&& (3 : Int32))), .val (.long s1), .second, .val (.int j), .val (.ref b3), .val (.ref r_5), .val (.int (0 : Int32))] [(.ref b1)])) _
    refine XS.aload X11.here hx rfl (hb hby at_138) rfl rfl ?_
    show Steps p.tables e below (T11.setTop (mkF m 140 #[.val (.long s1), .second, .val (.int i), .val (.long t), .second, .val (.int j), .val (.int md), .val (.ref b1), .val (.int (md &&& (3 : Int32))), .val (.long s1), .second, .val (.int j), .val (.ref b3), .val (.ref r_5), .val (.int (0 : Int32))] [(.ref r_5), (.ref b1)])) _
    refine st12.trans ?_
    show Steps p.tables e below (T12.setTop (mkF m 143 #[.val (.long s1), .second, .val (.int i), .val (.long t), .second, .val (.int j), .val (.int md), .val (.ref b1), .val (.int (md &&& (3 : Int32))), .val (.long s1), .second, .val (.int j), .val (.ref b3), .val (.ref r_5), .val (.int (0 : Int32))] [(.int (0 : Int32))])) _
    refine XS.ifYes X12.here hx rfl (pc0 := 143) (pc' := 148) rfl (hb hby at_143) rfl ((if0 _ _).trans (teq (by decide : (0 : Int32) = (0 : Int32))).1) (by decide) (by decide) ?_
    show Steps p.tables e below (T12.setTop (mkF m 148 #[.val (.long s1), .second, .val (.int i), .val (.long t), .second, .val (.int j), .val (.int md), .val (.ref b1), .val (.int (md &&& (3 : Int32))), .val (.long s1), .second, .val (.int j), .val (.ref b3), .val (.ref r_5), .val (.int (0 : Int32))] [])) _
    refine XS.iconst X12.here hx rfl (hb hby at_148) ?_
    show Steps p.tables e below (T12.setTop (mkF m 149 #[.val (.long s1), .second, .val (.int i), .val (.long t), .second, .val (.int j), .val (.int md), .val (.ref b1), .val (.int (md &&& (3 : Int32))), .val (.long s1), .second, .val (.int j), .val (.ref b3), .val (.ref r_5), .val (.int (0 : Int32))] [(.int (1 : Int32))])) _
    exact retN X12 hx (t := .boolean) Bd.returns (by simp) (hb hby at_149) hr
  · show Q_law Z s1 i t j md wc h0 n0 _ T12.heap _
    rw [kh12]
    exact ⟨rfl, N12⟩
set_option maxRecDepth 65536 in
set_option maxHeartbeats 40000000 in
theorem law_4 (l : Launch) (Z : State) (a0 : Array Value) (hw : ∀ d ∈ tables_1, d.before a0 Z = true) (ws : List Jvm.Cond) (s1 : Int64) (i : Int32) (t : Int64) (j : Int32) (md : Int32) (wc : Addr) (h0 : Heap) (n0 : Nat) (O0 : Old Z n0 h0) (G0 : Sta Z Z.heap "java/lang/Long$LongCache" "cache" "[Ljava/lang/Long;" (.ref wc)) (CA : Cache Z wc "java/lang/Long") (hc21 : ¬ (((md &&& (3 : Int32)) &&& (1 : Int32)) = (0 : Int32))) (hc35 : ((md &&& (3 : Int32)) &&& (2 : Int32)) = (0 : Int32)) (hc69 : (lcmpW t s1) = (0 : Int32)) :
    MetFree l x (head1 (Jvm.Cond.code x code maxLocals ret :: ws) room_1) (fun zA zU => zA = #[(.long s1), (.int i), (.long t), (.int j), (.int md)] ∧ Z.Warmed39 zU.vm ∧ zU.heap = h0) (fun _ _ _ _ _ => True) (fun _ zU zo zU' => ∃ zv zL, zo = .returned zv ∧ Q_law Z s1 i t j md wc h0 n0 zv zU'.heap zL ∧ FrameEnd zU zo zU' zL room_1.cells room_1.slots) := by
  refine MetFree.of_bodySF (plainFor_of_name pn_11) hisR ?_
  intro p e s m args below meth c s₁ Bd hml0 hP hK
  obtain ⟨rfl, hZ, hh⟩ := hP
  have hx := Bd.exec
  have hby := Bd.bytes
  have hml : c.maxLocals = 15 := hml0
  have hown : s.vm.findClass "com/example/maat/maat/TurnEqualsPinLaw" = some m.cls := findClass_of_methodNamed Bd.named
  have hnm := (name_of_methodNamed Bd.named Bd.method).1
  have X0 : Stand p l e room_1 s m #[(.long s1), (.int i), (.long t), (.int j), (.int md)] below meth c s₁ [] 0 0 := Stand.of_body Bd
  have e0 : s₁.heap = h0 := by rw [← hh, Bd.state]; rfl
  have N0 := Fr.nil n0
  have Z0 : n0 ≤ h0.size := O0.1 ▸ O0.2.1
  have pre0 : ∀ zt, Steps p.tables e below (s₁.setTop (mkF m 0 #[.val (.long s1), .second, .val (.int i), .val (.long t), .second, .val (.int j), .val (.int md), .unset, .unset, .unset, .unset, .unset, .unset, .unset, .unset] [])) zt → Steps p.tables e below (s₁.setTop (entryFrame m #[(.long s1), (.int i), (.long t), (.int j), (.int md)] maxLocals)) zt := fun zt zk => castTop (ef_0_JIJII m s1 i t j md) zk
  obtain ⟨T1, h1, X1, e1, E1, A1, D1, U1, st1⟩ := newO X0 hx hZ hown (hw _ (List.mem_of_getElem? (i := 0) rfl)) (hw _ (List.mem_of_getElem? (i := 1) rfl)) (hw _ (List.mem_of_getElem? (i := 2) rfl)) e0 (g := (mkF m 0 #[.val (.long s1), .second, .val (.int i), .val (.long t), .second, .val (.int j), .val (.int md), .unset, .unset, .unset, .unset, .unset, .unset, .unset, .unset] [])) rfl (hb hby at_0) (by decide) (by decide)
  obtain ⟨b1, gz1⟩ : ∃ z, z = h0.size := ⟨_, rfl⟩
  rw [← gz1] at A1 D1 U1 st1
  have sz_b1 : h0.size ≤ b1 := Nat.le_trans (Keep.refl h0 []).1 (Nat.le_of_eq gz1.symm)
  have g_b1 : n0 ≤ b1 := Nat.le_trans Z0 sz_b1
  have O1 := O0.ext E1
  have K1 : Keep h0 h1 [] := (Keep.refl h0 []).ext E1
  have Fi1_15 : Fld Z h1 b1 "com/example/maat/maat/Turn" "seq" "J" (.long (0 : Int64)) := D1 (Or.inr (hw _ (List.mem_of_getElem? (i := 15) rfl))) (ty := .long) (by decide)
  have Fi1_17 : Fld Z h1 b1 "com/example/maat/maat/Turn" "index" "I" (.int (0 : Int32)) := D1 (Or.inr (hw _ (List.mem_of_getElem? (i := 17) rfl))) (ty := .int) (by decide)
  obtain ⟨_, _, ⟨T2, L2, k2, n2⟩, -, X2, ⟨Lc2, hQ2, l2, y2, z2⟩, st2⟩ := X1.specialBack hx (y := (⟨"com/example/maat/maat/Turn", "<init>", "(JI)V"⟩ : MethodName)) rfl hown (mvT hZ (hw _ (List.mem_of_getElem? (i := 3) rfl))) (mvT hZ (hw _ (List.mem_of_getElem? (i := 4) rfl))) (mvT hZ (hw _ (List.mem_of_getElem? (i := 5) rfl))) (by decide) (backOf (W := 1) (turnI l Z a0 hw [] b1 s1 i h1 n0 O1 Fi1_15 Fi1_17 A1 g_b1) hZ (hw _ (List.mem_of_getElem? (i := 5) rfl)) (hw _ (List.mem_of_getElem? (i := 2) rfl)) (by decide) (by decide)) (g := (mkF m 6 #[.val (.long s1), .second, .val (.int i), .val (.long t), .second, .val (.int j), .val (.int md), .unset, .unset, .unset, .unset, .unset, .unset, .unset, .unset] [(.int i), (.long s1), (.ref b1), (.ref b1)])) rfl (by rw [hml]; rfl) (Steps.refl _) (a := b1) (argsL := [(.long s1), (.int i)]) (rest := [(.ref b1)]) (lenOf pd_2 rfl) rfl (by show 2 * 0 + _ ≤ _; exact Nat.le_of_eq rfl) (hb hby at_6) (fun _ _ => ⟨rfl, e1, (by decide : 1 + 0 ≤ _), (by decide : 2 + 0 ≤ _)⟩)
  dsimp only [Pt.U, Pt.locs, Pt.cells, Pt.slots] at X2 l2 y2 z2 st2 hQ2
  subst l2 y2 z2
  obtain ⟨rfl, Nq2, kh2, Po2_0, Po2_1, Po2_2⟩ := hQ2
  have N2 := Fr.app N0 Nq2
  have O2 := O1.keep kh2 (allS g_b1 all0)
  have K2 : Keep h0 T2.heap [] := K1.trans kh2 (allS (Or.inr sz_b1) all0)
  obtain ⟨T3, h3, X3, e3, E3, A3, D3, U3, st3⟩ := newO X2 hx hZ hown (hw _ (List.mem_of_getElem? (i := 0) rfl)) (hw _ (List.mem_of_getElem? (i := 1) rfl)) (hw _ (List.mem_of_getElem? (i := 2) rfl)) rfl (g := (mkF m 46 #[.val (.long s1), .second, .val (.int i), .val (.long t), .second, .val (.int j), .val (.int md), .val (.ref b1), .val (.int (md &&& (3 : Int32))), .val (.long t), .second, .val (.int i), .unset, .unset, .unset] [])) rfl (hb hby at_46) (by decide) (by decide)
  obtain ⟨b3, gz3⟩ : ∃ z, z = T2.heap.size := ⟨_, rfl⟩
  rw [← gz3] at A3 D3 U3 st3
  have sz_b3 : h0.size ≤ b3 := Nat.le_trans K2.1 (Nat.le_of_eq gz3.symm)
  have g_b3 : n0 ≤ b3 := Nat.le_trans Z0 sz_b3
  have O3 := O2.ext E3
  have K3 : Keep h0 h3 [] := K2.ext E3
  have Fi3_15 : Fld Z h3 b3 "com/example/maat/maat/Turn" "seq" "J" (.long (0 : Int64)) := D3 (Or.inr (hw _ (List.mem_of_getElem? (i := 15) rfl))) (ty := .long) (by decide)
  have Fi3_17 : Fld Z h3 b3 "com/example/maat/maat/Turn" "index" "I" (.int (0 : Int32)) := D3 (Or.inr (hw _ (List.mem_of_getElem? (i := 17) rfl))) (ty := .int) (by decide)
  obtain ⟨_, _, ⟨T4, L4, k4, n4⟩, -, X4, ⟨Lc4, hQ4, l4, y4, z4⟩, st4⟩ := X3.specialBack hx (y := (⟨"com/example/maat/maat/Turn", "<init>", "(JI)V"⟩ : MethodName)) rfl hown (mvT hZ (hw _ (List.mem_of_getElem? (i := 3) rfl))) (mvT hZ (hw _ (List.mem_of_getElem? (i := 4) rfl))) (mvT hZ (hw _ (List.mem_of_getElem? (i := 5) rfl))) (by decide) (backOf (W := 1) (turnI l Z a0 hw [] b3 t i h3 n0 O3 Fi3_15 Fi3_17 A3 g_b3) hZ (hw _ (List.mem_of_getElem? (i := 5) rfl)) (hw _ (List.mem_of_getElem? (i := 2) rfl)) (by decide) (by decide)) (g := (mkF m 54 #[.val (.long s1), .second, .val (.int i), .val (.long t), .second, .val (.int j), .val (.int md), .val (.ref b1), .val (.int (md &&& (3 : Int32))), .val (.long t), .second, .val (.int i), .unset, .unset, .unset] [(.int i), (.long t), (.ref b3), (.ref b3)])) rfl (by rw [hml]; rfl) (Steps.refl _) (a := b3) (argsL := [(.long t), (.int i)]) (rest := [(.ref b3)]) (lenOf pd_2 rfl) rfl (by show 2 * 0 + _ ≤ _; exact Nat.le_of_eq rfl) (hb hby at_54) (fun _ _ => ⟨rfl, e3, (by decide : 2 + 0 ≤ _), (by decide : 4 + 0 ≤ _)⟩)
  dsimp only [Pt.U, Pt.locs, Pt.cells, Pt.slots] at X4 l4 y4 z4 st4 hQ4
  subst l4 y4 z4
  obtain ⟨rfl, Nq4, kh4, Po4_0, Po4_1, Po4_2⟩ := hQ4
  have N4 := Fr.app N2 Nq4
  have O4 := O3.keep kh4 (allS g_b3 all0)
  have K4 : Keep h0 T4.heap [] := K3.trans kh4 (allS (Or.inr sz_b3) all0)
  obtain ⟨_, _, ⟨T5, L5, k5, n5⟩, -, X5, ⟨Lc5, hQ5, l5, y5, z5⟩, st5⟩ := Jvm.LawKit.callS X4 hx (y := (⟨"java/lang/Long", "valueOf", "(J)Ljava/lang/Long;"⟩ : MethodName)) hown (mvT hZ (hw _ (List.mem_of_getElem? (i := 18) rfl))) (mvT hZ (hw _ (List.mem_of_getElem? (i := 19) rfl))) (mvT hZ (hw _ (List.mem_of_getElem? (i := 20) rfl))) (mvT hZ (hw _ (List.mem_of_getElem? (i := 21) rfl))) (by decide) (backOf (W := 0) (valueOf l Z a0 hw [] s1 wc T4.heap n0 O4 G0 CA) hZ (hw _ (List.mem_of_getElem? (i := 21) rfl)) (hw _ (List.mem_of_getElem? (i := 20) rfl)) (by decide) (by decide)) (g := (mkF m 60 #[.val (.long s1), .second, .val (.int i), .val (.long t), .second, .val (.int j), .val (.int md), .val (.ref b1), .val (.int (md &&& (3 : Int32))), .val (.long t), .second, .val (.int i), .val (.ref b3), .unset, .unset] [(.long s1)])) rfl (by rw [hml]; rfl) (argsL := [(.long s1)]) (rest := []) (lenOf pd_3 rfl) rfl (by show 2 * 0 + _ ≤ _; exact Nat.le_of_eq rfl) (hb hby at_60) (fun _ _ => ⟨rfl, rfl, (by decide : 2 + 1 ≤ _), (by decide : 4 + 1 ≤ _)⟩)
  dsimp only [Pt.U, Pt.locs, Pt.cells, Pt.slots] at X5 l5 y5 z5 st5 hQ5
  subst l5 y5 z5
  obtain ⟨r_5, rfl, Nq5, kh5, Po5_0⟩ := hQ5
  have N5 := Fr.app N4 Nq5
  have O5 := O4.keep kh5 all0
  have K5 : Keep h0 T5.heap [] := K4.trans kh5 all0
  have c6 : Fld Z T5.heap b1 "com/example/maat/maat/Turn" "seq" "J" (.long s1) := (((Po2_1.ext E3).keep kh4 (ninS (Nat.ne_of_lt (Nat.lt_of_lt_of_le (Po2_0).lt (Nat.le_of_eq gz3.symm))) nin0)).keep kh5 nin0)
  have c7 : Fld Z T5.heap b1 "com/example/maat/maat/Turn" "index" "I" (.int i) := (((Po2_2.ext E3).keep kh4 (ninS (Nat.ne_of_lt (Nat.lt_of_lt_of_le (Po2_0).lt (Nat.le_of_eq gz3.symm))) nin0)).keep kh5 nin0)
  obtain ⟨cq8, kq8, q8a, q8b, q8c⟩ := isOf hZ rfl (((Po2_0.ext E3).keep kh4).keep kh5)
  obtain ⟨_, _, ⟨T8, L8, k8, n8⟩, -, X8, ⟨Lc8, hQ8, l8, y8, z8⟩, st8⟩ := X5.virtualBack hx (y := (⟨"com/example/maat/maat/Turn", "equals", "(Ljava/lang/Object;)Z"⟩ : MethodName)) (z := (⟨"com/example/maat/maat/Turn", "equals", "(Ljava/lang/Object;)Z"⟩ : MethodName)) hown (mvT hZ (hw _ (List.mem_of_getElem? (i := 26) rfl))) (mvT hZ (hw _ (List.mem_of_getElem? (i := 27) rfl))) (notFace_of_selects (args := #[]) (mvT hZ (hw _ (List.mem_of_getElem? (i := 29) rfl)))) (mvT hZ (hw _ (List.mem_of_getElem? (i := 29) rfl))) (mvT hZ (hw _ (List.mem_of_getElem? (i := 28) rfl))) (by decide) (backOf (W := 0) (eqT l Z a0 hw [] b1 b3 s1 i t i T5.heap n0 O5 c6 c7 (Po4_1.keep kh5 nin0) (Po4_2.keep kh5 nin0) (Po4_0.keep kh5)) hZ (hw _ (List.mem_of_getElem? (i := 30) rfl)) (hw _ (List.mem_of_getElem? (i := 2) rfl)) (by decide) (by decide)) q8a q8c (g := (mkF m 89 #[.val (.long s1), .second, .val (.int i), .val (.long t), .second, .val (.int j), .val (.int md), .val (.ref b1), .val (.int (md &&& (3 : Int32))), .val (.long t), .second, .val (.int i), .val (.ref b3), .val (.ref r_5), .val (.int (1 : Int32))] [(.ref b3), (.ref b1)])) rfl (by rw [hml]; rfl) (Steps.refl _) (argsL := [(.ref b3)]) (rest := []) (lenOf pd_4 rfl) rfl (by show 2 * 0 + _ ≤ _; exact Nat.le_of_eq rfl) (hb hby at_89) (fun _ _ => ⟨rfl, rfl, (by decide : 3 + 0 ≤ _), (by decide : 5 + 0 ≤ _)⟩)
  dsimp only [Pt.U, Pt.locs, Pt.cells, Pt.slots] at X8 l8 y8 z8 st8 hQ8
  subst l8 y8 z8
  obtain ⟨rfl, Nq8, kh8⟩ := hQ8
  have N8 := Fr.app N5 Nq8
  obtain ⟨cq9, kq9, q9a, q9b, q9c⟩ := isOf hZ kh8 (Po4_0.keep kh5)
  obtain ⟨_, _, ⟨T9, L9, k9, n9⟩, -, X9, ⟨Lc9, hQ9, l9, y9, z9⟩, st9⟩ := X8.virtualBack hx (y := (⟨"com/example/maat/maat/Turn", "equals", "(Ljava/lang/Object;)Z"⟩ : MethodName)) (z := (⟨"com/example/maat/maat/Turn", "equals", "(Ljava/lang/Object;)Z"⟩ : MethodName)) hown (mvT hZ (hw _ (List.mem_of_getElem? (i := 26) rfl))) (mvT hZ (hw _ (List.mem_of_getElem? (i := 27) rfl))) (notFace_of_selects (args := #[]) (mvT hZ (hw _ (List.mem_of_getElem? (i := 29) rfl)))) (mvT hZ (hw _ (List.mem_of_getElem? (i := 29) rfl))) (mvT hZ (hw _ (List.mem_of_getElem? (i := 28) rfl))) (by decide) (backOf (W := 0) (eqT l Z a0 hw [] b3 b1 t i s1 i T5.heap n0 O5 (Po4_1.keep kh5 nin0) (Po4_2.keep kh5 nin0) c6 c7 (((Po2_0.ext E3).keep kh4).keep kh5)) hZ (hw _ (List.mem_of_getElem? (i := 30) rfl)) (hw _ (List.mem_of_getElem? (i := 2) rfl)) (by decide) (by decide)) q9a q9c (g := (mkF m 103 #[.val (.long s1), .second, .val (.int i), .val (.long t), .second, .val (.int j), .val (.int md), .val (.ref b1), .val (.int (md &&& (3 : Int32))), .val (.long t), .second, .val (.int i), .val (.ref b3), .val (.ref r_5), .val (.int (1 : Int32))] [(.ref b1), (.ref b3)])) rfl (by rw [hml]; rfl) (Steps.refl _) (argsL := [(.ref b1)]) (rest := []) (lenOf pd_4 rfl) rfl (by show 2 * 0 + _ ≤ _; exact Nat.le_of_eq rfl) (hb hby at_103) (fun _ _ => ⟨rfl, kh8, (by decide : 3 + 0 ≤ _), (by decide : 5 + 0 ≤ _)⟩)
  dsimp only [Pt.U, Pt.locs, Pt.cells, Pt.slots] at X9 l9 y9 z9 st9 hQ9
  subst l9 y9 z9
  obtain ⟨rfl, Nq9, kh9⟩ := hQ9
  have N9 := Fr.app N8 Nq9
  obtain ⟨cq10, kq10, q10a, q10b, q10c⟩ := isOf hZ kh9 (((Po2_0.ext E3).keep kh4).keep kh5)
  obtain ⟨_, _, ⟨T10, L10, k10, n10⟩, -, X10, ⟨Lc10, hQ10, l10, y10, z10⟩, st10⟩ := X9.virtualBack hx (y := (⟨"com/example/maat/maat/Turn", "equals", "(Ljava/lang/Object;)Z"⟩ : MethodName)) (z := (⟨"com/example/maat/maat/Turn", "equals", "(Ljava/lang/Object;)Z"⟩ : MethodName)) hown (mvT hZ (hw _ (List.mem_of_getElem? (i := 26) rfl))) (mvT hZ (hw _ (List.mem_of_getElem? (i := 27) rfl))) (notFace_of_selects (args := #[]) (mvT hZ (hw _ (List.mem_of_getElem? (i := 29) rfl)))) (mvT hZ (hw _ (List.mem_of_getElem? (i := 29) rfl))) (mvT hZ (hw _ (List.mem_of_getElem? (i := 28) rfl))) (by decide) (backOf (W := 0) (eqT l Z a0 hw [] b1 b1 s1 i s1 i T5.heap n0 O5 c6 c7 c6 c7 (((Po2_0.ext E3).keep kh4).keep kh5)) hZ (hw _ (List.mem_of_getElem? (i := 30) rfl)) (hw _ (List.mem_of_getElem? (i := 2) rfl)) (by decide) (by decide)) q10a q10c (g := (mkF m 117 #[.val (.long s1), .second, .val (.int i), .val (.long t), .second, .val (.int j), .val (.int md), .val (.ref b1), .val (.int (md &&& (3 : Int32))), .val (.long t), .second, .val (.int i), .val (.ref b3), .val (.ref r_5), .val (.int (1 : Int32))] [(.ref b1), (.ref b1)])) rfl (by rw [hml]; rfl) (Steps.refl _) (argsL := [(.ref b1)]) (rest := []) (lenOf pd_4 rfl) rfl (by show 2 * 0 + _ ≤ _; exact Nat.le_of_eq rfl) (hb hby at_117) (fun _ _ => ⟨rfl, kh9, (by decide : 3 + 0 ≤ _), (by decide : 5 + 0 ≤ _)⟩)
  dsimp only [Pt.U, Pt.locs, Pt.cells, Pt.slots] at X10 l10 y10 z10 st10 hQ10
  subst l10 y10 z10
  obtain ⟨rfl, Nq10, kh10⟩ := hQ10
  have N10 := Fr.app N9 Nq10
  obtain ⟨cq11, kq11, q11a, q11b, q11c⟩ := isOf hZ kh10 (((Po2_0.ext E3).keep kh4).keep kh5)
  obtain ⟨_, _, ⟨T11, L11, k11, n11⟩, -, X11, ⟨Lc11, hQ11, l11, y11, z11⟩, st11⟩ := X10.virtualBack hx (y := (⟨"com/example/maat/maat/Turn", "equals", "(Ljava/lang/Object;)Z"⟩ : MethodName)) (z := (⟨"com/example/maat/maat/Turn", "equals", "(Ljava/lang/Object;)Z"⟩ : MethodName)) hown (mvT hZ (hw _ (List.mem_of_getElem? (i := 26) rfl))) (mvT hZ (hw _ (List.mem_of_getElem? (i := 27) rfl))) (notFace_of_selects (args := #[]) (mvT hZ (hw _ (List.mem_of_getElem? (i := 29) rfl)))) (mvT hZ (hw _ (List.mem_of_getElem? (i := 29) rfl))) (mvT hZ (hw _ (List.mem_of_getElem? (i := 28) rfl))) (by decide) (backOf (W := 0) (eqN l Z a0 hw [] b1 T5.heap n0 O5 ) hZ (hw _ (List.mem_of_getElem? (i := 30) rfl)) (hw _ (List.mem_of_getElem? (i := 2) rfl)) (by decide) (by decide)) q11a q11c (g := (mkF m 128 #[.val (.long s1), .second, .val (.int i), .val (.long t), .second, .val (.int j), .val (.int md), .val (.ref b1), .val (.int (md &&& (3 : Int32))), .val (.long t), .second, .val (.int i), .val (.ref b3), .val (.ref r_5), .val (.int (1 : Int32))] [.null, (.ref b1)])) rfl (by rw [hml]; rfl) (Steps.refl _) (argsL := [.null]) (rest := []) (lenOf pd_4 rfl) rfl (by show 2 * 0 + _ ≤ _; exact Nat.le_of_eq rfl) (hb hby at_128) (fun _ _ => ⟨rfl, kh10, (by decide : 3 + 0 ≤ _), (by decide : 5 + 0 ≤ _)⟩)
  dsimp only [Pt.U, Pt.locs, Pt.cells, Pt.slots] at X11 l11 y11 z11 st11 hQ11
  subst l11 y11 z11
  obtain ⟨rfl, Nq11, kh11⟩ := hQ11
  have N11 := Fr.app N10 Nq11
  obtain ⟨cq12, kq12, q12a, q12b, q12c⟩ := isOf hZ kh11 (((Po2_0.ext E3).keep kh4).keep kh5)
  obtain ⟨_, _, ⟨T12, L12, k12, n12⟩, -, X12, ⟨Lc12, hQ12, l12, y12, z12⟩, st12⟩ := X11.virtualBack hx (y := (⟨"com/example/maat/maat/Turn", "equals", "(Ljava/lang/Object;)Z"⟩ : MethodName)) (z := (⟨"com/example/maat/maat/Turn", "equals", "(Ljava/lang/Object;)Z"⟩ : MethodName)) hown (mvT hZ (hw _ (List.mem_of_getElem? (i := 26) rfl))) (mvT hZ (hw _ (List.mem_of_getElem? (i := 27) rfl))) (notFace_of_selects (args := #[]) (mvT hZ (hw _ (List.mem_of_getElem? (i := 29) rfl)))) (mvT hZ (hw _ (List.mem_of_getElem? (i := 29) rfl))) (mvT hZ (hw _ (List.mem_of_getElem? (i := 28) rfl))) (by decide) (backOf (W := 0) (eqL l Z a0 hw [] b1 r_5 T5.heap n0 O5 Po5_0) hZ (hw _ (List.mem_of_getElem? (i := 30) rfl)) (hw _ (List.mem_of_getElem? (i := 2) rfl)) (by decide) (by decide)) q12a q12c (g := (mkF m 140 #[.val (.long s1), .second, .val (.int i), .val (.long t), .second, .val (.int j), .val (.int md), .val (.ref b1), .val (.int (md &&& (3 : Int32))), .val (.long t), .second, .val (.int i), .val (.ref b3), .val (.ref r_5), .val (.int (1 : Int32))] [(.ref r_5), (.ref b1)])) rfl (by rw [hml]; rfl) (Steps.refl _) (argsL := [(.ref r_5)]) (rest := []) (lenOf pd_4 rfl) rfl (by show 2 * 0 + _ ≤ _; exact Nat.le_of_eq rfl) (hb hby at_140) (fun _ _ => ⟨rfl, kh11, (by decide : 3 + 0 ≤ _), (by decide : 5 + 0 ≤ _)⟩)
  dsimp only [Pt.U, Pt.locs, Pt.cells, Pt.slots] at X12 l12 y12 z12 st12 hQ12
  subst l12 y12 z12
  obtain ⟨rfl, Nq12, kh12⟩ := hQ12
  have N12 := Fr.app N11 Nq12
  obtain ⟨fs, hr, hrun, hended, hW, hsame⟩ := X12.leave (v := some (.int (1 : Int32))) (fun h => by rw [Bd.returns] at h; cases h)
  refine ⟨_, _, pre0 _ ?_, hrun, hended, _, _, rfl, ?_, ⟨_, rfl⟩, hW, hsame.mono (by decide) (by decide)⟩
  · show Steps p.tables e below (s₁.setTop (mkF m 0 #[.val (.long s1), .second, .val (.int i), .val (.long t), .second, .val (.int j), .val (.int md), .unset, .unset, .unset, .unset, .unset, .unset, .unset, .unset] [])) _
    refine st1 _ ?_
    show Steps p.tables e below (T1.setTop (mkF m 3 #[.val (.long s1), .second, .val (.int i), .val (.long t), .second, .val (.int j), .val (.int md), .unset, .unset, .unset, .unset, .unset, .unset, .unset, .unset] [(.ref b1)])) _
    refine XS.dup X1.here hx rfl (hb hby at_3) rfl rfl ?_
    show Steps p.tables e below (T1.setTop (mkF m 4 #[.val (.long s1), .second, .val (.int i), .val (.long t), .second, .val (.int j), .val (.int md), .unset, .unset, .unset, .unset, .unset, .unset, .unset, .unset] [(.ref b1), (.ref b1)])) _
    refine XS.lloadN X1.here hx rfl (hb hby at_4) rfl ?_
    show Steps p.tables e below (T1.setTop (mkF m 5 #[.val (.long s1), .second, .val (.int i), .val (.long t), .second, .val (.int j), .val (.int md), .unset, .unset, .unset, .unset, .unset, .unset, .unset, .unset] [(.long s1), (.ref b1), (.ref b1)])) _
    refine XS.iloadN X1.here hx rfl (hb hby at_5) rfl ?_
    show Steps p.tables e below (T1.setTop (mkF m 6 #[.val (.long s1), .second, .val (.int i), .val (.long t), .second, .val (.int j), .val (.int md), .unset, .unset, .unset, .unset, .unset, .unset, .unset, .unset] [(.int i), (.long s1), (.ref b1), (.ref b1)])) _
    refine st2.trans ?_
    show Steps p.tables e below (T2.setTop (mkF m 9 #[.val (.long s1), .second, .val (.int i), .val (.long t), .second, .val (.int j), .val (.int md), .unset, .unset, .unset, .unset, .unset, .unset, .unset, .unset] [(.ref b1)])) _
    refine XS.astore X2.here hx rfl (hb hby at_9) rfl rfl (l' := #[.val (.long s1), .second, .val (.int i), .val (.long t), .second, .val (.int j), .val (.int md), .val (.ref b1), .unset, .unset, .unset, .unset, .unset, .unset, .unset]) rfl ?_
    show Steps p.tables e below (T2.setTop (mkF m 11 #[.val (.long s1), .second, .val (.int i), .val (.long t), .second, .val (.int j), .val (.int md), .val (.ref b1), .unset, .unset, .unset, .unset, .unset, .unset, .unset] [])) _
    refine XS.iload X2.here hx rfl (hb hby at_11) rfl ?_
    show Steps p.tables e below (T2.setTop (mkF m 13 #[.val (.long s1), .second, .val (.int i), .val (.long t), .second, .val (.int j), .val (.int md), .val (.ref b1), .unset, .unset, .unset, .unset, .unset, .unset, .unset] [(.int md)])) _
    refine XS.iconst X2.here hx rfl (hb hby at_13) ?_
    show Steps p.tables e below (T2.setTop (mkF m 14 #[.val (.long s1), .second, .val (.int i), .val (.long t), .second, .val (.int j), .val (.int md), .val (.ref b1), .unset, .unset, .unset, .unset, .unset, .unset, .unset] [(.int (3 : Int32)), (.int md)])) _
    refine XS.iand X2.here hx rfl (hb hby at_14) rfl ?_
    show Steps p.tables e below (T2.setTop (mkF m 15 #[.val (.long s1), .second, .val (.int i), .val (.long t), .second, .val (.int j), .val (.int md), .val (.ref b1), .unset, .unset, .unset, .unset, .unset, .unset, .unset] [(.int (md &&& (3 : Int32)))])) _
    refine XS.istore X2.here hx rfl (hb hby at_15) rfl (l' := #[.val (.long s1), .second, .val (.int i), .val (.long t), .second, .val (.int j), .val (.int md), .val (.ref b1), .val (.int (md &&& (3 : Int32))), .unset, .unset, .unset, .unset, .unset, .unset]) rfl ?_
    show Steps p.tables e below (T2.setTop (mkF m 17 #[.val (.long s1), .second, .val (.int i), .val (.long t), .second, .val (.int j), .val (.int md), .val (.ref b1), .val (.int (md &&& (3 : Int32))), .unset, .unset, .unset, .unset, .unset, .unset] [])) _
    refine XS.iload X2.here hx rfl (hb hby at_17) rfl ?_
    show Steps p.tables e below (T2.setTop (mkF m 19 #[.val (.long s1), .second, .val (.int i), .val (.long t), .second, .val (.int j), .val (.int md), .val (.ref b1), .val (.int (md &&& (3 : Int32))), .unset, .unset, .unset, .unset, .unset, .unset] [(.int (md &&& (3 : Int32)))])) _
    refine XS.iconst X2.here hx rfl (hb hby at_19) ?_
    show Steps p.tables e below (T2.setTop (mkF m 20 #[.val (.long s1), .second, .val (.int i), .val (.long t), .second, .val (.int j), .val (.int md), .val (.ref b1), .val (.int (md &&& (3 : Int32))), .unset, .unset, .unset, .unset, .unset, .unset] [(.int (1 : Int32)), (.int (md &&& (3 : Int32)))])) _
    refine XS.iand X2.here hx rfl (hb hby at_20) rfl ?_
    show Steps p.tables e below (T2.setTop (mkF m 21 #[.val (.long s1), .second, .val (.int i), .val (.long t), .second, .val (.int j), .val (.int md), .val (.ref b1), .val (.int (md &&& (3 : Int32))), .unset, .unset, .unset, .unset, .unset, .unset] [(.int ((md &&& (3 : Int32)) &&& (1 : Int32)))])) _
    refine XS.ifNo X2.here hx rfl (hb hby at_21) rfl ((if0 _ _).trans (feq (hc21 : ¬ (((md &&& (3 : Int32)) &&& (1 : Int32)) = (0 : Int32)))).1) ?_
    show Steps p.tables e below (T2.setTop (mkF m 24 #[.val (.long s1), .second, .val (.int i), .val (.long t), .second, .val (.int j), .val (.int md), .val (.ref b1), .val (.int (md &&& (3 : Int32))), .unset, .unset, .unset, .unset, .unset, .unset] [])) _
    refine XS.lloadN X2.here hx rfl (hb hby at_24) rfl ?_
    show Steps p.tables e below (T2.setTop (mkF m 25 #[.val (.long s1), .second, .val (.int i), .val (.long t), .second, .val (.int j), .val (.int md), .val (.ref b1), .val (.int (md &&& (3 : Int32))), .unset, .unset, .unset, .unset, .unset, .unset] [(.long t)])) _
    refine XS.goto X2.here hx rfl (pc0 := 25) (pc' := 29) rfl (hb hby at_25) (by decide) (by decide) ?_
    show Steps p.tables e below (T2.setTop (mkF m 29 #[.val (.long s1), .second, .val (.int i), .val (.long t), .second, .val (.int j), .val (.int md), .val (.ref b1), .val (.int (md &&& (3 : Int32))), .unset, .unset, .unset, .unset, .unset, .unset] [(.long t)])) _
    refine XS.lstore X2.here hx rfl (hb hby at_29) rfl (l' := #[.val (.long s1), .second, .val (.int i), .val (.long t), .second, .val (.int j), .val (.int md), .val (.ref b1), .val (.int (md &&& (3 : Int32))), .val (.long t), .second, .unset, .unset, .unset, .unset]) rfl ?_
    show Steps p.tables e below (T2.setTop (mkF m 31 #[.val (.long s1), .second, .val (.int i), .val (.long t), .second, .val (.int j), .val (.int md), .val (.ref b1), .val (.int (md &&& (3 : Int32))), .val (.long t), .second, .unset, .unset, .unset, .unset] [])) _
    refine XS.iload X2.here hx rfl (hb hby at_31) rfl ?_
    show Steps p.tables e below (T2.setTop (mkF m 33 #[.val (.long s1), .second, .val (.int i), .val (.long t), .second, .val (.int j), .val (.int md), .val (.ref b1), .val (.int (md &&& (3 : Int32))), .val (.long t), .second, .unset, .unset, .unset, .unset] [(.int (md &&& (3 : Int32)))])) _
    refine XS.iconst X2.here hx rfl (hb hby at_33) ?_
    show Steps p.tables e below (T2.setTop (mkF m 34 #[.val (.long s1), .second, .val (.int i), .val (.long t), .second, .val (.int j), .val (.int md), .val (.ref b1), .val (.int (md &&& (3 : Int32))), .val (.long t), .second, .unset, .unset, .unset, .unset] [(.int (2 : Int32)), (.int (md &&& (3 : Int32)))])) _
    refine XS.iand X2.here hx rfl (hb hby at_34) rfl ?_
    show Steps p.tables e below (T2.setTop (mkF m 35 #[.val (.long s1), .second, .val (.int i), .val (.long t), .second, .val (.int j), .val (.int md), .val (.ref b1), .val (.int (md &&& (3 : Int32))), .val (.long t), .second, .unset, .unset, .unset, .unset] [(.int ((md &&& (3 : Int32)) &&& (2 : Int32)))])) _
    refine XS.ifYes X2.here hx rfl (pc0 := 35) (pc' := 43) rfl (hb hby at_35) rfl ((if0 _ _).trans (teq (hc35 : ((md &&& (3 : Int32)) &&& (2 : Int32)) = (0 : Int32))).1) (by decide) (by decide) ?_
    show Steps p.tables e below (T2.setTop (mkF m 43 #[.val (.long s1), .second, .val (.int i), .val (.long t), .second, .val (.int j), .val (.int md), .val (.ref b1), .val (.int (md &&& (3 : Int32))), .val (.long t), .second, .unset, .unset, .unset, .unset] [])) _
    refine XS.iloadN X2.here hx rfl (hb hby at_43) rfl ?_
    show Steps p.tables e below (T2.setTop (mkF m 44 #[.val (.long s1), .second, .val (.int i), .val (.long t), .second, .val (.int j), .val (.int md), .val (.ref b1), .val (.int (md &&& (3 : Int32))), .val (.long t), .second, .unset, .unset, .unset, .unset] [(.int i)])) _
    refine XS.istore X2.here hx rfl (hb hby at_44) rfl (l' := #[.val (.long s1), .second, .val (.int i), .val (.long t), .second, .val (.int j), .val (.int md), .val (.ref b1), .val (.int (md &&& (3 : Int32))), .val (.long t), .second, .val (.int i), .unset, .unset, .unset]) rfl ?_
    show Steps p.tables e below (T2.setTop (mkF m 46 #[.val (.long s1), .second, .val (.int i), .val (.long t), .second, .val (.int j), .val (.int md), .val (.ref b1), .val (.int (md &&& (3 : Int32))), .val (.long t), .second, .val (.int i), .unset, .unset, .unset] [])) _
    refine st3 _ ?_
    show Steps p.tables e below (T3.setTop (mkF m 49 #[.val (.long s1), .second, .val (.int i), .val (.long t), .second, .val (.int j), .val (.int md), .val (.ref b1), .val (.int (md &&& (3 : Int32))), .val (.long t), .second, .val (.int i), .unset, .unset, .unset] [(.ref b3)])) _
    refine XS.dup X3.here hx rfl (hb hby at_49) rfl rfl ?_
    show Steps p.tables e below (T3.setTop (mkF m 50 #[.val (.long s1), .second, .val (.int i), .val (.long t), .second, .val (.int j), .val (.int md), .val (.ref b1), .val (.int (md &&& (3 : Int32))), .val (.long t), .second, .val (.int i), .unset, .unset, .unset] [(.ref b3), (.ref b3)])) _
    refine XS.lload X3.here hx rfl (hb hby at_50) rfl ?_
    show Steps p.tables e below (T3.setTop (mkF m 52 #[.val (.long s1), .second, .val (.int i), .val (.long t), .second, .val (.int j), .val (.int md), .val (.ref b1), .val (.int (md &&& (3 : Int32))), .val (.long t), .second, .val (.int i), .unset, .unset, .unset] [(.long t), (.ref b3), (.ref b3)])) _
    refine XS.iload X3.here hx rfl (hb hby at_52) rfl ?_
    show Steps p.tables e below (T3.setTop (mkF m 54 #[.val (.long s1), .second, .val (.int i), .val (.long t), .second, .val (.int j), .val (.int md), .val (.ref b1), .val (.int (md &&& (3 : Int32))), .val (.long t), .second, .val (.int i), .unset, .unset, .unset] [(.int i), (.long t), (.ref b3), (.ref b3)])) _
    refine st4.trans ?_
    show Steps p.tables e below (T4.setTop (mkF m 57 #[.val (.long s1), .second, .val (.int i), .val (.long t), .second, .val (.int j), .val (.int md), .val (.ref b1), .val (.int (md &&& (3 : Int32))), .val (.long t), .second, .val (.int i), .unset, .unset, .unset] [(.ref b3)])) _
    refine XS.astore X4.here hx rfl (hb hby at_57) rfl rfl (l' := #[.val (.long s1), .second, .val (.int i), .val (.long t), .second, .val (.int j), .val (.int md), .val (.ref b1), .val (.int (md &&& (3 : Int32))), .val (.long t), .second, .val (.int i), .val (.ref b3), .unset, .unset]) rfl ?_
    show Steps p.tables e below (T4.setTop (mkF m 59 #[.val (.long s1), .second, .val (.int i), .val (.long t), .second, .val (.int j), .val (.int md), .val (.ref b1), .val (.int (md &&& (3 : Int32))), .val (.long t), .second, .val (.int i), .val (.ref b3), .unset, .unset] [])) _
    refine XS.lloadN X4.here hx rfl (hb hby at_59) rfl ?_
    show Steps p.tables e below (T4.setTop (mkF m 60 #[.val (.long s1), .second, .val (.int i), .val (.long t), .second, .val (.int j), .val (.int md), .val (.ref b1), .val (.int (md &&& (3 : Int32))), .val (.long t), .second, .val (.int i), .val (.ref b3), .unset, .unset] [(.long s1)])) _
    refine st5 _ ?_
    show Steps p.tables e below (T5.setTop (mkF m 63 #[.val (.long s1), .second, .val (.int i), .val (.long t), .second, .val (.int j), .val (.int md), .val (.ref b1), .val (.int (md &&& (3 : Int32))), .val (.long t), .second, .val (.int i), .val (.ref b3), .unset, .unset] [(.ref r_5)])) _
    refine XS.astore X5.here hx rfl (hb hby at_63) rfl rfl (l' := #[.val (.long s1), .second, .val (.int i), .val (.long t), .second, .val (.int j), .val (.int md), .val (.ref b1), .val (.int (md &&& (3 : Int32))), .val (.long t), .second, .val (.int i), .val (.ref b3), .val (.ref r_5), .unset]) rfl ?_
    show Steps p.tables e below (T5.setTop (mkF m 65 #[.val (.long s1), .second, .val (.int i), .val (.long t), .second, .val (.int j), .val (.int md), .val (.ref b1), .val (.int (md &&& (3 : Int32))), .val (.long t), .second, .val (.int i), .val (.ref b3), .val (.ref r_5), .unset] [])) _
    refine XS.lload X5.here hx rfl (hb hby at_65) rfl ?_
    show Steps p.tables e below (T5.setTop (mkF m 67 #[.val (.long s1), .second, .val (.int i), .val (.long t), .second, .val (.int j), .val (.int md), .val (.ref b1), .val (.int (md &&& (3 : Int32))), .val (.long t), .second, .val (.int i), .val (.ref b3), .val (.ref r_5), .unset] [(.long t)])) _
    refine XS.lloadN X5.here hx rfl (hb hby at_67) rfl ?_
    show Steps p.tables e below (T5.setTop (mkF m 68 #[.val (.long s1), .second, .val (.int i), .val (.long t), .second, .val (.int j), .val (.int md), .val (.ref b1), .val (.int (md &&& (3 : Int32))), .val (.long t), .second, .val (.int i), .val (.ref b3), .val (.ref r_5), .unset] [(.long s1), (.long t)])) _
    refine XS.lcmp X5.here hx rfl (hb hby at_68) rfl ?_
    show Steps p.tables e below (T5.setTop (mkF m 69 #[.val (.long s1), .second, .val (.int i), .val (.long t), .second, .val (.int j), .val (.int md), .val (.ref b1), .val (.int (md &&& (3 : Int32))), .val (.long t), .second, .val (.int i), .val (.ref b3), .val (.ref r_5), .unset] [(.int (lcmpW t s1))])) _
    refine XS.ifNo X5.here hx rfl (hb hby at_69) rfl ((if0 _ _).trans (teq (hc69 : (lcmpW t s1) = (0 : Int32))).2) ?_
    show Steps p.tables e below (T5.setTop (mkF m 72 #[.val (.long s1), .second, .val (.int i), .val (.long t), .second, .val (.int j), .val (.int md), .val (.ref b1), .val (.int (md &&& (3 : Int32))), .val (.long t), .second, .val (.int i), .val (.ref b3), .val (.ref r_5), .unset] [])) _
    refine XS.iload X5.here hx rfl (hb hby at_72) rfl ?_
    show Steps p.tables e below (T5.setTop (mkF m 74 #[.val (.long s1), .second, .val (.int i), .val (.long t), .second, .val (.int j), .val (.int md), .val (.ref b1), .val (.int (md &&& (3 : Int32))), .val (.long t), .second, .val (.int i), .val (.ref b3), .val (.ref r_5), .unset] [(.int i)])) _
    refine XS.iloadN X5.here hx rfl (hb hby at_74) rfl ?_
    show Steps p.tables e below (T5.setTop (mkF m 75 #[.val (.long s1), .second, .val (.int i), .val (.long t), .second, .val (.int j), .val (.int md), .val (.ref b1), .val (.int (md &&& (3 : Int32))), .val (.long t), .second, .val (.int i), .val (.ref b3), .val (.ref r_5), .unset] [(.int i), (.int i)])) _
    refine XS.icmpNo X5.here hx rfl (hb hby at_75) rfl (teq (rfl : i = i)).2 ?_
    show Steps p.tables e below (T5.setTop (mkF m 78 #[.val (.long s1), .second, .val (.int i), .val (.long t), .second, .val (.int j), .val (.int md), .val (.ref b1), .val (.int (md &&& (3 : Int32))), .val (.long t), .second, .val (.int i), .val (.ref b3), .val (.ref r_5), .unset] [])) _
    refine XS.iconst X5.here hx rfl (hb hby at_78) ?_
    show Steps p.tables e below (T5.setTop (mkF m 79 #[.val (.long s1), .second, .val (.int i), .val (.long t), .second, .val (.int j), .val (.int md), .val (.ref b1), .val (.int (md &&& (3 : Int32))), .val (.long t), .second, .val (.int i), .val (.ref b3), .val (.ref r_5), .unset] [(.int (1 : Int32))])) _
    refine XS.goto X5.here hx rfl (pc0 := 79) (pc' := 83) rfl (hb hby at_79) (by decide) (by decide) ?_
    show Steps p.tables e below (T5.setTop (mkF m 83 #[.val (.long s1), .second, .val (.int i), .val (.long t), .second, .val (.int j), .val (.int md), .val (.ref b1), .val (.int (md &&& (3 : Int32))), .val (.long t), .second, .val (.int i), .val (.ref b3), .val (.ref r_5), .unset] [(.int (1 : Int32))])) _
    refine XS.istore X5.here hx rfl (hb hby at_83) rfl (l' := #[.val (.long s1), .second, .val (.int i), .val (.long t), .second, .val (.int j), .val (.int md), .val (.ref b1), .val (.int (md &&& (3 : Int32))), .val (.long t), .second, .val (.int i), .val (.ref b3), .val (.ref r_5), .val (.int (1 : Int32))]) rfl ?_
    show Steps p.tables e below (T5.setTop (mkF m 85 #[.val (.long s1), .second, .val (.int i), .val (.long t), .second, .val (.int j), .val (.int md), .val (.ref b1), .val (.int (md &&& (3 : Int32))), .val (.long t), .second, .val (.int i), .val (.ref b3), .val (.ref r_5), .val (.int (1 : Int32))] [])) _
    refine XS.aload X5.here hx rfl (hb hby at_85) rfl rfl ?_
    show Steps p.tables e below (T5.setTop (mkF m 87 #[.val (.long s1), .second, .val (.int i), .val (.long t), .second, .val (.int j), .val (.int md), .val (.ref b1), .val (.int (md &&& (3 : Int32))), .val (.long t), .second, .val (.int i), .val (.ref b3), .val (.ref r_5), .val (.int (1 : Int32))] [(.ref b1)])) _
    refine XS.aload X5.here hx rfl (hb hby at_87) rfl rfl ?_
    show Steps p.tables e below (T5.setTop (mkF m 89 #[.val (.long s1), .second, .val (.int i), .val (.long t), .second, .val (.int j), .val (.int md), .val (.ref b1), .val (.int (md &&& (3 : Int32))), .val (.long t), .second, .val (.int i), .val (.ref b3), .val (.ref r_5), .val (.int (1 : Int32))] [(.ref b3), (.ref b1)])) _
    refine st8.trans ?_
    show Steps p.tables e below (T8.setTop (mkF m 92 #[.val (.long s1), .second, .val (.int i), .val (.long t), .second, .val (.int j), .val (.int md), .val (.ref b1), .val (.int (md &&& (3 : Int32))), .val (.long t), .second, .val (.int i), .val (.ref b3), .val (.ref r_5), .val (.int (1 : Int32))] [(.int (eqV s1 i t i))])) _
    refine XS.iload X8.here hx rfl (hb hby at_92) rfl ?_
    show Steps p.tables e below (T8.setTop (mkF m 94 #[.val (.long s1), .second, .val (.int i), .val (.long t), .second, .val (.int j), .val (.int md), .val (.ref b1), .val (.int (md &&& (3 : Int32))), .val (.long t), .second, .val (.int i), .val (.ref b3), .val (.ref r_5), .val (.int (1 : Int32))] [(.int (1 : Int32)), (.int (eqV s1 i t i))])) _
    refine XS.icmpYes X8.here hx rfl (pc0 := 94) (pc' := 99) rfl (hb hby at_94) rfl (teq ((eqV_y (lw_t hc69).symm rfl) : (eqV s1 i t i) = (1 : Int32))).1 (by decide) (by decide) ?_
    show Steps p.tables e below (T8.setTop (mkF m 99 #[.val (.long s1), .second, .val (.int i), .val (.long t), .second, .val (.int j), .val (.int md), .val (.ref b1), .val (.int (md &&& (3 : Int32))), .val (.long t), .second, .val (.int i), .val (.ref b3), .val (.ref r_5), .val (.int (1 : Int32))] [])) _
    refine XS.aload X8.here hx rfl (hb hby at_99) rfl rfl ?_
    show Steps p.tables e below (T8.setTop (mkF m 101 #[.val (.long s1), .second, .val (.int i), .val (.long t), .second, .val (.int j), .val (.int md), .val (.ref b1), .val (.int (md &&& (3 : Int32))), .val (.long t), .second, .val (.int i), .val (.ref b3), .val (.ref r_5), .val (.int (1 : Int32))] [(.ref b3)])) _
    refine XS.aload X8.here hx rfl (hb hby at_101) rfl rfl ?_
    show Steps p.tables e below (T8.setTop (mkF m 103 #[.val (.long s1), .second, .val (.int i), .val (.long t), .second, .val (.int j), .val (.int md), .val (.ref b1), .val (.int (md &&& (3 : Int32))), .val (.long t), .second, .val (.int i), .val (.ref b3), .val (.ref r_5), .val (.int (1 : Int32))] [(.ref b1), (.ref b3)])) _
    refine st9.trans ?_
    show Steps p.tables e below (T9.setTop (mkF m 106 #[.val (.long s1), .second, .val (.int i), .val (.long t), .second, .val (.int j), .val (.int md), .val (.ref b1), .val (.int (md &&& (3 : Int32))), .val (.long t), .second, .val (.int i), .val (.ref b3), .val (.ref r_5), .val (.int (1 : Int32))] [(.int (eqV t i s1 i))])) _
    refine XS.iload X9.here hx rfl (hb hby at_106) rfl ?_
    show Steps p.tables e below (T9.setTop (mkF m 108 #[.val (.long s1), .second, .val (.int i), .val (.long t), .second, .val (.int j), .val (.int md), .val (.ref b1), .val (.int (md &&& (3 : Int32))), .val (.long t), .second, .val (.int i), .val (.ref b3), .val (.ref r_5), .val (.int (1 : Int32))] [(.int (1 : Int32)), (.int (eqV t i s1 i))])) _
    refine XS.icmpYes X9.here hx rfl (pc0 := 108) (pc' := 113) rfl (hb hby at_108) rfl (teq ((eqV_y (lw_t hc69) rfl) : (eqV t i s1 i) = (1 : Int32))).1 (by decide) (by decide) ?_
    show Steps p.tables e below (T9.setTop (mkF m 113 #[.val (.long s1), .second, .val (.int i), .val (.long t), .second, .val (.int j), .val (.int md), .val (.ref b1), .val (.int (md &&& (3 : Int32))), .val (.long t), .second, .val (.int i), .val (.ref b3), .val (.ref r_5), .val (.int (1 : Int32))] [])) _
    refine XS.aload X9.here hx rfl (hb hby at_113) rfl rfl ?_
    show Steps p.tables e below (T9.setTop (mkF m 115 #[.val (.long s1), .second, .val (.int i), .val (.long t), .second, .val (.int j), .val (.int md), .val (.ref b1), .val (.int (md &&& (3 : Int32))), .val (.long t), .second, .val (.int i), .val (.ref b3), .val (.ref r_5), .val (.int (1 : Int32))] [(.ref b1)])) _
    refine XS.aload X9.here hx rfl (hb hby at_115) rfl rfl ?_
    show Steps p.tables e below (T9.setTop (mkF m 117 #[.val (.long s1), .second, .val (.int i), .val (.long t), .second, .val (.int j), .val (.int md), .val (.ref b1), .val (.int (md &&& (3 : Int32))), .val (.long t), .second, .val (.int i), .val (.ref b3), .val (.ref r_5), .val (.int (1 : Int32))] [(.ref b1), (.ref b1)])) _
    refine st10.trans ?_
    show Steps p.tables e below (T10.setTop (mkF m 120 #[.val (.long s1), .second, .val (.int i), .val (.long t), .second, .val (.int j), .val (.int md), .val (.ref b1), .val (.int (md &&& (3 : Int32))), .val (.long t), .second, .val (.int i), .val (.ref b3), .val (.ref r_5), .val (.int (1 : Int32))] [(.int (eqV s1 i s1 i))])) _
    refine XS.ifYes X10.here hx rfl (pc0 := 120) (pc' := 125) rfl (hb hby at_120) rfl ((if0 _ _).trans (feq ((by rw [eqV_y rfl rfl]; decide) : ¬ ((eqV s1 i s1 i) = (0 : Int32)))).2) (by decide) (by decide) ?_
    show Steps p.tables e below (T10.setTop (mkF m 125 #[.val (.long s1), .second, .val (.int i), .val (.long t), .second, .val (.int j), .val (.int md), .val (.ref b1), .val (.int (md &&& (3 : Int32))), .val (.long t), .second, .val (.int i), .val (.ref b3), .val (.ref r_5), .val (.int (1 : Int32))] [])) _
    refine XS.aload X10.here hx rfl (hb hby at_125) rfl rfl ?_
    show Steps p.tables e below (T10.setTop (mkF m 127 #[.val (.long s1), .second, .val (.int i), .val (.long t), .second, .val (.int j), .val (.int md), .val (.ref b1), .val (.int (md &&& (3 : Int32))), .val (.long t), .second, .val (.int i), .val (.ref b3), .val (.ref r_5), .val (.int (1 : Int32))] [(.ref b1)])) _
    refine XS.aconstNull X10.here hx rfl (hb hby at_127) ?_
    show Steps p.tables e below (T10.setTop (mkF m 128 #[.val (.long s1), .second, .val (.int i), .val (.long t), .second, .val (.int j), .val (.int md), .val (.ref b1), .val (.int (md &&& (3 : Int32))), .val (.long t), .second, .val (.int i), .val (.ref b3), .val (.ref r_5), .val (.int (1 : Int32))] [.null, (.ref b1)])) _
    refine st11.trans ?_
    show Steps p.tables e below (T11.setTop (mkF m 131 #[.val (.long s1), .second, .val (.int i), .val (.long t), .second, .val (.int j), .val (.int md), .val (.ref b1), .val (.int (md &&& (3 : Int32))), .val (.long t), .second, .val (.int i), .val (.ref b3), .val (.ref r_5), .val (.int (1 : Int32))] [(.int (0 : Int32))])) _
    refine XS.ifYes X11.here hx rfl (pc0 := 131) (pc' := 136) rfl (hb hby at_131) rfl ((if0 _ _).trans (teq (by decide : (0 : Int32) = (0 : Int32))).1) (by decide) (by decide) ?_
    show Steps p.tables e below (T11.setTop (mkF m 136 #[.val (.long s1), .second, .val (.int i), .val (.long t), .second, .val (.int j), .val (.int md), .val (.ref b1), .val (.int (md &&& (3 : Int32))), .val (.long t), .second, .val (.int i), .val (.ref b3), .val (.ref r_5), .val (.int (1 : Int32))] [])) _
    refine XS.aload X11.here hx rfl (hb hby at_136) rfl rfl ?_
    show Steps p.tables e below (T11.setTop (mkF m 138 #[.val (.long s1), .second, .val (.int i), .val (.long t), .second, .val (.int j), .val (.int md), .val (.ref b1), .val (.int (md &&& (3 : Int32))), .val (.long t), .second, .val (.int i), .val (.ref b3), .val (.ref r_5), .val (.int (1 : Int32))] [(.ref b1)])) _
    refine XS.aload X11.here hx rfl (hb hby at_138) rfl rfl ?_
    show Steps p.tables e below (T11.setTop (mkF m 140 #[.val (.long s1), .second, .val (.int i), .val (.long t), .second, .val (.int j), .val (.int md), .val (.ref b1), .val (.int (md &&& (3 : Int32))), .val (.long t), .second, .val (.int i), .val (.ref b3), .val (.ref r_5), .val (.int (1 : Int32))] [(.ref r_5), (.ref b1)])) _
    refine st12.trans ?_
    show Steps p.tables e below (T12.setTop (mkF m 143 #[.val (.long s1), .second, .val (.int i), .val (.long t), .second, .val (.int j), .val (.int md), .val (.ref b1), .val (.int (md &&& (3 : Int32))), .val (.long t), .second, .val (.int i), .val (.ref b3), .val (.ref r_5), .val (.int (1 : Int32))] [(.int (0 : Int32))])) _
    refine XS.ifYes X12.here hx rfl (pc0 := 143) (pc' := 148) rfl (hb hby at_143) rfl ((if0 _ _).trans (teq (by decide : (0 : Int32) = (0 : Int32))).1) (by decide) (by decide) ?_
    show Steps p.tables e below (T12.setTop (mkF m 148 #[.val (.long s1), .second, .val (.int i), .val (.long t), .second, .val (.int j), .val (.int md), .val (.ref b1), .val (.int (md &&& (3 : Int32))), .val (.long t), .second, .val (.int i), .val (.ref b3), .val (.ref r_5), .val (.int (1 : Int32))] [])) _
    refine XS.iconst X12.here hx rfl (hb hby at_148) ?_
    show Steps p.tables e below (T12.setTop (mkF m 149 #[.val (.long s1), .second, .val (.int i), .val (.long t), .second, .val (.int j), .val (.int md), .val (.ref b1), .val (.int (md &&& (3 : Int32))), .val (.long t), .second, .val (.int i), .val (.ref b3), .val (.ref r_5), .val (.int (1 : Int32))] [(.int (1 : Int32))])) _
    exact retN X12 hx (t := .boolean) Bd.returns (by simp) (hb hby at_149) hr
  · show Q_law Z s1 i t j md wc h0 n0 _ T12.heap _
    rw [kh12]
    exact ⟨rfl, N12⟩
set_option maxRecDepth 65536 in
set_option maxHeartbeats 40000000 in
theorem law_5 (l : Launch) (Z : State) (a0 : Array Value) (hw : ∀ d ∈ tables_1, d.before a0 Z = true) (ws : List Jvm.Cond) (s1 : Int64) (i : Int32) (t : Int64) (j : Int32) (md : Int32) (wc : Addr) (h0 : Heap) (n0 : Nat) (O0 : Old Z n0 h0) (G0 : Sta Z Z.heap "java/lang/Long$LongCache" "cache" "[Ljava/lang/Long;" (.ref wc)) (CA : Cache Z wc "java/lang/Long") (hc21 : ¬ (((md &&& (3 : Int32)) &&& (1 : Int32)) = (0 : Int32))) (hc35 : ((md &&& (3 : Int32)) &&& (2 : Int32)) = (0 : Int32)) (hc69 : ¬ ((lcmpW t s1) = (0 : Int32))) :
    MetFree l x (head1 (Jvm.Cond.code x code maxLocals ret :: ws) room_1) (fun zA zU => zA = #[(.long s1), (.int i), (.long t), (.int j), (.int md)] ∧ Z.Warmed39 zU.vm ∧ zU.heap = h0) (fun _ _ _ _ _ => True) (fun _ zU zo zU' => ∃ zv zL, zo = .returned zv ∧ Q_law Z s1 i t j md wc h0 n0 zv zU'.heap zL ∧ FrameEnd zU zo zU' zL room_1.cells room_1.slots) := by
  refine MetFree.of_bodySF (plainFor_of_name pn_11) hisR ?_
  intro p e s m args below meth c s₁ Bd hml0 hP hK
  obtain ⟨rfl, hZ, hh⟩ := hP
  have hx := Bd.exec
  have hby := Bd.bytes
  have hml : c.maxLocals = 15 := hml0
  have hown : s.vm.findClass "com/example/maat/maat/TurnEqualsPinLaw" = some m.cls := findClass_of_methodNamed Bd.named
  have hnm := (name_of_methodNamed Bd.named Bd.method).1
  have X0 : Stand p l e room_1 s m #[(.long s1), (.int i), (.long t), (.int j), (.int md)] below meth c s₁ [] 0 0 := Stand.of_body Bd
  have e0 : s₁.heap = h0 := by rw [← hh, Bd.state]; rfl
  have N0 := Fr.nil n0
  have Z0 : n0 ≤ h0.size := O0.1 ▸ O0.2.1
  have pre0 : ∀ zt, Steps p.tables e below (s₁.setTop (mkF m 0 #[.val (.long s1), .second, .val (.int i), .val (.long t), .second, .val (.int j), .val (.int md), .unset, .unset, .unset, .unset, .unset, .unset, .unset, .unset] [])) zt → Steps p.tables e below (s₁.setTop (entryFrame m #[(.long s1), (.int i), (.long t), (.int j), (.int md)] maxLocals)) zt := fun zt zk => castTop (ef_0_JIJII m s1 i t j md) zk
  obtain ⟨T1, h1, X1, e1, E1, A1, D1, U1, st1⟩ := newO X0 hx hZ hown (hw _ (List.mem_of_getElem? (i := 0) rfl)) (hw _ (List.mem_of_getElem? (i := 1) rfl)) (hw _ (List.mem_of_getElem? (i := 2) rfl)) e0 (g := (mkF m 0 #[.val (.long s1), .second, .val (.int i), .val (.long t), .second, .val (.int j), .val (.int md), .unset, .unset, .unset, .unset, .unset, .unset, .unset, .unset] [])) rfl (hb hby at_0) (by decide) (by decide)
  obtain ⟨b1, gz1⟩ : ∃ z, z = h0.size := ⟨_, rfl⟩
  rw [← gz1] at A1 D1 U1 st1
  have sz_b1 : h0.size ≤ b1 := Nat.le_trans (Keep.refl h0 []).1 (Nat.le_of_eq gz1.symm)
  have g_b1 : n0 ≤ b1 := Nat.le_trans Z0 sz_b1
  have O1 := O0.ext E1
  have K1 : Keep h0 h1 [] := (Keep.refl h0 []).ext E1
  have Fi1_15 : Fld Z h1 b1 "com/example/maat/maat/Turn" "seq" "J" (.long (0 : Int64)) := D1 (Or.inr (hw _ (List.mem_of_getElem? (i := 15) rfl))) (ty := .long) (by decide)
  have Fi1_17 : Fld Z h1 b1 "com/example/maat/maat/Turn" "index" "I" (.int (0 : Int32)) := D1 (Or.inr (hw _ (List.mem_of_getElem? (i := 17) rfl))) (ty := .int) (by decide)
  obtain ⟨_, _, ⟨T2, L2, k2, n2⟩, -, X2, ⟨Lc2, hQ2, l2, y2, z2⟩, st2⟩ := X1.specialBack hx (y := (⟨"com/example/maat/maat/Turn", "<init>", "(JI)V"⟩ : MethodName)) rfl hown (mvT hZ (hw _ (List.mem_of_getElem? (i := 3) rfl))) (mvT hZ (hw _ (List.mem_of_getElem? (i := 4) rfl))) (mvT hZ (hw _ (List.mem_of_getElem? (i := 5) rfl))) (by decide) (backOf (W := 1) (turnI l Z a0 hw [] b1 s1 i h1 n0 O1 Fi1_15 Fi1_17 A1 g_b1) hZ (hw _ (List.mem_of_getElem? (i := 5) rfl)) (hw _ (List.mem_of_getElem? (i := 2) rfl)) (by decide) (by decide)) (g := (mkF m 6 #[.val (.long s1), .second, .val (.int i), .val (.long t), .second, .val (.int j), .val (.int md), .unset, .unset, .unset, .unset, .unset, .unset, .unset, .unset] [(.int i), (.long s1), (.ref b1), (.ref b1)])) rfl (by rw [hml]; rfl) (Steps.refl _) (a := b1) (argsL := [(.long s1), (.int i)]) (rest := [(.ref b1)]) (lenOf pd_2 rfl) rfl (by show 2 * 0 + _ ≤ _; exact Nat.le_of_eq rfl) (hb hby at_6) (fun _ _ => ⟨rfl, e1, (by decide : 1 + 0 ≤ _), (by decide : 2 + 0 ≤ _)⟩)
  dsimp only [Pt.U, Pt.locs, Pt.cells, Pt.slots] at X2 l2 y2 z2 st2 hQ2
  subst l2 y2 z2
  obtain ⟨rfl, Nq2, kh2, Po2_0, Po2_1, Po2_2⟩ := hQ2
  have N2 := Fr.app N0 Nq2
  have O2 := O1.keep kh2 (allS g_b1 all0)
  have K2 : Keep h0 T2.heap [] := K1.trans kh2 (allS (Or.inr sz_b1) all0)
  obtain ⟨T3, h3, X3, e3, E3, A3, D3, U3, st3⟩ := newO X2 hx hZ hown (hw _ (List.mem_of_getElem? (i := 0) rfl)) (hw _ (List.mem_of_getElem? (i := 1) rfl)) (hw _ (List.mem_of_getElem? (i := 2) rfl)) rfl (g := (mkF m 46 #[.val (.long s1), .second, .val (.int i), .val (.long t), .second, .val (.int j), .val (.int md), .val (.ref b1), .val (.int (md &&& (3 : Int32))), .val (.long t), .second, .val (.int i), .unset, .unset, .unset] [])) rfl (hb hby at_46) (by decide) (by decide)
  obtain ⟨b3, gz3⟩ : ∃ z, z = T2.heap.size := ⟨_, rfl⟩
  rw [← gz3] at A3 D3 U3 st3
  have sz_b3 : h0.size ≤ b3 := Nat.le_trans K2.1 (Nat.le_of_eq gz3.symm)
  have g_b3 : n0 ≤ b3 := Nat.le_trans Z0 sz_b3
  have O3 := O2.ext E3
  have K3 : Keep h0 h3 [] := K2.ext E3
  have Fi3_15 : Fld Z h3 b3 "com/example/maat/maat/Turn" "seq" "J" (.long (0 : Int64)) := D3 (Or.inr (hw _ (List.mem_of_getElem? (i := 15) rfl))) (ty := .long) (by decide)
  have Fi3_17 : Fld Z h3 b3 "com/example/maat/maat/Turn" "index" "I" (.int (0 : Int32)) := D3 (Or.inr (hw _ (List.mem_of_getElem? (i := 17) rfl))) (ty := .int) (by decide)
  obtain ⟨_, _, ⟨T4, L4, k4, n4⟩, -, X4, ⟨Lc4, hQ4, l4, y4, z4⟩, st4⟩ := X3.specialBack hx (y := (⟨"com/example/maat/maat/Turn", "<init>", "(JI)V"⟩ : MethodName)) rfl hown (mvT hZ (hw _ (List.mem_of_getElem? (i := 3) rfl))) (mvT hZ (hw _ (List.mem_of_getElem? (i := 4) rfl))) (mvT hZ (hw _ (List.mem_of_getElem? (i := 5) rfl))) (by decide) (backOf (W := 1) (turnI l Z a0 hw [] b3 t i h3 n0 O3 Fi3_15 Fi3_17 A3 g_b3) hZ (hw _ (List.mem_of_getElem? (i := 5) rfl)) (hw _ (List.mem_of_getElem? (i := 2) rfl)) (by decide) (by decide)) (g := (mkF m 54 #[.val (.long s1), .second, .val (.int i), .val (.long t), .second, .val (.int j), .val (.int md), .val (.ref b1), .val (.int (md &&& (3 : Int32))), .val (.long t), .second, .val (.int i), .unset, .unset, .unset] [(.int i), (.long t), (.ref b3), (.ref b3)])) rfl (by rw [hml]; rfl) (Steps.refl _) (a := b3) (argsL := [(.long t), (.int i)]) (rest := [(.ref b3)]) (lenOf pd_2 rfl) rfl (by show 2 * 0 + _ ≤ _; exact Nat.le_of_eq rfl) (hb hby at_54) (fun _ _ => ⟨rfl, e3, (by decide : 2 + 0 ≤ _), (by decide : 4 + 0 ≤ _)⟩)
  dsimp only [Pt.U, Pt.locs, Pt.cells, Pt.slots] at X4 l4 y4 z4 st4 hQ4
  subst l4 y4 z4
  obtain ⟨rfl, Nq4, kh4, Po4_0, Po4_1, Po4_2⟩ := hQ4
  have N4 := Fr.app N2 Nq4
  have O4 := O3.keep kh4 (allS g_b3 all0)
  have K4 : Keep h0 T4.heap [] := K3.trans kh4 (allS (Or.inr sz_b3) all0)
  obtain ⟨_, _, ⟨T5, L5, k5, n5⟩, -, X5, ⟨Lc5, hQ5, l5, y5, z5⟩, st5⟩ := Jvm.LawKit.callS X4 hx (y := (⟨"java/lang/Long", "valueOf", "(J)Ljava/lang/Long;"⟩ : MethodName)) hown (mvT hZ (hw _ (List.mem_of_getElem? (i := 18) rfl))) (mvT hZ (hw _ (List.mem_of_getElem? (i := 19) rfl))) (mvT hZ (hw _ (List.mem_of_getElem? (i := 20) rfl))) (mvT hZ (hw _ (List.mem_of_getElem? (i := 21) rfl))) (by decide) (backOf (W := 0) (valueOf l Z a0 hw [] s1 wc T4.heap n0 O4 G0 CA) hZ (hw _ (List.mem_of_getElem? (i := 21) rfl)) (hw _ (List.mem_of_getElem? (i := 20) rfl)) (by decide) (by decide)) (g := (mkF m 60 #[.val (.long s1), .second, .val (.int i), .val (.long t), .second, .val (.int j), .val (.int md), .val (.ref b1), .val (.int (md &&& (3 : Int32))), .val (.long t), .second, .val (.int i), .val (.ref b3), .unset, .unset] [(.long s1)])) rfl (by rw [hml]; rfl) (argsL := [(.long s1)]) (rest := []) (lenOf pd_3 rfl) rfl (by show 2 * 0 + _ ≤ _; exact Nat.le_of_eq rfl) (hb hby at_60) (fun _ _ => ⟨rfl, rfl, (by decide : 2 + 1 ≤ _), (by decide : 4 + 1 ≤ _)⟩)
  dsimp only [Pt.U, Pt.locs, Pt.cells, Pt.slots] at X5 l5 y5 z5 st5 hQ5
  subst l5 y5 z5
  obtain ⟨r_5, rfl, Nq5, kh5, Po5_0⟩ := hQ5
  have N5 := Fr.app N4 Nq5
  have O5 := O4.keep kh5 all0
  have K5 : Keep h0 T5.heap [] := K4.trans kh5 all0
  have c6 : Fld Z T5.heap b1 "com/example/maat/maat/Turn" "seq" "J" (.long s1) := (((Po2_1.ext E3).keep kh4 (ninS (Nat.ne_of_lt (Nat.lt_of_lt_of_le (Po2_0).lt (Nat.le_of_eq gz3.symm))) nin0)).keep kh5 nin0)
  have c7 : Fld Z T5.heap b1 "com/example/maat/maat/Turn" "index" "I" (.int i) := (((Po2_2.ext E3).keep kh4 (ninS (Nat.ne_of_lt (Nat.lt_of_lt_of_le (Po2_0).lt (Nat.le_of_eq gz3.symm))) nin0)).keep kh5 nin0)
  obtain ⟨cq8, kq8, q8a, q8b, q8c⟩ := isOf hZ rfl (((Po2_0.ext E3).keep kh4).keep kh5)
  obtain ⟨_, _, ⟨T8, L8, k8, n8⟩, -, X8, ⟨Lc8, hQ8, l8, y8, z8⟩, st8⟩ := X5.virtualBack hx (y := (⟨"com/example/maat/maat/Turn", "equals", "(Ljava/lang/Object;)Z"⟩ : MethodName)) (z := (⟨"com/example/maat/maat/Turn", "equals", "(Ljava/lang/Object;)Z"⟩ : MethodName)) hown (mvT hZ (hw _ (List.mem_of_getElem? (i := 26) rfl))) (mvT hZ (hw _ (List.mem_of_getElem? (i := 27) rfl))) (notFace_of_selects (args := #[]) (mvT hZ (hw _ (List.mem_of_getElem? (i := 29) rfl)))) (mvT hZ (hw _ (List.mem_of_getElem? (i := 29) rfl))) (mvT hZ (hw _ (List.mem_of_getElem? (i := 28) rfl))) (by decide) (backOf (W := 0) (eqT l Z a0 hw [] b1 b3 s1 i t i T5.heap n0 O5 c6 c7 (Po4_1.keep kh5 nin0) (Po4_2.keep kh5 nin0) (Po4_0.keep kh5)) hZ (hw _ (List.mem_of_getElem? (i := 30) rfl)) (hw _ (List.mem_of_getElem? (i := 2) rfl)) (by decide) (by decide)) q8a q8c (g := (mkF m 89 #[.val (.long s1), .second, .val (.int i), .val (.long t), .second, .val (.int j), .val (.int md), .val (.ref b1), .val (.int (md &&& (3 : Int32))), .val (.long t), .second, .val (.int i), .val (.ref b3), .val (.ref r_5), .val (.int (0 : Int32))] [(.ref b3), (.ref b1)])) rfl (by rw [hml]; rfl) (Steps.refl _) (argsL := [(.ref b3)]) (rest := []) (lenOf pd_4 rfl) rfl (by show 2 * 0 + _ ≤ _; exact Nat.le_of_eq rfl) (hb hby at_89) (fun _ _ => ⟨rfl, rfl, (by decide : 3 + 0 ≤ _), (by decide : 5 + 0 ≤ _)⟩)
  dsimp only [Pt.U, Pt.locs, Pt.cells, Pt.slots] at X8 l8 y8 z8 st8 hQ8
  subst l8 y8 z8
  obtain ⟨rfl, Nq8, kh8⟩ := hQ8
  have N8 := Fr.app N5 Nq8
  obtain ⟨cq9, kq9, q9a, q9b, q9c⟩ := isOf hZ kh8 (Po4_0.keep kh5)
  obtain ⟨_, _, ⟨T9, L9, k9, n9⟩, -, X9, ⟨Lc9, hQ9, l9, y9, z9⟩, st9⟩ := X8.virtualBack hx (y := (⟨"com/example/maat/maat/Turn", "equals", "(Ljava/lang/Object;)Z"⟩ : MethodName)) (z := (⟨"com/example/maat/maat/Turn", "equals", "(Ljava/lang/Object;)Z"⟩ : MethodName)) hown (mvT hZ (hw _ (List.mem_of_getElem? (i := 26) rfl))) (mvT hZ (hw _ (List.mem_of_getElem? (i := 27) rfl))) (notFace_of_selects (args := #[]) (mvT hZ (hw _ (List.mem_of_getElem? (i := 29) rfl)))) (mvT hZ (hw _ (List.mem_of_getElem? (i := 29) rfl))) (mvT hZ (hw _ (List.mem_of_getElem? (i := 28) rfl))) (by decide) (backOf (W := 0) (eqT l Z a0 hw [] b3 b1 t i s1 i T5.heap n0 O5 (Po4_1.keep kh5 nin0) (Po4_2.keep kh5 nin0) c6 c7 (((Po2_0.ext E3).keep kh4).keep kh5)) hZ (hw _ (List.mem_of_getElem? (i := 30) rfl)) (hw _ (List.mem_of_getElem? (i := 2) rfl)) (by decide) (by decide)) q9a q9c (g := (mkF m 103 #[.val (.long s1), .second, .val (.int i), .val (.long t), .second, .val (.int j), .val (.int md), .val (.ref b1), .val (.int (md &&& (3 : Int32))), .val (.long t), .second, .val (.int i), .val (.ref b3), .val (.ref r_5), .val (.int (0 : Int32))] [(.ref b1), (.ref b3)])) rfl (by rw [hml]; rfl) (Steps.refl _) (argsL := [(.ref b1)]) (rest := []) (lenOf pd_4 rfl) rfl (by show 2 * 0 + _ ≤ _; exact Nat.le_of_eq rfl) (hb hby at_103) (fun _ _ => ⟨rfl, kh8, (by decide : 3 + 0 ≤ _), (by decide : 5 + 0 ≤ _)⟩)
  dsimp only [Pt.U, Pt.locs, Pt.cells, Pt.slots] at X9 l9 y9 z9 st9 hQ9
  subst l9 y9 z9
  obtain ⟨rfl, Nq9, kh9⟩ := hQ9
  have N9 := Fr.app N8 Nq9
  obtain ⟨cq10, kq10, q10a, q10b, q10c⟩ := isOf hZ kh9 (((Po2_0.ext E3).keep kh4).keep kh5)
  obtain ⟨_, _, ⟨T10, L10, k10, n10⟩, -, X10, ⟨Lc10, hQ10, l10, y10, z10⟩, st10⟩ := X9.virtualBack hx (y := (⟨"com/example/maat/maat/Turn", "equals", "(Ljava/lang/Object;)Z"⟩ : MethodName)) (z := (⟨"com/example/maat/maat/Turn", "equals", "(Ljava/lang/Object;)Z"⟩ : MethodName)) hown (mvT hZ (hw _ (List.mem_of_getElem? (i := 26) rfl))) (mvT hZ (hw _ (List.mem_of_getElem? (i := 27) rfl))) (notFace_of_selects (args := #[]) (mvT hZ (hw _ (List.mem_of_getElem? (i := 29) rfl)))) (mvT hZ (hw _ (List.mem_of_getElem? (i := 29) rfl))) (mvT hZ (hw _ (List.mem_of_getElem? (i := 28) rfl))) (by decide) (backOf (W := 0) (eqT l Z a0 hw [] b1 b1 s1 i s1 i T5.heap n0 O5 c6 c7 c6 c7 (((Po2_0.ext E3).keep kh4).keep kh5)) hZ (hw _ (List.mem_of_getElem? (i := 30) rfl)) (hw _ (List.mem_of_getElem? (i := 2) rfl)) (by decide) (by decide)) q10a q10c (g := (mkF m 117 #[.val (.long s1), .second, .val (.int i), .val (.long t), .second, .val (.int j), .val (.int md), .val (.ref b1), .val (.int (md &&& (3 : Int32))), .val (.long t), .second, .val (.int i), .val (.ref b3), .val (.ref r_5), .val (.int (0 : Int32))] [(.ref b1), (.ref b1)])) rfl (by rw [hml]; rfl) (Steps.refl _) (argsL := [(.ref b1)]) (rest := []) (lenOf pd_4 rfl) rfl (by show 2 * 0 + _ ≤ _; exact Nat.le_of_eq rfl) (hb hby at_117) (fun _ _ => ⟨rfl, kh9, (by decide : 3 + 0 ≤ _), (by decide : 5 + 0 ≤ _)⟩)
  dsimp only [Pt.U, Pt.locs, Pt.cells, Pt.slots] at X10 l10 y10 z10 st10 hQ10
  subst l10 y10 z10
  obtain ⟨rfl, Nq10, kh10⟩ := hQ10
  have N10 := Fr.app N9 Nq10
  obtain ⟨cq11, kq11, q11a, q11b, q11c⟩ := isOf hZ kh10 (((Po2_0.ext E3).keep kh4).keep kh5)
  obtain ⟨_, _, ⟨T11, L11, k11, n11⟩, -, X11, ⟨Lc11, hQ11, l11, y11, z11⟩, st11⟩ := X10.virtualBack hx (y := (⟨"com/example/maat/maat/Turn", "equals", "(Ljava/lang/Object;)Z"⟩ : MethodName)) (z := (⟨"com/example/maat/maat/Turn", "equals", "(Ljava/lang/Object;)Z"⟩ : MethodName)) hown (mvT hZ (hw _ (List.mem_of_getElem? (i := 26) rfl))) (mvT hZ (hw _ (List.mem_of_getElem? (i := 27) rfl))) (notFace_of_selects (args := #[]) (mvT hZ (hw _ (List.mem_of_getElem? (i := 29) rfl)))) (mvT hZ (hw _ (List.mem_of_getElem? (i := 29) rfl))) (mvT hZ (hw _ (List.mem_of_getElem? (i := 28) rfl))) (by decide) (backOf (W := 0) (eqN l Z a0 hw [] b1 T5.heap n0 O5 ) hZ (hw _ (List.mem_of_getElem? (i := 30) rfl)) (hw _ (List.mem_of_getElem? (i := 2) rfl)) (by decide) (by decide)) q11a q11c (g := (mkF m 128 #[.val (.long s1), .second, .val (.int i), .val (.long t), .second, .val (.int j), .val (.int md), .val (.ref b1), .val (.int (md &&& (3 : Int32))), .val (.long t), .second, .val (.int i), .val (.ref b3), .val (.ref r_5), .val (.int (0 : Int32))] [.null, (.ref b1)])) rfl (by rw [hml]; rfl) (Steps.refl _) (argsL := [.null]) (rest := []) (lenOf pd_4 rfl) rfl (by show 2 * 0 + _ ≤ _; exact Nat.le_of_eq rfl) (hb hby at_128) (fun _ _ => ⟨rfl, kh10, (by decide : 3 + 0 ≤ _), (by decide : 5 + 0 ≤ _)⟩)
  dsimp only [Pt.U, Pt.locs, Pt.cells, Pt.slots] at X11 l11 y11 z11 st11 hQ11
  subst l11 y11 z11
  obtain ⟨rfl, Nq11, kh11⟩ := hQ11
  have N11 := Fr.app N10 Nq11
  obtain ⟨cq12, kq12, q12a, q12b, q12c⟩ := isOf hZ kh11 (((Po2_0.ext E3).keep kh4).keep kh5)
  obtain ⟨_, _, ⟨T12, L12, k12, n12⟩, -, X12, ⟨Lc12, hQ12, l12, y12, z12⟩, st12⟩ := X11.virtualBack hx (y := (⟨"com/example/maat/maat/Turn", "equals", "(Ljava/lang/Object;)Z"⟩ : MethodName)) (z := (⟨"com/example/maat/maat/Turn", "equals", "(Ljava/lang/Object;)Z"⟩ : MethodName)) hown (mvT hZ (hw _ (List.mem_of_getElem? (i := 26) rfl))) (mvT hZ (hw _ (List.mem_of_getElem? (i := 27) rfl))) (notFace_of_selects (args := #[]) (mvT hZ (hw _ (List.mem_of_getElem? (i := 29) rfl)))) (mvT hZ (hw _ (List.mem_of_getElem? (i := 29) rfl))) (mvT hZ (hw _ (List.mem_of_getElem? (i := 28) rfl))) (by decide) (backOf (W := 0) (eqL l Z a0 hw [] b1 r_5 T5.heap n0 O5 Po5_0) hZ (hw _ (List.mem_of_getElem? (i := 30) rfl)) (hw _ (List.mem_of_getElem? (i := 2) rfl)) (by decide) (by decide)) q12a q12c (g := (mkF m 140 #[.val (.long s1), .second, .val (.int i), .val (.long t), .second, .val (.int j), .val (.int md), .val (.ref b1), .val (.int (md &&& (3 : Int32))), .val (.long t), .second, .val (.int i), .val (.ref b3), .val (.ref r_5), .val (.int (0 : Int32))] [(.ref r_5), (.ref b1)])) rfl (by rw [hml]; rfl) (Steps.refl _) (argsL := [(.ref r_5)]) (rest := []) (lenOf pd_4 rfl) rfl (by show 2 * 0 + _ ≤ _; exact Nat.le_of_eq rfl) (hb hby at_140) (fun _ _ => ⟨rfl, kh11, (by decide : 3 + 0 ≤ _), (by decide : 5 + 0 ≤ _)⟩)
  dsimp only [Pt.U, Pt.locs, Pt.cells, Pt.slots] at X12 l12 y12 z12 st12 hQ12
  subst l12 y12 z12
  obtain ⟨rfl, Nq12, kh12⟩ := hQ12
  have N12 := Fr.app N11 Nq12
  obtain ⟨fs, hr, hrun, hended, hW, hsame⟩ := X12.leave (v := some (.int (1 : Int32))) (fun h => by rw [Bd.returns] at h; cases h)
  refine ⟨_, _, pre0 _ ?_, hrun, hended, _, _, rfl, ?_, ⟨_, rfl⟩, hW, hsame.mono (by decide) (by decide)⟩
  · show Steps p.tables e below (s₁.setTop (mkF m 0 #[.val (.long s1), .second, .val (.int i), .val (.long t), .second, .val (.int j), .val (.int md), .unset, .unset, .unset, .unset, .unset, .unset, .unset, .unset] [])) _
    refine st1 _ ?_
    show Steps p.tables e below (T1.setTop (mkF m 3 #[.val (.long s1), .second, .val (.int i), .val (.long t), .second, .val (.int j), .val (.int md), .unset, .unset, .unset, .unset, .unset, .unset, .unset, .unset] [(.ref b1)])) _
    refine XS.dup X1.here hx rfl (hb hby at_3) rfl rfl ?_
    show Steps p.tables e below (T1.setTop (mkF m 4 #[.val (.long s1), .second, .val (.int i), .val (.long t), .second, .val (.int j), .val (.int md), .unset, .unset, .unset, .unset, .unset, .unset, .unset, .unset] [(.ref b1), (.ref b1)])) _
    refine XS.lloadN X1.here hx rfl (hb hby at_4) rfl ?_
    show Steps p.tables e below (T1.setTop (mkF m 5 #[.val (.long s1), .second, .val (.int i), .val (.long t), .second, .val (.int j), .val (.int md), .unset, .unset, .unset, .unset, .unset, .unset, .unset, .unset] [(.long s1), (.ref b1), (.ref b1)])) _
    refine XS.iloadN X1.here hx rfl (hb hby at_5) rfl ?_
    show Steps p.tables e below (T1.setTop (mkF m 6 #[.val (.long s1), .second, .val (.int i), .val (.long t), .second, .val (.int j), .val (.int md), .unset, .unset, .unset, .unset, .unset, .unset, .unset, .unset] [(.int i), (.long s1), (.ref b1), (.ref b1)])) _
    refine st2.trans ?_
    show Steps p.tables e below (T2.setTop (mkF m 9 #[.val (.long s1), .second, .val (.int i), .val (.long t), .second, .val (.int j), .val (.int md), .unset, .unset, .unset, .unset, .unset, .unset, .unset, .unset] [(.ref b1)])) _
    refine XS.astore X2.here hx rfl (hb hby at_9) rfl rfl (l' := #[.val (.long s1), .second, .val (.int i), .val (.long t), .second, .val (.int j), .val (.int md), .val (.ref b1), .unset, .unset, .unset, .unset, .unset, .unset, .unset]) rfl ?_
    show Steps p.tables e below (T2.setTop (mkF m 11 #[.val (.long s1), .second, .val (.int i), .val (.long t), .second, .val (.int j), .val (.int md), .val (.ref b1), .unset, .unset, .unset, .unset, .unset, .unset, .unset] [])) _
    refine XS.iload X2.here hx rfl (hb hby at_11) rfl ?_
    show Steps p.tables e below (T2.setTop (mkF m 13 #[.val (.long s1), .second, .val (.int i), .val (.long t), .second, .val (.int j), .val (.int md), .val (.ref b1), .unset, .unset, .unset, .unset, .unset, .unset, .unset] [(.int md)])) _
    refine XS.iconst X2.here hx rfl (hb hby at_13) ?_
    show Steps p.tables e below (T2.setTop (mkF m 14 #[.val (.long s1), .second, .val (.int i), .val (.long t), .second, .val (.int j), .val (.int md), .val (.ref b1), .unset, .unset, .unset, .unset, .unset, .unset, .unset] [(.int (3 : Int32)), (.int md)])) _
    refine XS.iand X2.here hx rfl (hb hby at_14) rfl ?_
    show Steps p.tables e below (T2.setTop (mkF m 15 #[.val (.long s1), .second, .val (.int i), .val (.long t), .second, .val (.int j), .val (.int md), .val (.ref b1), .unset, .unset, .unset, .unset, .unset, .unset, .unset] [(.int (md &&& (3 : Int32)))])) _
    refine XS.istore X2.here hx rfl (hb hby at_15) rfl (l' := #[.val (.long s1), .second, .val (.int i), .val (.long t), .second, .val (.int j), .val (.int md), .val (.ref b1), .val (.int (md &&& (3 : Int32))), .unset, .unset, .unset, .unset, .unset, .unset]) rfl ?_
    show Steps p.tables e below (T2.setTop (mkF m 17 #[.val (.long s1), .second, .val (.int i), .val (.long t), .second, .val (.int j), .val (.int md), .val (.ref b1), .val (.int (md &&& (3 : Int32))), .unset, .unset, .unset, .unset, .unset, .unset] [])) _
    refine XS.iload X2.here hx rfl (hb hby at_17) rfl ?_
    show Steps p.tables e below (T2.setTop (mkF m 19 #[.val (.long s1), .second, .val (.int i), .val (.long t), .second, .val (.int j), .val (.int md), .val (.ref b1), .val (.int (md &&& (3 : Int32))), .unset, .unset, .unset, .unset, .unset, .unset] [(.int (md &&& (3 : Int32)))])) _
    refine XS.iconst X2.here hx rfl (hb hby at_19) ?_
    show Steps p.tables e below (T2.setTop (mkF m 20 #[.val (.long s1), .second, .val (.int i), .val (.long t), .second, .val (.int j), .val (.int md), .val (.ref b1), .val (.int (md &&& (3 : Int32))), .unset, .unset, .unset, .unset, .unset, .unset] [(.int (1 : Int32)), (.int (md &&& (3 : Int32)))])) _
    refine XS.iand X2.here hx rfl (hb hby at_20) rfl ?_
    show Steps p.tables e below (T2.setTop (mkF m 21 #[.val (.long s1), .second, .val (.int i), .val (.long t), .second, .val (.int j), .val (.int md), .val (.ref b1), .val (.int (md &&& (3 : Int32))), .unset, .unset, .unset, .unset, .unset, .unset] [(.int ((md &&& (3 : Int32)) &&& (1 : Int32)))])) _
    refine XS.ifNo X2.here hx rfl (hb hby at_21) rfl ((if0 _ _).trans (feq (hc21 : ¬ (((md &&& (3 : Int32)) &&& (1 : Int32)) = (0 : Int32)))).1) ?_
    show Steps p.tables e below (T2.setTop (mkF m 24 #[.val (.long s1), .second, .val (.int i), .val (.long t), .second, .val (.int j), .val (.int md), .val (.ref b1), .val (.int (md &&& (3 : Int32))), .unset, .unset, .unset, .unset, .unset, .unset] [])) _
    refine XS.lloadN X2.here hx rfl (hb hby at_24) rfl ?_
    show Steps p.tables e below (T2.setTop (mkF m 25 #[.val (.long s1), .second, .val (.int i), .val (.long t), .second, .val (.int j), .val (.int md), .val (.ref b1), .val (.int (md &&& (3 : Int32))), .unset, .unset, .unset, .unset, .unset, .unset] [(.long t)])) _
    refine XS.goto X2.here hx rfl (pc0 := 25) (pc' := 29) rfl (hb hby at_25) (by decide) (by decide) ?_
    show Steps p.tables e below (T2.setTop (mkF m 29 #[.val (.long s1), .second, .val (.int i), .val (.long t), .second, .val (.int j), .val (.int md), .val (.ref b1), .val (.int (md &&& (3 : Int32))), .unset, .unset, .unset, .unset, .unset, .unset] [(.long t)])) _
    refine XS.lstore X2.here hx rfl (hb hby at_29) rfl (l' := #[.val (.long s1), .second, .val (.int i), .val (.long t), .second, .val (.int j), .val (.int md), .val (.ref b1), .val (.int (md &&& (3 : Int32))), .val (.long t), .second, .unset, .unset, .unset, .unset]) rfl ?_
    show Steps p.tables e below (T2.setTop (mkF m 31 #[.val (.long s1), .second, .val (.int i), .val (.long t), .second, .val (.int j), .val (.int md), .val (.ref b1), .val (.int (md &&& (3 : Int32))), .val (.long t), .second, .unset, .unset, .unset, .unset] [])) _
    refine XS.iload X2.here hx rfl (hb hby at_31) rfl ?_
    show Steps p.tables e below (T2.setTop (mkF m 33 #[.val (.long s1), .second, .val (.int i), .val (.long t), .second, .val (.int j), .val (.int md), .val (.ref b1), .val (.int (md &&& (3 : Int32))), .val (.long t), .second, .unset, .unset, .unset, .unset] [(.int (md &&& (3 : Int32)))])) _
    refine XS.iconst X2.here hx rfl (hb hby at_33) ?_
    show Steps p.tables e below (T2.setTop (mkF m 34 #[.val (.long s1), .second, .val (.int i), .val (.long t), .second, .val (.int j), .val (.int md), .val (.ref b1), .val (.int (md &&& (3 : Int32))), .val (.long t), .second, .unset, .unset, .unset, .unset] [(.int (2 : Int32)), (.int (md &&& (3 : Int32)))])) _
    refine XS.iand X2.here hx rfl (hb hby at_34) rfl ?_
    show Steps p.tables e below (T2.setTop (mkF m 35 #[.val (.long s1), .second, .val (.int i), .val (.long t), .second, .val (.int j), .val (.int md), .val (.ref b1), .val (.int (md &&& (3 : Int32))), .val (.long t), .second, .unset, .unset, .unset, .unset] [(.int ((md &&& (3 : Int32)) &&& (2 : Int32)))])) _
    refine XS.ifYes X2.here hx rfl (pc0 := 35) (pc' := 43) rfl (hb hby at_35) rfl ((if0 _ _).trans (teq (hc35 : ((md &&& (3 : Int32)) &&& (2 : Int32)) = (0 : Int32))).1) (by decide) (by decide) ?_
    show Steps p.tables e below (T2.setTop (mkF m 43 #[.val (.long s1), .second, .val (.int i), .val (.long t), .second, .val (.int j), .val (.int md), .val (.ref b1), .val (.int (md &&& (3 : Int32))), .val (.long t), .second, .unset, .unset, .unset, .unset] [])) _
    refine XS.iloadN X2.here hx rfl (hb hby at_43) rfl ?_
    show Steps p.tables e below (T2.setTop (mkF m 44 #[.val (.long s1), .second, .val (.int i), .val (.long t), .second, .val (.int j), .val (.int md), .val (.ref b1), .val (.int (md &&& (3 : Int32))), .val (.long t), .second, .unset, .unset, .unset, .unset] [(.int i)])) _
    refine XS.istore X2.here hx rfl (hb hby at_44) rfl (l' := #[.val (.long s1), .second, .val (.int i), .val (.long t), .second, .val (.int j), .val (.int md), .val (.ref b1), .val (.int (md &&& (3 : Int32))), .val (.long t), .second, .val (.int i), .unset, .unset, .unset]) rfl ?_
    show Steps p.tables e below (T2.setTop (mkF m 46 #[.val (.long s1), .second, .val (.int i), .val (.long t), .second, .val (.int j), .val (.int md), .val (.ref b1), .val (.int (md &&& (3 : Int32))), .val (.long t), .second, .val (.int i), .unset, .unset, .unset] [])) _
    refine st3 _ ?_
    show Steps p.tables e below (T3.setTop (mkF m 49 #[.val (.long s1), .second, .val (.int i), .val (.long t), .second, .val (.int j), .val (.int md), .val (.ref b1), .val (.int (md &&& (3 : Int32))), .val (.long t), .second, .val (.int i), .unset, .unset, .unset] [(.ref b3)])) _
    refine XS.dup X3.here hx rfl (hb hby at_49) rfl rfl ?_
    show Steps p.tables e below (T3.setTop (mkF m 50 #[.val (.long s1), .second, .val (.int i), .val (.long t), .second, .val (.int j), .val (.int md), .val (.ref b1), .val (.int (md &&& (3 : Int32))), .val (.long t), .second, .val (.int i), .unset, .unset, .unset] [(.ref b3), (.ref b3)])) _
    refine XS.lload X3.here hx rfl (hb hby at_50) rfl ?_
    show Steps p.tables e below (T3.setTop (mkF m 52 #[.val (.long s1), .second, .val (.int i), .val (.long t), .second, .val (.int j), .val (.int md), .val (.ref b1), .val (.int (md &&& (3 : Int32))), .val (.long t), .second, .val (.int i), .unset, .unset, .unset] [(.long t), (.ref b3), (.ref b3)])) _
    refine XS.iload X3.here hx rfl (hb hby at_52) rfl ?_
    show Steps p.tables e below (T3.setTop (mkF m 54 #[.val (.long s1), .second, .val (.int i), .val (.long t), .second, .val (.int j), .val (.int md), .val (.ref b1), .val (.int (md &&& (3 : Int32))), .val (.long t), .second, .val (.int i), .unset, .unset, .unset] [(.int i), (.long t), (.ref b3), (.ref b3)])) _
    refine st4.trans ?_
    show Steps p.tables e below (T4.setTop (mkF m 57 #[.val (.long s1), .second, .val (.int i), .val (.long t), .second, .val (.int j), .val (.int md), .val (.ref b1), .val (.int (md &&& (3 : Int32))), .val (.long t), .second, .val (.int i), .unset, .unset, .unset] [(.ref b3)])) _
    refine XS.astore X4.here hx rfl (hb hby at_57) rfl rfl (l' := #[.val (.long s1), .second, .val (.int i), .val (.long t), .second, .val (.int j), .val (.int md), .val (.ref b1), .val (.int (md &&& (3 : Int32))), .val (.long t), .second, .val (.int i), .val (.ref b3), .unset, .unset]) rfl ?_
    show Steps p.tables e below (T4.setTop (mkF m 59 #[.val (.long s1), .second, .val (.int i), .val (.long t), .second, .val (.int j), .val (.int md), .val (.ref b1), .val (.int (md &&& (3 : Int32))), .val (.long t), .second, .val (.int i), .val (.ref b3), .unset, .unset] [])) _
    refine XS.lloadN X4.here hx rfl (hb hby at_59) rfl ?_
    show Steps p.tables e below (T4.setTop (mkF m 60 #[.val (.long s1), .second, .val (.int i), .val (.long t), .second, .val (.int j), .val (.int md), .val (.ref b1), .val (.int (md &&& (3 : Int32))), .val (.long t), .second, .val (.int i), .val (.ref b3), .unset, .unset] [(.long s1)])) _
    refine st5 _ ?_
    show Steps p.tables e below (T5.setTop (mkF m 63 #[.val (.long s1), .second, .val (.int i), .val (.long t), .second, .val (.int j), .val (.int md), .val (.ref b1), .val (.int (md &&& (3 : Int32))), .val (.long t), .second, .val (.int i), .val (.ref b3), .unset, .unset] [(.ref r_5)])) _
    refine XS.astore X5.here hx rfl (hb hby at_63) rfl rfl (l' := #[.val (.long s1), .second, .val (.int i), .val (.long t), .second, .val (.int j), .val (.int md), .val (.ref b1), .val (.int (md &&& (3 : Int32))), .val (.long t), .second, .val (.int i), .val (.ref b3), .val (.ref r_5), .unset]) rfl ?_
    show Steps p.tables e below (T5.setTop (mkF m 65 #[.val (.long s1), .second, .val (.int i), .val (.long t), .second, .val (.int j), .val (.int md), .val (.ref b1), .val (.int (md &&& (3 : Int32))), .val (.long t), .second, .val (.int i), .val (.ref b3), .val (.ref r_5), .unset] [])) _
    refine XS.lload X5.here hx rfl (hb hby at_65) rfl ?_
    show Steps p.tables e below (T5.setTop (mkF m 67 #[.val (.long s1), .second, .val (.int i), .val (.long t), .second, .val (.int j), .val (.int md), .val (.ref b1), .val (.int (md &&& (3 : Int32))), .val (.long t), .second, .val (.int i), .val (.ref b3), .val (.ref r_5), .unset] [(.long t)])) _
    refine XS.lloadN X5.here hx rfl (hb hby at_67) rfl ?_
    show Steps p.tables e below (T5.setTop (mkF m 68 #[.val (.long s1), .second, .val (.int i), .val (.long t), .second, .val (.int j), .val (.int md), .val (.ref b1), .val (.int (md &&& (3 : Int32))), .val (.long t), .second, .val (.int i), .val (.ref b3), .val (.ref r_5), .unset] [(.long s1), (.long t)])) _
    refine XS.lcmp X5.here hx rfl (hb hby at_68) rfl ?_
    show Steps p.tables e below (T5.setTop (mkF m 69 #[.val (.long s1), .second, .val (.int i), .val (.long t), .second, .val (.int j), .val (.int md), .val (.ref b1), .val (.int (md &&& (3 : Int32))), .val (.long t), .second, .val (.int i), .val (.ref b3), .val (.ref r_5), .unset] [(.int (lcmpW t s1))])) _
    refine XS.ifYes X5.here hx rfl (pc0 := 69) (pc' := 82) rfl (hb hby at_69) rfl ((if0 _ _).trans (feq (hc69 : ¬ ((lcmpW t s1) = (0 : Int32)))).2) (by decide) (by decide) ?_
    show Steps p.tables e below (T5.setTop (mkF m 82 #[.val (.long s1), .second, .val (.int i), .val (.long t), .second, .val (.int j), .val (.int md), .val (.ref b1), .val (.int (md &&& (3 : Int32))), .val (.long t), .second, .val (.int i), .val (.ref b3), .val (.ref r_5), .unset] [])) _
    refine XS.iconst X5.here hx rfl (hb hby at_82) ?_
    show Steps p.tables e below (T5.setTop (mkF m 83 #[.val (.long s1), .second, .val (.int i), .val (.long t), .second, .val (.int j), .val (.int md), .val (.ref b1), .val (.int (md &&& (3 : Int32))), .val (.long t), .second, .val (.int i), .val (.ref b3), .val (.ref r_5), .unset] [(.int (0 : Int32))])) _
    refine XS.istore X5.here hx rfl (hb hby at_83) rfl (l' := #[.val (.long s1), .second, .val (.int i), .val (.long t), .second, .val (.int j), .val (.int md), .val (.ref b1), .val (.int (md &&& (3 : Int32))), .val (.long t), .second, .val (.int i), .val (.ref b3), .val (.ref r_5), .val (.int (0 : Int32))]) rfl ?_
    show Steps p.tables e below (T5.setTop (mkF m 85 #[.val (.long s1), .second, .val (.int i), .val (.long t), .second, .val (.int j), .val (.int md), .val (.ref b1), .val (.int (md &&& (3 : Int32))), .val (.long t), .second, .val (.int i), .val (.ref b3), .val (.ref r_5), .val (.int (0 : Int32))] [])) _
    refine XS.aload X5.here hx rfl (hb hby at_85) rfl rfl ?_
    show Steps p.tables e below (T5.setTop (mkF m 87 #[.val (.long s1), .second, .val (.int i), .val (.long t), .second, .val (.int j), .val (.int md), .val (.ref b1), .val (.int (md &&& (3 : Int32))), .val (.long t), .second, .val (.int i), .val (.ref b3), .val (.ref r_5), .val (.int (0 : Int32))] [(.ref b1)])) _
    refine XS.aload X5.here hx rfl (hb hby at_87) rfl rfl ?_
    show Steps p.tables e below (T5.setTop (mkF m 89 #[.val (.long s1), .second, .val (.int i), .val (.long t), .second, .val (.int j), .val (.int md), .val (.ref b1), .val (.int (md &&& (3 : Int32))), .val (.long t), .second, .val (.int i), .val (.ref b3), .val (.ref r_5), .val (.int (0 : Int32))] [(.ref b3), (.ref b1)])) _
    refine st8.trans ?_
    show Steps p.tables e below (T8.setTop (mkF m 92 #[.val (.long s1), .second, .val (.int i), .val (.long t), .second, .val (.int j), .val (.int md), .val (.ref b1), .val (.int (md &&& (3 : Int32))), .val (.long t), .second, .val (.int i), .val (.ref b3), .val (.ref r_5), .val (.int (0 : Int32))] [(.int (eqV s1 i t i))])) _
    refine XS.iload X8.here hx rfl (hb hby at_92) rfl ?_
    show Steps p.tables e below (T8.setTop (mkF m 94 #[.val (.long s1), .second, .val (.int i), .val (.long t), .second, .val (.int j), .val (.int md), .val (.ref b1), .val (.int (md &&& (3 : Int32))), .val (.long t), .second, .val (.int i), .val (.ref b3), .val (.ref r_5), .val (.int (0 : Int32))] [(.int (0 : Int32)), (.int (eqV s1 i t i))])) _
    refine XS.icmpYes X8.here hx rfl (pc0 := 94) (pc' := 99) rfl (hb hby at_94) rfl (teq ((eqV_n1 fun h => lw_f hc69 h.symm) : (eqV s1 i t i) = (0 : Int32))).1 (by decide) (by decide) ?_
    show Steps p.tables e below (T8.setTop (mkF m 99 #[.val (.long s1), .second, .val (.int i), .val (.long t), .second, .val (.int j), .val (.int md), .val (.ref b1), .val (.int (md &&& (3 : Int32))), .val (.long t), .second, .val (.int i), .val (.ref b3), .val (.ref r_5), .val (.int (0 : Int32))] [])) _
    refine XS.aload X8.here hx rfl (hb hby at_99) rfl rfl ?_
    show Steps p.tables e below (T8.setTop (mkF m 101 #[.val (.long s1), .second, .val (.int i), .val (.long t), .second, .val (.int j), .val (.int md), .val (.ref b1), .val (.int (md &&& (3 : Int32))), .val (.long t), .second, .val (.int i), .val (.ref b3), .val (.ref r_5), .val (.int (0 : Int32))] [(.ref b3)])) _
    refine XS.aload X8.here hx rfl (hb hby at_101) rfl rfl ?_
    show Steps p.tables e below (T8.setTop (mkF m 103 #[.val (.long s1), .second, .val (.int i), .val (.long t), .second, .val (.int j), .val (.int md), .val (.ref b1), .val (.int (md &&& (3 : Int32))), .val (.long t), .second, .val (.int i), .val (.ref b3), .val (.ref r_5), .val (.int (0 : Int32))] [(.ref b1), (.ref b3)])) _
    refine st9.trans ?_
    show Steps p.tables e below (T9.setTop (mkF m 106 #[.val (.long s1), .second, .val (.int i), .val (.long t), .second, .val (.int j), .val (.int md), .val (.ref b1), .val (.int (md &&& (3 : Int32))), .val (.long t), .second, .val (.int i), .val (.ref b3), .val (.ref r_5), .val (.int (0 : Int32))] [(.int (eqV t i s1 i))])) _
    refine XS.iload X9.here hx rfl (hb hby at_106) rfl ?_
    show Steps p.tables e below (T9.setTop (mkF m 108 #[.val (.long s1), .second, .val (.int i), .val (.long t), .second, .val (.int j), .val (.int md), .val (.ref b1), .val (.int (md &&& (3 : Int32))), .val (.long t), .second, .val (.int i), .val (.ref b3), .val (.ref r_5), .val (.int (0 : Int32))] [(.int (0 : Int32)), (.int (eqV t i s1 i))])) _
    refine XS.icmpYes X9.here hx rfl (pc0 := 108) (pc' := 113) rfl (hb hby at_108) rfl (teq ((eqV_n1 (lw_f hc69)) : (eqV t i s1 i) = (0 : Int32))).1 (by decide) (by decide) ?_
    show Steps p.tables e below (T9.setTop (mkF m 113 #[.val (.long s1), .second, .val (.int i), .val (.long t), .second, .val (.int j), .val (.int md), .val (.ref b1), .val (.int (md &&& (3 : Int32))), .val (.long t), .second, .val (.int i), .val (.ref b3), .val (.ref r_5), .val (.int (0 : Int32))] [])) _
    refine XS.aload X9.here hx rfl (hb hby at_113) rfl rfl ?_
    show Steps p.tables e below (T9.setTop (mkF m 115 #[.val (.long s1), .second, .val (.int i), .val (.long t), .second, .val (.int j), .val (.int md), .val (.ref b1), .val (.int (md &&& (3 : Int32))), .val (.long t), .second, .val (.int i), .val (.ref b3), .val (.ref r_5), .val (.int (0 : Int32))] [(.ref b1)])) _
    refine XS.aload X9.here hx rfl (hb hby at_115) rfl rfl ?_
    show Steps p.tables e below (T9.setTop (mkF m 117 #[.val (.long s1), .second, .val (.int i), .val (.long t), .second, .val (.int j), .val (.int md), .val (.ref b1), .val (.int (md &&& (3 : Int32))), .val (.long t), .second, .val (.int i), .val (.ref b3), .val (.ref r_5), .val (.int (0 : Int32))] [(.ref b1), (.ref b1)])) _
    refine st10.trans ?_
    show Steps p.tables e below (T10.setTop (mkF m 120 #[.val (.long s1), .second, .val (.int i), .val (.long t), .second, .val (.int j), .val (.int md), .val (.ref b1), .val (.int (md &&& (3 : Int32))), .val (.long t), .second, .val (.int i), .val (.ref b3), .val (.ref r_5), .val (.int (0 : Int32))] [(.int (eqV s1 i s1 i))])) _
    refine XS.ifYes X10.here hx rfl (pc0 := 120) (pc' := 125) rfl (hb hby at_120) rfl ((if0 _ _).trans (feq ((by rw [eqV_y rfl rfl]; decide) : ¬ ((eqV s1 i s1 i) = (0 : Int32)))).2) (by decide) (by decide) ?_
    show Steps p.tables e below (T10.setTop (mkF m 125 #[.val (.long s1), .second, .val (.int i), .val (.long t), .second, .val (.int j), .val (.int md), .val (.ref b1), .val (.int (md &&& (3 : Int32))), .val (.long t), .second, .val (.int i), .val (.ref b3), .val (.ref r_5), .val (.int (0 : Int32))] [])) _
    refine XS.aload X10.here hx rfl (hb hby at_125) rfl rfl ?_
    show Steps p.tables e below (T10.setTop (mkF m 127 #[.val (.long s1), .second, .val (.int i), .val (.long t), .second, .val (.int j), .val (.int md), .val (.ref b1), .val (.int (md &&& (3 : Int32))), .val (.long t), .second, .val (.int i), .val (.ref b3), .val (.ref r_5), .val (.int (0 : Int32))] [(.ref b1)])) _
    refine XS.aconstNull X10.here hx rfl (hb hby at_127) ?_
    show Steps p.tables e below (T10.setTop (mkF m 128 #[.val (.long s1), .second, .val (.int i), .val (.long t), .second, .val (.int j), .val (.int md), .val (.ref b1), .val (.int (md &&& (3 : Int32))), .val (.long t), .second, .val (.int i), .val (.ref b3), .val (.ref r_5), .val (.int (0 : Int32))] [.null, (.ref b1)])) _
    refine st11.trans ?_
    show Steps p.tables e below (T11.setTop (mkF m 131 #[.val (.long s1), .second, .val (.int i), .val (.long t), .second, .val (.int j), .val (.int md), .val (.ref b1), .val (.int (md &&& (3 : Int32))), .val (.long t), .second, .val (.int i), .val (.ref b3), .val (.ref r_5), .val (.int (0 : Int32))] [(.int (0 : Int32))])) _
    refine XS.ifYes X11.here hx rfl (pc0 := 131) (pc' := 136) rfl (hb hby at_131) rfl ((if0 _ _).trans (teq (by decide : (0 : Int32) = (0 : Int32))).1) (by decide) (by decide) ?_
    show Steps p.tables e below (T11.setTop (mkF m 136 #[.val (.long s1), .second, .val (.int i), .val (.long t), .second, .val (.int j), .val (.int md), .val (.ref b1), .val (.int (md &&& (3 : Int32))), .val (.long t), .second, .val (.int i), .val (.ref b3), .val (.ref r_5), .val (.int (0 : Int32))] [])) _
    refine XS.aload X11.here hx rfl (hb hby at_136) rfl rfl ?_
    show Steps p.tables e below (T11.setTop (mkF m 138 #[.val (.long s1), .second, .val (.int i), .val (.long t), .second, .val (.int j), .val (.int md), .val (.ref b1), .val (.int (md &&& (3 : Int32))), .val (.long t), .second, .val (.int i), .val (.ref b3), .val (.ref r_5), .val (.int (0 : Int32))] [(.ref b1)])) _
    refine XS.aload X11.here hx rfl (hb hby at_138) rfl rfl ?_
    show Steps p.tables e below (T11.setTop (mkF m 140 #[.val (.long s1), .second, .val (.int i), .val (.long t), .second, .val (.int j), .val (.int md), .val (.ref b1), .val (.int (md &&& (3 : Int32))), .val (.long t), .second, .val (.int i), .val (.ref b3), .val (.ref r_5), .val (.int (0 : Int32))] [(.ref r_5), (.ref b1)])) _
    refine st12.trans ?_
    show Steps p.tables e below (T12.setTop (mkF m 143 #[.val (.long s1), .second, .val (.int i), .val (.long t), .second, .val (.int j), .val (.int md), .val (.ref b1), .val (.int (md &&& (3 : Int32))), .val (.long t), .second, .val (.int i), .val (.ref b3), .val (.ref r_5), .val (.int (0 : Int32))] [(.int (0 : Int32))])) _
    refine XS.ifYes X12.here hx rfl (pc0 := 143) (pc' := 148) rfl (hb hby at_143) rfl ((if0 _ _).trans (teq (by decide : (0 : Int32) = (0 : Int32))).1) (by decide) (by decide) ?_
    show Steps p.tables e below (T12.setTop (mkF m 148 #[.val (.long s1), .second, .val (.int i), .val (.long t), .second, .val (.int j), .val (.int md), .val (.ref b1), .val (.int (md &&& (3 : Int32))), .val (.long t), .second, .val (.int i), .val (.ref b3), .val (.ref r_5), .val (.int (0 : Int32))] [])) _
    refine XS.iconst X12.here hx rfl (hb hby at_148) ?_
    show Steps p.tables e below (T12.setTop (mkF m 149 #[.val (.long s1), .second, .val (.int i), .val (.long t), .second, .val (.int j), .val (.int md), .val (.ref b1), .val (.int (md &&& (3 : Int32))), .val (.long t), .second, .val (.int i), .val (.ref b3), .val (.ref r_5), .val (.int (0 : Int32))] [(.int (1 : Int32))])) _
    exact retN X12 hx (t := .boolean) Bd.returns (by simp) (hb hby at_149) hr
  · show Q_law Z s1 i t j md wc h0 n0 _ T12.heap _
    rw [kh12]
    exact ⟨rfl, N12⟩
set_option maxRecDepth 65536 in
set_option maxHeartbeats 40000000 in
theorem law_6 (l : Launch) (Z : State) (a0 : Array Value) (hw : ∀ d ∈ tables_1, d.before a0 Z = true) (ws : List Jvm.Cond) (s1 : Int64) (i : Int32) (t : Int64) (j : Int32) (md : Int32) (wc : Addr) (h0 : Heap) (n0 : Nat) (O0 : Old Z n0 h0) (G0 : Sta Z Z.heap "java/lang/Long$LongCache" "cache" "[Ljava/lang/Long;" (.ref wc)) (CA : Cache Z wc "java/lang/Long") (hc21 : ¬ (((md &&& (3 : Int32)) &&& (1 : Int32)) = (0 : Int32))) (hc35 : ¬ (((md &&& (3 : Int32)) &&& (2 : Int32)) = (0 : Int32))) (hc69 : (lcmpW t s1) = (0 : Int32)) (hc75 : j = i) :
    MetFree l x (head1 (Jvm.Cond.code x code maxLocals ret :: ws) room_1) (fun zA zU => zA = #[(.long s1), (.int i), (.long t), (.int j), (.int md)] ∧ Z.Warmed39 zU.vm ∧ zU.heap = h0) (fun _ _ _ _ _ => True) (fun _ zU zo zU' => ∃ zv zL, zo = .returned zv ∧ Q_law Z s1 i t j md wc h0 n0 zv zU'.heap zL ∧ FrameEnd zU zo zU' zL room_1.cells room_1.slots) := by
  refine MetFree.of_bodySF (plainFor_of_name pn_11) hisR ?_
  intro p e s m args below meth c s₁ Bd hml0 hP hK
  obtain ⟨rfl, hZ, hh⟩ := hP
  have hx := Bd.exec
  have hby := Bd.bytes
  have hml : c.maxLocals = 15 := hml0
  have hown : s.vm.findClass "com/example/maat/maat/TurnEqualsPinLaw" = some m.cls := findClass_of_methodNamed Bd.named
  have hnm := (name_of_methodNamed Bd.named Bd.method).1
  have X0 : Stand p l e room_1 s m #[(.long s1), (.int i), (.long t), (.int j), (.int md)] below meth c s₁ [] 0 0 := Stand.of_body Bd
  have e0 : s₁.heap = h0 := by rw [← hh, Bd.state]; rfl
  have N0 := Fr.nil n0
  have Z0 : n0 ≤ h0.size := O0.1 ▸ O0.2.1
  have pre0 : ∀ zt, Steps p.tables e below (s₁.setTop (mkF m 0 #[.val (.long s1), .second, .val (.int i), .val (.long t), .second, .val (.int j), .val (.int md), .unset, .unset, .unset, .unset, .unset, .unset, .unset, .unset] [])) zt → Steps p.tables e below (s₁.setTop (entryFrame m #[(.long s1), (.int i), (.long t), (.int j), (.int md)] maxLocals)) zt := fun zt zk => castTop (ef_0_JIJII m s1 i t j md) zk
  obtain ⟨T1, h1, X1, e1, E1, A1, D1, U1, st1⟩ := newO X0 hx hZ hown (hw _ (List.mem_of_getElem? (i := 0) rfl)) (hw _ (List.mem_of_getElem? (i := 1) rfl)) (hw _ (List.mem_of_getElem? (i := 2) rfl)) e0 (g := (mkF m 0 #[.val (.long s1), .second, .val (.int i), .val (.long t), .second, .val (.int j), .val (.int md), .unset, .unset, .unset, .unset, .unset, .unset, .unset, .unset] [])) rfl (hb hby at_0) (by decide) (by decide)
  obtain ⟨b1, gz1⟩ : ∃ z, z = h0.size := ⟨_, rfl⟩
  rw [← gz1] at A1 D1 U1 st1
  have sz_b1 : h0.size ≤ b1 := Nat.le_trans (Keep.refl h0 []).1 (Nat.le_of_eq gz1.symm)
  have g_b1 : n0 ≤ b1 := Nat.le_trans Z0 sz_b1
  have O1 := O0.ext E1
  have K1 : Keep h0 h1 [] := (Keep.refl h0 []).ext E1
  have Fi1_15 : Fld Z h1 b1 "com/example/maat/maat/Turn" "seq" "J" (.long (0 : Int64)) := D1 (Or.inr (hw _ (List.mem_of_getElem? (i := 15) rfl))) (ty := .long) (by decide)
  have Fi1_17 : Fld Z h1 b1 "com/example/maat/maat/Turn" "index" "I" (.int (0 : Int32)) := D1 (Or.inr (hw _ (List.mem_of_getElem? (i := 17) rfl))) (ty := .int) (by decide)
  obtain ⟨_, _, ⟨T2, L2, k2, n2⟩, -, X2, ⟨Lc2, hQ2, l2, y2, z2⟩, st2⟩ := X1.specialBack hx (y := (⟨"com/example/maat/maat/Turn", "<init>", "(JI)V"⟩ : MethodName)) rfl hown (mvT hZ (hw _ (List.mem_of_getElem? (i := 3) rfl))) (mvT hZ (hw _ (List.mem_of_getElem? (i := 4) rfl))) (mvT hZ (hw _ (List.mem_of_getElem? (i := 5) rfl))) (by decide) (backOf (W := 1) (turnI l Z a0 hw [] b1 s1 i h1 n0 O1 Fi1_15 Fi1_17 A1 g_b1) hZ (hw _ (List.mem_of_getElem? (i := 5) rfl)) (hw _ (List.mem_of_getElem? (i := 2) rfl)) (by decide) (by decide)) (g := (mkF m 6 #[.val (.long s1), .second, .val (.int i), .val (.long t), .second, .val (.int j), .val (.int md), .unset, .unset, .unset, .unset, .unset, .unset, .unset, .unset] [(.int i), (.long s1), (.ref b1), (.ref b1)])) rfl (by rw [hml]; rfl) (Steps.refl _) (a := b1) (argsL := [(.long s1), (.int i)]) (rest := [(.ref b1)]) (lenOf pd_2 rfl) rfl (by show 2 * 0 + _ ≤ _; exact Nat.le_of_eq rfl) (hb hby at_6) (fun _ _ => ⟨rfl, e1, (by decide : 1 + 0 ≤ _), (by decide : 2 + 0 ≤ _)⟩)
  dsimp only [Pt.U, Pt.locs, Pt.cells, Pt.slots] at X2 l2 y2 z2 st2 hQ2
  subst l2 y2 z2
  obtain ⟨rfl, Nq2, kh2, Po2_0, Po2_1, Po2_2⟩ := hQ2
  have N2 := Fr.app N0 Nq2
  have O2 := O1.keep kh2 (allS g_b1 all0)
  have K2 : Keep h0 T2.heap [] := K1.trans kh2 (allS (Or.inr sz_b1) all0)
  obtain ⟨T3, h3, X3, e3, E3, A3, D3, U3, st3⟩ := newO X2 hx hZ hown (hw _ (List.mem_of_getElem? (i := 0) rfl)) (hw _ (List.mem_of_getElem? (i := 1) rfl)) (hw _ (List.mem_of_getElem? (i := 2) rfl)) rfl (g := (mkF m 46 #[.val (.long s1), .second, .val (.int i), .val (.long t), .second, .val (.int j), .val (.int md), .val (.ref b1), .val (.int (md &&& (3 : Int32))), .val (.long t), .second, .val (.int j), .unset, .unset, .unset] [])) rfl (hb hby at_46) (by decide) (by decide)
  obtain ⟨b3, gz3⟩ : ∃ z, z = T2.heap.size := ⟨_, rfl⟩
  rw [← gz3] at A3 D3 U3 st3
  have sz_b3 : h0.size ≤ b3 := Nat.le_trans K2.1 (Nat.le_of_eq gz3.symm)
  have g_b3 : n0 ≤ b3 := Nat.le_trans Z0 sz_b3
  have O3 := O2.ext E3
  have K3 : Keep h0 h3 [] := K2.ext E3
  have Fi3_15 : Fld Z h3 b3 "com/example/maat/maat/Turn" "seq" "J" (.long (0 : Int64)) := D3 (Or.inr (hw _ (List.mem_of_getElem? (i := 15) rfl))) (ty := .long) (by decide)
  have Fi3_17 : Fld Z h3 b3 "com/example/maat/maat/Turn" "index" "I" (.int (0 : Int32)) := D3 (Or.inr (hw _ (List.mem_of_getElem? (i := 17) rfl))) (ty := .int) (by decide)
  obtain ⟨_, _, ⟨T4, L4, k4, n4⟩, -, X4, ⟨Lc4, hQ4, l4, y4, z4⟩, st4⟩ := X3.specialBack hx (y := (⟨"com/example/maat/maat/Turn", "<init>", "(JI)V"⟩ : MethodName)) rfl hown (mvT hZ (hw _ (List.mem_of_getElem? (i := 3) rfl))) (mvT hZ (hw _ (List.mem_of_getElem? (i := 4) rfl))) (mvT hZ (hw _ (List.mem_of_getElem? (i := 5) rfl))) (by decide) (backOf (W := 1) (turnI l Z a0 hw [] b3 t j h3 n0 O3 Fi3_15 Fi3_17 A3 g_b3) hZ (hw _ (List.mem_of_getElem? (i := 5) rfl)) (hw _ (List.mem_of_getElem? (i := 2) rfl)) (by decide) (by decide)) (g := (mkF m 54 #[.val (.long s1), .second, .val (.int i), .val (.long t), .second, .val (.int j), .val (.int md), .val (.ref b1), .val (.int (md &&& (3 : Int32))), .val (.long t), .second, .val (.int j), .unset, .unset, .unset] [(.int j), (.long t), (.ref b3), (.ref b3)])) rfl (by rw [hml]; rfl) (Steps.refl _) (a := b3) (argsL := [(.long t), (.int j)]) (rest := [(.ref b3)]) (lenOf pd_2 rfl) rfl (by show 2 * 0 + _ ≤ _; exact Nat.le_of_eq rfl) (hb hby at_54) (fun _ _ => ⟨rfl, e3, (by decide : 2 + 0 ≤ _), (by decide : 4 + 0 ≤ _)⟩)
  dsimp only [Pt.U, Pt.locs, Pt.cells, Pt.slots] at X4 l4 y4 z4 st4 hQ4
  subst l4 y4 z4
  obtain ⟨rfl, Nq4, kh4, Po4_0, Po4_1, Po4_2⟩ := hQ4
  have N4 := Fr.app N2 Nq4
  have O4 := O3.keep kh4 (allS g_b3 all0)
  have K4 : Keep h0 T4.heap [] := K3.trans kh4 (allS (Or.inr sz_b3) all0)
  obtain ⟨_, _, ⟨T5, L5, k5, n5⟩, -, X5, ⟨Lc5, hQ5, l5, y5, z5⟩, st5⟩ := Jvm.LawKit.callS X4 hx (y := (⟨"java/lang/Long", "valueOf", "(J)Ljava/lang/Long;"⟩ : MethodName)) hown (mvT hZ (hw _ (List.mem_of_getElem? (i := 18) rfl))) (mvT hZ (hw _ (List.mem_of_getElem? (i := 19) rfl))) (mvT hZ (hw _ (List.mem_of_getElem? (i := 20) rfl))) (mvT hZ (hw _ (List.mem_of_getElem? (i := 21) rfl))) (by decide) (backOf (W := 0) (valueOf l Z a0 hw [] s1 wc T4.heap n0 O4 G0 CA) hZ (hw _ (List.mem_of_getElem? (i := 21) rfl)) (hw _ (List.mem_of_getElem? (i := 20) rfl)) (by decide) (by decide)) (g := (mkF m 60 #[.val (.long s1), .second, .val (.int i), .val (.long t), .second, .val (.int j), .val (.int md), .val (.ref b1), .val (.int (md &&& (3 : Int32))), .val (.long t), .second, .val (.int j), .val (.ref b3), .unset, .unset] [(.long s1)])) rfl (by rw [hml]; rfl) (argsL := [(.long s1)]) (rest := []) (lenOf pd_3 rfl) rfl (by show 2 * 0 + _ ≤ _; exact Nat.le_of_eq rfl) (hb hby at_60) (fun _ _ => ⟨rfl, rfl, (by decide : 2 + 1 ≤ _), (by decide : 4 + 1 ≤ _)⟩)
  dsimp only [Pt.U, Pt.locs, Pt.cells, Pt.slots] at X5 l5 y5 z5 st5 hQ5
  subst l5 y5 z5
  obtain ⟨r_5, rfl, Nq5, kh5, Po5_0⟩ := hQ5
  have N5 := Fr.app N4 Nq5
  have O5 := O4.keep kh5 all0
  have K5 : Keep h0 T5.heap [] := K4.trans kh5 all0
  have c6 : Fld Z T5.heap b1 "com/example/maat/maat/Turn" "seq" "J" (.long s1) := (((Po2_1.ext E3).keep kh4 (ninS (Nat.ne_of_lt (Nat.lt_of_lt_of_le (Po2_0).lt (Nat.le_of_eq gz3.symm))) nin0)).keep kh5 nin0)
  have c7 : Fld Z T5.heap b1 "com/example/maat/maat/Turn" "index" "I" (.int i) := (((Po2_2.ext E3).keep kh4 (ninS (Nat.ne_of_lt (Nat.lt_of_lt_of_le (Po2_0).lt (Nat.le_of_eq gz3.symm))) nin0)).keep kh5 nin0)
  obtain ⟨cq8, kq8, q8a, q8b, q8c⟩ := isOf hZ rfl (((Po2_0.ext E3).keep kh4).keep kh5)
  obtain ⟨_, _, ⟨T8, L8, k8, n8⟩, -, X8, ⟨Lc8, hQ8, l8, y8, z8⟩, st8⟩ := X5.virtualBack hx (y := (⟨"com/example/maat/maat/Turn", "equals", "(Ljava/lang/Object;)Z"⟩ : MethodName)) (z := (⟨"com/example/maat/maat/Turn", "equals", "(Ljava/lang/Object;)Z"⟩ : MethodName)) hown (mvT hZ (hw _ (List.mem_of_getElem? (i := 26) rfl))) (mvT hZ (hw _ (List.mem_of_getElem? (i := 27) rfl))) (notFace_of_selects (args := #[]) (mvT hZ (hw _ (List.mem_of_getElem? (i := 29) rfl)))) (mvT hZ (hw _ (List.mem_of_getElem? (i := 29) rfl))) (mvT hZ (hw _ (List.mem_of_getElem? (i := 28) rfl))) (by decide) (backOf (W := 0) (eqT l Z a0 hw [] b1 b3 s1 i t j T5.heap n0 O5 c6 c7 (Po4_1.keep kh5 nin0) (Po4_2.keep kh5 nin0) (Po4_0.keep kh5)) hZ (hw _ (List.mem_of_getElem? (i := 30) rfl)) (hw _ (List.mem_of_getElem? (i := 2) rfl)) (by decide) (by decide)) q8a q8c (g := (mkF m 89 #[.val (.long s1), .second, .val (.int i), .val (.long t), .second, .val (.int j), .val (.int md), .val (.ref b1), .val (.int (md &&& (3 : Int32))), .val (.long t), .second, .val (.int j), .val (.ref b3), .val (.ref r_5), .val (.int (1 : Int32))] [(.ref b3), (.ref b1)])) rfl (by rw [hml]; rfl) (Steps.refl _) (argsL := [(.ref b3)]) (rest := []) (lenOf pd_4 rfl) rfl (by show 2 * 0 + _ ≤ _; exact Nat.le_of_eq rfl) (hb hby at_89) (fun _ _ => ⟨rfl, rfl, (by decide : 3 + 0 ≤ _), (by decide : 5 + 0 ≤ _)⟩)
  dsimp only [Pt.U, Pt.locs, Pt.cells, Pt.slots] at X8 l8 y8 z8 st8 hQ8
  subst l8 y8 z8
  obtain ⟨rfl, Nq8, kh8⟩ := hQ8
  have N8 := Fr.app N5 Nq8
  obtain ⟨cq9, kq9, q9a, q9b, q9c⟩ := isOf hZ kh8 (Po4_0.keep kh5)
  obtain ⟨_, _, ⟨T9, L9, k9, n9⟩, -, X9, ⟨Lc9, hQ9, l9, y9, z9⟩, st9⟩ := X8.virtualBack hx (y := (⟨"com/example/maat/maat/Turn", "equals", "(Ljava/lang/Object;)Z"⟩ : MethodName)) (z := (⟨"com/example/maat/maat/Turn", "equals", "(Ljava/lang/Object;)Z"⟩ : MethodName)) hown (mvT hZ (hw _ (List.mem_of_getElem? (i := 26) rfl))) (mvT hZ (hw _ (List.mem_of_getElem? (i := 27) rfl))) (notFace_of_selects (args := #[]) (mvT hZ (hw _ (List.mem_of_getElem? (i := 29) rfl)))) (mvT hZ (hw _ (List.mem_of_getElem? (i := 29) rfl))) (mvT hZ (hw _ (List.mem_of_getElem? (i := 28) rfl))) (by decide) (backOf (W := 0) (eqT l Z a0 hw [] b3 b1 t j s1 i T5.heap n0 O5 (Po4_1.keep kh5 nin0) (Po4_2.keep kh5 nin0) c6 c7 (((Po2_0.ext E3).keep kh4).keep kh5)) hZ (hw _ (List.mem_of_getElem? (i := 30) rfl)) (hw _ (List.mem_of_getElem? (i := 2) rfl)) (by decide) (by decide)) q9a q9c (g := (mkF m 103 #[.val (.long s1), .second, .val (.int i), .val (.long t), .second, .val (.int j), .val (.int md), .val (.ref b1), .val (.int (md &&& (3 : Int32))), .val (.long t), .second, .val (.int j), .val (.ref b3), .val (.ref r_5), .val (.int (1 : Int32))] [(.ref b1), (.ref b3)])) rfl (by rw [hml]; rfl) (Steps.refl _) (argsL := [(.ref b1)]) (rest := []) (lenOf pd_4 rfl) rfl (by show 2 * 0 + _ ≤ _; exact Nat.le_of_eq rfl) (hb hby at_103) (fun _ _ => ⟨rfl, kh8, (by decide : 3 + 0 ≤ _), (by decide : 5 + 0 ≤ _)⟩)
  dsimp only [Pt.U, Pt.locs, Pt.cells, Pt.slots] at X9 l9 y9 z9 st9 hQ9
  subst l9 y9 z9
  obtain ⟨rfl, Nq9, kh9⟩ := hQ9
  have N9 := Fr.app N8 Nq9
  obtain ⟨cq10, kq10, q10a, q10b, q10c⟩ := isOf hZ kh9 (((Po2_0.ext E3).keep kh4).keep kh5)
  obtain ⟨_, _, ⟨T10, L10, k10, n10⟩, -, X10, ⟨Lc10, hQ10, l10, y10, z10⟩, st10⟩ := X9.virtualBack hx (y := (⟨"com/example/maat/maat/Turn", "equals", "(Ljava/lang/Object;)Z"⟩ : MethodName)) (z := (⟨"com/example/maat/maat/Turn", "equals", "(Ljava/lang/Object;)Z"⟩ : MethodName)) hown (mvT hZ (hw _ (List.mem_of_getElem? (i := 26) rfl))) (mvT hZ (hw _ (List.mem_of_getElem? (i := 27) rfl))) (notFace_of_selects (args := #[]) (mvT hZ (hw _ (List.mem_of_getElem? (i := 29) rfl)))) (mvT hZ (hw _ (List.mem_of_getElem? (i := 29) rfl))) (mvT hZ (hw _ (List.mem_of_getElem? (i := 28) rfl))) (by decide) (backOf (W := 0) (eqT l Z a0 hw [] b1 b1 s1 i s1 i T5.heap n0 O5 c6 c7 c6 c7 (((Po2_0.ext E3).keep kh4).keep kh5)) hZ (hw _ (List.mem_of_getElem? (i := 30) rfl)) (hw _ (List.mem_of_getElem? (i := 2) rfl)) (by decide) (by decide)) q10a q10c (g := (mkF m 117 #[.val (.long s1), .second, .val (.int i), .val (.long t), .second, .val (.int j), .val (.int md), .val (.ref b1), .val (.int (md &&& (3 : Int32))), .val (.long t), .second, .val (.int j), .val (.ref b3), .val (.ref r_5), .val (.int (1 : Int32))] [(.ref b1), (.ref b1)])) rfl (by rw [hml]; rfl) (Steps.refl _) (argsL := [(.ref b1)]) (rest := []) (lenOf pd_4 rfl) rfl (by show 2 * 0 + _ ≤ _; exact Nat.le_of_eq rfl) (hb hby at_117) (fun _ _ => ⟨rfl, kh9, (by decide : 3 + 0 ≤ _), (by decide : 5 + 0 ≤ _)⟩)
  dsimp only [Pt.U, Pt.locs, Pt.cells, Pt.slots] at X10 l10 y10 z10 st10 hQ10
  subst l10 y10 z10
  obtain ⟨rfl, Nq10, kh10⟩ := hQ10
  have N10 := Fr.app N9 Nq10
  obtain ⟨cq11, kq11, q11a, q11b, q11c⟩ := isOf hZ kh10 (((Po2_0.ext E3).keep kh4).keep kh5)
  obtain ⟨_, _, ⟨T11, L11, k11, n11⟩, -, X11, ⟨Lc11, hQ11, l11, y11, z11⟩, st11⟩ := X10.virtualBack hx (y := (⟨"com/example/maat/maat/Turn", "equals", "(Ljava/lang/Object;)Z"⟩ : MethodName)) (z := (⟨"com/example/maat/maat/Turn", "equals", "(Ljava/lang/Object;)Z"⟩ : MethodName)) hown (mvT hZ (hw _ (List.mem_of_getElem? (i := 26) rfl))) (mvT hZ (hw _ (List.mem_of_getElem? (i := 27) rfl))) (notFace_of_selects (args := #[]) (mvT hZ (hw _ (List.mem_of_getElem? (i := 29) rfl)))) (mvT hZ (hw _ (List.mem_of_getElem? (i := 29) rfl))) (mvT hZ (hw _ (List.mem_of_getElem? (i := 28) rfl))) (by decide) (backOf (W := 0) (eqN l Z a0 hw [] b1 T5.heap n0 O5 ) hZ (hw _ (List.mem_of_getElem? (i := 30) rfl)) (hw _ (List.mem_of_getElem? (i := 2) rfl)) (by decide) (by decide)) q11a q11c (g := (mkF m 128 #[.val (.long s1), .second, .val (.int i), .val (.long t), .second, .val (.int j), .val (.int md), .val (.ref b1), .val (.int (md &&& (3 : Int32))), .val (.long t), .second, .val (.int j), .val (.ref b3), .val (.ref r_5), .val (.int (1 : Int32))] [.null, (.ref b1)])) rfl (by rw [hml]; rfl) (Steps.refl _) (argsL := [.null]) (rest := []) (lenOf pd_4 rfl) rfl (by show 2 * 0 + _ ≤ _; exact Nat.le_of_eq rfl) (hb hby at_128) (fun _ _ => ⟨rfl, kh10, (by decide : 3 + 0 ≤ _), (by decide : 5 + 0 ≤ _)⟩)
  dsimp only [Pt.U, Pt.locs, Pt.cells, Pt.slots] at X11 l11 y11 z11 st11 hQ11
  subst l11 y11 z11
  obtain ⟨rfl, Nq11, kh11⟩ := hQ11
  have N11 := Fr.app N10 Nq11
  obtain ⟨cq12, kq12, q12a, q12b, q12c⟩ := isOf hZ kh11 (((Po2_0.ext E3).keep kh4).keep kh5)
  obtain ⟨_, _, ⟨T12, L12, k12, n12⟩, -, X12, ⟨Lc12, hQ12, l12, y12, z12⟩, st12⟩ := X11.virtualBack hx (y := (⟨"com/example/maat/maat/Turn", "equals", "(Ljava/lang/Object;)Z"⟩ : MethodName)) (z := (⟨"com/example/maat/maat/Turn", "equals", "(Ljava/lang/Object;)Z"⟩ : MethodName)) hown (mvT hZ (hw _ (List.mem_of_getElem? (i := 26) rfl))) (mvT hZ (hw _ (List.mem_of_getElem? (i := 27) rfl))) (notFace_of_selects (args := #[]) (mvT hZ (hw _ (List.mem_of_getElem? (i := 29) rfl)))) (mvT hZ (hw _ (List.mem_of_getElem? (i := 29) rfl))) (mvT hZ (hw _ (List.mem_of_getElem? (i := 28) rfl))) (by decide) (backOf (W := 0) (eqL l Z a0 hw [] b1 r_5 T5.heap n0 O5 Po5_0) hZ (hw _ (List.mem_of_getElem? (i := 30) rfl)) (hw _ (List.mem_of_getElem? (i := 2) rfl)) (by decide) (by decide)) q12a q12c (g := (mkF m 140 #[.val (.long s1), .second, .val (.int i), .val (.long t), .second, .val (.int j), .val (.int md), .val (.ref b1), .val (.int (md &&& (3 : Int32))), .val (.long t), .second, .val (.int j), .val (.ref b3), .val (.ref r_5), .val (.int (1 : Int32))] [(.ref r_5), (.ref b1)])) rfl (by rw [hml]; rfl) (Steps.refl _) (argsL := [(.ref r_5)]) (rest := []) (lenOf pd_4 rfl) rfl (by show 2 * 0 + _ ≤ _; exact Nat.le_of_eq rfl) (hb hby at_140) (fun _ _ => ⟨rfl, kh11, (by decide : 3 + 0 ≤ _), (by decide : 5 + 0 ≤ _)⟩)
  dsimp only [Pt.U, Pt.locs, Pt.cells, Pt.slots] at X12 l12 y12 z12 st12 hQ12
  subst l12 y12 z12
  obtain ⟨rfl, Nq12, kh12⟩ := hQ12
  have N12 := Fr.app N11 Nq12
  obtain ⟨fs, hr, hrun, hended, hW, hsame⟩ := X12.leave (v := some (.int (1 : Int32))) (fun h => by rw [Bd.returns] at h; cases h)
  refine ⟨_, _, pre0 _ ?_, hrun, hended, _, _, rfl, ?_, ⟨_, rfl⟩, hW, hsame.mono (by decide) (by decide)⟩
  · show Steps p.tables e below (s₁.setTop (mkF m 0 #[.val (.long s1), .second, .val (.int i), .val (.long t), .second, .val (.int j), .val (.int md), .unset, .unset, .unset, .unset, .unset, .unset, .unset, .unset] [])) _
    refine st1 _ ?_
    show Steps p.tables e below (T1.setTop (mkF m 3 #[.val (.long s1), .second, .val (.int i), .val (.long t), .second, .val (.int j), .val (.int md), .unset, .unset, .unset, .unset, .unset, .unset, .unset, .unset] [(.ref b1)])) _
    refine XS.dup X1.here hx rfl (hb hby at_3) rfl rfl ?_
    show Steps p.tables e below (T1.setTop (mkF m 4 #[.val (.long s1), .second, .val (.int i), .val (.long t), .second, .val (.int j), .val (.int md), .unset, .unset, .unset, .unset, .unset, .unset, .unset, .unset] [(.ref b1), (.ref b1)])) _
    refine XS.lloadN X1.here hx rfl (hb hby at_4) rfl ?_
    show Steps p.tables e below (T1.setTop (mkF m 5 #[.val (.long s1), .second, .val (.int i), .val (.long t), .second, .val (.int j), .val (.int md), .unset, .unset, .unset, .unset, .unset, .unset, .unset, .unset] [(.long s1), (.ref b1), (.ref b1)])) _
    refine XS.iloadN X1.here hx rfl (hb hby at_5) rfl ?_
    show Steps p.tables e below (T1.setTop (mkF m 6 #[.val (.long s1), .second, .val (.int i), .val (.long t), .second, .val (.int j), .val (.int md), .unset, .unset, .unset, .unset, .unset, .unset, .unset, .unset] [(.int i), (.long s1), (.ref b1), (.ref b1)])) _
    refine st2.trans ?_
    show Steps p.tables e below (T2.setTop (mkF m 9 #[.val (.long s1), .second, .val (.int i), .val (.long t), .second, .val (.int j), .val (.int md), .unset, .unset, .unset, .unset, .unset, .unset, .unset, .unset] [(.ref b1)])) _
    refine XS.astore X2.here hx rfl (hb hby at_9) rfl rfl (l' := #[.val (.long s1), .second, .val (.int i), .val (.long t), .second, .val (.int j), .val (.int md), .val (.ref b1), .unset, .unset, .unset, .unset, .unset, .unset, .unset]) rfl ?_
    show Steps p.tables e below (T2.setTop (mkF m 11 #[.val (.long s1), .second, .val (.int i), .val (.long t), .second, .val (.int j), .val (.int md), .val (.ref b1), .unset, .unset, .unset, .unset, .unset, .unset, .unset] [])) _
    refine XS.iload X2.here hx rfl (hb hby at_11) rfl ?_
    show Steps p.tables e below (T2.setTop (mkF m 13 #[.val (.long s1), .second, .val (.int i), .val (.long t), .second, .val (.int j), .val (.int md), .val (.ref b1), .unset, .unset, .unset, .unset, .unset, .unset, .unset] [(.int md)])) _
    refine XS.iconst X2.here hx rfl (hb hby at_13) ?_
    show Steps p.tables e below (T2.setTop (mkF m 14 #[.val (.long s1), .second, .val (.int i), .val (.long t), .second, .val (.int j), .val (.int md), .val (.ref b1), .unset, .unset, .unset, .unset, .unset, .unset, .unset] [(.int (3 : Int32)), (.int md)])) _
    refine XS.iand X2.here hx rfl (hb hby at_14) rfl ?_
    show Steps p.tables e below (T2.setTop (mkF m 15 #[.val (.long s1), .second, .val (.int i), .val (.long t), .second, .val (.int j), .val (.int md), .val (.ref b1), .unset, .unset, .unset, .unset, .unset, .unset, .unset] [(.int (md &&& (3 : Int32)))])) _
    refine XS.istore X2.here hx rfl (hb hby at_15) rfl (l' := #[.val (.long s1), .second, .val (.int i), .val (.long t), .second, .val (.int j), .val (.int md), .val (.ref b1), .val (.int (md &&& (3 : Int32))), .unset, .unset, .unset, .unset, .unset, .unset]) rfl ?_
    show Steps p.tables e below (T2.setTop (mkF m 17 #[.val (.long s1), .second, .val (.int i), .val (.long t), .second, .val (.int j), .val (.int md), .val (.ref b1), .val (.int (md &&& (3 : Int32))), .unset, .unset, .unset, .unset, .unset, .unset] [])) _
    refine XS.iload X2.here hx rfl (hb hby at_17) rfl ?_
    show Steps p.tables e below (T2.setTop (mkF m 19 #[.val (.long s1), .second, .val (.int i), .val (.long t), .second, .val (.int j), .val (.int md), .val (.ref b1), .val (.int (md &&& (3 : Int32))), .unset, .unset, .unset, .unset, .unset, .unset] [(.int (md &&& (3 : Int32)))])) _
    refine XS.iconst X2.here hx rfl (hb hby at_19) ?_
    show Steps p.tables e below (T2.setTop (mkF m 20 #[.val (.long s1), .second, .val (.int i), .val (.long t), .second, .val (.int j), .val (.int md), .val (.ref b1), .val (.int (md &&& (3 : Int32))), .unset, .unset, .unset, .unset, .unset, .unset] [(.int (1 : Int32)), (.int (md &&& (3 : Int32)))])) _
    refine XS.iand X2.here hx rfl (hb hby at_20) rfl ?_
    show Steps p.tables e below (T2.setTop (mkF m 21 #[.val (.long s1), .second, .val (.int i), .val (.long t), .second, .val (.int j), .val (.int md), .val (.ref b1), .val (.int (md &&& (3 : Int32))), .unset, .unset, .unset, .unset, .unset, .unset] [(.int ((md &&& (3 : Int32)) &&& (1 : Int32)))])) _
    refine XS.ifNo X2.here hx rfl (hb hby at_21) rfl ((if0 _ _).trans (feq (hc21 : ¬ (((md &&& (3 : Int32)) &&& (1 : Int32)) = (0 : Int32)))).1) ?_
    show Steps p.tables e below (T2.setTop (mkF m 24 #[.val (.long s1), .second, .val (.int i), .val (.long t), .second, .val (.int j), .val (.int md), .val (.ref b1), .val (.int (md &&& (3 : Int32))), .unset, .unset, .unset, .unset, .unset, .unset] [])) _
    refine XS.lloadN X2.here hx rfl (hb hby at_24) rfl ?_
    show Steps p.tables e below (T2.setTop (mkF m 25 #[.val (.long s1), .second, .val (.int i), .val (.long t), .second, .val (.int j), .val (.int md), .val (.ref b1), .val (.int (md &&& (3 : Int32))), .unset, .unset, .unset, .unset, .unset, .unset] [(.long t)])) _
    refine XS.goto X2.here hx rfl (pc0 := 25) (pc' := 29) rfl (hb hby at_25) (by decide) (by decide) ?_
    show Steps p.tables e below (T2.setTop (mkF m 29 #[.val (.long s1), .second, .val (.int i), .val (.long t), .second, .val (.int j), .val (.int md), .val (.ref b1), .val (.int (md &&& (3 : Int32))), .unset, .unset, .unset, .unset, .unset, .unset] [(.long t)])) _
    refine XS.lstore X2.here hx rfl (hb hby at_29) rfl (l' := #[.val (.long s1), .second, .val (.int i), .val (.long t), .second, .val (.int j), .val (.int md), .val (.ref b1), .val (.int (md &&& (3 : Int32))), .val (.long t), .second, .unset, .unset, .unset, .unset]) rfl ?_
    show Steps p.tables e below (T2.setTop (mkF m 31 #[.val (.long s1), .second, .val (.int i), .val (.long t), .second, .val (.int j), .val (.int md), .val (.ref b1), .val (.int (md &&& (3 : Int32))), .val (.long t), .second, .unset, .unset, .unset, .unset] [])) _
    refine XS.iload X2.here hx rfl (hb hby at_31) rfl ?_
    show Steps p.tables e below (T2.setTop (mkF m 33 #[.val (.long s1), .second, .val (.int i), .val (.long t), .second, .val (.int j), .val (.int md), .val (.ref b1), .val (.int (md &&& (3 : Int32))), .val (.long t), .second, .unset, .unset, .unset, .unset] [(.int (md &&& (3 : Int32)))])) _
    refine XS.iconst X2.here hx rfl (hb hby at_33) ?_
    show Steps p.tables e below (T2.setTop (mkF m 34 #[.val (.long s1), .second, .val (.int i), .val (.long t), .second, .val (.int j), .val (.int md), .val (.ref b1), .val (.int (md &&& (3 : Int32))), .val (.long t), .second, .unset, .unset, .unset, .unset] [(.int (2 : Int32)), (.int (md &&& (3 : Int32)))])) _
    refine XS.iand X2.here hx rfl (hb hby at_34) rfl ?_
    show Steps p.tables e below (T2.setTop (mkF m 35 #[.val (.long s1), .second, .val (.int i), .val (.long t), .second, .val (.int j), .val (.int md), .val (.ref b1), .val (.int (md &&& (3 : Int32))), .val (.long t), .second, .unset, .unset, .unset, .unset] [(.int ((md &&& (3 : Int32)) &&& (2 : Int32)))])) _
    refine XS.ifNo X2.here hx rfl (hb hby at_35) rfl ((if0 _ _).trans (feq (hc35 : ¬ (((md &&& (3 : Int32)) &&& (2 : Int32)) = (0 : Int32)))).1) ?_
    show Steps p.tables e below (T2.setTop (mkF m 38 #[.val (.long s1), .second, .val (.int i), .val (.long t), .second, .val (.int j), .val (.int md), .val (.ref b1), .val (.int (md &&& (3 : Int32))), .val (.long t), .second, .unset, .unset, .unset, .unset] [])) _
    refine XS.iload X2.here hx rfl (hb hby at_38) rfl ?_
    show Steps p.tables e below (T2.setTop (mkF m 40 #[.val (.long s1), .second, .val (.int i), .val (.long t), .second, .val (.int j), .val (.int md), .val (.ref b1), .val (.int (md &&& (3 : Int32))), .val (.long t), .second, .unset, .unset, .unset, .unset] [(.int j)])) _
    refine XS.goto X2.here hx rfl (pc0 := 40) (pc' := 44) rfl (hb hby at_40) (by decide) (by decide) ?_
    show Steps p.tables e below (T2.setTop (mkF m 44 #[.val (.long s1), .second, .val (.int i), .val (.long t), .second, .val (.int j), .val (.int md), .val (.ref b1), .val (.int (md &&& (3 : Int32))), .val (.long t), .second, .unset, .unset, .unset, .unset] [(.int j)])) _
    refine XS.istore X2.here hx rfl (hb hby at_44) rfl (l' := #[.val (.long s1), .second, .val (.int i), .val (.long t), .second, .val (.int j), .val (.int md), .val (.ref b1), .val (.int (md &&& (3 : Int32))), .val (.long t), .second, .val (.int j), .unset, .unset, .unset]) rfl ?_
    show Steps p.tables e below (T2.setTop (mkF m 46 #[.val (.long s1), .second, .val (.int i), .val (.long t), .second, .val (.int j), .val (.int md), .val (.ref b1), .val (.int (md &&& (3 : Int32))), .val (.long t), .second, .val (.int j), .unset, .unset, .unset] [])) _
    refine st3 _ ?_
    show Steps p.tables e below (T3.setTop (mkF m 49 #[.val (.long s1), .second, .val (.int i), .val (.long t), .second, .val (.int j), .val (.int md), .val (.ref b1), .val (.int (md &&& (3 : Int32))), .val (.long t), .second, .val (.int j), .unset, .unset, .unset] [(.ref b3)])) _
    refine XS.dup X3.here hx rfl (hb hby at_49) rfl rfl ?_
    show Steps p.tables e below (T3.setTop (mkF m 50 #[.val (.long s1), .second, .val (.int i), .val (.long t), .second, .val (.int j), .val (.int md), .val (.ref b1), .val (.int (md &&& (3 : Int32))), .val (.long t), .second, .val (.int j), .unset, .unset, .unset] [(.ref b3), (.ref b3)])) _
    refine XS.lload X3.here hx rfl (hb hby at_50) rfl ?_
    show Steps p.tables e below (T3.setTop (mkF m 52 #[.val (.long s1), .second, .val (.int i), .val (.long t), .second, .val (.int j), .val (.int md), .val (.ref b1), .val (.int (md &&& (3 : Int32))), .val (.long t), .second, .val (.int j), .unset, .unset, .unset] [(.long t), (.ref b3), (.ref b3)])) _
    refine XS.iload X3.here hx rfl (hb hby at_52) rfl ?_
    show Steps p.tables e below (T3.setTop (mkF m 54 #[.val (.long s1), .second, .val (.int i), .val (.long t), .second, .val (.int j), .val (.int md), .val (.ref b1), .val (.int (md &&& (3 : Int32))), .val (.long t), .second, .val (.int j), .unset, .unset, .unset] [(.int j), (.long t), (.ref b3), (.ref b3)])) _
    refine st4.trans ?_
    show Steps p.tables e below (T4.setTop (mkF m 57 #[.val (.long s1), .second, .val (.int i), .val (.long t), .second, .val (.int j), .val (.int md), .val (.ref b1), .val (.int (md &&& (3 : Int32))), .val (.long t), .second, .val (.int j), .unset, .unset, .unset] [(.ref b3)])) _
    refine XS.astore X4.here hx rfl (hb hby at_57) rfl rfl (l' := #[.val (.long s1), .second, .val (.int i), .val (.long t), .second, .val (.int j), .val (.int md), .val (.ref b1), .val (.int (md &&& (3 : Int32))), .val (.long t), .second, .val (.int j), .val (.ref b3), .unset, .unset]) rfl ?_
    show Steps p.tables e below (T4.setTop (mkF m 59 #[.val (.long s1), .second, .val (.int i), .val (.long t), .second, .val (.int j), .val (.int md), .val (.ref b1), .val (.int (md &&& (3 : Int32))), .val (.long t), .second, .val (.int j), .val (.ref b3), .unset, .unset] [])) _
    refine XS.lloadN X4.here hx rfl (hb hby at_59) rfl ?_
    show Steps p.tables e below (T4.setTop (mkF m 60 #[.val (.long s1), .second, .val (.int i), .val (.long t), .second, .val (.int j), .val (.int md), .val (.ref b1), .val (.int (md &&& (3 : Int32))), .val (.long t), .second, .val (.int j), .val (.ref b3), .unset, .unset] [(.long s1)])) _
    refine st5 _ ?_
    show Steps p.tables e below (T5.setTop (mkF m 63 #[.val (.long s1), .second, .val (.int i), .val (.long t), .second, .val (.int j), .val (.int md), .val (.ref b1), .val (.int (md &&& (3 : Int32))), .val (.long t), .second, .val (.int j), .val (.ref b3), .unset, .unset] [(.ref r_5)])) _
    refine XS.astore X5.here hx rfl (hb hby at_63) rfl rfl (l' := #[.val (.long s1), .second, .val (.int i), .val (.long t), .second, .val (.int j), .val (.int md), .val (.ref b1), .val (.int (md &&& (3 : Int32))), .val (.long t), .second, .val (.int j), .val (.ref b3), .val (.ref r_5), .unset]) rfl ?_
    show Steps p.tables e below (T5.setTop (mkF m 65 #[.val (.long s1), .second, .val (.int i), .val (.long t), .second, .val (.int j), .val (.int md), .val (.ref b1), .val (.int (md &&& (3 : Int32))), .val (.long t), .second, .val (.int j), .val (.ref b3), .val (.ref r_5), .unset] [])) _
    refine XS.lload X5.here hx rfl (hb hby at_65) rfl ?_
    show Steps p.tables e below (T5.setTop (mkF m 67 #[.val (.long s1), .second, .val (.int i), .val (.long t), .second, .val (.int j), .val (.int md), .val (.ref b1), .val (.int (md &&& (3 : Int32))), .val (.long t), .second, .val (.int j), .val (.ref b3), .val (.ref r_5), .unset] [(.long t)])) _
    refine XS.lloadN X5.here hx rfl (hb hby at_67) rfl ?_
    show Steps p.tables e below (T5.setTop (mkF m 68 #[.val (.long s1), .second, .val (.int i), .val (.long t), .second, .val (.int j), .val (.int md), .val (.ref b1), .val (.int (md &&& (3 : Int32))), .val (.long t), .second, .val (.int j), .val (.ref b3), .val (.ref r_5), .unset] [(.long s1), (.long t)])) _
    refine XS.lcmp X5.here hx rfl (hb hby at_68) rfl ?_
    show Steps p.tables e below (T5.setTop (mkF m 69 #[.val (.long s1), .second, .val (.int i), .val (.long t), .second, .val (.int j), .val (.int md), .val (.ref b1), .val (.int (md &&& (3 : Int32))), .val (.long t), .second, .val (.int j), .val (.ref b3), .val (.ref r_5), .unset] [(.int (lcmpW t s1))])) _
    refine XS.ifNo X5.here hx rfl (hb hby at_69) rfl ((if0 _ _).trans (teq (hc69 : (lcmpW t s1) = (0 : Int32))).2) ?_
    show Steps p.tables e below (T5.setTop (mkF m 72 #[.val (.long s1), .second, .val (.int i), .val (.long t), .second, .val (.int j), .val (.int md), .val (.ref b1), .val (.int (md &&& (3 : Int32))), .val (.long t), .second, .val (.int j), .val (.ref b3), .val (.ref r_5), .unset] [])) _
    refine XS.iload X5.here hx rfl (hb hby at_72) rfl ?_
    show Steps p.tables e below (T5.setTop (mkF m 74 #[.val (.long s1), .second, .val (.int i), .val (.long t), .second, .val (.int j), .val (.int md), .val (.ref b1), .val (.int (md &&& (3 : Int32))), .val (.long t), .second, .val (.int j), .val (.ref b3), .val (.ref r_5), .unset] [(.int j)])) _
    refine XS.iloadN X5.here hx rfl (hb hby at_74) rfl ?_
    show Steps p.tables e below (T5.setTop (mkF m 75 #[.val (.long s1), .second, .val (.int i), .val (.long t), .second, .val (.int j), .val (.int md), .val (.ref b1), .val (.int (md &&& (3 : Int32))), .val (.long t), .second, .val (.int j), .val (.ref b3), .val (.ref r_5), .unset] [(.int i), (.int j)])) _
    refine XS.icmpNo X5.here hx rfl (hb hby at_75) rfl (teq (hc75 : j = i)).2 ?_
    show Steps p.tables e below (T5.setTop (mkF m 78 #[.val (.long s1), .second, .val (.int i), .val (.long t), .second, .val (.int j), .val (.int md), .val (.ref b1), .val (.int (md &&& (3 : Int32))), .val (.long t), .second, .val (.int j), .val (.ref b3), .val (.ref r_5), .unset] [])) _
    refine XS.iconst X5.here hx rfl (hb hby at_78) ?_
    show Steps p.tables e below (T5.setTop (mkF m 79 #[.val (.long s1), .second, .val (.int i), .val (.long t), .second, .val (.int j), .val (.int md), .val (.ref b1), .val (.int (md &&& (3 : Int32))), .val (.long t), .second, .val (.int j), .val (.ref b3), .val (.ref r_5), .unset] [(.int (1 : Int32))])) _
    refine XS.goto X5.here hx rfl (pc0 := 79) (pc' := 83) rfl (hb hby at_79) (by decide) (by decide) ?_
    show Steps p.tables e below (T5.setTop (mkF m 83 #[.val (.long s1), .second, .val (.int i), .val (.long t), .second, .val (.int j), .val (.int md), .val (.ref b1), .val (.int (md &&& (3 : Int32))), .val (.long t), .second, .val (.int j), .val (.ref b3), .val (.ref r_5), .unset] [(.int (1 : Int32))])) _
    refine XS.istore X5.here hx rfl (hb hby at_83) rfl (l' := #[.val (.long s1), .second, .val (.int i), .val (.long t), .second, .val (.int j), .val (.int md), .val (.ref b1), .val (.int (md &&& (3 : Int32))), .val (.long t), .second, .val (.int j), .val (.ref b3), .val (.ref r_5), .val (.int (1 : Int32))]) rfl ?_
    show Steps p.tables e below (T5.setTop (mkF m 85 #[.val (.long s1), .second, .val (.int i), .val (.long t), .second, .val (.int j), .val (.int md), .val (.ref b1), .val (.int (md &&& (3 : Int32))), .val (.long t), .second, .val (.int j), .val (.ref b3), .val (.ref r_5), .val (.int (1 : Int32))] [])) _
    refine XS.aload X5.here hx rfl (hb hby at_85) rfl rfl ?_
    show Steps p.tables e below (T5.setTop (mkF m 87 #[.val (.long s1), .second, .val (.int i), .val (.long t), .second, .val (.int j), .val (.int md), .val (.ref b1), .val (.int (md &&& (3 : Int32))), .val (.long t), .second, .val (.int j), .val (.ref b3), .val (.ref r_5), .val (.int (1 : Int32))] [(.ref b1)])) _
    refine XS.aload X5.here hx rfl (hb hby at_87) rfl rfl ?_
    show Steps p.tables e below (T5.setTop (mkF m 89 #[.val (.long s1), .second, .val (.int i), .val (.long t), .second, .val (.int j), .val (.int md), .val (.ref b1), .val (.int (md &&& (3 : Int32))), .val (.long t), .second, .val (.int j), .val (.ref b3), .val (.ref r_5), .val (.int (1 : Int32))] [(.ref b3), (.ref b1)])) _
    refine st8.trans ?_
    show Steps p.tables e below (T8.setTop (mkF m 92 #[.val (.long s1), .second, .val (.int i), .val (.long t), .second, .val (.int j), .val (.int md), .val (.ref b1), .val (.int (md &&& (3 : Int32))), .val (.long t), .second, .val (.int j), .val (.ref b3), .val (.ref r_5), .val (.int (1 : Int32))] [(.int (eqV s1 i t j))])) _
    refine XS.iload X8.here hx rfl (hb hby at_92) rfl ?_
    show Steps p.tables e below (T8.setTop (mkF m 94 #[.val (.long s1), .second, .val (.int i), .val (.long t), .second, .val (.int j), .val (.int md), .val (.ref b1), .val (.int (md &&& (3 : Int32))), .val (.long t), .second, .val (.int j), .val (.ref b3), .val (.ref r_5), .val (.int (1 : Int32))] [(.int (1 : Int32)), (.int (eqV s1 i t j))])) _
    refine XS.icmpYes X8.here hx rfl (pc0 := 94) (pc' := 99) rfl (hb hby at_94) rfl (teq ((eqV_y (lw_t hc69).symm hc75.symm) : (eqV s1 i t j) = (1 : Int32))).1 (by decide) (by decide) ?_
    show Steps p.tables e below (T8.setTop (mkF m 99 #[.val (.long s1), .second, .val (.int i), .val (.long t), .second, .val (.int j), .val (.int md), .val (.ref b1), .val (.int (md &&& (3 : Int32))), .val (.long t), .second, .val (.int j), .val (.ref b3), .val (.ref r_5), .val (.int (1 : Int32))] [])) _
    refine XS.aload X8.here hx rfl (hb hby at_99) rfl rfl ?_
    show Steps p.tables e below (T8.setTop (mkF m 101 #[.val (.long s1), .second, .val (.int i), .val (.long t), .second, .val (.int j), .val (.int md), .val (.ref b1), .val (.int (md &&& (3 : Int32))), .val (.long t), .second, .val (.int j), .val (.ref b3), .val (.ref r_5), .val (.int (1 : Int32))] [(.ref b3)])) _
    refine XS.aload X8.here hx rfl (hb hby at_101) rfl rfl ?_
    show Steps p.tables e below (T8.setTop (mkF m 103 #[.val (.long s1), .second, .val (.int i), .val (.long t), .second, .val (.int j), .val (.int md), .val (.ref b1), .val (.int (md &&& (3 : Int32))), .val (.long t), .second, .val (.int j), .val (.ref b3), .val (.ref r_5), .val (.int (1 : Int32))] [(.ref b1), (.ref b3)])) _
    refine st9.trans ?_
    show Steps p.tables e below (T9.setTop (mkF m 106 #[.val (.long s1), .second, .val (.int i), .val (.long t), .second, .val (.int j), .val (.int md), .val (.ref b1), .val (.int (md &&& (3 : Int32))), .val (.long t), .second, .val (.int j), .val (.ref b3), .val (.ref r_5), .val (.int (1 : Int32))] [(.int (eqV t j s1 i))])) _
    refine XS.iload X9.here hx rfl (hb hby at_106) rfl ?_
    show Steps p.tables e below (T9.setTop (mkF m 108 #[.val (.long s1), .second, .val (.int i), .val (.long t), .second, .val (.int j), .val (.int md), .val (.ref b1), .val (.int (md &&& (3 : Int32))), .val (.long t), .second, .val (.int j), .val (.ref b3), .val (.ref r_5), .val (.int (1 : Int32))] [(.int (1 : Int32)), (.int (eqV t j s1 i))])) _
    refine XS.icmpYes X9.here hx rfl (pc0 := 108) (pc' := 113) rfl (hb hby at_108) rfl (teq ((eqV_y (lw_t hc69) hc75) : (eqV t j s1 i) = (1 : Int32))).1 (by decide) (by decide) ?_
    show Steps p.tables e below (T9.setTop (mkF m 113 #[.val (.long s1), .second, .val (.int i), .val (.long t), .second, .val (.int j), .val (.int md), .val (.ref b1), .val (.int (md &&& (3 : Int32))), .val (.long t), .second, .val (.int j), .val (.ref b3), .val (.ref r_5), .val (.int (1 : Int32))] [])) _
    refine XS.aload X9.here hx rfl (hb hby at_113) rfl rfl ?_
    show Steps p.tables e below (T9.setTop (mkF m 115 #[.val (.long s1), .second, .val (.int i), .val (.long t), .second, .val (.int j), .val (.int md), .val (.ref b1), .val (.int (md &&& (3 : Int32))), .val (.long t), .second, .val (.int j), .val (.ref b3), .val (.ref r_5), .val (.int (1 : Int32))] [(.ref b1)])) _
    refine XS.aload X9.here hx rfl (hb hby at_115) rfl rfl ?_
    show Steps p.tables e below (T9.setTop (mkF m 117 #[.val (.long s1), .second, .val (.int i), .val (.long t), .second, .val (.int j), .val (.int md), .val (.ref b1), .val (.int (md &&& (3 : Int32))), .val (.long t), .second, .val (.int j), .val (.ref b3), .val (.ref r_5), .val (.int (1 : Int32))] [(.ref b1), (.ref b1)])) _
    refine st10.trans ?_
    show Steps p.tables e below (T10.setTop (mkF m 120 #[.val (.long s1), .second, .val (.int i), .val (.long t), .second, .val (.int j), .val (.int md), .val (.ref b1), .val (.int (md &&& (3 : Int32))), .val (.long t), .second, .val (.int j), .val (.ref b3), .val (.ref r_5), .val (.int (1 : Int32))] [(.int (eqV s1 i s1 i))])) _
    refine XS.ifYes X10.here hx rfl (pc0 := 120) (pc' := 125) rfl (hb hby at_120) rfl ((if0 _ _).trans (feq ((by rw [eqV_y rfl rfl]; decide) : ¬ ((eqV s1 i s1 i) = (0 : Int32)))).2) (by decide) (by decide) ?_
    show Steps p.tables e below (T10.setTop (mkF m 125 #[.val (.long s1), .second, .val (.int i), .val (.long t), .second, .val (.int j), .val (.int md), .val (.ref b1), .val (.int (md &&& (3 : Int32))), .val (.long t), .second, .val (.int j), .val (.ref b3), .val (.ref r_5), .val (.int (1 : Int32))] [])) _
    refine XS.aload X10.here hx rfl (hb hby at_125) rfl rfl ?_
    show Steps p.tables e below (T10.setTop (mkF m 127 #[.val (.long s1), .second, .val (.int i), .val (.long t), .second, .val (.int j), .val (.int md), .val (.ref b1), .val (.int (md &&& (3 : Int32))), .val (.long t), .second, .val (.int j), .val (.ref b3), .val (.ref r_5), .val (.int (1 : Int32))] [(.ref b1)])) _
    refine XS.aconstNull X10.here hx rfl (hb hby at_127) ?_
    show Steps p.tables e below (T10.setTop (mkF m 128 #[.val (.long s1), .second, .val (.int i), .val (.long t), .second, .val (.int j), .val (.int md), .val (.ref b1), .val (.int (md &&& (3 : Int32))), .val (.long t), .second, .val (.int j), .val (.ref b3), .val (.ref r_5), .val (.int (1 : Int32))] [.null, (.ref b1)])) _
    refine st11.trans ?_
    show Steps p.tables e below (T11.setTop (mkF m 131 #[.val (.long s1), .second, .val (.int i), .val (.long t), .second, .val (.int j), .val (.int md), .val (.ref b1), .val (.int (md &&& (3 : Int32))), .val (.long t), .second, .val (.int j), .val (.ref b3), .val (.ref r_5), .val (.int (1 : Int32))] [(.int (0 : Int32))])) _
    refine XS.ifYes X11.here hx rfl (pc0 := 131) (pc' := 136) rfl (hb hby at_131) rfl ((if0 _ _).trans (teq (by decide : (0 : Int32) = (0 : Int32))).1) (by decide) (by decide) ?_
    show Steps p.tables e below (T11.setTop (mkF m 136 #[.val (.long s1), .second, .val (.int i), .val (.long t), .second, .val (.int j), .val (.int md), .val (.ref b1), .val (.int (md &&& (3 : Int32))), .val (.long t), .second, .val (.int j), .val (.ref b3), .val (.ref r_5), .val (.int (1 : Int32))] [])) _
    refine XS.aload X11.here hx rfl (hb hby at_136) rfl rfl ?_
    show Steps p.tables e below (T11.setTop (mkF m 138 #[.val (.long s1), .second, .val (.int i), .val (.long t), .second, .val (.int j), .val (.int md), .val (.ref b1), .val (.int (md &&& (3 : Int32))), .val (.long t), .second, .val (.int j), .val (.ref b3), .val (.ref r_5), .val (.int (1 : Int32))] [(.ref b1)])) _
    refine XS.aload X11.here hx rfl (hb hby at_138) rfl rfl ?_
    show Steps p.tables e below (T11.setTop (mkF m 140 #[.val (.long s1), .second, .val (.int i), .val (.long t), .second, .val (.int j), .val (.int md), .val (.ref b1), .val (.int (md &&& (3 : Int32))), .val (.long t), .second, .val (.int j), .val (.ref b3), .val (.ref r_5), .val (.int (1 : Int32))] [(.ref r_5), (.ref b1)])) _
    refine st12.trans ?_
    show Steps p.tables e below (T12.setTop (mkF m 143 #[.val (.long s1), .second, .val (.int i), .val (.long t), .second, .val (.int j), .val (.int md), .val (.ref b1), .val (.int (md &&& (3 : Int32))), .val (.long t), .second, .val (.int j), .val (.ref b3), .val (.ref r_5), .val (.int (1 : Int32))] [(.int (0 : Int32))])) _
    refine XS.ifYes X12.here hx rfl (pc0 := 143) (pc' := 148) rfl (hb hby at_143) rfl ((if0 _ _).trans (teq (by decide : (0 : Int32) = (0 : Int32))).1) (by decide) (by decide) ?_
    show Steps p.tables e below (T12.setTop (mkF m 148 #[.val (.long s1), .second, .val (.int i), .val (.long t), .second, .val (.int j), .val (.int md), .val (.ref b1), .val (.int (md &&& (3 : Int32))), .val (.long t), .second, .val (.int j), .val (.ref b3), .val (.ref r_5), .val (.int (1 : Int32))] [])) _
    refine XS.iconst X12.here hx rfl (hb hby at_148) ?_
    show Steps p.tables e below (T12.setTop (mkF m 149 #[.val (.long s1), .second, .val (.int i), .val (.long t), .second, .val (.int j), .val (.int md), .val (.ref b1), .val (.int (md &&& (3 : Int32))), .val (.long t), .second, .val (.int j), .val (.ref b3), .val (.ref r_5), .val (.int (1 : Int32))] [(.int (1 : Int32))])) _
    exact retN X12 hx (t := .boolean) Bd.returns (by simp) (hb hby at_149) hr
  · show Q_law Z s1 i t j md wc h0 n0 _ T12.heap _
    rw [kh12]
    exact ⟨rfl, N12⟩
set_option maxRecDepth 65536 in
set_option maxHeartbeats 40000000 in
theorem law_7 (l : Launch) (Z : State) (a0 : Array Value) (hw : ∀ d ∈ tables_1, d.before a0 Z = true) (ws : List Jvm.Cond) (s1 : Int64) (i : Int32) (t : Int64) (j : Int32) (md : Int32) (wc : Addr) (h0 : Heap) (n0 : Nat) (O0 : Old Z n0 h0) (G0 : Sta Z Z.heap "java/lang/Long$LongCache" "cache" "[Ljava/lang/Long;" (.ref wc)) (CA : Cache Z wc "java/lang/Long") (hc21 : ¬ (((md &&& (3 : Int32)) &&& (1 : Int32)) = (0 : Int32))) (hc35 : ¬ (((md &&& (3 : Int32)) &&& (2 : Int32)) = (0 : Int32))) (hc69 : (lcmpW t s1) = (0 : Int32)) (hc75 : ¬ (j = i)) :
    MetFree l x (head1 (Jvm.Cond.code x code maxLocals ret :: ws) room_1) (fun zA zU => zA = #[(.long s1), (.int i), (.long t), (.int j), (.int md)] ∧ Z.Warmed39 zU.vm ∧ zU.heap = h0) (fun _ _ _ _ _ => True) (fun _ zU zo zU' => ∃ zv zL, zo = .returned zv ∧ Q_law Z s1 i t j md wc h0 n0 zv zU'.heap zL ∧ FrameEnd zU zo zU' zL room_1.cells room_1.slots) := by
  refine MetFree.of_bodySF (plainFor_of_name pn_11) hisR ?_
  intro p e s m args below meth c s₁ Bd hml0 hP hK
  obtain ⟨rfl, hZ, hh⟩ := hP
  have hx := Bd.exec
  have hby := Bd.bytes
  have hml : c.maxLocals = 15 := hml0
  have hown : s.vm.findClass "com/example/maat/maat/TurnEqualsPinLaw" = some m.cls := findClass_of_methodNamed Bd.named
  have hnm := (name_of_methodNamed Bd.named Bd.method).1
  have X0 : Stand p l e room_1 s m #[(.long s1), (.int i), (.long t), (.int j), (.int md)] below meth c s₁ [] 0 0 := Stand.of_body Bd
  have e0 : s₁.heap = h0 := by rw [← hh, Bd.state]; rfl
  have N0 := Fr.nil n0
  have Z0 : n0 ≤ h0.size := O0.1 ▸ O0.2.1
  have pre0 : ∀ zt, Steps p.tables e below (s₁.setTop (mkF m 0 #[.val (.long s1), .second, .val (.int i), .val (.long t), .second, .val (.int j), .val (.int md), .unset, .unset, .unset, .unset, .unset, .unset, .unset, .unset] [])) zt → Steps p.tables e below (s₁.setTop (entryFrame m #[(.long s1), (.int i), (.long t), (.int j), (.int md)] maxLocals)) zt := fun zt zk => castTop (ef_0_JIJII m s1 i t j md) zk
  obtain ⟨T1, h1, X1, e1, E1, A1, D1, U1, st1⟩ := newO X0 hx hZ hown (hw _ (List.mem_of_getElem? (i := 0) rfl)) (hw _ (List.mem_of_getElem? (i := 1) rfl)) (hw _ (List.mem_of_getElem? (i := 2) rfl)) e0 (g := (mkF m 0 #[.val (.long s1), .second, .val (.int i), .val (.long t), .second, .val (.int j), .val (.int md), .unset, .unset, .unset, .unset, .unset, .unset, .unset, .unset] [])) rfl (hb hby at_0) (by decide) (by decide)
  obtain ⟨b1, gz1⟩ : ∃ z, z = h0.size := ⟨_, rfl⟩
  rw [← gz1] at A1 D1 U1 st1
  have sz_b1 : h0.size ≤ b1 := Nat.le_trans (Keep.refl h0 []).1 (Nat.le_of_eq gz1.symm)
  have g_b1 : n0 ≤ b1 := Nat.le_trans Z0 sz_b1
  have O1 := O0.ext E1
  have K1 : Keep h0 h1 [] := (Keep.refl h0 []).ext E1
  have Fi1_15 : Fld Z h1 b1 "com/example/maat/maat/Turn" "seq" "J" (.long (0 : Int64)) := D1 (Or.inr (hw _ (List.mem_of_getElem? (i := 15) rfl))) (ty := .long) (by decide)
  have Fi1_17 : Fld Z h1 b1 "com/example/maat/maat/Turn" "index" "I" (.int (0 : Int32)) := D1 (Or.inr (hw _ (List.mem_of_getElem? (i := 17) rfl))) (ty := .int) (by decide)
  obtain ⟨_, _, ⟨T2, L2, k2, n2⟩, -, X2, ⟨Lc2, hQ2, l2, y2, z2⟩, st2⟩ := X1.specialBack hx (y := (⟨"com/example/maat/maat/Turn", "<init>", "(JI)V"⟩ : MethodName)) rfl hown (mvT hZ (hw _ (List.mem_of_getElem? (i := 3) rfl))) (mvT hZ (hw _ (List.mem_of_getElem? (i := 4) rfl))) (mvT hZ (hw _ (List.mem_of_getElem? (i := 5) rfl))) (by decide) (backOf (W := 1) (turnI l Z a0 hw [] b1 s1 i h1 n0 O1 Fi1_15 Fi1_17 A1 g_b1) hZ (hw _ (List.mem_of_getElem? (i := 5) rfl)) (hw _ (List.mem_of_getElem? (i := 2) rfl)) (by decide) (by decide)) (g := (mkF m 6 #[.val (.long s1), .second, .val (.int i), .val (.long t), .second, .val (.int j), .val (.int md), .unset, .unset, .unset, .unset, .unset, .unset, .unset, .unset] [(.int i), (.long s1), (.ref b1), (.ref b1)])) rfl (by rw [hml]; rfl) (Steps.refl _) (a := b1) (argsL := [(.long s1), (.int i)]) (rest := [(.ref b1)]) (lenOf pd_2 rfl) rfl (by show 2 * 0 + _ ≤ _; exact Nat.le_of_eq rfl) (hb hby at_6) (fun _ _ => ⟨rfl, e1, (by decide : 1 + 0 ≤ _), (by decide : 2 + 0 ≤ _)⟩)
  dsimp only [Pt.U, Pt.locs, Pt.cells, Pt.slots] at X2 l2 y2 z2 st2 hQ2
  subst l2 y2 z2
  obtain ⟨rfl, Nq2, kh2, Po2_0, Po2_1, Po2_2⟩ := hQ2
  have N2 := Fr.app N0 Nq2
  have O2 := O1.keep kh2 (allS g_b1 all0)
  have K2 : Keep h0 T2.heap [] := K1.trans kh2 (allS (Or.inr sz_b1) all0)
  obtain ⟨T3, h3, X3, e3, E3, A3, D3, U3, st3⟩ := newO X2 hx hZ hown (hw _ (List.mem_of_getElem? (i := 0) rfl)) (hw _ (List.mem_of_getElem? (i := 1) rfl)) (hw _ (List.mem_of_getElem? (i := 2) rfl)) rfl (g := (mkF m 46 #[.val (.long s1), .second, .val (.int i), .val (.long t), .second, .val (.int j), .val (.int md), .val (.ref b1), .val (.int (md &&& (3 : Int32))), .val (.long t), .second, .val (.int j), .unset, .unset, .unset] [])) rfl (hb hby at_46) (by decide) (by decide)
  obtain ⟨b3, gz3⟩ : ∃ z, z = T2.heap.size := ⟨_, rfl⟩
  rw [← gz3] at A3 D3 U3 st3
  have sz_b3 : h0.size ≤ b3 := Nat.le_trans K2.1 (Nat.le_of_eq gz3.symm)
  have g_b3 : n0 ≤ b3 := Nat.le_trans Z0 sz_b3
  have O3 := O2.ext E3
  have K3 : Keep h0 h3 [] := K2.ext E3
  have Fi3_15 : Fld Z h3 b3 "com/example/maat/maat/Turn" "seq" "J" (.long (0 : Int64)) := D3 (Or.inr (hw _ (List.mem_of_getElem? (i := 15) rfl))) (ty := .long) (by decide)
  have Fi3_17 : Fld Z h3 b3 "com/example/maat/maat/Turn" "index" "I" (.int (0 : Int32)) := D3 (Or.inr (hw _ (List.mem_of_getElem? (i := 17) rfl))) (ty := .int) (by decide)
  obtain ⟨_, _, ⟨T4, L4, k4, n4⟩, -, X4, ⟨Lc4, hQ4, l4, y4, z4⟩, st4⟩ := X3.specialBack hx (y := (⟨"com/example/maat/maat/Turn", "<init>", "(JI)V"⟩ : MethodName)) rfl hown (mvT hZ (hw _ (List.mem_of_getElem? (i := 3) rfl))) (mvT hZ (hw _ (List.mem_of_getElem? (i := 4) rfl))) (mvT hZ (hw _ (List.mem_of_getElem? (i := 5) rfl))) (by decide) (backOf (W := 1) (turnI l Z a0 hw [] b3 t j h3 n0 O3 Fi3_15 Fi3_17 A3 g_b3) hZ (hw _ (List.mem_of_getElem? (i := 5) rfl)) (hw _ (List.mem_of_getElem? (i := 2) rfl)) (by decide) (by decide)) (g := (mkF m 54 #[.val (.long s1), .second, .val (.int i), .val (.long t), .second, .val (.int j), .val (.int md), .val (.ref b1), .val (.int (md &&& (3 : Int32))), .val (.long t), .second, .val (.int j), .unset, .unset, .unset] [(.int j), (.long t), (.ref b3), (.ref b3)])) rfl (by rw [hml]; rfl) (Steps.refl _) (a := b3) (argsL := [(.long t), (.int j)]) (rest := [(.ref b3)]) (lenOf pd_2 rfl) rfl (by show 2 * 0 + _ ≤ _; exact Nat.le_of_eq rfl) (hb hby at_54) (fun _ _ => ⟨rfl, e3, (by decide : 2 + 0 ≤ _), (by decide : 4 + 0 ≤ _)⟩)
  dsimp only [Pt.U, Pt.locs, Pt.cells, Pt.slots] at X4 l4 y4 z4 st4 hQ4
  subst l4 y4 z4
  obtain ⟨rfl, Nq4, kh4, Po4_0, Po4_1, Po4_2⟩ := hQ4
  have N4 := Fr.app N2 Nq4
  have O4 := O3.keep kh4 (allS g_b3 all0)
  have K4 : Keep h0 T4.heap [] := K3.trans kh4 (allS (Or.inr sz_b3) all0)
  obtain ⟨_, _, ⟨T5, L5, k5, n5⟩, -, X5, ⟨Lc5, hQ5, l5, y5, z5⟩, st5⟩ := Jvm.LawKit.callS X4 hx (y := (⟨"java/lang/Long", "valueOf", "(J)Ljava/lang/Long;"⟩ : MethodName)) hown (mvT hZ (hw _ (List.mem_of_getElem? (i := 18) rfl))) (mvT hZ (hw _ (List.mem_of_getElem? (i := 19) rfl))) (mvT hZ (hw _ (List.mem_of_getElem? (i := 20) rfl))) (mvT hZ (hw _ (List.mem_of_getElem? (i := 21) rfl))) (by decide) (backOf (W := 0) (valueOf l Z a0 hw [] s1 wc T4.heap n0 O4 G0 CA) hZ (hw _ (List.mem_of_getElem? (i := 21) rfl)) (hw _ (List.mem_of_getElem? (i := 20) rfl)) (by decide) (by decide)) (g := (mkF m 60 #[.val (.long s1), .second, .val (.int i), .val (.long t), .second, .val (.int j), .val (.int md), .val (.ref b1), .val (.int (md &&& (3 : Int32))), .val (.long t), .second, .val (.int j), .val (.ref b3), .unset, .unset] [(.long s1)])) rfl (by rw [hml]; rfl) (argsL := [(.long s1)]) (rest := []) (lenOf pd_3 rfl) rfl (by show 2 * 0 + _ ≤ _; exact Nat.le_of_eq rfl) (hb hby at_60) (fun _ _ => ⟨rfl, rfl, (by decide : 2 + 1 ≤ _), (by decide : 4 + 1 ≤ _)⟩)
  dsimp only [Pt.U, Pt.locs, Pt.cells, Pt.slots] at X5 l5 y5 z5 st5 hQ5
  subst l5 y5 z5
  obtain ⟨r_5, rfl, Nq5, kh5, Po5_0⟩ := hQ5
  have N5 := Fr.app N4 Nq5
  have O5 := O4.keep kh5 all0
  have K5 : Keep h0 T5.heap [] := K4.trans kh5 all0
  have c6 : Fld Z T5.heap b1 "com/example/maat/maat/Turn" "seq" "J" (.long s1) := (((Po2_1.ext E3).keep kh4 (ninS (Nat.ne_of_lt (Nat.lt_of_lt_of_le (Po2_0).lt (Nat.le_of_eq gz3.symm))) nin0)).keep kh5 nin0)
  have c7 : Fld Z T5.heap b1 "com/example/maat/maat/Turn" "index" "I" (.int i) := (((Po2_2.ext E3).keep kh4 (ninS (Nat.ne_of_lt (Nat.lt_of_lt_of_le (Po2_0).lt (Nat.le_of_eq gz3.symm))) nin0)).keep kh5 nin0)
  obtain ⟨cq8, kq8, q8a, q8b, q8c⟩ := isOf hZ rfl (((Po2_0.ext E3).keep kh4).keep kh5)
  obtain ⟨_, _, ⟨T8, L8, k8, n8⟩, -, X8, ⟨Lc8, hQ8, l8, y8, z8⟩, st8⟩ := X5.virtualBack hx (y := (⟨"com/example/maat/maat/Turn", "equals", "(Ljava/lang/Object;)Z"⟩ : MethodName)) (z := (⟨"com/example/maat/maat/Turn", "equals", "(Ljava/lang/Object;)Z"⟩ : MethodName)) hown (mvT hZ (hw _ (List.mem_of_getElem? (i := 26) rfl))) (mvT hZ (hw _ (List.mem_of_getElem? (i := 27) rfl))) (notFace_of_selects (args := #[]) (mvT hZ (hw _ (List.mem_of_getElem? (i := 29) rfl)))) (mvT hZ (hw _ (List.mem_of_getElem? (i := 29) rfl))) (mvT hZ (hw _ (List.mem_of_getElem? (i := 28) rfl))) (by decide) (backOf (W := 0) (eqT l Z a0 hw [] b1 b3 s1 i t j T5.heap n0 O5 c6 c7 (Po4_1.keep kh5 nin0) (Po4_2.keep kh5 nin0) (Po4_0.keep kh5)) hZ (hw _ (List.mem_of_getElem? (i := 30) rfl)) (hw _ (List.mem_of_getElem? (i := 2) rfl)) (by decide) (by decide)) q8a q8c (g := (mkF m 89 #[.val (.long s1), .second, .val (.int i), .val (.long t), .second, .val (.int j), .val (.int md), .val (.ref b1), .val (.int (md &&& (3 : Int32))), .val (.long t), .second, .val (.int j), .val (.ref b3), .val (.ref r_5), .val (.int (0 : Int32))] [(.ref b3), (.ref b1)])) rfl (by rw [hml]; rfl) (Steps.refl _) (argsL := [(.ref b3)]) (rest := []) (lenOf pd_4 rfl) rfl (by show 2 * 0 + _ ≤ _; exact Nat.le_of_eq rfl) (hb hby at_89) (fun _ _ => ⟨rfl, rfl, (by decide : 3 + 0 ≤ _), (by decide : 5 + 0 ≤ _)⟩)
  dsimp only [Pt.U, Pt.locs, Pt.cells, Pt.slots] at X8 l8 y8 z8 st8 hQ8
  subst l8 y8 z8
  obtain ⟨rfl, Nq8, kh8⟩ := hQ8
  have N8 := Fr.app N5 Nq8
  obtain ⟨cq9, kq9, q9a, q9b, q9c⟩ := isOf hZ kh8 (Po4_0.keep kh5)
  obtain ⟨_, _, ⟨T9, L9, k9, n9⟩, -, X9, ⟨Lc9, hQ9, l9, y9, z9⟩, st9⟩ := X8.virtualBack hx (y := (⟨"com/example/maat/maat/Turn", "equals", "(Ljava/lang/Object;)Z"⟩ : MethodName)) (z := (⟨"com/example/maat/maat/Turn", "equals", "(Ljava/lang/Object;)Z"⟩ : MethodName)) hown (mvT hZ (hw _ (List.mem_of_getElem? (i := 26) rfl))) (mvT hZ (hw _ (List.mem_of_getElem? (i := 27) rfl))) (notFace_of_selects (args := #[]) (mvT hZ (hw _ (List.mem_of_getElem? (i := 29) rfl)))) (mvT hZ (hw _ (List.mem_of_getElem? (i := 29) rfl))) (mvT hZ (hw _ (List.mem_of_getElem? (i := 28) rfl))) (by decide) (backOf (W := 0) (eqT l Z a0 hw [] b3 b1 t j s1 i T5.heap n0 O5 (Po4_1.keep kh5 nin0) (Po4_2.keep kh5 nin0) c6 c7 (((Po2_0.ext E3).keep kh4).keep kh5)) hZ (hw _ (List.mem_of_getElem? (i := 30) rfl)) (hw _ (List.mem_of_getElem? (i := 2) rfl)) (by decide) (by decide)) q9a q9c (g := (mkF m 103 #[.val (.long s1), .second, .val (.int i), .val (.long t), .second, .val (.int j), .val (.int md), .val (.ref b1), .val (.int (md &&& (3 : Int32))), .val (.long t), .second, .val (.int j), .val (.ref b3), .val (.ref r_5), .val (.int (0 : Int32))] [(.ref b1), (.ref b3)])) rfl (by rw [hml]; rfl) (Steps.refl _) (argsL := [(.ref b1)]) (rest := []) (lenOf pd_4 rfl) rfl (by show 2 * 0 + _ ≤ _; exact Nat.le_of_eq rfl) (hb hby at_103) (fun _ _ => ⟨rfl, kh8, (by decide : 3 + 0 ≤ _), (by decide : 5 + 0 ≤ _)⟩)
  dsimp only [Pt.U, Pt.locs, Pt.cells, Pt.slots] at X9 l9 y9 z9 st9 hQ9
  subst l9 y9 z9
  obtain ⟨rfl, Nq9, kh9⟩ := hQ9
  have N9 := Fr.app N8 Nq9
  obtain ⟨cq10, kq10, q10a, q10b, q10c⟩ := isOf hZ kh9 (((Po2_0.ext E3).keep kh4).keep kh5)
  obtain ⟨_, _, ⟨T10, L10, k10, n10⟩, -, X10, ⟨Lc10, hQ10, l10, y10, z10⟩, st10⟩ := X9.virtualBack hx (y := (⟨"com/example/maat/maat/Turn", "equals", "(Ljava/lang/Object;)Z"⟩ : MethodName)) (z := (⟨"com/example/maat/maat/Turn", "equals", "(Ljava/lang/Object;)Z"⟩ : MethodName)) hown (mvT hZ (hw _ (List.mem_of_getElem? (i := 26) rfl))) (mvT hZ (hw _ (List.mem_of_getElem? (i := 27) rfl))) (notFace_of_selects (args := #[]) (mvT hZ (hw _ (List.mem_of_getElem? (i := 29) rfl)))) (mvT hZ (hw _ (List.mem_of_getElem? (i := 29) rfl))) (mvT hZ (hw _ (List.mem_of_getElem? (i := 28) rfl))) (by decide) (backOf (W := 0) (eqT l Z a0 hw [] b1 b1 s1 i s1 i T5.heap n0 O5 c6 c7 c6 c7 (((Po2_0.ext E3).keep kh4).keep kh5)) hZ (hw _ (List.mem_of_getElem? (i := 30) rfl)) (hw _ (List.mem_of_getElem? (i := 2) rfl)) (by decide) (by decide)) q10a q10c (g := (mkF m 117 #[.val (.long s1), .second, .val (.int i), .val (.long t), .second, .val (.int j), .val (.int md), .val (.ref b1), .val (.int (md &&& (3 : Int32))), .val (.long t), .second, .val (.int j), .val (.ref b3), .val (.ref r_5), .val (.int (0 : Int32))] [(.ref b1), (.ref b1)])) rfl (by rw [hml]; rfl) (Steps.refl _) (argsL := [(.ref b1)]) (rest := []) (lenOf pd_4 rfl) rfl (by show 2 * 0 + _ ≤ _; exact Nat.le_of_eq rfl) (hb hby at_117) (fun _ _ => ⟨rfl, kh9, (by decide : 3 + 0 ≤ _), (by decide : 5 + 0 ≤ _)⟩)
  dsimp only [Pt.U, Pt.locs, Pt.cells, Pt.slots] at X10 l10 y10 z10 st10 hQ10
  subst l10 y10 z10
  obtain ⟨rfl, Nq10, kh10⟩ := hQ10
  have N10 := Fr.app N9 Nq10
  obtain ⟨cq11, kq11, q11a, q11b, q11c⟩ := isOf hZ kh10 (((Po2_0.ext E3).keep kh4).keep kh5)
  obtain ⟨_, _, ⟨T11, L11, k11, n11⟩, -, X11, ⟨Lc11, hQ11, l11, y11, z11⟩, st11⟩ := X10.virtualBack hx (y := (⟨"com/example/maat/maat/Turn", "equals", "(Ljava/lang/Object;)Z"⟩ : MethodName)) (z := (⟨"com/example/maat/maat/Turn", "equals", "(Ljava/lang/Object;)Z"⟩ : MethodName)) hown (mvT hZ (hw _ (List.mem_of_getElem? (i := 26) rfl))) (mvT hZ (hw _ (List.mem_of_getElem? (i := 27) rfl))) (notFace_of_selects (args := #[]) (mvT hZ (hw _ (List.mem_of_getElem? (i := 29) rfl)))) (mvT hZ (hw _ (List.mem_of_getElem? (i := 29) rfl))) (mvT hZ (hw _ (List.mem_of_getElem? (i := 28) rfl))) (by decide) (backOf (W := 0) (eqN l Z a0 hw [] b1 T5.heap n0 O5 ) hZ (hw _ (List.mem_of_getElem? (i := 30) rfl)) (hw _ (List.mem_of_getElem? (i := 2) rfl)) (by decide) (by decide)) q11a q11c (g := (mkF m 128 #[.val (.long s1), .second, .val (.int i), .val (.long t), .second, .val (.int j), .val (.int md), .val (.ref b1), .val (.int (md &&& (3 : Int32))), .val (.long t), .second, .val (.int j), .val (.ref b3), .val (.ref r_5), .val (.int (0 : Int32))] [.null, (.ref b1)])) rfl (by rw [hml]; rfl) (Steps.refl _) (argsL := [.null]) (rest := []) (lenOf pd_4 rfl) rfl (by show 2 * 0 + _ ≤ _; exact Nat.le_of_eq rfl) (hb hby at_128) (fun _ _ => ⟨rfl, kh10, (by decide : 3 + 0 ≤ _), (by decide : 5 + 0 ≤ _)⟩)
  dsimp only [Pt.U, Pt.locs, Pt.cells, Pt.slots] at X11 l11 y11 z11 st11 hQ11
  subst l11 y11 z11
  obtain ⟨rfl, Nq11, kh11⟩ := hQ11
  have N11 := Fr.app N10 Nq11
  obtain ⟨cq12, kq12, q12a, q12b, q12c⟩ := isOf hZ kh11 (((Po2_0.ext E3).keep kh4).keep kh5)
  obtain ⟨_, _, ⟨T12, L12, k12, n12⟩, -, X12, ⟨Lc12, hQ12, l12, y12, z12⟩, st12⟩ := X11.virtualBack hx (y := (⟨"com/example/maat/maat/Turn", "equals", "(Ljava/lang/Object;)Z"⟩ : MethodName)) (z := (⟨"com/example/maat/maat/Turn", "equals", "(Ljava/lang/Object;)Z"⟩ : MethodName)) hown (mvT hZ (hw _ (List.mem_of_getElem? (i := 26) rfl))) (mvT hZ (hw _ (List.mem_of_getElem? (i := 27) rfl))) (notFace_of_selects (args := #[]) (mvT hZ (hw _ (List.mem_of_getElem? (i := 29) rfl)))) (mvT hZ (hw _ (List.mem_of_getElem? (i := 29) rfl))) (mvT hZ (hw _ (List.mem_of_getElem? (i := 28) rfl))) (by decide) (backOf (W := 0) (eqL l Z a0 hw [] b1 r_5 T5.heap n0 O5 Po5_0) hZ (hw _ (List.mem_of_getElem? (i := 30) rfl)) (hw _ (List.mem_of_getElem? (i := 2) rfl)) (by decide) (by decide)) q12a q12c (g := (mkF m 140 #[.val (.long s1), .second, .val (.int i), .val (.long t), .second, .val (.int j), .val (.int md), .val (.ref b1), .val (.int (md &&& (3 : Int32))), .val (.long t), .second, .val (.int j), .val (.ref b3), .val (.ref r_5), .val (.int (0 : Int32))] [(.ref r_5), (.ref b1)])) rfl (by rw [hml]; rfl) (Steps.refl _) (argsL := [(.ref r_5)]) (rest := []) (lenOf pd_4 rfl) rfl (by show 2 * 0 + _ ≤ _; exact Nat.le_of_eq rfl) (hb hby at_140) (fun _ _ => ⟨rfl, kh11, (by decide : 3 + 0 ≤ _), (by decide : 5 + 0 ≤ _)⟩)
  dsimp only [Pt.U, Pt.locs, Pt.cells, Pt.slots] at X12 l12 y12 z12 st12 hQ12
  subst l12 y12 z12
  obtain ⟨rfl, Nq12, kh12⟩ := hQ12
  have N12 := Fr.app N11 Nq12
  obtain ⟨fs, hr, hrun, hended, hW, hsame⟩ := X12.leave (v := some (.int (1 : Int32))) (fun h => by rw [Bd.returns] at h; cases h)
  refine ⟨_, _, pre0 _ ?_, hrun, hended, _, _, rfl, ?_, ⟨_, rfl⟩, hW, hsame.mono (by decide) (by decide)⟩
  · show Steps p.tables e below (s₁.setTop (mkF m 0 #[.val (.long s1), .second, .val (.int i), .val (.long t), .second, .val (.int j), .val (.int md), .unset, .unset, .unset, .unset, .unset, .unset, .unset, .unset] [])) _
    refine st1 _ ?_
    show Steps p.tables e below (T1.setTop (mkF m 3 #[.val (.long s1), .second, .val (.int i), .val (.long t), .second, .val (.int j), .val (.int md), .unset, .unset, .unset, .unset, .unset, .unset, .unset, .unset] [(.ref b1)])) _
    refine XS.dup X1.here hx rfl (hb hby at_3) rfl rfl ?_
    show Steps p.tables e below (T1.setTop (mkF m 4 #[.val (.long s1), .second, .val (.int i), .val (.long t), .second, .val (.int j), .val (.int md), .unset, .unset, .unset, .unset, .unset, .unset, .unset, .unset] [(.ref b1), (.ref b1)])) _
    refine XS.lloadN X1.here hx rfl (hb hby at_4) rfl ?_
    show Steps p.tables e below (T1.setTop (mkF m 5 #[.val (.long s1), .second, .val (.int i), .val (.long t), .second, .val (.int j), .val (.int md), .unset, .unset, .unset, .unset, .unset, .unset, .unset, .unset] [(.long s1), (.ref b1), (.ref b1)])) _
    refine XS.iloadN X1.here hx rfl (hb hby at_5) rfl ?_
    show Steps p.tables e below (T1.setTop (mkF m 6 #[.val (.long s1), .second, .val (.int i), .val (.long t), .second, .val (.int j), .val (.int md), .unset, .unset, .unset, .unset, .unset, .unset, .unset, .unset] [(.int i), (.long s1), (.ref b1), (.ref b1)])) _
    refine st2.trans ?_
    show Steps p.tables e below (T2.setTop (mkF m 9 #[.val (.long s1), .second, .val (.int i), .val (.long t), .second, .val (.int j), .val (.int md), .unset, .unset, .unset, .unset, .unset, .unset, .unset, .unset] [(.ref b1)])) _
    refine XS.astore X2.here hx rfl (hb hby at_9) rfl rfl (l' := #[.val (.long s1), .second, .val (.int i), .val (.long t), .second, .val (.int j), .val (.int md), .val (.ref b1), .unset, .unset, .unset, .unset, .unset, .unset, .unset]) rfl ?_
    show Steps p.tables e below (T2.setTop (mkF m 11 #[.val (.long s1), .second, .val (.int i), .val (.long t), .second, .val (.int j), .val (.int md), .val (.ref b1), .unset, .unset, .unset, .unset, .unset, .unset, .unset] [])) _
    refine XS.iload X2.here hx rfl (hb hby at_11) rfl ?_
    show Steps p.tables e below (T2.setTop (mkF m 13 #[.val (.long s1), .second, .val (.int i), .val (.long t), .second, .val (.int j), .val (.int md), .val (.ref b1), .unset, .unset, .unset, .unset, .unset, .unset, .unset] [(.int md)])) _
    refine XS.iconst X2.here hx rfl (hb hby at_13) ?_
    show Steps p.tables e below (T2.setTop (mkF m 14 #[.val (.long s1), .second, .val (.int i), .val (.long t), .second, .val (.int j), .val (.int md), .val (.ref b1), .unset, .unset, .unset, .unset, .unset, .unset, .unset] [(.int (3 : Int32)), (.int md)])) _
    refine XS.iand X2.here hx rfl (hb hby at_14) rfl ?_
    show Steps p.tables e below (T2.setTop (mkF m 15 #[.val (.long s1), .second, .val (.int i), .val (.long t), .second, .val (.int j), .val (.int md), .val (.ref b1), .unset, .unset, .unset, .unset, .unset, .unset, .unset] [(.int (md &&& (3 : Int32)))])) _
    refine XS.istore X2.here hx rfl (hb hby at_15) rfl (l' := #[.val (.long s1), .second, .val (.int i), .val (.long t), .second, .val (.int j), .val (.int md), .val (.ref b1), .val (.int (md &&& (3 : Int32))), .unset, .unset, .unset, .unset, .unset, .unset]) rfl ?_
    show Steps p.tables e below (T2.setTop (mkF m 17 #[.val (.long s1), .second, .val (.int i), .val (.long t), .second, .val (.int j), .val (.int md), .val (.ref b1), .val (.int (md &&& (3 : Int32))), .unset, .unset, .unset, .unset, .unset, .unset] [])) _
    refine XS.iload X2.here hx rfl (hb hby at_17) rfl ?_
    show Steps p.tables e below (T2.setTop (mkF m 19 #[.val (.long s1), .second, .val (.int i), .val (.long t), .second, .val (.int j), .val (.int md), .val (.ref b1), .val (.int (md &&& (3 : Int32))), .unset, .unset, .unset, .unset, .unset, .unset] [(.int (md &&& (3 : Int32)))])) _
    refine XS.iconst X2.here hx rfl (hb hby at_19) ?_
    show Steps p.tables e below (T2.setTop (mkF m 20 #[.val (.long s1), .second, .val (.int i), .val (.long t), .second, .val (.int j), .val (.int md), .val (.ref b1), .val (.int (md &&& (3 : Int32))), .unset, .unset, .unset, .unset, .unset, .unset] [(.int (1 : Int32)), (.int (md &&& (3 : Int32)))])) _
    refine XS.iand X2.here hx rfl (hb hby at_20) rfl ?_
    show Steps p.tables e below (T2.setTop (mkF m 21 #[.val (.long s1), .second, .val (.int i), .val (.long t), .second, .val (.int j), .val (.int md), .val (.ref b1), .val (.int (md &&& (3 : Int32))), .unset, .unset, .unset, .unset, .unset, .unset] [(.int ((md &&& (3 : Int32)) &&& (1 : Int32)))])) _
    refine XS.ifNo X2.here hx rfl (hb hby at_21) rfl ((if0 _ _).trans (feq (hc21 : ¬ (((md &&& (3 : Int32)) &&& (1 : Int32)) = (0 : Int32)))).1) ?_
    show Steps p.tables e below (T2.setTop (mkF m 24 #[.val (.long s1), .second, .val (.int i), .val (.long t), .second, .val (.int j), .val (.int md), .val (.ref b1), .val (.int (md &&& (3 : Int32))), .unset, .unset, .unset, .unset, .unset, .unset] [])) _
    refine XS.lloadN X2.here hx rfl (hb hby at_24) rfl ?_
    show Steps p.tables e below (T2.setTop (mkF m 25 #[.val (.long s1), .second, .val (.int i), .val (.long t), .second, .val (.int j), .val (.int md), .val (.ref b1), .val (.int (md &&& (3 : Int32))), .unset, .unset, .unset, .unset, .unset, .unset] [(.long t)])) _
    refine XS.goto X2.here hx rfl (pc0 := 25) (pc' := 29) rfl (hb hby at_25) (by decide) (by decide) ?_
    show Steps p.tables e below (T2.setTop (mkF m 29 #[.val (.long s1), .second, .val (.int i), .val (.long t), .second, .val (.int j), .val (.int md), .val (.ref b1), .val (.int (md &&& (3 : Int32))), .unset, .unset, .unset, .unset, .unset, .unset] [(.long t)])) _
    refine XS.lstore X2.here hx rfl (hb hby at_29) rfl (l' := #[.val (.long s1), .second, .val (.int i), .val (.long t), .second, .val (.int j), .val (.int md), .val (.ref b1), .val (.int (md &&& (3 : Int32))), .val (.long t), .second, .unset, .unset, .unset, .unset]) rfl ?_
    show Steps p.tables e below (T2.setTop (mkF m 31 #[.val (.long s1), .second, .val (.int i), .val (.long t), .second, .val (.int j), .val (.int md), .val (.ref b1), .val (.int (md &&& (3 : Int32))), .val (.long t), .second, .unset, .unset, .unset, .unset] [])) _
    refine XS.iload X2.here hx rfl (hb hby at_31) rfl ?_
    show Steps p.tables e below (T2.setTop (mkF m 33 #[.val (.long s1), .second, .val (.int i), .val (.long t), .second, .val (.int j), .val (.int md), .val (.ref b1), .val (.int (md &&& (3 : Int32))), .val (.long t), .second, .unset, .unset, .unset, .unset] [(.int (md &&& (3 : Int32)))])) _
    refine XS.iconst X2.here hx rfl (hb hby at_33) ?_
    show Steps p.tables e below (T2.setTop (mkF m 34 #[.val (.long s1), .second, .val (.int i), .val (.long t), .second, .val (.int j), .val (.int md), .val (.ref b1), .val (.int (md &&& (3 : Int32))), .val (.long t), .second, .unset, .unset, .unset, .unset] [(.int (2 : Int32)), (.int (md &&& (3 : Int32)))])) _
    refine XS.iand X2.here hx rfl (hb hby at_34) rfl ?_
    show Steps p.tables e below (T2.setTop (mkF m 35 #[.val (.long s1), .second, .val (.int i), .val (.long t), .second, .val (.int j), .val (.int md), .val (.ref b1), .val (.int (md &&& (3 : Int32))), .val (.long t), .second, .unset, .unset, .unset, .unset] [(.int ((md &&& (3 : Int32)) &&& (2 : Int32)))])) _
    refine XS.ifNo X2.here hx rfl (hb hby at_35) rfl ((if0 _ _).trans (feq (hc35 : ¬ (((md &&& (3 : Int32)) &&& (2 : Int32)) = (0 : Int32)))).1) ?_
    show Steps p.tables e below (T2.setTop (mkF m 38 #[.val (.long s1), .second, .val (.int i), .val (.long t), .second, .val (.int j), .val (.int md), .val (.ref b1), .val (.int (md &&& (3 : Int32))), .val (.long t), .second, .unset, .unset, .unset, .unset] [])) _
    refine XS.iload X2.here hx rfl (hb hby at_38) rfl ?_
    show Steps p.tables e below (T2.setTop (mkF m 40 #[.val (.long s1), .second, .val (.int i), .val (.long t), .second, .val (.int j), .val (.int md), .val (.ref b1), .val (.int (md &&& (3 : Int32))), .val (.long t), .second, .unset, .unset, .unset, .unset] [(.int j)])) _
    refine XS.goto X2.here hx rfl (pc0 := 40) (pc' := 44) rfl (hb hby at_40) (by decide) (by decide) ?_
    show Steps p.tables e below (T2.setTop (mkF m 44 #[.val (.long s1), .second, .val (.int i), .val (.long t), .second, .val (.int j), .val (.int md), .val (.ref b1), .val (.int (md &&& (3 : Int32))), .val (.long t), .second, .unset, .unset, .unset, .unset] [(.int j)])) _
    refine XS.istore X2.here hx rfl (hb hby at_44) rfl (l' := #[.val (.long s1), .second, .val (.int i), .val (.long t), .second, .val (.int j), .val (.int md), .val (.ref b1), .val (.int (md &&& (3 : Int32))), .val (.long t), .second, .val (.int j), .unset, .unset, .unset]) rfl ?_
    show Steps p.tables e below (T2.setTop (mkF m 46 #[.val (.long s1), .second, .val (.int i), .val (.long t), .second, .val (.int j), .val (.int md), .val (.ref b1), .val (.int (md &&& (3 : Int32))), .val (.long t), .second, .val (.int j), .unset, .unset, .unset] [])) _
    refine st3 _ ?_
    show Steps p.tables e below (T3.setTop (mkF m 49 #[.val (.long s1), .second, .val (.int i), .val (.long t), .second, .val (.int j), .val (.int md), .val (.ref b1), .val (.int (md &&& (3 : Int32))), .val (.long t), .second, .val (.int j), .unset, .unset, .unset] [(.ref b3)])) _
    refine XS.dup X3.here hx rfl (hb hby at_49) rfl rfl ?_
    show Steps p.tables e below (T3.setTop (mkF m 50 #[.val (.long s1), .second, .val (.int i), .val (.long t), .second, .val (.int j), .val (.int md), .val (.ref b1), .val (.int (md &&& (3 : Int32))), .val (.long t), .second, .val (.int j), .unset, .unset, .unset] [(.ref b3), (.ref b3)])) _
    refine XS.lload X3.here hx rfl (hb hby at_50) rfl ?_
    show Steps p.tables e below (T3.setTop (mkF m 52 #[.val (.long s1), .second, .val (.int i), .val (.long t), .second, .val (.int j), .val (.int md), .val (.ref b1), .val (.int (md &&& (3 : Int32))), .val (.long t), .second, .val (.int j), .unset, .unset, .unset] [(.long t), (.ref b3), (.ref b3)])) _
    refine XS.iload X3.here hx rfl (hb hby at_52) rfl ?_
    show Steps p.tables e below (T3.setTop (mkF m 54 #[.val (.long s1), .second, .val (.int i), .val (.long t), .second, .val (.int j), .val (.int md), .val (.ref b1), .val (.int (md &&& (3 : Int32))), .val (.long t), .second, .val (.int j), .unset, .unset, .unset] [(.int j), (.long t), (.ref b3), (.ref b3)])) _
    refine st4.trans ?_
    show Steps p.tables e below (T4.setTop (mkF m 57 #[.val (.long s1), .second, .val (.int i), .val (.long t), .second, .val (.int j), .val (.int md), .val (.ref b1), .val (.int (md &&& (3 : Int32))), .val (.long t), .second, .val (.int j), .unset, .unset, .unset] [(.ref b3)])) _
    refine XS.astore X4.here hx rfl (hb hby at_57) rfl rfl (l' := #[.val (.long s1), .second, .val (.int i), .val (.long t), .second, .val (.int j), .val (.int md), .val (.ref b1), .val (.int (md &&& (3 : Int32))), .val (.long t), .second, .val (.int j), .val (.ref b3), .unset, .unset]) rfl ?_
    show Steps p.tables e below (T4.setTop (mkF m 59 #[.val (.long s1), .second, .val (.int i), .val (.long t), .second, .val (.int j), .val (.int md), .val (.ref b1), .val (.int (md &&& (3 : Int32))), .val (.long t), .second, .val (.int j), .val (.ref b3), .unset, .unset] [])) _
    refine XS.lloadN X4.here hx rfl (hb hby at_59) rfl ?_
    show Steps p.tables e below (T4.setTop (mkF m 60 #[.val (.long s1), .second, .val (.int i), .val (.long t), .second, .val (.int j), .val (.int md), .val (.ref b1), .val (.int (md &&& (3 : Int32))), .val (.long t), .second, .val (.int j), .val (.ref b3), .unset, .unset] [(.long s1)])) _
    refine st5 _ ?_
    show Steps p.tables e below (T5.setTop (mkF m 63 #[.val (.long s1), .second, .val (.int i), .val (.long t), .second, .val (.int j), .val (.int md), .val (.ref b1), .val (.int (md &&& (3 : Int32))), .val (.long t), .second, .val (.int j), .val (.ref b3), .unset, .unset] [(.ref r_5)])) _
    refine XS.astore X5.here hx rfl (hb hby at_63) rfl rfl (l' := #[.val (.long s1), .second, .val (.int i), .val (.long t), .second, .val (.int j), .val (.int md), .val (.ref b1), .val (.int (md &&& (3 : Int32))), .val (.long t), .second, .val (.int j), .val (.ref b3), .val (.ref r_5), .unset]) rfl ?_
    show Steps p.tables e below (T5.setTop (mkF m 65 #[.val (.long s1), .second, .val (.int i), .val (.long t), .second, .val (.int j), .val (.int md), .val (.ref b1), .val (.int (md &&& (3 : Int32))), .val (.long t), .second, .val (.int j), .val (.ref b3), .val (.ref r_5), .unset] [])) _
    refine XS.lload X5.here hx rfl (hb hby at_65) rfl ?_
    show Steps p.tables e below (T5.setTop (mkF m 67 #[.val (.long s1), .second, .val (.int i), .val (.long t), .second, .val (.int j), .val (.int md), .val (.ref b1), .val (.int (md &&& (3 : Int32))), .val (.long t), .second, .val (.int j), .val (.ref b3), .val (.ref r_5), .unset] [(.long t)])) _
    refine XS.lloadN X5.here hx rfl (hb hby at_67) rfl ?_
    show Steps p.tables e below (T5.setTop (mkF m 68 #[.val (.long s1), .second, .val (.int i), .val (.long t), .second, .val (.int j), .val (.int md), .val (.ref b1), .val (.int (md &&& (3 : Int32))), .val (.long t), .second, .val (.int j), .val (.ref b3), .val (.ref r_5), .unset] [(.long s1), (.long t)])) _
    refine XS.lcmp X5.here hx rfl (hb hby at_68) rfl ?_
    show Steps p.tables e below (T5.setTop (mkF m 69 #[.val (.long s1), .second, .val (.int i), .val (.long t), .second, .val (.int j), .val (.int md), .val (.ref b1), .val (.int (md &&& (3 : Int32))), .val (.long t), .second, .val (.int j), .val (.ref b3), .val (.ref r_5), .unset] [(.int (lcmpW t s1))])) _
    refine XS.ifNo X5.here hx rfl (hb hby at_69) rfl ((if0 _ _).trans (teq (hc69 : (lcmpW t s1) = (0 : Int32))).2) ?_
    show Steps p.tables e below (T5.setTop (mkF m 72 #[.val (.long s1), .second, .val (.int i), .val (.long t), .second, .val (.int j), .val (.int md), .val (.ref b1), .val (.int (md &&& (3 : Int32))), .val (.long t), .second, .val (.int j), .val (.ref b3), .val (.ref r_5), .unset] [])) _
    refine XS.iload X5.here hx rfl (hb hby at_72) rfl ?_
    show Steps p.tables e below (T5.setTop (mkF m 74 #[.val (.long s1), .second, .val (.int i), .val (.long t), .second, .val (.int j), .val (.int md), .val (.ref b1), .val (.int (md &&& (3 : Int32))), .val (.long t), .second, .val (.int j), .val (.ref b3), .val (.ref r_5), .unset] [(.int j)])) _
    refine XS.iloadN X5.here hx rfl (hb hby at_74) rfl ?_
    show Steps p.tables e below (T5.setTop (mkF m 75 #[.val (.long s1), .second, .val (.int i), .val (.long t), .second, .val (.int j), .val (.int md), .val (.ref b1), .val (.int (md &&& (3 : Int32))), .val (.long t), .second, .val (.int j), .val (.ref b3), .val (.ref r_5), .unset] [(.int i), (.int j)])) _
    refine XS.icmpYes X5.here hx rfl (pc0 := 75) (pc' := 82) rfl (hb hby at_75) rfl (feq (hc75 : ¬ (j = i))).2 (by decide) (by decide) ?_
    show Steps p.tables e below (T5.setTop (mkF m 82 #[.val (.long s1), .second, .val (.int i), .val (.long t), .second, .val (.int j), .val (.int md), .val (.ref b1), .val (.int (md &&& (3 : Int32))), .val (.long t), .second, .val (.int j), .val (.ref b3), .val (.ref r_5), .unset] [])) _
    refine XS.iconst X5.here hx rfl (hb hby at_82) ?_
    show Steps p.tables e below (T5.setTop (mkF m 83 #[.val (.long s1), .second, .val (.int i), .val (.long t), .second, .val (.int j), .val (.int md), .val (.ref b1), .val (.int (md &&& (3 : Int32))), .val (.long t), .second, .val (.int j), .val (.ref b3), .val (.ref r_5), .unset] [(.int (0 : Int32))])) _
    refine XS.istore X5.here hx rfl (hb hby at_83) rfl (l' := #[.val (.long s1), .second, .val (.int i), .val (.long t), .second, .val (.int j), .val (.int md), .val (.ref b1), .val (.int (md &&& (3 : Int32))), .val (.long t), .second, .val (.int j), .val (.ref b3), .val (.ref r_5), .val (.int (0 : Int32))]) rfl ?_
    show Steps p.tables e below (T5.setTop (mkF m 85 #[.val (.long s1), .second, .val (.int i), .val (.long t), .second, .val (.int j), .val (.int md), .val (.ref b1), .val (.int (md &&& (3 : Int32))), .val (.long t), .second, .val (.int j), .val (.ref b3), .val (.ref r_5), .val (.int (0 : Int32))] [])) _
    refine XS.aload X5.here hx rfl (hb hby at_85) rfl rfl ?_
    show Steps p.tables e below (T5.setTop (mkF m 87 #[.val (.long s1), .second, .val (.int i), .val (.long t), .second, .val (.int j), .val (.int md), .val (.ref b1), .val (.int (md &&& (3 : Int32))), .val (.long t), .second, .val (.int j), .val (.ref b3), .val (.ref r_5), .val (.int (0 : Int32))] [(.ref b1)])) _
    refine XS.aload X5.here hx rfl (hb hby at_87) rfl rfl ?_
    show Steps p.tables e below (T5.setTop (mkF m 89 #[.val (.long s1), .second, .val (.int i), .val (.long t), .second, .val (.int j), .val (.int md), .val (.ref b1), .val (.int (md &&& (3 : Int32))), .val (.long t), .second, .val (.int j), .val (.ref b3), .val (.ref r_5), .val (.int (0 : Int32))] [(.ref b3), (.ref b1)])) _
    refine st8.trans ?_
    show Steps p.tables e below (T8.setTop (mkF m 92 #[.val (.long s1), .second, .val (.int i), .val (.long t), .second, .val (.int j), .val (.int md), .val (.ref b1), .val (.int (md &&& (3 : Int32))), .val (.long t), .second, .val (.int j), .val (.ref b3), .val (.ref r_5), .val (.int (0 : Int32))] [(.int (eqV s1 i t j))])) _
    refine XS.iload X8.here hx rfl (hb hby at_92) rfl ?_
    show Steps p.tables e below (T8.setTop (mkF m 94 #[.val (.long s1), .second, .val (.int i), .val (.long t), .second, .val (.int j), .val (.int md), .val (.ref b1), .val (.int (md &&& (3 : Int32))), .val (.long t), .second, .val (.int j), .val (.ref b3), .val (.ref r_5), .val (.int (0 : Int32))] [(.int (0 : Int32)), (.int (eqV s1 i t j))])) _
    refine XS.icmpYes X8.here hx rfl (pc0 := 94) (pc' := 99) rfl (hb hby at_94) rfl (teq ((eqV_n2 fun h => hc75 h.symm) : (eqV s1 i t j) = (0 : Int32))).1 (by decide) (by decide) ?_
    show Steps p.tables e below (T8.setTop (mkF m 99 #[.val (.long s1), .second, .val (.int i), .val (.long t), .second, .val (.int j), .val (.int md), .val (.ref b1), .val (.int (md &&& (3 : Int32))), .val (.long t), .second, .val (.int j), .val (.ref b3), .val (.ref r_5), .val (.int (0 : Int32))] [])) _
    refine XS.aload X8.here hx rfl (hb hby at_99) rfl rfl ?_
    show Steps p.tables e below (T8.setTop (mkF m 101 #[.val (.long s1), .second, .val (.int i), .val (.long t), .second, .val (.int j), .val (.int md), .val (.ref b1), .val (.int (md &&& (3 : Int32))), .val (.long t), .second, .val (.int j), .val (.ref b3), .val (.ref r_5), .val (.int (0 : Int32))] [(.ref b3)])) _
    refine XS.aload X8.here hx rfl (hb hby at_101) rfl rfl ?_
    show Steps p.tables e below (T8.setTop (mkF m 103 #[.val (.long s1), .second, .val (.int i), .val (.long t), .second, .val (.int j), .val (.int md), .val (.ref b1), .val (.int (md &&& (3 : Int32))), .val (.long t), .second, .val (.int j), .val (.ref b3), .val (.ref r_5), .val (.int (0 : Int32))] [(.ref b1), (.ref b3)])) _
    refine st9.trans ?_
    show Steps p.tables e below (T9.setTop (mkF m 106 #[.val (.long s1), .second, .val (.int i), .val (.long t), .second, .val (.int j), .val (.int md), .val (.ref b1), .val (.int (md &&& (3 : Int32))), .val (.long t), .second, .val (.int j), .val (.ref b3), .val (.ref r_5), .val (.int (0 : Int32))] [(.int (eqV t j s1 i))])) _
    refine XS.iload X9.here hx rfl (hb hby at_106) rfl ?_
    show Steps p.tables e below (T9.setTop (mkF m 108 #[.val (.long s1), .second, .val (.int i), .val (.long t), .second, .val (.int j), .val (.int md), .val (.ref b1), .val (.int (md &&& (3 : Int32))), .val (.long t), .second, .val (.int j), .val (.ref b3), .val (.ref r_5), .val (.int (0 : Int32))] [(.int (0 : Int32)), (.int (eqV t j s1 i))])) _
    refine XS.icmpYes X9.here hx rfl (pc0 := 108) (pc' := 113) rfl (hb hby at_108) rfl (teq ((eqV_n2 hc75) : (eqV t j s1 i) = (0 : Int32))).1 (by decide) (by decide) ?_
    show Steps p.tables e below (T9.setTop (mkF m 113 #[.val (.long s1), .second, .val (.int i), .val (.long t), .second, .val (.int j), .val (.int md), .val (.ref b1), .val (.int (md &&& (3 : Int32))), .val (.long t), .second, .val (.int j), .val (.ref b3), .val (.ref r_5), .val (.int (0 : Int32))] [])) _
    refine XS.aload X9.here hx rfl (hb hby at_113) rfl rfl ?_
    show Steps p.tables e below (T9.setTop (mkF m 115 #[.val (.long s1), .second, .val (.int i), .val (.long t), .second, .val (.int j), .val (.int md), .val (.ref b1), .val (.int (md &&& (3 : Int32))), .val (.long t), .second, .val (.int j), .val (.ref b3), .val (.ref r_5), .val (.int (0 : Int32))] [(.ref b1)])) _
    refine XS.aload X9.here hx rfl (hb hby at_115) rfl rfl ?_
    show Steps p.tables e below (T9.setTop (mkF m 117 #[.val (.long s1), .second, .val (.int i), .val (.long t), .second, .val (.int j), .val (.int md), .val (.ref b1), .val (.int (md &&& (3 : Int32))), .val (.long t), .second, .val (.int j), .val (.ref b3), .val (.ref r_5), .val (.int (0 : Int32))] [(.ref b1), (.ref b1)])) _
    refine st10.trans ?_
    show Steps p.tables e below (T10.setTop (mkF m 120 #[.val (.long s1), .second, .val (.int i), .val (.long t), .second, .val (.int j), .val (.int md), .val (.ref b1), .val (.int (md &&& (3 : Int32))), .val (.long t), .second, .val (.int j), .val (.ref b3), .val (.ref r_5), .val (.int (0 : Int32))] [(.int (eqV s1 i s1 i))])) _
    refine XS.ifYes X10.here hx rfl (pc0 := 120) (pc' := 125) rfl (hb hby at_120) rfl ((if0 _ _).trans (feq ((by rw [eqV_y rfl rfl]; decide) : ¬ ((eqV s1 i s1 i) = (0 : Int32)))).2) (by decide) (by decide) ?_
    show Steps p.tables e below (T10.setTop (mkF m 125 #[.val (.long s1), .second, .val (.int i), .val (.long t), .second, .val (.int j), .val (.int md), .val (.ref b1), .val (.int (md &&& (3 : Int32))), .val (.long t), .second, .val (.int j), .val (.ref b3), .val (.ref r_5), .val (.int (0 : Int32))] [])) _
    refine XS.aload X10.here hx rfl (hb hby at_125) rfl rfl ?_
    show Steps p.tables e below (T10.setTop (mkF m 127 #[.val (.long s1), .second, .val (.int i), .val (.long t), .second, .val (.int j), .val (.int md), .val (.ref b1), .val (.int (md &&& (3 : Int32))), .val (.long t), .second, .val (.int j), .val (.ref b3), .val (.ref r_5), .val (.int (0 : Int32))] [(.ref b1)])) _
    refine XS.aconstNull X10.here hx rfl (hb hby at_127) ?_
    show Steps p.tables e below (T10.setTop (mkF m 128 #[.val (.long s1), .second, .val (.int i), .val (.long t), .second, .val (.int j), .val (.int md), .val (.ref b1), .val (.int (md &&& (3 : Int32))), .val (.long t), .second, .val (.int j), .val (.ref b3), .val (.ref r_5), .val (.int (0 : Int32))] [.null, (.ref b1)])) _
    refine st11.trans ?_
    show Steps p.tables e below (T11.setTop (mkF m 131 #[.val (.long s1), .second, .val (.int i), .val (.long t), .second, .val (.int j), .val (.int md), .val (.ref b1), .val (.int (md &&& (3 : Int32))), .val (.long t), .second, .val (.int j), .val (.ref b3), .val (.ref r_5), .val (.int (0 : Int32))] [(.int (0 : Int32))])) _
    refine XS.ifYes X11.here hx rfl (pc0 := 131) (pc' := 136) rfl (hb hby at_131) rfl ((if0 _ _).trans (teq (by decide : (0 : Int32) = (0 : Int32))).1) (by decide) (by decide) ?_
    show Steps p.tables e below (T11.setTop (mkF m 136 #[.val (.long s1), .second, .val (.int i), .val (.long t), .second, .val (.int j), .val (.int md), .val (.ref b1), .val (.int (md &&& (3 : Int32))), .val (.long t), .second, .val (.int j), .val (.ref b3), .val (.ref r_5), .val (.int (0 : Int32))] [])) _
    refine XS.aload X11.here hx rfl (hb hby at_136) rfl rfl ?_
    show Steps p.tables e below (T11.setTop (mkF m 138 #[.val (.long s1), .second, .val (.int i), .val (.long t), .second, .val (.int j), .val (.int md), .val (.ref b1), .val (.int (md &&& (3 : Int32))), .val (.long t), .second, .val (.int j), .val (.ref b3), .val (.ref r_5), .val (.int (0 : Int32))] [(.ref b1)])) _
    refine XS.aload X11.here hx rfl (hb hby at_138) rfl rfl ?_
    show Steps p.tables e below (T11.setTop (mkF m 140 #[.val (.long s1), .second, .val (.int i), .val (.long t), .second, .val (.int j), .val (.int md), .val (.ref b1), .val (.int (md &&& (3 : Int32))), .val (.long t), .second, .val (.int j), .val (.ref b3), .val (.ref r_5), .val (.int (0 : Int32))] [(.ref r_5), (.ref b1)])) _
    refine st12.trans ?_
    show Steps p.tables e below (T12.setTop (mkF m 143 #[.val (.long s1), .second, .val (.int i), .val (.long t), .second, .val (.int j), .val (.int md), .val (.ref b1), .val (.int (md &&& (3 : Int32))), .val (.long t), .second, .val (.int j), .val (.ref b3), .val (.ref r_5), .val (.int (0 : Int32))] [(.int (0 : Int32))])) _
    refine XS.ifYes X12.here hx rfl (pc0 := 143) (pc' := 148) rfl (hb hby at_143) rfl ((if0 _ _).trans (teq (by decide : (0 : Int32) = (0 : Int32))).1) (by decide) (by decide) ?_
    show Steps p.tables e below (T12.setTop (mkF m 148 #[.val (.long s1), .second, .val (.int i), .val (.long t), .second, .val (.int j), .val (.int md), .val (.ref b1), .val (.int (md &&& (3 : Int32))), .val (.long t), .second, .val (.int j), .val (.ref b3), .val (.ref r_5), .val (.int (0 : Int32))] [])) _
    refine XS.iconst X12.here hx rfl (hb hby at_148) ?_
    show Steps p.tables e below (T12.setTop (mkF m 149 #[.val (.long s1), .second, .val (.int i), .val (.long t), .second, .val (.int j), .val (.int md), .val (.ref b1), .val (.int (md &&& (3 : Int32))), .val (.long t), .second, .val (.int j), .val (.ref b3), .val (.ref r_5), .val (.int (0 : Int32))] [(.int (1 : Int32))])) _
    exact retN X12 hx (t := .boolean) Bd.returns (by simp) (hb hby at_149) hr
  · show Q_law Z s1 i t j md wc h0 n0 _ T12.heap _
    rw [kh12]
    exact ⟨rfl, N12⟩
set_option maxRecDepth 65536 in
set_option maxHeartbeats 40000000 in
theorem law_8 (l : Launch) (Z : State) (a0 : Array Value) (hw : ∀ d ∈ tables_1, d.before a0 Z = true) (ws : List Jvm.Cond) (s1 : Int64) (i : Int32) (t : Int64) (j : Int32) (md : Int32) (wc : Addr) (h0 : Heap) (n0 : Nat) (O0 : Old Z n0 h0) (G0 : Sta Z Z.heap "java/lang/Long$LongCache" "cache" "[Ljava/lang/Long;" (.ref wc)) (CA : Cache Z wc "java/lang/Long") (hc21 : ¬ (((md &&& (3 : Int32)) &&& (1 : Int32)) = (0 : Int32))) (hc35 : ¬ (((md &&& (3 : Int32)) &&& (2 : Int32)) = (0 : Int32))) (hc69 : ¬ ((lcmpW t s1) = (0 : Int32))) :
    MetFree l x (head1 (Jvm.Cond.code x code maxLocals ret :: ws) room_1) (fun zA zU => zA = #[(.long s1), (.int i), (.long t), (.int j), (.int md)] ∧ Z.Warmed39 zU.vm ∧ zU.heap = h0) (fun _ _ _ _ _ => True) (fun _ zU zo zU' => ∃ zv zL, zo = .returned zv ∧ Q_law Z s1 i t j md wc h0 n0 zv zU'.heap zL ∧ FrameEnd zU zo zU' zL room_1.cells room_1.slots) := by
  refine MetFree.of_bodySF (plainFor_of_name pn_11) hisR ?_
  intro p e s m args below meth c s₁ Bd hml0 hP hK
  obtain ⟨rfl, hZ, hh⟩ := hP
  have hx := Bd.exec
  have hby := Bd.bytes
  have hml : c.maxLocals = 15 := hml0
  have hown : s.vm.findClass "com/example/maat/maat/TurnEqualsPinLaw" = some m.cls := findClass_of_methodNamed Bd.named
  have hnm := (name_of_methodNamed Bd.named Bd.method).1
  have X0 : Stand p l e room_1 s m #[(.long s1), (.int i), (.long t), (.int j), (.int md)] below meth c s₁ [] 0 0 := Stand.of_body Bd
  have e0 : s₁.heap = h0 := by rw [← hh, Bd.state]; rfl
  have N0 := Fr.nil n0
  have Z0 : n0 ≤ h0.size := O0.1 ▸ O0.2.1
  have pre0 : ∀ zt, Steps p.tables e below (s₁.setTop (mkF m 0 #[.val (.long s1), .second, .val (.int i), .val (.long t), .second, .val (.int j), .val (.int md), .unset, .unset, .unset, .unset, .unset, .unset, .unset, .unset] [])) zt → Steps p.tables e below (s₁.setTop (entryFrame m #[(.long s1), (.int i), (.long t), (.int j), (.int md)] maxLocals)) zt := fun zt zk => castTop (ef_0_JIJII m s1 i t j md) zk
  obtain ⟨T1, h1, X1, e1, E1, A1, D1, U1, st1⟩ := newO X0 hx hZ hown (hw _ (List.mem_of_getElem? (i := 0) rfl)) (hw _ (List.mem_of_getElem? (i := 1) rfl)) (hw _ (List.mem_of_getElem? (i := 2) rfl)) e0 (g := (mkF m 0 #[.val (.long s1), .second, .val (.int i), .val (.long t), .second, .val (.int j), .val (.int md), .unset, .unset, .unset, .unset, .unset, .unset, .unset, .unset] [])) rfl (hb hby at_0) (by decide) (by decide)
  obtain ⟨b1, gz1⟩ : ∃ z, z = h0.size := ⟨_, rfl⟩
  rw [← gz1] at A1 D1 U1 st1
  have sz_b1 : h0.size ≤ b1 := Nat.le_trans (Keep.refl h0 []).1 (Nat.le_of_eq gz1.symm)
  have g_b1 : n0 ≤ b1 := Nat.le_trans Z0 sz_b1
  have O1 := O0.ext E1
  have K1 : Keep h0 h1 [] := (Keep.refl h0 []).ext E1
  have Fi1_15 : Fld Z h1 b1 "com/example/maat/maat/Turn" "seq" "J" (.long (0 : Int64)) := D1 (Or.inr (hw _ (List.mem_of_getElem? (i := 15) rfl))) (ty := .long) (by decide)
  have Fi1_17 : Fld Z h1 b1 "com/example/maat/maat/Turn" "index" "I" (.int (0 : Int32)) := D1 (Or.inr (hw _ (List.mem_of_getElem? (i := 17) rfl))) (ty := .int) (by decide)
  obtain ⟨_, _, ⟨T2, L2, k2, n2⟩, -, X2, ⟨Lc2, hQ2, l2, y2, z2⟩, st2⟩ := X1.specialBack hx (y := (⟨"com/example/maat/maat/Turn", "<init>", "(JI)V"⟩ : MethodName)) rfl hown (mvT hZ (hw _ (List.mem_of_getElem? (i := 3) rfl))) (mvT hZ (hw _ (List.mem_of_getElem? (i := 4) rfl))) (mvT hZ (hw _ (List.mem_of_getElem? (i := 5) rfl))) (by decide) (backOf (W := 1) (turnI l Z a0 hw [] b1 s1 i h1 n0 O1 Fi1_15 Fi1_17 A1 g_b1) hZ (hw _ (List.mem_of_getElem? (i := 5) rfl)) (hw _ (List.mem_of_getElem? (i := 2) rfl)) (by decide) (by decide)) (g := (mkF m 6 #[.val (.long s1), .second, .val (.int i), .val (.long t), .second, .val (.int j), .val (.int md), .unset, .unset, .unset, .unset, .unset, .unset, .unset, .unset] [(.int i), (.long s1), (.ref b1), (.ref b1)])) rfl (by rw [hml]; rfl) (Steps.refl _) (a := b1) (argsL := [(.long s1), (.int i)]) (rest := [(.ref b1)]) (lenOf pd_2 rfl) rfl (by show 2 * 0 + _ ≤ _; exact Nat.le_of_eq rfl) (hb hby at_6) (fun _ _ => ⟨rfl, e1, (by decide : 1 + 0 ≤ _), (by decide : 2 + 0 ≤ _)⟩)
  dsimp only [Pt.U, Pt.locs, Pt.cells, Pt.slots] at X2 l2 y2 z2 st2 hQ2
  subst l2 y2 z2
  obtain ⟨rfl, Nq2, kh2, Po2_0, Po2_1, Po2_2⟩ := hQ2
  have N2 := Fr.app N0 Nq2
  have O2 := O1.keep kh2 (allS g_b1 all0)
  have K2 : Keep h0 T2.heap [] := K1.trans kh2 (allS (Or.inr sz_b1) all0)
  obtain ⟨T3, h3, X3, e3, E3, A3, D3, U3, st3⟩ := newO X2 hx hZ hown (hw _ (List.mem_of_getElem? (i := 0) rfl)) (hw _ (List.mem_of_getElem? (i := 1) rfl)) (hw _ (List.mem_of_getElem? (i := 2) rfl)) rfl (g := (mkF m 46 #[.val (.long s1), .second, .val (.int i), .val (.long t), .second, .val (.int j), .val (.int md), .val (.ref b1), .val (.int (md &&& (3 : Int32))), .val (.long t), .second, .val (.int j), .unset, .unset, .unset] [])) rfl (hb hby at_46) (by decide) (by decide)
  obtain ⟨b3, gz3⟩ : ∃ z, z = T2.heap.size := ⟨_, rfl⟩
  rw [← gz3] at A3 D3 U3 st3
  have sz_b3 : h0.size ≤ b3 := Nat.le_trans K2.1 (Nat.le_of_eq gz3.symm)
  have g_b3 : n0 ≤ b3 := Nat.le_trans Z0 sz_b3
  have O3 := O2.ext E3
  have K3 : Keep h0 h3 [] := K2.ext E3
  have Fi3_15 : Fld Z h3 b3 "com/example/maat/maat/Turn" "seq" "J" (.long (0 : Int64)) := D3 (Or.inr (hw _ (List.mem_of_getElem? (i := 15) rfl))) (ty := .long) (by decide)
  have Fi3_17 : Fld Z h3 b3 "com/example/maat/maat/Turn" "index" "I" (.int (0 : Int32)) := D3 (Or.inr (hw _ (List.mem_of_getElem? (i := 17) rfl))) (ty := .int) (by decide)
  obtain ⟨_, _, ⟨T4, L4, k4, n4⟩, -, X4, ⟨Lc4, hQ4, l4, y4, z4⟩, st4⟩ := X3.specialBack hx (y := (⟨"com/example/maat/maat/Turn", "<init>", "(JI)V"⟩ : MethodName)) rfl hown (mvT hZ (hw _ (List.mem_of_getElem? (i := 3) rfl))) (mvT hZ (hw _ (List.mem_of_getElem? (i := 4) rfl))) (mvT hZ (hw _ (List.mem_of_getElem? (i := 5) rfl))) (by decide) (backOf (W := 1) (turnI l Z a0 hw [] b3 t j h3 n0 O3 Fi3_15 Fi3_17 A3 g_b3) hZ (hw _ (List.mem_of_getElem? (i := 5) rfl)) (hw _ (List.mem_of_getElem? (i := 2) rfl)) (by decide) (by decide)) (g := (mkF m 54 #[.val (.long s1), .second, .val (.int i), .val (.long t), .second, .val (.int j), .val (.int md), .val (.ref b1), .val (.int (md &&& (3 : Int32))), .val (.long t), .second, .val (.int j), .unset, .unset, .unset] [(.int j), (.long t), (.ref b3), (.ref b3)])) rfl (by rw [hml]; rfl) (Steps.refl _) (a := b3) (argsL := [(.long t), (.int j)]) (rest := [(.ref b3)]) (lenOf pd_2 rfl) rfl (by show 2 * 0 + _ ≤ _; exact Nat.le_of_eq rfl) (hb hby at_54) (fun _ _ => ⟨rfl, e3, (by decide : 2 + 0 ≤ _), (by decide : 4 + 0 ≤ _)⟩)
  dsimp only [Pt.U, Pt.locs, Pt.cells, Pt.slots] at X4 l4 y4 z4 st4 hQ4
  subst l4 y4 z4
  obtain ⟨rfl, Nq4, kh4, Po4_0, Po4_1, Po4_2⟩ := hQ4
  have N4 := Fr.app N2 Nq4
  have O4 := O3.keep kh4 (allS g_b3 all0)
  have K4 : Keep h0 T4.heap [] := K3.trans kh4 (allS (Or.inr sz_b3) all0)
  obtain ⟨_, _, ⟨T5, L5, k5, n5⟩, -, X5, ⟨Lc5, hQ5, l5, y5, z5⟩, st5⟩ := Jvm.LawKit.callS X4 hx (y := (⟨"java/lang/Long", "valueOf", "(J)Ljava/lang/Long;"⟩ : MethodName)) hown (mvT hZ (hw _ (List.mem_of_getElem? (i := 18) rfl))) (mvT hZ (hw _ (List.mem_of_getElem? (i := 19) rfl))) (mvT hZ (hw _ (List.mem_of_getElem? (i := 20) rfl))) (mvT hZ (hw _ (List.mem_of_getElem? (i := 21) rfl))) (by decide) (backOf (W := 0) (valueOf l Z a0 hw [] s1 wc T4.heap n0 O4 G0 CA) hZ (hw _ (List.mem_of_getElem? (i := 21) rfl)) (hw _ (List.mem_of_getElem? (i := 20) rfl)) (by decide) (by decide)) (g := (mkF m 60 #[.val (.long s1), .second, .val (.int i), .val (.long t), .second, .val (.int j), .val (.int md), .val (.ref b1), .val (.int (md &&& (3 : Int32))), .val (.long t), .second, .val (.int j), .val (.ref b3), .unset, .unset] [(.long s1)])) rfl (by rw [hml]; rfl) (argsL := [(.long s1)]) (rest := []) (lenOf pd_3 rfl) rfl (by show 2 * 0 + _ ≤ _; exact Nat.le_of_eq rfl) (hb hby at_60) (fun _ _ => ⟨rfl, rfl, (by decide : 2 + 1 ≤ _), (by decide : 4 + 1 ≤ _)⟩)
  dsimp only [Pt.U, Pt.locs, Pt.cells, Pt.slots] at X5 l5 y5 z5 st5 hQ5
  subst l5 y5 z5
  obtain ⟨r_5, rfl, Nq5, kh5, Po5_0⟩ := hQ5
  have N5 := Fr.app N4 Nq5
  have O5 := O4.keep kh5 all0
  have K5 : Keep h0 T5.heap [] := K4.trans kh5 all0
  have c6 : Fld Z T5.heap b1 "com/example/maat/maat/Turn" "seq" "J" (.long s1) := (((Po2_1.ext E3).keep kh4 (ninS (Nat.ne_of_lt (Nat.lt_of_lt_of_le (Po2_0).lt (Nat.le_of_eq gz3.symm))) nin0)).keep kh5 nin0)
  have c7 : Fld Z T5.heap b1 "com/example/maat/maat/Turn" "index" "I" (.int i) := (((Po2_2.ext E3).keep kh4 (ninS (Nat.ne_of_lt (Nat.lt_of_lt_of_le (Po2_0).lt (Nat.le_of_eq gz3.symm))) nin0)).keep kh5 nin0)
  obtain ⟨cq8, kq8, q8a, q8b, q8c⟩ := isOf hZ rfl (((Po2_0.ext E3).keep kh4).keep kh5)
  obtain ⟨_, _, ⟨T8, L8, k8, n8⟩, -, X8, ⟨Lc8, hQ8, l8, y8, z8⟩, st8⟩ := X5.virtualBack hx (y := (⟨"com/example/maat/maat/Turn", "equals", "(Ljava/lang/Object;)Z"⟩ : MethodName)) (z := (⟨"com/example/maat/maat/Turn", "equals", "(Ljava/lang/Object;)Z"⟩ : MethodName)) hown (mvT hZ (hw _ (List.mem_of_getElem? (i := 26) rfl))) (mvT hZ (hw _ (List.mem_of_getElem? (i := 27) rfl))) (notFace_of_selects (args := #[]) (mvT hZ (hw _ (List.mem_of_getElem? (i := 29) rfl)))) (mvT hZ (hw _ (List.mem_of_getElem? (i := 29) rfl))) (mvT hZ (hw _ (List.mem_of_getElem? (i := 28) rfl))) (by decide) (backOf (W := 0) (eqT l Z a0 hw [] b1 b3 s1 i t j T5.heap n0 O5 c6 c7 (Po4_1.keep kh5 nin0) (Po4_2.keep kh5 nin0) (Po4_0.keep kh5)) hZ (hw _ (List.mem_of_getElem? (i := 30) rfl)) (hw _ (List.mem_of_getElem? (i := 2) rfl)) (by decide) (by decide)) q8a q8c (g := (mkF m 89 #[.val (.long s1), .second, .val (.int i), .val (.long t), .second, .val (.int j), .val (.int md), .val (.ref b1), .val (.int (md &&& (3 : Int32))), .val (.long t), .second, .val (.int j), .val (.ref b3), .val (.ref r_5), .val (.int (0 : Int32))] [(.ref b3), (.ref b1)])) rfl (by rw [hml]; rfl) (Steps.refl _) (argsL := [(.ref b3)]) (rest := []) (lenOf pd_4 rfl) rfl (by show 2 * 0 + _ ≤ _; exact Nat.le_of_eq rfl) (hb hby at_89) (fun _ _ => ⟨rfl, rfl, (by decide : 3 + 0 ≤ _), (by decide : 5 + 0 ≤ _)⟩)
  dsimp only [Pt.U, Pt.locs, Pt.cells, Pt.slots] at X8 l8 y8 z8 st8 hQ8
  subst l8 y8 z8
  obtain ⟨rfl, Nq8, kh8⟩ := hQ8
  have N8 := Fr.app N5 Nq8
  obtain ⟨cq9, kq9, q9a, q9b, q9c⟩ := isOf hZ kh8 (Po4_0.keep kh5)
  obtain ⟨_, _, ⟨T9, L9, k9, n9⟩, -, X9, ⟨Lc9, hQ9, l9, y9, z9⟩, st9⟩ := X8.virtualBack hx (y := (⟨"com/example/maat/maat/Turn", "equals", "(Ljava/lang/Object;)Z"⟩ : MethodName)) (z := (⟨"com/example/maat/maat/Turn", "equals", "(Ljava/lang/Object;)Z"⟩ : MethodName)) hown (mvT hZ (hw _ (List.mem_of_getElem? (i := 26) rfl))) (mvT hZ (hw _ (List.mem_of_getElem? (i := 27) rfl))) (notFace_of_selects (args := #[]) (mvT hZ (hw _ (List.mem_of_getElem? (i := 29) rfl)))) (mvT hZ (hw _ (List.mem_of_getElem? (i := 29) rfl))) (mvT hZ (hw _ (List.mem_of_getElem? (i := 28) rfl))) (by decide) (backOf (W := 0) (eqT l Z a0 hw [] b3 b1 t j s1 i T5.heap n0 O5 (Po4_1.keep kh5 nin0) (Po4_2.keep kh5 nin0) c6 c7 (((Po2_0.ext E3).keep kh4).keep kh5)) hZ (hw _ (List.mem_of_getElem? (i := 30) rfl)) (hw _ (List.mem_of_getElem? (i := 2) rfl)) (by decide) (by decide)) q9a q9c (g := (mkF m 103 #[.val (.long s1), .second, .val (.int i), .val (.long t), .second, .val (.int j), .val (.int md), .val (.ref b1), .val (.int (md &&& (3 : Int32))), .val (.long t), .second, .val (.int j), .val (.ref b3), .val (.ref r_5), .val (.int (0 : Int32))] [(.ref b1), (.ref b3)])) rfl (by rw [hml]; rfl) (Steps.refl _) (argsL := [(.ref b1)]) (rest := []) (lenOf pd_4 rfl) rfl (by show 2 * 0 + _ ≤ _; exact Nat.le_of_eq rfl) (hb hby at_103) (fun _ _ => ⟨rfl, kh8, (by decide : 3 + 0 ≤ _), (by decide : 5 + 0 ≤ _)⟩)
  dsimp only [Pt.U, Pt.locs, Pt.cells, Pt.slots] at X9 l9 y9 z9 st9 hQ9
  subst l9 y9 z9
  obtain ⟨rfl, Nq9, kh9⟩ := hQ9
  have N9 := Fr.app N8 Nq9
  obtain ⟨cq10, kq10, q10a, q10b, q10c⟩ := isOf hZ kh9 (((Po2_0.ext E3).keep kh4).keep kh5)
  obtain ⟨_, _, ⟨T10, L10, k10, n10⟩, -, X10, ⟨Lc10, hQ10, l10, y10, z10⟩, st10⟩ := X9.virtualBack hx (y := (⟨"com/example/maat/maat/Turn", "equals", "(Ljava/lang/Object;)Z"⟩ : MethodName)) (z := (⟨"com/example/maat/maat/Turn", "equals", "(Ljava/lang/Object;)Z"⟩ : MethodName)) hown (mvT hZ (hw _ (List.mem_of_getElem? (i := 26) rfl))) (mvT hZ (hw _ (List.mem_of_getElem? (i := 27) rfl))) (notFace_of_selects (args := #[]) (mvT hZ (hw _ (List.mem_of_getElem? (i := 29) rfl)))) (mvT hZ (hw _ (List.mem_of_getElem? (i := 29) rfl))) (mvT hZ (hw _ (List.mem_of_getElem? (i := 28) rfl))) (by decide) (backOf (W := 0) (eqT l Z a0 hw [] b1 b1 s1 i s1 i T5.heap n0 O5 c6 c7 c6 c7 (((Po2_0.ext E3).keep kh4).keep kh5)) hZ (hw _ (List.mem_of_getElem? (i := 30) rfl)) (hw _ (List.mem_of_getElem? (i := 2) rfl)) (by decide) (by decide)) q10a q10c (g := (mkF m 117 #[.val (.long s1), .second, .val (.int i), .val (.long t), .second, .val (.int j), .val (.int md), .val (.ref b1), .val (.int (md &&& (3 : Int32))), .val (.long t), .second, .val (.int j), .val (.ref b3), .val (.ref r_5), .val (.int (0 : Int32))] [(.ref b1), (.ref b1)])) rfl (by rw [hml]; rfl) (Steps.refl _) (argsL := [(.ref b1)]) (rest := []) (lenOf pd_4 rfl) rfl (by show 2 * 0 + _ ≤ _; exact Nat.le_of_eq rfl) (hb hby at_117) (fun _ _ => ⟨rfl, kh9, (by decide : 3 + 0 ≤ _), (by decide : 5 + 0 ≤ _)⟩)
  dsimp only [Pt.U, Pt.locs, Pt.cells, Pt.slots] at X10 l10 y10 z10 st10 hQ10
  subst l10 y10 z10
  obtain ⟨rfl, Nq10, kh10⟩ := hQ10
  have N10 := Fr.app N9 Nq10
  obtain ⟨cq11, kq11, q11a, q11b, q11c⟩ := isOf hZ kh10 (((Po2_0.ext E3).keep kh4).keep kh5)
  obtain ⟨_, _, ⟨T11, L11, k11, n11⟩, -, X11, ⟨Lc11, hQ11, l11, y11, z11⟩, st11⟩ := X10.virtualBack hx (y := (⟨"com/example/maat/maat/Turn", "equals", "(Ljava/lang/Object;)Z"⟩ : MethodName)) (z := (⟨"com/example/maat/maat/Turn", "equals", "(Ljava/lang/Object;)Z"⟩ : MethodName)) hown (mvT hZ (hw _ (List.mem_of_getElem? (i := 26) rfl))) (mvT hZ (hw _ (List.mem_of_getElem? (i := 27) rfl))) (notFace_of_selects (args := #[]) (mvT hZ (hw _ (List.mem_of_getElem? (i := 29) rfl)))) (mvT hZ (hw _ (List.mem_of_getElem? (i := 29) rfl))) (mvT hZ (hw _ (List.mem_of_getElem? (i := 28) rfl))) (by decide) (backOf (W := 0) (eqN l Z a0 hw [] b1 T5.heap n0 O5 ) hZ (hw _ (List.mem_of_getElem? (i := 30) rfl)) (hw _ (List.mem_of_getElem? (i := 2) rfl)) (by decide) (by decide)) q11a q11c (g := (mkF m 128 #[.val (.long s1), .second, .val (.int i), .val (.long t), .second, .val (.int j), .val (.int md), .val (.ref b1), .val (.int (md &&& (3 : Int32))), .val (.long t), .second, .val (.int j), .val (.ref b3), .val (.ref r_5), .val (.int (0 : Int32))] [.null, (.ref b1)])) rfl (by rw [hml]; rfl) (Steps.refl _) (argsL := [.null]) (rest := []) (lenOf pd_4 rfl) rfl (by show 2 * 0 + _ ≤ _; exact Nat.le_of_eq rfl) (hb hby at_128) (fun _ _ => ⟨rfl, kh10, (by decide : 3 + 0 ≤ _), (by decide : 5 + 0 ≤ _)⟩)
  dsimp only [Pt.U, Pt.locs, Pt.cells, Pt.slots] at X11 l11 y11 z11 st11 hQ11
  subst l11 y11 z11
  obtain ⟨rfl, Nq11, kh11⟩ := hQ11
  have N11 := Fr.app N10 Nq11
  obtain ⟨cq12, kq12, q12a, q12b, q12c⟩ := isOf hZ kh11 (((Po2_0.ext E3).keep kh4).keep kh5)
  obtain ⟨_, _, ⟨T12, L12, k12, n12⟩, -, X12, ⟨Lc12, hQ12, l12, y12, z12⟩, st12⟩ := X11.virtualBack hx (y := (⟨"com/example/maat/maat/Turn", "equals", "(Ljava/lang/Object;)Z"⟩ : MethodName)) (z := (⟨"com/example/maat/maat/Turn", "equals", "(Ljava/lang/Object;)Z"⟩ : MethodName)) hown (mvT hZ (hw _ (List.mem_of_getElem? (i := 26) rfl))) (mvT hZ (hw _ (List.mem_of_getElem? (i := 27) rfl))) (notFace_of_selects (args := #[]) (mvT hZ (hw _ (List.mem_of_getElem? (i := 29) rfl)))) (mvT hZ (hw _ (List.mem_of_getElem? (i := 29) rfl))) (mvT hZ (hw _ (List.mem_of_getElem? (i := 28) rfl))) (by decide) (backOf (W := 0) (eqL l Z a0 hw [] b1 r_5 T5.heap n0 O5 Po5_0) hZ (hw _ (List.mem_of_getElem? (i := 30) rfl)) (hw _ (List.mem_of_getElem? (i := 2) rfl)) (by decide) (by decide)) q12a q12c (g := (mkF m 140 #[.val (.long s1), .second, .val (.int i), .val (.long t), .second, .val (.int j), .val (.int md), .val (.ref b1), .val (.int (md &&& (3 : Int32))), .val (.long t), .second, .val (.int j), .val (.ref b3), .val (.ref r_5), .val (.int (0 : Int32))] [(.ref r_5), (.ref b1)])) rfl (by rw [hml]; rfl) (Steps.refl _) (argsL := [(.ref r_5)]) (rest := []) (lenOf pd_4 rfl) rfl (by show 2 * 0 + _ ≤ _; exact Nat.le_of_eq rfl) (hb hby at_140) (fun _ _ => ⟨rfl, kh11, (by decide : 3 + 0 ≤ _), (by decide : 5 + 0 ≤ _)⟩)
  dsimp only [Pt.U, Pt.locs, Pt.cells, Pt.slots] at X12 l12 y12 z12 st12 hQ12
  subst l12 y12 z12
  obtain ⟨rfl, Nq12, kh12⟩ := hQ12
  have N12 := Fr.app N11 Nq12
  obtain ⟨fs, hr, hrun, hended, hW, hsame⟩ := X12.leave (v := some (.int (1 : Int32))) (fun h => by rw [Bd.returns] at h; cases h)
  refine ⟨_, _, pre0 _ ?_, hrun, hended, _, _, rfl, ?_, ⟨_, rfl⟩, hW, hsame.mono (by decide) (by decide)⟩
  · show Steps p.tables e below (s₁.setTop (mkF m 0 #[.val (.long s1), .second, .val (.int i), .val (.long t), .second, .val (.int j), .val (.int md), .unset, .unset, .unset, .unset, .unset, .unset, .unset, .unset] [])) _
    refine st1 _ ?_
    show Steps p.tables e below (T1.setTop (mkF m 3 #[.val (.long s1), .second, .val (.int i), .val (.long t), .second, .val (.int j), .val (.int md), .unset, .unset, .unset, .unset, .unset, .unset, .unset, .unset] [(.ref b1)])) _
    refine XS.dup X1.here hx rfl (hb hby at_3) rfl rfl ?_
    show Steps p.tables e below (T1.setTop (mkF m 4 #[.val (.long s1), .second, .val (.int i), .val (.long t), .second, .val (.int j), .val (.int md), .unset, .unset, .unset, .unset, .unset, .unset, .unset, .unset] [(.ref b1), (.ref b1)])) _
    refine XS.lloadN X1.here hx rfl (hb hby at_4) rfl ?_
    show Steps p.tables e below (T1.setTop (mkF m 5 #[.val (.long s1), .second, .val (.int i), .val (.long t), .second, .val (.int j), .val (.int md), .unset, .unset, .unset, .unset, .unset, .unset, .unset, .unset] [(.long s1), (.ref b1), (.ref b1)])) _
    refine XS.iloadN X1.here hx rfl (hb hby at_5) rfl ?_
    show Steps p.tables e below (T1.setTop (mkF m 6 #[.val (.long s1), .second, .val (.int i), .val (.long t), .second, .val (.int j), .val (.int md), .unset, .unset, .unset, .unset, .unset, .unset, .unset, .unset] [(.int i), (.long s1), (.ref b1), (.ref b1)])) _
    refine st2.trans ?_
    show Steps p.tables e below (T2.setTop (mkF m 9 #[.val (.long s1), .second, .val (.int i), .val (.long t), .second, .val (.int j), .val (.int md), .unset, .unset, .unset, .unset, .unset, .unset, .unset, .unset] [(.ref b1)])) _
    refine XS.astore X2.here hx rfl (hb hby at_9) rfl rfl (l' := #[.val (.long s1), .second, .val (.int i), .val (.long t), .second, .val (.int j), .val (.int md), .val (.ref b1), .unset, .unset, .unset, .unset, .unset, .unset, .unset]) rfl ?_
    show Steps p.tables e below (T2.setTop (mkF m 11 #[.val (.long s1), .second, .val (.int i), .val (.long t), .second, .val (.int j), .val (.int md), .val (.ref b1), .unset, .unset, .unset, .unset, .unset, .unset, .unset] [])) _
    refine XS.iload X2.here hx rfl (hb hby at_11) rfl ?_
    show Steps p.tables e below (T2.setTop (mkF m 13 #[.val (.long s1), .second, .val (.int i), .val (.long t), .second, .val (.int j), .val (.int md), .val (.ref b1), .unset, .unset, .unset, .unset, .unset, .unset, .unset] [(.int md)])) _
    refine XS.iconst X2.here hx rfl (hb hby at_13) ?_
    show Steps p.tables e below (T2.setTop (mkF m 14 #[.val (.long s1), .second, .val (.int i), .val (.long t), .second, .val (.int j), .val (.int md), .val (.ref b1), .unset, .unset, .unset, .unset, .unset, .unset, .unset] [(.int (3 : Int32)), (.int md)])) _
    refine XS.iand X2.here hx rfl (hb hby at_14) rfl ?_
    show Steps p.tables e below (T2.setTop (mkF m 15 #[.val (.long s1), .second, .val (.int i), .val (.long t), .second, .val (.int j), .val (.int md), .val (.ref b1), .unset, .unset, .unset, .unset, .unset, .unset, .unset] [(.int (md &&& (3 : Int32)))])) _
    refine XS.istore X2.here hx rfl (hb hby at_15) rfl (l' := #[.val (.long s1), .second, .val (.int i), .val (.long t), .second, .val (.int j), .val (.int md), .val (.ref b1), .val (.int (md &&& (3 : Int32))), .unset, .unset, .unset, .unset, .unset, .unset]) rfl ?_
    show Steps p.tables e below (T2.setTop (mkF m 17 #[.val (.long s1), .second, .val (.int i), .val (.long t), .second, .val (.int j), .val (.int md), .val (.ref b1), .val (.int (md &&& (3 : Int32))), .unset, .unset, .unset, .unset, .unset, .unset] [])) _
    refine XS.iload X2.here hx rfl (hb hby at_17) rfl ?_
    show Steps p.tables e below (T2.setTop (mkF m 19 #[.val (.long s1), .second, .val (.int i), .val (.long t), .second, .val (.int j), .val (.int md), .val (.ref b1), .val (.int (md &&& (3 : Int32))), .unset, .unset, .unset, .unset, .unset, .unset] [(.int (md &&& (3 : Int32)))])) _
    refine XS.iconst X2.here hx rfl (hb hby at_19) ?_
    show Steps p.tables e below (T2.setTop (mkF m 20 #[.val (.long s1), .second, .val (.int i), .val (.long t), .second, .val (.int j), .val (.int md), .val (.ref b1), .val (.int (md &&& (3 : Int32))), .unset, .unset, .unset, .unset, .unset, .unset] [(.int (1 : Int32)), (.int (md &&& (3 : Int32)))])) _
    refine XS.iand X2.here hx rfl (hb hby at_20) rfl ?_
    show Steps p.tables e below (T2.setTop (mkF m 21 #[.val (.long s1), .second, .val (.int i), .val (.long t), .second, .val (.int j), .val (.int md), .val (.ref b1), .val (.int (md &&& (3 : Int32))), .unset, .unset, .unset, .unset, .unset, .unset] [(.int ((md &&& (3 : Int32)) &&& (1 : Int32)))])) _
    refine XS.ifNo X2.here hx rfl (hb hby at_21) rfl ((if0 _ _).trans (feq (hc21 : ¬ (((md &&& (3 : Int32)) &&& (1 : Int32)) = (0 : Int32)))).1) ?_
    show Steps p.tables e below (T2.setTop (mkF m 24 #[.val (.long s1), .second, .val (.int i), .val (.long t), .second, .val (.int j), .val (.int md), .val (.ref b1), .val (.int (md &&& (3 : Int32))), .unset, .unset, .unset, .unset, .unset, .unset] [])) _
    refine XS.lloadN X2.here hx rfl (hb hby at_24) rfl ?_
    show Steps p.tables e below (T2.setTop (mkF m 25 #[.val (.long s1), .second, .val (.int i), .val (.long t), .second, .val (.int j), .val (.int md), .val (.ref b1), .val (.int (md &&& (3 : Int32))), .unset, .unset, .unset, .unset, .unset, .unset] [(.long t)])) _
    refine XS.goto X2.here hx rfl (pc0 := 25) (pc' := 29) rfl (hb hby at_25) (by decide) (by decide) ?_
    show Steps p.tables e below (T2.setTop (mkF m 29 #[.val (.long s1), .second, .val (.int i), .val (.long t), .second, .val (.int j), .val (.int md), .val (.ref b1), .val (.int (md &&& (3 : Int32))), .unset, .unset, .unset, .unset, .unset, .unset] [(.long t)])) _
    refine XS.lstore X2.here hx rfl (hb hby at_29) rfl (l' := #[.val (.long s1), .second, .val (.int i), .val (.long t), .second, .val (.int j), .val (.int md), .val (.ref b1), .val (.int (md &&& (3 : Int32))), .val (.long t), .second, .unset, .unset, .unset, .unset]) rfl ?_
    show Steps p.tables e below (T2.setTop (mkF m 31 #[.val (.long s1), .second, .val (.int i), .val (.long t), .second, .val (.int j), .val (.int md), .val (.ref b1), .val (.int (md &&& (3 : Int32))), .val (.long t), .second, .unset, .unset, .unset, .unset] [])) _
    refine XS.iload X2.here hx rfl (hb hby at_31) rfl ?_
    show Steps p.tables e below (T2.setTop (mkF m 33 #[.val (.long s1), .second, .val (.int i), .val (.long t), .second, .val (.int j), .val (.int md), .val (.ref b1), .val (.int (md &&& (3 : Int32))), .val (.long t), .second, .unset, .unset, .unset, .unset] [(.int (md &&& (3 : Int32)))])) _
    refine XS.iconst X2.here hx rfl (hb hby at_33) ?_
    show Steps p.tables e below (T2.setTop (mkF m 34 #[.val (.long s1), .second, .val (.int i), .val (.long t), .second, .val (.int j), .val (.int md), .val (.ref b1), .val (.int (md &&& (3 : Int32))), .val (.long t), .second, .unset, .unset, .unset, .unset] [(.int (2 : Int32)), (.int (md &&& (3 : Int32)))])) _
    refine XS.iand X2.here hx rfl (hb hby at_34) rfl ?_
    show Steps p.tables e below (T2.setTop (mkF m 35 #[.val (.long s1), .second, .val (.int i), .val (.long t), .second, .val (.int j), .val (.int md), .val (.ref b1), .val (.int (md &&& (3 : Int32))), .val (.long t), .second, .unset, .unset, .unset, .unset] [(.int ((md &&& (3 : Int32)) &&& (2 : Int32)))])) _
    refine XS.ifNo X2.here hx rfl (hb hby at_35) rfl ((if0 _ _).trans (feq (hc35 : ¬ (((md &&& (3 : Int32)) &&& (2 : Int32)) = (0 : Int32)))).1) ?_
    show Steps p.tables e below (T2.setTop (mkF m 38 #[.val (.long s1), .second, .val (.int i), .val (.long t), .second, .val (.int j), .val (.int md), .val (.ref b1), .val (.int (md &&& (3 : Int32))), .val (.long t), .second, .unset, .unset, .unset, .unset] [])) _
    refine XS.iload X2.here hx rfl (hb hby at_38) rfl ?_
    show Steps p.tables e below (T2.setTop (mkF m 40 #[.val (.long s1), .second, .val (.int i), .val (.long t), .second, .val (.int j), .val (.int md), .val (.ref b1), .val (.int (md &&& (3 : Int32))), .val (.long t), .second, .unset, .unset, .unset, .unset] [(.int j)])) _
    refine XS.goto X2.here hx rfl (pc0 := 40) (pc' := 44) rfl (hb hby at_40) (by decide) (by decide) ?_
    show Steps p.tables e below (T2.setTop (mkF m 44 #[.val (.long s1), .second, .val (.int i), .val (.long t), .second, .val (.int j), .val (.int md), .val (.ref b1), .val (.int (md &&& (3 : Int32))), .val (.long t), .second, .unset, .unset, .unset, .unset] [(.int j)])) _
    refine XS.istore X2.here hx rfl (hb hby at_44) rfl (l' := #[.val (.long s1), .second, .val (.int i), .val (.long t), .second, .val (.int j), .val (.int md), .val (.ref b1), .val (.int (md &&& (3 : Int32))), .val (.long t), .second, .val (.int j), .unset, .unset, .unset]) rfl ?_
    show Steps p.tables e below (T2.setTop (mkF m 46 #[.val (.long s1), .second, .val (.int i), .val (.long t), .second, .val (.int j), .val (.int md), .val (.ref b1), .val (.int (md &&& (3 : Int32))), .val (.long t), .second, .val (.int j), .unset, .unset, .unset] [])) _
    refine st3 _ ?_
    show Steps p.tables e below (T3.setTop (mkF m 49 #[.val (.long s1), .second, .val (.int i), .val (.long t), .second, .val (.int j), .val (.int md), .val (.ref b1), .val (.int (md &&& (3 : Int32))), .val (.long t), .second, .val (.int j), .unset, .unset, .unset] [(.ref b3)])) _
    refine XS.dup X3.here hx rfl (hb hby at_49) rfl rfl ?_
    show Steps p.tables e below (T3.setTop (mkF m 50 #[.val (.long s1), .second, .val (.int i), .val (.long t), .second, .val (.int j), .val (.int md), .val (.ref b1), .val (.int (md &&& (3 : Int32))), .val (.long t), .second, .val (.int j), .unset, .unset, .unset] [(.ref b3), (.ref b3)])) _
    refine XS.lload X3.here hx rfl (hb hby at_50) rfl ?_
    show Steps p.tables e below (T3.setTop (mkF m 52 #[.val (.long s1), .second, .val (.int i), .val (.long t), .second, .val (.int j), .val (.int md), .val (.ref b1), .val (.int (md &&& (3 : Int32))), .val (.long t), .second, .val (.int j), .unset, .unset, .unset] [(.long t), (.ref b3), (.ref b3)])) _
    refine XS.iload X3.here hx rfl (hb hby at_52) rfl ?_
    show Steps p.tables e below (T3.setTop (mkF m 54 #[.val (.long s1), .second, .val (.int i), .val (.long t), .second, .val (.int j), .val (.int md), .val (.ref b1), .val (.int (md &&& (3 : Int32))), .val (.long t), .second, .val (.int j), .unset, .unset, .unset] [(.int j), (.long t), (.ref b3), (.ref b3)])) _
    refine st4.trans ?_
    show Steps p.tables e below (T4.setTop (mkF m 57 #[.val (.long s1), .second, .val (.int i), .val (.long t), .second, .val (.int j), .val (.int md), .val (.ref b1), .val (.int (md &&& (3 : Int32))), .val (.long t), .second, .val (.int j), .unset, .unset, .unset] [(.ref b3)])) _
    refine XS.astore X4.here hx rfl (hb hby at_57) rfl rfl (l' := #[.val (.long s1), .second, .val (.int i), .val (.long t), .second, .val (.int j), .val (.int md), .val (.ref b1), .val (.int (md &&& (3 : Int32))), .val (.long t), .second, .val (.int j), .val (.ref b3), .unset, .unset]) rfl ?_
    show Steps p.tables e below (T4.setTop (mkF m 59 #[.val (.long s1), .second, .val (.int i), .val (.long t), .second, .val (.int j), .val (.int md), .val (.ref b1), .val (.int (md &&& (3 : Int32))), .val (.long t), .second, .val (.int j), .val (.ref b3), .unset, .unset] [])) _
    refine XS.lloadN X4.here hx rfl (hb hby at_59) rfl ?_
    show Steps p.tables e below (T4.setTop (mkF m 60 #[.val (.long s1), .second, .val (.int i), .val (.long t), .second, .val (.int j), .val (.int md), .val (.ref b1), .val (.int (md &&& (3 : Int32))), .val (.long t), .second, .val (.int j), .val (.ref b3), .unset, .unset] [(.long s1)])) _
    refine st5 _ ?_
    show Steps p.tables e below (T5.setTop (mkF m 63 #[.val (.long s1), .second, .val (.int i), .val (.long t), .second, .val (.int j), .val (.int md), .val (.ref b1), .val (.int (md &&& (3 : Int32))), .val (.long t), .second, .val (.int j), .val (.ref b3), .unset, .unset] [(.ref r_5)])) _
    refine XS.astore X5.here hx rfl (hb hby at_63) rfl rfl (l' := #[.val (.long s1), .second, .val (.int i), .val (.long t), .second, .val (.int j), .val (.int md), .val (.ref b1), .val (.int (md &&& (3 : Int32))), .val (.long t), .second, .val (.int j), .val (.ref b3), .val (.ref r_5), .unset]) rfl ?_
    show Steps p.tables e below (T5.setTop (mkF m 65 #[.val (.long s1), .second, .val (.int i), .val (.long t), .second, .val (.int j), .val (.int md), .val (.ref b1), .val (.int (md &&& (3 : Int32))), .val (.long t), .second, .val (.int j), .val (.ref b3), .val (.ref r_5), .unset] [])) _
    refine XS.lload X5.here hx rfl (hb hby at_65) rfl ?_
    show Steps p.tables e below (T5.setTop (mkF m 67 #[.val (.long s1), .second, .val (.int i), .val (.long t), .second, .val (.int j), .val (.int md), .val (.ref b1), .val (.int (md &&& (3 : Int32))), .val (.long t), .second, .val (.int j), .val (.ref b3), .val (.ref r_5), .unset] [(.long t)])) _
    refine XS.lloadN X5.here hx rfl (hb hby at_67) rfl ?_
    show Steps p.tables e below (T5.setTop (mkF m 68 #[.val (.long s1), .second, .val (.int i), .val (.long t), .second, .val (.int j), .val (.int md), .val (.ref b1), .val (.int (md &&& (3 : Int32))), .val (.long t), .second, .val (.int j), .val (.ref b3), .val (.ref r_5), .unset] [(.long s1), (.long t)])) _
    refine XS.lcmp X5.here hx rfl (hb hby at_68) rfl ?_
    show Steps p.tables e below (T5.setTop (mkF m 69 #[.val (.long s1), .second, .val (.int i), .val (.long t), .second, .val (.int j), .val (.int md), .val (.ref b1), .val (.int (md &&& (3 : Int32))), .val (.long t), .second, .val (.int j), .val (.ref b3), .val (.ref r_5), .unset] [(.int (lcmpW t s1))])) _
    refine XS.ifYes X5.here hx rfl (pc0 := 69) (pc' := 82) rfl (hb hby at_69) rfl ((if0 _ _).trans (feq (hc69 : ¬ ((lcmpW t s1) = (0 : Int32)))).2) (by decide) (by decide) ?_
    show Steps p.tables e below (T5.setTop (mkF m 82 #[.val (.long s1), .second, .val (.int i), .val (.long t), .second, .val (.int j), .val (.int md), .val (.ref b1), .val (.int (md &&& (3 : Int32))), .val (.long t), .second, .val (.int j), .val (.ref b3), .val (.ref r_5), .unset] [])) _
    refine XS.iconst X5.here hx rfl (hb hby at_82) ?_
    show Steps p.tables e below (T5.setTop (mkF m 83 #[.val (.long s1), .second, .val (.int i), .val (.long t), .second, .val (.int j), .val (.int md), .val (.ref b1), .val (.int (md &&& (3 : Int32))), .val (.long t), .second, .val (.int j), .val (.ref b3), .val (.ref r_5), .unset] [(.int (0 : Int32))])) _
    refine XS.istore X5.here hx rfl (hb hby at_83) rfl (l' := #[.val (.long s1), .second, .val (.int i), .val (.long t), .second, .val (.int j), .val (.int md), .val (.ref b1), .val (.int (md &&& (3 : Int32))), .val (.long t), .second, .val (.int j), .val (.ref b3), .val (.ref r_5), .val (.int (0 : Int32))]) rfl ?_
    show Steps p.tables e below (T5.setTop (mkF m 85 #[.val (.long s1), .second, .val (.int i), .val (.long t), .second, .val (.int j), .val (.int md), .val (.ref b1), .val (.int (md &&& (3 : Int32))), .val (.long t), .second, .val (.int j), .val (.ref b3), .val (.ref r_5), .val (.int (0 : Int32))] [])) _
    refine XS.aload X5.here hx rfl (hb hby at_85) rfl rfl ?_
    show Steps p.tables e below (T5.setTop (mkF m 87 #[.val (.long s1), .second, .val (.int i), .val (.long t), .second, .val (.int j), .val (.int md), .val (.ref b1), .val (.int (md &&& (3 : Int32))), .val (.long t), .second, .val (.int j), .val (.ref b3), .val (.ref r_5), .val (.int (0 : Int32))] [(.ref b1)])) _
    refine XS.aload X5.here hx rfl (hb hby at_87) rfl rfl ?_
    show Steps p.tables e below (T5.setTop (mkF m 89 #[.val (.long s1), .second, .val (.int i), .val (.long t), .second, .val (.int j), .val (.int md), .val (.ref b1), .val (.int (md &&& (3 : Int32))), .val (.long t), .second, .val (.int j), .val (.ref b3), .val (.ref r_5), .val (.int (0 : Int32))] [(.ref b3), (.ref b1)])) _
    refine st8.trans ?_
    show Steps p.tables e below (T8.setTop (mkF m 92 #[.val (.long s1), .second, .val (.int i), .val (.long t), .second, .val (.int j), .val (.int md), .val (.ref b1), .val (.int (md &&& (3 : Int32))), .val (.long t), .second, .val (.int j), .val (.ref b3), .val (.ref r_5), .val (.int (0 : Int32))] [(.int (eqV s1 i t j))])) _
    refine XS.iload X8.here hx rfl (hb hby at_92) rfl ?_
    show Steps p.tables e below (T8.setTop (mkF m 94 #[.val (.long s1), .second, .val (.int i), .val (.long t), .second, .val (.int j), .val (.int md), .val (.ref b1), .val (.int (md &&& (3 : Int32))), .val (.long t), .second, .val (.int j), .val (.ref b3), .val (.ref r_5), .val (.int (0 : Int32))] [(.int (0 : Int32)), (.int (eqV s1 i t j))])) _
    refine XS.icmpYes X8.here hx rfl (pc0 := 94) (pc' := 99) rfl (hb hby at_94) rfl (teq ((eqV_n1 fun h => lw_f hc69 h.symm) : (eqV s1 i t j) = (0 : Int32))).1 (by decide) (by decide) ?_
    show Steps p.tables e below (T8.setTop (mkF m 99 #[.val (.long s1), .second, .val (.int i), .val (.long t), .second, .val (.int j), .val (.int md), .val (.ref b1), .val (.int (md &&& (3 : Int32))), .val (.long t), .second, .val (.int j), .val (.ref b3), .val (.ref r_5), .val (.int (0 : Int32))] [])) _
    refine XS.aload X8.here hx rfl (hb hby at_99) rfl rfl ?_
    show Steps p.tables e below (T8.setTop (mkF m 101 #[.val (.long s1), .second, .val (.int i), .val (.long t), .second, .val (.int j), .val (.int md), .val (.ref b1), .val (.int (md &&& (3 : Int32))), .val (.long t), .second, .val (.int j), .val (.ref b3), .val (.ref r_5), .val (.int (0 : Int32))] [(.ref b3)])) _
    refine XS.aload X8.here hx rfl (hb hby at_101) rfl rfl ?_
    show Steps p.tables e below (T8.setTop (mkF m 103 #[.val (.long s1), .second, .val (.int i), .val (.long t), .second, .val (.int j), .val (.int md), .val (.ref b1), .val (.int (md &&& (3 : Int32))), .val (.long t), .second, .val (.int j), .val (.ref b3), .val (.ref r_5), .val (.int (0 : Int32))] [(.ref b1), (.ref b3)])) _
    refine st9.trans ?_
    show Steps p.tables e below (T9.setTop (mkF m 106 #[.val (.long s1), .second, .val (.int i), .val (.long t), .second, .val (.int j), .val (.int md), .val (.ref b1), .val (.int (md &&& (3 : Int32))), .val (.long t), .second, .val (.int j), .val (.ref b3), .val (.ref r_5), .val (.int (0 : Int32))] [(.int (eqV t j s1 i))])) _
    refine XS.iload X9.here hx rfl (hb hby at_106) rfl ?_
    show Steps p.tables e below (T9.setTop (mkF m 108 #[.val (.long s1), .second, .val (.int i), .val (.long t), .second, .val (.int j), .val (.int md), .val (.ref b1), .val (.int (md &&& (3 : Int32))), .val (.long t), .second, .val (.int j), .val (.ref b3), .val (.ref r_5), .val (.int (0 : Int32))] [(.int (0 : Int32)), (.int (eqV t j s1 i))])) _
    refine XS.icmpYes X9.here hx rfl (pc0 := 108) (pc' := 113) rfl (hb hby at_108) rfl (teq ((eqV_n1 (lw_f hc69)) : (eqV t j s1 i) = (0 : Int32))).1 (by decide) (by decide) ?_
    show Steps p.tables e below (T9.setTop (mkF m 113 #[.val (.long s1), .second, .val (.int i), .val (.long t), .second, .val (.int j), .val (.int md), .val (.ref b1), .val (.int (md &&& (3 : Int32))), .val (.long t), .second, .val (.int j), .val (.ref b3), .val (.ref r_5), .val (.int (0 : Int32))] [])) _
    refine XS.aload X9.here hx rfl (hb hby at_113) rfl rfl ?_
    show Steps p.tables e below (T9.setTop (mkF m 115 #[.val (.long s1), .second, .val (.int i), .val (.long t), .second, .val (.int j), .val (.int md), .val (.ref b1), .val (.int (md &&& (3 : Int32))), .val (.long t), .second, .val (.int j), .val (.ref b3), .val (.ref r_5), .val (.int (0 : Int32))] [(.ref b1)])) _
    refine XS.aload X9.here hx rfl (hb hby at_115) rfl rfl ?_
    show Steps p.tables e below (T9.setTop (mkF m 117 #[.val (.long s1), .second, .val (.int i), .val (.long t), .second, .val (.int j), .val (.int md), .val (.ref b1), .val (.int (md &&& (3 : Int32))), .val (.long t), .second, .val (.int j), .val (.ref b3), .val (.ref r_5), .val (.int (0 : Int32))] [(.ref b1), (.ref b1)])) _
    refine st10.trans ?_
    show Steps p.tables e below (T10.setTop (mkF m 120 #[.val (.long s1), .second, .val (.int i), .val (.long t), .second, .val (.int j), .val (.int md), .val (.ref b1), .val (.int (md &&& (3 : Int32))), .val (.long t), .second, .val (.int j), .val (.ref b3), .val (.ref r_5), .val (.int (0 : Int32))] [(.int (eqV s1 i s1 i))])) _
    refine XS.ifYes X10.here hx rfl (pc0 := 120) (pc' := 125) rfl (hb hby at_120) rfl ((if0 _ _).trans (feq ((by rw [eqV_y rfl rfl]; decide) : ¬ ((eqV s1 i s1 i) = (0 : Int32)))).2) (by decide) (by decide) ?_
    show Steps p.tables e below (T10.setTop (mkF m 125 #[.val (.long s1), .second, .val (.int i), .val (.long t), .second, .val (.int j), .val (.int md), .val (.ref b1), .val (.int (md &&& (3 : Int32))), .val (.long t), .second, .val (.int j), .val (.ref b3), .val (.ref r_5), .val (.int (0 : Int32))] [])) _
    refine XS.aload X10.here hx rfl (hb hby at_125) rfl rfl ?_
    show Steps p.tables e below (T10.setTop (mkF m 127 #[.val (.long s1), .second, .val (.int i), .val (.long t), .second, .val (.int j), .val (.int md), .val (.ref b1), .val (.int (md &&& (3 : Int32))), .val (.long t), .second, .val (.int j), .val (.ref b3), .val (.ref r_5), .val (.int (0 : Int32))] [(.ref b1)])) _
    refine XS.aconstNull X10.here hx rfl (hb hby at_127) ?_
    show Steps p.tables e below (T10.setTop (mkF m 128 #[.val (.long s1), .second, .val (.int i), .val (.long t), .second, .val (.int j), .val (.int md), .val (.ref b1), .val (.int (md &&& (3 : Int32))), .val (.long t), .second, .val (.int j), .val (.ref b3), .val (.ref r_5), .val (.int (0 : Int32))] [.null, (.ref b1)])) _
    refine st11.trans ?_
    show Steps p.tables e below (T11.setTop (mkF m 131 #[.val (.long s1), .second, .val (.int i), .val (.long t), .second, .val (.int j), .val (.int md), .val (.ref b1), .val (.int (md &&& (3 : Int32))), .val (.long t), .second, .val (.int j), .val (.ref b3), .val (.ref r_5), .val (.int (0 : Int32))] [(.int (0 : Int32))])) _
    refine XS.ifYes X11.here hx rfl (pc0 := 131) (pc' := 136) rfl (hb hby at_131) rfl ((if0 _ _).trans (teq (by decide : (0 : Int32) = (0 : Int32))).1) (by decide) (by decide) ?_
    show Steps p.tables e below (T11.setTop (mkF m 136 #[.val (.long s1), .second, .val (.int i), .val (.long t), .second, .val (.int j), .val (.int md), .val (.ref b1), .val (.int (md &&& (3 : Int32))), .val (.long t), .second, .val (.int j), .val (.ref b3), .val (.ref r_5), .val (.int (0 : Int32))] [])) _
    refine XS.aload X11.here hx rfl (hb hby at_136) rfl rfl ?_
    show Steps p.tables e below (T11.setTop (mkF m 138 #[.val (.long s1), .second, .val (.int i), .val (.long t), .second, .val (.int j), .val (.int md), .val (.ref b1), .val (.int (md &&& (3 : Int32))), .val (.long t), .second, .val (.int j), .val (.ref b3), .val (.ref r_5), .val (.int (0 : Int32))] [(.ref b1)])) _
    refine XS.aload X11.here hx rfl (hb hby at_138) rfl rfl ?_
    show Steps p.tables e below (T11.setTop (mkF m 140 #[.val (.long s1), .second, .val (.int i), .val (.long t), .second, .val (.int j), .val (.int md), .val (.ref b1), .val (.int (md &&& (3 : Int32))), .val (.long t), .second, .val (.int j), .val (.ref b3), .val (.ref r_5), .val (.int (0 : Int32))] [(.ref r_5), (.ref b1)])) _
    refine st12.trans ?_
    show Steps p.tables e below (T12.setTop (mkF m 143 #[.val (.long s1), .second, .val (.int i), .val (.long t), .second, .val (.int j), .val (.int md), .val (.ref b1), .val (.int (md &&& (3 : Int32))), .val (.long t), .second, .val (.int j), .val (.ref b3), .val (.ref r_5), .val (.int (0 : Int32))] [(.int (0 : Int32))])) _
    refine XS.ifYes X12.here hx rfl (pc0 := 143) (pc' := 148) rfl (hb hby at_143) rfl ((if0 _ _).trans (teq (by decide : (0 : Int32) = (0 : Int32))).1) (by decide) (by decide) ?_
    show Steps p.tables e below (T12.setTop (mkF m 148 #[.val (.long s1), .second, .val (.int i), .val (.long t), .second, .val (.int j), .val (.int md), .val (.ref b1), .val (.int (md &&& (3 : Int32))), .val (.long t), .second, .val (.int j), .val (.ref b3), .val (.ref r_5), .val (.int (0 : Int32))] [])) _
    refine XS.iconst X12.here hx rfl (hb hby at_148) ?_
    show Steps p.tables e below (T12.setTop (mkF m 149 #[.val (.long s1), .second, .val (.int i), .val (.long t), .second, .val (.int j), .val (.int md), .val (.ref b1), .val (.int (md &&& (3 : Int32))), .val (.long t), .second, .val (.int j), .val (.ref b3), .val (.ref r_5), .val (.int (0 : Int32))] [(.int (1 : Int32))])) _
    exact retN X12 hx (t := .boolean) Bd.returns (by simp) (hb hby at_149) hr
  · show Q_law Z s1 i t j md wc h0 n0 _ T12.heap _
    rw [kh12]
    exact ⟨rfl, N12⟩
set_option maxRecDepth 65536 in
set_option maxHeartbeats 40000000 in
theorem law (l : Launch) (Z : State) (a0 : Array Value) (hw : ∀ d ∈ tables_1, d.before a0 Z = true) (ws : List Jvm.Cond) (s1 : Int64) (i : Int32) (t : Int64) (j : Int32) (md : Int32) (wc : Addr) (h0 : Heap) (n0 : Nat) (O0 : Old Z n0 h0) (G0 : Sta Z Z.heap "java/lang/Long$LongCache" "cache" "[Ljava/lang/Long;" (.ref wc)) (CA : Cache Z wc "java/lang/Long") :
    MetFree l x (head1 (Jvm.Cond.code x code maxLocals ret :: ws) room_1) (fun zA zU => zA = #[(.long s1), (.int i), (.long t), (.int j), (.int md)] ∧ Z.Warmed39 zU.vm ∧ zU.heap = h0) (fun _ _ _ _ _ => True) (fun _ zU zo zU' => ∃ zv zL, zo = .returned zv ∧ Q_law Z s1 i t j md wc h0 n0 zv zU'.heap zL ∧ FrameEnd zU zo zU' zL room_1.cells room_1.slots) := by
  by_cases h1 : ((md &&& (3 : Int32)) &&& (1 : Int32)) = (0 : Int32)
  · by_cases h2 : ((md &&& (3 : Int32)) &&& (2 : Int32)) = (0 : Int32)
    · exact law_1 l Z a0 hw ws s1 i t j md wc h0 n0 O0 G0 CA h1 h2
    · by_cases h4 : j = i
      · exact law_2 l Z a0 hw ws s1 i t j md wc h0 n0 O0 G0 CA h1 h2 h4
      · exact law_3 l Z a0 hw ws s1 i t j md wc h0 n0 O0 G0 CA h1 h2 h4
  · by_cases h2 : ((md &&& (3 : Int32)) &&& (2 : Int32)) = (0 : Int32)
    · by_cases h3 : (lcmpW t s1) = (0 : Int32)
      · exact law_4 l Z a0 hw ws s1 i t j md wc h0 n0 O0 G0 CA h1 h2 h3
      · exact law_5 l Z a0 hw ws s1 i t j md wc h0 n0 O0 G0 CA h1 h2 h3
    · by_cases h3 : (lcmpW t s1) = (0 : Int32)
      · by_cases h4 : j = i
        · exact law_6 l Z a0 hw ws s1 i t j md wc h0 n0 O0 G0 CA h1 h2 h3 h4
        · exact law_7 l Z a0 hw ws s1 i t j md wc h0 n0 O0 G0 CA h1 h2 h3 h4
      · exact law_8 l Z a0 hw ws s1 i t j md wc h0 n0 O0 G0 CA h1 h2 h3
set_option maxRecDepth 65536 in
set_option maxHeartbeats 40000000 in
theorem comes_1 {Post : Tables → Env → Array Value → State → Outcome → State → Prop} (hpost : ∀ tb e args s v u, (limb_1_1.after args s (.returned v) u = true ∧ limb_1_2.after args s (.returned v) u = true ∧ True) → FrameEnd s (.returned v) u (Jvm.fieldLocs frame_1_writes args s ++ Jvm.arrayLocs frame_1_arrays args s ++ Jvm.staticLocs frame_1_statics s) 16 128 → Post tb e args s (.returned v) u) :
    ArmFor flags0 classFile x code maxLocals ret World_1 tables_1 room_1 Calls_1 rest_1 Pre_1 Post := by
  intro l hfl _ _ p e ha hc hk s m args below hf hA hF happ hP
  obtain ⟨hcalls, hrest, hpre⟩ := hP
  obtain ⟨-, -, -, hnamed, -, -, -, hat⟩ := (Spec.applies_iff hf).mp happ
  obtain ⟨hg, hn⟩ := and_e (Cond.before_iff.mp (show (Jvm.Cond.and given_1 narrow_1).before args s = true from hpre))
  obtain ⟨gA0, gB0⟩ := and_e hg
  obtain ⟨gA1, gB1⟩ := and_e gB0
  obtain ⟨gA2, gB2⟩ := and_e gB1
  obtain ⟨gA3, gB3⟩ := and_e gB2
  obtain ⟨gA4, gB4⟩ := and_e gB3
  obtain ⟨w0, w1, w2, w3, w4, rfl⟩ : ∃ w0 w1 w2 w3 w4 : Value, args = #[w0, w1, w2, w3, w4] := by
    have hs : args.size = 5 := by simpa [Cond.value, given_1] using gA0
    obtain ⟨L⟩ := args
    match L, hs with
    | [w0, w1, w2, w3, w4], _ => exact ⟨w0, w1, w2, w3, w4, rfl⟩
  have hw := fun d (hd : d ∈ tables_1) => atoms_spec (ws := Jvm.Cond.code x code maxLocals ret :: tables_1) hat d (List.mem_cons_of_mem _ hd)
  have hfit : Fit s := fun {y c} hc i hi => by
    obtain ⟨ha, rfl⟩ := Array.getElem?_eq_some_iff.mp hc
    have q := List.all_eq_true.mp ((Array.all_eq_true_iff_forall_mem.mp hF) _ (Array.getElem_mem ha)) i (List.mem_range.mpr hi)
    simpa [Array.getElem?_eq_getElem hi] using q
  obtain ⟨hsets, hown0⟩ := atoms_of _ (rest_1_c_eq ▸ (show rest_1_c.before _ s = true from hrest))
  have hr0 := Cond.before_iff.mp hown0
  obtain ⟨i0, ei0⟩ := isL_v gA1
  obtain rfl : w0 = (.long i0) := Option.some.inj ei0
  obtain ⟨i1, ei1⟩ := is_v gA2
  obtain rfl : w1 = (.int i1) := Option.some.inj ei1
  obtain ⟨i2, ei2⟩ := isL_v gA3
  obtain rfl : w2 = (.long i2) := Option.some.inj ei2
  obtain ⟨i3, ei3⟩ := is_v gA4
  obtain rfl : w3 = (.int i3) := Option.some.inj ei3
  obtain ⟨i4, ei4⟩ := is_v gB4
  obtain rfl : w4 = (.int i4) := Option.some.inj ei4
  obtain ⟨wc, vc, CA⟩ := own_cache (hsets _ (List.mem_of_getElem? (i := 2) rfl)) (hsets _ (List.mem_of_getElem? (i := 4) rfl)) (hsets _ (List.mem_of_getElem? (i := 5) rfl))
  have S2 := Sta.start vc (Or.inl (hsets _ (List.mem_of_getElem? (i := 1) rfl)))
  obtain ⟨n, o, h1, h2, h3, _, L, rfl, ⟨rfl, N⟩, hq⟩ := law l s _ hw tables_1 i0 i1 i2 i3 i4 wc s.heap s.heap.size (Old.start s) S2 CA p e ha hc hk s m _ below hf ((Spec.applies_iff_loose hf).mp happ).1 ⟨rfl, State.Warmed39.refl s, rfl⟩ trivial
  refine ⟨n, _, h1, h2, h3, hpost _ _ _ _ _ _ ⟨Cond.after_iff.mpr rfl, Cond.after_iff.mpr (eq_i res_at (Term.int_eval (1)) rfl), trivial⟩ ⟨hq.1, hq.2.1, (hq.2.2.sift fun y hy => Or.inr (N y hy)).mono (by decide) (by decide)⟩⟩
theorem main_1_1 : Claimed_1_1 := comes_1 fun _ _ _ _ _ _ h hF => ⟨h.1, hF⟩
theorem main_1_2 : Claimed_1_2 := comes_1 fun _ _ _ _ _ _ h hF => ⟨h.2.1, hF⟩
end Jvm.Pilot.@@N@@
namespace Jvm.Pilot.@@N@@
open Jvm Jvm.ClassFile Sem Op Lib Jvm.Free Jvm.Stand Jvm.Pilot.@@N@@.Jvm.D
/-! MADE BY PROGRAM (witnessworld.py) out of the Statement's table words and the real class files: 17 classes; the members and pool entries that the words name. The judged class is class 1, her method 1. -/
namespace start1
open Jvm.ClassFile
def u (s : String) : CpInfo := .utf8 (stringToUtf16 s)
/-- a pool by its gaps: so many unusable entries, then the entry; so many at the end -/
def gap : Nat → List CpInfo → List CpInfo
  | 0, r => r
  | n + 1, r => .unusable :: gap n r
def poolList (es : List (Nat × CpInfo)) (last : Nat) : List CpInfo := es.foldr (fun e r => gap e.1 (e.2 :: r)) (gap last [])
def pool (es : List (Nat × CpInfo)) (last : Nat) : Array CpInfo := ⟨poolList es last⟩
def fileOf (pool : Array CpInfo) (this : Nat) (attrs : Array Attribute := #[]) (ms : Array MethodInfo := #[]) (fl : Nat := 33) (sup : Nat := 0) (ifs : Array Nat := #[]) (fds : Array FieldInfo := #[]) : ClassFile where
  minorVersion := 0
  majorVersion := 65
  constantPool := pool
  accessFlags := fl
  thisClass := this
  superClass := sup
  interfaces := ifs
  fields := fds
  methods := ms
  attributes := attrs
def plain (name : String) (sup : Option ClassId) : Class where
  name := name
  kind := .ordinary
  loader := none
  accessFlags := 33
  super := sup
  interfaces := #[]
  cf := none
  fields := #[]
  methods := #[]
  instanceTypes := #[]
  staticTypes := #[]
  resolved := #[]
  callSites := []
  init := .initialized
  statics := none
  mirror := none

def pool0 : Array CpInfo := pool [(5, u "<init>"), (0, u "()V"), (1, .class_ 10), (1, u "java/lang/Object")] 113

def k0c0 : Code := { maxStack := 0, maxLocals := 1, code := object_method_1_code, exceptionTable := #[], attributes := #[] }
def k0m0 : Method := { name := "<init>", desc := "()V", sig := { parameters := [], returnType := none }, accessFlags := 1, code := some k0c0 }
/-- java/lang/Object -/
def k0 : Class := { plain "java/lang/Object" none with
  accessFlags := 33
  interfaces := #[]
  cf := some (fileOf pool0 8 #[] #[{ accessFlags := 1, nameIndex := 5, descriptorIndex := 6, attributes := #[] }] 33 0 #[] #[])
  fields := #[]
  methods := #[k0m0]
  instanceTypes := #[]
  staticTypes := #[]
  resolved := Array.replicate 124 none
  statics := none }

def pool1 : Array CpInfo := pool [(2, .class_ 4), (1, u "java/lang/Object"), (0, u "<init>"), (0, u "()V"), (0, .class_ 8), (0, u "com/example/maat/maat/Turn"), (0, .methodref 7 10), (0, .nameAndType 5 11), (0, u "(JI)V"), (0, .methodref 13 14), (0, .class_ 15), (0, .nameAndType 16 17), (0, u "java/lang/Long"), (0, u "valueOf"), (0, u "(J)Ljava/lang/Long;"), (0, .methodref 7 19), (0, .nameAndType 20 21), (0, u "equals"), (0, u "(Ljava/lang/Object;)Z"), (0, .class_ 23), (0, u "com/example/maat/maat/TurnEqualsPinLaw"), (2, u "law"), (0, u "(JIJII)Z")] 3

def k1m0 : Method := { name := "<init>", desc := "()V", sig := { parameters := [], returnType := none }, accessFlags := 1, code := none }
def k1c1 : Code := { maxStack := 5, maxLocals := 15, code := code, exceptionTable := #[], attributes := #[] }
def k1m1 : Method := { name := "law", desc := "(JIJII)Z", sig := { parameters := [.long, .int, .long, .int, .int], returnType := some .boolean }, accessFlags := 9, code := some k1c1 }
/-- com/example/maat/maat/TurnEqualsPinLaw -/
def k1 : Class := { plain "com/example/maat/maat/TurnEqualsPinLaw" (some 0) with
  accessFlags := 49
  interfaces := #[]
  cf := some (fileOf pool1 22 #[] #[{ accessFlags := 1, nameIndex := 5, descriptorIndex := 6, attributes := #[] }, { accessFlags := 9, nameIndex := 26, descriptorIndex := 27, attributes := #[] }] 49 2 #[] #[])
  fields := #[]
  methods := #[k1m0, k1m1]
  instanceTypes := #[]
  staticTypes := #[]
  resolved := Array.replicate 31 none
  statics := none }

def pool2 : Array CpInfo := pool [(1, .methodref 2 3), (0, .class_ 4), (0, .nameAndType 5 6), (0, u "java/lang/Object"), (0, u "<init>"), (0, u "()V"), (0, .class_ 8), (0, u "java/lang/Record")] 13

def k2c0 : Code := { maxStack := 1, maxLocals := 1, code := jdk_30_method_1_code, exceptionTable := #[], attributes := #[] }
def k2m0 : Method := { name := "<init>", desc := "()V", sig := { parameters := [], returnType := none }, accessFlags := 4, code := some k2c0 }
/-- java/lang/Record -/
def k2 : Class := { plain "java/lang/Record" (some 0) with
  accessFlags := 1057
  interfaces := #[]
  cf := some (fileOf pool2 7 #[] #[{ accessFlags := 4, nameIndex := 5, descriptorIndex := 6, attributes := #[] }] 1057 2 #[] #[])
  fields := #[]
  methods := #[k2m0]
  instanceTypes := #[]
  staticTypes := #[]
  resolved := Array.replicate 22 none
  statics := none }

def pool3 : Array CpInfo := pool [(1, .class_ 2), (0, u "java/lang/Comparable"), (0, .class_ 4), (0, u "java/lang/Object")] 7

/-- java/lang/Comparable -/
def k3 : Class := { plain "java/lang/Comparable" (some 0) with
  accessFlags := 1537
  interfaces := #[]
  cf := some (fileOf pool3 1 #[] #[] 1537 3 #[] #[])
  fields := #[]
  methods := #[]
  instanceTypes := #[]
  staticTypes := #[]
  resolved := Array.replicate 12 none
  statics := none }

def pool4 : Array CpInfo := pool [(1, .methodref 2 3), (0, .class_ 4), (0, .nameAndType 5 6), (0, u "java/lang/Record"), (0, u "<init>"), (0, u "()V"), (0, .fieldref 8 9), (0, .class_ 10), (0, .nameAndType 11 12), (0, u "com/example/maat/maat/Turn"), (0, u "seq"), (0, u "J"), (0, .fieldref 8 14), (0, .nameAndType 15 16), (0, u "index"), (0, u "I"), (23, .class_ 41), (0, u "java/lang/Comparable"), (0, u "(JI)V"), (3, u "equals"), (0, u "(Ljava/lang/Object;)Z")] 30

def k4c0 : Code := { maxStack := 3, maxLocals := 4, code := prog_17_method_1_code, exceptionTable := #[], attributes := #[] }
def k4m0 : Method := { name := "<init>", desc := "(JI)V", sig := { parameters := [.long, .int], returnType := none }, accessFlags := 0, code := some k4c0 }
def k4c1 : Code := { maxStack := 4, maxLocals := 3, code := prog_17_method_2_code, exceptionTable := #[], attributes := #[] }
def k4m1 : Method := { name := "equals", desc := "(Ljava/lang/Object;)Z", sig := { parameters := [(.object "java/lang/Object")], returnType := some .boolean }, accessFlags := 1, code := some k4c1 }
/-- com/example/maat/maat/Turn -/
def k4 : Class := { plain "com/example/maat/maat/Turn" (some 2) with
  accessFlags := 48
  interfaces := #[3]
  cf := some (fileOf pool4 8 #[] #[{ accessFlags := 0, nameIndex := 5, descriptorIndex := 42, attributes := #[] }, { accessFlags := 1, nameIndex := 46, descriptorIndex := 47, attributes := #[] }] 48 2 #[40] #[{ accessFlags := 18, nameIndex := 11, descriptorIndex := 12, attributes := #[] }, { accessFlags := 18, nameIndex := 15, descriptorIndex := 16, attributes := #[] }])
  fields := #[{ name := "seq", type := .long, accessFlags := 18, slot := 0, constantValue := 0 }, { name := "index", type := .int, accessFlags := 18, slot := 1, constantValue := 0 }]
  methods := #[k4m0, k4m1]
  instanceTypes := #[.long, .int]
  staticTypes := #[]
  resolved := Array.replicate 78 none
  statics := none }

def pool5 : Array CpInfo := pool [(1, .class_ 2), (0, u "java/io/Serializable"), (0, .class_ 4), (0, u "java/lang/Object")] 2

/-- java/io/Serializable -/
def k5 : Class := { plain "java/io/Serializable" (some 0) with
  accessFlags := 1537
  interfaces := #[]
  cf := some (fileOf pool5 1 #[] #[] 1537 3 #[] #[])
  fields := #[]
  methods := #[]
  instanceTypes := #[]
  staticTypes := #[]
  resolved := Array.replicate 7 none
  statics := none }

def pool6 : Array CpInfo := pool [(1, .methodref 2 3), (0, .class_ 4), (0, .nameAndType 5 6), (0, u "java/lang/Object"), (0, u "<init>"), (0, u "()V"), (1, .class_ 10), (1, u "java/lang/Number"), (2, .class_ 14), (0, u "java/io/Serializable"), (0, u "serialVersionUID"), (0, u "J")] 20

def k6c0 : Code := { maxStack := 1, maxLocals := 1, code := jdk_18_method_1_code, exceptionTable := #[], attributes := #[] }
def k6m0 : Method := { name := "<init>", desc := "()V", sig := { parameters := [], returnType := none }, accessFlags := 1, code := some k6c0 }
/-- java/lang/Number -/
def k6 : Class := { plain "java/lang/Number" (some 0) with
  accessFlags := 1057
  interfaces := #[5]
  cf := some (fileOf pool6 8 #[] #[{ accessFlags := 1, nameIndex := 5, descriptorIndex := 6, attributes := #[] }] 1057 2 #[13] #[{ accessFlags := 26, nameIndex := 15, descriptorIndex := 16, attributes := #[] }])
  fields := #[{ name := "serialVersionUID", type := .long, accessFlags := 26, slot := 0, constantValue := 0 }]
  methods := #[k6m0]
  instanceTypes := #[]
  staticTypes := #[.long]
  resolved := Array.replicate 37 none
  statics := none }

def pool7 : Array CpInfo := pool [(1, .class_ 2), (0, u "java/lang/constant/Constable"), (0, .class_ 4), (0, u "java/lang/Object")] 6

/-- java/lang/constant/Constable -/
def k7 : Class := { plain "java/lang/constant/Constable" (some 0) with
  accessFlags := 1537
  interfaces := #[]
  cf := some (fileOf pool7 1 #[] #[] 1537 3 #[] #[])
  fields := #[]
  methods := #[]
  instanceTypes := #[]
  staticTypes := #[]
  resolved := Array.replicate 11 none
  statics := none }

def pool8 : Array CpInfo := pool [(1, .class_ 2), (0, u "java/lang/constant/ConstantDesc"), (0, .class_ 4), (0, u "java/lang/Object")] 32

/-- java/lang/constant/ConstantDesc -/
def k8 : Class := { plain "java/lang/constant/ConstantDesc" (some 0) with
  accessFlags := 1537
  interfaces := #[]
  cf := some (fileOf pool8 1 #[] #[] 1537 3 #[] #[])
  fields := #[]
  methods := #[]
  instanceTypes := #[]
  staticTypes := #[]
  resolved := Array.replicate 37 none
  statics := none }

def pool9 : Array CpInfo := pool [(1, .class_ 2), (0, u "java/lang/Long"), (55, .nameAndType 59 60), (0, u "<init>"), (0, u "()V"), (24, u "valueOf"), (143, u "(J)Ljava/lang/Long;"), (0, .long 18446744073709551488), (1, .long 127), (1, .fieldref 235 236), (0, .class_ 237), (0, .nameAndType 238 239), (0, u "java/lang/Long$LongCache"), (0, u "cache"), (0, u "[Ljava/lang/Long;"), (0, .methodref 1 241), (0, .nameAndType 59 242), (0, u "(J)V"), (27, .methodref 271 58), (0, .class_ 272), (0, u "java/lang/Number"), (0, .fieldref 1 274), (0, .nameAndType 275 276), (0, u "value"), (0, u "J"), (84, u "TYPE"), (0, u "Ljava/lang/Class;"), (0, .class_ 364), (0, u "java/lang/Comparable"), (0, .class_ 366), (0, u "java/lang/constant/Constable"), (0, .class_ 368), (0, u "java/lang/constant/ConstantDesc"), (0, u "MIN_VALUE"), (1, u "MAX_VALUE"), (4, u "SIZE"), (0, u "I"), (1, u "BYTES"), (1, u "serialVersionUID")] 142

def k9c0 : Code := { maxStack := 4, maxLocals := 3, code := jdk_35_method_24_code, exceptionTable := #[], attributes := #[] }
def k9m0 : Method := { name := "valueOf", desc := "(J)Ljava/lang/Long;", sig := { parameters := [.long], returnType := some (.object "java/lang/Long") }, accessFlags := 9, code := some k9c0 }
def k9c1 : Code := { maxStack := 3, maxLocals := 3, code := jdk_35_method_26_code, exceptionTable := #[], attributes := #[] }
def k9m1 : Method := { name := "<init>", desc := "(J)V", sig := { parameters := [.long], returnType := none }, accessFlags := 1, code := some k9c1 }
/-- java/lang/Long -/
def k9 : Class := { plain "java/lang/Long" (some 6) with
  accessFlags := 49
  interfaces := #[3, 7, 8]
  cf := some (fileOf pool9 1 #[.nestMembers #[235]] #[{ accessFlags := 9, nameIndex := 85, descriptorIndex := 229, attributes := #[] }, { accessFlags := 1, nameIndex := 59, descriptorIndex := 242, attributes := #[] }] 49 271 #[363, 365, 367] #[{ accessFlags := 25, nameIndex := 369, descriptorIndex := 276, attributes := #[] }, { accessFlags := 25, nameIndex := 371, descriptorIndex := 276, attributes := #[] }, { accessFlags := 25, nameIndex := 361, descriptorIndex := 362, attributes := #[] }, { accessFlags := 18, nameIndex := 275, descriptorIndex := 276, attributes := #[] }, { accessFlags := 25, nameIndex := 376, descriptorIndex := 377, attributes := #[] }, { accessFlags := 25, nameIndex := 379, descriptorIndex := 377, attributes := #[] }, { accessFlags := 26, nameIndex := 381, descriptorIndex := 276, attributes := #[] }])
  fields := #[{ name := "MIN_VALUE", type := .long, accessFlags := 25, slot := 0, constantValue := 0 }, { name := "MAX_VALUE", type := .long, accessFlags := 25, slot := 1, constantValue := 0 }, { name := "TYPE", type := (.object "java/lang/Class"), accessFlags := 25, slot := 2, constantValue := 0 }, { name := "value", type := .long, accessFlags := 18, slot := 0, constantValue := 0 }, { name := "SIZE", type := .int, accessFlags := 25, slot := 3, constantValue := 0 }, { name := "BYTES", type := .int, accessFlags := 25, slot := 4, constantValue := 0 }, { name := "serialVersionUID", type := .long, accessFlags := 26, slot := 5, constantValue := 0 }]
  methods := #[k9m0, k9m1]
  instanceTypes := #[.long]
  staticTypes := #[.long, .long, (.object "java/lang/Class"), .int, .int, .long]
  resolved := Array.replicate 524 none
  statics := none }

def pool10 : Array CpInfo := pool [(2, .class_ 4), (1, u "java/lang/Object"), (0, u "<init>"), (0, u "()V"), (0, .class_ 8), (0, u "java/lang/Long"), (7, .class_ 18), (1, u "java/lang/Long$LongCache"), (0, u "$assertionsDisabled"), (0, u "Z"), (8, u "archivedCache"), (0, u "[Ljava/lang/Long;"), (7, u "cache")] 24

def k10m0 : Method := { name := "<init>", desc := "()V", sig := { parameters := [], returnType := none }, accessFlags := 2, code := none }
/-- java/lang/Long$LongCache -/
def k10 : Class := { plain "java/lang/Long$LongCache" (some 0) with
  accessFlags := 48
  interfaces := #[]
  cf := some (fileOf pool10 16 #[.nestHost 7] #[{ accessFlags := 2, nameIndex := 5, descriptorIndex := 6, attributes := #[] }] 48 2 #[] #[{ accessFlags := 24, nameIndex := 38, descriptorIndex := 30, attributes := #[] }, { accessFlags := 8, nameIndex := 29, descriptorIndex := 30, attributes := #[] }, { accessFlags := 4120, nameIndex := 19, descriptorIndex := 20, attributes := #[] }])
  fields := #[{ name := "cache", type := (.array (.object "java/lang/Long")), accessFlags := 24, slot := 0, constantValue := 0 }, { name := "archivedCache", type := (.array (.object "java/lang/Long")), accessFlags := 8, slot := 1, constantValue := 0 }, { name := "$assertionsDisabled", type := .boolean, accessFlags := 4120, slot := 2, constantValue := 0 }]
  methods := #[k10m0]
  instanceTypes := #[]
  staticTypes := #[(.array (.object "java/lang/Long")), (.array (.object "java/lang/Long")), .boolean]
  resolved := Array.replicate 63 none
  statics := some 0 }

def pool11 : Array CpInfo := pool [(1, u "java/lang/Cloneable"), (0, .class_ 1), (0, u "java/lang/Object"), (0, .class_ 3)] 3

/-- java/lang/Cloneable -/
def k11 : Class := { plain "java/lang/Cloneable" (some 0) with
  accessFlags := 1537
  interfaces := #[]
  cf := some (fileOf pool11 2 #[] #[] 1537 4 #[] #[])
  fields := #[]
  methods := #[]
  instanceTypes := #[]
  staticTypes := #[]
  resolved := Array.replicate 8 none
  statics := none }

/-- the primitive byte -/
def k12 : Class := { plain "byte" none with kind := .primitive 'B', accessFlags := 0x411 }
/-- [B -/
def k13 : Class := { plain "[B" (some 0) with kind := .array 12 .byte, interfaces := #[11, 5], accessFlags := 1041 }

/-- the primitive int -/
def k14 : Class := { plain "int" none with kind := .primitive 'I', accessFlags := 0x411 }
/-- [I -/
def k15 : Class := { plain "[I" (some 0) with kind := .array 14 .int, interfaces := #[11, 5], accessFlags := 1041 }

/-- [Ljava/lang/Long; -/
def k16 : Class := { plain "[Ljava/lang/Long;" (some 0) with kind := .array 9 (.object "java/lang/Long"), interfaces := #[11, 5], accessFlags := 1041 }

def heap : Heap := #[{ cls := 10, slots := #[.ref 1, .null, .int 0], vm := .statics 10 },
  { cls := 16, slots := #[.ref 2, .ref 3, .ref 4, .ref 5, .ref 6, .ref 7, .ref 8, .ref 9, .ref 10, .ref 11, .ref 12, .ref 13, .ref 14, .ref 15, .ref 16, .ref 17, .ref 18, .ref 19, .ref 20, .ref 21, .ref 22, .ref 23, .ref 24, .ref 25, .ref 26, .ref 27, .ref 28, .ref 29, .ref 30, .ref 31, .ref 32, .ref 33, .ref 34, .ref 35, .ref 36, .ref 37, .ref 38, .ref 39, .ref 40, .ref 41, .ref 42, .ref 43, .ref 44, .ref 45, .ref 46, .ref 47, .ref 48, .ref 49, .ref 50, .ref 51, .ref 52, .ref 53, .ref 54, .ref 55, .ref 56, .ref 57, .ref 58, .ref 59, .ref 60, .ref 61, .ref 62, .ref 63, .ref 64, .ref 65, .ref 66, .ref 67, .ref 68, .ref 69, .ref 70, .ref 71, .ref 72, .ref 73, .ref 74, .ref 75, .ref 76, .ref 77, .ref 78, .ref 79, .ref 80, .ref 81, .ref 82, .ref 83, .ref 84, .ref 85, .ref 86, .ref 87, .ref 88, .ref 89, .ref 90, .ref 91, .ref 92, .ref 93, .ref 94, .ref 95, .ref 96, .ref 97, .ref 98, .ref 99, .ref 100, .ref 101, .ref 102, .ref 103, .ref 104, .ref 105, .ref 106, .ref 107, .ref 108, .ref 109, .ref 110, .ref 111, .ref 112, .ref 113, .ref 114, .ref 115, .ref 116, .ref 117, .ref 118, .ref 119, .ref 120, .ref 121, .ref 122, .ref 123, .ref 124, .ref 125, .ref 126, .ref 127, .ref 128, .ref 129, .ref 130, .ref 131, .ref 132, .ref 133, .ref 134, .ref 135, .ref 136, .ref 137, .ref 138, .ref 139, .ref 140, .ref 141, .ref 142, .ref 143, .ref 144, .ref 145, .ref 146, .ref 147, .ref 148, .ref 149, .ref 150, .ref 151, .ref 152, .ref 153, .ref 154, .ref 155, .ref 156, .ref 157, .ref 158, .ref 159, .ref 160, .ref 161, .ref 162, .ref 163, .ref 164, .ref 165, .ref 166, .ref 167, .ref 168, .ref 169, .ref 170, .ref 171, .ref 172, .ref 173, .ref 174, .ref 175, .ref 176, .ref 177, .ref 178, .ref 179, .ref 180, .ref 181, .ref 182, .ref 183, .ref 184, .ref 185, .ref 186, .ref 187, .ref 188, .ref 189, .ref 190, .ref 191, .ref 192, .ref 193, .ref 194, .ref 195, .ref 196, .ref 197, .ref 198, .ref 199, .ref 200, .ref 201, .ref 202, .ref 203, .ref 204, .ref 205, .ref 206, .ref 207, .ref 208, .ref 209, .ref 210, .ref 211, .ref 212, .ref 213, .ref 214, .ref 215, .ref 216, .ref 217, .ref 218, .ref 219, .ref 220, .ref 221, .ref 222, .ref 223, .ref 224, .ref 225, .ref 226, .ref 227, .ref 228, .ref 229, .ref 230, .ref 231, .ref 232, .ref 233, .ref 234, .ref 235, .ref 236, .ref 237, .ref 238, .ref 239, .ref 240, .ref 241, .ref 242, .ref 243, .ref 244, .ref 245, .ref 246, .ref 247, .ref 248, .ref 249, .ref 250, .ref 251, .ref 252, .ref 253, .ref 254, .ref 255, .ref 256, .ref 257], vm := .none },
  { cls := 9, slots := #[.long (-128)], vm := .none },
  { cls := 9, slots := #[.long (-127)], vm := .none },
  { cls := 9, slots := #[.long (-126)], vm := .none },
  { cls := 9, slots := #[.long (-125)], vm := .none },
  { cls := 9, slots := #[.long (-124)], vm := .none },
  { cls := 9, slots := #[.long (-123)], vm := .none },
  { cls := 9, slots := #[.long (-122)], vm := .none },
  { cls := 9, slots := #[.long (-121)], vm := .none },
  { cls := 9, slots := #[.long (-120)], vm := .none },
  { cls := 9, slots := #[.long (-119)], vm := .none },
  { cls := 9, slots := #[.long (-118)], vm := .none },
  { cls := 9, slots := #[.long (-117)], vm := .none },
  { cls := 9, slots := #[.long (-116)], vm := .none },
  { cls := 9, slots := #[.long (-115)], vm := .none },
  { cls := 9, slots := #[.long (-114)], vm := .none },
  { cls := 9, slots := #[.long (-113)], vm := .none },
  { cls := 9, slots := #[.long (-112)], vm := .none },
  { cls := 9, slots := #[.long (-111)], vm := .none },
  { cls := 9, slots := #[.long (-110)], vm := .none },
  { cls := 9, slots := #[.long (-109)], vm := .none },
  { cls := 9, slots := #[.long (-108)], vm := .none },
  { cls := 9, slots := #[.long (-107)], vm := .none },
  { cls := 9, slots := #[.long (-106)], vm := .none },
  { cls := 9, slots := #[.long (-105)], vm := .none },
  { cls := 9, slots := #[.long (-104)], vm := .none },
  { cls := 9, slots := #[.long (-103)], vm := .none },
  { cls := 9, slots := #[.long (-102)], vm := .none },
  { cls := 9, slots := #[.long (-101)], vm := .none },
  { cls := 9, slots := #[.long (-100)], vm := .none },
  { cls := 9, slots := #[.long (-99)], vm := .none },
  { cls := 9, slots := #[.long (-98)], vm := .none },
  { cls := 9, slots := #[.long (-97)], vm := .none },
  { cls := 9, slots := #[.long (-96)], vm := .none },
  { cls := 9, slots := #[.long (-95)], vm := .none },
  { cls := 9, slots := #[.long (-94)], vm := .none },
  { cls := 9, slots := #[.long (-93)], vm := .none },
  { cls := 9, slots := #[.long (-92)], vm := .none },
  { cls := 9, slots := #[.long (-91)], vm := .none },
  { cls := 9, slots := #[.long (-90)], vm := .none },
  { cls := 9, slots := #[.long (-89)], vm := .none },
  { cls := 9, slots := #[.long (-88)], vm := .none },
  { cls := 9, slots := #[.long (-87)], vm := .none },
  { cls := 9, slots := #[.long (-86)], vm := .none },
  { cls := 9, slots := #[.long (-85)], vm := .none },
  { cls := 9, slots := #[.long (-84)], vm := .none },
  { cls := 9, slots := #[.long (-83)], vm := .none },
  { cls := 9, slots := #[.long (-82)], vm := .none },
  { cls := 9, slots := #[.long (-81)], vm := .none },
  { cls := 9, slots := #[.long (-80)], vm := .none },
  { cls := 9, slots := #[.long (-79)], vm := .none },
  { cls := 9, slots := #[.long (-78)], vm := .none },
  { cls := 9, slots := #[.long (-77)], vm := .none },
  { cls := 9, slots := #[.long (-76)], vm := .none },
  { cls := 9, slots := #[.long (-75)], vm := .none },
  { cls := 9, slots := #[.long (-74)], vm := .none },
  { cls := 9, slots := #[.long (-73)], vm := .none },
  { cls := 9, slots := #[.long (-72)], vm := .none },
  { cls := 9, slots := #[.long (-71)], vm := .none },
  { cls := 9, slots := #[.long (-70)], vm := .none },
  { cls := 9, slots := #[.long (-69)], vm := .none },
  { cls := 9, slots := #[.long (-68)], vm := .none },
  { cls := 9, slots := #[.long (-67)], vm := .none },
  { cls := 9, slots := #[.long (-66)], vm := .none },
  { cls := 9, slots := #[.long (-65)], vm := .none },
  { cls := 9, slots := #[.long (-64)], vm := .none },
  { cls := 9, slots := #[.long (-63)], vm := .none },
  { cls := 9, slots := #[.long (-62)], vm := .none },
  { cls := 9, slots := #[.long (-61)], vm := .none },
  { cls := 9, slots := #[.long (-60)], vm := .none },
  { cls := 9, slots := #[.long (-59)], vm := .none },
  { cls := 9, slots := #[.long (-58)], vm := .none },
  { cls := 9, slots := #[.long (-57)], vm := .none },
  { cls := 9, slots := #[.long (-56)], vm := .none },
  { cls := 9, slots := #[.long (-55)], vm := .none },
  { cls := 9, slots := #[.long (-54)], vm := .none },
  { cls := 9, slots := #[.long (-53)], vm := .none },
  { cls := 9, slots := #[.long (-52)], vm := .none },
  { cls := 9, slots := #[.long (-51)], vm := .none },
  { cls := 9, slots := #[.long (-50)], vm := .none },
  { cls := 9, slots := #[.long (-49)], vm := .none },
  { cls := 9, slots := #[.long (-48)], vm := .none },
  { cls := 9, slots := #[.long (-47)], vm := .none },
  { cls := 9, slots := #[.long (-46)], vm := .none },
  { cls := 9, slots := #[.long (-45)], vm := .none },
  { cls := 9, slots := #[.long (-44)], vm := .none },
  { cls := 9, slots := #[.long (-43)], vm := .none },
  { cls := 9, slots := #[.long (-42)], vm := .none },
  { cls := 9, slots := #[.long (-41)], vm := .none },
  { cls := 9, slots := #[.long (-40)], vm := .none },
  { cls := 9, slots := #[.long (-39)], vm := .none },
  { cls := 9, slots := #[.long (-38)], vm := .none },
  { cls := 9, slots := #[.long (-37)], vm := .none },
  { cls := 9, slots := #[.long (-36)], vm := .none },
  { cls := 9, slots := #[.long (-35)], vm := .none },
  { cls := 9, slots := #[.long (-34)], vm := .none },
  { cls := 9, slots := #[.long (-33)], vm := .none },
  { cls := 9, slots := #[.long (-32)], vm := .none },
  { cls := 9, slots := #[.long (-31)], vm := .none },
  { cls := 9, slots := #[.long (-30)], vm := .none },
  { cls := 9, slots := #[.long (-29)], vm := .none },
  { cls := 9, slots := #[.long (-28)], vm := .none },
  { cls := 9, slots := #[.long (-27)], vm := .none },
  { cls := 9, slots := #[.long (-26)], vm := .none },
  { cls := 9, slots := #[.long (-25)], vm := .none },
  { cls := 9, slots := #[.long (-24)], vm := .none },
  { cls := 9, slots := #[.long (-23)], vm := .none },
  { cls := 9, slots := #[.long (-22)], vm := .none },
  { cls := 9, slots := #[.long (-21)], vm := .none },
  { cls := 9, slots := #[.long (-20)], vm := .none },
  { cls := 9, slots := #[.long (-19)], vm := .none },
  { cls := 9, slots := #[.long (-18)], vm := .none },
  { cls := 9, slots := #[.long (-17)], vm := .none },
  { cls := 9, slots := #[.long (-16)], vm := .none },
  { cls := 9, slots := #[.long (-15)], vm := .none },
  { cls := 9, slots := #[.long (-14)], vm := .none },
  { cls := 9, slots := #[.long (-13)], vm := .none },
  { cls := 9, slots := #[.long (-12)], vm := .none },
  { cls := 9, slots := #[.long (-11)], vm := .none },
  { cls := 9, slots := #[.long (-10)], vm := .none },
  { cls := 9, slots := #[.long (-9)], vm := .none },
  { cls := 9, slots := #[.long (-8)], vm := .none },
  { cls := 9, slots := #[.long (-7)], vm := .none },
  { cls := 9, slots := #[.long (-6)], vm := .none },
  { cls := 9, slots := #[.long (-5)], vm := .none },
  { cls := 9, slots := #[.long (-4)], vm := .none },
  { cls := 9, slots := #[.long (-3)], vm := .none },
  { cls := 9, slots := #[.long (-2)], vm := .none },
  { cls := 9, slots := #[.long (-1)], vm := .none },
  { cls := 9, slots := #[.long (0)], vm := .none },
  { cls := 9, slots := #[.long (1)], vm := .none },
  { cls := 9, slots := #[.long (2)], vm := .none },
  { cls := 9, slots := #[.long (3)], vm := .none },
  { cls := 9, slots := #[.long (4)], vm := .none },
  { cls := 9, slots := #[.long (5)], vm := .none },
  { cls := 9, slots := #[.long (6)], vm := .none },
  { cls := 9, slots := #[.long (7)], vm := .none },
  { cls := 9, slots := #[.long (8)], vm := .none },
  { cls := 9, slots := #[.long (9)], vm := .none },
  { cls := 9, slots := #[.long (10)], vm := .none },
  { cls := 9, slots := #[.long (11)], vm := .none },
  { cls := 9, slots := #[.long (12)], vm := .none },
  { cls := 9, slots := #[.long (13)], vm := .none },
  { cls := 9, slots := #[.long (14)], vm := .none },
  { cls := 9, slots := #[.long (15)], vm := .none },
  { cls := 9, slots := #[.long (16)], vm := .none },
  { cls := 9, slots := #[.long (17)], vm := .none },
  { cls := 9, slots := #[.long (18)], vm := .none },
  { cls := 9, slots := #[.long (19)], vm := .none },
  { cls := 9, slots := #[.long (20)], vm := .none },
  { cls := 9, slots := #[.long (21)], vm := .none },
  { cls := 9, slots := #[.long (22)], vm := .none },
  { cls := 9, slots := #[.long (23)], vm := .none },
  { cls := 9, slots := #[.long (24)], vm := .none },
  { cls := 9, slots := #[.long (25)], vm := .none },
  { cls := 9, slots := #[.long (26)], vm := .none },
  { cls := 9, slots := #[.long (27)], vm := .none },
  { cls := 9, slots := #[.long (28)], vm := .none },
  { cls := 9, slots := #[.long (29)], vm := .none },
  { cls := 9, slots := #[.long (30)], vm := .none },
  { cls := 9, slots := #[.long (31)], vm := .none },
  { cls := 9, slots := #[.long (32)], vm := .none },
  { cls := 9, slots := #[.long (33)], vm := .none },
  { cls := 9, slots := #[.long (34)], vm := .none },
  { cls := 9, slots := #[.long (35)], vm := .none },
  { cls := 9, slots := #[.long (36)], vm := .none },
  { cls := 9, slots := #[.long (37)], vm := .none },
  { cls := 9, slots := #[.long (38)], vm := .none },
  { cls := 9, slots := #[.long (39)], vm := .none },
  { cls := 9, slots := #[.long (40)], vm := .none },
  { cls := 9, slots := #[.long (41)], vm := .none },
  { cls := 9, slots := #[.long (42)], vm := .none },
  { cls := 9, slots := #[.long (43)], vm := .none },
  { cls := 9, slots := #[.long (44)], vm := .none },
  { cls := 9, slots := #[.long (45)], vm := .none },
  { cls := 9, slots := #[.long (46)], vm := .none },
  { cls := 9, slots := #[.long (47)], vm := .none },
  { cls := 9, slots := #[.long (48)], vm := .none },
  { cls := 9, slots := #[.long (49)], vm := .none },
  { cls := 9, slots := #[.long (50)], vm := .none },
  { cls := 9, slots := #[.long (51)], vm := .none },
  { cls := 9, slots := #[.long (52)], vm := .none },
  { cls := 9, slots := #[.long (53)], vm := .none },
  { cls := 9, slots := #[.long (54)], vm := .none },
  { cls := 9, slots := #[.long (55)], vm := .none },
  { cls := 9, slots := #[.long (56)], vm := .none },
  { cls := 9, slots := #[.long (57)], vm := .none },
  { cls := 9, slots := #[.long (58)], vm := .none },
  { cls := 9, slots := #[.long (59)], vm := .none },
  { cls := 9, slots := #[.long (60)], vm := .none },
  { cls := 9, slots := #[.long (61)], vm := .none },
  { cls := 9, slots := #[.long (62)], vm := .none },
  { cls := 9, slots := #[.long (63)], vm := .none },
  { cls := 9, slots := #[.long (64)], vm := .none },
  { cls := 9, slots := #[.long (65)], vm := .none },
  { cls := 9, slots := #[.long (66)], vm := .none },
  { cls := 9, slots := #[.long (67)], vm := .none },
  { cls := 9, slots := #[.long (68)], vm := .none },
  { cls := 9, slots := #[.long (69)], vm := .none },
  { cls := 9, slots := #[.long (70)], vm := .none },
  { cls := 9, slots := #[.long (71)], vm := .none },
  { cls := 9, slots := #[.long (72)], vm := .none },
  { cls := 9, slots := #[.long (73)], vm := .none },
  { cls := 9, slots := #[.long (74)], vm := .none },
  { cls := 9, slots := #[.long (75)], vm := .none },
  { cls := 9, slots := #[.long (76)], vm := .none },
  { cls := 9, slots := #[.long (77)], vm := .none },
  { cls := 9, slots := #[.long (78)], vm := .none },
  { cls := 9, slots := #[.long (79)], vm := .none },
  { cls := 9, slots := #[.long (80)], vm := .none },
  { cls := 9, slots := #[.long (81)], vm := .none },
  { cls := 9, slots := #[.long (82)], vm := .none },
  { cls := 9, slots := #[.long (83)], vm := .none },
  { cls := 9, slots := #[.long (84)], vm := .none },
  { cls := 9, slots := #[.long (85)], vm := .none },
  { cls := 9, slots := #[.long (86)], vm := .none },
  { cls := 9, slots := #[.long (87)], vm := .none },
  { cls := 9, slots := #[.long (88)], vm := .none },
  { cls := 9, slots := #[.long (89)], vm := .none },
  { cls := 9, slots := #[.long (90)], vm := .none },
  { cls := 9, slots := #[.long (91)], vm := .none },
  { cls := 9, slots := #[.long (92)], vm := .none },
  { cls := 9, slots := #[.long (93)], vm := .none },
  { cls := 9, slots := #[.long (94)], vm := .none },
  { cls := 9, slots := #[.long (95)], vm := .none },
  { cls := 9, slots := #[.long (96)], vm := .none },
  { cls := 9, slots := #[.long (97)], vm := .none },
  { cls := 9, slots := #[.long (98)], vm := .none },
  { cls := 9, slots := #[.long (99)], vm := .none },
  { cls := 9, slots := #[.long (100)], vm := .none },
  { cls := 9, slots := #[.long (101)], vm := .none },
  { cls := 9, slots := #[.long (102)], vm := .none },
  { cls := 9, slots := #[.long (103)], vm := .none },
  { cls := 9, slots := #[.long (104)], vm := .none },
  { cls := 9, slots := #[.long (105)], vm := .none },
  { cls := 9, slots := #[.long (106)], vm := .none },
  { cls := 9, slots := #[.long (107)], vm := .none },
  { cls := 9, slots := #[.long (108)], vm := .none },
  { cls := 9, slots := #[.long (109)], vm := .none },
  { cls := 9, slots := #[.long (110)], vm := .none },
  { cls := 9, slots := #[.long (111)], vm := .none },
  { cls := 9, slots := #[.long (112)], vm := .none },
  { cls := 9, slots := #[.long (113)], vm := .none },
  { cls := 9, slots := #[.long (114)], vm := .none },
  { cls := 9, slots := #[.long (115)], vm := .none },
  { cls := 9, slots := #[.long (116)], vm := .none },
  { cls := 9, slots := #[.long (117)], vm := .none },
  { cls := 9, slots := #[.long (118)], vm := .none },
  { cls := 9, slots := #[.long (119)], vm := .none },
  { cls := 9, slots := #[.long (120)], vm := .none },
  { cls := 9, slots := #[.long (121)], vm := .none },
  { cls := 9, slots := #[.long (122)], vm := .none },
  { cls := 9, slots := #[.long (123)], vm := .none },
  { cls := 9, slots := #[.long (124)], vm := .none },
  { cls := 9, slots := #[.long (125)], vm := .none },
  { cls := 9, slots := #[.long (126)], vm := .none },
  { cls := 9, slots := #[.long (127)], vm := .none }]
def classes : Array Class := #[k0, k1, k2, k3, k4, k5, k6, k7, k8, k9, k10, k11, k12, k13, k14, k15, k16]
def interned : List (Array UInt16 × Addr) := []
def slotsUsed : Nat := 515
def theMethod : MethodId := ⟨1, 1⟩
def args0 : Array Value := #[.long 5, .int 7, .long 6, .int 8, .int 3]
def aboutOver (below : List Frame) : State where
  vm := { classes := classes, interned := interned.toArray }
  heap := heap
  slotsUsed := slotsUsed
  threads := #[{ frames := .invoking theMethod args0 :: below }]
def below0 : List Frame := [.native { method := ⟨0, 0⟩, args := #[] }]
def about1 : State := aboutOver below0
def p0 : Program := .bare "" "" ""
def e0 : Env := launch0.env 0 0 0
theorem w_frames : about1.frames = Frame.invoking theMethod args0 :: below0 := rfl
set_option maxRecDepth 65536 in
theorem w_args : argsFit about1.vm theMethod args0 = true := by decide +kernel
set_option maxRecDepth 65536 in
theorem w_heap : heapFits about1 = true := by decide +kernel
set_option maxRecDepth 65536 in
theorem w_runnable : about1.curStatus? = some .runnable := by decide +kernel
set_option maxRecDepth 65536 in
theorem w_alone : about1.alone = true := by decide +kernel
set_option maxRecDepth 65536 in
theorem w_named : about1.methodNamed? x = some theMethod := by decide +kernel
set_option maxRecDepth 65536 in
theorem w_hears : about1.hears theMethod below0 = true := by decide +kernel
set_option maxRecDepth 65536 in
theorem w_ripe : about1.ripe theMethod args0 below0 = true := by decide +kernel
theorem w_running : about1.status = .running := rfl
set_option maxRecDepth 65536 in
theorem w_room : about1.hasRoom e0.platform room_1 = true :=
  launch0.hasRoom_least _ room_1 (by decide +kernel) (by decide +kernel) (by decide +kernel) (by decide +kernel) (by decide +kernel) (by decide +kernel)
theorem allAtoms_all (ts : List Jvm.Cond) (a : Array Jvm.Value) (st : Jvm.State) : (allAtoms ts).before a st = ts.all (fun c => c.before a st) := by
  induction ts with
  | nil => rfl
  | cons c t ih =>
    show (Jvm.Cond.and c (allAtoms t)).before a st = _
    rw [Jvm.Cond.before_and, ih, List.all_cons]
def words1 : List Jvm.Cond := Jvm.Cond.code x code maxLocals ret :: tables_1
/-- a 'code' word, met by the world's own term for the bytes: nothing is compared byte by byte -/
theorem code_word {y : MethodName} {bytes : ByteArray} {mx : Nat} {rt : Option FieldType} {a : Array Value} {s : State} {m : MethodId} {meth : Method} {c : Code} (h1 : s.methodNamed? y = some m) (h2 : s.vm.method? m = some meth) (h3 : meth.code = some c) (h4 : c.code = bytes)
    (h5 : (c.maxLocals == mx && c.exceptionTable.isEmpty && decide (c.maxStack ≤ mostOperands) && decide (meth.sig.returnType = rt) && !meth.locks && decide (parseMethodDescriptor y.desc = some meth.sig)) = true) : (Jvm.Cond.code y bytes mx rt).before a s = true := by
  simp only [Bool.and_eq_true, beq_iff_eq, Bool.not_eq_true', decide_eq_true_eq] at h5
  obtain ⟨⟨⟨⟨⟨g1, g2⟩, g3⟩, g4⟩, g5⟩, g6⟩ := h5
  simp [Cond.before, Cond.holds, Cond.value, h1, h2, h3, h4, g1, g2, g3, g4, g5, g6]
def isCode : Jvm.Cond → Bool
  | .code _ _ _ _ => true
  | _ => false
theorem all_split {L : List Jvm.Cond} {P : Jvm.Cond → Bool} (h1 : L.all (fun c => isCode c || P c) = true) (h2 : ∀ c ∈ L.filter isCode, P c = true) : L.all P = true := by
  refine List.all_eq_true.mpr fun c hc => ?_
  have h := List.all_eq_true.mp h1 c hc
  rcases Bool.eq_false_or_eq_true (isCode c) with hi | hi
  · exact h2 c (List.mem_filter.mpr ⟨hc, hi⟩)
  · simpa [hi] using h
set_option maxRecDepth 65536 in
theorem w_c0 : (Jvm.Cond.code x code maxLocals ret).before args0 about1 = true := code_word (m := ⟨1, 1⟩) (meth := k1m1) (c := k1c1) (by decide +kernel) rfl rfl rfl (by decide +kernel)
set_option maxRecDepth 65536 in
theorem w_c1 : (Jvm.Cond.code ({ cls := "com/example/maat/maat/Turn", name := "<init>", desc := "(JI)V" } : Jvm.MethodName) prog_17_method_1_code (4 : Nat) (Option.none : Option Jvm.ClassFile.FieldType)).before args0 about1 = true := code_word (m := ⟨4, 0⟩) (meth := k4m0) (c := k4c0) (by decide +kernel) rfl rfl rfl (by decide +kernel)
set_option maxRecDepth 65536 in
theorem w_c2 : (Jvm.Cond.code ({ cls := "java/lang/Record", name := "<init>", desc := "()V" } : Jvm.MethodName) jdk_30_method_1_code (1 : Nat) (Option.none : Option Jvm.ClassFile.FieldType)).before args0 about1 = true := code_word (m := ⟨2, 0⟩) (meth := k2m0) (c := k2c0) (by decide +kernel) rfl rfl rfl (by decide +kernel)
set_option maxRecDepth 65536 in
theorem w_c3 : (Jvm.Cond.code ({ cls := "java/lang/Object", name := "<init>", desc := "()V" } : Jvm.MethodName) object_method_1_code (1 : Nat) (Option.none : Option Jvm.ClassFile.FieldType)).before args0 about1 = true := code_word (m := ⟨0, 0⟩) (meth := k0m0) (c := k0c0) (by decide +kernel) rfl rfl rfl (by decide +kernel)
set_option maxRecDepth 65536 in
theorem w_c4 : (Jvm.Cond.code ({ cls := "java/lang/Long", name := "valueOf", desc := "(J)Ljava/lang/Long;" } : Jvm.MethodName) jdk_35_method_24_code (3 : Nat) (Option.some (Jvm.ClassFile.FieldType.object "java/lang/Long"))).before args0 about1 = true := code_word (m := ⟨9, 0⟩) (meth := k9m0) (c := k9c0) (by decide +kernel) rfl rfl rfl (by decide +kernel)
set_option maxRecDepth 65536 in
theorem w_c5 : (Jvm.Cond.code ({ cls := "com/example/maat/maat/Turn", name := "equals", desc := "(Ljava/lang/Object;)Z" } : Jvm.MethodName) prog_17_method_2_code (3 : Nat) (Option.some Jvm.ClassFile.FieldType.boolean)).before args0 about1 = true := code_word (m := ⟨4, 1⟩) (meth := k4m1) (c := k4c1) (by decide +kernel) rfl rfl rfl (by decide +kernel)
set_option maxRecDepth 65536 in
theorem w_c6 : (Jvm.Cond.code ({ cls := "java/lang/Long", name := "<init>", desc := "(J)V" } : Jvm.MethodName) jdk_35_method_26_code (3 : Nat) (Option.none : Option Jvm.ClassFile.FieldType)).before args0 about1 = true := code_word (m := ⟨9, 1⟩) (meth := k9m1) (c := k9c1) (by decide +kernel) rfl rfl rfl (by decide +kernel)
set_option maxRecDepth 65536 in
theorem w_c7 : (Jvm.Cond.code ({ cls := "java/lang/Number", name := "<init>", desc := "()V" } : Jvm.MethodName) jdk_18_method_1_code (1 : Nat) (Option.none : Option Jvm.ClassFile.FieldType)).before args0 about1 = true := code_word (m := ⟨6, 0⟩) (meth := k6m0) (c := k6c0) (by decide +kernel) rfl rfl rfl (by decide +kernel)
def codes1 : List Jvm.Cond := [Jvm.Cond.code x code maxLocals ret, Jvm.Cond.code ({ cls := "com/example/maat/maat/Turn", name := "<init>", desc := "(JI)V" } : Jvm.MethodName) prog_17_method_1_code (4 : Nat) (Option.none : Option Jvm.ClassFile.FieldType), Jvm.Cond.code ({ cls := "java/lang/Record", name := "<init>", desc := "()V" } : Jvm.MethodName) jdk_30_method_1_code (1 : Nat) (Option.none : Option Jvm.ClassFile.FieldType), Jvm.Cond.code ({ cls := "java/lang/Object", name := "<init>", desc := "()V" } : Jvm.MethodName) object_method_1_code (1 : Nat) (Option.none : Option Jvm.ClassFile.FieldType), Jvm.Cond.code ({ cls := "java/lang/Long", name := "valueOf", desc := "(J)Ljava/lang/Long;" } : Jvm.MethodName) jdk_35_method_24_code (3 : Nat) (Option.some (Jvm.ClassFile.FieldType.object "java/lang/Long")), Jvm.Cond.code ({ cls := "com/example/maat/maat/Turn", name := "equals", desc := "(Ljava/lang/Object;)Z" } : Jvm.MethodName) prog_17_method_2_code (3 : Nat) (Option.some Jvm.ClassFile.FieldType.boolean), Jvm.Cond.code ({ cls := "java/lang/Long", name := "<init>", desc := "(J)V" } : Jvm.MethodName) jdk_35_method_26_code (3 : Nat) (Option.none : Option Jvm.ClassFile.FieldType), Jvm.Cond.code ({ cls := "java/lang/Number", name := "<init>", desc := "()V" } : Jvm.MethodName) jdk_18_method_1_code (1 : Nat) (Option.none : Option Jvm.ClassFile.FieldType)]
set_option maxRecDepth 65536 in
theorem codes_eq : words1.filter isCode = codes1 := rfl
theorem w_codes : ∀ c ∈ words1.filter isCode, c.before args0 about1 = true := by
  rw [codes_eq]
  intro c hc
  simp only [codes1, List.mem_cons, List.not_mem_nil, or_false] at hc
  rcases hc with rfl | rfl | rfl | rfl | rfl | rfl | rfl | rfl
  · exact w_c0
  · exact w_c1
  · exact w_c2
  · exact w_c3
  · exact w_c4
  · exact w_c5
  · exact w_c6
  · exact w_c7
set_option maxRecDepth 65536 in
theorem w_t1 : (words1.take 24).all (fun c => isCode c || c.before args0 about1) = true := by decide +kernel
set_option maxRecDepth 65536 in
theorem w_t2 : ((words1.drop 24).take 24).all (fun c => isCode c || c.before args0 about1) = true := by decide +kernel
set_option maxRecDepth 65536 in
theorem w_t3 : ((words1.drop 24).drop 24).all (fun c => isCode c || c.before args0 about1) = true := by decide +kernel
theorem w_tables : (allAtoms (Jvm.Cond.code x code maxLocals ret :: tables_1)).before args0 about1 = true := by
  rw [allAtoms_all]
  show words1.all (fun c => c.before args0 about1) = true
  refine all_split ?_ w_codes
  rw [← List.take_append_drop 24 words1, List.all_append, w_t1, ← List.take_append_drop 24 (words1.drop 24), List.all_append, w_t2, w_t3]
  rfl
set_option maxRecDepth 65536 in
theorem w_rest : rest_1_c.before args0 about1 = true := by decide +kernel
set_option maxRecDepth 65536 in
theorem w_case : (Jvm.Cond.and given_1 narrow_1).before args0 about1 = true := by decide +kernel
theorem w_applies : (headSpec (Jvm.Cond.code x code maxLocals ret :: tables_1) room_1).applies x e0.platform about1 = true :=
  (Spec.applies_iff w_frames).mpr ⟨w_running, w_runnable, w_alone, w_named, w_hears, w_ripe, w_room, w_tables⟩
theorem atStart : AtStart classFile x code maxLocals ret World_1 tables_1 room_1 Calls_1 rest_1 Pre_1 launch0 p0 e0 about1 theMethod args0 below0 :=
  ⟨lists_1, trivial, launch0.admits_env _ _ _, launch0.least_env, fairChoices_fair.cas, fairChoices_fair.clock, w_frames, w_args, w_heap, w_applies, trivial, w_rest, w_case⟩
end start1
theorem witness_1 : WitnessClaimed_1 := ⟨start1.p0, start1.e0, start1.about1, start1.theMethod, start1.args0, start1.below0, start1.atStart⟩
end Jvm.Pilot.@@N@@
