import JvmDerived
import JvmDerived.Pilot.@@N@@Statement
import JvmDerived.Pilot.@@N@@Code
set_option linter.unusedVariables false
set_option linter.unusedSimpArgs false
namespace Jvm.RoadKit
open Sem ClassFile Op Lib Jvm.Stand Jvm.Free Jvm.LawKit
section New
variable {p : Program} {l : Launch} {e : Env} {R : Room} {s : State} {m : MethodId} {args : Array Value} {below : List Frame} {meth : Method} {c : Code} {T : State} {locs : List Loc} {cells slots : Nat}
theorem retI (X : Stand p l e R s m args below meth c T locs cells slots) (hx : p.tables.exec = Jvm.exec) {pc : Nat} {Ls : Array Slot} {z : Int32} {rest : List Value} (hret : meth.sig.returnType = some .int) (hd : decode c.code pc = .ok (.ireturn, 1)) {fs : List Frame}
    (hl : ∀ (f : JFrame) (acts : List Action), f.method = m → f.locked = none → f.entered = [] → (doReturn e (T.setTop f) acts (some (.int z))).1 = T.setFrames fs) : Steps p.tables e below (T.setTop (mkF m pc Ls (.int z :: rest))) (T.setFrames fs) := by
  have hm' : T.vm.method? m = some meth := X.method'
  have hn : narrow .int (.int z) = .int z := rfl
  show Steps p.tables e below (T.setTop { method := m, pc := pc, locals := Ls, stack := _ :: rest, locked := none }) _
  jvm_step X.here [X.here.top, hx, hd, hm', hret, hn]
  first | (intro acts; rw [hl _ acts rfl rfl rfl]) | rw [hl _ _ rfl rfl rfl]
  exact Steps.refl _
theorem Arr.at_ {Z : State} {h : Heap} {a : Addr} {cl : Cell} {ty : FieldType} (A : Arr Z h a cl ty) {U : State} (q : U.heap = h) : U.heap[a]? = some cl := by rw [q]; exact A.1
end New
end Jvm.RoadKit
namespace Jvm.Pilot.@@N@@
open Jvm Jvm.ClassFile Sem Op Lib Jvm.Free Jvm.Stand Jvm.LawKit Jvm.RoadKit Bundle Jvm.Pilot.@@N@@.Jvm.D
theorem own_eqI {args : Array Value} {first s : State} {o : Option Outcome} {idx : List Nat} {t : Term} {n : Int32} (h : (Jvm.Cond.eq t (.int n)).value args first o s idx = some true) : t.eval args first o idx s = some (.int n) := by
  cases ht : t.eval args first o idx s with
  | none => simp [Jvm.Cond.value, Term.eval, ht] at h
  | some x => cases x <;> simp [Jvm.Cond.value, Term.eval, ht] at h ⊢; exact h
theorem own_eqL {args : Array Value} {first s : State} {o : Option Outcome} {idx : List Nat} {t : Term} {n : Int64} (h : (Jvm.Cond.eq t (.long n)).value args first o s idx = some true) : t.eval args first o idx s = some (.long n) := by
  cases ht : t.eval args first o idx s with
  | none => simp [Jvm.Cond.value, Term.eval, ht] at h
  | some x => cases x <;> simp [Jvm.Cond.value, Term.eval, ht] at h ⊢; exact h
theorem own_fld {args : Array Value} {Z : State} {t : Term} {a : Addr} {C n d : String} {v : Value} (ht : t.eval args Z none [] Z = some (.ref a)) (h : (Term.field t C n d).eval args Z none [] Z = some v) : Fld Z Z.heap a C n d v := Fld.start ((fld_at ht).symm.trans h)
theorem own_exa {args : Array Value} {Z : State} {t : Term} {C : String} (h : (Jvm.Cond.exactly t C).value args Z none Z [] = some true) : ∃ a, t.eval args Z none [] Z = some (.ref a) ∧ Exa Z Z.heap a C := by
  obtain ⟨a, e⟩ := exa_v h
  exact ⟨a, e, Exa.start e h⟩
theorem own_eqR {args : Array Value} {first s : State} {o : Option Outcome} {idx : List Nat} {t u : Term} {a : Addr} (h : (Jvm.Cond.eq t u).value args first o s idx = some true) (hu : u.eval args first o idx s = some (.ref a)) : t.eval args first o idx s = some (.ref a) := by
  cases ht : t.eval args first o idx s with
  | none => simp [Jvm.Cond.value, ht, hu] at h
  | some x => cases x <;> simp [Jvm.Cond.value, ht, hu] at h ⊢; exact h
def Q_vals (Z : State) (wV : Addr) (kc : ClassId) (wC : Addr) (wS : Addr) (h0 : Heap) (n0 : Nat) (v : Option Value) (h : Heap) (L : List Loc) : Prop := ∃ r : Addr, v = some (.ref r) ∧ Fr n0 L ∧ Keep h0 h [] ∧ h0.size ≤ r ∧ Arv Z h r kc (.object "com/example/recital/recital/amendment/Marks") (2 : Int32) [(.ref wC), (.ref wS)] .null ∧ Exa Z h r "[Lcom/example/recital/recital/amendment/Marks;"
theorem d1_0 : decode prog_22_method_1_code 0 = .ok (.getstatic 10, 3) := by decide +kernel
theorem d1_3 : decode prog_22_method_1_code 3 = .ok (.invokevirtual 14, 3) := by decide +kernel
theorem d1_6 : decode prog_22_method_1_code 6 = .ok (.checkcast 15, 3) := by decide +kernel
theorem d1_9 : decode prog_22_method_1_code 9 = .ok (.areturn, 1) := by decide +kernel
theorem pn_2 : plainName "com/example/recital/recital/amendment/Marks" = true := by first | (simp [plainName, overriddenIn]; done) | decide +kernel
theorem ef_1_ (m : MethodId)  : entryFrame m #[] 0 = mkF m 0 #[] [] := by first | (simp [entryFrame, mkF, argsToLocals, Value.category]; done) | rfl
set_option maxRecDepth 65536 in
set_option maxHeartbeats 40000000 in
theorem vals (l : Launch) (Z : State) (a0 : Array Value) (hw : ∀ d ∈ tables_1, d.before a0 Z = true) (ws : List Jvm.Cond) (wV : Addr) (kc : ClassId) (wC : Addr) (wS : Addr) (h0 : Heap) (n0 : Nat) (O0 : Old Z n0 h0) (G0 : Sta Z Z.heap "com/example/recital/recital/amendment/Marks" "$VALUES" "[Lcom/example/recital/recital/amendment/Marks;" (.ref wV)) (G1 : Arv Z Z.heap wV kc (.object "com/example/recital/recital/amendment/Marks") (2 : Int32) [(.ref wC), (.ref wS)] .null) (G2 : Exa Z Z.heap wV "[Lcom/example/recital/recital/amendment/Marks;") :
    MetFree l (⟨"com/example/recital/recital/amendment/Marks", "values", "()[Lcom/example/recital/recital/amendment/Marks;"⟩ : MethodName) (head1 (Jvm.Cond.code (⟨"com/example/recital/recital/amendment/Marks", "values", "()[Lcom/example/recital/recital/amendment/Marks;"⟩ : MethodName) prog_22_method_1_code 0 (some (.array (.object "com/example/recital/recital/amendment/Marks"))) :: ws) ({ frames := 1, cells := 1, slots := 2, locals := 14 } : Room)) (fun zA zU => zA = #[] ∧ Z.Warmed39 zU.vm ∧ zU.heap = h0) (fun _ _ _ _ _ => True) (fun _ zU zo zU' => ∃ zv zL, zo = .returned zv ∧ Q_vals Z wV kc wC wS h0 n0 zv zU'.heap zL ∧ FrameEnd zU zo zU' zL ({ frames := 1, cells := 1, slots := 2, locals := 14 } : Room).cells ({ frames := 1, cells := 1, slots := 2, locals := 14 } : Room).slots) := by
  refine MetFree.of_bodySF (plainFor_of_name pn_2) hisR ?_
  intro p e s m args below meth c s₁ Bd hml0 hP hK
  obtain ⟨rfl, hZ, hh⟩ := hP
  have hx := Bd.exec
  have hby := Bd.bytes
  have hml : c.maxLocals = 0 := hml0
  have hown : s.vm.findClass "com/example/recital/recital/amendment/Marks" = some m.cls := findClass_of_methodNamed Bd.named
  have hnm := (name_of_methodNamed Bd.named Bd.method).1
  have X0 : Stand p l e ({ frames := 1, cells := 1, slots := 2, locals := 14 } : Room) s m #[] below meth c s₁ [] 0 0 := Stand.of_body Bd
  have e0 : s₁.heap = h0 := by rw [← hh, Bd.state]; rfl
  have N0 := Fr.nil n0
  have Z0 : n0 ≤ h0.size := O0.1 ▸ O0.2.1
  have pre0 : ∀ t, Steps p.tables e below (s₁.setTop (mkF m 0 #[] [])) t → Steps p.tables e below (s₁.setTop (entryFrame m #[] 0)) t := fun zt zk => castTop (ef_1_ m ) zk
  obtain ⟨T1, X1, e1, st1⟩ := getS2 X0 hx hZ hown (host := "") (Or.inl (hw _ (List.mem_of_getElem? (i := 7) rfl))) Via.refl e0 (G0.ext O0.2) (g := (mkF m 0 #[] [])) rfl (hb hby d1_0)
  obtain ⟨T2, h2, X2, e2, E2, V2, A2, st2⟩ := cloneH X1 hx hZ hown (hw _ (List.mem_of_getElem? (i := 9) rfl)) (hw _ (List.mem_of_getElem? (i := 10) rfl)) (hw _ (List.mem_of_getElem? (i := 14) rfl)) (hw _ (List.mem_of_getElem? (i := 12) rfl)) (hw _ (List.mem_of_getElem? (i := 13) rfl)) (hw _ (List.mem_of_getElem? (i := 15) rfl)) e1 (Arv.arh (G1.ext O0.2)) (G2.ext O0.2) (g := (mkF m 3 #[] [(.ref wV)])) rfl (by rw [hml]; rfl) rfl (hb hby d1_3) (by decide) (W := 0) (cap := 2) (by show 2 * 0 + _ ≤ _; exact Nat.le_of_eq rfl) (by decide) (by decide) (by decide) (by decide)
  obtain ⟨b2, gz2⟩ : ∃ z, z = h0.size := ⟨_, rfl⟩
  rw [← gz2] at A2 V2 st2
  have sz_b2 : h0.size ≤ b2 := Nat.le_trans (Keep.refl h0 []).1 (Nat.le_of_eq gz2.symm)
  have g_b2 : n0 ≤ b2 := Nat.le_trans Z0 sz_b2
  have O2 := O0.ext E2
  have K2 : Keep h0 h2 [] := (Keep.refl h0 []).ext E2
  have V2 : Arv Z h2 b2 kc (.object "com/example/recital/recital/amendment/Marks") (2 : Int32) [(.ref wC), (.ref wS)] .null := V2
  obtain ⟨T3, X3, e3, st3⟩ := castY X2 hx hZ hown (hw _ (List.mem_of_getElem? (i := 19) rfl)) e2 (Ins.self A2) (g := (mkF m 6 #[] [(.ref b2)])) rfl rfl (hb hby d1_6)
  obtain ⟨fs, hr, hrun, hended, hW, hsame⟩ := X3.leave (v := some (.ref b2)) (fun h => by rw [Bd.returns] at h; cases h)
  refine ⟨_, _, pre0 _ ?_, hrun, hended, _, _, rfl, ?_, ⟨_, rfl⟩, hW, hsame.mono (by decide) (by decide)⟩
  · show Steps p.tables e below (s₁.setTop (mkF m 0 #[] [])) _
    refine st1 _ ?_
    show Steps p.tables e below (T1.setTop (mkF m 3 #[] [(.ref wV)])) _
    refine st2 _ ?_
    show Steps p.tables e below (T2.setTop (mkF m 6 #[] [(.ref b2)])) _
    refine st3 _ ?_
    show Steps p.tables e below (T3.setTop (mkF m 9 #[] [(.ref b2)])) _
    jvm_step X3.here [X3.here.top, hx, (hb hby d1_9), X3.method', Bd.returns, Value.isRef, FieldType.isReference]
    first | (intro acts; rw [hr _ acts rfl rfl rfl]) | rw [hr _ _ rfl rfl rfl]
    exact Steps.refl _
  · show Q_vals Z wV kc wC wS h0 n0 _ T3.heap _
    rw [e3]
    exact ⟨b2, rfl, N0, K2, sz_b2, V2, A2⟩
def Q_opC (Z : State) (ch : Int32) (wV : Addr) (kc : ClassId) (wC : Addr) (wS : Addr) (h0 : Heap) (n0 : Nat) (v : Option Value) (h : Heap) (L : List Loc) : Prop := v = some (.ref wC) ∧ Fr n0 L ∧ Keep h0 h []
theorem d3_0 : decode prog_22_method_4_code 0 = .ok (.invokestatic 36, 3) := by decide +kernel
theorem pd_0 : parseMethodDescriptor "()[Lcom/example/recital/recital/amendment/Marks;" = some ⟨[], some (.array (.object "com/example/recital/recital/amendment/Marks"))⟩ := by decide +kernel
theorem d3_3 : decode prog_22_method_4_code 3 = .ok (.astore_n 1, 1) := by decide +kernel
theorem d3_4 : decode prog_22_method_4_code 4 = .ok (.aload_n 1, 1) := by decide +kernel
theorem d3_5 : decode prog_22_method_4_code 5 = .ok (.arraylength, 1) := by decide +kernel
theorem d3_6 : decode prog_22_method_4_code 6 = .ok (.istore_n 2, 1) := by decide +kernel
theorem d3_7 : decode prog_22_method_4_code 7 = .ok (.iconst 0, 1) := by decide +kernel
theorem d3_8 : decode prog_22_method_4_code 8 = .ok (.istore_n 3, 1) := by decide +kernel
theorem d3_9 : decode prog_22_method_4_code 9 = .ok (.iload_n 3, 1) := by decide +kernel
theorem d3_10 : decode prog_22_method_4_code 10 = .ok (.iload_n 2, 1) := by decide +kernel
theorem d3_11 : decode prog_22_method_4_code 11 = .ok (.if_icmp .ge 26, 3) := by decide +kernel
theorem d3_14 : decode prog_22_method_4_code 14 = .ok (.aload_n 1, 1) := by decide +kernel
theorem d3_15 : decode prog_22_method_4_code 15 = .ok (.iload_n 3, 1) := by decide +kernel
theorem d3_16 : decode prog_22_method_4_code 16 = .ok (.aaload, 1) := by decide +kernel
theorem d3_17 : decode prog_22_method_4_code 17 = .ok (.astore 4, 2) := by decide +kernel
theorem d3_19 : decode prog_22_method_4_code 19 = .ok (.aload 4, 2) := by decide +kernel
theorem d3_21 : decode prog_22_method_4_code 21 = .ok (.getfield 29, 3) := by decide +kernel
theorem d3_24 : decode prog_22_method_4_code 24 = .ok (.iload_n 0, 1) := by decide +kernel
theorem d3_25 : decode prog_22_method_4_code 25 = .ok (.if_icmp .ne 6, 3) := by decide +kernel
theorem d3_28 : decode prog_22_method_4_code 28 = .ok (.aload 4, 2) := by decide +kernel
theorem d3_30 : decode prog_22_method_4_code 30 = .ok (.areturn, 1) := by decide +kernel
theorem ef_3_I (m : MethodId) (x0 : Int32) : entryFrame m #[(.int x0)] 5 = mkF m 0 #[.val (.int x0), .unset, .unset, .unset, .unset] [] := by first | (simp [entryFrame, mkF, argsToLocals, Value.category]; done) | rfl
set_option maxRecDepth 65536 in
set_option maxHeartbeats 40000000 in
theorem opC (l : Launch) (Z : State) (a0 : Array Value) (hw : ∀ d ∈ tables_1, d.before a0 Z = true) (ws : List Jvm.Cond) (ch : Int32) (wV : Addr) (kc : ClassId) (wC : Addr) (wS : Addr) (h0 : Heap) (n0 : Nat) (O0 : Old Z n0 h0) (G0 : Sta Z Z.heap "com/example/recital/recital/amendment/Marks" "$VALUES" "[Lcom/example/recital/recital/amendment/Marks;" (.ref wV)) (G1 : Arv Z Z.heap wV kc (.object "com/example/recital/recital/amendment/Marks") (2 : Int32) [(.ref wC), (.ref wS)] .null) (G2 : Exa Z Z.heap wV "[Lcom/example/recital/recital/amendment/Marks;") (G3 : Fld Z Z.heap wC "com/example/recital/recital/amendment/Marks" "opening" "C" (.int (8220 : Int32))) (G4 : Fld Z Z.heap wS "com/example/recital/recital/amendment/Marks" "opening" "C" (.int (34 : Int32))) (q1 : (8220 : Int32) = ch) :
    MetFree l (⟨"com/example/recital/recital/amendment/Marks", "opening", "(C)Lcom/example/recital/recital/amendment/Marks;"⟩ : MethodName) (head1 (Jvm.Cond.code (⟨"com/example/recital/recital/amendment/Marks", "opening", "(C)Lcom/example/recital/recital/amendment/Marks;"⟩ : MethodName) prog_22_method_4_code 5 (some (.object "com/example/recital/recital/amendment/Marks")) :: ws) ({ frames := 2, cells := 1, slots := 2, locals := 25 } : Room)) (fun zA zU => zA = #[(.int ch)] ∧ Z.Warmed39 zU.vm ∧ zU.heap = h0) (fun _ _ _ _ _ => True) (fun _ zU zo zU' => ∃ zv zL, zo = .returned zv ∧ Q_opC Z ch wV kc wC wS h0 n0 zv zU'.heap zL ∧ FrameEnd zU zo zU' zL ({ frames := 2, cells := 1, slots := 2, locals := 25 } : Room).cells ({ frames := 2, cells := 1, slots := 2, locals := 25 } : Room).slots) := by
  refine MetFree.of_bodySF (plainFor_of_name pn_2) hisR ?_
  intro p e s m args below meth c s₁ Bd hml0 hP hK
  obtain ⟨rfl, hZ, hh⟩ := hP
  have hx := Bd.exec
  have hby := Bd.bytes
  have hml : c.maxLocals = 5 := hml0
  have hown : s.vm.findClass "com/example/recital/recital/amendment/Marks" = some m.cls := findClass_of_methodNamed Bd.named
  have hnm := (name_of_methodNamed Bd.named Bd.method).1
  have X0 : Stand p l e ({ frames := 2, cells := 1, slots := 2, locals := 25 } : Room) s m #[(.int ch)] below meth c s₁ [] 0 0 := Stand.of_body Bd
  have e0 : s₁.heap = h0 := by rw [← hh, Bd.state]; rfl
  have N0 := Fr.nil n0
  have Z0 : n0 ≤ h0.size := O0.1 ▸ O0.2.1
  have pre0 : ∀ t, Steps p.tables e below (s₁.setTop (mkF m 0 #[.val (.int ch), .unset, .unset, .unset, .unset] [])) t → Steps p.tables e below (s₁.setTop (entryFrame m #[(.int ch)] 5)) t := fun zt zk => castTop (ef_3_I m ch) zk
  obtain ⟨_, _, ⟨T1, L1, k1, n1⟩, -, X1, ⟨Lc1, hQ1, l1, y1, z1⟩, st1⟩ := Jvm.LawKit.callS X0 hx (y := (⟨"com/example/recital/recital/amendment/Marks", "values", "()[Lcom/example/recital/recital/amendment/Marks;"⟩ : MethodName)) hown (mvT hZ (hw _ (List.mem_of_getElem? (i := 4) rfl))) (mvT hZ (hw _ (List.mem_of_getElem? (i := 5) rfl))) (mvT hZ (hw _ (List.mem_of_getElem? (i := 2) rfl))) (mvT hZ (hw _ (List.mem_of_getElem? (i := 6) rfl))) (by decide) (backOf (W := 0) (vals l Z a0 hw [] wV kc wC wS h0 n0 O0 G0 G1 G2) hZ (hw _ (List.mem_of_getElem? (i := 6) rfl)) (hw _ (List.mem_of_getElem? (i := 2) rfl)) (by decide) (by decide)) (g := (mkF m 0 #[.val (.int ch), .unset, .unset, .unset, .unset] [])) rfl (by rw [hml]; rfl) (argsL := []) (rest := []) (lenOf pd_0 rfl) rfl (by show 2 * 0 + _ ≤ _; exact Nat.le_of_eq rfl) (hb hby d3_0) (fun _ _ => ⟨rfl, e0, (by decide : 0 + 1 ≤ _), (by decide : 0 + 2 ≤ _)⟩)
  dsimp only [Pt.U, Pt.locs, Pt.cells, Pt.slots] at X1 l1 y1 z1 st1 hQ1
  subst l1 y1 z1
  obtain ⟨r_1, rfl, Nq1, kh1, fz_r_1, Po1_0, Po1_1⟩ := hQ1
  have N1 := Fr.app N0 Nq1
  have sz_r_1 : h0.size ≤ r_1 := Nat.le_trans (Keep.refl h0 []).1 fz_r_1
  have g_r_1 : n0 ≤ r_1 := Nat.le_trans Z0 sz_r_1
  have O1 := O0.keep kh1 all0
  have K1 : Keep h0 T1.heap [] := (Keep.refl h0 []).trans kh1 all0
  obtain ⟨cl2, Ar2, -, Sz2, Ng2, -⟩ := (id Po1_0)
  obtain ⟨cl3, Ar3, q3, Sz3, Ng3, Hs3, Gs3⟩ := (id Po1_0)
  have hin3 : ¬ ((0 : Int32) < 0 ∨ cl3.slots.size ≤ ((0 : Int32)).toNatClampNeg) := inb_of Sz3 ⟨by decide, by decide⟩
  have hat3 : cl3.slots[((0 : Int32)).toNatClampNeg]? = some (.ref wC) := Has.at Hs3 hin3 rfl
  obtain ⟨T4, X4, e4, st4⟩ := getF X1 hx hZ hown (host := "") (Or.inl (hw _ (List.mem_of_getElem? (i := 21) rfl))) Via.refl rfl (G3.ext O1.2) (g := (mkF m 21 #[.val (.int ch), .val (.ref r_1), .val (.int (2 : Int32)), .val (.int (0 : Int32)), .val (.ref wC)] [(.ref wC)])) rfl rfl (hb hby d3_21)
  obtain ⟨fs, hr, hrun, hended, hW, hsame⟩ := X4.leave (v := some (.ref wC)) (fun h => by rw [Bd.returns] at h; cases h)
  refine ⟨_, _, pre0 _ ?_, hrun, hended, _, _, rfl, ?_, ⟨_, rfl⟩, hW, hsame.mono (by decide) (by decide)⟩
  · show Steps p.tables e below (s₁.setTop (mkF m 0 #[.val (.int ch), .unset, .unset, .unset, .unset] [])) _
    refine st1 _ ?_
    show Steps p.tables e below (T1.setTop (mkF m 3 #[.val (.int ch), .unset, .unset, .unset, .unset] [(.ref r_1)])) _
    refine XS.astoreN X1.here hx rfl (hb hby d3_3) rfl rfl (l' := #[.val (.int ch), .val (.ref r_1), .unset, .unset, .unset]) rfl ?_
    show Steps p.tables e below (T1.setTop (mkF m 4 #[.val (.int ch), .val (.ref r_1), .unset, .unset, .unset] [])) _
    refine XS.aloadN X1.here hx rfl (hb hby d3_4) rfl rfl ?_
    show Steps p.tables e below (T1.setTop (mkF m 5 #[.val (.int ch), .val (.ref r_1), .unset, .unset, .unset] [(.ref r_1)])) _
    refine X1.arraylength hx (Ar2.at_ rfl) (State.isArrayOf_alike hZ.alike Ar2.2.1) (g := (mkF m 5 #[.val (.int ch), .val (.ref r_1), .unset, .unset, .unset] [(.ref r_1)])) rfl rfl (hb hby d3_5) _ ?_
    rw [len_of Sz2 Ng2]
    show Steps p.tables e below (T1.setTop (mkF m 6 #[.val (.int ch), .val (.ref r_1), .unset, .unset, .unset] [(.int (2 : Int32))])) _
    refine XS.istoreN X1.here hx rfl (hb hby d3_6) rfl (l' := #[.val (.int ch), .val (.ref r_1), .val (.int (2 : Int32)), .unset, .unset]) rfl ?_
    show Steps p.tables e below (T1.setTop (mkF m 7 #[.val (.int ch), .val (.ref r_1), .val (.int (2 : Int32)), .unset, .unset] [])) _
    refine XS.iconst X1.here hx rfl (hb hby d3_7) ?_
    show Steps p.tables e below (T1.setTop (mkF m 8 #[.val (.int ch), .val (.ref r_1), .val (.int (2 : Int32)), .unset, .unset] [(.int (0 : Int32))])) _
    refine XS.istoreN X1.here hx rfl (hb hby d3_8) rfl (l' := #[.val (.int ch), .val (.ref r_1), .val (.int (2 : Int32)), .val (.int (0 : Int32)), .unset]) rfl ?_
    show Steps p.tables e below (T1.setTop (mkF m 9 #[.val (.int ch), .val (.ref r_1), .val (.int (2 : Int32)), .val (.int (0 : Int32)), .unset] [])) _
    refine XS.iloadN X1.here hx rfl (hb hby d3_9) rfl ?_
    show Steps p.tables e below (T1.setTop (mkF m 10 #[.val (.int ch), .val (.ref r_1), .val (.int (2 : Int32)), .val (.int (0 : Int32)), .unset] [(.int (0 : Int32))])) _
    refine XS.iloadN X1.here hx rfl (hb hby d3_10) rfl ?_
    show Steps p.tables e below (T1.setTop (mkF m 11 #[.val (.int ch), .val (.ref r_1), .val (.int (2 : Int32)), .val (.int (0 : Int32)), .unset] [(.int (2 : Int32)), (.int (0 : Int32))])) _
    refine XS.icmpNo X1.here hx rfl (hb hby d3_11) rfl (tlt (by decide : (0 : Int32) < (2 : Int32))).2.1 ?_
    show Steps p.tables e below (T1.setTop (mkF m 14 #[.val (.int ch), .val (.ref r_1), .val (.int (2 : Int32)), .val (.int (0 : Int32)), .unset] [])) _
    refine XS.aloadN X1.here hx rfl (hb hby d3_14) rfl rfl ?_
    show Steps p.tables e below (T1.setTop (mkF m 15 #[.val (.int ch), .val (.ref r_1), .val (.int (2 : Int32)), .val (.int (0 : Int32)), .unset] [(.ref r_1)])) _
    refine XS.iloadN X1.here hx rfl (hb hby d3_15) rfl ?_
    show Steps p.tables e below (T1.setTop (mkF m 16 #[.val (.int ch), .val (.ref r_1), .val (.int (2 : Int32)), .val (.int (0 : Int32)), .unset] [(.int (0 : Int32)), (.ref r_1)])) _
    refine X1.aaload hx (j := (0 : Int32)) (v := (.ref wC)) (Ar3.at_ rfl) (State.isArrayOf_alike hZ.alike Ar3.2.1) rfl Ar3.2.2 hin3 hat3 (g := (mkF m 16 #[.val (.int ch), .val (.ref r_1), .val (.int (2 : Int32)), .val (.int (0 : Int32)), .unset] [(.int (0 : Int32)), (.ref r_1)])) rfl rfl (hb hby d3_16) _ ?_
    show Steps p.tables e below (T1.setTop (mkF m 17 #[.val (.int ch), .val (.ref r_1), .val (.int (2 : Int32)), .val (.int (0 : Int32)), .unset] [(.ref wC)])) _
    refine XS.astore X1.here hx rfl (hb hby d3_17) rfl rfl (l' := #[.val (.int ch), .val (.ref r_1), .val (.int (2 : Int32)), .val (.int (0 : Int32)), .val (.ref wC)]) rfl ?_
    show Steps p.tables e below (T1.setTop (mkF m 19 #[.val (.int ch), .val (.ref r_1), .val (.int (2 : Int32)), .val (.int (0 : Int32)), .val (.ref wC)] [])) _
    refine XS.aload X1.here hx rfl (hb hby d3_19) rfl rfl ?_
    show Steps p.tables e below (T1.setTop (mkF m 21 #[.val (.int ch), .val (.ref r_1), .val (.int (2 : Int32)), .val (.int (0 : Int32)), .val (.ref wC)] [(.ref wC)])) _
    refine st4 _ ?_
    show Steps p.tables e below (T4.setTop (mkF m 24 #[.val (.int ch), .val (.ref r_1), .val (.int (2 : Int32)), .val (.int (0 : Int32)), .val (.ref wC)] [(.int (8220 : Int32))])) _
    refine XS.iloadN X4.here hx rfl (hb hby d3_24) rfl ?_
    show Steps p.tables e below (T4.setTop (mkF m 25 #[.val (.int ch), .val (.ref r_1), .val (.int (2 : Int32)), .val (.int (0 : Int32)), .val (.ref wC)] [(.int ch), (.int (8220 : Int32))])) _
    refine XS.icmpNo X4.here hx rfl (hb hby d3_25) rfl (teq (q1 : (8220 : Int32) = ch)).2 ?_
    show Steps p.tables e below (T4.setTop (mkF m 28 #[.val (.int ch), .val (.ref r_1), .val (.int (2 : Int32)), .val (.int (0 : Int32)), .val (.ref wC)] [])) _
    refine XS.aload X4.here hx rfl (hb hby d3_28) rfl rfl ?_
    show Steps p.tables e below (T4.setTop (mkF m 30 #[.val (.int ch), .val (.ref r_1), .val (.int (2 : Int32)), .val (.int (0 : Int32)), .val (.ref wC)] [(.ref wC)])) _
    jvm_step X4.here [X4.here.top, hx, (hb hby d3_30), X4.method', Bd.returns, Value.isRef, FieldType.isReference]
    first | (intro acts; rw [hr _ acts rfl rfl rfl]) | rw [hr _ _ rfl rfl rfl]
    exact Steps.refl _
  · show Q_opC Z ch wV kc wC wS h0 n0 _ T4.heap _
    rw [e4]
    exact ⟨rfl, N1, K1⟩
def Q_opS (Z : State) (ch : Int32) (wV : Addr) (kc : ClassId) (wC : Addr) (wS : Addr) (h0 : Heap) (n0 : Nat) (v : Option Value) (h : Heap) (L : List Loc) : Prop := v = some (.ref wS) ∧ Fr n0 L ∧ Keep h0 h []
theorem d3_31 : decode prog_22_method_4_code 31 = .ok (.iinc 3 1, 3) := by decide +kernel
theorem d3_34 : decode prog_22_method_4_code 34 = .ok (.goto (-25), 3) := by decide +kernel
set_option maxRecDepth 65536 in
set_option maxHeartbeats 40000000 in
theorem opS (l : Launch) (Z : State) (a0 : Array Value) (hw : ∀ d ∈ tables_1, d.before a0 Z = true) (ws : List Jvm.Cond) (ch : Int32) (wV : Addr) (kc : ClassId) (wC : Addr) (wS : Addr) (h0 : Heap) (n0 : Nat) (O0 : Old Z n0 h0) (G0 : Sta Z Z.heap "com/example/recital/recital/amendment/Marks" "$VALUES" "[Lcom/example/recital/recital/amendment/Marks;" (.ref wV)) (G1 : Arv Z Z.heap wV kc (.object "com/example/recital/recital/amendment/Marks") (2 : Int32) [(.ref wC), (.ref wS)] .null) (G2 : Exa Z Z.heap wV "[Lcom/example/recital/recital/amendment/Marks;") (G3 : Fld Z Z.heap wC "com/example/recital/recital/amendment/Marks" "opening" "C" (.int (8220 : Int32))) (G4 : Fld Z Z.heap wS "com/example/recital/recital/amendment/Marks" "opening" "C" (.int (34 : Int32))) (q1 : ¬ ((8220 : Int32) = ch)) (q2 : (34 : Int32) = ch) :
    MetFree l (⟨"com/example/recital/recital/amendment/Marks", "opening", "(C)Lcom/example/recital/recital/amendment/Marks;"⟩ : MethodName) (head1 (Jvm.Cond.code (⟨"com/example/recital/recital/amendment/Marks", "opening", "(C)Lcom/example/recital/recital/amendment/Marks;"⟩ : MethodName) prog_22_method_4_code 5 (some (.object "com/example/recital/recital/amendment/Marks")) :: ws) ({ frames := 2, cells := 1, slots := 2, locals := 25 } : Room)) (fun zA zU => zA = #[(.int ch)] ∧ Z.Warmed39 zU.vm ∧ zU.heap = h0) (fun _ _ _ _ _ => True) (fun _ zU zo zU' => ∃ zv zL, zo = .returned zv ∧ Q_opS Z ch wV kc wC wS h0 n0 zv zU'.heap zL ∧ FrameEnd zU zo zU' zL ({ frames := 2, cells := 1, slots := 2, locals := 25 } : Room).cells ({ frames := 2, cells := 1, slots := 2, locals := 25 } : Room).slots) := by
  refine MetFree.of_bodySF (plainFor_of_name pn_2) hisR ?_
  intro p e s m args below meth c s₁ Bd hml0 hP hK
  obtain ⟨rfl, hZ, hh⟩ := hP
  have hx := Bd.exec
  have hby := Bd.bytes
  have hml : c.maxLocals = 5 := hml0
  have hown : s.vm.findClass "com/example/recital/recital/amendment/Marks" = some m.cls := findClass_of_methodNamed Bd.named
  have hnm := (name_of_methodNamed Bd.named Bd.method).1
  have X0 : Stand p l e ({ frames := 2, cells := 1, slots := 2, locals := 25 } : Room) s m #[(.int ch)] below meth c s₁ [] 0 0 := Stand.of_body Bd
  have e0 : s₁.heap = h0 := by rw [← hh, Bd.state]; rfl
  have N0 := Fr.nil n0
  have Z0 : n0 ≤ h0.size := O0.1 ▸ O0.2.1
  have pre0 : ∀ t, Steps p.tables e below (s₁.setTop (mkF m 0 #[.val (.int ch), .unset, .unset, .unset, .unset] [])) t → Steps p.tables e below (s₁.setTop (entryFrame m #[(.int ch)] 5)) t := fun zt zk => castTop (ef_3_I m ch) zk
  obtain ⟨_, _, ⟨T1, L1, k1, n1⟩, -, X1, ⟨Lc1, hQ1, l1, y1, z1⟩, st1⟩ := Jvm.LawKit.callS X0 hx (y := (⟨"com/example/recital/recital/amendment/Marks", "values", "()[Lcom/example/recital/recital/amendment/Marks;"⟩ : MethodName)) hown (mvT hZ (hw _ (List.mem_of_getElem? (i := 4) rfl))) (mvT hZ (hw _ (List.mem_of_getElem? (i := 5) rfl))) (mvT hZ (hw _ (List.mem_of_getElem? (i := 2) rfl))) (mvT hZ (hw _ (List.mem_of_getElem? (i := 6) rfl))) (by decide) (backOf (W := 0) (vals l Z a0 hw [] wV kc wC wS h0 n0 O0 G0 G1 G2) hZ (hw _ (List.mem_of_getElem? (i := 6) rfl)) (hw _ (List.mem_of_getElem? (i := 2) rfl)) (by decide) (by decide)) (g := (mkF m 0 #[.val (.int ch), .unset, .unset, .unset, .unset] [])) rfl (by rw [hml]; rfl) (argsL := []) (rest := []) (lenOf pd_0 rfl) rfl (by show 2 * 0 + _ ≤ _; exact Nat.le_of_eq rfl) (hb hby d3_0) (fun _ _ => ⟨rfl, e0, (by decide : 0 + 1 ≤ _), (by decide : 0 + 2 ≤ _)⟩)
  dsimp only [Pt.U, Pt.locs, Pt.cells, Pt.slots] at X1 l1 y1 z1 st1 hQ1
  subst l1 y1 z1
  obtain ⟨r_1, rfl, Nq1, kh1, fz_r_1, Po1_0, Po1_1⟩ := hQ1
  have N1 := Fr.app N0 Nq1
  have sz_r_1 : h0.size ≤ r_1 := Nat.le_trans (Keep.refl h0 []).1 fz_r_1
  have g_r_1 : n0 ≤ r_1 := Nat.le_trans Z0 sz_r_1
  have O1 := O0.keep kh1 all0
  have K1 : Keep h0 T1.heap [] := (Keep.refl h0 []).trans kh1 all0
  obtain ⟨cl2, Ar2, -, Sz2, Ng2, -⟩ := (id Po1_0)
  obtain ⟨cl3, Ar3, q3, Sz3, Ng3, Hs3, Gs3⟩ := (id Po1_0)
  have hin3 : ¬ ((0 : Int32) < 0 ∨ cl3.slots.size ≤ ((0 : Int32)).toNatClampNeg) := inb_of Sz3 ⟨by decide, by decide⟩
  have hat3 : cl3.slots[((0 : Int32)).toNatClampNeg]? = some (.ref wC) := Has.at Hs3 hin3 rfl
  obtain ⟨T4, X4, e4, st4⟩ := getF X1 hx hZ hown (host := "") (Or.inl (hw _ (List.mem_of_getElem? (i := 21) rfl))) Via.refl rfl (G3.ext O1.2) (g := (mkF m 21 #[.val (.int ch), .val (.ref r_1), .val (.int (2 : Int32)), .val (.int (0 : Int32)), .val (.ref wC)] [(.ref wC)])) rfl rfl (hb hby d3_21)
  obtain ⟨cl5, Ar5, q5, Sz5, Ng5, Hs5, Gs5⟩ := (id Po1_0)
  have hin5 : ¬ ((1 : Int32) < 0 ∨ cl5.slots.size ≤ ((1 : Int32)).toNatClampNeg) := inb_of Sz5 ⟨by decide, by decide⟩
  have hat5 : cl5.slots[((1 : Int32)).toNatClampNeg]? = some (.ref wS) := Has.at Hs5 hin5 rfl
  obtain ⟨T6, X6, e6, st6⟩ := getF X4 hx hZ hown (host := "") (Or.inl (hw _ (List.mem_of_getElem? (i := 21) rfl))) Via.refl e4 (G4.ext O1.2) (g := (mkF m 21 #[.val (.int ch), .val (.ref r_1), .val (.int (2 : Int32)), .val (.int (1 : Int32)), .val (.ref wS)] [(.ref wS)])) rfl rfl (hb hby d3_21)
  obtain ⟨fs, hr, hrun, hended, hW, hsame⟩ := X6.leave (v := some (.ref wS)) (fun h => by rw [Bd.returns] at h; cases h)
  refine ⟨_, _, pre0 _ ?_, hrun, hended, _, _, rfl, ?_, ⟨_, rfl⟩, hW, hsame.mono (by decide) (by decide)⟩
  · show Steps p.tables e below (s₁.setTop (mkF m 0 #[.val (.int ch), .unset, .unset, .unset, .unset] [])) _
    refine st1 _ ?_
    show Steps p.tables e below (T1.setTop (mkF m 3 #[.val (.int ch), .unset, .unset, .unset, .unset] [(.ref r_1)])) _
    refine XS.astoreN X1.here hx rfl (hb hby d3_3) rfl rfl (l' := #[.val (.int ch), .val (.ref r_1), .unset, .unset, .unset]) rfl ?_
    show Steps p.tables e below (T1.setTop (mkF m 4 #[.val (.int ch), .val (.ref r_1), .unset, .unset, .unset] [])) _
    refine XS.aloadN X1.here hx rfl (hb hby d3_4) rfl rfl ?_
    show Steps p.tables e below (T1.setTop (mkF m 5 #[.val (.int ch), .val (.ref r_1), .unset, .unset, .unset] [(.ref r_1)])) _
    refine X1.arraylength hx (Ar2.at_ rfl) (State.isArrayOf_alike hZ.alike Ar2.2.1) (g := (mkF m 5 #[.val (.int ch), .val (.ref r_1), .unset, .unset, .unset] [(.ref r_1)])) rfl rfl (hb hby d3_5) _ ?_
    rw [len_of Sz2 Ng2]
    show Steps p.tables e below (T1.setTop (mkF m 6 #[.val (.int ch), .val (.ref r_1), .unset, .unset, .unset] [(.int (2 : Int32))])) _
    refine XS.istoreN X1.here hx rfl (hb hby d3_6) rfl (l' := #[.val (.int ch), .val (.ref r_1), .val (.int (2 : Int32)), .unset, .unset]) rfl ?_
    show Steps p.tables e below (T1.setTop (mkF m 7 #[.val (.int ch), .val (.ref r_1), .val (.int (2 : Int32)), .unset, .unset] [])) _
    refine XS.iconst X1.here hx rfl (hb hby d3_7) ?_
    show Steps p.tables e below (T1.setTop (mkF m 8 #[.val (.int ch), .val (.ref r_1), .val (.int (2 : Int32)), .unset, .unset] [(.int (0 : Int32))])) _
    refine XS.istoreN X1.here hx rfl (hb hby d3_8) rfl (l' := #[.val (.int ch), .val (.ref r_1), .val (.int (2 : Int32)), .val (.int (0 : Int32)), .unset]) rfl ?_
    show Steps p.tables e below (T1.setTop (mkF m 9 #[.val (.int ch), .val (.ref r_1), .val (.int (2 : Int32)), .val (.int (0 : Int32)), .unset] [])) _
    refine XS.iloadN X1.here hx rfl (hb hby d3_9) rfl ?_
    show Steps p.tables e below (T1.setTop (mkF m 10 #[.val (.int ch), .val (.ref r_1), .val (.int (2 : Int32)), .val (.int (0 : Int32)), .unset] [(.int (0 : Int32))])) _
    refine XS.iloadN X1.here hx rfl (hb hby d3_10) rfl ?_
    show Steps p.tables e below (T1.setTop (mkF m 11 #[.val (.int ch), .val (.ref r_1), .val (.int (2 : Int32)), .val (.int (0 : Int32)), .unset] [(.int (2 : Int32)), (.int (0 : Int32))])) _
    refine XS.icmpNo X1.here hx rfl (hb hby d3_11) rfl (tlt (by decide : (0 : Int32) < (2 : Int32))).2.1 ?_
    show Steps p.tables e below (T1.setTop (mkF m 14 #[.val (.int ch), .val (.ref r_1), .val (.int (2 : Int32)), .val (.int (0 : Int32)), .unset] [])) _
    refine XS.aloadN X1.here hx rfl (hb hby d3_14) rfl rfl ?_
    show Steps p.tables e below (T1.setTop (mkF m 15 #[.val (.int ch), .val (.ref r_1), .val (.int (2 : Int32)), .val (.int (0 : Int32)), .unset] [(.ref r_1)])) _
    refine XS.iloadN X1.here hx rfl (hb hby d3_15) rfl ?_
    show Steps p.tables e below (T1.setTop (mkF m 16 #[.val (.int ch), .val (.ref r_1), .val (.int (2 : Int32)), .val (.int (0 : Int32)), .unset] [(.int (0 : Int32)), (.ref r_1)])) _
    refine X1.aaload hx (j := (0 : Int32)) (v := (.ref wC)) (Ar3.at_ rfl) (State.isArrayOf_alike hZ.alike Ar3.2.1) rfl Ar3.2.2 hin3 hat3 (g := (mkF m 16 #[.val (.int ch), .val (.ref r_1), .val (.int (2 : Int32)), .val (.int (0 : Int32)), .unset] [(.int (0 : Int32)), (.ref r_1)])) rfl rfl (hb hby d3_16) _ ?_
    show Steps p.tables e below (T1.setTop (mkF m 17 #[.val (.int ch), .val (.ref r_1), .val (.int (2 : Int32)), .val (.int (0 : Int32)), .unset] [(.ref wC)])) _
    refine XS.astore X1.here hx rfl (hb hby d3_17) rfl rfl (l' := #[.val (.int ch), .val (.ref r_1), .val (.int (2 : Int32)), .val (.int (0 : Int32)), .val (.ref wC)]) rfl ?_
    show Steps p.tables e below (T1.setTop (mkF m 19 #[.val (.int ch), .val (.ref r_1), .val (.int (2 : Int32)), .val (.int (0 : Int32)), .val (.ref wC)] [])) _
    refine XS.aload X1.here hx rfl (hb hby d3_19) rfl rfl ?_
    show Steps p.tables e below (T1.setTop (mkF m 21 #[.val (.int ch), .val (.ref r_1), .val (.int (2 : Int32)), .val (.int (0 : Int32)), .val (.ref wC)] [(.ref wC)])) _
    refine st4 _ ?_
    show Steps p.tables e below (T4.setTop (mkF m 24 #[.val (.int ch), .val (.ref r_1), .val (.int (2 : Int32)), .val (.int (0 : Int32)), .val (.ref wC)] [(.int (8220 : Int32))])) _
    refine XS.iloadN X4.here hx rfl (hb hby d3_24) rfl ?_
    show Steps p.tables e below (T4.setTop (mkF m 25 #[.val (.int ch), .val (.ref r_1), .val (.int (2 : Int32)), .val (.int (0 : Int32)), .val (.ref wC)] [(.int ch), (.int (8220 : Int32))])) _
    refine XS.icmpYes X4.here hx rfl (pc0 := 25) (pc' := 31) rfl (hb hby d3_25) rfl (feq (q1 : ¬ ((8220 : Int32) = ch))).2 (by decide) (by decide) ?_
    show Steps p.tables e below (T4.setTop (mkF m 31 #[.val (.int ch), .val (.ref r_1), .val (.int (2 : Int32)), .val (.int (0 : Int32)), .val (.ref wC)] [])) _
    refine XS.iinc X4.here hx rfl (hb hby d3_31) rfl (l' := #[.val (.int ch), .val (.ref r_1), .val (.int (2 : Int32)), .val (.int (1 : Int32)), .val (.ref wC)]) rfl ?_
    show Steps p.tables e below (T4.setTop (mkF m 34 #[.val (.int ch), .val (.ref r_1), .val (.int (2 : Int32)), .val (.int (1 : Int32)), .val (.ref wC)] [])) _
    refine XS.goto X4.here hx rfl (pc0 := 34) (pc' := 9) rfl (hb hby d3_34) (by decide) (by decide) ?_
    show Steps p.tables e below (T4.setTop (mkF m 9 #[.val (.int ch), .val (.ref r_1), .val (.int (2 : Int32)), .val (.int (1 : Int32)), .val (.ref wC)] [])) _
    refine XS.iloadN X4.here hx rfl (hb hby d3_9) rfl ?_
    show Steps p.tables e below (T4.setTop (mkF m 10 #[.val (.int ch), .val (.ref r_1), .val (.int (2 : Int32)), .val (.int (1 : Int32)), .val (.ref wC)] [(.int (1 : Int32))])) _
    refine XS.iloadN X4.here hx rfl (hb hby d3_10) rfl ?_
    show Steps p.tables e below (T4.setTop (mkF m 11 #[.val (.int ch), .val (.ref r_1), .val (.int (2 : Int32)), .val (.int (1 : Int32)), .val (.ref wC)] [(.int (2 : Int32)), (.int (1 : Int32))])) _
    refine XS.icmpNo X4.here hx rfl (hb hby d3_11) rfl (tlt (by decide : (1 : Int32) < (2 : Int32))).2.1 ?_
    show Steps p.tables e below (T4.setTop (mkF m 14 #[.val (.int ch), .val (.ref r_1), .val (.int (2 : Int32)), .val (.int (1 : Int32)), .val (.ref wC)] [])) _
    refine XS.aloadN X4.here hx rfl (hb hby d3_14) rfl rfl ?_
    show Steps p.tables e below (T4.setTop (mkF m 15 #[.val (.int ch), .val (.ref r_1), .val (.int (2 : Int32)), .val (.int (1 : Int32)), .val (.ref wC)] [(.ref r_1)])) _
    refine XS.iloadN X4.here hx rfl (hb hby d3_15) rfl ?_
    show Steps p.tables e below (T4.setTop (mkF m 16 #[.val (.int ch), .val (.ref r_1), .val (.int (2 : Int32)), .val (.int (1 : Int32)), .val (.ref wC)] [(.int (1 : Int32)), (.ref r_1)])) _
    refine X4.aaload hx (j := (1 : Int32)) (v := (.ref wS)) (Ar5.at_ e4) (State.isArrayOf_alike hZ.alike Ar5.2.1) rfl Ar5.2.2 hin5 hat5 (g := (mkF m 16 #[.val (.int ch), .val (.ref r_1), .val (.int (2 : Int32)), .val (.int (1 : Int32)), .val (.ref wC)] [(.int (1 : Int32)), (.ref r_1)])) rfl rfl (hb hby d3_16) _ ?_
    show Steps p.tables e below (T4.setTop (mkF m 17 #[.val (.int ch), .val (.ref r_1), .val (.int (2 : Int32)), .val (.int (1 : Int32)), .val (.ref wC)] [(.ref wS)])) _
    refine XS.astore X4.here hx rfl (hb hby d3_17) rfl rfl (l' := #[.val (.int ch), .val (.ref r_1), .val (.int (2 : Int32)), .val (.int (1 : Int32)), .val (.ref wS)]) rfl ?_
    show Steps p.tables e below (T4.setTop (mkF m 19 #[.val (.int ch), .val (.ref r_1), .val (.int (2 : Int32)), .val (.int (1 : Int32)), .val (.ref wS)] [])) _
    refine XS.aload X4.here hx rfl (hb hby d3_19) rfl rfl ?_
    show Steps p.tables e below (T4.setTop (mkF m 21 #[.val (.int ch), .val (.ref r_1), .val (.int (2 : Int32)), .val (.int (1 : Int32)), .val (.ref wS)] [(.ref wS)])) _
    refine st6 _ ?_
    show Steps p.tables e below (T6.setTop (mkF m 24 #[.val (.int ch), .val (.ref r_1), .val (.int (2 : Int32)), .val (.int (1 : Int32)), .val (.ref wS)] [(.int (34 : Int32))])) _
    refine XS.iloadN X6.here hx rfl (hb hby d3_24) rfl ?_
    show Steps p.tables e below (T6.setTop (mkF m 25 #[.val (.int ch), .val (.ref r_1), .val (.int (2 : Int32)), .val (.int (1 : Int32)), .val (.ref wS)] [(.int ch), (.int (34 : Int32))])) _
    refine XS.icmpNo X6.here hx rfl (hb hby d3_25) rfl (teq (q2 : (34 : Int32) = ch)).2 ?_
    show Steps p.tables e below (T6.setTop (mkF m 28 #[.val (.int ch), .val (.ref r_1), .val (.int (2 : Int32)), .val (.int (1 : Int32)), .val (.ref wS)] [])) _
    refine XS.aload X6.here hx rfl (hb hby d3_28) rfl rfl ?_
    show Steps p.tables e below (T6.setTop (mkF m 30 #[.val (.int ch), .val (.ref r_1), .val (.int (2 : Int32)), .val (.int (1 : Int32)), .val (.ref wS)] [(.ref wS)])) _
    jvm_step X6.here [X6.here.top, hx, (hb hby d3_30), X6.method', Bd.returns, Value.isRef, FieldType.isReference]
    first | (intro acts; rw [hr _ acts rfl rfl rfl]) | rw [hr _ _ rfl rfl rfl]
    exact Steps.refl _
  · show Q_opS Z ch wV kc wC wS h0 n0 _ T6.heap _
    rw [e6]
    exact ⟨rfl, N1, K1⟩
def Q_opN (Z : State) (ch : Int32) (wV : Addr) (kc : ClassId) (wC : Addr) (wS : Addr) (h0 : Heap) (n0 : Nat) (v : Option Value) (h : Heap) (L : List Loc) : Prop := v = some .null ∧ Fr n0 L ∧ Keep h0 h []
theorem d3_37 : decode prog_22_method_4_code 37 = .ok (.aconst_null, 1) := by decide +kernel
theorem d3_38 : decode prog_22_method_4_code 38 = .ok (.areturn, 1) := by decide +kernel
set_option maxRecDepth 65536 in
set_option maxHeartbeats 40000000 in
theorem opN (l : Launch) (Z : State) (a0 : Array Value) (hw : ∀ d ∈ tables_1, d.before a0 Z = true) (ws : List Jvm.Cond) (ch : Int32) (wV : Addr) (kc : ClassId) (wC : Addr) (wS : Addr) (h0 : Heap) (n0 : Nat) (O0 : Old Z n0 h0) (G0 : Sta Z Z.heap "com/example/recital/recital/amendment/Marks" "$VALUES" "[Lcom/example/recital/recital/amendment/Marks;" (.ref wV)) (G1 : Arv Z Z.heap wV kc (.object "com/example/recital/recital/amendment/Marks") (2 : Int32) [(.ref wC), (.ref wS)] .null) (G2 : Exa Z Z.heap wV "[Lcom/example/recital/recital/amendment/Marks;") (G3 : Fld Z Z.heap wC "com/example/recital/recital/amendment/Marks" "opening" "C" (.int (8220 : Int32))) (G4 : Fld Z Z.heap wS "com/example/recital/recital/amendment/Marks" "opening" "C" (.int (34 : Int32))) (q1 : ¬ ((8220 : Int32) = ch)) (q2 : ¬ ((34 : Int32) = ch)) :
    MetFree l (⟨"com/example/recital/recital/amendment/Marks", "opening", "(C)Lcom/example/recital/recital/amendment/Marks;"⟩ : MethodName) (head1 (Jvm.Cond.code (⟨"com/example/recital/recital/amendment/Marks", "opening", "(C)Lcom/example/recital/recital/amendment/Marks;"⟩ : MethodName) prog_22_method_4_code 5 (some (.object "com/example/recital/recital/amendment/Marks")) :: ws) ({ frames := 2, cells := 1, slots := 2, locals := 25 } : Room)) (fun zA zU => zA = #[(.int ch)] ∧ Z.Warmed39 zU.vm ∧ zU.heap = h0) (fun _ _ _ _ _ => True) (fun _ zU zo zU' => ∃ zv zL, zo = .returned zv ∧ Q_opN Z ch wV kc wC wS h0 n0 zv zU'.heap zL ∧ FrameEnd zU zo zU' zL ({ frames := 2, cells := 1, slots := 2, locals := 25 } : Room).cells ({ frames := 2, cells := 1, slots := 2, locals := 25 } : Room).slots) := by
  refine MetFree.of_bodySF (plainFor_of_name pn_2) hisR ?_
  intro p e s m args below meth c s₁ Bd hml0 hP hK
  obtain ⟨rfl, hZ, hh⟩ := hP
  have hx := Bd.exec
  have hby := Bd.bytes
  have hml : c.maxLocals = 5 := hml0
  have hown : s.vm.findClass "com/example/recital/recital/amendment/Marks" = some m.cls := findClass_of_methodNamed Bd.named
  have hnm := (name_of_methodNamed Bd.named Bd.method).1
  have X0 : Stand p l e ({ frames := 2, cells := 1, slots := 2, locals := 25 } : Room) s m #[(.int ch)] below meth c s₁ [] 0 0 := Stand.of_body Bd
  have e0 : s₁.heap = h0 := by rw [← hh, Bd.state]; rfl
  have N0 := Fr.nil n0
  have Z0 : n0 ≤ h0.size := O0.1 ▸ O0.2.1
  have pre0 : ∀ t, Steps p.tables e below (s₁.setTop (mkF m 0 #[.val (.int ch), .unset, .unset, .unset, .unset] [])) t → Steps p.tables e below (s₁.setTop (entryFrame m #[(.int ch)] 5)) t := fun zt zk => castTop (ef_3_I m ch) zk
  obtain ⟨_, _, ⟨T1, L1, k1, n1⟩, -, X1, ⟨Lc1, hQ1, l1, y1, z1⟩, st1⟩ := Jvm.LawKit.callS X0 hx (y := (⟨"com/example/recital/recital/amendment/Marks", "values", "()[Lcom/example/recital/recital/amendment/Marks;"⟩ : MethodName)) hown (mvT hZ (hw _ (List.mem_of_getElem? (i := 4) rfl))) (mvT hZ (hw _ (List.mem_of_getElem? (i := 5) rfl))) (mvT hZ (hw _ (List.mem_of_getElem? (i := 2) rfl))) (mvT hZ (hw _ (List.mem_of_getElem? (i := 6) rfl))) (by decide) (backOf (W := 0) (vals l Z a0 hw [] wV kc wC wS h0 n0 O0 G0 G1 G2) hZ (hw _ (List.mem_of_getElem? (i := 6) rfl)) (hw _ (List.mem_of_getElem? (i := 2) rfl)) (by decide) (by decide)) (g := (mkF m 0 #[.val (.int ch), .unset, .unset, .unset, .unset] [])) rfl (by rw [hml]; rfl) (argsL := []) (rest := []) (lenOf pd_0 rfl) rfl (by show 2 * 0 + _ ≤ _; exact Nat.le_of_eq rfl) (hb hby d3_0) (fun _ _ => ⟨rfl, e0, (by decide : 0 + 1 ≤ _), (by decide : 0 + 2 ≤ _)⟩)
  dsimp only [Pt.U, Pt.locs, Pt.cells, Pt.slots] at X1 l1 y1 z1 st1 hQ1
  subst l1 y1 z1
  obtain ⟨r_1, rfl, Nq1, kh1, fz_r_1, Po1_0, Po1_1⟩ := hQ1
  have N1 := Fr.app N0 Nq1
  have sz_r_1 : h0.size ≤ r_1 := Nat.le_trans (Keep.refl h0 []).1 fz_r_1
  have g_r_1 : n0 ≤ r_1 := Nat.le_trans Z0 sz_r_1
  have O1 := O0.keep kh1 all0
  have K1 : Keep h0 T1.heap [] := (Keep.refl h0 []).trans kh1 all0
  obtain ⟨cl2, Ar2, -, Sz2, Ng2, -⟩ := (id Po1_0)
  obtain ⟨cl3, Ar3, q3, Sz3, Ng3, Hs3, Gs3⟩ := (id Po1_0)
  have hin3 : ¬ ((0 : Int32) < 0 ∨ cl3.slots.size ≤ ((0 : Int32)).toNatClampNeg) := inb_of Sz3 ⟨by decide, by decide⟩
  have hat3 : cl3.slots[((0 : Int32)).toNatClampNeg]? = some (.ref wC) := Has.at Hs3 hin3 rfl
  obtain ⟨T4, X4, e4, st4⟩ := getF X1 hx hZ hown (host := "") (Or.inl (hw _ (List.mem_of_getElem? (i := 21) rfl))) Via.refl rfl (G3.ext O1.2) (g := (mkF m 21 #[.val (.int ch), .val (.ref r_1), .val (.int (2 : Int32)), .val (.int (0 : Int32)), .val (.ref wC)] [(.ref wC)])) rfl rfl (hb hby d3_21)
  obtain ⟨cl5, Ar5, q5, Sz5, Ng5, Hs5, Gs5⟩ := (id Po1_0)
  have hin5 : ¬ ((1 : Int32) < 0 ∨ cl5.slots.size ≤ ((1 : Int32)).toNatClampNeg) := inb_of Sz5 ⟨by decide, by decide⟩
  have hat5 : cl5.slots[((1 : Int32)).toNatClampNeg]? = some (.ref wS) := Has.at Hs5 hin5 rfl
  obtain ⟨T6, X6, e6, st6⟩ := getF X4 hx hZ hown (host := "") (Or.inl (hw _ (List.mem_of_getElem? (i := 21) rfl))) Via.refl e4 (G4.ext O1.2) (g := (mkF m 21 #[.val (.int ch), .val (.ref r_1), .val (.int (2 : Int32)), .val (.int (1 : Int32)), .val (.ref wS)] [(.ref wS)])) rfl rfl (hb hby d3_21)
  obtain ⟨fs, hr, hrun, hended, hW, hsame⟩ := X6.leave (v := some .null) (fun h => by rw [Bd.returns] at h; cases h)
  refine ⟨_, _, pre0 _ ?_, hrun, hended, _, _, rfl, ?_, ⟨_, rfl⟩, hW, hsame.mono (by decide) (by decide)⟩
  · show Steps p.tables e below (s₁.setTop (mkF m 0 #[.val (.int ch), .unset, .unset, .unset, .unset] [])) _
    refine st1 _ ?_
    show Steps p.tables e below (T1.setTop (mkF m 3 #[.val (.int ch), .unset, .unset, .unset, .unset] [(.ref r_1)])) _
    refine XS.astoreN X1.here hx rfl (hb hby d3_3) rfl rfl (l' := #[.val (.int ch), .val (.ref r_1), .unset, .unset, .unset]) rfl ?_
    show Steps p.tables e below (T1.setTop (mkF m 4 #[.val (.int ch), .val (.ref r_1), .unset, .unset, .unset] [])) _
    refine XS.aloadN X1.here hx rfl (hb hby d3_4) rfl rfl ?_
    show Steps p.tables e below (T1.setTop (mkF m 5 #[.val (.int ch), .val (.ref r_1), .unset, .unset, .unset] [(.ref r_1)])) _
    refine X1.arraylength hx (Ar2.at_ rfl) (State.isArrayOf_alike hZ.alike Ar2.2.1) (g := (mkF m 5 #[.val (.int ch), .val (.ref r_1), .unset, .unset, .unset] [(.ref r_1)])) rfl rfl (hb hby d3_5) _ ?_
    rw [len_of Sz2 Ng2]
    show Steps p.tables e below (T1.setTop (mkF m 6 #[.val (.int ch), .val (.ref r_1), .unset, .unset, .unset] [(.int (2 : Int32))])) _
    refine XS.istoreN X1.here hx rfl (hb hby d3_6) rfl (l' := #[.val (.int ch), .val (.ref r_1), .val (.int (2 : Int32)), .unset, .unset]) rfl ?_
    show Steps p.tables e below (T1.setTop (mkF m 7 #[.val (.int ch), .val (.ref r_1), .val (.int (2 : Int32)), .unset, .unset] [])) _
    refine XS.iconst X1.here hx rfl (hb hby d3_7) ?_
    show Steps p.tables e below (T1.setTop (mkF m 8 #[.val (.int ch), .val (.ref r_1), .val (.int (2 : Int32)), .unset, .unset] [(.int (0 : Int32))])) _
    refine XS.istoreN X1.here hx rfl (hb hby d3_8) rfl (l' := #[.val (.int ch), .val (.ref r_1), .val (.int (2 : Int32)), .val (.int (0 : Int32)), .unset]) rfl ?_
    show Steps p.tables e below (T1.setTop (mkF m 9 #[.val (.int ch), .val (.ref r_1), .val (.int (2 : Int32)), .val (.int (0 : Int32)), .unset] [])) _
    refine XS.iloadN X1.here hx rfl (hb hby d3_9) rfl ?_
    show Steps p.tables e below (T1.setTop (mkF m 10 #[.val (.int ch), .val (.ref r_1), .val (.int (2 : Int32)), .val (.int (0 : Int32)), .unset] [(.int (0 : Int32))])) _
    refine XS.iloadN X1.here hx rfl (hb hby d3_10) rfl ?_
    show Steps p.tables e below (T1.setTop (mkF m 11 #[.val (.int ch), .val (.ref r_1), .val (.int (2 : Int32)), .val (.int (0 : Int32)), .unset] [(.int (2 : Int32)), (.int (0 : Int32))])) _
    refine XS.icmpNo X1.here hx rfl (hb hby d3_11) rfl (tlt (by decide : (0 : Int32) < (2 : Int32))).2.1 ?_
    show Steps p.tables e below (T1.setTop (mkF m 14 #[.val (.int ch), .val (.ref r_1), .val (.int (2 : Int32)), .val (.int (0 : Int32)), .unset] [])) _
    refine XS.aloadN X1.here hx rfl (hb hby d3_14) rfl rfl ?_
    show Steps p.tables e below (T1.setTop (mkF m 15 #[.val (.int ch), .val (.ref r_1), .val (.int (2 : Int32)), .val (.int (0 : Int32)), .unset] [(.ref r_1)])) _
    refine XS.iloadN X1.here hx rfl (hb hby d3_15) rfl ?_
    show Steps p.tables e below (T1.setTop (mkF m 16 #[.val (.int ch), .val (.ref r_1), .val (.int (2 : Int32)), .val (.int (0 : Int32)), .unset] [(.int (0 : Int32)), (.ref r_1)])) _
    refine X1.aaload hx (j := (0 : Int32)) (v := (.ref wC)) (Ar3.at_ rfl) (State.isArrayOf_alike hZ.alike Ar3.2.1) rfl Ar3.2.2 hin3 hat3 (g := (mkF m 16 #[.val (.int ch), .val (.ref r_1), .val (.int (2 : Int32)), .val (.int (0 : Int32)), .unset] [(.int (0 : Int32)), (.ref r_1)])) rfl rfl (hb hby d3_16) _ ?_
    show Steps p.tables e below (T1.setTop (mkF m 17 #[.val (.int ch), .val (.ref r_1), .val (.int (2 : Int32)), .val (.int (0 : Int32)), .unset] [(.ref wC)])) _
    refine XS.astore X1.here hx rfl (hb hby d3_17) rfl rfl (l' := #[.val (.int ch), .val (.ref r_1), .val (.int (2 : Int32)), .val (.int (0 : Int32)), .val (.ref wC)]) rfl ?_
    show Steps p.tables e below (T1.setTop (mkF m 19 #[.val (.int ch), .val (.ref r_1), .val (.int (2 : Int32)), .val (.int (0 : Int32)), .val (.ref wC)] [])) _
    refine XS.aload X1.here hx rfl (hb hby d3_19) rfl rfl ?_
    show Steps p.tables e below (T1.setTop (mkF m 21 #[.val (.int ch), .val (.ref r_1), .val (.int (2 : Int32)), .val (.int (0 : Int32)), .val (.ref wC)] [(.ref wC)])) _
    refine st4 _ ?_
    show Steps p.tables e below (T4.setTop (mkF m 24 #[.val (.int ch), .val (.ref r_1), .val (.int (2 : Int32)), .val (.int (0 : Int32)), .val (.ref wC)] [(.int (8220 : Int32))])) _
    refine XS.iloadN X4.here hx rfl (hb hby d3_24) rfl ?_
    show Steps p.tables e below (T4.setTop (mkF m 25 #[.val (.int ch), .val (.ref r_1), .val (.int (2 : Int32)), .val (.int (0 : Int32)), .val (.ref wC)] [(.int ch), (.int (8220 : Int32))])) _
    refine XS.icmpYes X4.here hx rfl (pc0 := 25) (pc' := 31) rfl (hb hby d3_25) rfl (feq (q1 : ¬ ((8220 : Int32) = ch))).2 (by decide) (by decide) ?_
    show Steps p.tables e below (T4.setTop (mkF m 31 #[.val (.int ch), .val (.ref r_1), .val (.int (2 : Int32)), .val (.int (0 : Int32)), .val (.ref wC)] [])) _
    refine XS.iinc X4.here hx rfl (hb hby d3_31) rfl (l' := #[.val (.int ch), .val (.ref r_1), .val (.int (2 : Int32)), .val (.int (1 : Int32)), .val (.ref wC)]) rfl ?_
    show Steps p.tables e below (T4.setTop (mkF m 34 #[.val (.int ch), .val (.ref r_1), .val (.int (2 : Int32)), .val (.int (1 : Int32)), .val (.ref wC)] [])) _
    refine XS.goto X4.here hx rfl (pc0 := 34) (pc' := 9) rfl (hb hby d3_34) (by decide) (by decide) ?_
    show Steps p.tables e below (T4.setTop (mkF m 9 #[.val (.int ch), .val (.ref r_1), .val (.int (2 : Int32)), .val (.int (1 : Int32)), .val (.ref wC)] [])) _
    refine XS.iloadN X4.here hx rfl (hb hby d3_9) rfl ?_
    show Steps p.tables e below (T4.setTop (mkF m 10 #[.val (.int ch), .val (.ref r_1), .val (.int (2 : Int32)), .val (.int (1 : Int32)), .val (.ref wC)] [(.int (1 : Int32))])) _
    refine XS.iloadN X4.here hx rfl (hb hby d3_10) rfl ?_
    show Steps p.tables e below (T4.setTop (mkF m 11 #[.val (.int ch), .val (.ref r_1), .val (.int (2 : Int32)), .val (.int (1 : Int32)), .val (.ref wC)] [(.int (2 : Int32)), (.int (1 : Int32))])) _
    refine XS.icmpNo X4.here hx rfl (hb hby d3_11) rfl (tlt (by decide : (1 : Int32) < (2 : Int32))).2.1 ?_
    show Steps p.tables e below (T4.setTop (mkF m 14 #[.val (.int ch), .val (.ref r_1), .val (.int (2 : Int32)), .val (.int (1 : Int32)), .val (.ref wC)] [])) _
    refine XS.aloadN X4.here hx rfl (hb hby d3_14) rfl rfl ?_
    show Steps p.tables e below (T4.setTop (mkF m 15 #[.val (.int ch), .val (.ref r_1), .val (.int (2 : Int32)), .val (.int (1 : Int32)), .val (.ref wC)] [(.ref r_1)])) _
    refine XS.iloadN X4.here hx rfl (hb hby d3_15) rfl ?_
    show Steps p.tables e below (T4.setTop (mkF m 16 #[.val (.int ch), .val (.ref r_1), .val (.int (2 : Int32)), .val (.int (1 : Int32)), .val (.ref wC)] [(.int (1 : Int32)), (.ref r_1)])) _
    refine X4.aaload hx (j := (1 : Int32)) (v := (.ref wS)) (Ar5.at_ e4) (State.isArrayOf_alike hZ.alike Ar5.2.1) rfl Ar5.2.2 hin5 hat5 (g := (mkF m 16 #[.val (.int ch), .val (.ref r_1), .val (.int (2 : Int32)), .val (.int (1 : Int32)), .val (.ref wC)] [(.int (1 : Int32)), (.ref r_1)])) rfl rfl (hb hby d3_16) _ ?_
    show Steps p.tables e below (T4.setTop (mkF m 17 #[.val (.int ch), .val (.ref r_1), .val (.int (2 : Int32)), .val (.int (1 : Int32)), .val (.ref wC)] [(.ref wS)])) _
    refine XS.astore X4.here hx rfl (hb hby d3_17) rfl rfl (l' := #[.val (.int ch), .val (.ref r_1), .val (.int (2 : Int32)), .val (.int (1 : Int32)), .val (.ref wS)]) rfl ?_
    show Steps p.tables e below (T4.setTop (mkF m 19 #[.val (.int ch), .val (.ref r_1), .val (.int (2 : Int32)), .val (.int (1 : Int32)), .val (.ref wS)] [])) _
    refine XS.aload X4.here hx rfl (hb hby d3_19) rfl rfl ?_
    show Steps p.tables e below (T4.setTop (mkF m 21 #[.val (.int ch), .val (.ref r_1), .val (.int (2 : Int32)), .val (.int (1 : Int32)), .val (.ref wS)] [(.ref wS)])) _
    refine st6 _ ?_
    show Steps p.tables e below (T6.setTop (mkF m 24 #[.val (.int ch), .val (.ref r_1), .val (.int (2 : Int32)), .val (.int (1 : Int32)), .val (.ref wS)] [(.int (34 : Int32))])) _
    refine XS.iloadN X6.here hx rfl (hb hby d3_24) rfl ?_
    show Steps p.tables e below (T6.setTop (mkF m 25 #[.val (.int ch), .val (.ref r_1), .val (.int (2 : Int32)), .val (.int (1 : Int32)), .val (.ref wS)] [(.int ch), (.int (34 : Int32))])) _
    refine XS.icmpYes X6.here hx rfl (pc0 := 25) (pc' := 31) rfl (hb hby d3_25) rfl (feq (q2 : ¬ ((34 : Int32) = ch))).2 (by decide) (by decide) ?_
    show Steps p.tables e below (T6.setTop (mkF m 31 #[.val (.int ch), .val (.ref r_1), .val (.int (2 : Int32)), .val (.int (1 : Int32)), .val (.ref wS)] [])) _
    refine XS.iinc X6.here hx rfl (hb hby d3_31) rfl (l' := #[.val (.int ch), .val (.ref r_1), .val (.int (2 : Int32)), .val (.int (2 : Int32)), .val (.ref wS)]) rfl ?_
    show Steps p.tables e below (T6.setTop (mkF m 34 #[.val (.int ch), .val (.ref r_1), .val (.int (2 : Int32)), .val (.int (2 : Int32)), .val (.ref wS)] [])) _
    refine XS.goto X6.here hx rfl (pc0 := 34) (pc' := 9) rfl (hb hby d3_34) (by decide) (by decide) ?_
    show Steps p.tables e below (T6.setTop (mkF m 9 #[.val (.int ch), .val (.ref r_1), .val (.int (2 : Int32)), .val (.int (2 : Int32)), .val (.ref wS)] [])) _
    refine XS.iloadN X6.here hx rfl (hb hby d3_9) rfl ?_
    show Steps p.tables e below (T6.setTop (mkF m 10 #[.val (.int ch), .val (.ref r_1), .val (.int (2 : Int32)), .val (.int (2 : Int32)), .val (.ref wS)] [(.int (2 : Int32))])) _
    refine XS.iloadN X6.here hx rfl (hb hby d3_10) rfl ?_
    show Steps p.tables e below (T6.setTop (mkF m 11 #[.val (.int ch), .val (.ref r_1), .val (.int (2 : Int32)), .val (.int (2 : Int32)), .val (.ref wS)] [(.int (2 : Int32)), (.int (2 : Int32))])) _
    refine XS.icmpYes X6.here hx rfl (pc0 := 11) (pc' := 37) rfl (hb hby d3_11) rfl (flt (by decide : ¬ ((2 : Int32) < (2 : Int32)))).2.1 (by decide) (by decide) ?_
    show Steps p.tables e below (T6.setTop (mkF m 37 #[.val (.int ch), .val (.ref r_1), .val (.int (2 : Int32)), .val (.int (2 : Int32)), .val (.ref wS)] [])) _
    refine XS.aconstNull X6.here hx rfl (hb hby d3_37) ?_
    show Steps p.tables e below (T6.setTop (mkF m 38 #[.val (.int ch), .val (.ref r_1), .val (.int (2 : Int32)), .val (.int (2 : Int32)), .val (.ref wS)] [.null])) _
    jvm_step X6.here [X6.here.top, hx, (hb hby d3_38), X6.method', Bd.returns, Value.isRef, FieldType.isReference]
    first | (intro acts; rw [hr _ acts rfl rfl rfl]) | rw [hr _ _ rfl rfl rfl]
    exact Steps.refl _
  · show Q_opN Z ch wV kc wC wS h0 n0 _ T6.heap _
    rw [e6]
    exact ⟨rfl, N1, K1⟩
def Q_law (Z : State) (pi : Int32) (xi : Int32) (wV : Addr) (kc : ClassId) (wC : Addr) (wS : Addr) (h0 : Heap) (n0 : Nat) (v : Option Value) (h : Heap) (L : List Loc) : Prop := v = some (.int (1 : Int32)) ∧ Fr n0 L
theorem pd_1 : parseMethodDescriptor "(C)Lcom/example/recital/recital/amendment/Marks;" = some ⟨[.char], some (.object "com/example/recital/recital/amendment/Marks")⟩ := by decide +kernel
theorem pn_4 : plainName "com/example/recital/recital/amendment/MarksOpeningPinLaw" = true := by first | (simp [plainName, overriddenIn]; done) | decide +kernel
theorem ef_0_II (m : MethodId) (x0 : Int32) (x1 : Int32) : entryFrame m #[(.int x0), (.int x1)] maxLocals = mkF m 0 #[.val (.int x0), .val (.int x1), .unset, .unset, .unset, .unset] [] := by first | (simp [entryFrame, mkF, argsToLocals, Value.category, maxLocals]; done) | rfl
set_option maxRecDepth 65536 in
set_option maxHeartbeats 40000000 in
theorem law_0 (l : Launch) (Z : State) (a0 : Array Value) (hw : ∀ d ∈ tables_1, d.before a0 Z = true) (ws : List Jvm.Cond) (pi : Int32) (xi : Int32) (wV : Addr) (kc : ClassId) (wC : Addr) (wS : Addr) (h0 : Heap) (n0 : Nat) (O0 : Old Z n0 h0) (G0 : Sta Z Z.heap "com/example/recital/recital/amendment/Marks" "$VALUES" "[Lcom/example/recital/recital/amendment/Marks;" (.ref wV)) (G1 : Arv Z Z.heap wV kc (.object "com/example/recital/recital/amendment/Marks") (2 : Int32) [(.ref wC), (.ref wS)] .null) (G2 : Exa Z Z.heap wV "[Lcom/example/recital/recital/amendment/Marks;") (G3 : Fld Z Z.heap wC "com/example/recital/recital/amendment/Marks" "opening" "C" (.int (8220 : Int32))) (G4 : Fld Z Z.heap wS "com/example/recital/recital/amendment/Marks" "opening" "C" (.int (34 : Int32))) (G5 : Sta Z Z.heap "com/example/recital/recital/amendment/Marks" "CURLY" "Lcom/example/recital/recital/amendment/Marks;" (.ref wC)) (G6 : Sta Z Z.heap "com/example/recital/recital/amendment/Marks" "STRAIGHT" "Lcom/example/recital/recital/amendment/Marks;" (.ref wS)) (hc5 : (pi &&& (3 : Int32)) = (0 : Int32)) :
    MetFree l x (head1 (Jvm.Cond.code x code maxLocals ret :: ws) room_1) (fun zA zU => zA = #[(.int pi), (.int xi)] ∧ Z.Warmed39 zU.vm ∧ zU.heap = h0) (fun _ _ _ _ _ => True) (fun _ zU zo zU' => ∃ zv zL, zo = .returned zv ∧ Q_law Z pi xi wV kc wC wS h0 n0 zv zU'.heap zL ∧ FrameEnd zU zo zU' zL room_1.cells room_1.slots) := by
  refine MetFree.of_bodySF (plainFor_of_name pn_4) hisR ?_
  intro p e s m args below meth c s₁ Bd hml0 hP hK
  obtain ⟨rfl, hZ, hh⟩ := hP
  have hx := Bd.exec
  have hby := Bd.bytes
  have hml : c.maxLocals = 6 := hml0
  have hown : s.vm.findClass "com/example/recital/recital/amendment/MarksOpeningPinLaw" = some m.cls := findClass_of_methodNamed Bd.named
  have hnm := (name_of_methodNamed Bd.named Bd.method).1
  have X0 : Stand p l e room_1 s m #[(.int pi), (.int xi)] below meth c s₁ [] 0 0 := Stand.of_body Bd
  have e0 : s₁.heap = h0 := by rw [← hh, Bd.state]; rfl
  have N0 := Fr.nil n0
  have Z0 : n0 ≤ h0.size := O0.1 ▸ O0.2.1
  have pre0 : ∀ t, Steps p.tables e below (s₁.setTop (mkF m 0 #[.val (.int pi), .val (.int xi), .unset, .unset, .unset, .unset] [])) t → Steps p.tables e below (s₁.setTop (entryFrame m #[(.int pi), (.int xi)] maxLocals)) t := fun zt zk => castTop (ef_0_II m pi xi) zk
  obtain ⟨_, _, ⟨T1, L1, k1, n1⟩, -, X1, ⟨Lc1, hQ1, l1, y1, z1⟩, st1⟩ := Jvm.LawKit.callS X0 hx (y := (⟨"com/example/recital/recital/amendment/Marks", "opening", "(C)Lcom/example/recital/recital/amendment/Marks;"⟩ : MethodName)) hown (mvT hZ (hw _ (List.mem_of_getElem? (i := 0) rfl))) (mvT hZ (hw _ (List.mem_of_getElem? (i := 1) rfl))) (mvT hZ (hw _ (List.mem_of_getElem? (i := 2) rfl))) (mvT hZ (hw _ (List.mem_of_getElem? (i := 3) rfl))) (by decide) (backOf (W := 0) (opC l Z a0 hw [] (8220 : Int32) wV kc wC wS h0 n0 O0 G0 G1 G2 G3 G4 (by decide)) hZ (hw _ (List.mem_of_getElem? (i := 3) rfl)) (hw _ (List.mem_of_getElem? (i := 2) rfl)) (by decide) (by decide)) (g := (mkF m 42 #[.val (.int pi), .val (.int xi), .val (.int (pi &&& (3 : Int32))), .val (.int (8220 : Int32)), .unset, .unset] [(.int (8220 : Int32))])) rfl (by rw [hml]; rfl) (argsL := [(.int (8220 : Int32))]) (rest := []) (lenOf pd_1 rfl) rfl (by show 2 * 0 + _ ≤ _; exact Nat.le_of_eq rfl) (hb hby at_42) (fun _ _ => ⟨rfl, e0, (by decide : 0 + 1 ≤ _), (by decide : 0 + 2 ≤ _)⟩)
  dsimp only [Pt.U, Pt.locs, Pt.cells, Pt.slots] at X1 l1 y1 z1 st1 hQ1
  subst l1 y1 z1
  obtain ⟨rfl, Nq1, kh1⟩ := hQ1
  have N1 := Fr.app N0 Nq1
  have O1 := O0.keep kh1 all0
  have K1 : Keep h0 T1.heap [] := (Keep.refl h0 []).trans kh1 all0
  obtain ⟨T2, X2, e2, st2⟩ := getS2 X1 hx hZ hown (host := "") (Or.inl (hw _ (List.mem_of_getElem? (i := 23) rfl))) Via.refl rfl (G5.ext O1.2) (g := (mkF m 54 #[.val (.int pi), .val (.int xi), .val (.int (pi &&& (3 : Int32))), .val (.int (8220 : Int32)), .val (.ref wC), .unset] [])) rfl (hb hby at_54)
  obtain ⟨fs, hr, hrun, hended, hW, hsame⟩ := X2.leave (v := some (.int (1 : Int32))) (fun h => by rw [Bd.returns] at h; cases h)
  refine ⟨_, _, pre0 _ ?_, hrun, hended, _, _, rfl, ?_, ⟨_, rfl⟩, hW, hsame.mono (by decide) (by decide)⟩
  · show Steps p.tables e below (s₁.setTop (mkF m 0 #[.val (.int pi), .val (.int xi), .unset, .unset, .unset, .unset] [])) _
    refine XS.iloadN X0.here hx rfl (hb hby at_0) rfl ?_
    show Steps p.tables e below (s₁.setTop (mkF m 1 #[.val (.int pi), .val (.int xi), .unset, .unset, .unset, .unset] [(.int pi)])) _
    refine XS.iconst X0.here hx rfl (hb hby at_1) ?_
    show Steps p.tables e below (s₁.setTop (mkF m 2 #[.val (.int pi), .val (.int xi), .unset, .unset, .unset, .unset] [(.int (3 : Int32)), (.int pi)])) _
    refine XS.iand X0.here hx rfl (hb hby at_2) rfl ?_
    show Steps p.tables e below (s₁.setTop (mkF m 3 #[.val (.int pi), .val (.int xi), .unset, .unset, .unset, .unset] [(.int (pi &&& (3 : Int32)))])) _
    refine XS.istoreN X0.here hx rfl (hb hby at_3) rfl (l' := #[.val (.int pi), .val (.int xi), .val (.int (pi &&& (3 : Int32))), .unset, .unset, .unset]) rfl ?_
    show Steps p.tables e below (s₁.setTop (mkF m 4 #[.val (.int pi), .val (.int xi), .val (.int (pi &&& (3 : Int32))), .unset, .unset, .unset] [])) _
    refine XS.iloadN X0.here hx rfl (hb hby at_4) rfl ?_
    show Steps p.tables e below (s₁.setTop (mkF m 5 #[.val (.int pi), .val (.int xi), .val (.int (pi &&& (3 : Int32))), .unset, .unset, .unset] [(.int (pi &&& (3 : Int32)))])) _
    refine XS.ifNo X0.here hx rfl (hb hby at_5) rfl ((if0 _ _).trans (teq (hc5 : (pi &&& (3 : Int32)) = (0 : Int32))).2) ?_
    show Steps p.tables e below (s₁.setTop (mkF m 8 #[.val (.int pi), .val (.int xi), .val (.int (pi &&& (3 : Int32))), .unset, .unset, .unset] [])) _
    refine XS.sipush X0.here hx rfl (hb hby at_8) ?_
    show Steps p.tables e below (s₁.setTop (mkF m 11 #[.val (.int pi), .val (.int xi), .val (.int (pi &&& (3 : Int32))), .unset, .unset, .unset] [(.int (8220 : Int32))])) _
    refine XS.istoreN X0.here hx rfl (hb hby at_11) rfl (l' := #[.val (.int pi), .val (.int xi), .val (.int (pi &&& (3 : Int32))), .val (.int (8220 : Int32)), .unset, .unset]) rfl ?_
    show Steps p.tables e below (s₁.setTop (mkF m 12 #[.val (.int pi), .val (.int xi), .val (.int (pi &&& (3 : Int32))), .val (.int (8220 : Int32)), .unset, .unset] [])) _
    refine XS.goto X0.here hx rfl (pc0 := 12) (pc' := 41) rfl (hb hby at_12) (by decide) (by decide) ?_
    show Steps p.tables e below (s₁.setTop (mkF m 41 #[.val (.int pi), .val (.int xi), .val (.int (pi &&& (3 : Int32))), .val (.int (8220 : Int32)), .unset, .unset] [])) _
    refine XS.iloadN X0.here hx rfl (hb hby at_41) rfl ?_
    show Steps p.tables e below (s₁.setTop (mkF m 42 #[.val (.int pi), .val (.int xi), .val (.int (pi &&& (3 : Int32))), .val (.int (8220 : Int32)), .unset, .unset] [(.int (8220 : Int32))])) _
    refine st1 _ ?_
    show Steps p.tables e below (T1.setTop (mkF m 45 #[.val (.int pi), .val (.int xi), .val (.int (pi &&& (3 : Int32))), .val (.int (8220 : Int32)), .unset, .unset] [(.ref wC)])) _
    refine XS.astore X1.here hx rfl (hb hby at_45) rfl rfl (l' := #[.val (.int pi), .val (.int xi), .val (.int (pi &&& (3 : Int32))), .val (.int (8220 : Int32)), .val (.ref wC), .unset]) rfl ?_
    show Steps p.tables e below (T1.setTop (mkF m 47 #[.val (.int pi), .val (.int xi), .val (.int (pi &&& (3 : Int32))), .val (.int (8220 : Int32)), .val (.ref wC), .unset] [])) _
    refine XS.iloadN X1.here hx rfl (hb hby at_47) rfl ?_
    show Steps p.tables e below (T1.setTop (mkF m 48 #[.val (.int pi), .val (.int xi), .val (.int (pi &&& (3 : Int32))), .val (.int (8220 : Int32)), .val (.ref wC), .unset] [(.int (8220 : Int32))])) _
    refine XS.sipush X1.here hx rfl (hb hby at_48) ?_
    show Steps p.tables e below (T1.setTop (mkF m 51 #[.val (.int pi), .val (.int xi), .val (.int (pi &&& (3 : Int32))), .val (.int (8220 : Int32)), .val (.ref wC), .unset] [(.int (8220 : Int32)), (.int (8220 : Int32))])) _
    refine XS.icmpNo X1.here hx rfl (hb hby at_51) rfl (teq (by decide : (8220 : Int32) = (8220 : Int32))).2 ?_
    show Steps p.tables e below (T1.setTop (mkF m 54 #[.val (.int pi), .val (.int xi), .val (.int (pi &&& (3 : Int32))), .val (.int (8220 : Int32)), .val (.ref wC), .unset] [])) _
    refine st2 _ ?_
    show Steps p.tables e below (T2.setTop (mkF m 57 #[.val (.int pi), .val (.int xi), .val (.int (pi &&& (3 : Int32))), .val (.int (8220 : Int32)), .val (.ref wC), .unset] [(.ref wC)])) _
    refine XS.astore X2.here hx rfl (hb hby at_57) rfl rfl (l' := #[.val (.int pi), .val (.int xi), .val (.int (pi &&& (3 : Int32))), .val (.int (8220 : Int32)), .val (.ref wC), .val (.ref wC)]) rfl ?_
    show Steps p.tables e below (T2.setTop (mkF m 59 #[.val (.int pi), .val (.int xi), .val (.int (pi &&& (3 : Int32))), .val (.int (8220 : Int32)), .val (.ref wC), .val (.ref wC)] [])) _
    refine XS.goto X2.here hx rfl (pc0 := 59) (pc' := 79) rfl (hb hby at_59) (by decide) (by decide) ?_
    show Steps p.tables e below (T2.setTop (mkF m 79 #[.val (.int pi), .val (.int xi), .val (.int (pi &&& (3 : Int32))), .val (.int (8220 : Int32)), .val (.ref wC), .val (.ref wC)] [])) _
    refine XS.aload X2.here hx rfl (hb hby at_79) rfl rfl ?_
    show Steps p.tables e below (T2.setTop (mkF m 81 #[.val (.int pi), .val (.int xi), .val (.int (pi &&& (3 : Int32))), .val (.int (8220 : Int32)), .val (.ref wC), .val (.ref wC)] [(.ref wC)])) _
    refine XS.aload X2.here hx rfl (hb hby at_81) rfl rfl ?_
    show Steps p.tables e below (T2.setTop (mkF m 83 #[.val (.int pi), .val (.int xi), .val (.int (pi &&& (3 : Int32))), .val (.int (8220 : Int32)), .val (.ref wC), .val (.ref wC)] [(.ref wC), (.ref wC)])) _
    refine Jvm.RoadKit.acmp (g := (mkF m 83 #[.val (.int pi), .val (.int xi), .val (.int (pi &&& (3 : Int32))), .val (.int (8220 : Int32)), .val (.ref wC), .val (.ref wC)] [(.ref wC), (.ref wC)])) X2 hx rfl rfl rfl (pc0 := 83) (pc' := 86) (same := true) rfl (hb hby at_83) rfl (decide_eq_true rfl) (by decide) (by decide) ?_
    show Steps p.tables e below (T2.setTop (mkF m 86 #[.val (.int pi), .val (.int xi), .val (.int (pi &&& (3 : Int32))), .val (.int (8220 : Int32)), .val (.ref wC), .val (.ref wC)] [])) _
    refine XS.iconst X2.here hx rfl (hb hby at_86) ?_
    show Steps p.tables e below (T2.setTop (mkF m 87 #[.val (.int pi), .val (.int xi), .val (.int (pi &&& (3 : Int32))), .val (.int (8220 : Int32)), .val (.ref wC), .val (.ref wC)] [(.int (1 : Int32))])) _
    refine XS.goto X2.here hx rfl (pc0 := 87) (pc' := 91) rfl (hb hby at_87) (by decide) (by decide) ?_
    show Steps p.tables e below (T2.setTop (mkF m 91 #[.val (.int pi), .val (.int xi), .val (.int (pi &&& (3 : Int32))), .val (.int (8220 : Int32)), .val (.ref wC), .val (.ref wC)] [(.int (1 : Int32))])) _
    exact retN X2 hx (t := .boolean) Bd.returns (by simp) (hb hby at_91) hr
  · show Q_law Z pi xi wV kc wC wS h0 n0 _ T2.heap _
    rw [e2]
    exact ⟨rfl, N1⟩
set_option maxRecDepth 65536 in
set_option maxHeartbeats 40000000 in
theorem law_1 (l : Launch) (Z : State) (a0 : Array Value) (hw : ∀ d ∈ tables_1, d.before a0 Z = true) (ws : List Jvm.Cond) (pi : Int32) (xi : Int32) (wV : Addr) (kc : ClassId) (wC : Addr) (wS : Addr) (h0 : Heap) (n0 : Nat) (O0 : Old Z n0 h0) (G0 : Sta Z Z.heap "com/example/recital/recital/amendment/Marks" "$VALUES" "[Lcom/example/recital/recital/amendment/Marks;" (.ref wV)) (G1 : Arv Z Z.heap wV kc (.object "com/example/recital/recital/amendment/Marks") (2 : Int32) [(.ref wC), (.ref wS)] .null) (G2 : Exa Z Z.heap wV "[Lcom/example/recital/recital/amendment/Marks;") (G3 : Fld Z Z.heap wC "com/example/recital/recital/amendment/Marks" "opening" "C" (.int (8220 : Int32))) (G4 : Fld Z Z.heap wS "com/example/recital/recital/amendment/Marks" "opening" "C" (.int (34 : Int32))) (G5 : Sta Z Z.heap "com/example/recital/recital/amendment/Marks" "CURLY" "Lcom/example/recital/recital/amendment/Marks;" (.ref wC)) (G6 : Sta Z Z.heap "com/example/recital/recital/amendment/Marks" "STRAIGHT" "Lcom/example/recital/recital/amendment/Marks;" (.ref wS)) (hc5 : ¬ ((pi &&& (3 : Int32)) = (0 : Int32))) (hc17 : (pi &&& (3 : Int32)) = (1 : Int32)) :
    MetFree l x (head1 (Jvm.Cond.code x code maxLocals ret :: ws) room_1) (fun zA zU => zA = #[(.int pi), (.int xi)] ∧ Z.Warmed39 zU.vm ∧ zU.heap = h0) (fun _ _ _ _ _ => True) (fun _ zU zo zU' => ∃ zv zL, zo = .returned zv ∧ Q_law Z pi xi wV kc wC wS h0 n0 zv zU'.heap zL ∧ FrameEnd zU zo zU' zL room_1.cells room_1.slots) := by
  refine MetFree.of_bodySF (plainFor_of_name pn_4) hisR ?_
  intro p e s m args below meth c s₁ Bd hml0 hP hK
  obtain ⟨rfl, hZ, hh⟩ := hP
  have hx := Bd.exec
  have hby := Bd.bytes
  have hml : c.maxLocals = 6 := hml0
  have hown : s.vm.findClass "com/example/recital/recital/amendment/MarksOpeningPinLaw" = some m.cls := findClass_of_methodNamed Bd.named
  have hnm := (name_of_methodNamed Bd.named Bd.method).1
  have X0 : Stand p l e room_1 s m #[(.int pi), (.int xi)] below meth c s₁ [] 0 0 := Stand.of_body Bd
  have e0 : s₁.heap = h0 := by rw [← hh, Bd.state]; rfl
  have N0 := Fr.nil n0
  have Z0 : n0 ≤ h0.size := O0.1 ▸ O0.2.1
  have pre0 : ∀ t, Steps p.tables e below (s₁.setTop (mkF m 0 #[.val (.int pi), .val (.int xi), .unset, .unset, .unset, .unset] [])) t → Steps p.tables e below (s₁.setTop (entryFrame m #[(.int pi), (.int xi)] maxLocals)) t := fun zt zk => castTop (ef_0_II m pi xi) zk
  obtain ⟨_, _, ⟨T1, L1, k1, n1⟩, -, X1, ⟨Lc1, hQ1, l1, y1, z1⟩, st1⟩ := Jvm.LawKit.callS X0 hx (y := (⟨"com/example/recital/recital/amendment/Marks", "opening", "(C)Lcom/example/recital/recital/amendment/Marks;"⟩ : MethodName)) hown (mvT hZ (hw _ (List.mem_of_getElem? (i := 0) rfl))) (mvT hZ (hw _ (List.mem_of_getElem? (i := 1) rfl))) (mvT hZ (hw _ (List.mem_of_getElem? (i := 2) rfl))) (mvT hZ (hw _ (List.mem_of_getElem? (i := 3) rfl))) (by decide) (backOf (W := 0) (opS l Z a0 hw [] (34 : Int32) wV kc wC wS h0 n0 O0 G0 G1 G2 G3 G4 (by decide) (by decide)) hZ (hw _ (List.mem_of_getElem? (i := 3) rfl)) (hw _ (List.mem_of_getElem? (i := 2) rfl)) (by decide) (by decide)) (g := (mkF m 42 #[.val (.int pi), .val (.int xi), .val (.int (pi &&& (3 : Int32))), .val (.int (34 : Int32)), .unset, .unset] [(.int (34 : Int32))])) rfl (by rw [hml]; rfl) (argsL := [(.int (34 : Int32))]) (rest := []) (lenOf pd_1 rfl) rfl (by show 2 * 0 + _ ≤ _; exact Nat.le_of_eq rfl) (hb hby at_42) (fun _ _ => ⟨rfl, e0, (by decide : 0 + 1 ≤ _), (by decide : 0 + 2 ≤ _)⟩)
  dsimp only [Pt.U, Pt.locs, Pt.cells, Pt.slots] at X1 l1 y1 z1 st1 hQ1
  subst l1 y1 z1
  obtain ⟨rfl, Nq1, kh1⟩ := hQ1
  have N1 := Fr.app N0 Nq1
  have O1 := O0.keep kh1 all0
  have K1 : Keep h0 T1.heap [] := (Keep.refl h0 []).trans kh1 all0
  obtain ⟨T2, X2, e2, st2⟩ := getS2 X1 hx hZ hown (host := "") (Or.inl (hw _ (List.mem_of_getElem? (i := 24) rfl))) Via.refl rfl (G6.ext O1.2) (g := (mkF m 68 #[.val (.int pi), .val (.int xi), .val (.int (pi &&& (3 : Int32))), .val (.int (34 : Int32)), .val (.ref wS), .unset] [])) rfl (hb hby at_68)
  obtain ⟨fs, hr, hrun, hended, hW, hsame⟩ := X2.leave (v := some (.int (1 : Int32))) (fun h => by rw [Bd.returns] at h; cases h)
  refine ⟨_, _, pre0 _ ?_, hrun, hended, _, _, rfl, ?_, ⟨_, rfl⟩, hW, hsame.mono (by decide) (by decide)⟩
  · show Steps p.tables e below (s₁.setTop (mkF m 0 #[.val (.int pi), .val (.int xi), .unset, .unset, .unset, .unset] [])) _
    refine XS.iloadN X0.here hx rfl (hb hby at_0) rfl ?_
    show Steps p.tables e below (s₁.setTop (mkF m 1 #[.val (.int pi), .val (.int xi), .unset, .unset, .unset, .unset] [(.int pi)])) _
    refine XS.iconst X0.here hx rfl (hb hby at_1) ?_
    show Steps p.tables e below (s₁.setTop (mkF m 2 #[.val (.int pi), .val (.int xi), .unset, .unset, .unset, .unset] [(.int (3 : Int32)), (.int pi)])) _
    refine XS.iand X0.here hx rfl (hb hby at_2) rfl ?_
    show Steps p.tables e below (s₁.setTop (mkF m 3 #[.val (.int pi), .val (.int xi), .unset, .unset, .unset, .unset] [(.int (pi &&& (3 : Int32)))])) _
    refine XS.istoreN X0.here hx rfl (hb hby at_3) rfl (l' := #[.val (.int pi), .val (.int xi), .val (.int (pi &&& (3 : Int32))), .unset, .unset, .unset]) rfl ?_
    show Steps p.tables e below (s₁.setTop (mkF m 4 #[.val (.int pi), .val (.int xi), .val (.int (pi &&& (3 : Int32))), .unset, .unset, .unset] [])) _
    refine XS.iloadN X0.here hx rfl (hb hby at_4) rfl ?_
    show Steps p.tables e below (s₁.setTop (mkF m 5 #[.val (.int pi), .val (.int xi), .val (.int (pi &&& (3 : Int32))), .unset, .unset, .unset] [(.int (pi &&& (3 : Int32)))])) _
    refine XS.ifYes X0.here hx rfl (pc0 := 5) (pc' := 15) rfl (hb hby at_5) rfl ((if0 _ _).trans (feq (hc5 : ¬ ((pi &&& (3 : Int32)) = (0 : Int32)))).2) (by decide) (by decide) ?_
    show Steps p.tables e below (s₁.setTop (mkF m 15 #[.val (.int pi), .val (.int xi), .val (.int (pi &&& (3 : Int32))), .unset, .unset, .unset] [])) _
    refine XS.iloadN X0.here hx rfl (hb hby at_15) rfl ?_
    show Steps p.tables e below (s₁.setTop (mkF m 16 #[.val (.int pi), .val (.int xi), .val (.int (pi &&& (3 : Int32))), .unset, .unset, .unset] [(.int (pi &&& (3 : Int32)))])) _
    refine XS.iconst X0.here hx rfl (hb hby at_16) ?_
    show Steps p.tables e below (s₁.setTop (mkF m 17 #[.val (.int pi), .val (.int xi), .val (.int (pi &&& (3 : Int32))), .unset, .unset, .unset] [(.int (1 : Int32)), (.int (pi &&& (3 : Int32)))])) _
    refine XS.icmpNo X0.here hx rfl (hb hby at_17) rfl (teq (hc17 : (pi &&& (3 : Int32)) = (1 : Int32))).2 ?_
    show Steps p.tables e below (s₁.setTop (mkF m 20 #[.val (.int pi), .val (.int xi), .val (.int (pi &&& (3 : Int32))), .unset, .unset, .unset] [])) _
    refine XS.bipush X0.here hx rfl (hb hby at_20) ?_
    show Steps p.tables e below (s₁.setTop (mkF m 22 #[.val (.int pi), .val (.int xi), .val (.int (pi &&& (3 : Int32))), .unset, .unset, .unset] [(.int (34 : Int32))])) _
    refine XS.istoreN X0.here hx rfl (hb hby at_22) rfl (l' := #[.val (.int pi), .val (.int xi), .val (.int (pi &&& (3 : Int32))), .val (.int (34 : Int32)), .unset, .unset]) rfl ?_
    show Steps p.tables e below (s₁.setTop (mkF m 23 #[.val (.int pi), .val (.int xi), .val (.int (pi &&& (3 : Int32))), .val (.int (34 : Int32)), .unset, .unset] [])) _
    refine XS.goto X0.here hx rfl (pc0 := 23) (pc' := 41) rfl (hb hby at_23) (by decide) (by decide) ?_
    show Steps p.tables e below (s₁.setTop (mkF m 41 #[.val (.int pi), .val (.int xi), .val (.int (pi &&& (3 : Int32))), .val (.int (34 : Int32)), .unset, .unset] [])) _
    refine XS.iloadN X0.here hx rfl (hb hby at_41) rfl ?_
    show Steps p.tables e below (s₁.setTop (mkF m 42 #[.val (.int pi), .val (.int xi), .val (.int (pi &&& (3 : Int32))), .val (.int (34 : Int32)), .unset, .unset] [(.int (34 : Int32))])) _
    refine st1 _ ?_
    show Steps p.tables e below (T1.setTop (mkF m 45 #[.val (.int pi), .val (.int xi), .val (.int (pi &&& (3 : Int32))), .val (.int (34 : Int32)), .unset, .unset] [(.ref wS)])) _
    refine XS.astore X1.here hx rfl (hb hby at_45) rfl rfl (l' := #[.val (.int pi), .val (.int xi), .val (.int (pi &&& (3 : Int32))), .val (.int (34 : Int32)), .val (.ref wS), .unset]) rfl ?_
    show Steps p.tables e below (T1.setTop (mkF m 47 #[.val (.int pi), .val (.int xi), .val (.int (pi &&& (3 : Int32))), .val (.int (34 : Int32)), .val (.ref wS), .unset] [])) _
    refine XS.iloadN X1.here hx rfl (hb hby at_47) rfl ?_
    show Steps p.tables e below (T1.setTop (mkF m 48 #[.val (.int pi), .val (.int xi), .val (.int (pi &&& (3 : Int32))), .val (.int (34 : Int32)), .val (.ref wS), .unset] [(.int (34 : Int32))])) _
    refine XS.sipush X1.here hx rfl (hb hby at_48) ?_
    show Steps p.tables e below (T1.setTop (mkF m 51 #[.val (.int pi), .val (.int xi), .val (.int (pi &&& (3 : Int32))), .val (.int (34 : Int32)), .val (.ref wS), .unset] [(.int (8220 : Int32)), (.int (34 : Int32))])) _
    refine XS.icmpYes X1.here hx rfl (pc0 := 51) (pc' := 62) rfl (hb hby at_51) rfl (feq (by decide : ¬ ((34 : Int32) = (8220 : Int32)))).2 (by decide) (by decide) ?_
    show Steps p.tables e below (T1.setTop (mkF m 62 #[.val (.int pi), .val (.int xi), .val (.int (pi &&& (3 : Int32))), .val (.int (34 : Int32)), .val (.ref wS), .unset] [])) _
    refine XS.iloadN X1.here hx rfl (hb hby at_62) rfl ?_
    show Steps p.tables e below (T1.setTop (mkF m 63 #[.val (.int pi), .val (.int xi), .val (.int (pi &&& (3 : Int32))), .val (.int (34 : Int32)), .val (.ref wS), .unset] [(.int (34 : Int32))])) _
    refine XS.bipush X1.here hx rfl (hb hby at_63) ?_
    show Steps p.tables e below (T1.setTop (mkF m 65 #[.val (.int pi), .val (.int xi), .val (.int (pi &&& (3 : Int32))), .val (.int (34 : Int32)), .val (.ref wS), .unset] [(.int (34 : Int32)), (.int (34 : Int32))])) _
    refine XS.icmpNo X1.here hx rfl (hb hby at_65) rfl (teq (by decide : (34 : Int32) = (34 : Int32))).2 ?_
    show Steps p.tables e below (T1.setTop (mkF m 68 #[.val (.int pi), .val (.int xi), .val (.int (pi &&& (3 : Int32))), .val (.int (34 : Int32)), .val (.ref wS), .unset] [])) _
    refine st2 _ ?_
    show Steps p.tables e below (T2.setTop (mkF m 71 #[.val (.int pi), .val (.int xi), .val (.int (pi &&& (3 : Int32))), .val (.int (34 : Int32)), .val (.ref wS), .unset] [(.ref wS)])) _
    refine XS.astore X2.here hx rfl (hb hby at_71) rfl rfl (l' := #[.val (.int pi), .val (.int xi), .val (.int (pi &&& (3 : Int32))), .val (.int (34 : Int32)), .val (.ref wS), .val (.ref wS)]) rfl ?_
    show Steps p.tables e below (T2.setTop (mkF m 73 #[.val (.int pi), .val (.int xi), .val (.int (pi &&& (3 : Int32))), .val (.int (34 : Int32)), .val (.ref wS), .val (.ref wS)] [])) _
    refine XS.goto X2.here hx rfl (pc0 := 73) (pc' := 79) rfl (hb hby at_73) (by decide) (by decide) ?_
    show Steps p.tables e below (T2.setTop (mkF m 79 #[.val (.int pi), .val (.int xi), .val (.int (pi &&& (3 : Int32))), .val (.int (34 : Int32)), .val (.ref wS), .val (.ref wS)] [])) _
    refine XS.aload X2.here hx rfl (hb hby at_79) rfl rfl ?_
    show Steps p.tables e below (T2.setTop (mkF m 81 #[.val (.int pi), .val (.int xi), .val (.int (pi &&& (3 : Int32))), .val (.int (34 : Int32)), .val (.ref wS), .val (.ref wS)] [(.ref wS)])) _
    refine XS.aload X2.here hx rfl (hb hby at_81) rfl rfl ?_
    show Steps p.tables e below (T2.setTop (mkF m 83 #[.val (.int pi), .val (.int xi), .val (.int (pi &&& (3 : Int32))), .val (.int (34 : Int32)), .val (.ref wS), .val (.ref wS)] [(.ref wS), (.ref wS)])) _
    refine Jvm.RoadKit.acmp (g := (mkF m 83 #[.val (.int pi), .val (.int xi), .val (.int (pi &&& (3 : Int32))), .val (.int (34 : Int32)), .val (.ref wS), .val (.ref wS)] [(.ref wS), (.ref wS)])) X2 hx rfl rfl rfl (pc0 := 83) (pc' := 86) (same := true) rfl (hb hby at_83) rfl (decide_eq_true rfl) (by decide) (by decide) ?_
    show Steps p.tables e below (T2.setTop (mkF m 86 #[.val (.int pi), .val (.int xi), .val (.int (pi &&& (3 : Int32))), .val (.int (34 : Int32)), .val (.ref wS), .val (.ref wS)] [])) _
    refine XS.iconst X2.here hx rfl (hb hby at_86) ?_
    show Steps p.tables e below (T2.setTop (mkF m 87 #[.val (.int pi), .val (.int xi), .val (.int (pi &&& (3 : Int32))), .val (.int (34 : Int32)), .val (.ref wS), .val (.ref wS)] [(.int (1 : Int32))])) _
    refine XS.goto X2.here hx rfl (pc0 := 87) (pc' := 91) rfl (hb hby at_87) (by decide) (by decide) ?_
    show Steps p.tables e below (T2.setTop (mkF m 91 #[.val (.int pi), .val (.int xi), .val (.int (pi &&& (3 : Int32))), .val (.int (34 : Int32)), .val (.ref wS), .val (.ref wS)] [(.int (1 : Int32))])) _
    exact retN X2 hx (t := .boolean) Bd.returns (by simp) (hb hby at_91) hr
  · show Q_law Z pi xi wV kc wC wS h0 n0 _ T2.heap _
    rw [e2]
    exact ⟨rfl, N1⟩
set_option maxRecDepth 65536 in
set_option maxHeartbeats 40000000 in
theorem law_2 (l : Launch) (Z : State) (a0 : Array Value) (hw : ∀ d ∈ tables_1, d.before a0 Z = true) (ws : List Jvm.Cond) (pi : Int32) (xi : Int32) (wV : Addr) (kc : ClassId) (wC : Addr) (wS : Addr) (h0 : Heap) (n0 : Nat) (O0 : Old Z n0 h0) (G0 : Sta Z Z.heap "com/example/recital/recital/amendment/Marks" "$VALUES" "[Lcom/example/recital/recital/amendment/Marks;" (.ref wV)) (G1 : Arv Z Z.heap wV kc (.object "com/example/recital/recital/amendment/Marks") (2 : Int32) [(.ref wC), (.ref wS)] .null) (G2 : Exa Z Z.heap wV "[Lcom/example/recital/recital/amendment/Marks;") (G3 : Fld Z Z.heap wC "com/example/recital/recital/amendment/Marks" "opening" "C" (.int (8220 : Int32))) (G4 : Fld Z Z.heap wS "com/example/recital/recital/amendment/Marks" "opening" "C" (.int (34 : Int32))) (G5 : Sta Z Z.heap "com/example/recital/recital/amendment/Marks" "CURLY" "Lcom/example/recital/recital/amendment/Marks;" (.ref wC)) (G6 : Sta Z Z.heap "com/example/recital/recital/amendment/Marks" "STRAIGHT" "Lcom/example/recital/recital/amendment/Marks;" (.ref wS)) (hc5 : ¬ ((pi &&& (3 : Int32)) = (0 : Int32))) (hc17 : ¬ ((pi &&& (3 : Int32)) = (1 : Int32))) (hc28 : (pi &&& (3 : Int32)) = (2 : Int32)) :
    MetFree l x (head1 (Jvm.Cond.code x code maxLocals ret :: ws) room_1) (fun zA zU => zA = #[(.int pi), (.int xi)] ∧ Z.Warmed39 zU.vm ∧ zU.heap = h0) (fun _ _ _ _ _ => True) (fun _ zU zo zU' => ∃ zv zL, zo = .returned zv ∧ Q_law Z pi xi wV kc wC wS h0 n0 zv zU'.heap zL ∧ FrameEnd zU zo zU' zL room_1.cells room_1.slots) := by
  refine MetFree.of_bodySF (plainFor_of_name pn_4) hisR ?_
  intro p e s m args below meth c s₁ Bd hml0 hP hK
  obtain ⟨rfl, hZ, hh⟩ := hP
  have hx := Bd.exec
  have hby := Bd.bytes
  have hml : c.maxLocals = 6 := hml0
  have hown : s.vm.findClass "com/example/recital/recital/amendment/MarksOpeningPinLaw" = some m.cls := findClass_of_methodNamed Bd.named
  have hnm := (name_of_methodNamed Bd.named Bd.method).1
  have X0 : Stand p l e room_1 s m #[(.int pi), (.int xi)] below meth c s₁ [] 0 0 := Stand.of_body Bd
  have e0 : s₁.heap = h0 := by rw [← hh, Bd.state]; rfl
  have N0 := Fr.nil n0
  have Z0 : n0 ≤ h0.size := O0.1 ▸ O0.2.1
  have pre0 : ∀ t, Steps p.tables e below (s₁.setTop (mkF m 0 #[.val (.int pi), .val (.int xi), .unset, .unset, .unset, .unset] [])) t → Steps p.tables e below (s₁.setTop (entryFrame m #[(.int pi), (.int xi)] maxLocals)) t := fun zt zk => castTop (ef_0_II m pi xi) zk
  obtain ⟨_, _, ⟨T1, L1, k1, n1⟩, -, X1, ⟨Lc1, hQ1, l1, y1, z1⟩, st1⟩ := Jvm.LawKit.callS X0 hx (y := (⟨"com/example/recital/recital/amendment/Marks", "opening", "(C)Lcom/example/recital/recital/amendment/Marks;"⟩ : MethodName)) hown (mvT hZ (hw _ (List.mem_of_getElem? (i := 0) rfl))) (mvT hZ (hw _ (List.mem_of_getElem? (i := 1) rfl))) (mvT hZ (hw _ (List.mem_of_getElem? (i := 2) rfl))) (mvT hZ (hw _ (List.mem_of_getElem? (i := 3) rfl))) (by decide) (backOf (W := 0) (opN l Z a0 hw [] (8221 : Int32) wV kc wC wS h0 n0 O0 G0 G1 G2 G3 G4 (by decide) (by decide)) hZ (hw _ (List.mem_of_getElem? (i := 3) rfl)) (hw _ (List.mem_of_getElem? (i := 2) rfl)) (by decide) (by decide)) (g := (mkF m 42 #[.val (.int pi), .val (.int xi), .val (.int (pi &&& (3 : Int32))), .val (.int (8221 : Int32)), .unset, .unset] [(.int (8221 : Int32))])) rfl (by rw [hml]; rfl) (argsL := [(.int (8221 : Int32))]) (rest := []) (lenOf pd_1 rfl) rfl (by show 2 * 0 + _ ≤ _; exact Nat.le_of_eq rfl) (hb hby at_42) (fun _ _ => ⟨rfl, e0, (by decide : 0 + 1 ≤ _), (by decide : 0 + 2 ≤ _)⟩)
  dsimp only [Pt.U, Pt.locs, Pt.cells, Pt.slots] at X1 l1 y1 z1 st1 hQ1
  subst l1 y1 z1
  obtain ⟨rfl, Nq1, kh1⟩ := hQ1
  have N1 := Fr.app N0 Nq1
  have O1 := O0.keep kh1 all0
  have K1 : Keep h0 T1.heap [] := (Keep.refl h0 []).trans kh1 all0
  obtain ⟨fs, hr, hrun, hended, hW, hsame⟩ := X1.leave (v := some (.int (1 : Int32))) (fun h => by rw [Bd.returns] at h; cases h)
  refine ⟨_, _, pre0 _ ?_, hrun, hended, _, _, rfl, ?_, ⟨_, rfl⟩, hW, hsame.mono (by decide) (by decide)⟩
  · show Steps p.tables e below (s₁.setTop (mkF m 0 #[.val (.int pi), .val (.int xi), .unset, .unset, .unset, .unset] [])) _
    refine XS.iloadN X0.here hx rfl (hb hby at_0) rfl ?_
    show Steps p.tables e below (s₁.setTop (mkF m 1 #[.val (.int pi), .val (.int xi), .unset, .unset, .unset, .unset] [(.int pi)])) _
    refine XS.iconst X0.here hx rfl (hb hby at_1) ?_
    show Steps p.tables e below (s₁.setTop (mkF m 2 #[.val (.int pi), .val (.int xi), .unset, .unset, .unset, .unset] [(.int (3 : Int32)), (.int pi)])) _
    refine XS.iand X0.here hx rfl (hb hby at_2) rfl ?_
    show Steps p.tables e below (s₁.setTop (mkF m 3 #[.val (.int pi), .val (.int xi), .unset, .unset, .unset, .unset] [(.int (pi &&& (3 : Int32)))])) _
    refine XS.istoreN X0.here hx rfl (hb hby at_3) rfl (l' := #[.val (.int pi), .val (.int xi), .val (.int (pi &&& (3 : Int32))), .unset, .unset, .unset]) rfl ?_
    show Steps p.tables e below (s₁.setTop (mkF m 4 #[.val (.int pi), .val (.int xi), .val (.int (pi &&& (3 : Int32))), .unset, .unset, .unset] [])) _
    refine XS.iloadN X0.here hx rfl (hb hby at_4) rfl ?_
    show Steps p.tables e below (s₁.setTop (mkF m 5 #[.val (.int pi), .val (.int xi), .val (.int (pi &&& (3 : Int32))), .unset, .unset, .unset] [(.int (pi &&& (3 : Int32)))])) _
    refine XS.ifYes X0.here hx rfl (pc0 := 5) (pc' := 15) rfl (hb hby at_5) rfl ((if0 _ _).trans (feq (hc5 : ¬ ((pi &&& (3 : Int32)) = (0 : Int32)))).2) (by decide) (by decide) ?_
    show Steps p.tables e below (s₁.setTop (mkF m 15 #[.val (.int pi), .val (.int xi), .val (.int (pi &&& (3 : Int32))), .unset, .unset, .unset] [])) _
    refine XS.iloadN X0.here hx rfl (hb hby at_15) rfl ?_
    show Steps p.tables e below (s₁.setTop (mkF m 16 #[.val (.int pi), .val (.int xi), .val (.int (pi &&& (3 : Int32))), .unset, .unset, .unset] [(.int (pi &&& (3 : Int32)))])) _
    refine XS.iconst X0.here hx rfl (hb hby at_16) ?_
    show Steps p.tables e below (s₁.setTop (mkF m 17 #[.val (.int pi), .val (.int xi), .val (.int (pi &&& (3 : Int32))), .unset, .unset, .unset] [(.int (1 : Int32)), (.int (pi &&& (3 : Int32)))])) _
    refine XS.icmpYes X0.here hx rfl (pc0 := 17) (pc' := 26) rfl (hb hby at_17) rfl (feq (hc17 : ¬ ((pi &&& (3 : Int32)) = (1 : Int32)))).2 (by decide) (by decide) ?_
    show Steps p.tables e below (s₁.setTop (mkF m 26 #[.val (.int pi), .val (.int xi), .val (.int (pi &&& (3 : Int32))), .unset, .unset, .unset] [])) _
    refine XS.iloadN X0.here hx rfl (hb hby at_26) rfl ?_
    show Steps p.tables e below (s₁.setTop (mkF m 27 #[.val (.int pi), .val (.int xi), .val (.int (pi &&& (3 : Int32))), .unset, .unset, .unset] [(.int (pi &&& (3 : Int32)))])) _
    refine XS.iconst X0.here hx rfl (hb hby at_27) ?_
    show Steps p.tables e below (s₁.setTop (mkF m 28 #[.val (.int pi), .val (.int xi), .val (.int (pi &&& (3 : Int32))), .unset, .unset, .unset] [(.int (2 : Int32)), (.int (pi &&& (3 : Int32)))])) _
    refine XS.icmpNo X0.here hx rfl (hb hby at_28) rfl (teq (hc28 : (pi &&& (3 : Int32)) = (2 : Int32))).2 ?_
    show Steps p.tables e below (s₁.setTop (mkF m 31 #[.val (.int pi), .val (.int xi), .val (.int (pi &&& (3 : Int32))), .unset, .unset, .unset] [])) _
    refine XS.sipush X0.here hx rfl (hb hby at_31) ?_
    show Steps p.tables e below (s₁.setTop (mkF m 34 #[.val (.int pi), .val (.int xi), .val (.int (pi &&& (3 : Int32))), .unset, .unset, .unset] [(.int (8221 : Int32))])) _
    refine XS.istoreN X0.here hx rfl (hb hby at_34) rfl (l' := #[.val (.int pi), .val (.int xi), .val (.int (pi &&& (3 : Int32))), .val (.int (8221 : Int32)), .unset, .unset]) rfl ?_
    show Steps p.tables e below (s₁.setTop (mkF m 35 #[.val (.int pi), .val (.int xi), .val (.int (pi &&& (3 : Int32))), .val (.int (8221 : Int32)), .unset, .unset] [])) _
    refine XS.goto X0.here hx rfl (pc0 := 35) (pc' := 41) rfl (hb hby at_35) (by decide) (by decide) ?_
    show Steps p.tables e below (s₁.setTop (mkF m 41 #[.val (.int pi), .val (.int xi), .val (.int (pi &&& (3 : Int32))), .val (.int (8221 : Int32)), .unset, .unset] [])) _
    refine XS.iloadN X0.here hx rfl (hb hby at_41) rfl ?_
    show Steps p.tables e below (s₁.setTop (mkF m 42 #[.val (.int pi), .val (.int xi), .val (.int (pi &&& (3 : Int32))), .val (.int (8221 : Int32)), .unset, .unset] [(.int (8221 : Int32))])) _
    refine st1 _ ?_
    show Steps p.tables e below (T1.setTop (mkF m 45 #[.val (.int pi), .val (.int xi), .val (.int (pi &&& (3 : Int32))), .val (.int (8221 : Int32)), .unset, .unset] [.null])) _
    refine XS.astore X1.here hx rfl (hb hby at_45) rfl rfl (l' := #[.val (.int pi), .val (.int xi), .val (.int (pi &&& (3 : Int32))), .val (.int (8221 : Int32)), .val .null, .unset]) rfl ?_
    show Steps p.tables e below (T1.setTop (mkF m 47 #[.val (.int pi), .val (.int xi), .val (.int (pi &&& (3 : Int32))), .val (.int (8221 : Int32)), .val .null, .unset] [])) _
    refine XS.iloadN X1.here hx rfl (hb hby at_47) rfl ?_
    show Steps p.tables e below (T1.setTop (mkF m 48 #[.val (.int pi), .val (.int xi), .val (.int (pi &&& (3 : Int32))), .val (.int (8221 : Int32)), .val .null, .unset] [(.int (8221 : Int32))])) _
    refine XS.sipush X1.here hx rfl (hb hby at_48) ?_
    show Steps p.tables e below (T1.setTop (mkF m 51 #[.val (.int pi), .val (.int xi), .val (.int (pi &&& (3 : Int32))), .val (.int (8221 : Int32)), .val .null, .unset] [(.int (8220 : Int32)), (.int (8221 : Int32))])) _
    refine XS.icmpYes X1.here hx rfl (pc0 := 51) (pc' := 62) rfl (hb hby at_51) rfl (feq (by decide : ¬ ((8221 : Int32) = (8220 : Int32)))).2 (by decide) (by decide) ?_
    show Steps p.tables e below (T1.setTop (mkF m 62 #[.val (.int pi), .val (.int xi), .val (.int (pi &&& (3 : Int32))), .val (.int (8221 : Int32)), .val .null, .unset] [])) _
    refine XS.iloadN X1.here hx rfl (hb hby at_62) rfl ?_
    show Steps p.tables e below (T1.setTop (mkF m 63 #[.val (.int pi), .val (.int xi), .val (.int (pi &&& (3 : Int32))), .val (.int (8221 : Int32)), .val .null, .unset] [(.int (8221 : Int32))])) _
    refine XS.bipush X1.here hx rfl (hb hby at_63) ?_
    show Steps p.tables e below (T1.setTop (mkF m 65 #[.val (.int pi), .val (.int xi), .val (.int (pi &&& (3 : Int32))), .val (.int (8221 : Int32)), .val .null, .unset] [(.int (34 : Int32)), (.int (8221 : Int32))])) _
    refine XS.icmpYes X1.here hx rfl (pc0 := 65) (pc' := 76) rfl (hb hby at_65) rfl (feq (by decide : ¬ ((8221 : Int32) = (34 : Int32)))).2 (by decide) (by decide) ?_
    show Steps p.tables e below (T1.setTop (mkF m 76 #[.val (.int pi), .val (.int xi), .val (.int (pi &&& (3 : Int32))), .val (.int (8221 : Int32)), .val .null, .unset] [])) _
    refine XS.aconstNull X1.here hx rfl (hb hby at_76) ?_
    show Steps p.tables e below (T1.setTop (mkF m 77 #[.val (.int pi), .val (.int xi), .val (.int (pi &&& (3 : Int32))), .val (.int (8221 : Int32)), .val .null, .unset] [.null])) _
    refine XS.astore X1.here hx rfl (hb hby at_77) rfl rfl (l' := #[.val (.int pi), .val (.int xi), .val (.int (pi &&& (3 : Int32))), .val (.int (8221 : Int32)), .val .null, .val .null]) rfl ?_
    show Steps p.tables e below (T1.setTop (mkF m 79 #[.val (.int pi), .val (.int xi), .val (.int (pi &&& (3 : Int32))), .val (.int (8221 : Int32)), .val .null, .val .null] [])) _
    refine XS.aload X1.here hx rfl (hb hby at_79) rfl rfl ?_
    show Steps p.tables e below (T1.setTop (mkF m 81 #[.val (.int pi), .val (.int xi), .val (.int (pi &&& (3 : Int32))), .val (.int (8221 : Int32)), .val .null, .val .null] [.null])) _
    refine XS.aload X1.here hx rfl (hb hby at_81) rfl rfl ?_
    show Steps p.tables e below (T1.setTop (mkF m 83 #[.val (.int pi), .val (.int xi), .val (.int (pi &&& (3 : Int32))), .val (.int (8221 : Int32)), .val .null, .val .null] [.null, .null])) _
    refine Jvm.RoadKit.acmp (g := (mkF m 83 #[.val (.int pi), .val (.int xi), .val (.int (pi &&& (3 : Int32))), .val (.int (8221 : Int32)), .val .null, .val .null] [.null, .null])) X1 hx rfl rfl rfl (pc0 := 83) (pc' := 86) (same := true) rfl (hb hby at_83) rfl (decide_eq_true rfl) (by decide) (by decide) ?_
    show Steps p.tables e below (T1.setTop (mkF m 86 #[.val (.int pi), .val (.int xi), .val (.int (pi &&& (3 : Int32))), .val (.int (8221 : Int32)), .val .null, .val .null] [])) _
    refine XS.iconst X1.here hx rfl (hb hby at_86) ?_
    show Steps p.tables e below (T1.setTop (mkF m 87 #[.val (.int pi), .val (.int xi), .val (.int (pi &&& (3 : Int32))), .val (.int (8221 : Int32)), .val .null, .val .null] [(.int (1 : Int32))])) _
    refine XS.goto X1.here hx rfl (pc0 := 87) (pc' := 91) rfl (hb hby at_87) (by decide) (by decide) ?_
    show Steps p.tables e below (T1.setTop (mkF m 91 #[.val (.int pi), .val (.int xi), .val (.int (pi &&& (3 : Int32))), .val (.int (8221 : Int32)), .val .null, .val .null] [(.int (1 : Int32))])) _
    exact retN X1 hx (t := .boolean) Bd.returns (by simp) (hb hby at_91) hr
  · show Q_law Z pi xi wV kc wC wS h0 n0 _ T1.heap _
    exact ⟨rfl, N1⟩
set_option maxRecDepth 65536 in
set_option maxHeartbeats 40000000 in
theorem law_3 (l : Launch) (Z : State) (a0 : Array Value) (hw : ∀ d ∈ tables_1, d.before a0 Z = true) (ws : List Jvm.Cond) (pi : Int32) (xi : Int32) (wV : Addr) (kc : ClassId) (wC : Addr) (wS : Addr) (h0 : Heap) (n0 : Nat) (O0 : Old Z n0 h0) (G0 : Sta Z Z.heap "com/example/recital/recital/amendment/Marks" "$VALUES" "[Lcom/example/recital/recital/amendment/Marks;" (.ref wV)) (G1 : Arv Z Z.heap wV kc (.object "com/example/recital/recital/amendment/Marks") (2 : Int32) [(.ref wC), (.ref wS)] .null) (G2 : Exa Z Z.heap wV "[Lcom/example/recital/recital/amendment/Marks;") (G3 : Fld Z Z.heap wC "com/example/recital/recital/amendment/Marks" "opening" "C" (.int (8220 : Int32))) (G4 : Fld Z Z.heap wS "com/example/recital/recital/amendment/Marks" "opening" "C" (.int (34 : Int32))) (G5 : Sta Z Z.heap "com/example/recital/recital/amendment/Marks" "CURLY" "Lcom/example/recital/recital/amendment/Marks;" (.ref wC)) (G6 : Sta Z Z.heap "com/example/recital/recital/amendment/Marks" "STRAIGHT" "Lcom/example/recital/recital/amendment/Marks;" (.ref wS)) (hc5 : ¬ ((pi &&& (3 : Int32)) = (0 : Int32))) (hc17 : ¬ ((pi &&& (3 : Int32)) = (1 : Int32))) (hc28 : ¬ ((pi &&& (3 : Int32)) = (2 : Int32))) (hc51 : (xi.toUInt32.toUInt16.toUInt32.toInt32) = (8220 : Int32)) :
    MetFree l x (head1 (Jvm.Cond.code x code maxLocals ret :: ws) room_1) (fun zA zU => zA = #[(.int pi), (.int xi)] ∧ Z.Warmed39 zU.vm ∧ zU.heap = h0) (fun _ _ _ _ _ => True) (fun _ zU zo zU' => ∃ zv zL, zo = .returned zv ∧ Q_law Z pi xi wV kc wC wS h0 n0 zv zU'.heap zL ∧ FrameEnd zU zo zU' zL room_1.cells room_1.slots) := by
  refine MetFree.of_bodySF (plainFor_of_name pn_4) hisR ?_
  intro p e s m args below meth c s₁ Bd hml0 hP hK
  obtain ⟨rfl, hZ, hh⟩ := hP
  have hx := Bd.exec
  have hby := Bd.bytes
  have hml : c.maxLocals = 6 := hml0
  have hown : s.vm.findClass "com/example/recital/recital/amendment/MarksOpeningPinLaw" = some m.cls := findClass_of_methodNamed Bd.named
  have hnm := (name_of_methodNamed Bd.named Bd.method).1
  have X0 : Stand p l e room_1 s m #[(.int pi), (.int xi)] below meth c s₁ [] 0 0 := Stand.of_body Bd
  have e0 : s₁.heap = h0 := by rw [← hh, Bd.state]; rfl
  have N0 := Fr.nil n0
  have Z0 : n0 ≤ h0.size := O0.1 ▸ O0.2.1
  have pre0 : ∀ t, Steps p.tables e below (s₁.setTop (mkF m 0 #[.val (.int pi), .val (.int xi), .unset, .unset, .unset, .unset] [])) t → Steps p.tables e below (s₁.setTop (entryFrame m #[(.int pi), (.int xi)] maxLocals)) t := fun zt zk => castTop (ef_0_II m pi xi) zk
  obtain ⟨_, _, ⟨T1, L1, k1, n1⟩, -, X1, ⟨Lc1, hQ1, l1, y1, z1⟩, st1⟩ := Jvm.LawKit.callS X0 hx (y := (⟨"com/example/recital/recital/amendment/Marks", "opening", "(C)Lcom/example/recital/recital/amendment/Marks;"⟩ : MethodName)) hown (mvT hZ (hw _ (List.mem_of_getElem? (i := 0) rfl))) (mvT hZ (hw _ (List.mem_of_getElem? (i := 1) rfl))) (mvT hZ (hw _ (List.mem_of_getElem? (i := 2) rfl))) (mvT hZ (hw _ (List.mem_of_getElem? (i := 3) rfl))) (by decide) (backOf (W := 0) (opC l Z a0 hw [] (xi.toUInt32.toUInt16.toUInt32.toInt32) wV kc wC wS h0 n0 O0 G0 G1 G2 G3 G4 (Eq.symm hc51)) hZ (hw _ (List.mem_of_getElem? (i := 3) rfl)) (hw _ (List.mem_of_getElem? (i := 2) rfl)) (by decide) (by decide)) (g := (mkF m 42 #[.val (.int pi), .val (.int xi), .val (.int (pi &&& (3 : Int32))), .val (.int (xi.toUInt32.toUInt16.toUInt32.toInt32)), .unset, .unset] [(.int (xi.toUInt32.toUInt16.toUInt32.toInt32))])) rfl (by rw [hml]; rfl) (argsL := [(.int (xi.toUInt32.toUInt16.toUInt32.toInt32))]) (rest := []) (lenOf pd_1 rfl) rfl (by show 2 * 0 + _ ≤ _; exact Nat.le_of_eq rfl) (hb hby at_42) (fun _ _ => ⟨rfl, e0, (by decide : 0 + 1 ≤ _), (by decide : 0 + 2 ≤ _)⟩)
  dsimp only [Pt.U, Pt.locs, Pt.cells, Pt.slots] at X1 l1 y1 z1 st1 hQ1
  subst l1 y1 z1
  obtain ⟨rfl, Nq1, kh1⟩ := hQ1
  have N1 := Fr.app N0 Nq1
  have O1 := O0.keep kh1 all0
  have K1 : Keep h0 T1.heap [] := (Keep.refl h0 []).trans kh1 all0
  obtain ⟨T2, X2, e2, st2⟩ := getS2 X1 hx hZ hown (host := "") (Or.inl (hw _ (List.mem_of_getElem? (i := 23) rfl))) Via.refl rfl (G5.ext O1.2) (g := (mkF m 54 #[.val (.int pi), .val (.int xi), .val (.int (pi &&& (3 : Int32))), .val (.int (xi.toUInt32.toUInt16.toUInt32.toInt32)), .val (.ref wC), .unset] [])) rfl (hb hby at_54)
  obtain ⟨fs, hr, hrun, hended, hW, hsame⟩ := X2.leave (v := some (.int (1 : Int32))) (fun h => by rw [Bd.returns] at h; cases h)
  refine ⟨_, _, pre0 _ ?_, hrun, hended, _, _, rfl, ?_, ⟨_, rfl⟩, hW, hsame.mono (by decide) (by decide)⟩
  · show Steps p.tables e below (s₁.setTop (mkF m 0 #[.val (.int pi), .val (.int xi), .unset, .unset, .unset, .unset] [])) _
    refine XS.iloadN X0.here hx rfl (hb hby at_0) rfl ?_
    show Steps p.tables e below (s₁.setTop (mkF m 1 #[.val (.int pi), .val (.int xi), .unset, .unset, .unset, .unset] [(.int pi)])) _
    refine XS.iconst X0.here hx rfl (hb hby at_1) ?_
    show Steps p.tables e below (s₁.setTop (mkF m 2 #[.val (.int pi), .val (.int xi), .unset, .unset, .unset, .unset] [(.int (3 : Int32)), (.int pi)])) _
    refine XS.iand X0.here hx rfl (hb hby at_2) rfl ?_
    show Steps p.tables e below (s₁.setTop (mkF m 3 #[.val (.int pi), .val (.int xi), .unset, .unset, .unset, .unset] [(.int (pi &&& (3 : Int32)))])) _
    refine XS.istoreN X0.here hx rfl (hb hby at_3) rfl (l' := #[.val (.int pi), .val (.int xi), .val (.int (pi &&& (3 : Int32))), .unset, .unset, .unset]) rfl ?_
    show Steps p.tables e below (s₁.setTop (mkF m 4 #[.val (.int pi), .val (.int xi), .val (.int (pi &&& (3 : Int32))), .unset, .unset, .unset] [])) _
    refine XS.iloadN X0.here hx rfl (hb hby at_4) rfl ?_
    show Steps p.tables e below (s₁.setTop (mkF m 5 #[.val (.int pi), .val (.int xi), .val (.int (pi &&& (3 : Int32))), .unset, .unset, .unset] [(.int (pi &&& (3 : Int32)))])) _
    refine XS.ifYes X0.here hx rfl (pc0 := 5) (pc' := 15) rfl (hb hby at_5) rfl ((if0 _ _).trans (feq (hc5 : ¬ ((pi &&& (3 : Int32)) = (0 : Int32)))).2) (by decide) (by decide) ?_
    show Steps p.tables e below (s₁.setTop (mkF m 15 #[.val (.int pi), .val (.int xi), .val (.int (pi &&& (3 : Int32))), .unset, .unset, .unset] [])) _
    refine XS.iloadN X0.here hx rfl (hb hby at_15) rfl ?_
    show Steps p.tables e below (s₁.setTop (mkF m 16 #[.val (.int pi), .val (.int xi), .val (.int (pi &&& (3 : Int32))), .unset, .unset, .unset] [(.int (pi &&& (3 : Int32)))])) _
    refine XS.iconst X0.here hx rfl (hb hby at_16) ?_
    show Steps p.tables e below (s₁.setTop (mkF m 17 #[.val (.int pi), .val (.int xi), .val (.int (pi &&& (3 : Int32))), .unset, .unset, .unset] [(.int (1 : Int32)), (.int (pi &&& (3 : Int32)))])) _
    refine XS.icmpYes X0.here hx rfl (pc0 := 17) (pc' := 26) rfl (hb hby at_17) rfl (feq (hc17 : ¬ ((pi &&& (3 : Int32)) = (1 : Int32)))).2 (by decide) (by decide) ?_
    show Steps p.tables e below (s₁.setTop (mkF m 26 #[.val (.int pi), .val (.int xi), .val (.int (pi &&& (3 : Int32))), .unset, .unset, .unset] [])) _
    refine XS.iloadN X0.here hx rfl (hb hby at_26) rfl ?_
    show Steps p.tables e below (s₁.setTop (mkF m 27 #[.val (.int pi), .val (.int xi), .val (.int (pi &&& (3 : Int32))), .unset, .unset, .unset] [(.int (pi &&& (3 : Int32)))])) _
    refine XS.iconst X0.here hx rfl (hb hby at_27) ?_
    show Steps p.tables e below (s₁.setTop (mkF m 28 #[.val (.int pi), .val (.int xi), .val (.int (pi &&& (3 : Int32))), .unset, .unset, .unset] [(.int (2 : Int32)), (.int (pi &&& (3 : Int32)))])) _
    refine XS.icmpYes X0.here hx rfl (pc0 := 28) (pc' := 38) rfl (hb hby at_28) rfl (feq (hc28 : ¬ ((pi &&& (3 : Int32)) = (2 : Int32)))).2 (by decide) (by decide) ?_
    show Steps p.tables e below (s₁.setTop (mkF m 38 #[.val (.int pi), .val (.int xi), .val (.int (pi &&& (3 : Int32))), .unset, .unset, .unset] [])) _
    refine XS.iloadN X0.here hx rfl (hb hby at_38) rfl ?_
    show Steps p.tables e below (s₁.setTop (mkF m 39 #[.val (.int pi), .val (.int xi), .val (.int (pi &&& (3 : Int32))), .unset, .unset, .unset] [(.int xi)])) _
    refine XS.i2c X0.here hx rfl (hb hby at_39) rfl ?_
    show Steps p.tables e below (s₁.setTop (mkF m 40 #[.val (.int pi), .val (.int xi), .val (.int (pi &&& (3 : Int32))), .unset, .unset, .unset] [(.int (xi.toUInt32.toUInt16.toUInt32.toInt32))])) _
    refine XS.istoreN X0.here hx rfl (hb hby at_40) rfl (l' := #[.val (.int pi), .val (.int xi), .val (.int (pi &&& (3 : Int32))), .val (.int (xi.toUInt32.toUInt16.toUInt32.toInt32)), .unset, .unset]) rfl ?_
    show Steps p.tables e below (s₁.setTop (mkF m 41 #[.val (.int pi), .val (.int xi), .val (.int (pi &&& (3 : Int32))), .val (.int (xi.toUInt32.toUInt16.toUInt32.toInt32)), .unset, .unset] [])) _
    refine XS.iloadN X0.here hx rfl (hb hby at_41) rfl ?_
    show Steps p.tables e below (s₁.setTop (mkF m 42 #[.val (.int pi), .val (.int xi), .val (.int (pi &&& (3 : Int32))), .val (.int (xi.toUInt32.toUInt16.toUInt32.toInt32)), .unset, .unset] [(.int (xi.toUInt32.toUInt16.toUInt32.toInt32))])) _
    refine st1 _ ?_
    show Steps p.tables e below (T1.setTop (mkF m 45 #[.val (.int pi), .val (.int xi), .val (.int (pi &&& (3 : Int32))), .val (.int (xi.toUInt32.toUInt16.toUInt32.toInt32)), .unset, .unset] [(.ref wC)])) _
    refine XS.astore X1.here hx rfl (hb hby at_45) rfl rfl (l' := #[.val (.int pi), .val (.int xi), .val (.int (pi &&& (3 : Int32))), .val (.int (xi.toUInt32.toUInt16.toUInt32.toInt32)), .val (.ref wC), .unset]) rfl ?_
    show Steps p.tables e below (T1.setTop (mkF m 47 #[.val (.int pi), .val (.int xi), .val (.int (pi &&& (3 : Int32))), .val (.int (xi.toUInt32.toUInt16.toUInt32.toInt32)), .val (.ref wC), .unset] [])) _
    refine XS.iloadN X1.here hx rfl (hb hby at_47) rfl ?_
    show Steps p.tables e below (T1.setTop (mkF m 48 #[.val (.int pi), .val (.int xi), .val (.int (pi &&& (3 : Int32))), .val (.int (xi.toUInt32.toUInt16.toUInt32.toInt32)), .val (.ref wC), .unset] [(.int (xi.toUInt32.toUInt16.toUInt32.toInt32))])) _
    refine XS.sipush X1.here hx rfl (hb hby at_48) ?_
    show Steps p.tables e below (T1.setTop (mkF m 51 #[.val (.int pi), .val (.int xi), .val (.int (pi &&& (3 : Int32))), .val (.int (xi.toUInt32.toUInt16.toUInt32.toInt32)), .val (.ref wC), .unset] [(.int (8220 : Int32)), (.int (xi.toUInt32.toUInt16.toUInt32.toInt32))])) _
    refine XS.icmpNo X1.here hx rfl (hb hby at_51) rfl (teq (hc51 : (xi.toUInt32.toUInt16.toUInt32.toInt32) = (8220 : Int32))).2 ?_
    show Steps p.tables e below (T1.setTop (mkF m 54 #[.val (.int pi), .val (.int xi), .val (.int (pi &&& (3 : Int32))), .val (.int (xi.toUInt32.toUInt16.toUInt32.toInt32)), .val (.ref wC), .unset] [])) _
    refine st2 _ ?_
    show Steps p.tables e below (T2.setTop (mkF m 57 #[.val (.int pi), .val (.int xi), .val (.int (pi &&& (3 : Int32))), .val (.int (xi.toUInt32.toUInt16.toUInt32.toInt32)), .val (.ref wC), .unset] [(.ref wC)])) _
    refine XS.astore X2.here hx rfl (hb hby at_57) rfl rfl (l' := #[.val (.int pi), .val (.int xi), .val (.int (pi &&& (3 : Int32))), .val (.int (xi.toUInt32.toUInt16.toUInt32.toInt32)), .val (.ref wC), .val (.ref wC)]) rfl ?_
    show Steps p.tables e below (T2.setTop (mkF m 59 #[.val (.int pi), .val (.int xi), .val (.int (pi &&& (3 : Int32))), .val (.int (xi.toUInt32.toUInt16.toUInt32.toInt32)), .val (.ref wC), .val (.ref wC)] [])) _
    refine XS.goto X2.here hx rfl (pc0 := 59) (pc' := 79) rfl (hb hby at_59) (by decide) (by decide) ?_
    show Steps p.tables e below (T2.setTop (mkF m 79 #[.val (.int pi), .val (.int xi), .val (.int (pi &&& (3 : Int32))), .val (.int (xi.toUInt32.toUInt16.toUInt32.toInt32)), .val (.ref wC), .val (.ref wC)] [])) _
    refine XS.aload X2.here hx rfl (hb hby at_79) rfl rfl ?_
    show Steps p.tables e below (T2.setTop (mkF m 81 #[.val (.int pi), .val (.int xi), .val (.int (pi &&& (3 : Int32))), .val (.int (xi.toUInt32.toUInt16.toUInt32.toInt32)), .val (.ref wC), .val (.ref wC)] [(.ref wC)])) _
    refine XS.aload X2.here hx rfl (hb hby at_81) rfl rfl ?_
    show Steps p.tables e below (T2.setTop (mkF m 83 #[.val (.int pi), .val (.int xi), .val (.int (pi &&& (3 : Int32))), .val (.int (xi.toUInt32.toUInt16.toUInt32.toInt32)), .val (.ref wC), .val (.ref wC)] [(.ref wC), (.ref wC)])) _
    refine Jvm.RoadKit.acmp (g := (mkF m 83 #[.val (.int pi), .val (.int xi), .val (.int (pi &&& (3 : Int32))), .val (.int (xi.toUInt32.toUInt16.toUInt32.toInt32)), .val (.ref wC), .val (.ref wC)] [(.ref wC), (.ref wC)])) X2 hx rfl rfl rfl (pc0 := 83) (pc' := 86) (same := true) rfl (hb hby at_83) rfl (decide_eq_true rfl) (by decide) (by decide) ?_
    show Steps p.tables e below (T2.setTop (mkF m 86 #[.val (.int pi), .val (.int xi), .val (.int (pi &&& (3 : Int32))), .val (.int (xi.toUInt32.toUInt16.toUInt32.toInt32)), .val (.ref wC), .val (.ref wC)] [])) _
    refine XS.iconst X2.here hx rfl (hb hby at_86) ?_
    show Steps p.tables e below (T2.setTop (mkF m 87 #[.val (.int pi), .val (.int xi), .val (.int (pi &&& (3 : Int32))), .val (.int (xi.toUInt32.toUInt16.toUInt32.toInt32)), .val (.ref wC), .val (.ref wC)] [(.int (1 : Int32))])) _
    refine XS.goto X2.here hx rfl (pc0 := 87) (pc' := 91) rfl (hb hby at_87) (by decide) (by decide) ?_
    show Steps p.tables e below (T2.setTop (mkF m 91 #[.val (.int pi), .val (.int xi), .val (.int (pi &&& (3 : Int32))), .val (.int (xi.toUInt32.toUInt16.toUInt32.toInt32)), .val (.ref wC), .val (.ref wC)] [(.int (1 : Int32))])) _
    exact retN X2 hx (t := .boolean) Bd.returns (by simp) (hb hby at_91) hr
  · show Q_law Z pi xi wV kc wC wS h0 n0 _ T2.heap _
    rw [e2]
    exact ⟨rfl, N1⟩
set_option maxRecDepth 65536 in
set_option maxHeartbeats 40000000 in
theorem law_4 (l : Launch) (Z : State) (a0 : Array Value) (hw : ∀ d ∈ tables_1, d.before a0 Z = true) (ws : List Jvm.Cond) (pi : Int32) (xi : Int32) (wV : Addr) (kc : ClassId) (wC : Addr) (wS : Addr) (h0 : Heap) (n0 : Nat) (O0 : Old Z n0 h0) (G0 : Sta Z Z.heap "com/example/recital/recital/amendment/Marks" "$VALUES" "[Lcom/example/recital/recital/amendment/Marks;" (.ref wV)) (G1 : Arv Z Z.heap wV kc (.object "com/example/recital/recital/amendment/Marks") (2 : Int32) [(.ref wC), (.ref wS)] .null) (G2 : Exa Z Z.heap wV "[Lcom/example/recital/recital/amendment/Marks;") (G3 : Fld Z Z.heap wC "com/example/recital/recital/amendment/Marks" "opening" "C" (.int (8220 : Int32))) (G4 : Fld Z Z.heap wS "com/example/recital/recital/amendment/Marks" "opening" "C" (.int (34 : Int32))) (G5 : Sta Z Z.heap "com/example/recital/recital/amendment/Marks" "CURLY" "Lcom/example/recital/recital/amendment/Marks;" (.ref wC)) (G6 : Sta Z Z.heap "com/example/recital/recital/amendment/Marks" "STRAIGHT" "Lcom/example/recital/recital/amendment/Marks;" (.ref wS)) (hc5 : ¬ ((pi &&& (3 : Int32)) = (0 : Int32))) (hc17 : ¬ ((pi &&& (3 : Int32)) = (1 : Int32))) (hc28 : ¬ ((pi &&& (3 : Int32)) = (2 : Int32))) (hc51 : ¬ ((xi.toUInt32.toUInt16.toUInt32.toInt32) = (8220 : Int32))) (hc65 : (xi.toUInt32.toUInt16.toUInt32.toInt32) = (34 : Int32)) :
    MetFree l x (head1 (Jvm.Cond.code x code maxLocals ret :: ws) room_1) (fun zA zU => zA = #[(.int pi), (.int xi)] ∧ Z.Warmed39 zU.vm ∧ zU.heap = h0) (fun _ _ _ _ _ => True) (fun _ zU zo zU' => ∃ zv zL, zo = .returned zv ∧ Q_law Z pi xi wV kc wC wS h0 n0 zv zU'.heap zL ∧ FrameEnd zU zo zU' zL room_1.cells room_1.slots) := by
  refine MetFree.of_bodySF (plainFor_of_name pn_4) hisR ?_
  intro p e s m args below meth c s₁ Bd hml0 hP hK
  obtain ⟨rfl, hZ, hh⟩ := hP
  have hx := Bd.exec
  have hby := Bd.bytes
  have hml : c.maxLocals = 6 := hml0
  have hown : s.vm.findClass "com/example/recital/recital/amendment/MarksOpeningPinLaw" = some m.cls := findClass_of_methodNamed Bd.named
  have hnm := (name_of_methodNamed Bd.named Bd.method).1
  have X0 : Stand p l e room_1 s m #[(.int pi), (.int xi)] below meth c s₁ [] 0 0 := Stand.of_body Bd
  have e0 : s₁.heap = h0 := by rw [← hh, Bd.state]; rfl
  have N0 := Fr.nil n0
  have Z0 : n0 ≤ h0.size := O0.1 ▸ O0.2.1
  have pre0 : ∀ t, Steps p.tables e below (s₁.setTop (mkF m 0 #[.val (.int pi), .val (.int xi), .unset, .unset, .unset, .unset] [])) t → Steps p.tables e below (s₁.setTop (entryFrame m #[(.int pi), (.int xi)] maxLocals)) t := fun zt zk => castTop (ef_0_II m pi xi) zk
  obtain ⟨_, _, ⟨T1, L1, k1, n1⟩, -, X1, ⟨Lc1, hQ1, l1, y1, z1⟩, st1⟩ := Jvm.LawKit.callS X0 hx (y := (⟨"com/example/recital/recital/amendment/Marks", "opening", "(C)Lcom/example/recital/recital/amendment/Marks;"⟩ : MethodName)) hown (mvT hZ (hw _ (List.mem_of_getElem? (i := 0) rfl))) (mvT hZ (hw _ (List.mem_of_getElem? (i := 1) rfl))) (mvT hZ (hw _ (List.mem_of_getElem? (i := 2) rfl))) (mvT hZ (hw _ (List.mem_of_getElem? (i := 3) rfl))) (by decide) (backOf (W := 0) (opS l Z a0 hw [] (xi.toUInt32.toUInt16.toUInt32.toInt32) wV kc wC wS h0 n0 O0 G0 G1 G2 G3 G4 (fun q => hc51 (Eq.symm q)) (Eq.symm hc65)) hZ (hw _ (List.mem_of_getElem? (i := 3) rfl)) (hw _ (List.mem_of_getElem? (i := 2) rfl)) (by decide) (by decide)) (g := (mkF m 42 #[.val (.int pi), .val (.int xi), .val (.int (pi &&& (3 : Int32))), .val (.int (xi.toUInt32.toUInt16.toUInt32.toInt32)), .unset, .unset] [(.int (xi.toUInt32.toUInt16.toUInt32.toInt32))])) rfl (by rw [hml]; rfl) (argsL := [(.int (xi.toUInt32.toUInt16.toUInt32.toInt32))]) (rest := []) (lenOf pd_1 rfl) rfl (by show 2 * 0 + _ ≤ _; exact Nat.le_of_eq rfl) (hb hby at_42) (fun _ _ => ⟨rfl, e0, (by decide : 0 + 1 ≤ _), (by decide : 0 + 2 ≤ _)⟩)
  dsimp only [Pt.U, Pt.locs, Pt.cells, Pt.slots] at X1 l1 y1 z1 st1 hQ1
  subst l1 y1 z1
  obtain ⟨rfl, Nq1, kh1⟩ := hQ1
  have N1 := Fr.app N0 Nq1
  have O1 := O0.keep kh1 all0
  have K1 : Keep h0 T1.heap [] := (Keep.refl h0 []).trans kh1 all0
  obtain ⟨T2, X2, e2, st2⟩ := getS2 X1 hx hZ hown (host := "") (Or.inl (hw _ (List.mem_of_getElem? (i := 24) rfl))) Via.refl rfl (G6.ext O1.2) (g := (mkF m 68 #[.val (.int pi), .val (.int xi), .val (.int (pi &&& (3 : Int32))), .val (.int (xi.toUInt32.toUInt16.toUInt32.toInt32)), .val (.ref wS), .unset] [])) rfl (hb hby at_68)
  obtain ⟨fs, hr, hrun, hended, hW, hsame⟩ := X2.leave (v := some (.int (1 : Int32))) (fun h => by rw [Bd.returns] at h; cases h)
  refine ⟨_, _, pre0 _ ?_, hrun, hended, _, _, rfl, ?_, ⟨_, rfl⟩, hW, hsame.mono (by decide) (by decide)⟩
  · show Steps p.tables e below (s₁.setTop (mkF m 0 #[.val (.int pi), .val (.int xi), .unset, .unset, .unset, .unset] [])) _
    refine XS.iloadN X0.here hx rfl (hb hby at_0) rfl ?_
    show Steps p.tables e below (s₁.setTop (mkF m 1 #[.val (.int pi), .val (.int xi), .unset, .unset, .unset, .unset] [(.int pi)])) _
    refine XS.iconst X0.here hx rfl (hb hby at_1) ?_
    show Steps p.tables e below (s₁.setTop (mkF m 2 #[.val (.int pi), .val (.int xi), .unset, .unset, .unset, .unset] [(.int (3 : Int32)), (.int pi)])) _
    refine XS.iand X0.here hx rfl (hb hby at_2) rfl ?_
    show Steps p.tables e below (s₁.setTop (mkF m 3 #[.val (.int pi), .val (.int xi), .unset, .unset, .unset, .unset] [(.int (pi &&& (3 : Int32)))])) _
    refine XS.istoreN X0.here hx rfl (hb hby at_3) rfl (l' := #[.val (.int pi), .val (.int xi), .val (.int (pi &&& (3 : Int32))), .unset, .unset, .unset]) rfl ?_
    show Steps p.tables e below (s₁.setTop (mkF m 4 #[.val (.int pi), .val (.int xi), .val (.int (pi &&& (3 : Int32))), .unset, .unset, .unset] [])) _
    refine XS.iloadN X0.here hx rfl (hb hby at_4) rfl ?_
    show Steps p.tables e below (s₁.setTop (mkF m 5 #[.val (.int pi), .val (.int xi), .val (.int (pi &&& (3 : Int32))), .unset, .unset, .unset] [(.int (pi &&& (3 : Int32)))])) _
    refine XS.ifYes X0.here hx rfl (pc0 := 5) (pc' := 15) rfl (hb hby at_5) rfl ((if0 _ _).trans (feq (hc5 : ¬ ((pi &&& (3 : Int32)) = (0 : Int32)))).2) (by decide) (by decide) ?_
    show Steps p.tables e below (s₁.setTop (mkF m 15 #[.val (.int pi), .val (.int xi), .val (.int (pi &&& (3 : Int32))), .unset, .unset, .unset] [])) _
    refine XS.iloadN X0.here hx rfl (hb hby at_15) rfl ?_
    show Steps p.tables e below (s₁.setTop (mkF m 16 #[.val (.int pi), .val (.int xi), .val (.int (pi &&& (3 : Int32))), .unset, .unset, .unset] [(.int (pi &&& (3 : Int32)))])) _
    refine XS.iconst X0.here hx rfl (hb hby at_16) ?_
    show Steps p.tables e below (s₁.setTop (mkF m 17 #[.val (.int pi), .val (.int xi), .val (.int (pi &&& (3 : Int32))), .unset, .unset, .unset] [(.int (1 : Int32)), (.int (pi &&& (3 : Int32)))])) _
    refine XS.icmpYes X0.here hx rfl (pc0 := 17) (pc' := 26) rfl (hb hby at_17) rfl (feq (hc17 : ¬ ((pi &&& (3 : Int32)) = (1 : Int32)))).2 (by decide) (by decide) ?_
    show Steps p.tables e below (s₁.setTop (mkF m 26 #[.val (.int pi), .val (.int xi), .val (.int (pi &&& (3 : Int32))), .unset, .unset, .unset] [])) _
    refine XS.iloadN X0.here hx rfl (hb hby at_26) rfl ?_
    show Steps p.tables e below (s₁.setTop (mkF m 27 #[.val (.int pi), .val (.int xi), .val (.int (pi &&& (3 : Int32))), .unset, .unset, .unset] [(.int (pi &&& (3 : Int32)))])) _
    refine XS.iconst X0.here hx rfl (hb hby at_27) ?_
    show Steps p.tables e below (s₁.setTop (mkF m 28 #[.val (.int pi), .val (.int xi), .val (.int (pi &&& (3 : Int32))), .unset, .unset, .unset] [(.int (2 : Int32)), (.int (pi &&& (3 : Int32)))])) _
    refine XS.icmpYes X0.here hx rfl (pc0 := 28) (pc' := 38) rfl (hb hby at_28) rfl (feq (hc28 : ¬ ((pi &&& (3 : Int32)) = (2 : Int32)))).2 (by decide) (by decide) ?_
    show Steps p.tables e below (s₁.setTop (mkF m 38 #[.val (.int pi), .val (.int xi), .val (.int (pi &&& (3 : Int32))), .unset, .unset, .unset] [])) _
    refine XS.iloadN X0.here hx rfl (hb hby at_38) rfl ?_
    show Steps p.tables e below (s₁.setTop (mkF m 39 #[.val (.int pi), .val (.int xi), .val (.int (pi &&& (3 : Int32))), .unset, .unset, .unset] [(.int xi)])) _
    refine XS.i2c X0.here hx rfl (hb hby at_39) rfl ?_
    show Steps p.tables e below (s₁.setTop (mkF m 40 #[.val (.int pi), .val (.int xi), .val (.int (pi &&& (3 : Int32))), .unset, .unset, .unset] [(.int (xi.toUInt32.toUInt16.toUInt32.toInt32))])) _
    refine XS.istoreN X0.here hx rfl (hb hby at_40) rfl (l' := #[.val (.int pi), .val (.int xi), .val (.int (pi &&& (3 : Int32))), .val (.int (xi.toUInt32.toUInt16.toUInt32.toInt32)), .unset, .unset]) rfl ?_
    show Steps p.tables e below (s₁.setTop (mkF m 41 #[.val (.int pi), .val (.int xi), .val (.int (pi &&& (3 : Int32))), .val (.int (xi.toUInt32.toUInt16.toUInt32.toInt32)), .unset, .unset] [])) _
    refine XS.iloadN X0.here hx rfl (hb hby at_41) rfl ?_
    show Steps p.tables e below (s₁.setTop (mkF m 42 #[.val (.int pi), .val (.int xi), .val (.int (pi &&& (3 : Int32))), .val (.int (xi.toUInt32.toUInt16.toUInt32.toInt32)), .unset, .unset] [(.int (xi.toUInt32.toUInt16.toUInt32.toInt32))])) _
    refine st1 _ ?_
    show Steps p.tables e below (T1.setTop (mkF m 45 #[.val (.int pi), .val (.int xi), .val (.int (pi &&& (3 : Int32))), .val (.int (xi.toUInt32.toUInt16.toUInt32.toInt32)), .unset, .unset] [(.ref wS)])) _
    refine XS.astore X1.here hx rfl (hb hby at_45) rfl rfl (l' := #[.val (.int pi), .val (.int xi), .val (.int (pi &&& (3 : Int32))), .val (.int (xi.toUInt32.toUInt16.toUInt32.toInt32)), .val (.ref wS), .unset]) rfl ?_
    show Steps p.tables e below (T1.setTop (mkF m 47 #[.val (.int pi), .val (.int xi), .val (.int (pi &&& (3 : Int32))), .val (.int (xi.toUInt32.toUInt16.toUInt32.toInt32)), .val (.ref wS), .unset] [])) _
    refine XS.iloadN X1.here hx rfl (hb hby at_47) rfl ?_
    show Steps p.tables e below (T1.setTop (mkF m 48 #[.val (.int pi), .val (.int xi), .val (.int (pi &&& (3 : Int32))), .val (.int (xi.toUInt32.toUInt16.toUInt32.toInt32)), .val (.ref wS), .unset] [(.int (xi.toUInt32.toUInt16.toUInt32.toInt32))])) _
    refine XS.sipush X1.here hx rfl (hb hby at_48) ?_
    show Steps p.tables e below (T1.setTop (mkF m 51 #[.val (.int pi), .val (.int xi), .val (.int (pi &&& (3 : Int32))), .val (.int (xi.toUInt32.toUInt16.toUInt32.toInt32)), .val (.ref wS), .unset] [(.int (8220 : Int32)), (.int (xi.toUInt32.toUInt16.toUInt32.toInt32))])) _
    refine XS.icmpYes X1.here hx rfl (pc0 := 51) (pc' := 62) rfl (hb hby at_51) rfl (feq (hc51 : ¬ ((xi.toUInt32.toUInt16.toUInt32.toInt32) = (8220 : Int32)))).2 (by decide) (by decide) ?_
    show Steps p.tables e below (T1.setTop (mkF m 62 #[.val (.int pi), .val (.int xi), .val (.int (pi &&& (3 : Int32))), .val (.int (xi.toUInt32.toUInt16.toUInt32.toInt32)), .val (.ref wS), .unset] [])) _
    refine XS.iloadN X1.here hx rfl (hb hby at_62) rfl ?_
    show Steps p.tables e below (T1.setTop (mkF m 63 #[.val (.int pi), .val (.int xi), .val (.int (pi &&& (3 : Int32))), .val (.int (xi.toUInt32.toUInt16.toUInt32.toInt32)), .val (.ref wS), .unset] [(.int (xi.toUInt32.toUInt16.toUInt32.toInt32))])) _
    refine XS.bipush X1.here hx rfl (hb hby at_63) ?_
    show Steps p.tables e below (T1.setTop (mkF m 65 #[.val (.int pi), .val (.int xi), .val (.int (pi &&& (3 : Int32))), .val (.int (xi.toUInt32.toUInt16.toUInt32.toInt32)), .val (.ref wS), .unset] [(.int (34 : Int32)), (.int (xi.toUInt32.toUInt16.toUInt32.toInt32))])) _
    refine XS.icmpNo X1.here hx rfl (hb hby at_65) rfl (teq (hc65 : (xi.toUInt32.toUInt16.toUInt32.toInt32) = (34 : Int32))).2 ?_
    show Steps p.tables e below (T1.setTop (mkF m 68 #[.val (.int pi), .val (.int xi), .val (.int (pi &&& (3 : Int32))), .val (.int (xi.toUInt32.toUInt16.toUInt32.toInt32)), .val (.ref wS), .unset] [])) _
    refine st2 _ ?_
    show Steps p.tables e below (T2.setTop (mkF m 71 #[.val (.int pi), .val (.int xi), .val (.int (pi &&& (3 : Int32))), .val (.int (xi.toUInt32.toUInt16.toUInt32.toInt32)), .val (.ref wS), .unset] [(.ref wS)])) _
    refine XS.astore X2.here hx rfl (hb hby at_71) rfl rfl (l' := #[.val (.int pi), .val (.int xi), .val (.int (pi &&& (3 : Int32))), .val (.int (xi.toUInt32.toUInt16.toUInt32.toInt32)), .val (.ref wS), .val (.ref wS)]) rfl ?_
    show Steps p.tables e below (T2.setTop (mkF m 73 #[.val (.int pi), .val (.int xi), .val (.int (pi &&& (3 : Int32))), .val (.int (xi.toUInt32.toUInt16.toUInt32.toInt32)), .val (.ref wS), .val (.ref wS)] [])) _
    refine XS.goto X2.here hx rfl (pc0 := 73) (pc' := 79) rfl (hb hby at_73) (by decide) (by decide) ?_
    show Steps p.tables e below (T2.setTop (mkF m 79 #[.val (.int pi), .val (.int xi), .val (.int (pi &&& (3 : Int32))), .val (.int (xi.toUInt32.toUInt16.toUInt32.toInt32)), .val (.ref wS), .val (.ref wS)] [])) _
    refine XS.aload X2.here hx rfl (hb hby at_79) rfl rfl ?_
    show Steps p.tables e below (T2.setTop (mkF m 81 #[.val (.int pi), .val (.int xi), .val (.int (pi &&& (3 : Int32))), .val (.int (xi.toUInt32.toUInt16.toUInt32.toInt32)), .val (.ref wS), .val (.ref wS)] [(.ref wS)])) _
    refine XS.aload X2.here hx rfl (hb hby at_81) rfl rfl ?_
    show Steps p.tables e below (T2.setTop (mkF m 83 #[.val (.int pi), .val (.int xi), .val (.int (pi &&& (3 : Int32))), .val (.int (xi.toUInt32.toUInt16.toUInt32.toInt32)), .val (.ref wS), .val (.ref wS)] [(.ref wS), (.ref wS)])) _
    refine Jvm.RoadKit.acmp (g := (mkF m 83 #[.val (.int pi), .val (.int xi), .val (.int (pi &&& (3 : Int32))), .val (.int (xi.toUInt32.toUInt16.toUInt32.toInt32)), .val (.ref wS), .val (.ref wS)] [(.ref wS), (.ref wS)])) X2 hx rfl rfl rfl (pc0 := 83) (pc' := 86) (same := true) rfl (hb hby at_83) rfl (decide_eq_true rfl) (by decide) (by decide) ?_
    show Steps p.tables e below (T2.setTop (mkF m 86 #[.val (.int pi), .val (.int xi), .val (.int (pi &&& (3 : Int32))), .val (.int (xi.toUInt32.toUInt16.toUInt32.toInt32)), .val (.ref wS), .val (.ref wS)] [])) _
    refine XS.iconst X2.here hx rfl (hb hby at_86) ?_
    show Steps p.tables e below (T2.setTop (mkF m 87 #[.val (.int pi), .val (.int xi), .val (.int (pi &&& (3 : Int32))), .val (.int (xi.toUInt32.toUInt16.toUInt32.toInt32)), .val (.ref wS), .val (.ref wS)] [(.int (1 : Int32))])) _
    refine XS.goto X2.here hx rfl (pc0 := 87) (pc' := 91) rfl (hb hby at_87) (by decide) (by decide) ?_
    show Steps p.tables e below (T2.setTop (mkF m 91 #[.val (.int pi), .val (.int xi), .val (.int (pi &&& (3 : Int32))), .val (.int (xi.toUInt32.toUInt16.toUInt32.toInt32)), .val (.ref wS), .val (.ref wS)] [(.int (1 : Int32))])) _
    exact retN X2 hx (t := .boolean) Bd.returns (by simp) (hb hby at_91) hr
  · show Q_law Z pi xi wV kc wC wS h0 n0 _ T2.heap _
    rw [e2]
    exact ⟨rfl, N1⟩
set_option maxRecDepth 65536 in
set_option maxHeartbeats 40000000 in
theorem law_5 (l : Launch) (Z : State) (a0 : Array Value) (hw : ∀ d ∈ tables_1, d.before a0 Z = true) (ws : List Jvm.Cond) (pi : Int32) (xi : Int32) (wV : Addr) (kc : ClassId) (wC : Addr) (wS : Addr) (h0 : Heap) (n0 : Nat) (O0 : Old Z n0 h0) (G0 : Sta Z Z.heap "com/example/recital/recital/amendment/Marks" "$VALUES" "[Lcom/example/recital/recital/amendment/Marks;" (.ref wV)) (G1 : Arv Z Z.heap wV kc (.object "com/example/recital/recital/amendment/Marks") (2 : Int32) [(.ref wC), (.ref wS)] .null) (G2 : Exa Z Z.heap wV "[Lcom/example/recital/recital/amendment/Marks;") (G3 : Fld Z Z.heap wC "com/example/recital/recital/amendment/Marks" "opening" "C" (.int (8220 : Int32))) (G4 : Fld Z Z.heap wS "com/example/recital/recital/amendment/Marks" "opening" "C" (.int (34 : Int32))) (G5 : Sta Z Z.heap "com/example/recital/recital/amendment/Marks" "CURLY" "Lcom/example/recital/recital/amendment/Marks;" (.ref wC)) (G6 : Sta Z Z.heap "com/example/recital/recital/amendment/Marks" "STRAIGHT" "Lcom/example/recital/recital/amendment/Marks;" (.ref wS)) (hc5 : ¬ ((pi &&& (3 : Int32)) = (0 : Int32))) (hc17 : ¬ ((pi &&& (3 : Int32)) = (1 : Int32))) (hc28 : ¬ ((pi &&& (3 : Int32)) = (2 : Int32))) (hc51 : ¬ ((xi.toUInt32.toUInt16.toUInt32.toInt32) = (8220 : Int32))) (hc65 : ¬ ((xi.toUInt32.toUInt16.toUInt32.toInt32) = (34 : Int32))) :
    MetFree l x (head1 (Jvm.Cond.code x code maxLocals ret :: ws) room_1) (fun zA zU => zA = #[(.int pi), (.int xi)] ∧ Z.Warmed39 zU.vm ∧ zU.heap = h0) (fun _ _ _ _ _ => True) (fun _ zU zo zU' => ∃ zv zL, zo = .returned zv ∧ Q_law Z pi xi wV kc wC wS h0 n0 zv zU'.heap zL ∧ FrameEnd zU zo zU' zL room_1.cells room_1.slots) := by
  refine MetFree.of_bodySF (plainFor_of_name pn_4) hisR ?_
  intro p e s m args below meth c s₁ Bd hml0 hP hK
  obtain ⟨rfl, hZ, hh⟩ := hP
  have hx := Bd.exec
  have hby := Bd.bytes
  have hml : c.maxLocals = 6 := hml0
  have hown : s.vm.findClass "com/example/recital/recital/amendment/MarksOpeningPinLaw" = some m.cls := findClass_of_methodNamed Bd.named
  have hnm := (name_of_methodNamed Bd.named Bd.method).1
  have X0 : Stand p l e room_1 s m #[(.int pi), (.int xi)] below meth c s₁ [] 0 0 := Stand.of_body Bd
  have e0 : s₁.heap = h0 := by rw [← hh, Bd.state]; rfl
  have N0 := Fr.nil n0
  have Z0 : n0 ≤ h0.size := O0.1 ▸ O0.2.1
  have pre0 : ∀ t, Steps p.tables e below (s₁.setTop (mkF m 0 #[.val (.int pi), .val (.int xi), .unset, .unset, .unset, .unset] [])) t → Steps p.tables e below (s₁.setTop (entryFrame m #[(.int pi), (.int xi)] maxLocals)) t := fun zt zk => castTop (ef_0_II m pi xi) zk
  obtain ⟨_, _, ⟨T1, L1, k1, n1⟩, -, X1, ⟨Lc1, hQ1, l1, y1, z1⟩, st1⟩ := Jvm.LawKit.callS X0 hx (y := (⟨"com/example/recital/recital/amendment/Marks", "opening", "(C)Lcom/example/recital/recital/amendment/Marks;"⟩ : MethodName)) hown (mvT hZ (hw _ (List.mem_of_getElem? (i := 0) rfl))) (mvT hZ (hw _ (List.mem_of_getElem? (i := 1) rfl))) (mvT hZ (hw _ (List.mem_of_getElem? (i := 2) rfl))) (mvT hZ (hw _ (List.mem_of_getElem? (i := 3) rfl))) (by decide) (backOf (W := 0) (opN l Z a0 hw [] (xi.toUInt32.toUInt16.toUInt32.toInt32) wV kc wC wS h0 n0 O0 G0 G1 G2 G3 G4 (fun q => hc51 (Eq.symm q)) (fun q => hc65 (Eq.symm q))) hZ (hw _ (List.mem_of_getElem? (i := 3) rfl)) (hw _ (List.mem_of_getElem? (i := 2) rfl)) (by decide) (by decide)) (g := (mkF m 42 #[.val (.int pi), .val (.int xi), .val (.int (pi &&& (3 : Int32))), .val (.int (xi.toUInt32.toUInt16.toUInt32.toInt32)), .unset, .unset] [(.int (xi.toUInt32.toUInt16.toUInt32.toInt32))])) rfl (by rw [hml]; rfl) (argsL := [(.int (xi.toUInt32.toUInt16.toUInt32.toInt32))]) (rest := []) (lenOf pd_1 rfl) rfl (by show 2 * 0 + _ ≤ _; exact Nat.le_of_eq rfl) (hb hby at_42) (fun _ _ => ⟨rfl, e0, (by decide : 0 + 1 ≤ _), (by decide : 0 + 2 ≤ _)⟩)
  dsimp only [Pt.U, Pt.locs, Pt.cells, Pt.slots] at X1 l1 y1 z1 st1 hQ1
  subst l1 y1 z1
  obtain ⟨rfl, Nq1, kh1⟩ := hQ1
  have N1 := Fr.app N0 Nq1
  have O1 := O0.keep kh1 all0
  have K1 : Keep h0 T1.heap [] := (Keep.refl h0 []).trans kh1 all0
  obtain ⟨fs, hr, hrun, hended, hW, hsame⟩ := X1.leave (v := some (.int (1 : Int32))) (fun h => by rw [Bd.returns] at h; cases h)
  refine ⟨_, _, pre0 _ ?_, hrun, hended, _, _, rfl, ?_, ⟨_, rfl⟩, hW, hsame.mono (by decide) (by decide)⟩
  · show Steps p.tables e below (s₁.setTop (mkF m 0 #[.val (.int pi), .val (.int xi), .unset, .unset, .unset, .unset] [])) _
    refine XS.iloadN X0.here hx rfl (hb hby at_0) rfl ?_
    show Steps p.tables e below (s₁.setTop (mkF m 1 #[.val (.int pi), .val (.int xi), .unset, .unset, .unset, .unset] [(.int pi)])) _
    refine XS.iconst X0.here hx rfl (hb hby at_1) ?_
    show Steps p.tables e below (s₁.setTop (mkF m 2 #[.val (.int pi), .val (.int xi), .unset, .unset, .unset, .unset] [(.int (3 : Int32)), (.int pi)])) _
    refine XS.iand X0.here hx rfl (hb hby at_2) rfl ?_
    show Steps p.tables e below (s₁.setTop (mkF m 3 #[.val (.int pi), .val (.int xi), .unset, .unset, .unset, .unset] [(.int (pi &&& (3 : Int32)))])) _
    refine XS.istoreN X0.here hx rfl (hb hby at_3) rfl (l' := #[.val (.int pi), .val (.int xi), .val (.int (pi &&& (3 : Int32))), .unset, .unset, .unset]) rfl ?_
    show Steps p.tables e below (s₁.setTop (mkF m 4 #[.val (.int pi), .val (.int xi), .val (.int (pi &&& (3 : Int32))), .unset, .unset, .unset] [])) _
    refine XS.iloadN X0.here hx rfl (hb hby at_4) rfl ?_
    show Steps p.tables e below (s₁.setTop (mkF m 5 #[.val (.int pi), .val (.int xi), .val (.int (pi &&& (3 : Int32))), .unset, .unset, .unset] [(.int (pi &&& (3 : Int32)))])) _
    refine XS.ifYes X0.here hx rfl (pc0 := 5) (pc' := 15) rfl (hb hby at_5) rfl ((if0 _ _).trans (feq (hc5 : ¬ ((pi &&& (3 : Int32)) = (0 : Int32)))).2) (by decide) (by decide) ?_
    show Steps p.tables e below (s₁.setTop (mkF m 15 #[.val (.int pi), .val (.int xi), .val (.int (pi &&& (3 : Int32))), .unset, .unset, .unset] [])) _
    refine XS.iloadN X0.here hx rfl (hb hby at_15) rfl ?_
    show Steps p.tables e below (s₁.setTop (mkF m 16 #[.val (.int pi), .val (.int xi), .val (.int (pi &&& (3 : Int32))), .unset, .unset, .unset] [(.int (pi &&& (3 : Int32)))])) _
    refine XS.iconst X0.here hx rfl (hb hby at_16) ?_
    show Steps p.tables e below (s₁.setTop (mkF m 17 #[.val (.int pi), .val (.int xi), .val (.int (pi &&& (3 : Int32))), .unset, .unset, .unset] [(.int (1 : Int32)), (.int (pi &&& (3 : Int32)))])) _
    refine XS.icmpYes X0.here hx rfl (pc0 := 17) (pc' := 26) rfl (hb hby at_17) rfl (feq (hc17 : ¬ ((pi &&& (3 : Int32)) = (1 : Int32)))).2 (by decide) (by decide) ?_
    show Steps p.tables e below (s₁.setTop (mkF m 26 #[.val (.int pi), .val (.int xi), .val (.int (pi &&& (3 : Int32))), .unset, .unset, .unset] [])) _
    refine XS.iloadN X0.here hx rfl (hb hby at_26) rfl ?_
    show Steps p.tables e below (s₁.setTop (mkF m 27 #[.val (.int pi), .val (.int xi), .val (.int (pi &&& (3 : Int32))), .unset, .unset, .unset] [(.int (pi &&& (3 : Int32)))])) _
    refine XS.iconst X0.here hx rfl (hb hby at_27) ?_
    show Steps p.tables e below (s₁.setTop (mkF m 28 #[.val (.int pi), .val (.int xi), .val (.int (pi &&& (3 : Int32))), .unset, .unset, .unset] [(.int (2 : Int32)), (.int (pi &&& (3 : Int32)))])) _
    refine XS.icmpYes X0.here hx rfl (pc0 := 28) (pc' := 38) rfl (hb hby at_28) rfl (feq (hc28 : ¬ ((pi &&& (3 : Int32)) = (2 : Int32)))).2 (by decide) (by decide) ?_
    show Steps p.tables e below (s₁.setTop (mkF m 38 #[.val (.int pi), .val (.int xi), .val (.int (pi &&& (3 : Int32))), .unset, .unset, .unset] [])) _
    refine XS.iloadN X0.here hx rfl (hb hby at_38) rfl ?_
    show Steps p.tables e below (s₁.setTop (mkF m 39 #[.val (.int pi), .val (.int xi), .val (.int (pi &&& (3 : Int32))), .unset, .unset, .unset] [(.int xi)])) _
    refine XS.i2c X0.here hx rfl (hb hby at_39) rfl ?_
    show Steps p.tables e below (s₁.setTop (mkF m 40 #[.val (.int pi), .val (.int xi), .val (.int (pi &&& (3 : Int32))), .unset, .unset, .unset] [(.int (xi.toUInt32.toUInt16.toUInt32.toInt32))])) _
    refine XS.istoreN X0.here hx rfl (hb hby at_40) rfl (l' := #[.val (.int pi), .val (.int xi), .val (.int (pi &&& (3 : Int32))), .val (.int (xi.toUInt32.toUInt16.toUInt32.toInt32)), .unset, .unset]) rfl ?_
    show Steps p.tables e below (s₁.setTop (mkF m 41 #[.val (.int pi), .val (.int xi), .val (.int (pi &&& (3 : Int32))), .val (.int (xi.toUInt32.toUInt16.toUInt32.toInt32)), .unset, .unset] [])) _
    refine XS.iloadN X0.here hx rfl (hb hby at_41) rfl ?_
    show Steps p.tables e below (s₁.setTop (mkF m 42 #[.val (.int pi), .val (.int xi), .val (.int (pi &&& (3 : Int32))), .val (.int (xi.toUInt32.toUInt16.toUInt32.toInt32)), .unset, .unset] [(.int (xi.toUInt32.toUInt16.toUInt32.toInt32))])) _
    refine st1 _ ?_
    show Steps p.tables e below (T1.setTop (mkF m 45 #[.val (.int pi), .val (.int xi), .val (.int (pi &&& (3 : Int32))), .val (.int (xi.toUInt32.toUInt16.toUInt32.toInt32)), .unset, .unset] [.null])) _
    refine XS.astore X1.here hx rfl (hb hby at_45) rfl rfl (l' := #[.val (.int pi), .val (.int xi), .val (.int (pi &&& (3 : Int32))), .val (.int (xi.toUInt32.toUInt16.toUInt32.toInt32)), .val .null, .unset]) rfl ?_
    show Steps p.tables e below (T1.setTop (mkF m 47 #[.val (.int pi), .val (.int xi), .val (.int (pi &&& (3 : Int32))), .val (.int (xi.toUInt32.toUInt16.toUInt32.toInt32)), .val .null, .unset] [])) _
    refine XS.iloadN X1.here hx rfl (hb hby at_47) rfl ?_
    show Steps p.tables e below (T1.setTop (mkF m 48 #[.val (.int pi), .val (.int xi), .val (.int (pi &&& (3 : Int32))), .val (.int (xi.toUInt32.toUInt16.toUInt32.toInt32)), .val .null, .unset] [(.int (xi.toUInt32.toUInt16.toUInt32.toInt32))])) _
    refine XS.sipush X1.here hx rfl (hb hby at_48) ?_
    show Steps p.tables e below (T1.setTop (mkF m 51 #[.val (.int pi), .val (.int xi), .val (.int (pi &&& (3 : Int32))), .val (.int (xi.toUInt32.toUInt16.toUInt32.toInt32)), .val .null, .unset] [(.int (8220 : Int32)), (.int (xi.toUInt32.toUInt16.toUInt32.toInt32))])) _
    refine XS.icmpYes X1.here hx rfl (pc0 := 51) (pc' := 62) rfl (hb hby at_51) rfl (feq (hc51 : ¬ ((xi.toUInt32.toUInt16.toUInt32.toInt32) = (8220 : Int32)))).2 (by decide) (by decide) ?_
    show Steps p.tables e below (T1.setTop (mkF m 62 #[.val (.int pi), .val (.int xi), .val (.int (pi &&& (3 : Int32))), .val (.int (xi.toUInt32.toUInt16.toUInt32.toInt32)), .val .null, .unset] [])) _
    refine XS.iloadN X1.here hx rfl (hb hby at_62) rfl ?_
    show Steps p.tables e below (T1.setTop (mkF m 63 #[.val (.int pi), .val (.int xi), .val (.int (pi &&& (3 : Int32))), .val (.int (xi.toUInt32.toUInt16.toUInt32.toInt32)), .val .null, .unset] [(.int (xi.toUInt32.toUInt16.toUInt32.toInt32))])) _
    refine XS.bipush X1.here hx rfl (hb hby at_63) ?_
    show Steps p.tables e below (T1.setTop (mkF m 65 #[.val (.int pi), .val (.int xi), .val (.int (pi &&& (3 : Int32))), .val (.int (xi.toUInt32.toUInt16.toUInt32.toInt32)), .val .null, .unset] [(.int (34 : Int32)), (.int (xi.toUInt32.toUInt16.toUInt32.toInt32))])) _
    refine XS.icmpYes X1.here hx rfl (pc0 := 65) (pc' := 76) rfl (hb hby at_65) rfl (feq (hc65 : ¬ ((xi.toUInt32.toUInt16.toUInt32.toInt32) = (34 : Int32)))).2 (by decide) (by decide) ?_
    show Steps p.tables e below (T1.setTop (mkF m 76 #[.val (.int pi), .val (.int xi), .val (.int (pi &&& (3 : Int32))), .val (.int (xi.toUInt32.toUInt16.toUInt32.toInt32)), .val .null, .unset] [])) _
    refine XS.aconstNull X1.here hx rfl (hb hby at_76) ?_
    show Steps p.tables e below (T1.setTop (mkF m 77 #[.val (.int pi), .val (.int xi), .val (.int (pi &&& (3 : Int32))), .val (.int (xi.toUInt32.toUInt16.toUInt32.toInt32)), .val .null, .unset] [.null])) _
    refine XS.astore X1.here hx rfl (hb hby at_77) rfl rfl (l' := #[.val (.int pi), .val (.int xi), .val (.int (pi &&& (3 : Int32))), .val (.int (xi.toUInt32.toUInt16.toUInt32.toInt32)), .val .null, .val .null]) rfl ?_
    show Steps p.tables e below (T1.setTop (mkF m 79 #[.val (.int pi), .val (.int xi), .val (.int (pi &&& (3 : Int32))), .val (.int (xi.toUInt32.toUInt16.toUInt32.toInt32)), .val .null, .val .null] [])) _
    refine XS.aload X1.here hx rfl (hb hby at_79) rfl rfl ?_
    show Steps p.tables e below (T1.setTop (mkF m 81 #[.val (.int pi), .val (.int xi), .val (.int (pi &&& (3 : Int32))), .val (.int (xi.toUInt32.toUInt16.toUInt32.toInt32)), .val .null, .val .null] [.null])) _
    refine XS.aload X1.here hx rfl (hb hby at_81) rfl rfl ?_
    show Steps p.tables e below (T1.setTop (mkF m 83 #[.val (.int pi), .val (.int xi), .val (.int (pi &&& (3 : Int32))), .val (.int (xi.toUInt32.toUInt16.toUInt32.toInt32)), .val .null, .val .null] [.null, .null])) _
    refine Jvm.RoadKit.acmp (g := (mkF m 83 #[.val (.int pi), .val (.int xi), .val (.int (pi &&& (3 : Int32))), .val (.int (xi.toUInt32.toUInt16.toUInt32.toInt32)), .val .null, .val .null] [.null, .null])) X1 hx rfl rfl rfl (pc0 := 83) (pc' := 86) (same := true) rfl (hb hby at_83) rfl (decide_eq_true rfl) (by decide) (by decide) ?_
    show Steps p.tables e below (T1.setTop (mkF m 86 #[.val (.int pi), .val (.int xi), .val (.int (pi &&& (3 : Int32))), .val (.int (xi.toUInt32.toUInt16.toUInt32.toInt32)), .val .null, .val .null] [])) _
    refine XS.iconst X1.here hx rfl (hb hby at_86) ?_
    show Steps p.tables e below (T1.setTop (mkF m 87 #[.val (.int pi), .val (.int xi), .val (.int (pi &&& (3 : Int32))), .val (.int (xi.toUInt32.toUInt16.toUInt32.toInt32)), .val .null, .val .null] [(.int (1 : Int32))])) _
    refine XS.goto X1.here hx rfl (pc0 := 87) (pc' := 91) rfl (hb hby at_87) (by decide) (by decide) ?_
    show Steps p.tables e below (T1.setTop (mkF m 91 #[.val (.int pi), .val (.int xi), .val (.int (pi &&& (3 : Int32))), .val (.int (xi.toUInt32.toUInt16.toUInt32.toInt32)), .val .null, .val .null] [(.int (1 : Int32))])) _
    exact retN X1 hx (t := .boolean) Bd.returns (by simp) (hb hby at_91) hr
  · show Q_law Z pi xi wV kc wC wS h0 n0 _ T1.heap _
    exact ⟨rfl, N1⟩
set_option maxRecDepth 65536 in
set_option maxHeartbeats 40000000 in
theorem law (l : Launch) (Z : State) (a0 : Array Value) (hw : ∀ d ∈ tables_1, d.before a0 Z = true) (ws : List Jvm.Cond) (pi : Int32) (xi : Int32) (wV : Addr) (kc : ClassId) (wC : Addr) (wS : Addr) (h0 : Heap) (n0 : Nat) (O0 : Old Z n0 h0) (G0 : Sta Z Z.heap "com/example/recital/recital/amendment/Marks" "$VALUES" "[Lcom/example/recital/recital/amendment/Marks;" (.ref wV)) (G1 : Arv Z Z.heap wV kc (.object "com/example/recital/recital/amendment/Marks") (2 : Int32) [(.ref wC), (.ref wS)] .null) (G2 : Exa Z Z.heap wV "[Lcom/example/recital/recital/amendment/Marks;") (G3 : Fld Z Z.heap wC "com/example/recital/recital/amendment/Marks" "opening" "C" (.int (8220 : Int32))) (G4 : Fld Z Z.heap wS "com/example/recital/recital/amendment/Marks" "opening" "C" (.int (34 : Int32))) (G5 : Sta Z Z.heap "com/example/recital/recital/amendment/Marks" "CURLY" "Lcom/example/recital/recital/amendment/Marks;" (.ref wC)) (G6 : Sta Z Z.heap "com/example/recital/recital/amendment/Marks" "STRAIGHT" "Lcom/example/recital/recital/amendment/Marks;" (.ref wS)) :
    MetFree l x (head1 (Jvm.Cond.code x code maxLocals ret :: ws) room_1) (fun zA zU => zA = #[(.int pi), (.int xi)] ∧ Z.Warmed39 zU.vm ∧ zU.heap = h0) (fun _ _ _ _ _ => True) (fun _ zU zo zU' => ∃ zv zL, zo = .returned zv ∧ Q_law Z pi xi wV kc wC wS h0 n0 zv zU'.heap zL ∧ FrameEnd zU zo zU' zL room_1.cells room_1.slots) := by
  by_cases h0' : (pi &&& (3 : Int32)) = (0 : Int32)
  · exact law_0 l Z a0 hw ws pi xi wV kc wC wS h0 n0 O0 G0 G1 G2 G3 G4 G5 G6 h0'
  · by_cases h1 : (pi &&& (3 : Int32)) = (1 : Int32)
    · exact law_1 l Z a0 hw ws pi xi wV kc wC wS h0 n0 O0 G0 G1 G2 G3 G4 G5 G6 h0' h1
    · by_cases h2 : (pi &&& (3 : Int32)) = (2 : Int32)
      · exact law_2 l Z a0 hw ws pi xi wV kc wC wS h0 n0 O0 G0 G1 G2 G3 G4 G5 G6 h0' h1 h2
      · by_cases h3 : (xi.toUInt32.toUInt16.toUInt32.toInt32) = (8220 : Int32)
        · exact law_3 l Z a0 hw ws pi xi wV kc wC wS h0 n0 O0 G0 G1 G2 G3 G4 G5 G6 h0' h1 h2 h3
        · by_cases h4 : (xi.toUInt32.toUInt16.toUInt32.toInt32) = (34 : Int32)
          · exact law_4 l Z a0 hw ws pi xi wV kc wC wS h0 n0 O0 G0 G1 G2 G3 G4 G5 G6 h0' h1 h2 h3 h4
          · exact law_5 l Z a0 hw ws pi xi wV kc wC wS h0 n0 O0 G0 G1 G2 G3 G4 G5 G6 h0' h1 h2 h3 h4
set_option maxRecDepth 65536 in
set_option maxHeartbeats 40000000 in
theorem comes_1 {Post : Tables → Env → Array Value → State → Outcome → State → Prop} (hpost : ∀ tb e args s v u, (limb_1_1.after args s (.returned v) u = true ∧ limb_1_2.after args s (.returned v) u = true ∧ True) → FrameEnd s (.returned v) u (Jvm.fieldLocs frame_1_writes args s ++ Jvm.arrayLocs frame_1_arrays args s ++ Jvm.staticLocs frame_1_statics s) 16 128 → Post tb e args s (.returned v) u) :
    ArmFor flags0 classFile x code maxLocals ret World_1 tables_1 room_1 Calls_1 rest_1 Pre_1 Post := by
  intro l hfl _ _ p e ha hc hk s m args below hf hA hF happ hP
  obtain ⟨hcalls, hrest, hpre⟩ := hP
  obtain ⟨-, -, -, hnamed, -, -, -, hat⟩ := (Spec.applies_iff hf).mp happ
  obtain ⟨hg, hn⟩ := and_e (Cond.before_iff.mp (show (Jvm.Cond.and given_1 narrow_1).before args s = true from hpre))
  obtain ⟨gA0, gB0⟩ := and_e hg
  obtain ⟨gA1, gB1⟩ := and_e gB0
  obtain ⟨w0, w1, rfl⟩ : ∃ w0 w1 : Value, args = #[w0, w1] := by
    have hs : args.size = 2 := by simpa [Cond.value, given_1] using gA0
    obtain ⟨L⟩ := args
    match L, hs with
    | [w0, w1], _ => exact ⟨w0, w1, rfl⟩
  have hw := fun d (hd : d ∈ tables_1) => atoms_spec (ws := Jvm.Cond.code x code maxLocals ret :: tables_1) hat d (List.mem_cons_of_mem _ hd)
  have hfit : Fit s := fun {y c} hc i hi => by
    obtain ⟨ha, rfl⟩ := Array.getElem?_eq_some_iff.mp hc
    have q := List.all_eq_true.mp ((Array.all_eq_true_iff_forall_mem.mp hF) _ (Array.getElem_mem ha)) i (List.mem_range.mpr hi)
    simpa [Array.getElem?_eq_getElem hi] using q
  obtain ⟨i0, ei0⟩ := is_v gA1
  obtain rfl : w0 = (.int i0) := Option.some.inj ei0
  obtain ⟨i1, ei1⟩ := is_v gB1
  obtain rfl : w1 = (.int i1) := Option.some.inj ei1
  obtain ⟨g1, hn⟩ := and_e hn
  obtain ⟨g2, hn⟩ := and_e hn
  obtain ⟨g3, hn⟩ := and_e hn
  obtain ⟨g4, hn⟩ := and_e hn
  obtain ⟨g5, hn⟩ := and_e hn
  obtain ⟨g6, hn⟩ := and_e hn
  obtain ⟨g7, hn⟩ := and_e hn
  obtain ⟨g8, hn⟩ := and_e hn
  obtain ⟨wV, vV, EV⟩ := own_exa g2
  obtain ⟨cl, AR⟩ := Arr.start vV g1
  obtain ⟨wC, vC, EC⟩ := own_exa g4
  obtain ⟨wS, vS, ES⟩ := own_exa g6
  have FC := own_fld vC (own_eqI g8)
  have FS := own_fld vS (own_eqI hn)
  obtain ⟨hsz, hsize⟩ := Jvm.Free.IntBox.length_fwd (Cond.before_iff.mpr g3) vV AR.1 AR.2.1 AR.2.2
  have c0 := (elem_in (own_eqR g5 vC) vV rfl AR.1).2
  have c1 := (elem_in (own_eqR g7 vS) vV rfl AR.1).2
  have AA : Arv s s.heap wV cl.cls (.object "com/example/recital/recital/amendment/Marks") (2 : Int32) [(.ref wC), (.ref wS)] .null := Arv.start hfit AR hsz hsize (by decide) rfl ⟨c0, c1, trivial⟩
  have SV := Sta.start vV (Or.inr ⟨(hw _ (List.mem_of_getElem? (i := 2) rfl)), (hw _ (List.mem_of_getElem? (i := 8) rfl))⟩)
  have SC := Sta.start vC (Or.inr ⟨(hw _ (List.mem_of_getElem? (i := 2) rfl)), (hw _ (List.mem_of_getElem? (i := 16) rfl))⟩)
  have SS := Sta.start vS (Or.inr ⟨(hw _ (List.mem_of_getElem? (i := 2) rfl)), (hw _ (List.mem_of_getElem? (i := 17) rfl))⟩)
  obtain ⟨n, o, h1, h2, h3, _, L, rfl, ⟨rfl, N⟩, hq⟩ := law l s _ hw tables_1 i0 i1 wV cl.cls wC wS s.heap s.heap.size (Old.start s) SV AA EV FC FS SC SS p e ha hc hk s m _ below hf ((Spec.applies_iff_loose hf).mp happ).1 ⟨rfl, State.Warmed39.refl s, rfl⟩ trivial
  refine ⟨n, _, h1, h2, h3, hpost _ _ _ _ _ _ ⟨Cond.after_iff.mpr rfl, Cond.after_iff.mpr (eq_i res_at (Term.int_eval (1)) rfl), trivial⟩ ⟨hq.1, hq.2.1, (hq.2.2.sift fun y hy => Or.inr (N y hy)).mono (by decide) (by decide)⟩⟩
theorem main_1_1 : Claimed_1_1 := comes_1 fun _ _ _ _ _ _ h hF => ⟨h.1, hF⟩
theorem main_1_2 : Claimed_1_2 := comes_1 fun _ _ _ _ _ _ h hF => ⟨h.2.1, hF⟩
end Jvm.Pilot.@@N@@
namespace Jvm.Pilot.@@N@@
open Jvm Jvm.ClassFile Sem Op Lib Jvm.Free Jvm.Stand Jvm.Pilot.@@N@@.Jvm.D
/-! MADE BY PROGRAM (witnessworld.py) out of the Statement's table words and the real class files: 13 classes; the members and pool entries that the words name. The judged class is class 1, her method 1. -/
namespace start1
open Jvm.ClassFile
def u (s : String) : CpInfo := .utf8 (stringToUtf16 s)
/-- a pool by its gaps: so many unusable entries, then the entry; so many at the end -/
def gap : Nat → List CpInfo → List CpInfo
  | 0, r => r
  | n + 1, r => .unusable :: gap n r
def poolList (es : List (Nat × CpInfo)) (last : Nat) : List CpInfo := es.foldr (fun e r => gap e.1 (e.2 :: r)) (gap last [])
def pool (es : List (Nat × CpInfo)) (last : Nat) : Array CpInfo := ⟨poolList es last⟩
def fileOf (pool : Array CpInfo) (this : Nat) (attrs : Array Attribute := #[]) (ms : Array MethodInfo := #[]) (fl : Nat := 33) (sup : Nat := 0) (ifs : Array Nat := #[]) (fds : Array FieldInfo := #[]) : ClassFile where
  minorVersion := 0
  majorVersion := 65
  constantPool := pool
  accessFlags := fl
  thisClass := this
  superClass := sup
  interfaces := ifs
  fields := fds
  methods := ms
  attributes := attrs
def plain (name : String) (sup : Option ClassId) : Class where
  name := name
  kind := .ordinary
  loader := none
  accessFlags := 33
  super := sup
  interfaces := #[]
  cf := none
  fields := #[]
  methods := #[]
  instanceTypes := #[]
  staticTypes := #[]
  resolved := #[]
  callSites := []
  init := .initialized
  statics := none
  mirror := none

def pool0 : Array CpInfo := pool [(5, u "<init>"), (0, u "()V"), (1, .class_ 10), (1, u "java/lang/Object"), (85, u "clone"), (0, u "()Ljava/lang/Object;")] 26

def k0m0 : Method := { name := "<init>", desc := "()V", sig := { parameters := [], returnType := none }, accessFlags := 1, code := none }
def k0m1 : Method := { name := "clone", desc := "()Ljava/lang/Object;", sig := { parameters := [], returnType := some (.object "java/lang/Object") }, accessFlags := 260, code := none }
/-- java/lang/Object -/
def k0 : Class := { plain "java/lang/Object" none with
  accessFlags := 33
  interfaces := #[]
  cf := some (fileOf pool0 8 #[] #[{ accessFlags := 1, nameIndex := 5, descriptorIndex := 6, attributes := #[] }, { accessFlags := 260, nameIndex := 96, descriptorIndex := 97, attributes := #[] }] 33 0 #[] #[])
  fields := #[]
  methods := #[k0m0, k0m1]
  instanceTypes := #[]
  staticTypes := #[]
  resolved := Array.replicate 124 none
  statics := none }

def pool1 : Array CpInfo := pool [(2, .class_ 4), (1, u "java/lang/Object"), (0, u "<init>"), (0, u "()V"), (0, .methodref 8 9), (0, .class_ 10), (0, .nameAndType 11 12), (0, u "com/example/recital/recital/amendment/Marks"), (0, u "opening"), (0, u "(C)Lcom/example/recital/recital/amendment/Marks;"), (0, .fieldref 8 14), (0, .nameAndType 15 16), (0, u "CURLY"), (0, u "Lcom/example/recital/recital/amendment/Marks;"), (0, .fieldref 8 18), (0, .nameAndType 19 16), (0, u "STRAIGHT"), (0, .class_ 21), (0, u "com/example/recital/recital/amendment/MarksOpeningPinLaw"), (2, u "law"), (0, u "(II)Z")] 3

def k1m0 : Method := { name := "<init>", desc := "()V", sig := { parameters := [], returnType := none }, accessFlags := 1, code := none }
def k1c1 : Code := { maxStack := 2, maxLocals := 6, code := code, exceptionTable := #[], attributes := #[] }
def k1m1 : Method := { name := "law", desc := "(II)Z", sig := { parameters := [.int, .int], returnType := some .boolean }, accessFlags := 9, code := some k1c1 }
/-- com/example/recital/recital/amendment/MarksOpeningPinLaw -/
def k1 : Class := { plain "com/example/recital/recital/amendment/MarksOpeningPinLaw" (some 0) with
  accessFlags := 49
  interfaces := #[]
  cf := some (fileOf pool1 20 #[] #[{ accessFlags := 1, nameIndex := 5, descriptorIndex := 6, attributes := #[] }, { accessFlags := 9, nameIndex := 24, descriptorIndex := 25, attributes := #[] }] 49 2 #[] #[])
  fields := #[]
  methods := #[k1m0, k1m1]
  instanceTypes := #[]
  staticTypes := #[]
  resolved := Array.replicate 29 none
  statics := none }

def pool2 : Array CpInfo := pool [(1, .class_ 2), (0, u "java/lang/constant/Constable"), (0, .class_ 4), (0, u "java/lang/Object")] 6

/-- java/lang/constant/Constable -/
def k2 : Class := { plain "java/lang/constant/Constable" (some 0) with
  accessFlags := 1537
  interfaces := #[]
  cf := some (fileOf pool2 1 #[] #[] 1537 3 #[] #[])
  fields := #[]
  methods := #[]
  instanceTypes := #[]
  staticTypes := #[]
  resolved := Array.replicate 11 none
  statics := none }

def pool3 : Array CpInfo := pool [(1, .class_ 2), (0, u "java/lang/Comparable"), (0, .class_ 4), (0, u "java/lang/Object")] 7

/-- java/lang/Comparable -/
def k3 : Class := { plain "java/lang/Comparable" (some 0) with
  accessFlags := 1537
  interfaces := #[]
  cf := some (fileOf pool3 1 #[] #[] 1537 3 #[] #[])
  fields := #[]
  methods := #[]
  instanceTypes := #[]
  staticTypes := #[]
  resolved := Array.replicate 12 none
  statics := none }

def pool4 : Array CpInfo := pool [(1, .class_ 2), (0, u "java/io/Serializable"), (0, .class_ 4), (0, u "java/lang/Object")] 2

/-- java/io/Serializable -/
def k4 : Class := { plain "java/io/Serializable" (some 0) with
  accessFlags := 1537
  interfaces := #[]
  cf := some (fileOf pool4 1 #[] #[] 1537 3 #[] #[])
  fields := #[]
  methods := #[]
  instanceTypes := #[]
  staticTypes := #[]
  resolved := Array.replicate 7 none
  statics := none }

def pool5 : Array CpInfo := pool [(2, .class_ 4), (1, u "java/lang/Enum"), (0, u "name"), (0, u "Ljava/lang/String;"), (2, u "ordinal"), (0, u "I"), (1, .class_ 14), (1, u "java/lang/Object"), (4, u "hash"), (86, .class_ 108), (1, u "java/lang/Enum$EnumDesc"), (2, .class_ 112), (0, u "java/lang/constant/Constable"), (0, .class_ 114), (0, u "java/lang/Comparable"), (0, .class_ 116), (0, u "java/io/Serializable")] 87

/-- java/lang/Enum -/
def k5 : Class := { plain "java/lang/Enum" (some 0) with
  accessFlags := 1057
  interfaces := #[2, 3, 4]
  cf := some (fileOf pool5 2 #[.nestMembers #[106]] #[] 1057 12 #[111, 113, 115] #[{ accessFlags := 18, nameIndex := 5, descriptorIndex := 6, attributes := #[] }, { accessFlags := 18, nameIndex := 9, descriptorIndex := 10, attributes := #[] }, { accessFlags := 2, nameIndex := 19, descriptorIndex := 10, attributes := #[] }])
  fields := #[{ name := "name", type := (.object "java/lang/String"), accessFlags := 18, slot := 0, constantValue := 0 }, { name := "ordinal", type := .int, accessFlags := 18, slot := 1, constantValue := 0 }, { name := "hash", type := .int, accessFlags := 2, slot := 2, constantValue := 0 }]
  methods := #[]
  instanceTypes := #[(.object "java/lang/String"), .int, .int]
  staticTypes := #[]
  resolved := Array.replicate 204 none
  statics := none }

def pool6 : Array CpInfo := pool [(1, .class_ 2), (0, u "com/example/recital/recital/amendment/Marks"), (2, u "CURLY"), (0, u "Lcom/example/recital/recital/amendment/Marks;"), (2, u "STRAIGHT"), (0, .fieldref 1 11), (0, .nameAndType 12 13), (0, u "$VALUES"), (0, u "[Lcom/example/recital/recital/amendment/Marks;"), (0, .methodref 15 16), (0, .class_ 13), (0, .nameAndType 17 18), (0, u "clone"), (0, u "()Ljava/lang/Object;"), (1, .class_ 22), (1, u "java/lang/Enum"), (6, .fieldref 1 30), (0, .nameAndType 31 32), (0, u "opening"), (0, u "C"), (2, u "closing"), (0, .methodref 1 37), (0, .nameAndType 38 39), (0, u "values"), (0, u "()[Lcom/example/recital/recital/amendment/Marks;"), (40, u "(C)Lcom/example/recital/recital/amendment/Marks;")] 8

def k6c0 : Code := { maxStack := 1, maxLocals := 0, code := prog_22_method_1_code, exceptionTable := #[], attributes := #[] }
def k6m0 : Method := { name := "values", desc := "()[Lcom/example/recital/recital/amendment/Marks;", sig := { parameters := [], returnType := some (.array (.object "com/example/recital/recital/amendment/Marks")) }, accessFlags := 9, code := some k6c0 }
def k6c1 : Code := { maxStack := 2, maxLocals := 5, code := prog_22_method_4_code, exceptionTable := #[], attributes := #[] }
def k6m1 : Method := { name := "opening", desc := "(C)Lcom/example/recital/recital/amendment/Marks;", sig := { parameters := [.char], returnType := some (.object "com/example/recital/recital/amendment/Marks") }, accessFlags := 8, code := some k6c1 }
/-- com/example/recital/recital/amendment/Marks -/
def k6 : Class := { plain "com/example/recital/recital/amendment/Marks" (some 5) with
  accessFlags := 16432
  interfaces := #[]
  cf := some (fileOf pool6 1 #[] #[{ accessFlags := 9, nameIndex := 38, descriptorIndex := 39, attributes := #[] }, { accessFlags := 8, nameIndex := 31, descriptorIndex := 80, attributes := #[] }] 16432 20 #[] #[{ accessFlags := 16409, nameIndex := 5, descriptorIndex := 6, attributes := #[] }, { accessFlags := 16409, nameIndex := 9, descriptorIndex := 6, attributes := #[] }, { accessFlags := 18, nameIndex := 31, descriptorIndex := 32, attributes := #[] }, { accessFlags := 18, nameIndex := 35, descriptorIndex := 32, attributes := #[] }, { accessFlags := 4122, nameIndex := 12, descriptorIndex := 13, attributes := #[] }])
  fields := #[{ name := "CURLY", type := (.object "com/example/recital/recital/amendment/Marks"), accessFlags := 16409, slot := 0, constantValue := 0 }, { name := "STRAIGHT", type := (.object "com/example/recital/recital/amendment/Marks"), accessFlags := 16409, slot := 1, constantValue := 0 }, { name := "opening", type := .char, accessFlags := 18, slot := 3, constantValue := 0 }, { name := "closing", type := .char, accessFlags := 18, slot := 4, constantValue := 0 }, { name := "$VALUES", type := (.array (.object "com/example/recital/recital/amendment/Marks")), accessFlags := 4122, slot := 2, constantValue := 0 }]
  methods := #[k6m0, k6m1]
  instanceTypes := #[(.object "java/lang/String"), .int, .int, .char, .char]
  staticTypes := #[(.object "com/example/recital/recital/amendment/Marks"), (.object "com/example/recital/recital/amendment/Marks"), (.array (.object "com/example/recital/recital/amendment/Marks"))]
  resolved := Array.replicate 89 none
  statics := some 0 }

def pool7 : Array CpInfo := pool [(1, .class_ 2), (0, u "java/lang/Cloneable"), (0, .class_ 4), (0, u "java/lang/Object")] 2

/-- java/lang/Cloneable -/
def k7 : Class := { plain "java/lang/Cloneable" (some 0) with
  accessFlags := 1537
  interfaces := #[]
  cf := some (fileOf pool7 1 #[] #[] 1537 3 #[] #[])
  fields := #[]
  methods := #[]
  instanceTypes := #[]
  staticTypes := #[]
  resolved := Array.replicate 7 none
  statics := none }

/-- the primitive byte -/
def k8 : Class := { plain "byte" none with kind := .primitive 'B', accessFlags := 0x411 }
/-- [B -/
def k9 : Class := { plain "[B" (some 0) with kind := .array 8 .byte, interfaces := #[7, 4], accessFlags := 1041 }

/-- the primitive int -/
def k10 : Class := { plain "int" none with kind := .primitive 'I', accessFlags := 0x411 }
/-- [I -/
def k11 : Class := { plain "[I" (some 0) with kind := .array 10 .int, interfaces := #[7, 4], accessFlags := 1041 }

/-- [Lcom/example/recital/recital/amendment/Marks; -/
def k12 : Class := { plain "[Lcom/example/recital/recital/amendment/Marks;" (some 0) with kind := .array 6 (.object "com/example/recital/recital/amendment/Marks"), interfaces := #[7, 4], accessFlags := 1041 }

def heap : Heap := #[{ cls := 6, slots := #[.ref 2, .ref 3, .ref 1], vm := .statics 6 },
  { cls := 12, slots := #[.ref 2, .ref 3], vm := .none },
  { cls := 6, slots := #[.null, .int 0, .int 0, .int 8220, .int 8221], vm := .none },
  { cls := 6, slots := #[.null, .int 1, .int 0, .int 34, .int 34], vm := .none }]
def classes : Array Class := #[k0, k1, k2, k3, k4, k5, k6, k7, k8, k9, k10, k11, k12]
def interned : List (Array UInt16 × Addr) := []
def slotsUsed : Nat := 15
def theMethod : MethodId := ⟨1, 1⟩
def args0 : Array Value := #[.int 5, .int 7]
def aboutOver (below : List Frame) : State where
  vm := { classes := classes, interned := interned.toArray }
  heap := heap
  slotsUsed := slotsUsed
  threads := #[{ frames := .invoking theMethod args0 :: below }]
def below0 : List Frame := [.native { method := ⟨0, 0⟩, args := #[] }]
def about1 : State := aboutOver below0
def p0 : Program := .bare "" "" ""
def e0 : Env := launch0.env 0 0 0
theorem w_frames : about1.frames = Frame.invoking theMethod args0 :: below0 := rfl
set_option maxRecDepth 65536 in
theorem w_args : argsFit about1.vm theMethod args0 = true := by decide +kernel
set_option maxRecDepth 65536 in
theorem w_heap : heapFits about1 = true := by decide +kernel
set_option maxRecDepth 65536 in
theorem w_runnable : about1.curStatus? = some .runnable := by decide +kernel
set_option maxRecDepth 65536 in
theorem w_alone : about1.alone = true := by decide +kernel
set_option maxRecDepth 65536 in
theorem w_named : about1.methodNamed? x = some theMethod := by decide +kernel
set_option maxRecDepth 65536 in
theorem w_hears : about1.hears theMethod below0 = true := by decide +kernel
set_option maxRecDepth 65536 in
theorem w_ripe : about1.ripe theMethod args0 below0 = true := by decide +kernel
theorem w_running : about1.status = .running := rfl
set_option maxRecDepth 65536 in
theorem w_room : about1.hasRoom e0.platform room_1 = true :=
  launch0.hasRoom_least _ room_1 (by decide +kernel) (by decide +kernel) (by decide +kernel) (by decide +kernel) (by decide +kernel) (by decide +kernel)
theorem allAtoms_all (ts : List Jvm.Cond) (a : Array Jvm.Value) (st : Jvm.State) : (allAtoms ts).before a st = ts.all (fun c => c.before a st) := by
  induction ts with
  | nil => rfl
  | cons c t ih =>
    show (Jvm.Cond.and c (allAtoms t)).before a st = _
    rw [Jvm.Cond.before_and, ih, List.all_cons]
def words1 : List Jvm.Cond := Jvm.Cond.code x code maxLocals ret :: tables_1
/-- a 'code' word, met by the world's own term for the bytes: nothing is compared byte by byte -/
theorem code_word {y : MethodName} {bytes : ByteArray} {mx : Nat} {rt : Option FieldType} {a : Array Value} {s : State} {m : MethodId} {meth : Method} {c : Code} (h1 : s.methodNamed? y = some m) (h2 : s.vm.method? m = some meth) (h3 : meth.code = some c) (h4 : c.code = bytes)
    (h5 : (c.maxLocals == mx && c.exceptionTable.isEmpty && decide (c.maxStack ≤ mostOperands) && decide (meth.sig.returnType = rt) && !meth.locks && decide (parseMethodDescriptor y.desc = some meth.sig)) = true) : (Jvm.Cond.code y bytes mx rt).before a s = true := by
  simp only [Bool.and_eq_true, beq_iff_eq, Bool.not_eq_true', decide_eq_true_eq] at h5
  obtain ⟨⟨⟨⟨⟨g1, g2⟩, g3⟩, g4⟩, g5⟩, g6⟩ := h5
  simp [Cond.before, Cond.holds, Cond.value, h1, h2, h3, h4, g1, g2, g3, g4, g5, g6]
def isCode : Jvm.Cond → Bool
  | .code _ _ _ _ => true
  | _ => false
theorem all_split {L : List Jvm.Cond} {P : Jvm.Cond → Bool} (h1 : L.all (fun c => isCode c || P c) = true) (h2 : ∀ c ∈ L.filter isCode, P c = true) : L.all P = true := by
  refine List.all_eq_true.mpr fun c hc => ?_
  have h := List.all_eq_true.mp h1 c hc
  rcases Bool.eq_false_or_eq_true (isCode c) with hi | hi
  · exact h2 c (List.mem_filter.mpr ⟨hc, hi⟩)
  · simpa [hi] using h
set_option maxRecDepth 65536 in
theorem w_c0 : (Jvm.Cond.code x code maxLocals ret).before args0 about1 = true := code_word (m := ⟨1, 1⟩) (meth := k1m1) (c := k1c1) (by decide +kernel) rfl rfl rfl (by decide +kernel)
set_option maxRecDepth 65536 in
theorem w_c1 : (Jvm.Cond.code ({ cls := "com/example/recital/recital/amendment/Marks", name := "opening", desc := "(C)Lcom/example/recital/recital/amendment/Marks;" } : Jvm.MethodName) prog_22_method_4_code (5 : Nat) (Option.some (Jvm.ClassFile.FieldType.object "com/example/recital/recital/amendment/Marks"))).before args0 about1 = true := code_word (m := ⟨6, 1⟩) (meth := k6m1) (c := k6c1) (by decide +kernel) rfl rfl rfl (by decide +kernel)
set_option maxRecDepth 65536 in
theorem w_c2 : (Jvm.Cond.code ({ cls := "com/example/recital/recital/amendment/Marks", name := "values", desc := "()[Lcom/example/recital/recital/amendment/Marks;" } : Jvm.MethodName) prog_22_method_1_code (0 : Nat) (Option.some (Jvm.ClassFile.FieldType.array (Jvm.ClassFile.FieldType.object "com/example/recital/recital/amendment/Marks")))).before args0 about1 = true := code_word (m := ⟨6, 0⟩) (meth := k6m0) (c := k6c0) (by decide +kernel) rfl rfl rfl (by decide +kernel)
def codes1 : List Jvm.Cond := [Jvm.Cond.code x code maxLocals ret, Jvm.Cond.code ({ cls := "com/example/recital/recital/amendment/Marks", name := "opening", desc := "(C)Lcom/example/recital/recital/amendment/Marks;" } : Jvm.MethodName) prog_22_method_4_code (5 : Nat) (Option.some (Jvm.ClassFile.FieldType.object "com/example/recital/recital/amendment/Marks")), Jvm.Cond.code ({ cls := "com/example/recital/recital/amendment/Marks", name := "values", desc := "()[Lcom/example/recital/recital/amendment/Marks;" } : Jvm.MethodName) prog_22_method_1_code (0 : Nat) (Option.some (Jvm.ClassFile.FieldType.array (Jvm.ClassFile.FieldType.object "com/example/recital/recital/amendment/Marks")))]
set_option maxRecDepth 65536 in
theorem codes_eq : words1.filter isCode = codes1 := rfl
theorem w_codes : ∀ c ∈ words1.filter isCode, c.before args0 about1 = true := by
  rw [codes_eq]
  intro c hc
  simp only [codes1, List.mem_cons, List.not_mem_nil, or_false] at hc
  rcases hc with rfl | rfl | rfl
  · exact w_c0
  · exact w_c1
  · exact w_c2
set_option maxRecDepth 65536 in
theorem w_t1 : (words1.take 24).all (fun c => isCode c || c.before args0 about1) = true := by decide +kernel
set_option maxRecDepth 65536 in
theorem w_t2 : (words1.drop 24).all (fun c => isCode c || c.before args0 about1) = true := by decide +kernel
theorem w_tables : (allAtoms (Jvm.Cond.code x code maxLocals ret :: tables_1)).before args0 about1 = true := by
  rw [allAtoms_all]
  show words1.all (fun c => c.before args0 about1) = true
  refine all_split ?_ w_codes
  rw [← List.take_append_drop 24 words1, List.all_append, w_t1, w_t2]
  rfl
set_option maxRecDepth 65536 in
theorem w_case : (Jvm.Cond.and given_1 narrow_1).before args0 about1 = true := by decide +kernel
theorem w_applies : (headSpec (Jvm.Cond.code x code maxLocals ret :: tables_1) room_1).applies x e0.platform about1 = true :=
  (Spec.applies_iff w_frames).mpr ⟨w_running, w_runnable, w_alone, w_named, w_hears, w_ripe, w_room, w_tables⟩
theorem atStart : AtStart classFile x code maxLocals ret World_1 tables_1 room_1 Calls_1 rest_1 Pre_1 launch0 p0 e0 about1 theMethod args0 below0 :=
  ⟨lists_1, trivial, launch0.admits_env _ _ _, launch0.least_env, fairChoices_fair.cas, fairChoices_fair.clock, w_frames, w_args, w_heap, w_applies, trivial, trivial, w_case⟩
end start1
theorem witness_1 : WitnessClaimed_1 := ⟨start1.p0, start1.e0, start1.about1, start1.theMethod, start1.args0, start1.below0, start1.atStart⟩
end Jvm.Pilot.@@N@@
