import JvmDerived
import JvmDerived.Pilot.@@N@@Statement
import JvmDerived.Pilot.@@N@@Code
set_option linter.unusedVariables false
set_option linter.unusedSimpArgs false
namespace Jvm.RoadKit
open Sem ClassFile Op Lib Jvm.Stand Jvm.Free Jvm.LawKit
section New
variable {p : Program} {l : Launch} {e : Env} {R : Room} {s : State} {m : MethodId} {args : Array Value} {below : List Frame} {meth : Method} {c : Code} {T : State} {locs : List Loc} {cells slots : Nat}
theorem retI (X : Stand p l e R s m args below meth c T locs cells slots) (hx : p.tables.exec = Jvm.exec) {pc : Nat} {Ls : Array Slot} {z : Int32} {rest : List Value} (hret : meth.sig.returnType = some .int) (hd : decode c.code pc = .ok (.ireturn, 1)) {fs : List Frame}
    (hl : ∀ (f : JFrame) (acts : List Action), f.method = m → f.locked = none → f.entered = [] → (doReturn e (T.setTop f) acts (some (.int z))).1 = T.setFrames fs) : Steps p.tables e below (T.setTop (mkF m pc Ls (.int z :: rest))) (T.setFrames fs) := by
  have hm' : T.vm.method? m = some meth := X.method'
  have hn : narrow .int (.int z) = .int z := rfl
  show Steps p.tables e below (T.setTop { method := m, pc := pc, locals := Ls, stack := _ :: rest, locked := none }) _
  jvm_step X.here [X.here.top, hx, hd, hm', hret, hn]
  first | (intro acts; rw [hl _ acts rfl rfl rfl]) | rw [hl _ _ rfl rfl rfl]
  exact Steps.refl _
theorem Arr.at_ {Z : State} {h : Heap} {a : Addr} {cl : Cell} {ty : FieldType} (A : Arr Z h a cl ty) {U : State} (q : U.heap = h) : U.heap[a]? = some cl := by rw [q]; exact A.1
end New
end Jvm.RoadKit
namespace Jvm.Pilot.@@N@@
open Jvm Jvm.ClassFile Sem Op Lib Jvm.Free Jvm.Stand Jvm.LawKit Jvm.RoadKit Bundle Jvm.Pilot.@@N@@.Jvm.D
theorem own_eqI {args : Array Value} {first s : State} {o : Option Outcome} {idx : List Nat} {t : Term} {n : Int32} (h : (Jvm.Cond.eq t (.int n)).value args first o s idx = some true) : t.eval args first o idx s = some (.int n) := by
  cases ht : t.eval args first o idx s with
  | none => simp [Jvm.Cond.value, Term.eval, ht] at h
  | some x => cases x <;> simp [Jvm.Cond.value, Term.eval, ht] at h ⊢; exact h
theorem own_eqL {args : Array Value} {first s : State} {o : Option Outcome} {idx : List Nat} {t : Term} {n : Int64} (h : (Jvm.Cond.eq t (.long n)).value args first o s idx = some true) : t.eval args first o idx s = some (.long n) := by
  cases ht : t.eval args first o idx s with
  | none => simp [Jvm.Cond.value, Term.eval, ht] at h
  | some x => cases x <;> simp [Jvm.Cond.value, Term.eval, ht] at h ⊢; exact h
theorem own_fld {args : Array Value} {Z : State} {t : Term} {a : Addr} {C n d : String} {v : Value} (ht : t.eval args Z none [] Z = some (.ref a)) (h : (Term.field t C n d).eval args Z none [] Z = some v) : Fld Z Z.heap a C n d v := Fld.start ((fld_at ht).symm.trans h)
theorem own_exa {args : Array Value} {Z : State} {t : Term} {C : String} (h : (Jvm.Cond.exactly t C).value args Z none Z [] = some true) : ∃ a, t.eval args Z none [] Z = some (.ref a) ∧ Exa Z Z.heap a C := by
  obtain ⟨a, e⟩ := exa_v h
  exact ⟨a, e, Exa.start e h⟩
def MirO (Z : State) (C : String) (m : Addr) : Prop := ∃ (c : ClassId) (k : Class), Z.vm.findClass C = some c ∧ Z.vm.classes[c]? = some k ∧ k.mirror = some m
def Q_ofT (Z : State) (wT : Addr) (h0 : Heap) (n0 : Nat) (v : Option Value) (h : Heap) (L : List Loc) : Prop := v = some (.ref wT) ∧ Fr n0 L ∧ h = h0
theorem d1_0 : decode prog_9_method_4_code 0 = .ok (.iload_n 0, 1) := by decide +kernel
theorem d1_1 : decode prog_9_method_4_code 1 = .ok (.ifCond .eq 9, 3) := by decide +kernel
theorem d1_4 : decode prog_9_method_4_code 4 = .ok (.getstatic 10, 3) := by decide +kernel
theorem d1_7 : decode prog_9_method_4_code 7 = .ok (.goto 6, 3) := by decide +kernel
theorem d1_13 : decode prog_9_method_4_code 13 = .ok (.areturn, 1) := by decide +kernel
theorem pn_2 : plainName "com/example/deposition/deposition/filter/Truth" = true := by first | (simp [plainName, overriddenIn]; done) | decide +kernel
theorem ef_1_I (m : MethodId) (x0 : Int32) : entryFrame m #[(.int x0)] 1 = mkF m 0 #[.val (.int x0)] [] := by first | (simp [entryFrame, mkF, argsToLocals, Value.category]; done) | rfl
set_option maxRecDepth 65536 in
set_option maxHeartbeats 40000000 in
theorem ofT (l : Launch) (Z : State) (a0 : Array Value) (hw : ∀ d ∈ tables_1, d.before a0 Z = true) (ws : List Jvm.Cond) (wT : Addr) (h0 : Heap) (n0 : Nat) (O0 : Old Z n0 h0) (G0 : Sta Z Z.heap "com/example/deposition/deposition/filter/Truth" "TRUE" "Lcom/example/deposition/deposition/filter/Truth;" (.ref wT)) :
    MetFree l (⟨"com/example/deposition/deposition/filter/Truth", "of", "(Z)Lcom/example/deposition/deposition/filter/Truth;"⟩ : MethodName) (head1 (Jvm.Cond.code (⟨"com/example/deposition/deposition/filter/Truth", "of", "(Z)Lcom/example/deposition/deposition/filter/Truth;"⟩ : MethodName) prog_9_method_4_code 1 (some (.object "com/example/deposition/deposition/filter/Truth")) :: ws) ({ frames := 0, cells := 0, slots := 0, locals := 0 } : Room)) (fun zA zU => zA = #[(.int (1 : Int32))] ∧ Z.Warmed39 zU.vm ∧ zU.heap = h0) (fun _ _ _ _ _ => True) (fun _ zU zo zU' => ∃ zv zL, zo = .returned zv ∧ Q_ofT Z wT h0 n0 zv zU'.heap zL ∧ FrameEnd zU zo zU' zL ({ frames := 0, cells := 0, slots := 0, locals := 0 } : Room).cells ({ frames := 0, cells := 0, slots := 0, locals := 0 } : Room).slots) := by
  refine MetFree.of_bodySF (plainFor_of_name pn_2) hisR ?_
  intro p e s m args below meth c s₁ Bd hml0 hP hK
  obtain ⟨rfl, hZ, hh⟩ := hP
  have hx := Bd.exec
  have hby := Bd.bytes
  have hml : c.maxLocals = 1 := hml0
  have hown : s.vm.findClass "com/example/deposition/deposition/filter/Truth" = some m.cls := findClass_of_methodNamed Bd.named
  have hnm := (name_of_methodNamed Bd.named Bd.method).1
  have X0 : Stand p l e ({ frames := 0, cells := 0, slots := 0, locals := 0 } : Room) s m #[(.int (1 : Int32))] below meth c s₁ [] 0 0 := Stand.of_body Bd
  have e0 : s₁.heap = h0 := by rw [← hh, Bd.state]; rfl
  have N0 := Fr.nil n0
  have Z0 : n0 ≤ h0.size := O0.1 ▸ O0.2.1
  have pre0 : ∀ zt, Steps p.tables e below (s₁.setTop (mkF m 0 #[.val (.int (1 : Int32))] [])) zt → Steps p.tables e below (s₁.setTop (entryFrame m #[(.int (1 : Int32))] 1)) zt := fun zt zk => castTop (ef_1_I m (1 : Int32)) zk
  obtain ⟨T1, X1, e1, st1⟩ := getS2 X0 hx hZ hown (host := "") (Or.inl (hw _ (List.mem_of_getElem? (i := 6) rfl))) Via.refl e0 (G0.ext O0.2) (g := (mkF m 4 #[.val (.int (1 : Int32))] [])) rfl (hb hby d1_4)
  obtain ⟨fs, hr, hrun, hended, hW, hsame⟩ := X1.leave (v := some (.ref wT)) (fun h => by rw [Bd.returns] at h; cases h)
  refine ⟨_, _, pre0 _ ?_, hrun, hended, _, _, rfl, ?_, ⟨_, rfl⟩, hW, hsame.mono (by decide) (by decide)⟩
  · show Steps p.tables e below (s₁.setTop (mkF m 0 #[.val (.int (1 : Int32))] [])) _
    refine XS.iloadN X0.here hx rfl (hb hby d1_0) rfl ?_
    show Steps p.tables e below (s₁.setTop (mkF m 1 #[.val (.int (1 : Int32))] [(.int (1 : Int32))])) _
    refine XS.ifNo X0.here hx rfl (hb hby d1_1) rfl ((if0 _ _).trans (feq (by decide : ¬ ((1 : Int32) = (0 : Int32)))).1) ?_
    show Steps p.tables e below (s₁.setTop (mkF m 4 #[.val (.int (1 : Int32))] [])) _
    refine st1 _ ?_
    show Steps p.tables e below (T1.setTop (mkF m 7 #[.val (.int (1 : Int32))] [(.ref wT)])) _
    refine XS.goto X1.here hx rfl (pc0 := 7) (pc' := 13) rfl (hb hby d1_7) (by decide) (by decide) ?_
    show Steps p.tables e below (T1.setTop (mkF m 13 #[.val (.int (1 : Int32))] [(.ref wT)])) _
    jvm_step X1.here [X1.here.top, hx, (hb hby d1_13), X1.method', Bd.returns, Value.isRef, FieldType.isReference]
    first | (intro acts; rw [hr _ acts rfl rfl rfl]) | rw [hr _ _ rfl rfl rfl]
    exact Steps.refl _
  · show Q_ofT Z wT h0 n0 _ T1.heap _
    rw [e1]
    exact ⟨rfl, N0, rfl⟩
def Q_ofF (Z : State) (wF : Addr) (h0 : Heap) (n0 : Nat) (v : Option Value) (h : Heap) (L : List Loc) : Prop := v = some (.ref wF) ∧ Fr n0 L ∧ h = h0
theorem d1_10 : decode prog_9_method_4_code 10 = .ok (.getstatic 3, 3) := by decide +kernel
set_option maxRecDepth 65536 in
set_option maxHeartbeats 40000000 in
theorem ofF (l : Launch) (Z : State) (a0 : Array Value) (hw : ∀ d ∈ tables_1, d.before a0 Z = true) (ws : List Jvm.Cond) (wF : Addr) (h0 : Heap) (n0 : Nat) (O0 : Old Z n0 h0) (G0 : Sta Z Z.heap "com/example/deposition/deposition/filter/Truth" "FALSE" "Lcom/example/deposition/deposition/filter/Truth;" (.ref wF)) :
    MetFree l (⟨"com/example/deposition/deposition/filter/Truth", "of", "(Z)Lcom/example/deposition/deposition/filter/Truth;"⟩ : MethodName) (head1 (Jvm.Cond.code (⟨"com/example/deposition/deposition/filter/Truth", "of", "(Z)Lcom/example/deposition/deposition/filter/Truth;"⟩ : MethodName) prog_9_method_4_code 1 (some (.object "com/example/deposition/deposition/filter/Truth")) :: ws) ({ frames := 0, cells := 0, slots := 0, locals := 0 } : Room)) (fun zA zU => zA = #[(.int (0 : Int32))] ∧ Z.Warmed39 zU.vm ∧ zU.heap = h0) (fun _ _ _ _ _ => True) (fun _ zU zo zU' => ∃ zv zL, zo = .returned zv ∧ Q_ofF Z wF h0 n0 zv zU'.heap zL ∧ FrameEnd zU zo zU' zL ({ frames := 0, cells := 0, slots := 0, locals := 0 } : Room).cells ({ frames := 0, cells := 0, slots := 0, locals := 0 } : Room).slots) := by
  refine MetFree.of_bodySF (plainFor_of_name pn_2) hisR ?_
  intro p e s m args below meth c s₁ Bd hml0 hP hK
  obtain ⟨rfl, hZ, hh⟩ := hP
  have hx := Bd.exec
  have hby := Bd.bytes
  have hml : c.maxLocals = 1 := hml0
  have hown : s.vm.findClass "com/example/deposition/deposition/filter/Truth" = some m.cls := findClass_of_methodNamed Bd.named
  have hnm := (name_of_methodNamed Bd.named Bd.method).1
  have X0 : Stand p l e ({ frames := 0, cells := 0, slots := 0, locals := 0 } : Room) s m #[(.int (0 : Int32))] below meth c s₁ [] 0 0 := Stand.of_body Bd
  have e0 : s₁.heap = h0 := by rw [← hh, Bd.state]; rfl
  have N0 := Fr.nil n0
  have Z0 : n0 ≤ h0.size := O0.1 ▸ O0.2.1
  have pre0 : ∀ zt, Steps p.tables e below (s₁.setTop (mkF m 0 #[.val (.int (0 : Int32))] [])) zt → Steps p.tables e below (s₁.setTop (entryFrame m #[(.int (0 : Int32))] 1)) zt := fun zt zk => castTop (ef_1_I m (0 : Int32)) zk
  obtain ⟨T1, X1, e1, st1⟩ := getS2 X0 hx hZ hown (host := "") (Or.inl (hw _ (List.mem_of_getElem? (i := 4) rfl))) Via.refl e0 (G0.ext O0.2) (g := (mkF m 10 #[.val (.int (0 : Int32))] [])) rfl (hb hby d1_10)
  obtain ⟨fs, hr, hrun, hended, hW, hsame⟩ := X1.leave (v := some (.ref wF)) (fun h => by rw [Bd.returns] at h; cases h)
  refine ⟨_, _, pre0 _ ?_, hrun, hended, _, _, rfl, ?_, ⟨_, rfl⟩, hW, hsame.mono (by decide) (by decide)⟩
  · show Steps p.tables e below (s₁.setTop (mkF m 0 #[.val (.int (0 : Int32))] [])) _
    refine XS.iloadN X0.here hx rfl (hb hby d1_0) rfl ?_
    show Steps p.tables e below (s₁.setTop (mkF m 1 #[.val (.int (0 : Int32))] [(.int (0 : Int32))])) _
    refine XS.ifYes X0.here hx rfl (pc0 := 1) (pc' := 10) rfl (hb hby d1_1) rfl ((if0 _ _).trans (teq (by decide : (0 : Int32) = (0 : Int32))).1) (by decide) (by decide) ?_
    show Steps p.tables e below (s₁.setTop (mkF m 10 #[.val (.int (0 : Int32))] [])) _
    refine st1 _ ?_
    show Steps p.tables e below (T1.setTop (mkF m 13 #[.val (.int (0 : Int32))] [(.ref wF)])) _
    jvm_step X1.here [X1.here.top, hx, (hb hby d1_13), X1.method', Bd.returns, Value.isRef, FieldType.isReference]
    first | (intro acts; rw [hr _ acts rfl rfl rfl]) | rw [hr _ _ rfl rfl rfl]
    exact Steps.refl _
  · show Q_ofF Z wF h0 n0 _ T1.heap _
    rw [e1]
    exact ⟨rfl, N0, rfl⟩
def Q_ordi (Z : State) (a : Addr) (oa : Int32) (h0 : Heap) (n0 : Nat) (v : Option Value) (h : Heap) (L : List Loc) : Prop := v = some (.int oa) ∧ Fr n0 L ∧ h = h0
theorem d3_0 : decode jdk_37_method_2_code 0 = .ok (.aload_n 0, 1) := by decide +kernel
theorem d3_1 : decode jdk_37_method_2_code 1 = .ok (.getfield 7, 3) := by decide +kernel
theorem d3_4 : decode jdk_37_method_2_code 4 = .ok (.ireturn, 1) := by decide +kernel
theorem pn_4 : plainName "java/lang/Enum" = true := by first | (simp [plainName, overriddenIn]; done) | decide +kernel
theorem ef_3_R (m : MethodId) (x0 : Addr) : entryFrame m #[(.ref x0)] 1 = mkF m 0 #[.val (.ref x0)] [] := by first | (simp [entryFrame, mkF, argsToLocals, Value.category]; done) | rfl
set_option maxRecDepth 65536 in
set_option maxHeartbeats 40000000 in
theorem ordi (l : Launch) (Z : State) (a0 : Array Value) (hw : ∀ d ∈ tables_1, d.before a0 Z = true) (ws : List Jvm.Cond) (a : Addr) (oa : Int32) (h0 : Heap) (n0 : Nat) (O0 : Old Z n0 h0) (G0 : Fld Z Z.heap a "java/lang/Enum" "ordinal" "I" (.int oa)) :
    MetFree l (⟨"java/lang/Enum", "ordinal", "()I"⟩ : MethodName) (head1 (Jvm.Cond.code (⟨"java/lang/Enum", "ordinal", "()I"⟩ : MethodName) jdk_37_method_2_code 1 (some .int) :: ws) ({ frames := 0, cells := 0, slots := 0, locals := 0 } : Room)) (fun zA zU => zA = #[(.ref a)] ∧ Z.Warmed39 zU.vm ∧ zU.heap = h0) (fun _ _ _ _ _ => True) (fun _ zU zo zU' => ∃ zv zL, zo = .returned zv ∧ Q_ordi Z a oa h0 n0 zv zU'.heap zL ∧ FrameEnd zU zo zU' zL ({ frames := 0, cells := 0, slots := 0, locals := 0 } : Room).cells ({ frames := 0, cells := 0, slots := 0, locals := 0 } : Room).slots) := by
  refine MetFree.of_bodySF (plainFor_of_name pn_4) hisR ?_
  intro p e s m args below meth c s₁ Bd hml0 hP hK
  obtain ⟨rfl, hZ, hh⟩ := hP
  have hx := Bd.exec
  have hby := Bd.bytes
  have hml : c.maxLocals = 1 := hml0
  have hown : s.vm.findClass "java/lang/Enum" = some m.cls := findClass_of_methodNamed Bd.named
  have hnm := (name_of_methodNamed Bd.named Bd.method).1
  have X0 : Stand p l e ({ frames := 0, cells := 0, slots := 0, locals := 0 } : Room) s m #[(.ref a)] below meth c s₁ [] 0 0 := Stand.of_body Bd
  have e0 : s₁.heap = h0 := by rw [← hh, Bd.state]; rfl
  have N0 := Fr.nil n0
  have Z0 : n0 ≤ h0.size := O0.1 ▸ O0.2.1
  have pre0 : ∀ zt, Steps p.tables e below (s₁.setTop (mkF m 0 #[.val (.ref a)] [])) zt → Steps p.tables e below (s₁.setTop (entryFrame m #[(.ref a)] 1)) zt := fun zt zk => castTop (ef_3_R m a) zk
  obtain ⟨T1, X1, e1, st1⟩ := getF X0 hx hZ hown (host := "") (Or.inl (hw _ (List.mem_of_getElem? (i := 24) rfl))) Via.refl e0 (G0.ext O0.2) (g := (mkF m 1 #[.val (.ref a)] [(.ref a)])) rfl rfl (hb hby d3_1)
  obtain ⟨fs, hr, hrun, hended, hW, hsame⟩ := X1.leave (v := some (.int oa)) (fun h => by rw [Bd.returns] at h; cases h)
  refine ⟨_, _, pre0 _ ?_, hrun, hended, _, _, rfl, ?_, ⟨_, rfl⟩, hW, hsame.mono (by decide) (by decide)⟩
  · show Steps p.tables e below (s₁.setTop (mkF m 0 #[.val (.ref a)] [])) _
    refine XS.aloadN X0.here hx rfl (hb hby d3_0) rfl rfl ?_
    show Steps p.tables e below (s₁.setTop (mkF m 1 #[.val (.ref a)] [(.ref a)])) _
    refine st1 _ ?_
    show Steps p.tables e below (T1.setTop (mkF m 4 #[.val (.ref a)] [(.int oa)])) _
    exact retI X1 hx Bd.returns (hb hby d3_4) hr
  · show Q_ordi Z a oa h0 n0 _ T1.heap _
    rw [e1]
    exact ⟨rfl, N0, rfl⟩
def Q_not0 (Z : State) (a : Addr) (wT : Addr) (h0 : Heap) (n0 : Nat) (v : Option Value) (h : Heap) (L : List Loc) : Prop := v = some (.ref wT) ∧ Fr n0 L ∧ h = h0
theorem d5_0 : decode prog_9_method_5_code 0 = .ok (.aload_n 0, 1) := by decide +kernel
theorem d5_1 : decode prog_9_method_5_code 1 = .ok (.invokevirtual 32, 3) := by decide +kernel
theorem pd_0 : parseMethodDescriptor "()I" = some ⟨[], some .int⟩ := by decide +kernel
theorem d5_4 : decode prog_9_method_5_code 4 = .ok (.tableswitch 28 0 2 #[38, 50, 44], 28) := by decide +kernel
theorem d5_42 : decode prog_9_method_5_code 42 = .ok (.getstatic 10, 3) := by decide +kernel
theorem d5_45 : decode prog_9_method_5_code 45 = .ok (.goto 12, 3) := by decide +kernel
theorem d5_57 : decode prog_9_method_5_code 57 = .ok (.areturn, 1) := by decide +kernel
theorem ef_5_R (m : MethodId) (x0 : Addr) : entryFrame m #[(.ref x0)] 1 = mkF m 0 #[.val (.ref x0)] [] := by first | (simp [entryFrame, mkF, argsToLocals, Value.category]; done) | rfl
set_option maxRecDepth 65536 in
set_option maxHeartbeats 40000000 in
theorem not0 (l : Launch) (Z : State) (a0 : Array Value) (hw : ∀ d ∈ tables_1, d.before a0 Z = true) (ws : List Jvm.Cond) (a : Addr) (wT : Addr) (h0 : Heap) (n0 : Nat) (O0 : Old Z n0 h0) (G0 : Exa Z Z.heap a "com/example/deposition/deposition/filter/Truth") (G1 : Fld Z Z.heap a "java/lang/Enum" "ordinal" "I" (.int (0 : Int32))) (G2 : Sta Z Z.heap "com/example/deposition/deposition/filter/Truth" "TRUE" "Lcom/example/deposition/deposition/filter/Truth;" (.ref wT)) :
    MetFree l (⟨"com/example/deposition/deposition/filter/Truth", "not", "()Lcom/example/deposition/deposition/filter/Truth;"⟩ : MethodName) (head1 (Jvm.Cond.code (⟨"com/example/deposition/deposition/filter/Truth", "not", "()Lcom/example/deposition/deposition/filter/Truth;"⟩ : MethodName) prog_9_method_5_code 1 (some (.object "com/example/deposition/deposition/filter/Truth")) :: ws) ({ frames := 1, cells := 0, slots := 0, locals := 12 } : Room)) (fun zA zU => zA = #[(.ref a)] ∧ Z.Warmed39 zU.vm ∧ zU.heap = h0) (fun _ _ _ _ _ => True) (fun _ zU zo zU' => ∃ zv zL, zo = .returned zv ∧ Q_not0 Z a wT h0 n0 zv zU'.heap zL ∧ FrameEnd zU zo zU' zL ({ frames := 1, cells := 0, slots := 0, locals := 12 } : Room).cells ({ frames := 1, cells := 0, slots := 0, locals := 12 } : Room).slots) := by
  refine MetFree.of_bodySF (plainFor_of_name pn_2) hisR ?_
  intro p e s m args below meth c s₁ Bd hml0 hP hK
  obtain ⟨rfl, hZ, hh⟩ := hP
  have hx := Bd.exec
  have hby := Bd.bytes
  have hml : c.maxLocals = 1 := hml0
  have hown : s.vm.findClass "com/example/deposition/deposition/filter/Truth" = some m.cls := findClass_of_methodNamed Bd.named
  have hnm := (name_of_methodNamed Bd.named Bd.method).1
  have X0 : Stand p l e ({ frames := 1, cells := 0, slots := 0, locals := 12 } : Room) s m #[(.ref a)] below meth c s₁ [] 0 0 := Stand.of_body Bd
  have e0 : s₁.heap = h0 := by rw [← hh, Bd.state]; rfl
  have N0 := Fr.nil n0
  have Z0 : n0 ≤ h0.size := O0.1 ▸ O0.2.1
  have pre0 : ∀ zt, Steps p.tables e below (s₁.setTop (mkF m 0 #[.val (.ref a)] [])) zt → Steps p.tables e below (s₁.setTop (entryFrame m #[(.ref a)] 1)) zt := fun zt zk => castTop (ef_5_R m a) zk
  obtain ⟨cq1, kq1, q1a, q1b, q1c⟩ := isOf hZ e0 (G0.ext O0.2)
  obtain ⟨_, _, ⟨T1, L1, k1, n1⟩, -, X1, ⟨Lc1, hQ1, l1, y1, z1⟩, st1⟩ := X0.virtualBackUp hx (owner := "java/lang/Enum") (x := (⟨"com/example/deposition/deposition/filter/Truth", "ordinal", "()I"⟩ : MethodName)) (y := (⟨"java/lang/Enum", "ordinal", "()I"⟩ : MethodName)) hown (mvT hZ (hw _ (List.mem_of_getElem? (i := 17) rfl))) (mvT hZ (hw _ (List.mem_of_getElem? (i := 18) rfl))) (mvT hZ (hw _ (List.mem_of_getElem? (i := 19) rfl))) (by decide) (mvT hZ (hw _ (List.mem_of_getElem? (i := 21) rfl))) (mvT hZ (hw _ (List.mem_of_getElem? (i := 20) rfl))) (backOf (W := 0) (ordi l Z a0 hw [] a (0 : Int32) h0 n0 O0 G1) hZ (hw _ (List.mem_of_getElem? (i := 23) rfl)) (hw _ (List.mem_of_getElem? (i := 22) rfl)) (by decide) (by decide)) q1a q1c (g := (mkF m 1 #[.val (.ref a)] [(.ref a)])) rfl (by rw [hml]; rfl) (Steps.refl _) (argsL := []) (rest := []) (lenOf pd_0 rfl) rfl (by show 2 * 0 + _ ≤ _; exact Nat.le_of_eq rfl) (hb hby d5_1) (fun _ _ => ⟨rfl, e0, (by decide : 0 + 0 ≤ _), (by decide : 0 + 0 ≤ _)⟩)
  dsimp only [Pt.U, Pt.locs, Pt.cells, Pt.slots] at X1 l1 y1 z1 st1 hQ1
  subst l1 y1 z1
  obtain ⟨rfl, Nq1, kh1⟩ := hQ1
  have N1 := Fr.app N0 Nq1
  obtain ⟨T2, X2, e2, st2⟩ := getS2 X1 hx hZ hown (host := "") (Or.inl (hw _ (List.mem_of_getElem? (i := 6) rfl))) Via.refl kh1 (G2.ext O0.2) (g := (mkF m 42 #[.val (.ref a)] [])) rfl (hb hby d5_42)
  obtain ⟨fs, hr, hrun, hended, hW, hsame⟩ := X2.leave (v := some (.ref wT)) (fun h => by rw [Bd.returns] at h; cases h)
  refine ⟨_, _, pre0 _ ?_, hrun, hended, _, _, rfl, ?_, ⟨_, rfl⟩, hW, hsame.mono (by decide) (by decide)⟩
  · show Steps p.tables e below (s₁.setTop (mkF m 0 #[.val (.ref a)] [])) _
    refine XS.aloadN X0.here hx rfl (hb hby d5_0) rfl rfl ?_
    show Steps p.tables e below (s₁.setTop (mkF m 1 #[.val (.ref a)] [(.ref a)])) _
    refine st1.trans ?_
    show Steps p.tables e below (T1.setTop (mkF m 4 #[.val (.ref a)] [(.int (0 : Int32))])) _
    refine XS.tswIn X1.here hx rfl (pc0 := 4) (pc' := 42) rfl (hb hby d5_4) rfl (by decide) (o := 38) (by decide) (by decide) (by decide) ?_
    show Steps p.tables e below (T1.setTop (mkF m 42 #[.val (.ref a)] [])) _
    refine st2 _ ?_
    show Steps p.tables e below (T2.setTop (mkF m 45 #[.val (.ref a)] [(.ref wT)])) _
    refine XS.goto X2.here hx rfl (pc0 := 45) (pc' := 57) rfl (hb hby d5_45) (by decide) (by decide) ?_
    show Steps p.tables e below (T2.setTop (mkF m 57 #[.val (.ref a)] [(.ref wT)])) _
    jvm_step X2.here [X2.here.top, hx, (hb hby d5_57), X2.method', Bd.returns, Value.isRef, FieldType.isReference]
    first | (intro acts; rw [hr _ acts rfl rfl rfl]) | rw [hr _ _ rfl rfl rfl]
    exact Steps.refl _
  · show Q_not0 Z a wT h0 n0 _ T2.heap _
    rw [e2]
    exact ⟨rfl, N1, rfl⟩
def Q_not2 (Z : State) (a : Addr) (wF : Addr) (h0 : Heap) (n0 : Nat) (v : Option Value) (h : Heap) (L : List Loc) : Prop := v = some (.ref wF) ∧ Fr n0 L ∧ h = h0
theorem d5_48 : decode prog_9_method_5_code 48 = .ok (.getstatic 3, 3) := by decide +kernel
theorem d5_51 : decode prog_9_method_5_code 51 = .ok (.goto 6, 3) := by decide +kernel
set_option maxRecDepth 65536 in
set_option maxHeartbeats 40000000 in
theorem not2 (l : Launch) (Z : State) (a0 : Array Value) (hw : ∀ d ∈ tables_1, d.before a0 Z = true) (ws : List Jvm.Cond) (a : Addr) (wF : Addr) (h0 : Heap) (n0 : Nat) (O0 : Old Z n0 h0) (G0 : Exa Z Z.heap a "com/example/deposition/deposition/filter/Truth") (G1 : Fld Z Z.heap a "java/lang/Enum" "ordinal" "I" (.int (2 : Int32))) (G2 : Sta Z Z.heap "com/example/deposition/deposition/filter/Truth" "FALSE" "Lcom/example/deposition/deposition/filter/Truth;" (.ref wF)) :
    MetFree l (⟨"com/example/deposition/deposition/filter/Truth", "not", "()Lcom/example/deposition/deposition/filter/Truth;"⟩ : MethodName) (head1 (Jvm.Cond.code (⟨"com/example/deposition/deposition/filter/Truth", "not", "()Lcom/example/deposition/deposition/filter/Truth;"⟩ : MethodName) prog_9_method_5_code 1 (some (.object "com/example/deposition/deposition/filter/Truth")) :: ws) ({ frames := 1, cells := 0, slots := 0, locals := 12 } : Room)) (fun zA zU => zA = #[(.ref a)] ∧ Z.Warmed39 zU.vm ∧ zU.heap = h0) (fun _ _ _ _ _ => True) (fun _ zU zo zU' => ∃ zv zL, zo = .returned zv ∧ Q_not2 Z a wF h0 n0 zv zU'.heap zL ∧ FrameEnd zU zo zU' zL ({ frames := 1, cells := 0, slots := 0, locals := 12 } : Room).cells ({ frames := 1, cells := 0, slots := 0, locals := 12 } : Room).slots) := by
  refine MetFree.of_bodySF (plainFor_of_name pn_2) hisR ?_
  intro p e s m args below meth c s₁ Bd hml0 hP hK
  obtain ⟨rfl, hZ, hh⟩ := hP
  have hx := Bd.exec
  have hby := Bd.bytes
  have hml : c.maxLocals = 1 := hml0
  have hown : s.vm.findClass "com/example/deposition/deposition/filter/Truth" = some m.cls := findClass_of_methodNamed Bd.named
  have hnm := (name_of_methodNamed Bd.named Bd.method).1
  have X0 : Stand p l e ({ frames := 1, cells := 0, slots := 0, locals := 12 } : Room) s m #[(.ref a)] below meth c s₁ [] 0 0 := Stand.of_body Bd
  have e0 : s₁.heap = h0 := by rw [← hh, Bd.state]; rfl
  have N0 := Fr.nil n0
  have Z0 : n0 ≤ h0.size := O0.1 ▸ O0.2.1
  have pre0 : ∀ zt, Steps p.tables e below (s₁.setTop (mkF m 0 #[.val (.ref a)] [])) zt → Steps p.tables e below (s₁.setTop (entryFrame m #[(.ref a)] 1)) zt := fun zt zk => castTop (ef_5_R m a) zk
  obtain ⟨cq1, kq1, q1a, q1b, q1c⟩ := isOf hZ e0 (G0.ext O0.2)
  obtain ⟨_, _, ⟨T1, L1, k1, n1⟩, -, X1, ⟨Lc1, hQ1, l1, y1, z1⟩, st1⟩ := X0.virtualBackUp hx (owner := "java/lang/Enum") (x := (⟨"com/example/deposition/deposition/filter/Truth", "ordinal", "()I"⟩ : MethodName)) (y := (⟨"java/lang/Enum", "ordinal", "()I"⟩ : MethodName)) hown (mvT hZ (hw _ (List.mem_of_getElem? (i := 17) rfl))) (mvT hZ (hw _ (List.mem_of_getElem? (i := 18) rfl))) (mvT hZ (hw _ (List.mem_of_getElem? (i := 19) rfl))) (by decide) (mvT hZ (hw _ (List.mem_of_getElem? (i := 21) rfl))) (mvT hZ (hw _ (List.mem_of_getElem? (i := 20) rfl))) (backOf (W := 0) (ordi l Z a0 hw [] a (2 : Int32) h0 n0 O0 G1) hZ (hw _ (List.mem_of_getElem? (i := 23) rfl)) (hw _ (List.mem_of_getElem? (i := 22) rfl)) (by decide) (by decide)) q1a q1c (g := (mkF m 1 #[.val (.ref a)] [(.ref a)])) rfl (by rw [hml]; rfl) (Steps.refl _) (argsL := []) (rest := []) (lenOf pd_0 rfl) rfl (by show 2 * 0 + _ ≤ _; exact Nat.le_of_eq rfl) (hb hby d5_1) (fun _ _ => ⟨rfl, e0, (by decide : 0 + 0 ≤ _), (by decide : 0 + 0 ≤ _)⟩)
  dsimp only [Pt.U, Pt.locs, Pt.cells, Pt.slots] at X1 l1 y1 z1 st1 hQ1
  subst l1 y1 z1
  obtain ⟨rfl, Nq1, kh1⟩ := hQ1
  have N1 := Fr.app N0 Nq1
  obtain ⟨T2, X2, e2, st2⟩ := getS2 X1 hx hZ hown (host := "") (Or.inl (hw _ (List.mem_of_getElem? (i := 4) rfl))) Via.refl kh1 (G2.ext O0.2) (g := (mkF m 48 #[.val (.ref a)] [])) rfl (hb hby d5_48)
  obtain ⟨fs, hr, hrun, hended, hW, hsame⟩ := X2.leave (v := some (.ref wF)) (fun h => by rw [Bd.returns] at h; cases h)
  refine ⟨_, _, pre0 _ ?_, hrun, hended, _, _, rfl, ?_, ⟨_, rfl⟩, hW, hsame.mono (by decide) (by decide)⟩
  · show Steps p.tables e below (s₁.setTop (mkF m 0 #[.val (.ref a)] [])) _
    refine XS.aloadN X0.here hx rfl (hb hby d5_0) rfl rfl ?_
    show Steps p.tables e below (s₁.setTop (mkF m 1 #[.val (.ref a)] [(.ref a)])) _
    refine st1.trans ?_
    show Steps p.tables e below (T1.setTop (mkF m 4 #[.val (.ref a)] [(.int (2 : Int32))])) _
    refine XS.tswIn X1.here hx rfl (pc0 := 4) (pc' := 48) rfl (hb hby d5_4) rfl (by decide) (o := 44) (by decide) (by decide) (by decide) ?_
    show Steps p.tables e below (T1.setTop (mkF m 48 #[.val (.ref a)] [])) _
    refine st2 _ ?_
    show Steps p.tables e below (T2.setTop (mkF m 51 #[.val (.ref a)] [(.ref wF)])) _
    refine XS.goto X2.here hx rfl (pc0 := 51) (pc' := 57) rfl (hb hby d5_51) (by decide) (by decide) ?_
    show Steps p.tables e below (T2.setTop (mkF m 57 #[.val (.ref a)] [(.ref wF)])) _
    jvm_step X2.here [X2.here.top, hx, (hb hby d5_57), X2.method', Bd.returns, Value.isRef, FieldType.isReference]
    first | (intro acts; rw [hr _ acts rfl rfl rfl]) | rw [hr _ _ rfl rfl rfl]
    exact Steps.refl _
  · show Q_not2 Z a wF h0 n0 _ T2.heap _
    rw [e2]
    exact ⟨rfl, N1, rfl⟩
def Q_cmpE (Z : State) (a : Addr) (b : Addr) (oa : Int32) (ob : Int32) (mr : Addr) (h0 : Heap) (n0 : Nat) (v : Option Value) (h : Heap) (L : List Loc) : Prop := v = some (.int (oa - ob)) ∧ Fr n0 L ∧ h = h0
theorem d6_0 : decode jdk_37_method_8_code 0 = .ok (.aload_n 1, 1) := by decide +kernel
theorem d6_1 : decode jdk_37_method_8_code 1 = .ok (.astore_n 2, 1) := by decide +kernel
theorem d6_2 : decode jdk_37_method_8_code 2 = .ok (.aload_n 0, 1) := by decide +kernel
theorem d6_3 : decode jdk_37_method_8_code 3 = .ok (.astore_n 3, 1) := by decide +kernel
theorem d6_4 : decode jdk_37_method_8_code 4 = .ok (.aload_n 3, 1) := by decide +kernel
theorem d6_5 : decode jdk_37_method_8_code 5 = .ok (.invokevirtual 29, 3) := by decide +kernel
theorem d6_8 : decode jdk_37_method_8_code 8 = .ok (.aload_n 2, 1) := by decide +kernel
theorem d6_9 : decode jdk_37_method_8_code 9 = .ok (.invokevirtual 29, 3) := by decide +kernel
theorem d6_12 : decode jdk_37_method_8_code 12 = .ok (.if_acmp .eq 22, 3) := by decide +kernel
theorem d6_34 : decode jdk_37_method_8_code 34 = .ok (.aload_n 3, 1) := by decide +kernel
theorem d6_35 : decode jdk_37_method_8_code 35 = .ok (.getfield 7, 3) := by decide +kernel
theorem d6_38 : decode jdk_37_method_8_code 38 = .ok (.aload_n 2, 1) := by decide +kernel
theorem d6_39 : decode jdk_37_method_8_code 39 = .ok (.getfield 7, 3) := by decide +kernel
theorem d6_42 : decode jdk_37_method_8_code 42 = .ok (.isub, 1) := by decide +kernel
theorem d6_43 : decode jdk_37_method_8_code 43 = .ok (.ireturn, 1) := by decide +kernel
theorem ef_6_RR (m : MethodId) (x0 : Addr) (x1 : Addr) : entryFrame m #[(.ref x0), (.ref x1)] 4 = mkF m 0 #[.val (.ref x0), .val (.ref x1), .unset, .unset] [] := by first | (simp [entryFrame, mkF, argsToLocals, Value.category]; done) | rfl
set_option maxRecDepth 65536 in
set_option maxHeartbeats 40000000 in
theorem cmpE (l : Launch) (Z : State) (a0 : Array Value) (hw : ∀ d ∈ tables_1, d.before a0 Z = true) (ws : List Jvm.Cond) (a : Addr) (b : Addr) (oa : Int32) (ob : Int32) (mr : Addr) (h0 : Heap) (n0 : Nat) (O0 : Old Z n0 h0) (G0 : Exa Z Z.heap a "com/example/deposition/deposition/filter/Truth") (G1 : Exa Z Z.heap b "com/example/deposition/deposition/filter/Truth") (G2 : Fld Z Z.heap a "java/lang/Enum" "ordinal" "I" (.int oa)) (G3 : Fld Z Z.heap b "java/lang/Enum" "ordinal" "I" (.int ob)) (MM : MirO Z "com/example/deposition/deposition/filter/Truth" mr) :
    MetFree l (⟨"java/lang/Enum", "compareTo", "(Ljava/lang/Enum;)I"⟩ : MethodName) (head1 (Jvm.Cond.code (⟨"java/lang/Enum", "compareTo", "(Ljava/lang/Enum;)I"⟩ : MethodName) jdk_37_method_8_code 4 (some .int) :: ws) ({ frames := 1, cells := 0, slots := 0, locals := 15 } : Room)) (fun zA zU => zA = #[(.ref a), (.ref b)] ∧ Z.Warmed39 zU.vm ∧ zU.heap = h0) (fun _ _ _ _ _ => True) (fun _ zU zo zU' => ∃ zv zL, zo = .returned zv ∧ Q_cmpE Z a b oa ob mr h0 n0 zv zU'.heap zL ∧ FrameEnd zU zo zU' zL ({ frames := 1, cells := 0, slots := 0, locals := 15 } : Room).cells ({ frames := 1, cells := 0, slots := 0, locals := 15 } : Room).slots) := by
  refine MetFree.of_bodySF (plainFor_of_name pn_4) hisR ?_
  intro p e s m args below meth c s₁ Bd hml0 hP hK
  obtain ⟨rfl, hZ, hh⟩ := hP
  have hx := Bd.exec
  have hby := Bd.bytes
  have hml : c.maxLocals = 4 := hml0
  have hown : s.vm.findClass "java/lang/Enum" = some m.cls := findClass_of_methodNamed Bd.named
  have hnm := (name_of_methodNamed Bd.named Bd.method).1
  have X0 : Stand p l e ({ frames := 1, cells := 0, slots := 0, locals := 15 } : Room) s m #[(.ref a), (.ref b)] below meth c s₁ [] 0 0 := Stand.of_body Bd
  have e0 : s₁.heap = h0 := by rw [← hh, Bd.state]; rfl
  have N0 := Fr.nil n0
  have Z0 : n0 ≤ h0.size := O0.1 ▸ O0.2.1
  have pre0 : ∀ zt, Steps p.tables e below (s₁.setTop (mkF m 0 #[.val (.ref a), .val (.ref b), .unset, .unset] [])) zt → Steps p.tables e below (s₁.setTop (entryFrame m #[(.ref a), (.ref b)] 4)) zt := fun zt zk => castTop (ef_6_RR m a b) zk
  obtain ⟨cB1, kB1, i11, i21, i31⟩ := isOf hZ e0 (G0.ext O0.2)
  obtain ⟨cc1, kc1, m11, m21, m31⟩ := (id MM)
  rw [hZ.alike.findClass] at i11
  cases i11.symm.trans m11
  obtain ⟨k'1, qq1, ek1⟩ := hZ.alike.2.2 _ _ m21
  obtain ⟨vm1, X1, st1⟩ := X0.getClassOf hx hown (mvT hZ (hw _ (List.mem_of_getElem? (i := 37) rfl))) (mvT hZ (hw _ (List.mem_of_getElem? (i := 38) rfl))) (notFace_of_selects (args := #[]) (mvT hZ (hw _ (List.mem_of_getElem? (i := 40) rfl)))) (mvT hZ (hw _ (List.mem_of_getElem? (i := 40) rfl))) (mvT hZ (hw _ (List.mem_of_getElem? (i := 39) rfl))) (mvT hZ (hw _ (List.mem_of_getElem? (i := 41) rfl))) (by rw [hZ.alike.findClass]; exact m11) i31 qq1 (by rw [ek1]; exact m31) (g := (mkF m 5 #[.val (.ref a), .val (.ref b), .val (.ref b), .val (.ref a)] [(.ref a)])) rfl (by rw [hml]; rfl) rfl (hb hby d6_5) (by decide) (by show 2 * 0 + 0 + (3 + 11) ≤ _; decide)
  have e1 : (s₁.setVm vm1).heap = h0 := e0
  obtain ⟨T1, gT1⟩ : ∃ z, z = s₁.setVm vm1 := ⟨_, rfl⟩
  rw [← gT1] at X1 st1 e1
  obtain ⟨cB2, kB2, i12, i22, i32⟩ := isOf hZ e1 (G1.ext O0.2)
  obtain ⟨cc2, kc2, m12, m22, m32⟩ := (id MM)
  rw [hZ.alike.findClass] at i12
  cases i12.symm.trans m12
  obtain ⟨k'2, qq2, ek2⟩ := hZ.alike.2.2 _ _ m22
  obtain ⟨vm2, X2, st2⟩ := X1.getClassOf hx hown (mvT hZ (hw _ (List.mem_of_getElem? (i := 37) rfl))) (mvT hZ (hw _ (List.mem_of_getElem? (i := 38) rfl))) (notFace_of_selects (args := #[]) (mvT hZ (hw _ (List.mem_of_getElem? (i := 40) rfl)))) (mvT hZ (hw _ (List.mem_of_getElem? (i := 40) rfl))) (mvT hZ (hw _ (List.mem_of_getElem? (i := 39) rfl))) (mvT hZ (hw _ (List.mem_of_getElem? (i := 41) rfl))) (by rw [hZ.alike.findClass]; exact m12) i32 qq2 (by rw [ek2]; exact m32) (g := (mkF m 9 #[.val (.ref a), .val (.ref b), .val (.ref b), .val (.ref a)] [(.ref b), (.ref mr)])) rfl (by rw [hml]; rfl) rfl (hb hby d6_9) (by decide) (by show 2 * 0 + 1 + (3 + 11) ≤ _; decide)
  have e2 : (T1.setVm vm2).heap = h0 := e1
  obtain ⟨T2, gT2⟩ : ∃ z, z = T1.setVm vm2 := ⟨_, rfl⟩
  rw [← gT2] at X2 st2 e2
  obtain ⟨T3, X3, e3, st3⟩ := getF X2 hx hZ hown (host := "") (Or.inl (hw _ (List.mem_of_getElem? (i := 24) rfl))) Via.refl e2 (G2.ext O0.2) (g := (mkF m 35 #[.val (.ref a), .val (.ref b), .val (.ref b), .val (.ref a)] [(.ref a)])) rfl rfl (hb hby d6_35)
  obtain ⟨T4, X4, e4, st4⟩ := getF X3 hx hZ hown (host := "") (Or.inl (hw _ (List.mem_of_getElem? (i := 24) rfl))) Via.refl e3 (G3.ext O0.2) (g := (mkF m 39 #[.val (.ref a), .val (.ref b), .val (.ref b), .val (.ref a)] [(.ref b), (.int oa)])) rfl rfl (hb hby d6_39)
  obtain ⟨fs, hr, hrun, hended, hW, hsame⟩ := X4.leave (v := some (.int (oa - ob))) (fun h => by rw [Bd.returns] at h; cases h)
  refine ⟨_, _, pre0 _ ?_, hrun, hended, _, _, rfl, ?_, ⟨_, rfl⟩, hW, hsame.mono (by decide) (by decide)⟩
  · show Steps p.tables e below (s₁.setTop (mkF m 0 #[.val (.ref a), .val (.ref b), .unset, .unset] [])) _
    refine XS.aloadN X0.here hx rfl (hb hby d6_0) rfl rfl ?_
    show Steps p.tables e below (s₁.setTop (mkF m 1 #[.val (.ref a), .val (.ref b), .unset, .unset] [(.ref b)])) _
    refine XS.astoreN X0.here hx rfl (hb hby d6_1) rfl rfl (l' := #[.val (.ref a), .val (.ref b), .val (.ref b), .unset]) rfl ?_
    show Steps p.tables e below (s₁.setTop (mkF m 2 #[.val (.ref a), .val (.ref b), .val (.ref b), .unset] [])) _
    refine XS.aloadN X0.here hx rfl (hb hby d6_2) rfl rfl ?_
    show Steps p.tables e below (s₁.setTop (mkF m 3 #[.val (.ref a), .val (.ref b), .val (.ref b), .unset] [(.ref a)])) _
    refine XS.astoreN X0.here hx rfl (hb hby d6_3) rfl rfl (l' := #[.val (.ref a), .val (.ref b), .val (.ref b), .val (.ref a)]) rfl ?_
    show Steps p.tables e below (s₁.setTop (mkF m 4 #[.val (.ref a), .val (.ref b), .val (.ref b), .val (.ref a)] [])) _
    refine XS.aloadN X0.here hx rfl (hb hby d6_4) rfl rfl ?_
    show Steps p.tables e below (s₁.setTop (mkF m 5 #[.val (.ref a), .val (.ref b), .val (.ref b), .val (.ref a)] [(.ref a)])) _
    refine st1 _ ?_
    show Steps p.tables e below (T1.setTop (mkF m 8 #[.val (.ref a), .val (.ref b), .val (.ref b), .val (.ref a)] [(.ref mr)])) _
    refine XS.aloadN X1.here hx rfl (hb hby d6_8) rfl rfl ?_
    show Steps p.tables e below (T1.setTop (mkF m 9 #[.val (.ref a), .val (.ref b), .val (.ref b), .val (.ref a)] [(.ref b), (.ref mr)])) _
    refine st2 _ ?_
    show Steps p.tables e below (T2.setTop (mkF m 12 #[.val (.ref a), .val (.ref b), .val (.ref b), .val (.ref a)] [(.ref mr), (.ref mr)])) _
    refine Jvm.RoadKit.acmp (g := (mkF m 12 #[.val (.ref a), .val (.ref b), .val (.ref b), .val (.ref a)] [(.ref mr), (.ref mr)])) X2 hx rfl rfl rfl (pc0 := 12) (pc' := 34) (same := true) rfl (hb hby d6_12) rfl (decide_eq_true rfl) (by decide) (by decide) ?_
    show Steps p.tables e below (T2.setTop (mkF m 34 #[.val (.ref a), .val (.ref b), .val (.ref b), .val (.ref a)] [])) _
    refine XS.aloadN X2.here hx rfl (hb hby d6_34) rfl rfl ?_
    show Steps p.tables e below (T2.setTop (mkF m 35 #[.val (.ref a), .val (.ref b), .val (.ref b), .val (.ref a)] [(.ref a)])) _
    refine st3 _ ?_
    show Steps p.tables e below (T3.setTop (mkF m 38 #[.val (.ref a), .val (.ref b), .val (.ref b), .val (.ref a)] [(.int oa)])) _
    refine XS.aloadN X3.here hx rfl (hb hby d6_38) rfl rfl ?_
    show Steps p.tables e below (T3.setTop (mkF m 39 #[.val (.ref a), .val (.ref b), .val (.ref b), .val (.ref a)] [(.ref b), (.int oa)])) _
    refine st4 _ ?_
    show Steps p.tables e below (T4.setTop (mkF m 42 #[.val (.ref a), .val (.ref b), .val (.ref b), .val (.ref a)] [(.int ob), (.int oa)])) _
    refine XS.isub X4.here hx rfl (hb hby d6_42) rfl ?_
    show Steps p.tables e below (T4.setTop (mkF m 43 #[.val (.ref a), .val (.ref b), .val (.ref b), .val (.ref a)] [(.int (oa - ob))])) _
    exact retI X4 hx Bd.returns (hb hby d6_43) hr
  · show Q_cmpE Z a b oa ob mr h0 n0 _ T4.heap _
    rw [e4]
    exact ⟨rfl, N0, rfl⟩
def Q_andA (Z : State) (a : Addr) (b : Addr) (oa : Int32) (ob : Int32) (mr : Addr) (h0 : Heap) (n0 : Nat) (v : Option Value) (h : Heap) (L : List Loc) : Prop := v = some (.ref a) ∧ Fr n0 L ∧ h = h0
theorem d7_0 : decode prog_9_method_6_code 0 = .ok (.aload_n 0, 1) := by decide +kernel
theorem d7_1 : decode prog_9_method_6_code 1 = .ok (.aload_n 1, 1) := by decide +kernel
theorem d7_2 : decode prog_9_method_6_code 2 = .ok (.invokevirtual 41, 3) := by decide +kernel
theorem pd_1 : parseMethodDescriptor "(Ljava/lang/Enum;)I" = some ⟨[(.object "java/lang/Enum")], some .int⟩ := by decide +kernel
theorem d7_5 : decode prog_9_method_6_code 5 = .ok (.ifCond .gt 7, 3) := by decide +kernel
theorem d7_8 : decode prog_9_method_6_code 8 = .ok (.aload_n 0, 1) := by decide +kernel
theorem d7_9 : decode prog_9_method_6_code 9 = .ok (.goto 4, 3) := by decide +kernel
theorem d7_13 : decode prog_9_method_6_code 13 = .ok (.areturn, 1) := by decide +kernel
theorem ef_7_RR (m : MethodId) (x0 : Addr) (x1 : Addr) : entryFrame m #[(.ref x0), (.ref x1)] 2 = mkF m 0 #[.val (.ref x0), .val (.ref x1)] [] := by first | (simp [entryFrame, mkF, argsToLocals, Value.category]; done) | rfl
set_option maxRecDepth 65536 in
set_option maxHeartbeats 40000000 in
theorem andA (l : Launch) (Z : State) (a0 : Array Value) (hw : ∀ d ∈ tables_1, d.before a0 Z = true) (ws : List Jvm.Cond) (a : Addr) (b : Addr) (oa : Int32) (ob : Int32) (mr : Addr) (h0 : Heap) (n0 : Nat) (O0 : Old Z n0 h0) (G0 : Exa Z Z.heap a "com/example/deposition/deposition/filter/Truth") (G1 : Exa Z Z.heap b "com/example/deposition/deposition/filter/Truth") (G2 : Fld Z Z.heap a "java/lang/Enum" "ordinal" "I" (.int oa)) (G3 : Fld Z Z.heap b "java/lang/Enum" "ordinal" "I" (.int ob)) (MM : MirO Z "com/example/deposition/deposition/filter/Truth" mr) (hq : ¬ ((0 : Int32) < (oa - ob))) :
    MetFree l (⟨"com/example/deposition/deposition/filter/Truth", "and", "(Lcom/example/deposition/deposition/filter/Truth;)Lcom/example/deposition/deposition/filter/Truth;"⟩ : MethodName) (head1 (Jvm.Cond.code (⟨"com/example/deposition/deposition/filter/Truth", "and", "(Lcom/example/deposition/deposition/filter/Truth;)Lcom/example/deposition/deposition/filter/Truth;"⟩ : MethodName) prog_9_method_6_code 2 (some (.object "com/example/deposition/deposition/filter/Truth")) :: ws) ({ frames := 2, cells := 0, slots := 0, locals := 30 } : Room)) (fun zA zU => zA = #[(.ref a), (.ref b)] ∧ Z.Warmed39 zU.vm ∧ zU.heap = h0) (fun _ _ _ _ _ => True) (fun _ zU zo zU' => ∃ zv zL, zo = .returned zv ∧ Q_andA Z a b oa ob mr h0 n0 zv zU'.heap zL ∧ FrameEnd zU zo zU' zL ({ frames := 2, cells := 0, slots := 0, locals := 30 } : Room).cells ({ frames := 2, cells := 0, slots := 0, locals := 30 } : Room).slots) := by
  refine MetFree.of_bodySF (plainFor_of_name pn_2) hisR ?_
  intro p e s m args below meth c s₁ Bd hml0 hP hK
  obtain ⟨rfl, hZ, hh⟩ := hP
  have hx := Bd.exec
  have hby := Bd.bytes
  have hml : c.maxLocals = 2 := hml0
  have hown : s.vm.findClass "com/example/deposition/deposition/filter/Truth" = some m.cls := findClass_of_methodNamed Bd.named
  have hnm := (name_of_methodNamed Bd.named Bd.method).1
  have X0 : Stand p l e ({ frames := 2, cells := 0, slots := 0, locals := 30 } : Room) s m #[(.ref a), (.ref b)] below meth c s₁ [] 0 0 := Stand.of_body Bd
  have e0 : s₁.heap = h0 := by rw [← hh, Bd.state]; rfl
  have N0 := Fr.nil n0
  have Z0 : n0 ≤ h0.size := O0.1 ▸ O0.2.1
  have pre0 : ∀ zt, Steps p.tables e below (s₁.setTop (mkF m 0 #[.val (.ref a), .val (.ref b)] [])) zt → Steps p.tables e below (s₁.setTop (entryFrame m #[(.ref a), (.ref b)] 2)) zt := fun zt zk => castTop (ef_7_RR m a b) zk
  obtain ⟨cq1, kq1, q1a, q1b, q1c⟩ := isOf hZ e0 (G0.ext O0.2)
  obtain ⟨_, _, ⟨T1, L1, k1, n1⟩, -, X1, ⟨Lc1, hQ1, l1, y1, z1⟩, st1⟩ := X0.virtualBackUp hx (owner := "java/lang/Enum") (x := (⟨"com/example/deposition/deposition/filter/Truth", "compareTo", "(Ljava/lang/Enum;)I"⟩ : MethodName)) (y := (⟨"java/lang/Enum", "compareTo", "(Ljava/lang/Enum;)I"⟩ : MethodName)) hown (mvT hZ (hw _ (List.mem_of_getElem? (i := 31) rfl))) (mvT hZ (hw _ (List.mem_of_getElem? (i := 32) rfl))) (mvT hZ (hw _ (List.mem_of_getElem? (i := 33) rfl))) (by decide) (mvT hZ (hw _ (List.mem_of_getElem? (i := 35) rfl))) (mvT hZ (hw _ (List.mem_of_getElem? (i := 34) rfl))) (backOf (W := 0) (cmpE l Z a0 hw [] a b oa ob mr h0 n0 O0 G0 G1 G2 G3 MM) hZ (hw _ (List.mem_of_getElem? (i := 36) rfl)) (hw _ (List.mem_of_getElem? (i := 22) rfl)) (by decide) (by decide)) q1a q1c (g := (mkF m 2 #[.val (.ref a), .val (.ref b)] [(.ref b), (.ref a)])) rfl (by rw [hml]; rfl) (Steps.refl _) (argsL := [(.ref b)]) (rest := []) (lenOf pd_1 rfl) rfl (by show 2 * 0 + _ ≤ _; exact Nat.le_of_eq rfl) (hb hby d7_2) (fun _ _ => ⟨rfl, e0, (by decide : 0 + 0 ≤ _), (by decide : 0 + 0 ≤ _)⟩)
  dsimp only [Pt.U, Pt.locs, Pt.cells, Pt.slots] at X1 l1 y1 z1 st1 hQ1
  subst l1 y1 z1
  obtain ⟨rfl, Nq1, kh1⟩ := hQ1
  have N1 := Fr.app N0 Nq1
  obtain ⟨fs, hr, hrun, hended, hW, hsame⟩ := X1.leave (v := some (.ref a)) (fun h => by rw [Bd.returns] at h; cases h)
  refine ⟨_, _, pre0 _ ?_, hrun, hended, _, _, rfl, ?_, ⟨_, rfl⟩, hW, hsame.mono (by decide) (by decide)⟩
  · show Steps p.tables e below (s₁.setTop (mkF m 0 #[.val (.ref a), .val (.ref b)] [])) _
    refine XS.aloadN X0.here hx rfl (hb hby d7_0) rfl rfl ?_
    show Steps p.tables e below (s₁.setTop (mkF m 1 #[.val (.ref a), .val (.ref b)] [(.ref a)])) _
    refine XS.aloadN X0.here hx rfl (hb hby d7_1) rfl rfl ?_
    show Steps p.tables e below (s₁.setTop (mkF m 2 #[.val (.ref a), .val (.ref b)] [(.ref b), (.ref a)])) _
    refine st1.trans ?_
    show Steps p.tables e below (T1.setTop (mkF m 5 #[.val (.ref a), .val (.ref b)] [(.int (oa - ob))])) _
    refine XS.ifNo X1.here hx rfl (hb hby d7_5) rfl ((if0 _ _).trans (flt (hq : ¬ ((0 : Int32) < (oa - ob)))).2.2.1) ?_
    show Steps p.tables e below (T1.setTop (mkF m 8 #[.val (.ref a), .val (.ref b)] [])) _
    refine XS.aloadN X1.here hx rfl (hb hby d7_8) rfl rfl ?_
    show Steps p.tables e below (T1.setTop (mkF m 9 #[.val (.ref a), .val (.ref b)] [(.ref a)])) _
    refine XS.goto X1.here hx rfl (pc0 := 9) (pc' := 13) rfl (hb hby d7_9) (by decide) (by decide) ?_
    show Steps p.tables e below (T1.setTop (mkF m 13 #[.val (.ref a), .val (.ref b)] [(.ref a)])) _
    jvm_step X1.here [X1.here.top, hx, (hb hby d7_13), X1.method', Bd.returns, Value.isRef, FieldType.isReference]
    first | (intro acts; rw [hr _ acts rfl rfl rfl]) | rw [hr _ _ rfl rfl rfl]
    exact Steps.refl _
  · show Q_andA Z a b oa ob mr h0 n0 _ T1.heap _
    rw [kh1]
    exact ⟨rfl, N1, rfl⟩
def Q_andB (Z : State) (a : Addr) (b : Addr) (oa : Int32) (ob : Int32) (mr : Addr) (h0 : Heap) (n0 : Nat) (v : Option Value) (h : Heap) (L : List Loc) : Prop := v = some (.ref b) ∧ Fr n0 L ∧ h = h0
theorem d7_12 : decode prog_9_method_6_code 12 = .ok (.aload_n 1, 1) := by decide +kernel
set_option maxRecDepth 65536 in
set_option maxHeartbeats 40000000 in
theorem andB (l : Launch) (Z : State) (a0 : Array Value) (hw : ∀ d ∈ tables_1, d.before a0 Z = true) (ws : List Jvm.Cond) (a : Addr) (b : Addr) (oa : Int32) (ob : Int32) (mr : Addr) (h0 : Heap) (n0 : Nat) (O0 : Old Z n0 h0) (G0 : Exa Z Z.heap a "com/example/deposition/deposition/filter/Truth") (G1 : Exa Z Z.heap b "com/example/deposition/deposition/filter/Truth") (G2 : Fld Z Z.heap a "java/lang/Enum" "ordinal" "I" (.int oa)) (G3 : Fld Z Z.heap b "java/lang/Enum" "ordinal" "I" (.int ob)) (MM : MirO Z "com/example/deposition/deposition/filter/Truth" mr) (hq : (0 : Int32) < (oa - ob)) :
    MetFree l (⟨"com/example/deposition/deposition/filter/Truth", "and", "(Lcom/example/deposition/deposition/filter/Truth;)Lcom/example/deposition/deposition/filter/Truth;"⟩ : MethodName) (head1 (Jvm.Cond.code (⟨"com/example/deposition/deposition/filter/Truth", "and", "(Lcom/example/deposition/deposition/filter/Truth;)Lcom/example/deposition/deposition/filter/Truth;"⟩ : MethodName) prog_9_method_6_code 2 (some (.object "com/example/deposition/deposition/filter/Truth")) :: ws) ({ frames := 2, cells := 0, slots := 0, locals := 30 } : Room)) (fun zA zU => zA = #[(.ref a), (.ref b)] ∧ Z.Warmed39 zU.vm ∧ zU.heap = h0) (fun _ _ _ _ _ => True) (fun _ zU zo zU' => ∃ zv zL, zo = .returned zv ∧ Q_andB Z a b oa ob mr h0 n0 zv zU'.heap zL ∧ FrameEnd zU zo zU' zL ({ frames := 2, cells := 0, slots := 0, locals := 30 } : Room).cells ({ frames := 2, cells := 0, slots := 0, locals := 30 } : Room).slots) := by
  refine MetFree.of_bodySF (plainFor_of_name pn_2) hisR ?_
  intro p e s m args below meth c s₁ Bd hml0 hP hK
  obtain ⟨rfl, hZ, hh⟩ := hP
  have hx := Bd.exec
  have hby := Bd.bytes
  have hml : c.maxLocals = 2 := hml0
  have hown : s.vm.findClass "com/example/deposition/deposition/filter/Truth" = some m.cls := findClass_of_methodNamed Bd.named
  have hnm := (name_of_methodNamed Bd.named Bd.method).1
  have X0 : Stand p l e ({ frames := 2, cells := 0, slots := 0, locals := 30 } : Room) s m #[(.ref a), (.ref b)] below meth c s₁ [] 0 0 := Stand.of_body Bd
  have e0 : s₁.heap = h0 := by rw [← hh, Bd.state]; rfl
  have N0 := Fr.nil n0
  have Z0 : n0 ≤ h0.size := O0.1 ▸ O0.2.1
  have pre0 : ∀ zt, Steps p.tables e below (s₁.setTop (mkF m 0 #[.val (.ref a), .val (.ref b)] [])) zt → Steps p.tables e below (s₁.setTop (entryFrame m #[(.ref a), (.ref b)] 2)) zt := fun zt zk => castTop (ef_7_RR m a b) zk
  obtain ⟨cq1, kq1, q1a, q1b, q1c⟩ := isOf hZ e0 (G0.ext O0.2)
  obtain ⟨_, _, ⟨T1, L1, k1, n1⟩, -, X1, ⟨Lc1, hQ1, l1, y1, z1⟩, st1⟩ := X0.virtualBackUp hx (owner := "java/lang/Enum") (x := (⟨"com/example/deposition/deposition/filter/Truth", "compareTo", "(Ljava/lang/Enum;)I"⟩ : MethodName)) (y := (⟨"java/lang/Enum", "compareTo", "(Ljava/lang/Enum;)I"⟩ : MethodName)) hown (mvT hZ (hw _ (List.mem_of_getElem? (i := 31) rfl))) (mvT hZ (hw _ (List.mem_of_getElem? (i := 32) rfl))) (mvT hZ (hw _ (List.mem_of_getElem? (i := 33) rfl))) (by decide) (mvT hZ (hw _ (List.mem_of_getElem? (i := 35) rfl))) (mvT hZ (hw _ (List.mem_of_getElem? (i := 34) rfl))) (backOf (W := 0) (cmpE l Z a0 hw [] a b oa ob mr h0 n0 O0 G0 G1 G2 G3 MM) hZ (hw _ (List.mem_of_getElem? (i := 36) rfl)) (hw _ (List.mem_of_getElem? (i := 22) rfl)) (by decide) (by decide)) q1a q1c (g := (mkF m 2 #[.val (.ref a), .val (.ref b)] [(.ref b), (.ref a)])) rfl (by rw [hml]; rfl) (Steps.refl _) (argsL := [(.ref b)]) (rest := []) (lenOf pd_1 rfl) rfl (by show 2 * 0 + _ ≤ _; exact Nat.le_of_eq rfl) (hb hby d7_2) (fun _ _ => ⟨rfl, e0, (by decide : 0 + 0 ≤ _), (by decide : 0 + 0 ≤ _)⟩)
  dsimp only [Pt.U, Pt.locs, Pt.cells, Pt.slots] at X1 l1 y1 z1 st1 hQ1
  subst l1 y1 z1
  obtain ⟨rfl, Nq1, kh1⟩ := hQ1
  have N1 := Fr.app N0 Nq1
  obtain ⟨fs, hr, hrun, hended, hW, hsame⟩ := X1.leave (v := some (.ref b)) (fun h => by rw [Bd.returns] at h; cases h)
  refine ⟨_, _, pre0 _ ?_, hrun, hended, _, _, rfl, ?_, ⟨_, rfl⟩, hW, hsame.mono (by decide) (by decide)⟩
  · show Steps p.tables e below (s₁.setTop (mkF m 0 #[.val (.ref a), .val (.ref b)] [])) _
    refine XS.aloadN X0.here hx rfl (hb hby d7_0) rfl rfl ?_
    show Steps p.tables e below (s₁.setTop (mkF m 1 #[.val (.ref a), .val (.ref b)] [(.ref a)])) _
    refine XS.aloadN X0.here hx rfl (hb hby d7_1) rfl rfl ?_
    show Steps p.tables e below (s₁.setTop (mkF m 2 #[.val (.ref a), .val (.ref b)] [(.ref b), (.ref a)])) _
    refine st1.trans ?_
    show Steps p.tables e below (T1.setTop (mkF m 5 #[.val (.ref a), .val (.ref b)] [(.int (oa - ob))])) _
    refine XS.ifYes X1.here hx rfl (pc0 := 5) (pc' := 12) rfl (hb hby d7_5) rfl ((if0 _ _).trans (tlt (hq : (0 : Int32) < (oa - ob))).2.2.1) (by decide) (by decide) ?_
    show Steps p.tables e below (T1.setTop (mkF m 12 #[.val (.ref a), .val (.ref b)] [])) _
    refine XS.aloadN X1.here hx rfl (hb hby d7_12) rfl rfl ?_
    show Steps p.tables e below (T1.setTop (mkF m 13 #[.val (.ref a), .val (.ref b)] [(.ref b)])) _
    jvm_step X1.here [X1.here.top, hx, (hb hby d7_13), X1.method', Bd.returns, Value.isRef, FieldType.isReference]
    first | (intro acts; rw [hr _ acts rfl rfl rfl]) | rw [hr _ _ rfl rfl rfl]
    exact Steps.refl _
  · show Q_andB Z a b oa ob mr h0 n0 _ T1.heap _
    rw [kh1]
    exact ⟨rfl, N1, rfl⟩
def Q_orA (Z : State) (a : Addr) (b : Addr) (oa : Int32) (ob : Int32) (mr : Addr) (h0 : Heap) (n0 : Nat) (v : Option Value) (h : Heap) (L : List Loc) : Prop := v = some (.ref a) ∧ Fr n0 L ∧ h = h0
theorem d8_0 : decode prog_9_method_7_code 0 = .ok (.aload_n 0, 1) := by decide +kernel
theorem d8_1 : decode prog_9_method_7_code 1 = .ok (.aload_n 1, 1) := by decide +kernel
theorem d8_2 : decode prog_9_method_7_code 2 = .ok (.invokevirtual 41, 3) := by decide +kernel
theorem d8_5 : decode prog_9_method_7_code 5 = .ok (.ifCond .lt 7, 3) := by decide +kernel
theorem d8_8 : decode prog_9_method_7_code 8 = .ok (.aload_n 0, 1) := by decide +kernel
theorem d8_9 : decode prog_9_method_7_code 9 = .ok (.goto 4, 3) := by decide +kernel
theorem d8_13 : decode prog_9_method_7_code 13 = .ok (.areturn, 1) := by decide +kernel
theorem ef_8_RR (m : MethodId) (x0 : Addr) (x1 : Addr) : entryFrame m #[(.ref x0), (.ref x1)] 2 = mkF m 0 #[.val (.ref x0), .val (.ref x1)] [] := by first | (simp [entryFrame, mkF, argsToLocals, Value.category]; done) | rfl
set_option maxRecDepth 65536 in
set_option maxHeartbeats 40000000 in
theorem orA (l : Launch) (Z : State) (a0 : Array Value) (hw : ∀ d ∈ tables_1, d.before a0 Z = true) (ws : List Jvm.Cond) (a : Addr) (b : Addr) (oa : Int32) (ob : Int32) (mr : Addr) (h0 : Heap) (n0 : Nat) (O0 : Old Z n0 h0) (G0 : Exa Z Z.heap a "com/example/deposition/deposition/filter/Truth") (G1 : Exa Z Z.heap b "com/example/deposition/deposition/filter/Truth") (G2 : Fld Z Z.heap a "java/lang/Enum" "ordinal" "I" (.int oa)) (G3 : Fld Z Z.heap b "java/lang/Enum" "ordinal" "I" (.int ob)) (MM : MirO Z "com/example/deposition/deposition/filter/Truth" mr) (hq : ¬ ((oa - ob) < (0 : Int32))) :
    MetFree l (⟨"com/example/deposition/deposition/filter/Truth", "or", "(Lcom/example/deposition/deposition/filter/Truth;)Lcom/example/deposition/deposition/filter/Truth;"⟩ : MethodName) (head1 (Jvm.Cond.code (⟨"com/example/deposition/deposition/filter/Truth", "or", "(Lcom/example/deposition/deposition/filter/Truth;)Lcom/example/deposition/deposition/filter/Truth;"⟩ : MethodName) prog_9_method_7_code 2 (some (.object "com/example/deposition/deposition/filter/Truth")) :: ws) ({ frames := 2, cells := 0, slots := 0, locals := 30 } : Room)) (fun zA zU => zA = #[(.ref a), (.ref b)] ∧ Z.Warmed39 zU.vm ∧ zU.heap = h0) (fun _ _ _ _ _ => True) (fun _ zU zo zU' => ∃ zv zL, zo = .returned zv ∧ Q_orA Z a b oa ob mr h0 n0 zv zU'.heap zL ∧ FrameEnd zU zo zU' zL ({ frames := 2, cells := 0, slots := 0, locals := 30 } : Room).cells ({ frames := 2, cells := 0, slots := 0, locals := 30 } : Room).slots) := by
  refine MetFree.of_bodySF (plainFor_of_name pn_2) hisR ?_
  intro p e s m args below meth c s₁ Bd hml0 hP hK
  obtain ⟨rfl, hZ, hh⟩ := hP
  have hx := Bd.exec
  have hby := Bd.bytes
  have hml : c.maxLocals = 2 := hml0
  have hown : s.vm.findClass "com/example/deposition/deposition/filter/Truth" = some m.cls := findClass_of_methodNamed Bd.named
  have hnm := (name_of_methodNamed Bd.named Bd.method).1
  have X0 : Stand p l e ({ frames := 2, cells := 0, slots := 0, locals := 30 } : Room) s m #[(.ref a), (.ref b)] below meth c s₁ [] 0 0 := Stand.of_body Bd
  have e0 : s₁.heap = h0 := by rw [← hh, Bd.state]; rfl
  have N0 := Fr.nil n0
  have Z0 : n0 ≤ h0.size := O0.1 ▸ O0.2.1
  have pre0 : ∀ zt, Steps p.tables e below (s₁.setTop (mkF m 0 #[.val (.ref a), .val (.ref b)] [])) zt → Steps p.tables e below (s₁.setTop (entryFrame m #[(.ref a), (.ref b)] 2)) zt := fun zt zk => castTop (ef_8_RR m a b) zk
  obtain ⟨cq1, kq1, q1a, q1b, q1c⟩ := isOf hZ e0 (G0.ext O0.2)
  obtain ⟨_, _, ⟨T1, L1, k1, n1⟩, -, X1, ⟨Lc1, hQ1, l1, y1, z1⟩, st1⟩ := X0.virtualBackUp hx (owner := "java/lang/Enum") (x := (⟨"com/example/deposition/deposition/filter/Truth", "compareTo", "(Ljava/lang/Enum;)I"⟩ : MethodName)) (y := (⟨"java/lang/Enum", "compareTo", "(Ljava/lang/Enum;)I"⟩ : MethodName)) hown (mvT hZ (hw _ (List.mem_of_getElem? (i := 31) rfl))) (mvT hZ (hw _ (List.mem_of_getElem? (i := 32) rfl))) (mvT hZ (hw _ (List.mem_of_getElem? (i := 33) rfl))) (by decide) (mvT hZ (hw _ (List.mem_of_getElem? (i := 35) rfl))) (mvT hZ (hw _ (List.mem_of_getElem? (i := 34) rfl))) (backOf (W := 0) (cmpE l Z a0 hw [] a b oa ob mr h0 n0 O0 G0 G1 G2 G3 MM) hZ (hw _ (List.mem_of_getElem? (i := 36) rfl)) (hw _ (List.mem_of_getElem? (i := 22) rfl)) (by decide) (by decide)) q1a q1c (g := (mkF m 2 #[.val (.ref a), .val (.ref b)] [(.ref b), (.ref a)])) rfl (by rw [hml]; rfl) (Steps.refl _) (argsL := [(.ref b)]) (rest := []) (lenOf pd_1 rfl) rfl (by show 2 * 0 + _ ≤ _; exact Nat.le_of_eq rfl) (hb hby d8_2) (fun _ _ => ⟨rfl, e0, (by decide : 0 + 0 ≤ _), (by decide : 0 + 0 ≤ _)⟩)
  dsimp only [Pt.U, Pt.locs, Pt.cells, Pt.slots] at X1 l1 y1 z1 st1 hQ1
  subst l1 y1 z1
  obtain ⟨rfl, Nq1, kh1⟩ := hQ1
  have N1 := Fr.app N0 Nq1
  obtain ⟨fs, hr, hrun, hended, hW, hsame⟩ := X1.leave (v := some (.ref a)) (fun h => by rw [Bd.returns] at h; cases h)
  refine ⟨_, _, pre0 _ ?_, hrun, hended, _, _, rfl, ?_, ⟨_, rfl⟩, hW, hsame.mono (by decide) (by decide)⟩
  · show Steps p.tables e below (s₁.setTop (mkF m 0 #[.val (.ref a), .val (.ref b)] [])) _
    refine XS.aloadN X0.here hx rfl (hb hby d8_0) rfl rfl ?_
    show Steps p.tables e below (s₁.setTop (mkF m 1 #[.val (.ref a), .val (.ref b)] [(.ref a)])) _
    refine XS.aloadN X0.here hx rfl (hb hby d8_1) rfl rfl ?_
    show Steps p.tables e below (s₁.setTop (mkF m 2 #[.val (.ref a), .val (.ref b)] [(.ref b), (.ref a)])) _
    refine st1.trans ?_
    show Steps p.tables e below (T1.setTop (mkF m 5 #[.val (.ref a), .val (.ref b)] [(.int (oa - ob))])) _
    refine XS.ifNo X1.here hx rfl (hb hby d8_5) rfl ((if0 _ _).trans (flt (hq : ¬ ((oa - ob) < (0 : Int32)))).1) ?_
    show Steps p.tables e below (T1.setTop (mkF m 8 #[.val (.ref a), .val (.ref b)] [])) _
    refine XS.aloadN X1.here hx rfl (hb hby d8_8) rfl rfl ?_
    show Steps p.tables e below (T1.setTop (mkF m 9 #[.val (.ref a), .val (.ref b)] [(.ref a)])) _
    refine XS.goto X1.here hx rfl (pc0 := 9) (pc' := 13) rfl (hb hby d8_9) (by decide) (by decide) ?_
    show Steps p.tables e below (T1.setTop (mkF m 13 #[.val (.ref a), .val (.ref b)] [(.ref a)])) _
    jvm_step X1.here [X1.here.top, hx, (hb hby d8_13), X1.method', Bd.returns, Value.isRef, FieldType.isReference]
    first | (intro acts; rw [hr _ acts rfl rfl rfl]) | rw [hr _ _ rfl rfl rfl]
    exact Steps.refl _
  · show Q_orA Z a b oa ob mr h0 n0 _ T1.heap _
    rw [kh1]
    exact ⟨rfl, N1, rfl⟩
def Q_orB (Z : State) (a : Addr) (b : Addr) (oa : Int32) (ob : Int32) (mr : Addr) (h0 : Heap) (n0 : Nat) (v : Option Value) (h : Heap) (L : List Loc) : Prop := v = some (.ref b) ∧ Fr n0 L ∧ h = h0
theorem d8_12 : decode prog_9_method_7_code 12 = .ok (.aload_n 1, 1) := by decide +kernel
set_option maxRecDepth 65536 in
set_option maxHeartbeats 40000000 in
theorem orB (l : Launch) (Z : State) (a0 : Array Value) (hw : ∀ d ∈ tables_1, d.before a0 Z = true) (ws : List Jvm.Cond) (a : Addr) (b : Addr) (oa : Int32) (ob : Int32) (mr : Addr) (h0 : Heap) (n0 : Nat) (O0 : Old Z n0 h0) (G0 : Exa Z Z.heap a "com/example/deposition/deposition/filter/Truth") (G1 : Exa Z Z.heap b "com/example/deposition/deposition/filter/Truth") (G2 : Fld Z Z.heap a "java/lang/Enum" "ordinal" "I" (.int oa)) (G3 : Fld Z Z.heap b "java/lang/Enum" "ordinal" "I" (.int ob)) (MM : MirO Z "com/example/deposition/deposition/filter/Truth" mr) (hq : (oa - ob) < (0 : Int32)) :
    MetFree l (⟨"com/example/deposition/deposition/filter/Truth", "or", "(Lcom/example/deposition/deposition/filter/Truth;)Lcom/example/deposition/deposition/filter/Truth;"⟩ : MethodName) (head1 (Jvm.Cond.code (⟨"com/example/deposition/deposition/filter/Truth", "or", "(Lcom/example/deposition/deposition/filter/Truth;)Lcom/example/deposition/deposition/filter/Truth;"⟩ : MethodName) prog_9_method_7_code 2 (some (.object "com/example/deposition/deposition/filter/Truth")) :: ws) ({ frames := 2, cells := 0, slots := 0, locals := 30 } : Room)) (fun zA zU => zA = #[(.ref a), (.ref b)] ∧ Z.Warmed39 zU.vm ∧ zU.heap = h0) (fun _ _ _ _ _ => True) (fun _ zU zo zU' => ∃ zv zL, zo = .returned zv ∧ Q_orB Z a b oa ob mr h0 n0 zv zU'.heap zL ∧ FrameEnd zU zo zU' zL ({ frames := 2, cells := 0, slots := 0, locals := 30 } : Room).cells ({ frames := 2, cells := 0, slots := 0, locals := 30 } : Room).slots) := by
  refine MetFree.of_bodySF (plainFor_of_name pn_2) hisR ?_
  intro p e s m args below meth c s₁ Bd hml0 hP hK
  obtain ⟨rfl, hZ, hh⟩ := hP
  have hx := Bd.exec
  have hby := Bd.bytes
  have hml : c.maxLocals = 2 := hml0
  have hown : s.vm.findClass "com/example/deposition/deposition/filter/Truth" = some m.cls := findClass_of_methodNamed Bd.named
  have hnm := (name_of_methodNamed Bd.named Bd.method).1
  have X0 : Stand p l e ({ frames := 2, cells := 0, slots := 0, locals := 30 } : Room) s m #[(.ref a), (.ref b)] below meth c s₁ [] 0 0 := Stand.of_body Bd
  have e0 : s₁.heap = h0 := by rw [← hh, Bd.state]; rfl
  have N0 := Fr.nil n0
  have Z0 : n0 ≤ h0.size := O0.1 ▸ O0.2.1
  have pre0 : ∀ zt, Steps p.tables e below (s₁.setTop (mkF m 0 #[.val (.ref a), .val (.ref b)] [])) zt → Steps p.tables e below (s₁.setTop (entryFrame m #[(.ref a), (.ref b)] 2)) zt := fun zt zk => castTop (ef_8_RR m a b) zk
  obtain ⟨cq1, kq1, q1a, q1b, q1c⟩ := isOf hZ e0 (G0.ext O0.2)
  obtain ⟨_, _, ⟨T1, L1, k1, n1⟩, -, X1, ⟨Lc1, hQ1, l1, y1, z1⟩, st1⟩ := X0.virtualBackUp hx (owner := "java/lang/Enum") (x := (⟨"com/example/deposition/deposition/filter/Truth", "compareTo", "(Ljava/lang/Enum;)I"⟩ : MethodName)) (y := (⟨"java/lang/Enum", "compareTo", "(Ljava/lang/Enum;)I"⟩ : MethodName)) hown (mvT hZ (hw _ (List.mem_of_getElem? (i := 31) rfl))) (mvT hZ (hw _ (List.mem_of_getElem? (i := 32) rfl))) (mvT hZ (hw _ (List.mem_of_getElem? (i := 33) rfl))) (by decide) (mvT hZ (hw _ (List.mem_of_getElem? (i := 35) rfl))) (mvT hZ (hw _ (List.mem_of_getElem? (i := 34) rfl))) (backOf (W := 0) (cmpE l Z a0 hw [] a b oa ob mr h0 n0 O0 G0 G1 G2 G3 MM) hZ (hw _ (List.mem_of_getElem? (i := 36) rfl)) (hw _ (List.mem_of_getElem? (i := 22) rfl)) (by decide) (by decide)) q1a q1c (g := (mkF m 2 #[.val (.ref a), .val (.ref b)] [(.ref b), (.ref a)])) rfl (by rw [hml]; rfl) (Steps.refl _) (argsL := [(.ref b)]) (rest := []) (lenOf pd_1 rfl) rfl (by show 2 * 0 + _ ≤ _; exact Nat.le_of_eq rfl) (hb hby d8_2) (fun _ _ => ⟨rfl, e0, (by decide : 0 + 0 ≤ _), (by decide : 0 + 0 ≤ _)⟩)
  dsimp only [Pt.U, Pt.locs, Pt.cells, Pt.slots] at X1 l1 y1 z1 st1 hQ1
  subst l1 y1 z1
  obtain ⟨rfl, Nq1, kh1⟩ := hQ1
  have N1 := Fr.app N0 Nq1
  obtain ⟨fs, hr, hrun, hended, hW, hsame⟩ := X1.leave (v := some (.ref b)) (fun h => by rw [Bd.returns] at h; cases h)
  refine ⟨_, _, pre0 _ ?_, hrun, hended, _, _, rfl, ?_, ⟨_, rfl⟩, hW, hsame.mono (by decide) (by decide)⟩
  · show Steps p.tables e below (s₁.setTop (mkF m 0 #[.val (.ref a), .val (.ref b)] [])) _
    refine XS.aloadN X0.here hx rfl (hb hby d8_0) rfl rfl ?_
    show Steps p.tables e below (s₁.setTop (mkF m 1 #[.val (.ref a), .val (.ref b)] [(.ref a)])) _
    refine XS.aloadN X0.here hx rfl (hb hby d8_1) rfl rfl ?_
    show Steps p.tables e below (s₁.setTop (mkF m 2 #[.val (.ref a), .val (.ref b)] [(.ref b), (.ref a)])) _
    refine st1.trans ?_
    show Steps p.tables e below (T1.setTop (mkF m 5 #[.val (.ref a), .val (.ref b)] [(.int (oa - ob))])) _
    refine XS.ifYes X1.here hx rfl (pc0 := 5) (pc' := 12) rfl (hb hby d8_5) rfl ((if0 _ _).trans (tlt (hq : (oa - ob) < (0 : Int32))).1) (by decide) (by decide) ?_
    show Steps p.tables e below (T1.setTop (mkF m 12 #[.val (.ref a), .val (.ref b)] [])) _
    refine XS.aloadN X1.here hx rfl (hb hby d8_12) rfl rfl ?_
    show Steps p.tables e below (T1.setTop (mkF m 13 #[.val (.ref a), .val (.ref b)] [(.ref b)])) _
    jvm_step X1.here [X1.here.top, hx, (hb hby d8_13), X1.method', Bd.returns, Value.isRef, FieldType.isReference]
    first | (intro acts; rw [hr _ acts rfl rfl rfl]) | rw [hr _ _ rfl rfl rfl]
    exact Steps.refl _
  · show Q_orB Z a b oa ob mr h0 n0 _ T1.heap _
    rw [kh1]
    exact ⟨rfl, N1, rfl⟩
def Q_law (Z : State) (pi : Int32) (q : Int32) (wF : Addr) (wT : Addr) (wU : Addr) (mr : Addr) (h0 : Heap) (n0 : Nat) (v : Option Value) (h : Heap) (L : List Loc) : Prop := v = some (.int (1 : Int32)) ∧ Fr n0 L
theorem pd_2 : parseMethodDescriptor "(Z)Lcom/example/deposition/deposition/filter/Truth;" = some ⟨[.boolean], some (.object "com/example/deposition/deposition/filter/Truth")⟩ := by decide +kernel
theorem pd_3 : parseMethodDescriptor "()Lcom/example/deposition/deposition/filter/Truth;" = some ⟨[], some (.object "com/example/deposition/deposition/filter/Truth")⟩ := by decide +kernel
theorem pd_4 : parseMethodDescriptor "(Lcom/example/deposition/deposition/filter/Truth;)Lcom/example/deposition/deposition/filter/Truth;" = some ⟨[(.object "com/example/deposition/deposition/filter/Truth")], some (.object "com/example/deposition/deposition/filter/Truth")⟩ := by decide +kernel
theorem pn_9 : plainName "com/example/deposition/deposition/filter/TruthOfPinLaw" = true := by first | (simp [plainName, overriddenIn]; done) | decide +kernel
theorem ef_0_II (m : MethodId) (x0 : Int32) (x1 : Int32) : entryFrame m #[(.int x0), (.int x1)] maxLocals = mkF m 0 #[.val (.int x0), .val (.int x1), .unset, .unset, .unset, .unset, .unset, .unset, .unset, .unset, .unset] [] := by first | (simp [entryFrame, mkF, argsToLocals, Value.category, maxLocals]; done) | rfl
set_option maxRecDepth 65536 in
set_option maxHeartbeats 40000000 in
theorem law_0 (l : Launch) (Z : State) (a0 : Array Value) (hw : ∀ d ∈ tables_1, d.before a0 Z = true) (ws : List Jvm.Cond) (pi : Int32) (q : Int32) (wF : Addr) (wT : Addr) (wU : Addr) (mr : Addr) (h0 : Heap) (n0 : Nat) (O0 : Old Z n0 h0) (G0 : Sta Z Z.heap "com/example/deposition/deposition/filter/Truth" "FALSE" "Lcom/example/deposition/deposition/filter/Truth;" (.ref wF)) (G1 : Sta Z Z.heap "com/example/deposition/deposition/filter/Truth" "TRUE" "Lcom/example/deposition/deposition/filter/Truth;" (.ref wT)) (G2 : Sta Z Z.heap "com/example/deposition/deposition/filter/Truth" "UNKNOWN" "Lcom/example/deposition/deposition/filter/Truth;" (.ref wU)) (G3 : Exa Z Z.heap wF "com/example/deposition/deposition/filter/Truth") (G4 : Exa Z Z.heap wT "com/example/deposition/deposition/filter/Truth") (G5 : Fld Z Z.heap wF "java/lang/Enum" "ordinal" "I" (.int (0 : Int32))) (G6 : Fld Z Z.heap wT "java/lang/Enum" "ordinal" "I" (.int (2 : Int32))) (MM : MirO Z "com/example/deposition/deposition/filter/Truth" mr) (nF : wF ≠ wU) (nT : wT ≠ wU) (hc3 : ¬ ((pi &&& (1 : Int32)) = (0 : Int32))) (hc15 : ¬ ((q &&& (1 : Int32)) = (0 : Int32))) :
    MetFree l x (head1 (Jvm.Cond.code x code maxLocals ret :: ws) room_1) (fun zA zU => zA = #[(.int pi), (.int q)] ∧ Z.Warmed39 zU.vm ∧ zU.heap = h0) (fun _ _ _ _ _ => True) (fun _ zU zo zU' => ∃ zv zL, zo = .returned zv ∧ Q_law Z pi q wF wT wU mr h0 n0 zv zU'.heap zL ∧ FrameEnd zU zo zU' zL room_1.cells room_1.slots) := by
  refine MetFree.of_bodySF (plainFor_of_name pn_9) hisR ?_
  intro p e s m args below meth c s₁ Bd hml0 hP hK
  obtain ⟨rfl, hZ, hh⟩ := hP
  have hx := Bd.exec
  have hby := Bd.bytes
  have hml : c.maxLocals = 11 := hml0
  have hown : s.vm.findClass "com/example/deposition/deposition/filter/TruthOfPinLaw" = some m.cls := findClass_of_methodNamed Bd.named
  have hnm := (name_of_methodNamed Bd.named Bd.method).1
  have X0 : Stand p l e room_1 s m #[(.int pi), (.int q)] below meth c s₁ [] 0 0 := Stand.of_body Bd
  have e0 : s₁.heap = h0 := by rw [← hh, Bd.state]; rfl
  have N0 := Fr.nil n0
  have Z0 : n0 ≤ h0.size := O0.1 ▸ O0.2.1
  have pre0 : ∀ zt, Steps p.tables e below (s₁.setTop (mkF m 0 #[.val (.int pi), .val (.int q), .unset, .unset, .unset, .unset, .unset, .unset, .unset, .unset, .unset] [])) zt → Steps p.tables e below (s₁.setTop (entryFrame m #[(.int pi), (.int q)] maxLocals)) zt := fun zt zk => castTop (ef_0_II m pi q) zk
  obtain ⟨_, _, ⟨T1, L1, k1, n1⟩, -, X1, ⟨Lc1, hQ1, l1, y1, z1⟩, st1⟩ := Jvm.LawKit.callS X0 hx (y := (⟨"com/example/deposition/deposition/filter/Truth", "of", "(Z)Lcom/example/deposition/deposition/filter/Truth;"⟩ : MethodName)) hown (mvT hZ (hw _ (List.mem_of_getElem? (i := 0) rfl))) (mvT hZ (hw _ (List.mem_of_getElem? (i := 1) rfl))) (mvT hZ (hw _ (List.mem_of_getElem? (i := 2) rfl))) (mvT hZ (hw _ (List.mem_of_getElem? (i := 3) rfl))) (by decide) (backOf (W := 0) (ofT l Z a0 hw [] wT h0 n0 O0 G1) hZ (hw _ (List.mem_of_getElem? (i := 3) rfl)) (hw _ (List.mem_of_getElem? (i := 2) rfl)) (by decide) (by decide)) (g := (mkF m 25 #[.val (.int pi), .val (.int q), .val (.int (1 : Int32)), .val (.int (1 : Int32)), .unset, .unset, .unset, .unset, .unset, .unset, .unset] [(.int (1 : Int32))])) rfl (by rw [hml]; rfl) (argsL := [(.int (1 : Int32))]) (rest := []) (lenOf pd_2 rfl) rfl (by show 2 * 0 + _ ≤ _; exact Nat.le_of_eq rfl) (hb hby at_25) (fun _ _ => ⟨rfl, e0, (by decide : 0 + 0 ≤ _), (by decide : 0 + 0 ≤ _)⟩)
  dsimp only [Pt.U, Pt.locs, Pt.cells, Pt.slots] at X1 l1 y1 z1 st1 hQ1
  subst l1 y1 z1
  obtain ⟨rfl, Nq1, kh1⟩ := hQ1
  have N1 := Fr.app N0 Nq1
  obtain ⟨_, _, ⟨T2, L2, k2, n2⟩, -, X2, ⟨Lc2, hQ2, l2, y2, z2⟩, st2⟩ := Jvm.LawKit.callS X1 hx (y := (⟨"com/example/deposition/deposition/filter/Truth", "of", "(Z)Lcom/example/deposition/deposition/filter/Truth;"⟩ : MethodName)) hown (mvT hZ (hw _ (List.mem_of_getElem? (i := 0) rfl))) (mvT hZ (hw _ (List.mem_of_getElem? (i := 1) rfl))) (mvT hZ (hw _ (List.mem_of_getElem? (i := 2) rfl))) (mvT hZ (hw _ (List.mem_of_getElem? (i := 3) rfl))) (by decide) (backOf (W := 0) (ofT l Z a0 hw [] wT h0 n0 O0 G1) hZ (hw _ (List.mem_of_getElem? (i := 3) rfl)) (hw _ (List.mem_of_getElem? (i := 2) rfl)) (by decide) (by decide)) (g := (mkF m 31 #[.val (.int pi), .val (.int q), .val (.int (1 : Int32)), .val (.int (1 : Int32)), .val (.ref wT), .unset, .unset, .unset, .unset, .unset, .unset] [(.int (1 : Int32))])) rfl (by rw [hml]; rfl) (argsL := [(.int (1 : Int32))]) (rest := []) (lenOf pd_2 rfl) rfl (by show 2 * 0 + _ ≤ _; exact Nat.le_of_eq rfl) (hb hby at_31) (fun _ _ => ⟨rfl, kh1, (by decide : 0 + 0 ≤ _), (by decide : 0 + 0 ≤ _)⟩)
  dsimp only [Pt.U, Pt.locs, Pt.cells, Pt.slots] at X2 l2 y2 z2 st2 hQ2
  subst l2 y2 z2
  obtain ⟨rfl, Nq2, kh2⟩ := hQ2
  have N2 := Fr.app N1 Nq2
  obtain ⟨T3, X3, e3, st3⟩ := getS2 X2 hx hZ hown (host := "") (Or.inl (hw _ (List.mem_of_getElem? (i := 9) rfl))) Via.refl kh2 (G1.ext O0.2) (g := (mkF m 42 #[.val (.int pi), .val (.int q), .val (.int (1 : Int32)), .val (.int (1 : Int32)), .val (.ref wT), .val (.ref wT), .unset, .unset, .unset, .unset, .unset] [(.ref wT)])) rfl (hb hby at_42)
  obtain ⟨T4, X4, e4, st4⟩ := getS2 X3 hx hZ hown (host := "") (Or.inl (hw _ (List.mem_of_getElem? (i := 9) rfl))) Via.refl e3 (G1.ext O0.2) (g := (mkF m 60 #[.val (.int pi), .val (.int q), .val (.int (1 : Int32)), .val (.int (1 : Int32)), .val (.ref wT), .val (.ref wT), .unset, .unset, .unset, .unset, .unset] [(.ref wT)])) rfl (hb hby at_60)
  obtain ⟨T5, X5, e5, st5⟩ := getS2 X4 hx hZ hown (host := "") (Or.inl (hw _ (List.mem_of_getElem? (i := 10) rfl))) Via.refl e4 (G2.ext O0.2) (g := (mkF m 81 #[.val (.int pi), .val (.int q), .val (.int (1 : Int32)), .val (.int (1 : Int32)), .val (.ref wT), .val (.ref wT), .val (.int (1 : Int32)), .unset, .unset, .unset, .unset] [(.ref wT)])) rfl (hb hby at_81)
  obtain ⟨T6, X6, e6, st6⟩ := getS2 X5 hx hZ hown (host := "") (Or.inl (hw _ (List.mem_of_getElem? (i := 10) rfl))) Via.refl e5 (G2.ext O0.2) (g := (mkF m 89 #[.val (.int pi), .val (.int q), .val (.int (1 : Int32)), .val (.int (1 : Int32)), .val (.ref wT), .val (.ref wT), .val (.int (1 : Int32)), .unset, .unset, .unset, .unset] [(.ref wT)])) rfl (hb hby at_89)
  obtain ⟨cq7, kq7, q7a, q7b, q7c⟩ := isOf hZ e6 (G4.ext O0.2)
  obtain ⟨_, _, ⟨T7, L7, k7, n7⟩, -, X7, ⟨Lc7, hQ7, l7, y7, z7⟩, st7⟩ := X6.virtualBack hx (y := (⟨"com/example/deposition/deposition/filter/Truth", "not", "()Lcom/example/deposition/deposition/filter/Truth;"⟩ : MethodName)) (z := (⟨"com/example/deposition/deposition/filter/Truth", "not", "()Lcom/example/deposition/deposition/filter/Truth;"⟩ : MethodName)) hown (mvT hZ (hw _ (List.mem_of_getElem? (i := 12) rfl))) (mvT hZ (hw _ (List.mem_of_getElem? (i := 13) rfl))) (notFace_of_selects (args := #[]) (mvT hZ (hw _ (List.mem_of_getElem? (i := 15) rfl)))) (mvT hZ (hw _ (List.mem_of_getElem? (i := 15) rfl))) (mvT hZ (hw _ (List.mem_of_getElem? (i := 14) rfl))) (by decide) (backOf (W := 0) (not2 l Z a0 hw [] wT wF h0 n0 O0 G4 G6 G0) hZ (hw _ (List.mem_of_getElem? (i := 16) rfl)) (hw _ (List.mem_of_getElem? (i := 2) rfl)) (by decide) (by decide)) q7a q7c (g := (mkF m 104 #[.val (.int pi), .val (.int q), .val (.int (1 : Int32)), .val (.int (1 : Int32)), .val (.ref wT), .val (.ref wT), .val (.int (1 : Int32)), .val (.int (1 : Int32)), .unset, .unset, .unset] [(.ref wT)])) rfl (by rw [hml]; rfl) (Steps.refl _) (argsL := []) (rest := []) (lenOf pd_3 rfl) rfl (by show 2 * 0 + _ ≤ _; exact Nat.le_of_eq rfl) (hb hby at_104) (fun _ _ => ⟨rfl, e6, (by decide : 0 + 0 ≤ _), (by decide : 0 + 0 ≤ _)⟩)
  dsimp only [Pt.U, Pt.locs, Pt.cells, Pt.slots] at X7 l7 y7 z7 st7 hQ7
  subst l7 y7 z7
  obtain ⟨rfl, Nq7, kh7⟩ := hQ7
  have N7 := Fr.app N2 Nq7
  obtain ⟨_, _, ⟨T8, L8, k8, n8⟩, -, X8, ⟨Lc8, hQ8, l8, y8, z8⟩, st8⟩ := Jvm.LawKit.callS X7 hx (y := (⟨"com/example/deposition/deposition/filter/Truth", "of", "(Z)Lcom/example/deposition/deposition/filter/Truth;"⟩ : MethodName)) hown (mvT hZ (hw _ (List.mem_of_getElem? (i := 0) rfl))) (mvT hZ (hw _ (List.mem_of_getElem? (i := 1) rfl))) (mvT hZ (hw _ (List.mem_of_getElem? (i := 2) rfl))) (mvT hZ (hw _ (List.mem_of_getElem? (i := 3) rfl))) (by decide) (backOf (W := 1) (ofF l Z a0 hw [] wF h0 n0 O0 G0) hZ (hw _ (List.mem_of_getElem? (i := 3) rfl)) (hw _ (List.mem_of_getElem? (i := 2) rfl)) (by decide) (by decide)) (g := (mkF m 116 #[.val (.int pi), .val (.int q), .val (.int (1 : Int32)), .val (.int (1 : Int32)), .val (.ref wT), .val (.ref wT), .val (.int (1 : Int32)), .val (.int (1 : Int32)), .unset, .unset, .unset] [(.int (0 : Int32)), (.ref wF)])) rfl (by rw [hml]; rfl) (argsL := [(.int (0 : Int32))]) (rest := [(.ref wF)]) (lenOf pd_2 rfl) rfl (by show 2 * 0 + _ ≤ _; exact Nat.le_of_eq rfl) (hb hby at_116) (fun _ _ => ⟨rfl, kh7, (by decide : 0 + 0 ≤ _), (by decide : 0 + 0 ≤ _)⟩)
  dsimp only [Pt.U, Pt.locs, Pt.cells, Pt.slots] at X8 l8 y8 z8 st8 hQ8
  subst l8 y8 z8
  obtain ⟨rfl, Nq8, kh8⟩ := hQ8
  have N8 := Fr.app N7 Nq8
  obtain ⟨cq9, kq9, q9a, q9b, q9c⟩ := isOf hZ kh8 (G4.ext O0.2)
  obtain ⟨_, _, ⟨T9, L9, k9, n9⟩, -, X9, ⟨Lc9, hQ9, l9, y9, z9⟩, st9⟩ := X8.virtualBack hx (y := (⟨"com/example/deposition/deposition/filter/Truth", "and", "(Lcom/example/deposition/deposition/filter/Truth;)Lcom/example/deposition/deposition/filter/Truth;"⟩ : MethodName)) (z := (⟨"com/example/deposition/deposition/filter/Truth", "and", "(Lcom/example/deposition/deposition/filter/Truth;)Lcom/example/deposition/deposition/filter/Truth;"⟩ : MethodName)) hown (mvT hZ (hw _ (List.mem_of_getElem? (i := 26) rfl))) (mvT hZ (hw _ (List.mem_of_getElem? (i := 27) rfl))) (notFace_of_selects (args := #[]) (mvT hZ (hw _ (List.mem_of_getElem? (i := 29) rfl)))) (mvT hZ (hw _ (List.mem_of_getElem? (i := 29) rfl))) (mvT hZ (hw _ (List.mem_of_getElem? (i := 28) rfl))) (by decide) (backOf (W := 0) (andA l Z a0 hw [] wT wT (2 : Int32) (2 : Int32) mr h0 n0 O0 G4 G4 G6 G6 MM (by decide)) hZ (hw _ (List.mem_of_getElem? (i := 30) rfl)) (hw _ (List.mem_of_getElem? (i := 2) rfl)) (by decide) (by decide)) q9a q9c (g := (mkF m 133 #[.val (.int pi), .val (.int q), .val (.int (1 : Int32)), .val (.int (1 : Int32)), .val (.ref wT), .val (.ref wT), .val (.int (1 : Int32)), .val (.int (1 : Int32)), .val (.int (1 : Int32)), .unset, .unset] [(.ref wT), (.ref wT)])) rfl (by rw [hml]; rfl) (Steps.refl _) (argsL := [(.ref wT)]) (rest := []) (lenOf pd_4 rfl) rfl (by show 2 * 0 + _ ≤ _; exact Nat.le_of_eq rfl) (hb hby at_133) (fun _ _ => ⟨rfl, kh8, (by decide : 0 + 0 ≤ _), (by decide : 0 + 0 ≤ _)⟩)
  dsimp only [Pt.U, Pt.locs, Pt.cells, Pt.slots] at X9 l9 y9 z9 st9 hQ9
  subst l9 y9 z9
  obtain ⟨rfl, Nq9, kh9⟩ := hQ9
  have N9 := Fr.app N8 Nq9
  obtain ⟨_, _, ⟨T10, L10, k10, n10⟩, -, X10, ⟨Lc10, hQ10, l10, y10, z10⟩, st10⟩ := Jvm.LawKit.callS X9 hx (y := (⟨"com/example/deposition/deposition/filter/Truth", "of", "(Z)Lcom/example/deposition/deposition/filter/Truth;"⟩ : MethodName)) hown (mvT hZ (hw _ (List.mem_of_getElem? (i := 0) rfl))) (mvT hZ (hw _ (List.mem_of_getElem? (i := 1) rfl))) (mvT hZ (hw _ (List.mem_of_getElem? (i := 2) rfl))) (mvT hZ (hw _ (List.mem_of_getElem? (i := 3) rfl))) (by decide) (backOf (W := 1) (ofT l Z a0 hw [] wT h0 n0 O0 G1) hZ (hw _ (List.mem_of_getElem? (i := 3) rfl)) (hw _ (List.mem_of_getElem? (i := 2) rfl)) (by decide) (by decide)) (g := (mkF m 149 #[.val (.int pi), .val (.int q), .val (.int (1 : Int32)), .val (.int (1 : Int32)), .val (.ref wT), .val (.ref wT), .val (.int (1 : Int32)), .val (.int (1 : Int32)), .val (.int (1 : Int32)), .unset, .unset] [(.int (1 : Int32)), (.ref wT)])) rfl (by rw [hml]; rfl) (argsL := [(.int (1 : Int32))]) (rest := [(.ref wT)]) (lenOf pd_2 rfl) rfl (by show 2 * 0 + _ ≤ _; exact Nat.le_of_eq rfl) (hb hby at_149) (fun _ _ => ⟨rfl, kh9, (by decide : 0 + 0 ≤ _), (by decide : 0 + 0 ≤ _)⟩)
  dsimp only [Pt.U, Pt.locs, Pt.cells, Pt.slots] at X10 l10 y10 z10 st10 hQ10
  subst l10 y10 z10
  obtain ⟨rfl, Nq10, kh10⟩ := hQ10
  have N10 := Fr.app N9 Nq10
  obtain ⟨cq11, kq11, q11a, q11b, q11c⟩ := isOf hZ kh10 (G4.ext O0.2)
  obtain ⟨_, _, ⟨T11, L11, k11, n11⟩, -, X11, ⟨Lc11, hQ11, l11, y11, z11⟩, st11⟩ := X10.virtualBack hx (y := (⟨"com/example/deposition/deposition/filter/Truth", "or", "(Lcom/example/deposition/deposition/filter/Truth;)Lcom/example/deposition/deposition/filter/Truth;"⟩ : MethodName)) (z := (⟨"com/example/deposition/deposition/filter/Truth", "or", "(Lcom/example/deposition/deposition/filter/Truth;)Lcom/example/deposition/deposition/filter/Truth;"⟩ : MethodName)) hown (mvT hZ (hw _ (List.mem_of_getElem? (i := 43) rfl))) (mvT hZ (hw _ (List.mem_of_getElem? (i := 44) rfl))) (notFace_of_selects (args := #[]) (mvT hZ (hw _ (List.mem_of_getElem? (i := 46) rfl)))) (mvT hZ (hw _ (List.mem_of_getElem? (i := 46) rfl))) (mvT hZ (hw _ (List.mem_of_getElem? (i := 45) rfl))) (by decide) (backOf (W := 0) (orA l Z a0 hw [] wT wT (2 : Int32) (2 : Int32) mr h0 n0 O0 G4 G4 G6 G6 MM (by decide)) hZ (hw _ (List.mem_of_getElem? (i := 47) rfl)) (hw _ (List.mem_of_getElem? (i := 2) rfl)) (by decide) (by decide)) q11a q11c (g := (mkF m 166 #[.val (.int pi), .val (.int q), .val (.int (1 : Int32)), .val (.int (1 : Int32)), .val (.ref wT), .val (.ref wT), .val (.int (1 : Int32)), .val (.int (1 : Int32)), .val (.int (1 : Int32)), .val (.int (1 : Int32)), .unset] [(.ref wT), (.ref wT)])) rfl (by rw [hml]; rfl) (Steps.refl _) (argsL := [(.ref wT)]) (rest := []) (lenOf pd_4 rfl) rfl (by show 2 * 0 + _ ≤ _; exact Nat.le_of_eq rfl) (hb hby at_166) (fun _ _ => ⟨rfl, kh10, (by decide : 0 + 0 ≤ _), (by decide : 0 + 0 ≤ _)⟩)
  dsimp only [Pt.U, Pt.locs, Pt.cells, Pt.slots] at X11 l11 y11 z11 st11 hQ11
  subst l11 y11 z11
  obtain ⟨rfl, Nq11, kh11⟩ := hQ11
  have N11 := Fr.app N10 Nq11
  obtain ⟨_, _, ⟨T12, L12, k12, n12⟩, -, X12, ⟨Lc12, hQ12, l12, y12, z12⟩, st12⟩ := Jvm.LawKit.callS X11 hx (y := (⟨"com/example/deposition/deposition/filter/Truth", "of", "(Z)Lcom/example/deposition/deposition/filter/Truth;"⟩ : MethodName)) hown (mvT hZ (hw _ (List.mem_of_getElem? (i := 0) rfl))) (mvT hZ (hw _ (List.mem_of_getElem? (i := 1) rfl))) (mvT hZ (hw _ (List.mem_of_getElem? (i := 2) rfl))) (mvT hZ (hw _ (List.mem_of_getElem? (i := 3) rfl))) (by decide) (backOf (W := 1) (ofT l Z a0 hw [] wT h0 n0 O0 G1) hZ (hw _ (List.mem_of_getElem? (i := 3) rfl)) (hw _ (List.mem_of_getElem? (i := 2) rfl)) (by decide) (by decide)) (g := (mkF m 182 #[.val (.int pi), .val (.int q), .val (.int (1 : Int32)), .val (.int (1 : Int32)), .val (.ref wT), .val (.ref wT), .val (.int (1 : Int32)), .val (.int (1 : Int32)), .val (.int (1 : Int32)), .val (.int (1 : Int32)), .unset] [(.int (1 : Int32)), (.ref wT)])) rfl (by rw [hml]; rfl) (argsL := [(.int (1 : Int32))]) (rest := [(.ref wT)]) (lenOf pd_2 rfl) rfl (by show 2 * 0 + _ ≤ _; exact Nat.le_of_eq rfl) (hb hby at_182) (fun _ _ => ⟨rfl, kh11, (by decide : 0 + 0 ≤ _), (by decide : 0 + 0 ≤ _)⟩)
  dsimp only [Pt.U, Pt.locs, Pt.cells, Pt.slots] at X12 l12 y12 z12 st12 hQ12
  subst l12 y12 z12
  obtain ⟨rfl, Nq12, kh12⟩ := hQ12
  have N12 := Fr.app N11 Nq12
  obtain ⟨fs, hr, hrun, hended, hW, hsame⟩ := X12.leave (v := some (.int (1 : Int32))) (fun h => by rw [Bd.returns] at h; cases h)
  refine ⟨_, _, pre0 _ ?_, hrun, hended, _, _, rfl, ?_, ⟨_, rfl⟩, hW, hsame.mono (by decide) (by decide)⟩
  · show Steps p.tables e below (s₁.setTop (mkF m 0 #[.val (.int pi), .val (.int q), .unset, .unset, .unset, .unset, .unset, .unset, .unset, .unset, .unset] [])) _
    refine XS.iloadN X0.here hx rfl (hb hby at_0) rfl ?_
    show Steps p.tables e below (s₁.setTop (mkF m 1 #[.val (.int pi), .val (.int q), .unset, .unset, .unset, .unset, .unset, .unset, .unset, .unset, .unset] [(.int pi)])) _
    refine XS.iconst X0.here hx rfl (hb hby at_1) ?_
    show Steps p.tables e below (s₁.setTop (mkF m 2 #[.val (.int pi), .val (.int q), .unset, .unset, .unset, .unset, .unset, .unset, .unset, .unset, .unset] [(.int (1 : Int32)), (.int pi)])) _
    refine XS.iand X0.here hx rfl (hb hby at_2) rfl ?_
    show Steps p.tables e below (s₁.setTop (mkF m 3 #[.val (.int pi), .val (.int q), .unset, .unset, .unset, .unset, .unset, .unset, .unset, .unset, .unset] [(.int (pi &&& (1 : Int32)))])) _
    refine XS.ifNo X0.here hx rfl (hb hby at_3) rfl ((if0 _ _).trans (feq (hc3 : ¬ ((pi &&& (1 : Int32)) = (0 : Int32)))).1) ?_
    show Steps p.tables e below (s₁.setTop (mkF m 6 #[.val (.int pi), .val (.int q), .unset, .unset, .unset, .unset, .unset, .unset, .unset, .unset, .unset] [])) _
    refine XS.iconst X0.here hx rfl (hb hby at_6) ?_
    show Steps p.tables e below (s₁.setTop (mkF m 7 #[.val (.int pi), .val (.int q), .unset, .unset, .unset, .unset, .unset, .unset, .unset, .unset, .unset] [(.int (1 : Int32))])) _
    refine XS.goto X0.here hx rfl (pc0 := 7) (pc' := 11) rfl (hb hby at_7) (by decide) (by decide) ?_
    show Steps p.tables e below (s₁.setTop (mkF m 11 #[.val (.int pi), .val (.int q), .unset, .unset, .unset, .unset, .unset, .unset, .unset, .unset, .unset] [(.int (1 : Int32))])) _
    refine XS.istoreN X0.here hx rfl (hb hby at_11) rfl (l' := #[.val (.int pi), .val (.int q), .val (.int (1 : Int32)), .unset, .unset, .unset, .unset, .unset, .unset, .unset, .unset]) rfl ?_
    show Steps p.tables e below (s₁.setTop (mkF m 12 #[.val (.int pi), .val (.int q), .val (.int (1 : Int32)), .unset, .unset, .unset, .unset, .unset, .unset, .unset, .unset] [])) _
    refine XS.iloadN X0.here hx rfl (hb hby at_12) rfl ?_
    show Steps p.tables e below (s₁.setTop (mkF m 13 #[.val (.int pi), .val (.int q), .val (.int (1 : Int32)), .unset, .unset, .unset, .unset, .unset, .unset, .unset, .unset] [(.int q)])) _
    refine XS.iconst X0.here hx rfl (hb hby at_13) ?_
    show Steps p.tables e below (s₁.setTop (mkF m 14 #[.val (.int pi), .val (.int q), .val (.int (1 : Int32)), .unset, .unset, .unset, .unset, .unset, .unset, .unset, .unset] [(.int (1 : Int32)), (.int q)])) _
    refine XS.iand X0.here hx rfl (hb hby at_14) rfl ?_
    show Steps p.tables e below (s₁.setTop (mkF m 15 #[.val (.int pi), .val (.int q), .val (.int (1 : Int32)), .unset, .unset, .unset, .unset, .unset, .unset, .unset, .unset] [(.int (q &&& (1 : Int32)))])) _
    refine XS.ifNo X0.here hx rfl (hb hby at_15) rfl ((if0 _ _).trans (feq (hc15 : ¬ ((q &&& (1 : Int32)) = (0 : Int32)))).1) ?_
    show Steps p.tables e below (s₁.setTop (mkF m 18 #[.val (.int pi), .val (.int q), .val (.int (1 : Int32)), .unset, .unset, .unset, .unset, .unset, .unset, .unset, .unset] [])) _
    refine XS.iconst X0.here hx rfl (hb hby at_18) ?_
    show Steps p.tables e below (s₁.setTop (mkF m 19 #[.val (.int pi), .val (.int q), .val (.int (1 : Int32)), .unset, .unset, .unset, .unset, .unset, .unset, .unset, .unset] [(.int (1 : Int32))])) _
    refine XS.goto X0.here hx rfl (pc0 := 19) (pc' := 23) rfl (hb hby at_19) (by decide) (by decide) ?_
    show Steps p.tables e below (s₁.setTop (mkF m 23 #[.val (.int pi), .val (.int q), .val (.int (1 : Int32)), .unset, .unset, .unset, .unset, .unset, .unset, .unset, .unset] [(.int (1 : Int32))])) _
    refine XS.istoreN X0.here hx rfl (hb hby at_23) rfl (l' := #[.val (.int pi), .val (.int q), .val (.int (1 : Int32)), .val (.int (1 : Int32)), .unset, .unset, .unset, .unset, .unset, .unset, .unset]) rfl ?_
    show Steps p.tables e below (s₁.setTop (mkF m 24 #[.val (.int pi), .val (.int q), .val (.int (1 : Int32)), .val (.int (1 : Int32)), .unset, .unset, .unset, .unset, .unset, .unset, .unset] [])) _
    refine XS.iloadN X0.here hx rfl (hb hby at_24) rfl ?_
    show Steps p.tables e below (s₁.setTop (mkF m 25 #[.val (.int pi), .val (.int q), .val (.int (1 : Int32)), .val (.int (1 : Int32)), .unset, .unset, .unset, .unset, .unset, .unset, .unset] [(.int (1 : Int32))])) _
    refine st1 _ ?_
    show Steps p.tables e below (T1.setTop (mkF m 28 #[.val (.int pi), .val (.int q), .val (.int (1 : Int32)), .val (.int (1 : Int32)), .unset, .unset, .unset, .unset, .unset, .unset, .unset] [(.ref wT)])) _
    refine XS.astore X1.here hx rfl (hb hby at_28) rfl rfl (l' := #[.val (.int pi), .val (.int q), .val (.int (1 : Int32)), .val (.int (1 : Int32)), .val (.ref wT), .unset, .unset, .unset, .unset, .unset, .unset]) rfl ?_
    show Steps p.tables e below (T1.setTop (mkF m 30 #[.val (.int pi), .val (.int q), .val (.int (1 : Int32)), .val (.int (1 : Int32)), .val (.ref wT), .unset, .unset, .unset, .unset, .unset, .unset] [])) _
    refine XS.iloadN X1.here hx rfl (hb hby at_30) rfl ?_
    show Steps p.tables e below (T1.setTop (mkF m 31 #[.val (.int pi), .val (.int q), .val (.int (1 : Int32)), .val (.int (1 : Int32)), .val (.ref wT), .unset, .unset, .unset, .unset, .unset, .unset] [(.int (1 : Int32))])) _
    refine st2 _ ?_
    show Steps p.tables e below (T2.setTop (mkF m 34 #[.val (.int pi), .val (.int q), .val (.int (1 : Int32)), .val (.int (1 : Int32)), .val (.ref wT), .unset, .unset, .unset, .unset, .unset, .unset] [(.ref wT)])) _
    refine XS.astore X2.here hx rfl (hb hby at_34) rfl rfl (l' := #[.val (.int pi), .val (.int q), .val (.int (1 : Int32)), .val (.int (1 : Int32)), .val (.ref wT), .val (.ref wT), .unset, .unset, .unset, .unset, .unset]) rfl ?_
    show Steps p.tables e below (T2.setTop (mkF m 36 #[.val (.int pi), .val (.int q), .val (.int (1 : Int32)), .val (.int (1 : Int32)), .val (.ref wT), .val (.ref wT), .unset, .unset, .unset, .unset, .unset] [])) _
    refine XS.aload X2.here hx rfl (hb hby at_36) rfl rfl ?_
    show Steps p.tables e below (T2.setTop (mkF m 38 #[.val (.int pi), .val (.int q), .val (.int (1 : Int32)), .val (.int (1 : Int32)), .val (.ref wT), .val (.ref wT), .unset, .unset, .unset, .unset, .unset] [(.ref wT)])) _
    refine XS.iloadN X2.here hx rfl (hb hby at_38) rfl ?_
    show Steps p.tables e below (T2.setTop (mkF m 39 #[.val (.int pi), .val (.int q), .val (.int (1 : Int32)), .val (.int (1 : Int32)), .val (.ref wT), .val (.ref wT), .unset, .unset, .unset, .unset, .unset] [(.int (1 : Int32)), (.ref wT)])) _
    refine XS.ifNo X2.here hx rfl (hb hby at_39) rfl ((if0 _ _).trans (feq (by decide : ¬ ((1 : Int32) = (0 : Int32)))).1) ?_
    show Steps p.tables e below (T2.setTop (mkF m 42 #[.val (.int pi), .val (.int q), .val (.int (1 : Int32)), .val (.int (1 : Int32)), .val (.ref wT), .val (.ref wT), .unset, .unset, .unset, .unset, .unset] [(.ref wT)])) _
    refine st3 _ ?_
    show Steps p.tables e below (T3.setTop (mkF m 45 #[.val (.int pi), .val (.int q), .val (.int (1 : Int32)), .val (.int (1 : Int32)), .val (.ref wT), .val (.ref wT), .unset, .unset, .unset, .unset, .unset] [(.ref wT), (.ref wT)])) _
    refine XS.goto X3.here hx rfl (pc0 := 45) (pc' := 51) rfl (hb hby at_45) (by decide) (by decide) ?_
    show Steps p.tables e below (T3.setTop (mkF m 51 #[.val (.int pi), .val (.int q), .val (.int (1 : Int32)), .val (.int (1 : Int32)), .val (.ref wT), .val (.ref wT), .unset, .unset, .unset, .unset, .unset] [(.ref wT), (.ref wT)])) _
    refine Jvm.RoadKit.acmp (g := (mkF m 51 #[.val (.int pi), .val (.int q), .val (.int (1 : Int32)), .val (.int (1 : Int32)), .val (.ref wT), .val (.ref wT), .unset, .unset, .unset, .unset, .unset] [(.ref wT), (.ref wT)])) X3 hx rfl rfl rfl (pc0 := 51) (pc' := 54) (same := true) rfl (hb hby at_51) rfl (decide_eq_true rfl) (by decide) (by decide) ?_
    show Steps p.tables e below (T3.setTop (mkF m 54 #[.val (.int pi), .val (.int q), .val (.int (1 : Int32)), .val (.int (1 : Int32)), .val (.ref wT), .val (.ref wT), .unset, .unset, .unset, .unset, .unset] [])) _
    refine XS.aload X3.here hx rfl (hb hby at_54) rfl rfl ?_
    show Steps p.tables e below (T3.setTop (mkF m 56 #[.val (.int pi), .val (.int q), .val (.int (1 : Int32)), .val (.int (1 : Int32)), .val (.ref wT), .val (.ref wT), .unset, .unset, .unset, .unset, .unset] [(.ref wT)])) _
    refine XS.iloadN X3.here hx rfl (hb hby at_56) rfl ?_
    show Steps p.tables e below (T3.setTop (mkF m 57 #[.val (.int pi), .val (.int q), .val (.int (1 : Int32)), .val (.int (1 : Int32)), .val (.ref wT), .val (.ref wT), .unset, .unset, .unset, .unset, .unset] [(.int (1 : Int32)), (.ref wT)])) _
    refine XS.ifNo X3.here hx rfl (hb hby at_57) rfl ((if0 _ _).trans (feq (by decide : ¬ ((1 : Int32) = (0 : Int32)))).1) ?_
    show Steps p.tables e below (T3.setTop (mkF m 60 #[.val (.int pi), .val (.int q), .val (.int (1 : Int32)), .val (.int (1 : Int32)), .val (.ref wT), .val (.ref wT), .unset, .unset, .unset, .unset, .unset] [(.ref wT)])) _
    refine st4 _ ?_
    show Steps p.tables e below (T4.setTop (mkF m 63 #[.val (.int pi), .val (.int q), .val (.int (1 : Int32)), .val (.int (1 : Int32)), .val (.ref wT), .val (.ref wT), .unset, .unset, .unset, .unset, .unset] [(.ref wT), (.ref wT)])) _
    refine XS.goto X4.here hx rfl (pc0 := 63) (pc' := 69) rfl (hb hby at_63) (by decide) (by decide) ?_
    show Steps p.tables e below (T4.setTop (mkF m 69 #[.val (.int pi), .val (.int q), .val (.int (1 : Int32)), .val (.int (1 : Int32)), .val (.ref wT), .val (.ref wT), .unset, .unset, .unset, .unset, .unset] [(.ref wT), (.ref wT)])) _
    refine Jvm.RoadKit.acmp (g := (mkF m 69 #[.val (.int pi), .val (.int q), .val (.int (1 : Int32)), .val (.int (1 : Int32)), .val (.ref wT), .val (.ref wT), .unset, .unset, .unset, .unset, .unset] [(.ref wT), (.ref wT)])) X4 hx rfl rfl rfl (pc0 := 69) (pc' := 72) (same := true) rfl (hb hby at_69) rfl (decide_eq_true rfl) (by decide) (by decide) ?_
    show Steps p.tables e below (T4.setTop (mkF m 72 #[.val (.int pi), .val (.int q), .val (.int (1 : Int32)), .val (.int (1 : Int32)), .val (.ref wT), .val (.ref wT), .unset, .unset, .unset, .unset, .unset] [])) _
    refine XS.iconst X4.here hx rfl (hb hby at_72) ?_
    show Steps p.tables e below (T4.setTop (mkF m 73 #[.val (.int pi), .val (.int q), .val (.int (1 : Int32)), .val (.int (1 : Int32)), .val (.ref wT), .val (.ref wT), .unset, .unset, .unset, .unset, .unset] [(.int (1 : Int32))])) _
    refine XS.goto X4.here hx rfl (pc0 := 73) (pc' := 77) rfl (hb hby at_73) (by decide) (by decide) ?_
    show Steps p.tables e below (T4.setTop (mkF m 77 #[.val (.int pi), .val (.int q), .val (.int (1 : Int32)), .val (.int (1 : Int32)), .val (.ref wT), .val (.ref wT), .unset, .unset, .unset, .unset, .unset] [(.int (1 : Int32))])) _
    refine XS.istore X4.here hx rfl (hb hby at_77) rfl (l' := #[.val (.int pi), .val (.int q), .val (.int (1 : Int32)), .val (.int (1 : Int32)), .val (.ref wT), .val (.ref wT), .val (.int (1 : Int32)), .unset, .unset, .unset, .unset]) rfl ?_
    show Steps p.tables e below (T4.setTop (mkF m 79 #[.val (.int pi), .val (.int q), .val (.int (1 : Int32)), .val (.int (1 : Int32)), .val (.ref wT), .val (.ref wT), .val (.int (1 : Int32)), .unset, .unset, .unset, .unset] [])) _
    refine XS.aload X4.here hx rfl (hb hby at_79) rfl rfl ?_
    show Steps p.tables e below (T4.setTop (mkF m 81 #[.val (.int pi), .val (.int q), .val (.int (1 : Int32)), .val (.int (1 : Int32)), .val (.ref wT), .val (.ref wT), .val (.int (1 : Int32)), .unset, .unset, .unset, .unset] [(.ref wT)])) _
    refine st5 _ ?_
    show Steps p.tables e below (T5.setTop (mkF m 84 #[.val (.int pi), .val (.int q), .val (.int (1 : Int32)), .val (.int (1 : Int32)), .val (.ref wT), .val (.ref wT), .val (.int (1 : Int32)), .unset, .unset, .unset, .unset] [(.ref wU), (.ref wT)])) _
    refine Jvm.RoadKit.acmp (g := (mkF m 84 #[.val (.int pi), .val (.int q), .val (.int (1 : Int32)), .val (.int (1 : Int32)), .val (.ref wT), .val (.ref wT), .val (.int (1 : Int32)), .unset, .unset, .unset, .unset] [(.ref wU), (.ref wT)])) X5 hx rfl rfl rfl (pc0 := 84) (pc' := 87) (same := false) rfl (hb hby at_84) rfl (decide_eq_false fun q => nT (Value.ref.inj q)) (by decide) (by decide) ?_
    show Steps p.tables e below (T5.setTop (mkF m 87 #[.val (.int pi), .val (.int q), .val (.int (1 : Int32)), .val (.int (1 : Int32)), .val (.ref wT), .val (.ref wT), .val (.int (1 : Int32)), .unset, .unset, .unset, .unset] [])) _
    refine XS.aload X5.here hx rfl (hb hby at_87) rfl rfl ?_
    show Steps p.tables e below (T5.setTop (mkF m 89 #[.val (.int pi), .val (.int q), .val (.int (1 : Int32)), .val (.int (1 : Int32)), .val (.ref wT), .val (.ref wT), .val (.int (1 : Int32)), .unset, .unset, .unset, .unset] [(.ref wT)])) _
    refine st6 _ ?_
    show Steps p.tables e below (T6.setTop (mkF m 92 #[.val (.int pi), .val (.int q), .val (.int (1 : Int32)), .val (.int (1 : Int32)), .val (.ref wT), .val (.ref wT), .val (.int (1 : Int32)), .unset, .unset, .unset, .unset] [(.ref wU), (.ref wT)])) _
    refine Jvm.RoadKit.acmp (g := (mkF m 92 #[.val (.int pi), .val (.int q), .val (.int (1 : Int32)), .val (.int (1 : Int32)), .val (.ref wT), .val (.ref wT), .val (.int (1 : Int32)), .unset, .unset, .unset, .unset] [(.ref wU), (.ref wT)])) X6 hx rfl rfl rfl (pc0 := 92) (pc' := 95) (same := false) rfl (hb hby at_92) rfl (decide_eq_false fun q => nT (Value.ref.inj q)) (by decide) (by decide) ?_
    show Steps p.tables e below (T6.setTop (mkF m 95 #[.val (.int pi), .val (.int q), .val (.int (1 : Int32)), .val (.int (1 : Int32)), .val (.ref wT), .val (.ref wT), .val (.int (1 : Int32)), .unset, .unset, .unset, .unset] [])) _
    refine XS.iconst X6.here hx rfl (hb hby at_95) ?_
    show Steps p.tables e below (T6.setTop (mkF m 96 #[.val (.int pi), .val (.int q), .val (.int (1 : Int32)), .val (.int (1 : Int32)), .val (.ref wT), .val (.ref wT), .val (.int (1 : Int32)), .unset, .unset, .unset, .unset] [(.int (1 : Int32))])) _
    refine XS.goto X6.here hx rfl (pc0 := 96) (pc' := 100) rfl (hb hby at_96) (by decide) (by decide) ?_
    show Steps p.tables e below (T6.setTop (mkF m 100 #[.val (.int pi), .val (.int q), .val (.int (1 : Int32)), .val (.int (1 : Int32)), .val (.ref wT), .val (.ref wT), .val (.int (1 : Int32)), .unset, .unset, .unset, .unset] [(.int (1 : Int32))])) _
    refine XS.istore X6.here hx rfl (hb hby at_100) rfl (l' := #[.val (.int pi), .val (.int q), .val (.int (1 : Int32)), .val (.int (1 : Int32)), .val (.ref wT), .val (.ref wT), .val (.int (1 : Int32)), .val (.int (1 : Int32)), .unset, .unset, .unset]) rfl ?_
    show Steps p.tables e below (T6.setTop (mkF m 102 #[.val (.int pi), .val (.int q), .val (.int (1 : Int32)), .val (.int (1 : Int32)), .val (.ref wT), .val (.ref wT), .val (.int (1 : Int32)), .val (.int (1 : Int32)), .unset, .unset, .unset] [])) _
    refine XS.aload X6.here hx rfl (hb hby at_102) rfl rfl ?_
    show Steps p.tables e below (T6.setTop (mkF m 104 #[.val (.int pi), .val (.int q), .val (.int (1 : Int32)), .val (.int (1 : Int32)), .val (.ref wT), .val (.ref wT), .val (.int (1 : Int32)), .val (.int (1 : Int32)), .unset, .unset, .unset] [(.ref wT)])) _
    refine st7.trans ?_
    show Steps p.tables e below (T7.setTop (mkF m 107 #[.val (.int pi), .val (.int q), .val (.int (1 : Int32)), .val (.int (1 : Int32)), .val (.ref wT), .val (.ref wT), .val (.int (1 : Int32)), .val (.int (1 : Int32)), .unset, .unset, .unset] [(.ref wF)])) _
    refine XS.iloadN X7.here hx rfl (hb hby at_107) rfl ?_
    show Steps p.tables e below (T7.setTop (mkF m 108 #[.val (.int pi), .val (.int q), .val (.int (1 : Int32)), .val (.int (1 : Int32)), .val (.ref wT), .val (.ref wT), .val (.int (1 : Int32)), .val (.int (1 : Int32)), .unset, .unset, .unset] [(.int (1 : Int32)), (.ref wF)])) _
    refine XS.ifYes X7.here hx rfl (pc0 := 108) (pc' := 115) rfl (hb hby at_108) rfl ((if0 _ _).trans (feq (by decide : ¬ ((1 : Int32) = (0 : Int32)))).2) (by decide) (by decide) ?_
    show Steps p.tables e below (T7.setTop (mkF m 115 #[.val (.int pi), .val (.int q), .val (.int (1 : Int32)), .val (.int (1 : Int32)), .val (.ref wT), .val (.ref wT), .val (.int (1 : Int32)), .val (.int (1 : Int32)), .unset, .unset, .unset] [(.ref wF)])) _
    refine XS.iconst X7.here hx rfl (hb hby at_115) ?_
    show Steps p.tables e below (T7.setTop (mkF m 116 #[.val (.int pi), .val (.int q), .val (.int (1 : Int32)), .val (.int (1 : Int32)), .val (.ref wT), .val (.ref wT), .val (.int (1 : Int32)), .val (.int (1 : Int32)), .unset, .unset, .unset] [(.int (0 : Int32)), (.ref wF)])) _
    refine st8 _ ?_
    show Steps p.tables e below (T8.setTop (mkF m 119 #[.val (.int pi), .val (.int q), .val (.int (1 : Int32)), .val (.int (1 : Int32)), .val (.ref wT), .val (.ref wT), .val (.int (1 : Int32)), .val (.int (1 : Int32)), .unset, .unset, .unset] [(.ref wF), (.ref wF)])) _
    refine Jvm.RoadKit.acmp (g := (mkF m 119 #[.val (.int pi), .val (.int q), .val (.int (1 : Int32)), .val (.int (1 : Int32)), .val (.ref wT), .val (.ref wT), .val (.int (1 : Int32)), .val (.int (1 : Int32)), .unset, .unset, .unset] [(.ref wF), (.ref wF)])) X8 hx rfl rfl rfl (pc0 := 119) (pc' := 122) (same := true) rfl (hb hby at_119) rfl (decide_eq_true rfl) (by decide) (by decide) ?_
    show Steps p.tables e below (T8.setTop (mkF m 122 #[.val (.int pi), .val (.int q), .val (.int (1 : Int32)), .val (.int (1 : Int32)), .val (.ref wT), .val (.ref wT), .val (.int (1 : Int32)), .val (.int (1 : Int32)), .unset, .unset, .unset] [])) _
    refine XS.iconst X8.here hx rfl (hb hby at_122) ?_
    show Steps p.tables e below (T8.setTop (mkF m 123 #[.val (.int pi), .val (.int q), .val (.int (1 : Int32)), .val (.int (1 : Int32)), .val (.ref wT), .val (.ref wT), .val (.int (1 : Int32)), .val (.int (1 : Int32)), .unset, .unset, .unset] [(.int (1 : Int32))])) _
    refine XS.goto X8.here hx rfl (pc0 := 123) (pc' := 127) rfl (hb hby at_123) (by decide) (by decide) ?_
    show Steps p.tables e below (T8.setTop (mkF m 127 #[.val (.int pi), .val (.int q), .val (.int (1 : Int32)), .val (.int (1 : Int32)), .val (.ref wT), .val (.ref wT), .val (.int (1 : Int32)), .val (.int (1 : Int32)), .unset, .unset, .unset] [(.int (1 : Int32))])) _
    refine XS.istore X8.here hx rfl (hb hby at_127) rfl (l' := #[.val (.int pi), .val (.int q), .val (.int (1 : Int32)), .val (.int (1 : Int32)), .val (.ref wT), .val (.ref wT), .val (.int (1 : Int32)), .val (.int (1 : Int32)), .val (.int (1 : Int32)), .unset, .unset]) rfl ?_
    show Steps p.tables e below (T8.setTop (mkF m 129 #[.val (.int pi), .val (.int q), .val (.int (1 : Int32)), .val (.int (1 : Int32)), .val (.ref wT), .val (.ref wT), .val (.int (1 : Int32)), .val (.int (1 : Int32)), .val (.int (1 : Int32)), .unset, .unset] [])) _
    refine XS.aload X8.here hx rfl (hb hby at_129) rfl rfl ?_
    show Steps p.tables e below (T8.setTop (mkF m 131 #[.val (.int pi), .val (.int q), .val (.int (1 : Int32)), .val (.int (1 : Int32)), .val (.ref wT), .val (.ref wT), .val (.int (1 : Int32)), .val (.int (1 : Int32)), .val (.int (1 : Int32)), .unset, .unset] [(.ref wT)])) _
    refine XS.aload X8.here hx rfl (hb hby at_131) rfl rfl ?_
    show Steps p.tables e below (T8.setTop (mkF m 133 #[.val (.int pi), .val (.int q), .val (.int (1 : Int32)), .val (.int (1 : Int32)), .val (.ref wT), .val (.ref wT), .val (.int (1 : Int32)), .val (.int (1 : Int32)), .val (.int (1 : Int32)), .unset, .unset] [(.ref wT), (.ref wT)])) _
    refine st9.trans ?_
    show Steps p.tables e below (T9.setTop (mkF m 136 #[.val (.int pi), .val (.int q), .val (.int (1 : Int32)), .val (.int (1 : Int32)), .val (.ref wT), .val (.ref wT), .val (.int (1 : Int32)), .val (.int (1 : Int32)), .val (.int (1 : Int32)), .unset, .unset] [(.ref wT)])) _
    refine XS.iloadN X9.here hx rfl (hb hby at_136) rfl ?_
    show Steps p.tables e below (T9.setTop (mkF m 137 #[.val (.int pi), .val (.int q), .val (.int (1 : Int32)), .val (.int (1 : Int32)), .val (.ref wT), .val (.ref wT), .val (.int (1 : Int32)), .val (.int (1 : Int32)), .val (.int (1 : Int32)), .unset, .unset] [(.int (1 : Int32)), (.ref wT)])) _
    refine XS.ifNo X9.here hx rfl (hb hby at_137) rfl ((if0 _ _).trans (feq (by decide : ¬ ((1 : Int32) = (0 : Int32)))).1) ?_
    show Steps p.tables e below (T9.setTop (mkF m 140 #[.val (.int pi), .val (.int q), .val (.int (1 : Int32)), .val (.int (1 : Int32)), .val (.ref wT), .val (.ref wT), .val (.int (1 : Int32)), .val (.int (1 : Int32)), .val (.int (1 : Int32)), .unset, .unset] [(.ref wT)])) _
    refine XS.iloadN X9.here hx rfl (hb hby at_140) rfl ?_
    show Steps p.tables e below (T9.setTop (mkF m 141 #[.val (.int pi), .val (.int q), .val (.int (1 : Int32)), .val (.int (1 : Int32)), .val (.ref wT), .val (.ref wT), .val (.int (1 : Int32)), .val (.int (1 : Int32)), .val (.int (1 : Int32)), .unset, .unset] [(.int (1 : Int32)), (.ref wT)])) _
    refine XS.ifNo X9.here hx rfl (hb hby at_141) rfl ((if0 _ _).trans (feq (by decide : ¬ ((1 : Int32) = (0 : Int32)))).1) ?_
    show Steps p.tables e below (T9.setTop (mkF m 144 #[.val (.int pi), .val (.int q), .val (.int (1 : Int32)), .val (.int (1 : Int32)), .val (.ref wT), .val (.ref wT), .val (.int (1 : Int32)), .val (.int (1 : Int32)), .val (.int (1 : Int32)), .unset, .unset] [(.ref wT)])) _
    refine XS.iconst X9.here hx rfl (hb hby at_144) ?_
    show Steps p.tables e below (T9.setTop (mkF m 145 #[.val (.int pi), .val (.int q), .val (.int (1 : Int32)), .val (.int (1 : Int32)), .val (.ref wT), .val (.ref wT), .val (.int (1 : Int32)), .val (.int (1 : Int32)), .val (.int (1 : Int32)), .unset, .unset] [(.int (1 : Int32)), (.ref wT)])) _
    refine XS.goto X9.here hx rfl (pc0 := 145) (pc' := 149) rfl (hb hby at_145) (by decide) (by decide) ?_
    show Steps p.tables e below (T9.setTop (mkF m 149 #[.val (.int pi), .val (.int q), .val (.int (1 : Int32)), .val (.int (1 : Int32)), .val (.ref wT), .val (.ref wT), .val (.int (1 : Int32)), .val (.int (1 : Int32)), .val (.int (1 : Int32)), .unset, .unset] [(.int (1 : Int32)), (.ref wT)])) _
    refine st10 _ ?_
    show Steps p.tables e below (T10.setTop (mkF m 152 #[.val (.int pi), .val (.int q), .val (.int (1 : Int32)), .val (.int (1 : Int32)), .val (.ref wT), .val (.ref wT), .val (.int (1 : Int32)), .val (.int (1 : Int32)), .val (.int (1 : Int32)), .unset, .unset] [(.ref wT), (.ref wT)])) _
    refine Jvm.RoadKit.acmp (g := (mkF m 152 #[.val (.int pi), .val (.int q), .val (.int (1 : Int32)), .val (.int (1 : Int32)), .val (.ref wT), .val (.ref wT), .val (.int (1 : Int32)), .val (.int (1 : Int32)), .val (.int (1 : Int32)), .unset, .unset] [(.ref wT), (.ref wT)])) X10 hx rfl rfl rfl (pc0 := 152) (pc' := 155) (same := true) rfl (hb hby at_152) rfl (decide_eq_true rfl) (by decide) (by decide) ?_
    show Steps p.tables e below (T10.setTop (mkF m 155 #[.val (.int pi), .val (.int q), .val (.int (1 : Int32)), .val (.int (1 : Int32)), .val (.ref wT), .val (.ref wT), .val (.int (1 : Int32)), .val (.int (1 : Int32)), .val (.int (1 : Int32)), .unset, .unset] [])) _
    refine XS.iconst X10.here hx rfl (hb hby at_155) ?_
    show Steps p.tables e below (T10.setTop (mkF m 156 #[.val (.int pi), .val (.int q), .val (.int (1 : Int32)), .val (.int (1 : Int32)), .val (.ref wT), .val (.ref wT), .val (.int (1 : Int32)), .val (.int (1 : Int32)), .val (.int (1 : Int32)), .unset, .unset] [(.int (1 : Int32))])) _
    refine XS.goto X10.here hx rfl (pc0 := 156) (pc' := 160) rfl (hb hby at_156) (by decide) (by decide) ?_
    show Steps p.tables e below (T10.setTop (mkF m 160 #[.val (.int pi), .val (.int q), .val (.int (1 : Int32)), .val (.int (1 : Int32)), .val (.ref wT), .val (.ref wT), .val (.int (1 : Int32)), .val (.int (1 : Int32)), .val (.int (1 : Int32)), .unset, .unset] [(.int (1 : Int32))])) _
    refine XS.istore X10.here hx rfl (hb hby at_160) rfl (l' := #[.val (.int pi), .val (.int q), .val (.int (1 : Int32)), .val (.int (1 : Int32)), .val (.ref wT), .val (.ref wT), .val (.int (1 : Int32)), .val (.int (1 : Int32)), .val (.int (1 : Int32)), .val (.int (1 : Int32)), .unset]) rfl ?_
    show Steps p.tables e below (T10.setTop (mkF m 162 #[.val (.int pi), .val (.int q), .val (.int (1 : Int32)), .val (.int (1 : Int32)), .val (.ref wT), .val (.ref wT), .val (.int (1 : Int32)), .val (.int (1 : Int32)), .val (.int (1 : Int32)), .val (.int (1 : Int32)), .unset] [])) _
    refine XS.aload X10.here hx rfl (hb hby at_162) rfl rfl ?_
    show Steps p.tables e below (T10.setTop (mkF m 164 #[.val (.int pi), .val (.int q), .val (.int (1 : Int32)), .val (.int (1 : Int32)), .val (.ref wT), .val (.ref wT), .val (.int (1 : Int32)), .val (.int (1 : Int32)), .val (.int (1 : Int32)), .val (.int (1 : Int32)), .unset] [(.ref wT)])) _
    refine XS.aload X10.here hx rfl (hb hby at_164) rfl rfl ?_
    show Steps p.tables e below (T10.setTop (mkF m 166 #[.val (.int pi), .val (.int q), .val (.int (1 : Int32)), .val (.int (1 : Int32)), .val (.ref wT), .val (.ref wT), .val (.int (1 : Int32)), .val (.int (1 : Int32)), .val (.int (1 : Int32)), .val (.int (1 : Int32)), .unset] [(.ref wT), (.ref wT)])) _
    refine st11.trans ?_
    show Steps p.tables e below (T11.setTop (mkF m 169 #[.val (.int pi), .val (.int q), .val (.int (1 : Int32)), .val (.int (1 : Int32)), .val (.ref wT), .val (.ref wT), .val (.int (1 : Int32)), .val (.int (1 : Int32)), .val (.int (1 : Int32)), .val (.int (1 : Int32)), .unset] [(.ref wT)])) _
    refine XS.iloadN X11.here hx rfl (hb hby at_169) rfl ?_
    show Steps p.tables e below (T11.setTop (mkF m 170 #[.val (.int pi), .val (.int q), .val (.int (1 : Int32)), .val (.int (1 : Int32)), .val (.ref wT), .val (.ref wT), .val (.int (1 : Int32)), .val (.int (1 : Int32)), .val (.int (1 : Int32)), .val (.int (1 : Int32)), .unset] [(.int (1 : Int32)), (.ref wT)])) _
    refine XS.ifYes X11.here hx rfl (pc0 := 170) (pc' := 177) rfl (hb hby at_170) rfl ((if0 _ _).trans (feq (by decide : ¬ ((1 : Int32) = (0 : Int32)))).2) (by decide) (by decide) ?_
    show Steps p.tables e below (T11.setTop (mkF m 177 #[.val (.int pi), .val (.int q), .val (.int (1 : Int32)), .val (.int (1 : Int32)), .val (.ref wT), .val (.ref wT), .val (.int (1 : Int32)), .val (.int (1 : Int32)), .val (.int (1 : Int32)), .val (.int (1 : Int32)), .unset] [(.ref wT)])) _
    refine XS.iconst X11.here hx rfl (hb hby at_177) ?_
    show Steps p.tables e below (T11.setTop (mkF m 178 #[.val (.int pi), .val (.int q), .val (.int (1 : Int32)), .val (.int (1 : Int32)), .val (.ref wT), .val (.ref wT), .val (.int (1 : Int32)), .val (.int (1 : Int32)), .val (.int (1 : Int32)), .val (.int (1 : Int32)), .unset] [(.int (1 : Int32)), (.ref wT)])) _
    refine XS.goto X11.here hx rfl (pc0 := 178) (pc' := 182) rfl (hb hby at_178) (by decide) (by decide) ?_
    show Steps p.tables e below (T11.setTop (mkF m 182 #[.val (.int pi), .val (.int q), .val (.int (1 : Int32)), .val (.int (1 : Int32)), .val (.ref wT), .val (.ref wT), .val (.int (1 : Int32)), .val (.int (1 : Int32)), .val (.int (1 : Int32)), .val (.int (1 : Int32)), .unset] [(.int (1 : Int32)), (.ref wT)])) _
    refine st12 _ ?_
    show Steps p.tables e below (T12.setTop (mkF m 185 #[.val (.int pi), .val (.int q), .val (.int (1 : Int32)), .val (.int (1 : Int32)), .val (.ref wT), .val (.ref wT), .val (.int (1 : Int32)), .val (.int (1 : Int32)), .val (.int (1 : Int32)), .val (.int (1 : Int32)), .unset] [(.ref wT), (.ref wT)])) _
    refine Jvm.RoadKit.acmp (g := (mkF m 185 #[.val (.int pi), .val (.int q), .val (.int (1 : Int32)), .val (.int (1 : Int32)), .val (.ref wT), .val (.ref wT), .val (.int (1 : Int32)), .val (.int (1 : Int32)), .val (.int (1 : Int32)), .val (.int (1 : Int32)), .unset] [(.ref wT), (.ref wT)])) X12 hx rfl rfl rfl (pc0 := 185) (pc' := 188) (same := true) rfl (hb hby at_185) rfl (decide_eq_true rfl) (by decide) (by decide) ?_
    show Steps p.tables e below (T12.setTop (mkF m 188 #[.val (.int pi), .val (.int q), .val (.int (1 : Int32)), .val (.int (1 : Int32)), .val (.ref wT), .val (.ref wT), .val (.int (1 : Int32)), .val (.int (1 : Int32)), .val (.int (1 : Int32)), .val (.int (1 : Int32)), .unset] [])) _
    refine XS.iconst X12.here hx rfl (hb hby at_188) ?_
    show Steps p.tables e below (T12.setTop (mkF m 189 #[.val (.int pi), .val (.int q), .val (.int (1 : Int32)), .val (.int (1 : Int32)), .val (.ref wT), .val (.ref wT), .val (.int (1 : Int32)), .val (.int (1 : Int32)), .val (.int (1 : Int32)), .val (.int (1 : Int32)), .unset] [(.int (1 : Int32))])) _
    refine XS.goto X12.here hx rfl (pc0 := 189) (pc' := 193) rfl (hb hby at_189) (by decide) (by decide) ?_
    show Steps p.tables e below (T12.setTop (mkF m 193 #[.val (.int pi), .val (.int q), .val (.int (1 : Int32)), .val (.int (1 : Int32)), .val (.ref wT), .val (.ref wT), .val (.int (1 : Int32)), .val (.int (1 : Int32)), .val (.int (1 : Int32)), .val (.int (1 : Int32)), .unset] [(.int (1 : Int32))])) _
    refine XS.istore X12.here hx rfl (hb hby at_193) rfl (l' := #[.val (.int pi), .val (.int q), .val (.int (1 : Int32)), .val (.int (1 : Int32)), .val (.ref wT), .val (.ref wT), .val (.int (1 : Int32)), .val (.int (1 : Int32)), .val (.int (1 : Int32)), .val (.int (1 : Int32)), .val (.int (1 : Int32))]) rfl ?_
    show Steps p.tables e below (T12.setTop (mkF m 195 #[.val (.int pi), .val (.int q), .val (.int (1 : Int32)), .val (.int (1 : Int32)), .val (.ref wT), .val (.ref wT), .val (.int (1 : Int32)), .val (.int (1 : Int32)), .val (.int (1 : Int32)), .val (.int (1 : Int32)), .val (.int (1 : Int32))] [])) _
    refine XS.iload X12.here hx rfl (hb hby at_195) rfl ?_
    show Steps p.tables e below (T12.setTop (mkF m 197 #[.val (.int pi), .val (.int q), .val (.int (1 : Int32)), .val (.int (1 : Int32)), .val (.ref wT), .val (.ref wT), .val (.int (1 : Int32)), .val (.int (1 : Int32)), .val (.int (1 : Int32)), .val (.int (1 : Int32)), .val (.int (1 : Int32))] [(.int (1 : Int32))])) _
    refine XS.ifNo X12.here hx rfl (hb hby at_197) rfl ((if0 _ _).trans (feq (by decide : ¬ ((1 : Int32) = (0 : Int32)))).1) ?_
    show Steps p.tables e below (T12.setTop (mkF m 200 #[.val (.int pi), .val (.int q), .val (.int (1 : Int32)), .val (.int (1 : Int32)), .val (.ref wT), .val (.ref wT), .val (.int (1 : Int32)), .val (.int (1 : Int32)), .val (.int (1 : Int32)), .val (.int (1 : Int32)), .val (.int (1 : Int32))] [])) _
    refine XS.iload X12.here hx rfl (hb hby at_200) rfl ?_
    show Steps p.tables e below (T12.setTop (mkF m 202 #[.val (.int pi), .val (.int q), .val (.int (1 : Int32)), .val (.int (1 : Int32)), .val (.ref wT), .val (.ref wT), .val (.int (1 : Int32)), .val (.int (1 : Int32)), .val (.int (1 : Int32)), .val (.int (1 : Int32)), .val (.int (1 : Int32))] [(.int (1 : Int32))])) _
    refine XS.ifNo X12.here hx rfl (hb hby at_202) rfl ((if0 _ _).trans (feq (by decide : ¬ ((1 : Int32) = (0 : Int32)))).1) ?_
    show Steps p.tables e below (T12.setTop (mkF m 205 #[.val (.int pi), .val (.int q), .val (.int (1 : Int32)), .val (.int (1 : Int32)), .val (.ref wT), .val (.ref wT), .val (.int (1 : Int32)), .val (.int (1 : Int32)), .val (.int (1 : Int32)), .val (.int (1 : Int32)), .val (.int (1 : Int32))] [])) _
    refine XS.iload X12.here hx rfl (hb hby at_205) rfl ?_
    show Steps p.tables e below (T12.setTop (mkF m 207 #[.val (.int pi), .val (.int q), .val (.int (1 : Int32)), .val (.int (1 : Int32)), .val (.ref wT), .val (.ref wT), .val (.int (1 : Int32)), .val (.int (1 : Int32)), .val (.int (1 : Int32)), .val (.int (1 : Int32)), .val (.int (1 : Int32))] [(.int (1 : Int32))])) _
    refine XS.ifNo X12.here hx rfl (hb hby at_207) rfl ((if0 _ _).trans (feq (by decide : ¬ ((1 : Int32) = (0 : Int32)))).1) ?_
    show Steps p.tables e below (T12.setTop (mkF m 210 #[.val (.int pi), .val (.int q), .val (.int (1 : Int32)), .val (.int (1 : Int32)), .val (.ref wT), .val (.ref wT), .val (.int (1 : Int32)), .val (.int (1 : Int32)), .val (.int (1 : Int32)), .val (.int (1 : Int32)), .val (.int (1 : Int32))] [])) _
    refine XS.iload X12.here hx rfl (hb hby at_210) rfl ?_
    show Steps p.tables e below (T12.setTop (mkF m 212 #[.val (.int pi), .val (.int q), .val (.int (1 : Int32)), .val (.int (1 : Int32)), .val (.ref wT), .val (.ref wT), .val (.int (1 : Int32)), .val (.int (1 : Int32)), .val (.int (1 : Int32)), .val (.int (1 : Int32)), .val (.int (1 : Int32))] [(.int (1 : Int32))])) _
    refine XS.ifNo X12.here hx rfl (hb hby at_212) rfl ((if0 _ _).trans (feq (by decide : ¬ ((1 : Int32) = (0 : Int32)))).1) ?_
    show Steps p.tables e below (T12.setTop (mkF m 215 #[.val (.int pi), .val (.int q), .val (.int (1 : Int32)), .val (.int (1 : Int32)), .val (.ref wT), .val (.ref wT), .val (.int (1 : Int32)), .val (.int (1 : Int32)), .val (.int (1 : Int32)), .val (.int (1 : Int32)), .val (.int (1 : Int32))] [])) _
    refine XS.iload X12.here hx rfl (hb hby at_215) rfl ?_
    show Steps p.tables e below (T12.setTop (mkF m 217 #[.val (.int pi), .val (.int q), .val (.int (1 : Int32)), .val (.int (1 : Int32)), .val (.ref wT), .val (.ref wT), .val (.int (1 : Int32)), .val (.int (1 : Int32)), .val (.int (1 : Int32)), .val (.int (1 : Int32)), .val (.int (1 : Int32))] [(.int (1 : Int32))])) _
    refine XS.ifNo X12.here hx rfl (hb hby at_217) rfl ((if0 _ _).trans (feq (by decide : ¬ ((1 : Int32) = (0 : Int32)))).1) ?_
    show Steps p.tables e below (T12.setTop (mkF m 220 #[.val (.int pi), .val (.int q), .val (.int (1 : Int32)), .val (.int (1 : Int32)), .val (.ref wT), .val (.ref wT), .val (.int (1 : Int32)), .val (.int (1 : Int32)), .val (.int (1 : Int32)), .val (.int (1 : Int32)), .val (.int (1 : Int32))] [])) _
    refine XS.iconst X12.here hx rfl (hb hby at_220) ?_
    show Steps p.tables e below (T12.setTop (mkF m 221 #[.val (.int pi), .val (.int q), .val (.int (1 : Int32)), .val (.int (1 : Int32)), .val (.ref wT), .val (.ref wT), .val (.int (1 : Int32)), .val (.int (1 : Int32)), .val (.int (1 : Int32)), .val (.int (1 : Int32)), .val (.int (1 : Int32))] [(.int (1 : Int32))])) _
    refine XS.goto X12.here hx rfl (pc0 := 221) (pc' := 225) rfl (hb hby at_221) (by decide) (by decide) ?_
    show Steps p.tables e below (T12.setTop (mkF m 225 #[.val (.int pi), .val (.int q), .val (.int (1 : Int32)), .val (.int (1 : Int32)), .val (.ref wT), .val (.ref wT), .val (.int (1 : Int32)), .val (.int (1 : Int32)), .val (.int (1 : Int32)), .val (.int (1 : Int32)), .val (.int (1 : Int32))] [(.int (1 : Int32))])) _
    exact retN X12 hx (t := .boolean) Bd.returns (by simp) (hb hby at_225) hr
  · show Q_law Z pi q wF wT wU mr h0 n0 _ T12.heap _
    rw [kh12]
    exact ⟨rfl, N12⟩
set_option maxRecDepth 65536 in
set_option maxHeartbeats 40000000 in
theorem law_1 (l : Launch) (Z : State) (a0 : Array Value) (hw : ∀ d ∈ tables_1, d.before a0 Z = true) (ws : List Jvm.Cond) (pi : Int32) (q : Int32) (wF : Addr) (wT : Addr) (wU : Addr) (mr : Addr) (h0 : Heap) (n0 : Nat) (O0 : Old Z n0 h0) (G0 : Sta Z Z.heap "com/example/deposition/deposition/filter/Truth" "FALSE" "Lcom/example/deposition/deposition/filter/Truth;" (.ref wF)) (G1 : Sta Z Z.heap "com/example/deposition/deposition/filter/Truth" "TRUE" "Lcom/example/deposition/deposition/filter/Truth;" (.ref wT)) (G2 : Sta Z Z.heap "com/example/deposition/deposition/filter/Truth" "UNKNOWN" "Lcom/example/deposition/deposition/filter/Truth;" (.ref wU)) (G3 : Exa Z Z.heap wF "com/example/deposition/deposition/filter/Truth") (G4 : Exa Z Z.heap wT "com/example/deposition/deposition/filter/Truth") (G5 : Fld Z Z.heap wF "java/lang/Enum" "ordinal" "I" (.int (0 : Int32))) (G6 : Fld Z Z.heap wT "java/lang/Enum" "ordinal" "I" (.int (2 : Int32))) (MM : MirO Z "com/example/deposition/deposition/filter/Truth" mr) (nF : wF ≠ wU) (nT : wT ≠ wU) (hc3 : ¬ ((pi &&& (1 : Int32)) = (0 : Int32))) (hc15 : (q &&& (1 : Int32)) = (0 : Int32)) :
    MetFree l x (head1 (Jvm.Cond.code x code maxLocals ret :: ws) room_1) (fun zA zU => zA = #[(.int pi), (.int q)] ∧ Z.Warmed39 zU.vm ∧ zU.heap = h0) (fun _ _ _ _ _ => True) (fun _ zU zo zU' => ∃ zv zL, zo = .returned zv ∧ Q_law Z pi q wF wT wU mr h0 n0 zv zU'.heap zL ∧ FrameEnd zU zo zU' zL room_1.cells room_1.slots) := by
  refine MetFree.of_bodySF (plainFor_of_name pn_9) hisR ?_
  intro p e s m args below meth c s₁ Bd hml0 hP hK
  obtain ⟨rfl, hZ, hh⟩ := hP
  have hx := Bd.exec
  have hby := Bd.bytes
  have hml : c.maxLocals = 11 := hml0
  have hown : s.vm.findClass "com/example/deposition/deposition/filter/TruthOfPinLaw" = some m.cls := findClass_of_methodNamed Bd.named
  have hnm := (name_of_methodNamed Bd.named Bd.method).1
  have X0 : Stand p l e room_1 s m #[(.int pi), (.int q)] below meth c s₁ [] 0 0 := Stand.of_body Bd
  have e0 : s₁.heap = h0 := by rw [← hh, Bd.state]; rfl
  have N0 := Fr.nil n0
  have Z0 : n0 ≤ h0.size := O0.1 ▸ O0.2.1
  have pre0 : ∀ zt, Steps p.tables e below (s₁.setTop (mkF m 0 #[.val (.int pi), .val (.int q), .unset, .unset, .unset, .unset, .unset, .unset, .unset, .unset, .unset] [])) zt → Steps p.tables e below (s₁.setTop (entryFrame m #[(.int pi), (.int q)] maxLocals)) zt := fun zt zk => castTop (ef_0_II m pi q) zk
  obtain ⟨_, _, ⟨T1, L1, k1, n1⟩, -, X1, ⟨Lc1, hQ1, l1, y1, z1⟩, st1⟩ := Jvm.LawKit.callS X0 hx (y := (⟨"com/example/deposition/deposition/filter/Truth", "of", "(Z)Lcom/example/deposition/deposition/filter/Truth;"⟩ : MethodName)) hown (mvT hZ (hw _ (List.mem_of_getElem? (i := 0) rfl))) (mvT hZ (hw _ (List.mem_of_getElem? (i := 1) rfl))) (mvT hZ (hw _ (List.mem_of_getElem? (i := 2) rfl))) (mvT hZ (hw _ (List.mem_of_getElem? (i := 3) rfl))) (by decide) (backOf (W := 0) (ofT l Z a0 hw [] wT h0 n0 O0 G1) hZ (hw _ (List.mem_of_getElem? (i := 3) rfl)) (hw _ (List.mem_of_getElem? (i := 2) rfl)) (by decide) (by decide)) (g := (mkF m 25 #[.val (.int pi), .val (.int q), .val (.int (1 : Int32)), .val (.int (0 : Int32)), .unset, .unset, .unset, .unset, .unset, .unset, .unset] [(.int (1 : Int32))])) rfl (by rw [hml]; rfl) (argsL := [(.int (1 : Int32))]) (rest := []) (lenOf pd_2 rfl) rfl (by show 2 * 0 + _ ≤ _; exact Nat.le_of_eq rfl) (hb hby at_25) (fun _ _ => ⟨rfl, e0, (by decide : 0 + 0 ≤ _), (by decide : 0 + 0 ≤ _)⟩)
  dsimp only [Pt.U, Pt.locs, Pt.cells, Pt.slots] at X1 l1 y1 z1 st1 hQ1
  subst l1 y1 z1
  obtain ⟨rfl, Nq1, kh1⟩ := hQ1
  have N1 := Fr.app N0 Nq1
  obtain ⟨_, _, ⟨T2, L2, k2, n2⟩, -, X2, ⟨Lc2, hQ2, l2, y2, z2⟩, st2⟩ := Jvm.LawKit.callS X1 hx (y := (⟨"com/example/deposition/deposition/filter/Truth", "of", "(Z)Lcom/example/deposition/deposition/filter/Truth;"⟩ : MethodName)) hown (mvT hZ (hw _ (List.mem_of_getElem? (i := 0) rfl))) (mvT hZ (hw _ (List.mem_of_getElem? (i := 1) rfl))) (mvT hZ (hw _ (List.mem_of_getElem? (i := 2) rfl))) (mvT hZ (hw _ (List.mem_of_getElem? (i := 3) rfl))) (by decide) (backOf (W := 0) (ofF l Z a0 hw [] wF h0 n0 O0 G0) hZ (hw _ (List.mem_of_getElem? (i := 3) rfl)) (hw _ (List.mem_of_getElem? (i := 2) rfl)) (by decide) (by decide)) (g := (mkF m 31 #[.val (.int pi), .val (.int q), .val (.int (1 : Int32)), .val (.int (0 : Int32)), .val (.ref wT), .unset, .unset, .unset, .unset, .unset, .unset] [(.int (0 : Int32))])) rfl (by rw [hml]; rfl) (argsL := [(.int (0 : Int32))]) (rest := []) (lenOf pd_2 rfl) rfl (by show 2 * 0 + _ ≤ _; exact Nat.le_of_eq rfl) (hb hby at_31) (fun _ _ => ⟨rfl, kh1, (by decide : 0 + 0 ≤ _), (by decide : 0 + 0 ≤ _)⟩)
  dsimp only [Pt.U, Pt.locs, Pt.cells, Pt.slots] at X2 l2 y2 z2 st2 hQ2
  subst l2 y2 z2
  obtain ⟨rfl, Nq2, kh2⟩ := hQ2
  have N2 := Fr.app N1 Nq2
  obtain ⟨T3, X3, e3, st3⟩ := getS2 X2 hx hZ hown (host := "") (Or.inl (hw _ (List.mem_of_getElem? (i := 9) rfl))) Via.refl kh2 (G1.ext O0.2) (g := (mkF m 42 #[.val (.int pi), .val (.int q), .val (.int (1 : Int32)), .val (.int (0 : Int32)), .val (.ref wT), .val (.ref wF), .unset, .unset, .unset, .unset, .unset] [(.ref wT)])) rfl (hb hby at_42)
  obtain ⟨T4, X4, e4, st4⟩ := getS2 X3 hx hZ hown (host := "") (Or.inl (hw _ (List.mem_of_getElem? (i := 8) rfl))) Via.refl e3 (G0.ext O0.2) (g := (mkF m 66 #[.val (.int pi), .val (.int q), .val (.int (1 : Int32)), .val (.int (0 : Int32)), .val (.ref wT), .val (.ref wF), .unset, .unset, .unset, .unset, .unset] [(.ref wF)])) rfl (hb hby at_66)
  obtain ⟨T5, X5, e5, st5⟩ := getS2 X4 hx hZ hown (host := "") (Or.inl (hw _ (List.mem_of_getElem? (i := 10) rfl))) Via.refl e4 (G2.ext O0.2) (g := (mkF m 81 #[.val (.int pi), .val (.int q), .val (.int (1 : Int32)), .val (.int (0 : Int32)), .val (.ref wT), .val (.ref wF), .val (.int (1 : Int32)), .unset, .unset, .unset, .unset] [(.ref wT)])) rfl (hb hby at_81)
  obtain ⟨T6, X6, e6, st6⟩ := getS2 X5 hx hZ hown (host := "") (Or.inl (hw _ (List.mem_of_getElem? (i := 10) rfl))) Via.refl e5 (G2.ext O0.2) (g := (mkF m 89 #[.val (.int pi), .val (.int q), .val (.int (1 : Int32)), .val (.int (0 : Int32)), .val (.ref wT), .val (.ref wF), .val (.int (1 : Int32)), .unset, .unset, .unset, .unset] [(.ref wF)])) rfl (hb hby at_89)
  obtain ⟨cq7, kq7, q7a, q7b, q7c⟩ := isOf hZ e6 (G4.ext O0.2)
  obtain ⟨_, _, ⟨T7, L7, k7, n7⟩, -, X7, ⟨Lc7, hQ7, l7, y7, z7⟩, st7⟩ := X6.virtualBack hx (y := (⟨"com/example/deposition/deposition/filter/Truth", "not", "()Lcom/example/deposition/deposition/filter/Truth;"⟩ : MethodName)) (z := (⟨"com/example/deposition/deposition/filter/Truth", "not", "()Lcom/example/deposition/deposition/filter/Truth;"⟩ : MethodName)) hown (mvT hZ (hw _ (List.mem_of_getElem? (i := 12) rfl))) (mvT hZ (hw _ (List.mem_of_getElem? (i := 13) rfl))) (notFace_of_selects (args := #[]) (mvT hZ (hw _ (List.mem_of_getElem? (i := 15) rfl)))) (mvT hZ (hw _ (List.mem_of_getElem? (i := 15) rfl))) (mvT hZ (hw _ (List.mem_of_getElem? (i := 14) rfl))) (by decide) (backOf (W := 0) (not2 l Z a0 hw [] wT wF h0 n0 O0 G4 G6 G0) hZ (hw _ (List.mem_of_getElem? (i := 16) rfl)) (hw _ (List.mem_of_getElem? (i := 2) rfl)) (by decide) (by decide)) q7a q7c (g := (mkF m 104 #[.val (.int pi), .val (.int q), .val (.int (1 : Int32)), .val (.int (0 : Int32)), .val (.ref wT), .val (.ref wF), .val (.int (1 : Int32)), .val (.int (1 : Int32)), .unset, .unset, .unset] [(.ref wT)])) rfl (by rw [hml]; rfl) (Steps.refl _) (argsL := []) (rest := []) (lenOf pd_3 rfl) rfl (by show 2 * 0 + _ ≤ _; exact Nat.le_of_eq rfl) (hb hby at_104) (fun _ _ => ⟨rfl, e6, (by decide : 0 + 0 ≤ _), (by decide : 0 + 0 ≤ _)⟩)
  dsimp only [Pt.U, Pt.locs, Pt.cells, Pt.slots] at X7 l7 y7 z7 st7 hQ7
  subst l7 y7 z7
  obtain ⟨rfl, Nq7, kh7⟩ := hQ7
  have N7 := Fr.app N2 Nq7
  obtain ⟨_, _, ⟨T8, L8, k8, n8⟩, -, X8, ⟨Lc8, hQ8, l8, y8, z8⟩, st8⟩ := Jvm.LawKit.callS X7 hx (y := (⟨"com/example/deposition/deposition/filter/Truth", "of", "(Z)Lcom/example/deposition/deposition/filter/Truth;"⟩ : MethodName)) hown (mvT hZ (hw _ (List.mem_of_getElem? (i := 0) rfl))) (mvT hZ (hw _ (List.mem_of_getElem? (i := 1) rfl))) (mvT hZ (hw _ (List.mem_of_getElem? (i := 2) rfl))) (mvT hZ (hw _ (List.mem_of_getElem? (i := 3) rfl))) (by decide) (backOf (W := 1) (ofF l Z a0 hw [] wF h0 n0 O0 G0) hZ (hw _ (List.mem_of_getElem? (i := 3) rfl)) (hw _ (List.mem_of_getElem? (i := 2) rfl)) (by decide) (by decide)) (g := (mkF m 116 #[.val (.int pi), .val (.int q), .val (.int (1 : Int32)), .val (.int (0 : Int32)), .val (.ref wT), .val (.ref wF), .val (.int (1 : Int32)), .val (.int (1 : Int32)), .unset, .unset, .unset] [(.int (0 : Int32)), (.ref wF)])) rfl (by rw [hml]; rfl) (argsL := [(.int (0 : Int32))]) (rest := [(.ref wF)]) (lenOf pd_2 rfl) rfl (by show 2 * 0 + _ ≤ _; exact Nat.le_of_eq rfl) (hb hby at_116) (fun _ _ => ⟨rfl, kh7, (by decide : 0 + 0 ≤ _), (by decide : 0 + 0 ≤ _)⟩)
  dsimp only [Pt.U, Pt.locs, Pt.cells, Pt.slots] at X8 l8 y8 z8 st8 hQ8
  subst l8 y8 z8
  obtain ⟨rfl, Nq8, kh8⟩ := hQ8
  have N8 := Fr.app N7 Nq8
  obtain ⟨cq9, kq9, q9a, q9b, q9c⟩ := isOf hZ kh8 (G4.ext O0.2)
  obtain ⟨_, _, ⟨T9, L9, k9, n9⟩, -, X9, ⟨Lc9, hQ9, l9, y9, z9⟩, st9⟩ := X8.virtualBack hx (y := (⟨"com/example/deposition/deposition/filter/Truth", "and", "(Lcom/example/deposition/deposition/filter/Truth;)Lcom/example/deposition/deposition/filter/Truth;"⟩ : MethodName)) (z := (⟨"com/example/deposition/deposition/filter/Truth", "and", "(Lcom/example/deposition/deposition/filter/Truth;)Lcom/example/deposition/deposition/filter/Truth;"⟩ : MethodName)) hown (mvT hZ (hw _ (List.mem_of_getElem? (i := 26) rfl))) (mvT hZ (hw _ (List.mem_of_getElem? (i := 27) rfl))) (notFace_of_selects (args := #[]) (mvT hZ (hw _ (List.mem_of_getElem? (i := 29) rfl)))) (mvT hZ (hw _ (List.mem_of_getElem? (i := 29) rfl))) (mvT hZ (hw _ (List.mem_of_getElem? (i := 28) rfl))) (by decide) (backOf (W := 0) (andB l Z a0 hw [] wT wF (2 : Int32) (0 : Int32) mr h0 n0 O0 G4 G3 G6 G5 MM (by decide)) hZ (hw _ (List.mem_of_getElem? (i := 30) rfl)) (hw _ (List.mem_of_getElem? (i := 2) rfl)) (by decide) (by decide)) q9a q9c (g := (mkF m 133 #[.val (.int pi), .val (.int q), .val (.int (1 : Int32)), .val (.int (0 : Int32)), .val (.ref wT), .val (.ref wF), .val (.int (1 : Int32)), .val (.int (1 : Int32)), .val (.int (1 : Int32)), .unset, .unset] [(.ref wF), (.ref wT)])) rfl (by rw [hml]; rfl) (Steps.refl _) (argsL := [(.ref wF)]) (rest := []) (lenOf pd_4 rfl) rfl (by show 2 * 0 + _ ≤ _; exact Nat.le_of_eq rfl) (hb hby at_133) (fun _ _ => ⟨rfl, kh8, (by decide : 0 + 0 ≤ _), (by decide : 0 + 0 ≤ _)⟩)
  dsimp only [Pt.U, Pt.locs, Pt.cells, Pt.slots] at X9 l9 y9 z9 st9 hQ9
  subst l9 y9 z9
  obtain ⟨rfl, Nq9, kh9⟩ := hQ9
  have N9 := Fr.app N8 Nq9
  obtain ⟨_, _, ⟨T10, L10, k10, n10⟩, -, X10, ⟨Lc10, hQ10, l10, y10, z10⟩, st10⟩ := Jvm.LawKit.callS X9 hx (y := (⟨"com/example/deposition/deposition/filter/Truth", "of", "(Z)Lcom/example/deposition/deposition/filter/Truth;"⟩ : MethodName)) hown (mvT hZ (hw _ (List.mem_of_getElem? (i := 0) rfl))) (mvT hZ (hw _ (List.mem_of_getElem? (i := 1) rfl))) (mvT hZ (hw _ (List.mem_of_getElem? (i := 2) rfl))) (mvT hZ (hw _ (List.mem_of_getElem? (i := 3) rfl))) (by decide) (backOf (W := 1) (ofF l Z a0 hw [] wF h0 n0 O0 G0) hZ (hw _ (List.mem_of_getElem? (i := 3) rfl)) (hw _ (List.mem_of_getElem? (i := 2) rfl)) (by decide) (by decide)) (g := (mkF m 149 #[.val (.int pi), .val (.int q), .val (.int (1 : Int32)), .val (.int (0 : Int32)), .val (.ref wT), .val (.ref wF), .val (.int (1 : Int32)), .val (.int (1 : Int32)), .val (.int (1 : Int32)), .unset, .unset] [(.int (0 : Int32)), (.ref wF)])) rfl (by rw [hml]; rfl) (argsL := [(.int (0 : Int32))]) (rest := [(.ref wF)]) (lenOf pd_2 rfl) rfl (by show 2 * 0 + _ ≤ _; exact Nat.le_of_eq rfl) (hb hby at_149) (fun _ _ => ⟨rfl, kh9, (by decide : 0 + 0 ≤ _), (by decide : 0 + 0 ≤ _)⟩)
  dsimp only [Pt.U, Pt.locs, Pt.cells, Pt.slots] at X10 l10 y10 z10 st10 hQ10
  subst l10 y10 z10
  obtain ⟨rfl, Nq10, kh10⟩ := hQ10
  have N10 := Fr.app N9 Nq10
  obtain ⟨cq11, kq11, q11a, q11b, q11c⟩ := isOf hZ kh10 (G4.ext O0.2)
  obtain ⟨_, _, ⟨T11, L11, k11, n11⟩, -, X11, ⟨Lc11, hQ11, l11, y11, z11⟩, st11⟩ := X10.virtualBack hx (y := (⟨"com/example/deposition/deposition/filter/Truth", "or", "(Lcom/example/deposition/deposition/filter/Truth;)Lcom/example/deposition/deposition/filter/Truth;"⟩ : MethodName)) (z := (⟨"com/example/deposition/deposition/filter/Truth", "or", "(Lcom/example/deposition/deposition/filter/Truth;)Lcom/example/deposition/deposition/filter/Truth;"⟩ : MethodName)) hown (mvT hZ (hw _ (List.mem_of_getElem? (i := 43) rfl))) (mvT hZ (hw _ (List.mem_of_getElem? (i := 44) rfl))) (notFace_of_selects (args := #[]) (mvT hZ (hw _ (List.mem_of_getElem? (i := 46) rfl)))) (mvT hZ (hw _ (List.mem_of_getElem? (i := 46) rfl))) (mvT hZ (hw _ (List.mem_of_getElem? (i := 45) rfl))) (by decide) (backOf (W := 0) (orA l Z a0 hw [] wT wF (2 : Int32) (0 : Int32) mr h0 n0 O0 G4 G3 G6 G5 MM (by decide)) hZ (hw _ (List.mem_of_getElem? (i := 47) rfl)) (hw _ (List.mem_of_getElem? (i := 2) rfl)) (by decide) (by decide)) q11a q11c (g := (mkF m 166 #[.val (.int pi), .val (.int q), .val (.int (1 : Int32)), .val (.int (0 : Int32)), .val (.ref wT), .val (.ref wF), .val (.int (1 : Int32)), .val (.int (1 : Int32)), .val (.int (1 : Int32)), .val (.int (1 : Int32)), .unset] [(.ref wF), (.ref wT)])) rfl (by rw [hml]; rfl) (Steps.refl _) (argsL := [(.ref wF)]) (rest := []) (lenOf pd_4 rfl) rfl (by show 2 * 0 + _ ≤ _; exact Nat.le_of_eq rfl) (hb hby at_166) (fun _ _ => ⟨rfl, kh10, (by decide : 0 + 0 ≤ _), (by decide : 0 + 0 ≤ _)⟩)
  dsimp only [Pt.U, Pt.locs, Pt.cells, Pt.slots] at X11 l11 y11 z11 st11 hQ11
  subst l11 y11 z11
  obtain ⟨rfl, Nq11, kh11⟩ := hQ11
  have N11 := Fr.app N10 Nq11
  obtain ⟨_, _, ⟨T12, L12, k12, n12⟩, -, X12, ⟨Lc12, hQ12, l12, y12, z12⟩, st12⟩ := Jvm.LawKit.callS X11 hx (y := (⟨"com/example/deposition/deposition/filter/Truth", "of", "(Z)Lcom/example/deposition/deposition/filter/Truth;"⟩ : MethodName)) hown (mvT hZ (hw _ (List.mem_of_getElem? (i := 0) rfl))) (mvT hZ (hw _ (List.mem_of_getElem? (i := 1) rfl))) (mvT hZ (hw _ (List.mem_of_getElem? (i := 2) rfl))) (mvT hZ (hw _ (List.mem_of_getElem? (i := 3) rfl))) (by decide) (backOf (W := 1) (ofT l Z a0 hw [] wT h0 n0 O0 G1) hZ (hw _ (List.mem_of_getElem? (i := 3) rfl)) (hw _ (List.mem_of_getElem? (i := 2) rfl)) (by decide) (by decide)) (g := (mkF m 182 #[.val (.int pi), .val (.int q), .val (.int (1 : Int32)), .val (.int (0 : Int32)), .val (.ref wT), .val (.ref wF), .val (.int (1 : Int32)), .val (.int (1 : Int32)), .val (.int (1 : Int32)), .val (.int (1 : Int32)), .unset] [(.int (1 : Int32)), (.ref wT)])) rfl (by rw [hml]; rfl) (argsL := [(.int (1 : Int32))]) (rest := [(.ref wT)]) (lenOf pd_2 rfl) rfl (by show 2 * 0 + _ ≤ _; exact Nat.le_of_eq rfl) (hb hby at_182) (fun _ _ => ⟨rfl, kh11, (by decide : 0 + 0 ≤ _), (by decide : 0 + 0 ≤ _)⟩)
  dsimp only [Pt.U, Pt.locs, Pt.cells, Pt.slots] at X12 l12 y12 z12 st12 hQ12
  subst l12 y12 z12
  obtain ⟨rfl, Nq12, kh12⟩ := hQ12
  have N12 := Fr.app N11 Nq12
  obtain ⟨fs, hr, hrun, hended, hW, hsame⟩ := X12.leave (v := some (.int (1 : Int32))) (fun h => by rw [Bd.returns] at h; cases h)
  refine ⟨_, _, pre0 _ ?_, hrun, hended, _, _, rfl, ?_, ⟨_, rfl⟩, hW, hsame.mono (by decide) (by decide)⟩
  · show Steps p.tables e below (s₁.setTop (mkF m 0 #[.val (.int pi), .val (.int q), .unset, .unset, .unset, .unset, .unset, .unset, .unset, .unset, .unset] [])) _
    refine XS.iloadN X0.here hx rfl (hb hby at_0) rfl ?_
    show Steps p.tables e below (s₁.setTop (mkF m 1 #[.val (.int pi), .val (.int q), .unset, .unset, .unset, .unset, .unset, .unset, .unset, .unset, .unset] [(.int pi)])) _
    refine XS.iconst X0.here hx rfl (hb hby at_1) ?_
    show Steps p.tables e below (s₁.setTop (mkF m 2 #[.val (.int pi), .val (.int q), .unset, .unset, .unset, .unset, .unset, .unset, .unset, .unset, .unset] [(.int (1 : Int32)), (.int pi)])) _
    refine XS.iand X0.here hx rfl (hb hby at_2) rfl ?_
    show Steps p.tables e below (s₁.setTop (mkF m 3 #[.val (.int pi), .val (.int q), .unset, .unset, .unset, .unset, .unset, .unset, .unset, .unset, .unset] [(.int (pi &&& (1 : Int32)))])) _
    refine XS.ifNo X0.here hx rfl (hb hby at_3) rfl ((if0 _ _).trans (feq (hc3 : ¬ ((pi &&& (1 : Int32)) = (0 : Int32)))).1) ?_
    show Steps p.tables e below (s₁.setTop (mkF m 6 #[.val (.int pi), .val (.int q), .unset, .unset, .unset, .unset, .unset, .unset, .unset, .unset, .unset] [])) _
    refine XS.iconst X0.here hx rfl (hb hby at_6) ?_
    show Steps p.tables e below (s₁.setTop (mkF m 7 #[.val (.int pi), .val (.int q), .unset, .unset, .unset, .unset, .unset, .unset, .unset, .unset, .unset] [(.int (1 : Int32))])) _
    refine XS.goto X0.here hx rfl (pc0 := 7) (pc' := 11) rfl (hb hby at_7) (by decide) (by decide) ?_
    show Steps p.tables e below (s₁.setTop (mkF m 11 #[.val (.int pi), .val (.int q), .unset, .unset, .unset, .unset, .unset, .unset, .unset, .unset, .unset] [(.int (1 : Int32))])) _
    refine XS.istoreN X0.here hx rfl (hb hby at_11) rfl (l' := #[.val (.int pi), .val (.int q), .val (.int (1 : Int32)), .unset, .unset, .unset, .unset, .unset, .unset, .unset, .unset]) rfl ?_
    show Steps p.tables e below (s₁.setTop (mkF m 12 #[.val (.int pi), .val (.int q), .val (.int (1 : Int32)), .unset, .unset, .unset, .unset, .unset, .unset, .unset, .unset] [])) _
    refine XS.iloadN X0.here hx rfl (hb hby at_12) rfl ?_
    show Steps p.tables e below (s₁.setTop (mkF m 13 #[.val (.int pi), .val (.int q), .val (.int (1 : Int32)), .unset, .unset, .unset, .unset, .unset, .unset, .unset, .unset] [(.int q)])) _
    refine XS.iconst X0.here hx rfl (hb hby at_13) ?_
    show Steps p.tables e below (s₁.setTop (mkF m 14 #[.val (.int pi), .val (.int q), .val (.int (1 : Int32)), .unset, .unset, .unset, .unset, .unset, .unset, .unset, .unset] [(.int (1 : Int32)), (.int q)])) _
    refine XS.iand X0.here hx rfl (hb hby at_14) rfl ?_
    show Steps p.tables e below (s₁.setTop (mkF m 15 #[.val (.int pi), .val (.int q), .val (.int (1 : Int32)), .unset, .unset, .unset, .unset, .unset, .unset, .unset, .unset] [(.int (q &&& (1 : Int32)))])) _
    refine XS.ifYes X0.here hx rfl (pc0 := 15) (pc' := 22) rfl (hb hby at_15) rfl ((if0 _ _).trans (teq (hc15 : (q &&& (1 : Int32)) = (0 : Int32))).1) (by decide) (by decide) ?_
    show Steps p.tables e below (s₁.setTop (mkF m 22 #[.val (.int pi), .val (.int q), .val (.int (1 : Int32)), .unset, .unset, .unset, .unset, .unset, .unset, .unset, .unset] [])) _
    refine XS.iconst X0.here hx rfl (hb hby at_22) ?_
    show Steps p.tables e below (s₁.setTop (mkF m 23 #[.val (.int pi), .val (.int q), .val (.int (1 : Int32)), .unset, .unset, .unset, .unset, .unset, .unset, .unset, .unset] [(.int (0 : Int32))])) _
    refine XS.istoreN X0.here hx rfl (hb hby at_23) rfl (l' := #[.val (.int pi), .val (.int q), .val (.int (1 : Int32)), .val (.int (0 : Int32)), .unset, .unset, .unset, .unset, .unset, .unset, .unset]) rfl ?_
    show Steps p.tables e below (s₁.setTop (mkF m 24 #[.val (.int pi), .val (.int q), .val (.int (1 : Int32)), .val (.int (0 : Int32)), .unset, .unset, .unset, .unset, .unset, .unset, .unset] [])) _
    refine XS.iloadN X0.here hx rfl (hb hby at_24) rfl ?_
    show Steps p.tables e below (s₁.setTop (mkF m 25 #[.val (.int pi), .val (.int q), .val (.int (1 : Int32)), .val (.int (0 : Int32)), .unset, .unset, .unset, .unset, .unset, .unset, .unset] [(.int (1 : Int32))])) _
    refine st1 _ ?_
    show Steps p.tables e below (T1.setTop (mkF m 28 #[.val (.int pi), .val (.int q), .val (.int (1 : Int32)), .val (.int (0 : Int32)), .unset, .unset, .unset, .unset, .unset, .unset, .unset] [(.ref wT)])) _
    refine XS.astore X1.here hx rfl (hb hby at_28) rfl rfl (l' := #[.val (.int pi), .val (.int q), .val (.int (1 : Int32)), .val (.int (0 : Int32)), .val (.ref wT), .unset, .unset, .unset, .unset, .unset, .unset]) rfl ?_
    show Steps p.tables e below (T1.setTop (mkF m 30 #[.val (.int pi), .val (.int q), .val (.int (1 : Int32)), .val (.int (0 : Int32)), .val (.ref wT), .unset, .unset, .unset, .unset, .unset, .unset] [])) _
    refine XS.iloadN X1.here hx rfl (hb hby at_30) rfl ?_
    show Steps p.tables e below (T1.setTop (mkF m 31 #[.val (.int pi), .val (.int q), .val (.int (1 : Int32)), .val (.int (0 : Int32)), .val (.ref wT), .unset, .unset, .unset, .unset, .unset, .unset] [(.int (0 : Int32))])) _
    refine st2 _ ?_
    show Steps p.tables e below (T2.setTop (mkF m 34 #[.val (.int pi), .val (.int q), .val (.int (1 : Int32)), .val (.int (0 : Int32)), .val (.ref wT), .unset, .unset, .unset, .unset, .unset, .unset] [(.ref wF)])) _
    refine XS.astore X2.here hx rfl (hb hby at_34) rfl rfl (l' := #[.val (.int pi), .val (.int q), .val (.int (1 : Int32)), .val (.int (0 : Int32)), .val (.ref wT), .val (.ref wF), .unset, .unset, .unset, .unset, .unset]) rfl ?_
    show Steps p.tables e below (T2.setTop (mkF m 36 #[.val (.int pi), .val (.int q), .val (.int (1 : Int32)), .val (.int (0 : Int32)), .val (.ref wT), .val (.ref wF), .unset, .unset, .unset, .unset, .unset] [])) _
    refine XS.aload X2.here hx rfl (hb hby at_36) rfl rfl ?_
    show Steps p.tables e below (T2.setTop (mkF m 38 #[.val (.int pi), .val (.int q), .val (.int (1 : Int32)), .val (.int (0 : Int32)), .val (.ref wT), .val (.ref wF), .unset, .unset, .unset, .unset, .unset] [(.ref wT)])) _
    refine XS.iloadN X2.here hx rfl (hb hby at_38) rfl ?_
    show Steps p.tables e below (T2.setTop (mkF m 39 #[.val (.int pi), .val (.int q), .val (.int (1 : Int32)), .val (.int (0 : Int32)), .val (.ref wT), .val (.ref wF), .unset, .unset, .unset, .unset, .unset] [(.int (1 : Int32)), (.ref wT)])) _
    refine XS.ifNo X2.here hx rfl (hb hby at_39) rfl ((if0 _ _).trans (feq (by decide : ¬ ((1 : Int32) = (0 : Int32)))).1) ?_
    show Steps p.tables e below (T2.setTop (mkF m 42 #[.val (.int pi), .val (.int q), .val (.int (1 : Int32)), .val (.int (0 : Int32)), .val (.ref wT), .val (.ref wF), .unset, .unset, .unset, .unset, .unset] [(.ref wT)])) _
    refine st3 _ ?_
    show Steps p.tables e below (T3.setTop (mkF m 45 #[.val (.int pi), .val (.int q), .val (.int (1 : Int32)), .val (.int (0 : Int32)), .val (.ref wT), .val (.ref wF), .unset, .unset, .unset, .unset, .unset] [(.ref wT), (.ref wT)])) _
    refine XS.goto X3.here hx rfl (pc0 := 45) (pc' := 51) rfl (hb hby at_45) (by decide) (by decide) ?_
    show Steps p.tables e below (T3.setTop (mkF m 51 #[.val (.int pi), .val (.int q), .val (.int (1 : Int32)), .val (.int (0 : Int32)), .val (.ref wT), .val (.ref wF), .unset, .unset, .unset, .unset, .unset] [(.ref wT), (.ref wT)])) _
    refine Jvm.RoadKit.acmp (g := (mkF m 51 #[.val (.int pi), .val (.int q), .val (.int (1 : Int32)), .val (.int (0 : Int32)), .val (.ref wT), .val (.ref wF), .unset, .unset, .unset, .unset, .unset] [(.ref wT), (.ref wT)])) X3 hx rfl rfl rfl (pc0 := 51) (pc' := 54) (same := true) rfl (hb hby at_51) rfl (decide_eq_true rfl) (by decide) (by decide) ?_
    show Steps p.tables e below (T3.setTop (mkF m 54 #[.val (.int pi), .val (.int q), .val (.int (1 : Int32)), .val (.int (0 : Int32)), .val (.ref wT), .val (.ref wF), .unset, .unset, .unset, .unset, .unset] [])) _
    refine XS.aload X3.here hx rfl (hb hby at_54) rfl rfl ?_
    show Steps p.tables e below (T3.setTop (mkF m 56 #[.val (.int pi), .val (.int q), .val (.int (1 : Int32)), .val (.int (0 : Int32)), .val (.ref wT), .val (.ref wF), .unset, .unset, .unset, .unset, .unset] [(.ref wF)])) _
    refine XS.iloadN X3.here hx rfl (hb hby at_56) rfl ?_
    show Steps p.tables e below (T3.setTop (mkF m 57 #[.val (.int pi), .val (.int q), .val (.int (1 : Int32)), .val (.int (0 : Int32)), .val (.ref wT), .val (.ref wF), .unset, .unset, .unset, .unset, .unset] [(.int (0 : Int32)), (.ref wF)])) _
    refine XS.ifYes X3.here hx rfl (pc0 := 57) (pc' := 66) rfl (hb hby at_57) rfl ((if0 _ _).trans (teq (by decide : (0 : Int32) = (0 : Int32))).1) (by decide) (by decide) ?_
    show Steps p.tables e below (T3.setTop (mkF m 66 #[.val (.int pi), .val (.int q), .val (.int (1 : Int32)), .val (.int (0 : Int32)), .val (.ref wT), .val (.ref wF), .unset, .unset, .unset, .unset, .unset] [(.ref wF)])) _
    refine st4 _ ?_
    show Steps p.tables e below (T4.setTop (mkF m 69 #[.val (.int pi), .val (.int q), .val (.int (1 : Int32)), .val (.int (0 : Int32)), .val (.ref wT), .val (.ref wF), .unset, .unset, .unset, .unset, .unset] [(.ref wF), (.ref wF)])) _
    refine Jvm.RoadKit.acmp (g := (mkF m 69 #[.val (.int pi), .val (.int q), .val (.int (1 : Int32)), .val (.int (0 : Int32)), .val (.ref wT), .val (.ref wF), .unset, .unset, .unset, .unset, .unset] [(.ref wF), (.ref wF)])) X4 hx rfl rfl rfl (pc0 := 69) (pc' := 72) (same := true) rfl (hb hby at_69) rfl (decide_eq_true rfl) (by decide) (by decide) ?_
    show Steps p.tables e below (T4.setTop (mkF m 72 #[.val (.int pi), .val (.int q), .val (.int (1 : Int32)), .val (.int (0 : Int32)), .val (.ref wT), .val (.ref wF), .unset, .unset, .unset, .unset, .unset] [])) _
    refine XS.iconst X4.here hx rfl (hb hby at_72) ?_
    show Steps p.tables e below (T4.setTop (mkF m 73 #[.val (.int pi), .val (.int q), .val (.int (1 : Int32)), .val (.int (0 : Int32)), .val (.ref wT), .val (.ref wF), .unset, .unset, .unset, .unset, .unset] [(.int (1 : Int32))])) _
    refine XS.goto X4.here hx rfl (pc0 := 73) (pc' := 77) rfl (hb hby at_73) (by decide) (by decide) ?_
    show Steps p.tables e below (T4.setTop (mkF m 77 #[.val (.int pi), .val (.int q), .val (.int (1 : Int32)), .val (.int (0 : Int32)), .val (.ref wT), .val (.ref wF), .unset, .unset, .unset, .unset, .unset] [(.int (1 : Int32))])) _
    refine XS.istore X4.here hx rfl (hb hby at_77) rfl (l' := #[.val (.int pi), .val (.int q), .val (.int (1 : Int32)), .val (.int (0 : Int32)), .val (.ref wT), .val (.ref wF), .val (.int (1 : Int32)), .unset, .unset, .unset, .unset]) rfl ?_
    show Steps p.tables e below (T4.setTop (mkF m 79 #[.val (.int pi), .val (.int q), .val (.int (1 : Int32)), .val (.int (0 : Int32)), .val (.ref wT), .val (.ref wF), .val (.int (1 : Int32)), .unset, .unset, .unset, .unset] [])) _
    refine XS.aload X4.here hx rfl (hb hby at_79) rfl rfl ?_
    show Steps p.tables e below (T4.setTop (mkF m 81 #[.val (.int pi), .val (.int q), .val (.int (1 : Int32)), .val (.int (0 : Int32)), .val (.ref wT), .val (.ref wF), .val (.int (1 : Int32)), .unset, .unset, .unset, .unset] [(.ref wT)])) _
    refine st5 _ ?_
    show Steps p.tables e below (T5.setTop (mkF m 84 #[.val (.int pi), .val (.int q), .val (.int (1 : Int32)), .val (.int (0 : Int32)), .val (.ref wT), .val (.ref wF), .val (.int (1 : Int32)), .unset, .unset, .unset, .unset] [(.ref wU), (.ref wT)])) _
    refine Jvm.RoadKit.acmp (g := (mkF m 84 #[.val (.int pi), .val (.int q), .val (.int (1 : Int32)), .val (.int (0 : Int32)), .val (.ref wT), .val (.ref wF), .val (.int (1 : Int32)), .unset, .unset, .unset, .unset] [(.ref wU), (.ref wT)])) X5 hx rfl rfl rfl (pc0 := 84) (pc' := 87) (same := false) rfl (hb hby at_84) rfl (decide_eq_false fun q => nT (Value.ref.inj q)) (by decide) (by decide) ?_
    show Steps p.tables e below (T5.setTop (mkF m 87 #[.val (.int pi), .val (.int q), .val (.int (1 : Int32)), .val (.int (0 : Int32)), .val (.ref wT), .val (.ref wF), .val (.int (1 : Int32)), .unset, .unset, .unset, .unset] [])) _
    refine XS.aload X5.here hx rfl (hb hby at_87) rfl rfl ?_
    show Steps p.tables e below (T5.setTop (mkF m 89 #[.val (.int pi), .val (.int q), .val (.int (1 : Int32)), .val (.int (0 : Int32)), .val (.ref wT), .val (.ref wF), .val (.int (1 : Int32)), .unset, .unset, .unset, .unset] [(.ref wF)])) _
    refine st6 _ ?_
    show Steps p.tables e below (T6.setTop (mkF m 92 #[.val (.int pi), .val (.int q), .val (.int (1 : Int32)), .val (.int (0 : Int32)), .val (.ref wT), .val (.ref wF), .val (.int (1 : Int32)), .unset, .unset, .unset, .unset] [(.ref wU), (.ref wF)])) _
    refine Jvm.RoadKit.acmp (g := (mkF m 92 #[.val (.int pi), .val (.int q), .val (.int (1 : Int32)), .val (.int (0 : Int32)), .val (.ref wT), .val (.ref wF), .val (.int (1 : Int32)), .unset, .unset, .unset, .unset] [(.ref wU), (.ref wF)])) X6 hx rfl rfl rfl (pc0 := 92) (pc' := 95) (same := false) rfl (hb hby at_92) rfl (decide_eq_false fun q => nF (Value.ref.inj q)) (by decide) (by decide) ?_
    show Steps p.tables e below (T6.setTop (mkF m 95 #[.val (.int pi), .val (.int q), .val (.int (1 : Int32)), .val (.int (0 : Int32)), .val (.ref wT), .val (.ref wF), .val (.int (1 : Int32)), .unset, .unset, .unset, .unset] [])) _
    refine XS.iconst X6.here hx rfl (hb hby at_95) ?_
    show Steps p.tables e below (T6.setTop (mkF m 96 #[.val (.int pi), .val (.int q), .val (.int (1 : Int32)), .val (.int (0 : Int32)), .val (.ref wT), .val (.ref wF), .val (.int (1 : Int32)), .unset, .unset, .unset, .unset] [(.int (1 : Int32))])) _
    refine XS.goto X6.here hx rfl (pc0 := 96) (pc' := 100) rfl (hb hby at_96) (by decide) (by decide) ?_
    show Steps p.tables e below (T6.setTop (mkF m 100 #[.val (.int pi), .val (.int q), .val (.int (1 : Int32)), .val (.int (0 : Int32)), .val (.ref wT), .val (.ref wF), .val (.int (1 : Int32)), .unset, .unset, .unset, .unset] [(.int (1 : Int32))])) _
    refine XS.istore X6.here hx rfl (hb hby at_100) rfl (l' := #[.val (.int pi), .val (.int q), .val (.int (1 : Int32)), .val (.int (0 : Int32)), .val (.ref wT), .val (.ref wF), .val (.int (1 : Int32)), .val (.int (1 : Int32)), .unset, .unset, .unset]) rfl ?_
    show Steps p.tables e below (T6.setTop (mkF m 102 #[.val (.int pi), .val (.int q), .val (.int (1 : Int32)), .val (.int (0 : Int32)), .val (.ref wT), .val (.ref wF), .val (.int (1 : Int32)), .val (.int (1 : Int32)), .unset, .unset, .unset] [])) _
    refine XS.aload X6.here hx rfl (hb hby at_102) rfl rfl ?_
    show Steps p.tables e below (T6.setTop (mkF m 104 #[.val (.int pi), .val (.int q), .val (.int (1 : Int32)), .val (.int (0 : Int32)), .val (.ref wT), .val (.ref wF), .val (.int (1 : Int32)), .val (.int (1 : Int32)), .unset, .unset, .unset] [(.ref wT)])) _
    refine st7.trans ?_
    show Steps p.tables e below (T7.setTop (mkF m 107 #[.val (.int pi), .val (.int q), .val (.int (1 : Int32)), .val (.int (0 : Int32)), .val (.ref wT), .val (.ref wF), .val (.int (1 : Int32)), .val (.int (1 : Int32)), .unset, .unset, .unset] [(.ref wF)])) _
    refine XS.iloadN X7.here hx rfl (hb hby at_107) rfl ?_
    show Steps p.tables e below (T7.setTop (mkF m 108 #[.val (.int pi), .val (.int q), .val (.int (1 : Int32)), .val (.int (0 : Int32)), .val (.ref wT), .val (.ref wF), .val (.int (1 : Int32)), .val (.int (1 : Int32)), .unset, .unset, .unset] [(.int (1 : Int32)), (.ref wF)])) _
    refine XS.ifYes X7.here hx rfl (pc0 := 108) (pc' := 115) rfl (hb hby at_108) rfl ((if0 _ _).trans (feq (by decide : ¬ ((1 : Int32) = (0 : Int32)))).2) (by decide) (by decide) ?_
    show Steps p.tables e below (T7.setTop (mkF m 115 #[.val (.int pi), .val (.int q), .val (.int (1 : Int32)), .val (.int (0 : Int32)), .val (.ref wT), .val (.ref wF), .val (.int (1 : Int32)), .val (.int (1 : Int32)), .unset, .unset, .unset] [(.ref wF)])) _
    refine XS.iconst X7.here hx rfl (hb hby at_115) ?_
    show Steps p.tables e below (T7.setTop (mkF m 116 #[.val (.int pi), .val (.int q), .val (.int (1 : Int32)), .val (.int (0 : Int32)), .val (.ref wT), .val (.ref wF), .val (.int (1 : Int32)), .val (.int (1 : Int32)), .unset, .unset, .unset] [(.int (0 : Int32)), (.ref wF)])) _
    refine st8 _ ?_
    show Steps p.tables e below (T8.setTop (mkF m 119 #[.val (.int pi), .val (.int q), .val (.int (1 : Int32)), .val (.int (0 : Int32)), .val (.ref wT), .val (.ref wF), .val (.int (1 : Int32)), .val (.int (1 : Int32)), .unset, .unset, .unset] [(.ref wF), (.ref wF)])) _
    refine Jvm.RoadKit.acmp (g := (mkF m 119 #[.val (.int pi), .val (.int q), .val (.int (1 : Int32)), .val (.int (0 : Int32)), .val (.ref wT), .val (.ref wF), .val (.int (1 : Int32)), .val (.int (1 : Int32)), .unset, .unset, .unset] [(.ref wF), (.ref wF)])) X8 hx rfl rfl rfl (pc0 := 119) (pc' := 122) (same := true) rfl (hb hby at_119) rfl (decide_eq_true rfl) (by decide) (by decide) ?_
    show Steps p.tables e below (T8.setTop (mkF m 122 #[.val (.int pi), .val (.int q), .val (.int (1 : Int32)), .val (.int (0 : Int32)), .val (.ref wT), .val (.ref wF), .val (.int (1 : Int32)), .val (.int (1 : Int32)), .unset, .unset, .unset] [])) _
    refine XS.iconst X8.here hx rfl (hb hby at_122) ?_
    show Steps p.tables e below (T8.setTop (mkF m 123 #[.val (.int pi), .val (.int q), .val (.int (1 : Int32)), .val (.int (0 : Int32)), .val (.ref wT), .val (.ref wF), .val (.int (1 : Int32)), .val (.int (1 : Int32)), .unset, .unset, .unset] [(.int (1 : Int32))])) _
    refine XS.goto X8.here hx rfl (pc0 := 123) (pc' := 127) rfl (hb hby at_123) (by decide) (by decide) ?_
    show Steps p.tables e below (T8.setTop (mkF m 127 #[.val (.int pi), .val (.int q), .val (.int (1 : Int32)), .val (.int (0 : Int32)), .val (.ref wT), .val (.ref wF), .val (.int (1 : Int32)), .val (.int (1 : Int32)), .unset, .unset, .unset] [(.int (1 : Int32))])) _
    refine XS.istore X8.here hx rfl (hb hby at_127) rfl (l' := #[.val (.int pi), .val (.int q), .val (.int (1 : Int32)), .val (.int (0 : Int32)), .val (.ref wT), .val (.ref wF), .val (.int (1 : Int32)), .val (.int (1 : Int32)), .val (.int (1 : Int32)), .unset, .unset]) rfl ?_
    show Steps p.tables e below (T8.setTop (mkF m 129 #[.val (.int pi), .val (.int q), .val (.int (1 : Int32)), .val (.int (0 : Int32)), .val (.ref wT), .val (.ref wF), .val (.int (1 : Int32)), .val (.int (1 : Int32)), .val (.int (1 : Int32)), .unset, .unset] [])) _
    refine XS.aload X8.here hx rfl (hb hby at_129) rfl rfl ?_
    show Steps p.tables e below (T8.setTop (mkF m 131 #[.val (.int pi), .val (.int q), .val (.int (1 : Int32)), .val (.int (0 : Int32)), .val (.ref wT), .val (.ref wF), .val (.int (1 : Int32)), .val (.int (1 : Int32)), .val (.int (1 : Int32)), .unset, .unset] [(.ref wT)])) _
    refine XS.aload X8.here hx rfl (hb hby at_131) rfl rfl ?_
    show Steps p.tables e below (T8.setTop (mkF m 133 #[.val (.int pi), .val (.int q), .val (.int (1 : Int32)), .val (.int (0 : Int32)), .val (.ref wT), .val (.ref wF), .val (.int (1 : Int32)), .val (.int (1 : Int32)), .val (.int (1 : Int32)), .unset, .unset] [(.ref wF), (.ref wT)])) _
    refine st9.trans ?_
    show Steps p.tables e below (T9.setTop (mkF m 136 #[.val (.int pi), .val (.int q), .val (.int (1 : Int32)), .val (.int (0 : Int32)), .val (.ref wT), .val (.ref wF), .val (.int (1 : Int32)), .val (.int (1 : Int32)), .val (.int (1 : Int32)), .unset, .unset] [(.ref wF)])) _
    refine XS.iloadN X9.here hx rfl (hb hby at_136) rfl ?_
    show Steps p.tables e below (T9.setTop (mkF m 137 #[.val (.int pi), .val (.int q), .val (.int (1 : Int32)), .val (.int (0 : Int32)), .val (.ref wT), .val (.ref wF), .val (.int (1 : Int32)), .val (.int (1 : Int32)), .val (.int (1 : Int32)), .unset, .unset] [(.int (1 : Int32)), (.ref wF)])) _
    refine XS.ifNo X9.here hx rfl (hb hby at_137) rfl ((if0 _ _).trans (feq (by decide : ¬ ((1 : Int32) = (0 : Int32)))).1) ?_
    show Steps p.tables e below (T9.setTop (mkF m 140 #[.val (.int pi), .val (.int q), .val (.int (1 : Int32)), .val (.int (0 : Int32)), .val (.ref wT), .val (.ref wF), .val (.int (1 : Int32)), .val (.int (1 : Int32)), .val (.int (1 : Int32)), .unset, .unset] [(.ref wF)])) _
    refine XS.iloadN X9.here hx rfl (hb hby at_140) rfl ?_
    show Steps p.tables e below (T9.setTop (mkF m 141 #[.val (.int pi), .val (.int q), .val (.int (1 : Int32)), .val (.int (0 : Int32)), .val (.ref wT), .val (.ref wF), .val (.int (1 : Int32)), .val (.int (1 : Int32)), .val (.int (1 : Int32)), .unset, .unset] [(.int (0 : Int32)), (.ref wF)])) _
    refine XS.ifYes X9.here hx rfl (pc0 := 141) (pc' := 148) rfl (hb hby at_141) rfl ((if0 _ _).trans (teq (by decide : (0 : Int32) = (0 : Int32))).1) (by decide) (by decide) ?_
    show Steps p.tables e below (T9.setTop (mkF m 148 #[.val (.int pi), .val (.int q), .val (.int (1 : Int32)), .val (.int (0 : Int32)), .val (.ref wT), .val (.ref wF), .val (.int (1 : Int32)), .val (.int (1 : Int32)), .val (.int (1 : Int32)), .unset, .unset] [(.ref wF)])) _
    refine XS.iconst X9.here hx rfl (hb hby at_148) ?_
    show Steps p.tables e below (T9.setTop (mkF m 149 #[.val (.int pi), .val (.int q), .val (.int (1 : Int32)), .val (.int (0 : Int32)), .val (.ref wT), .val (.ref wF), .val (.int (1 : Int32)), .val (.int (1 : Int32)), .val (.int (1 : Int32)), .unset, .unset] [(.int (0 : Int32)), (.ref wF)])) _
    refine st10 _ ?_
    show Steps p.tables e below (T10.setTop (mkF m 152 #[.val (.int pi), .val (.int q), .val (.int (1 : Int32)), .val (.int (0 : Int32)), .val (.ref wT), .val (.ref wF), .val (.int (1 : Int32)), .val (.int (1 : Int32)), .val (.int (1 : Int32)), .unset, .unset] [(.ref wF), (.ref wF)])) _
    refine Jvm.RoadKit.acmp (g := (mkF m 152 #[.val (.int pi), .val (.int q), .val (.int (1 : Int32)), .val (.int (0 : Int32)), .val (.ref wT), .val (.ref wF), .val (.int (1 : Int32)), .val (.int (1 : Int32)), .val (.int (1 : Int32)), .unset, .unset] [(.ref wF), (.ref wF)])) X10 hx rfl rfl rfl (pc0 := 152) (pc' := 155) (same := true) rfl (hb hby at_152) rfl (decide_eq_true rfl) (by decide) (by decide) ?_
    show Steps p.tables e below (T10.setTop (mkF m 155 #[.val (.int pi), .val (.int q), .val (.int (1 : Int32)), .val (.int (0 : Int32)), .val (.ref wT), .val (.ref wF), .val (.int (1 : Int32)), .val (.int (1 : Int32)), .val (.int (1 : Int32)), .unset, .unset] [])) _
    refine XS.iconst X10.here hx rfl (hb hby at_155) ?_
    show Steps p.tables e below (T10.setTop (mkF m 156 #[.val (.int pi), .val (.int q), .val (.int (1 : Int32)), .val (.int (0 : Int32)), .val (.ref wT), .val (.ref wF), .val (.int (1 : Int32)), .val (.int (1 : Int32)), .val (.int (1 : Int32)), .unset, .unset] [(.int (1 : Int32))])) _
    refine XS.goto X10.here hx rfl (pc0 := 156) (pc' := 160) rfl (hb hby at_156) (by decide) (by decide) ?_
    show Steps p.tables e below (T10.setTop (mkF m 160 #[.val (.int pi), .val (.int q), .val (.int (1 : Int32)), .val (.int (0 : Int32)), .val (.ref wT), .val (.ref wF), .val (.int (1 : Int32)), .val (.int (1 : Int32)), .val (.int (1 : Int32)), .unset, .unset] [(.int (1 : Int32))])) _
    refine XS.istore X10.here hx rfl (hb hby at_160) rfl (l' := #[.val (.int pi), .val (.int q), .val (.int (1 : Int32)), .val (.int (0 : Int32)), .val (.ref wT), .val (.ref wF), .val (.int (1 : Int32)), .val (.int (1 : Int32)), .val (.int (1 : Int32)), .val (.int (1 : Int32)), .unset]) rfl ?_
    show Steps p.tables e below (T10.setTop (mkF m 162 #[.val (.int pi), .val (.int q), .val (.int (1 : Int32)), .val (.int (0 : Int32)), .val (.ref wT), .val (.ref wF), .val (.int (1 : Int32)), .val (.int (1 : Int32)), .val (.int (1 : Int32)), .val (.int (1 : Int32)), .unset] [])) _
    refine XS.aload X10.here hx rfl (hb hby at_162) rfl rfl ?_
    show Steps p.tables e below (T10.setTop (mkF m 164 #[.val (.int pi), .val (.int q), .val (.int (1 : Int32)), .val (.int (0 : Int32)), .val (.ref wT), .val (.ref wF), .val (.int (1 : Int32)), .val (.int (1 : Int32)), .val (.int (1 : Int32)), .val (.int (1 : Int32)), .unset] [(.ref wT)])) _
    refine XS.aload X10.here hx rfl (hb hby at_164) rfl rfl ?_
    show Steps p.tables e below (T10.setTop (mkF m 166 #[.val (.int pi), .val (.int q), .val (.int (1 : Int32)), .val (.int (0 : Int32)), .val (.ref wT), .val (.ref wF), .val (.int (1 : Int32)), .val (.int (1 : Int32)), .val (.int (1 : Int32)), .val (.int (1 : Int32)), .unset] [(.ref wF), (.ref wT)])) _
    refine st11.trans ?_
    show Steps p.tables e below (T11.setTop (mkF m 169 #[.val (.int pi), .val (.int q), .val (.int (1 : Int32)), .val (.int (0 : Int32)), .val (.ref wT), .val (.ref wF), .val (.int (1 : Int32)), .val (.int (1 : Int32)), .val (.int (1 : Int32)), .val (.int (1 : Int32)), .unset] [(.ref wT)])) _
    refine XS.iloadN X11.here hx rfl (hb hby at_169) rfl ?_
    show Steps p.tables e below (T11.setTop (mkF m 170 #[.val (.int pi), .val (.int q), .val (.int (1 : Int32)), .val (.int (0 : Int32)), .val (.ref wT), .val (.ref wF), .val (.int (1 : Int32)), .val (.int (1 : Int32)), .val (.int (1 : Int32)), .val (.int (1 : Int32)), .unset] [(.int (1 : Int32)), (.ref wT)])) _
    refine XS.ifYes X11.here hx rfl (pc0 := 170) (pc' := 177) rfl (hb hby at_170) rfl ((if0 _ _).trans (feq (by decide : ¬ ((1 : Int32) = (0 : Int32)))).2) (by decide) (by decide) ?_
    show Steps p.tables e below (T11.setTop (mkF m 177 #[.val (.int pi), .val (.int q), .val (.int (1 : Int32)), .val (.int (0 : Int32)), .val (.ref wT), .val (.ref wF), .val (.int (1 : Int32)), .val (.int (1 : Int32)), .val (.int (1 : Int32)), .val (.int (1 : Int32)), .unset] [(.ref wT)])) _
    refine XS.iconst X11.here hx rfl (hb hby at_177) ?_
    show Steps p.tables e below (T11.setTop (mkF m 178 #[.val (.int pi), .val (.int q), .val (.int (1 : Int32)), .val (.int (0 : Int32)), .val (.ref wT), .val (.ref wF), .val (.int (1 : Int32)), .val (.int (1 : Int32)), .val (.int (1 : Int32)), .val (.int (1 : Int32)), .unset] [(.int (1 : Int32)), (.ref wT)])) _
    refine XS.goto X11.here hx rfl (pc0 := 178) (pc' := 182) rfl (hb hby at_178) (by decide) (by decide) ?_
    show Steps p.tables e below (T11.setTop (mkF m 182 #[.val (.int pi), .val (.int q), .val (.int (1 : Int32)), .val (.int (0 : Int32)), .val (.ref wT), .val (.ref wF), .val (.int (1 : Int32)), .val (.int (1 : Int32)), .val (.int (1 : Int32)), .val (.int (1 : Int32)), .unset] [(.int (1 : Int32)), (.ref wT)])) _
    refine st12 _ ?_
    show Steps p.tables e below (T12.setTop (mkF m 185 #[.val (.int pi), .val (.int q), .val (.int (1 : Int32)), .val (.int (0 : Int32)), .val (.ref wT), .val (.ref wF), .val (.int (1 : Int32)), .val (.int (1 : Int32)), .val (.int (1 : Int32)), .val (.int (1 : Int32)), .unset] [(.ref wT), (.ref wT)])) _
    refine Jvm.RoadKit.acmp (g := (mkF m 185 #[.val (.int pi), .val (.int q), .val (.int (1 : Int32)), .val (.int (0 : Int32)), .val (.ref wT), .val (.ref wF), .val (.int (1 : Int32)), .val (.int (1 : Int32)), .val (.int (1 : Int32)), .val (.int (1 : Int32)), .unset] [(.ref wT), (.ref wT)])) X12 hx rfl rfl rfl (pc0 := 185) (pc' := 188) (same := true) rfl (hb hby at_185) rfl (decide_eq_true rfl) (by decide) (by decide) ?_
    show Steps p.tables e below (T12.setTop (mkF m 188 #[.val (.int pi), .val (.int q), .val (.int (1 : Int32)), .val (.int (0 : Int32)), .val (.ref wT), .val (.ref wF), .val (.int (1 : Int32)), .val (.int (1 : Int32)), .val (.int (1 : Int32)), .val (.int (1 : Int32)), .unset] [])) _
    refine XS.iconst X12.here hx rfl (hb hby at_188) ?_
    show Steps p.tables e below (T12.setTop (mkF m 189 #[.val (.int pi), .val (.int q), .val (.int (1 : Int32)), .val (.int (0 : Int32)), .val (.ref wT), .val (.ref wF), .val (.int (1 : Int32)), .val (.int (1 : Int32)), .val (.int (1 : Int32)), .val (.int (1 : Int32)), .unset] [(.int (1 : Int32))])) _
    refine XS.goto X12.here hx rfl (pc0 := 189) (pc' := 193) rfl (hb hby at_189) (by decide) (by decide) ?_
    show Steps p.tables e below (T12.setTop (mkF m 193 #[.val (.int pi), .val (.int q), .val (.int (1 : Int32)), .val (.int (0 : Int32)), .val (.ref wT), .val (.ref wF), .val (.int (1 : Int32)), .val (.int (1 : Int32)), .val (.int (1 : Int32)), .val (.int (1 : Int32)), .unset] [(.int (1 : Int32))])) _
    refine XS.istore X12.here hx rfl (hb hby at_193) rfl (l' := #[.val (.int pi), .val (.int q), .val (.int (1 : Int32)), .val (.int (0 : Int32)), .val (.ref wT), .val (.ref wF), .val (.int (1 : Int32)), .val (.int (1 : Int32)), .val (.int (1 : Int32)), .val (.int (1 : Int32)), .val (.int (1 : Int32))]) rfl ?_
    show Steps p.tables e below (T12.setTop (mkF m 195 #[.val (.int pi), .val (.int q), .val (.int (1 : Int32)), .val (.int (0 : Int32)), .val (.ref wT), .val (.ref wF), .val (.int (1 : Int32)), .val (.int (1 : Int32)), .val (.int (1 : Int32)), .val (.int (1 : Int32)), .val (.int (1 : Int32))] [])) _
    refine XS.iload X12.here hx rfl (hb hby at_195) rfl ?_
    show Steps p.tables e below (T12.setTop (mkF m 197 #[.val (.int pi), .val (.int q), .val (.int (1 : Int32)), .val (.int (0 : Int32)), .val (.ref wT), .val (.ref wF), .val (.int (1 : Int32)), .val (.int (1 : Int32)), .val (.int (1 : Int32)), .val (.int (1 : Int32)), .val (.int (1 : Int32))] [(.int (1 : Int32))])) _
    refine XS.ifNo X12.here hx rfl (hb hby at_197) rfl ((if0 _ _).trans (feq (by decide : ¬ ((1 : Int32) = (0 : Int32)))).1) ?_
    show Steps p.tables e below (T12.setTop (mkF m 200 #[.val (.int pi), .val (.int q), .val (.int (1 : Int32)), .val (.int (0 : Int32)), .val (.ref wT), .val (.ref wF), .val (.int (1 : Int32)), .val (.int (1 : Int32)), .val (.int (1 : Int32)), .val (.int (1 : Int32)), .val (.int (1 : Int32))] [])) _
    refine XS.iload X12.here hx rfl (hb hby at_200) rfl ?_
    show Steps p.tables e below (T12.setTop (mkF m 202 #[.val (.int pi), .val (.int q), .val (.int (1 : Int32)), .val (.int (0 : Int32)), .val (.ref wT), .val (.ref wF), .val (.int (1 : Int32)), .val (.int (1 : Int32)), .val (.int (1 : Int32)), .val (.int (1 : Int32)), .val (.int (1 : Int32))] [(.int (1 : Int32))])) _
    refine XS.ifNo X12.here hx rfl (hb hby at_202) rfl ((if0 _ _).trans (feq (by decide : ¬ ((1 : Int32) = (0 : Int32)))).1) ?_
    show Steps p.tables e below (T12.setTop (mkF m 205 #[.val (.int pi), .val (.int q), .val (.int (1 : Int32)), .val (.int (0 : Int32)), .val (.ref wT), .val (.ref wF), .val (.int (1 : Int32)), .val (.int (1 : Int32)), .val (.int (1 : Int32)), .val (.int (1 : Int32)), .val (.int (1 : Int32))] [])) _
    refine XS.iload X12.here hx rfl (hb hby at_205) rfl ?_
    show Steps p.tables e below (T12.setTop (mkF m 207 #[.val (.int pi), .val (.int q), .val (.int (1 : Int32)), .val (.int (0 : Int32)), .val (.ref wT), .val (.ref wF), .val (.int (1 : Int32)), .val (.int (1 : Int32)), .val (.int (1 : Int32)), .val (.int (1 : Int32)), .val (.int (1 : Int32))] [(.int (1 : Int32))])) _
    refine XS.ifNo X12.here hx rfl (hb hby at_207) rfl ((if0 _ _).trans (feq (by decide : ¬ ((1 : Int32) = (0 : Int32)))).1) ?_
    show Steps p.tables e below (T12.setTop (mkF m 210 #[.val (.int pi), .val (.int q), .val (.int (1 : Int32)), .val (.int (0 : Int32)), .val (.ref wT), .val (.ref wF), .val (.int (1 : Int32)), .val (.int (1 : Int32)), .val (.int (1 : Int32)), .val (.int (1 : Int32)), .val (.int (1 : Int32))] [])) _
    refine XS.iload X12.here hx rfl (hb hby at_210) rfl ?_
    show Steps p.tables e below (T12.setTop (mkF m 212 #[.val (.int pi), .val (.int q), .val (.int (1 : Int32)), .val (.int (0 : Int32)), .val (.ref wT), .val (.ref wF), .val (.int (1 : Int32)), .val (.int (1 : Int32)), .val (.int (1 : Int32)), .val (.int (1 : Int32)), .val (.int (1 : Int32))] [(.int (1 : Int32))])) _
    refine XS.ifNo X12.here hx rfl (hb hby at_212) rfl ((if0 _ _).trans (feq (by decide : ¬ ((1 : Int32) = (0 : Int32)))).1) ?_
    show Steps p.tables e below (T12.setTop (mkF m 215 #[.val (.int pi), .val (.int q), .val (.int (1 : Int32)), .val (.int (0 : Int32)), .val (.ref wT), .val (.ref wF), .val (.int (1 : Int32)), .val (.int (1 : Int32)), .val (.int (1 : Int32)), .val (.int (1 : Int32)), .val (.int (1 : Int32))] [])) _
    refine XS.iload X12.here hx rfl (hb hby at_215) rfl ?_
    show Steps p.tables e below (T12.setTop (mkF m 217 #[.val (.int pi), .val (.int q), .val (.int (1 : Int32)), .val (.int (0 : Int32)), .val (.ref wT), .val (.ref wF), .val (.int (1 : Int32)), .val (.int (1 : Int32)), .val (.int (1 : Int32)), .val (.int (1 : Int32)), .val (.int (1 : Int32))] [(.int (1 : Int32))])) _
    refine XS.ifNo X12.here hx rfl (hb hby at_217) rfl ((if0 _ _).trans (feq (by decide : ¬ ((1 : Int32) = (0 : Int32)))).1) ?_
    show Steps p.tables e below (T12.setTop (mkF m 220 #[.val (.int pi), .val (.int q), .val (.int (1 : Int32)), .val (.int (0 : Int32)), .val (.ref wT), .val (.ref wF), .val (.int (1 : Int32)), .val (.int (1 : Int32)), .val (.int (1 : Int32)), .val (.int (1 : Int32)), .val (.int (1 : Int32))] [])) _
    refine XS.iconst X12.here hx rfl (hb hby at_220) ?_
    show Steps p.tables e below (T12.setTop (mkF m 221 #[.val (.int pi), .val (.int q), .val (.int (1 : Int32)), .val (.int (0 : Int32)), .val (.ref wT), .val (.ref wF), .val (.int (1 : Int32)), .val (.int (1 : Int32)), .val (.int (1 : Int32)), .val (.int (1 : Int32)), .val (.int (1 : Int32))] [(.int (1 : Int32))])) _
    refine XS.goto X12.here hx rfl (pc0 := 221) (pc' := 225) rfl (hb hby at_221) (by decide) (by decide) ?_
    show Steps p.tables e below (T12.setTop (mkF m 225 #[.val (.int pi), .val (.int q), .val (.int (1 : Int32)), .val (.int (0 : Int32)), .val (.ref wT), .val (.ref wF), .val (.int (1 : Int32)), .val (.int (1 : Int32)), .val (.int (1 : Int32)), .val (.int (1 : Int32)), .val (.int (1 : Int32))] [(.int (1 : Int32))])) _
    exact retN X12 hx (t := .boolean) Bd.returns (by simp) (hb hby at_225) hr
  · show Q_law Z pi q wF wT wU mr h0 n0 _ T12.heap _
    rw [kh12]
    exact ⟨rfl, N12⟩
set_option maxRecDepth 65536 in
set_option maxHeartbeats 40000000 in
theorem law_2 (l : Launch) (Z : State) (a0 : Array Value) (hw : ∀ d ∈ tables_1, d.before a0 Z = true) (ws : List Jvm.Cond) (pi : Int32) (q : Int32) (wF : Addr) (wT : Addr) (wU : Addr) (mr : Addr) (h0 : Heap) (n0 : Nat) (O0 : Old Z n0 h0) (G0 : Sta Z Z.heap "com/example/deposition/deposition/filter/Truth" "FALSE" "Lcom/example/deposition/deposition/filter/Truth;" (.ref wF)) (G1 : Sta Z Z.heap "com/example/deposition/deposition/filter/Truth" "TRUE" "Lcom/example/deposition/deposition/filter/Truth;" (.ref wT)) (G2 : Sta Z Z.heap "com/example/deposition/deposition/filter/Truth" "UNKNOWN" "Lcom/example/deposition/deposition/filter/Truth;" (.ref wU)) (G3 : Exa Z Z.heap wF "com/example/deposition/deposition/filter/Truth") (G4 : Exa Z Z.heap wT "com/example/deposition/deposition/filter/Truth") (G5 : Fld Z Z.heap wF "java/lang/Enum" "ordinal" "I" (.int (0 : Int32))) (G6 : Fld Z Z.heap wT "java/lang/Enum" "ordinal" "I" (.int (2 : Int32))) (MM : MirO Z "com/example/deposition/deposition/filter/Truth" mr) (nF : wF ≠ wU) (nT : wT ≠ wU) (hc3 : (pi &&& (1 : Int32)) = (0 : Int32)) (hc15 : ¬ ((q &&& (1 : Int32)) = (0 : Int32))) :
    MetFree l x (head1 (Jvm.Cond.code x code maxLocals ret :: ws) room_1) (fun zA zU => zA = #[(.int pi), (.int q)] ∧ Z.Warmed39 zU.vm ∧ zU.heap = h0) (fun _ _ _ _ _ => True) (fun _ zU zo zU' => ∃ zv zL, zo = .returned zv ∧ Q_law Z pi q wF wT wU mr h0 n0 zv zU'.heap zL ∧ FrameEnd zU zo zU' zL room_1.cells room_1.slots) := by
  refine MetFree.of_bodySF (plainFor_of_name pn_9) hisR ?_
  intro p e s m args below meth c s₁ Bd hml0 hP hK
  obtain ⟨rfl, hZ, hh⟩ := hP
  have hx := Bd.exec
  have hby := Bd.bytes
  have hml : c.maxLocals = 11 := hml0
  have hown : s.vm.findClass "com/example/deposition/deposition/filter/TruthOfPinLaw" = some m.cls := findClass_of_methodNamed Bd.named
  have hnm := (name_of_methodNamed Bd.named Bd.method).1
  have X0 : Stand p l e room_1 s m #[(.int pi), (.int q)] below meth c s₁ [] 0 0 := Stand.of_body Bd
  have e0 : s₁.heap = h0 := by rw [← hh, Bd.state]; rfl
  have N0 := Fr.nil n0
  have Z0 : n0 ≤ h0.size := O0.1 ▸ O0.2.1
  have pre0 : ∀ zt, Steps p.tables e below (s₁.setTop (mkF m 0 #[.val (.int pi), .val (.int q), .unset, .unset, .unset, .unset, .unset, .unset, .unset, .unset, .unset] [])) zt → Steps p.tables e below (s₁.setTop (entryFrame m #[(.int pi), (.int q)] maxLocals)) zt := fun zt zk => castTop (ef_0_II m pi q) zk
  obtain ⟨_, _, ⟨T1, L1, k1, n1⟩, -, X1, ⟨Lc1, hQ1, l1, y1, z1⟩, st1⟩ := Jvm.LawKit.callS X0 hx (y := (⟨"com/example/deposition/deposition/filter/Truth", "of", "(Z)Lcom/example/deposition/deposition/filter/Truth;"⟩ : MethodName)) hown (mvT hZ (hw _ (List.mem_of_getElem? (i := 0) rfl))) (mvT hZ (hw _ (List.mem_of_getElem? (i := 1) rfl))) (mvT hZ (hw _ (List.mem_of_getElem? (i := 2) rfl))) (mvT hZ (hw _ (List.mem_of_getElem? (i := 3) rfl))) (by decide) (backOf (W := 0) (ofF l Z a0 hw [] wF h0 n0 O0 G0) hZ (hw _ (List.mem_of_getElem? (i := 3) rfl)) (hw _ (List.mem_of_getElem? (i := 2) rfl)) (by decide) (by decide)) (g := (mkF m 25 #[.val (.int pi), .val (.int q), .val (.int (0 : Int32)), .val (.int (1 : Int32)), .unset, .unset, .unset, .unset, .unset, .unset, .unset] [(.int (0 : Int32))])) rfl (by rw [hml]; rfl) (argsL := [(.int (0 : Int32))]) (rest := []) (lenOf pd_2 rfl) rfl (by show 2 * 0 + _ ≤ _; exact Nat.le_of_eq rfl) (hb hby at_25) (fun _ _ => ⟨rfl, e0, (by decide : 0 + 0 ≤ _), (by decide : 0 + 0 ≤ _)⟩)
  dsimp only [Pt.U, Pt.locs, Pt.cells, Pt.slots] at X1 l1 y1 z1 st1 hQ1
  subst l1 y1 z1
  obtain ⟨rfl, Nq1, kh1⟩ := hQ1
  have N1 := Fr.app N0 Nq1
  obtain ⟨_, _, ⟨T2, L2, k2, n2⟩, -, X2, ⟨Lc2, hQ2, l2, y2, z2⟩, st2⟩ := Jvm.LawKit.callS X1 hx (y := (⟨"com/example/deposition/deposition/filter/Truth", "of", "(Z)Lcom/example/deposition/deposition/filter/Truth;"⟩ : MethodName)) hown (mvT hZ (hw _ (List.mem_of_getElem? (i := 0) rfl))) (mvT hZ (hw _ (List.mem_of_getElem? (i := 1) rfl))) (mvT hZ (hw _ (List.mem_of_getElem? (i := 2) rfl))) (mvT hZ (hw _ (List.mem_of_getElem? (i := 3) rfl))) (by decide) (backOf (W := 0) (ofT l Z a0 hw [] wT h0 n0 O0 G1) hZ (hw _ (List.mem_of_getElem? (i := 3) rfl)) (hw _ (List.mem_of_getElem? (i := 2) rfl)) (by decide) (by decide)) (g := (mkF m 31 #[.val (.int pi), .val (.int q), .val (.int (0 : Int32)), .val (.int (1 : Int32)), .val (.ref wF), .unset, .unset, .unset, .unset, .unset, .unset] [(.int (1 : Int32))])) rfl (by rw [hml]; rfl) (argsL := [(.int (1 : Int32))]) (rest := []) (lenOf pd_2 rfl) rfl (by show 2 * 0 + _ ≤ _; exact Nat.le_of_eq rfl) (hb hby at_31) (fun _ _ => ⟨rfl, kh1, (by decide : 0 + 0 ≤ _), (by decide : 0 + 0 ≤ _)⟩)
  dsimp only [Pt.U, Pt.locs, Pt.cells, Pt.slots] at X2 l2 y2 z2 st2 hQ2
  subst l2 y2 z2
  obtain ⟨rfl, Nq2, kh2⟩ := hQ2
  have N2 := Fr.app N1 Nq2
  obtain ⟨T3, X3, e3, st3⟩ := getS2 X2 hx hZ hown (host := "") (Or.inl (hw _ (List.mem_of_getElem? (i := 8) rfl))) Via.refl kh2 (G0.ext O0.2) (g := (mkF m 48 #[.val (.int pi), .val (.int q), .val (.int (0 : Int32)), .val (.int (1 : Int32)), .val (.ref wF), .val (.ref wT), .unset, .unset, .unset, .unset, .unset] [(.ref wF)])) rfl (hb hby at_48)
  obtain ⟨T4, X4, e4, st4⟩ := getS2 X3 hx hZ hown (host := "") (Or.inl (hw _ (List.mem_of_getElem? (i := 9) rfl))) Via.refl e3 (G1.ext O0.2) (g := (mkF m 60 #[.val (.int pi), .val (.int q), .val (.int (0 : Int32)), .val (.int (1 : Int32)), .val (.ref wF), .val (.ref wT), .unset, .unset, .unset, .unset, .unset] [(.ref wT)])) rfl (hb hby at_60)
  obtain ⟨T5, X5, e5, st5⟩ := getS2 X4 hx hZ hown (host := "") (Or.inl (hw _ (List.mem_of_getElem? (i := 10) rfl))) Via.refl e4 (G2.ext O0.2) (g := (mkF m 81 #[.val (.int pi), .val (.int q), .val (.int (0 : Int32)), .val (.int (1 : Int32)), .val (.ref wF), .val (.ref wT), .val (.int (1 : Int32)), .unset, .unset, .unset, .unset] [(.ref wF)])) rfl (hb hby at_81)
  obtain ⟨T6, X6, e6, st6⟩ := getS2 X5 hx hZ hown (host := "") (Or.inl (hw _ (List.mem_of_getElem? (i := 10) rfl))) Via.refl e5 (G2.ext O0.2) (g := (mkF m 89 #[.val (.int pi), .val (.int q), .val (.int (0 : Int32)), .val (.int (1 : Int32)), .val (.ref wF), .val (.ref wT), .val (.int (1 : Int32)), .unset, .unset, .unset, .unset] [(.ref wT)])) rfl (hb hby at_89)
  obtain ⟨cq7, kq7, q7a, q7b, q7c⟩ := isOf hZ e6 (G3.ext O0.2)
  obtain ⟨_, _, ⟨T7, L7, k7, n7⟩, -, X7, ⟨Lc7, hQ7, l7, y7, z7⟩, st7⟩ := X6.virtualBack hx (y := (⟨"com/example/deposition/deposition/filter/Truth", "not", "()Lcom/example/deposition/deposition/filter/Truth;"⟩ : MethodName)) (z := (⟨"com/example/deposition/deposition/filter/Truth", "not", "()Lcom/example/deposition/deposition/filter/Truth;"⟩ : MethodName)) hown (mvT hZ (hw _ (List.mem_of_getElem? (i := 12) rfl))) (mvT hZ (hw _ (List.mem_of_getElem? (i := 13) rfl))) (notFace_of_selects (args := #[]) (mvT hZ (hw _ (List.mem_of_getElem? (i := 15) rfl)))) (mvT hZ (hw _ (List.mem_of_getElem? (i := 15) rfl))) (mvT hZ (hw _ (List.mem_of_getElem? (i := 14) rfl))) (by decide) (backOf (W := 0) (not0 l Z a0 hw [] wF wT h0 n0 O0 G3 G5 G1) hZ (hw _ (List.mem_of_getElem? (i := 16) rfl)) (hw _ (List.mem_of_getElem? (i := 2) rfl)) (by decide) (by decide)) q7a q7c (g := (mkF m 104 #[.val (.int pi), .val (.int q), .val (.int (0 : Int32)), .val (.int (1 : Int32)), .val (.ref wF), .val (.ref wT), .val (.int (1 : Int32)), .val (.int (1 : Int32)), .unset, .unset, .unset] [(.ref wF)])) rfl (by rw [hml]; rfl) (Steps.refl _) (argsL := []) (rest := []) (lenOf pd_3 rfl) rfl (by show 2 * 0 + _ ≤ _; exact Nat.le_of_eq rfl) (hb hby at_104) (fun _ _ => ⟨rfl, e6, (by decide : 0 + 0 ≤ _), (by decide : 0 + 0 ≤ _)⟩)
  dsimp only [Pt.U, Pt.locs, Pt.cells, Pt.slots] at X7 l7 y7 z7 st7 hQ7
  subst l7 y7 z7
  obtain ⟨rfl, Nq7, kh7⟩ := hQ7
  have N7 := Fr.app N2 Nq7
  obtain ⟨_, _, ⟨T8, L8, k8, n8⟩, -, X8, ⟨Lc8, hQ8, l8, y8, z8⟩, st8⟩ := Jvm.LawKit.callS X7 hx (y := (⟨"com/example/deposition/deposition/filter/Truth", "of", "(Z)Lcom/example/deposition/deposition/filter/Truth;"⟩ : MethodName)) hown (mvT hZ (hw _ (List.mem_of_getElem? (i := 0) rfl))) (mvT hZ (hw _ (List.mem_of_getElem? (i := 1) rfl))) (mvT hZ (hw _ (List.mem_of_getElem? (i := 2) rfl))) (mvT hZ (hw _ (List.mem_of_getElem? (i := 3) rfl))) (by decide) (backOf (W := 1) (ofT l Z a0 hw [] wT h0 n0 O0 G1) hZ (hw _ (List.mem_of_getElem? (i := 3) rfl)) (hw _ (List.mem_of_getElem? (i := 2) rfl)) (by decide) (by decide)) (g := (mkF m 116 #[.val (.int pi), .val (.int q), .val (.int (0 : Int32)), .val (.int (1 : Int32)), .val (.ref wF), .val (.ref wT), .val (.int (1 : Int32)), .val (.int (1 : Int32)), .unset, .unset, .unset] [(.int (1 : Int32)), (.ref wT)])) rfl (by rw [hml]; rfl) (argsL := [(.int (1 : Int32))]) (rest := [(.ref wT)]) (lenOf pd_2 rfl) rfl (by show 2 * 0 + _ ≤ _; exact Nat.le_of_eq rfl) (hb hby at_116) (fun _ _ => ⟨rfl, kh7, (by decide : 0 + 0 ≤ _), (by decide : 0 + 0 ≤ _)⟩)
  dsimp only [Pt.U, Pt.locs, Pt.cells, Pt.slots] at X8 l8 y8 z8 st8 hQ8
  subst l8 y8 z8
  obtain ⟨rfl, Nq8, kh8⟩ := hQ8
  have N8 := Fr.app N7 Nq8
  obtain ⟨cq9, kq9, q9a, q9b, q9c⟩ := isOf hZ kh8 (G3.ext O0.2)
  obtain ⟨_, _, ⟨T9, L9, k9, n9⟩, -, X9, ⟨Lc9, hQ9, l9, y9, z9⟩, st9⟩ := X8.virtualBack hx (y := (⟨"com/example/deposition/deposition/filter/Truth", "and", "(Lcom/example/deposition/deposition/filter/Truth;)Lcom/example/deposition/deposition/filter/Truth;"⟩ : MethodName)) (z := (⟨"com/example/deposition/deposition/filter/Truth", "and", "(Lcom/example/deposition/deposition/filter/Truth;)Lcom/example/deposition/deposition/filter/Truth;"⟩ : MethodName)) hown (mvT hZ (hw _ (List.mem_of_getElem? (i := 26) rfl))) (mvT hZ (hw _ (List.mem_of_getElem? (i := 27) rfl))) (notFace_of_selects (args := #[]) (mvT hZ (hw _ (List.mem_of_getElem? (i := 29) rfl)))) (mvT hZ (hw _ (List.mem_of_getElem? (i := 29) rfl))) (mvT hZ (hw _ (List.mem_of_getElem? (i := 28) rfl))) (by decide) (backOf (W := 0) (andA l Z a0 hw [] wF wT (0 : Int32) (2 : Int32) mr h0 n0 O0 G3 G4 G5 G6 MM (by decide)) hZ (hw _ (List.mem_of_getElem? (i := 30) rfl)) (hw _ (List.mem_of_getElem? (i := 2) rfl)) (by decide) (by decide)) q9a q9c (g := (mkF m 133 #[.val (.int pi), .val (.int q), .val (.int (0 : Int32)), .val (.int (1 : Int32)), .val (.ref wF), .val (.ref wT), .val (.int (1 : Int32)), .val (.int (1 : Int32)), .val (.int (1 : Int32)), .unset, .unset] [(.ref wT), (.ref wF)])) rfl (by rw [hml]; rfl) (Steps.refl _) (argsL := [(.ref wT)]) (rest := []) (lenOf pd_4 rfl) rfl (by show 2 * 0 + _ ≤ _; exact Nat.le_of_eq rfl) (hb hby at_133) (fun _ _ => ⟨rfl, kh8, (by decide : 0 + 0 ≤ _), (by decide : 0 + 0 ≤ _)⟩)
  dsimp only [Pt.U, Pt.locs, Pt.cells, Pt.slots] at X9 l9 y9 z9 st9 hQ9
  subst l9 y9 z9
  obtain ⟨rfl, Nq9, kh9⟩ := hQ9
  have N9 := Fr.app N8 Nq9
  obtain ⟨_, _, ⟨T10, L10, k10, n10⟩, -, X10, ⟨Lc10, hQ10, l10, y10, z10⟩, st10⟩ := Jvm.LawKit.callS X9 hx (y := (⟨"com/example/deposition/deposition/filter/Truth", "of", "(Z)Lcom/example/deposition/deposition/filter/Truth;"⟩ : MethodName)) hown (mvT hZ (hw _ (List.mem_of_getElem? (i := 0) rfl))) (mvT hZ (hw _ (List.mem_of_getElem? (i := 1) rfl))) (mvT hZ (hw _ (List.mem_of_getElem? (i := 2) rfl))) (mvT hZ (hw _ (List.mem_of_getElem? (i := 3) rfl))) (by decide) (backOf (W := 1) (ofF l Z a0 hw [] wF h0 n0 O0 G0) hZ (hw _ (List.mem_of_getElem? (i := 3) rfl)) (hw _ (List.mem_of_getElem? (i := 2) rfl)) (by decide) (by decide)) (g := (mkF m 149 #[.val (.int pi), .val (.int q), .val (.int (0 : Int32)), .val (.int (1 : Int32)), .val (.ref wF), .val (.ref wT), .val (.int (1 : Int32)), .val (.int (1 : Int32)), .val (.int (1 : Int32)), .unset, .unset] [(.int (0 : Int32)), (.ref wF)])) rfl (by rw [hml]; rfl) (argsL := [(.int (0 : Int32))]) (rest := [(.ref wF)]) (lenOf pd_2 rfl) rfl (by show 2 * 0 + _ ≤ _; exact Nat.le_of_eq rfl) (hb hby at_149) (fun _ _ => ⟨rfl, kh9, (by decide : 0 + 0 ≤ _), (by decide : 0 + 0 ≤ _)⟩)
  dsimp only [Pt.U, Pt.locs, Pt.cells, Pt.slots] at X10 l10 y10 z10 st10 hQ10
  subst l10 y10 z10
  obtain ⟨rfl, Nq10, kh10⟩ := hQ10
  have N10 := Fr.app N9 Nq10
  obtain ⟨cq11, kq11, q11a, q11b, q11c⟩ := isOf hZ kh10 (G3.ext O0.2)
  obtain ⟨_, _, ⟨T11, L11, k11, n11⟩, -, X11, ⟨Lc11, hQ11, l11, y11, z11⟩, st11⟩ := X10.virtualBack hx (y := (⟨"com/example/deposition/deposition/filter/Truth", "or", "(Lcom/example/deposition/deposition/filter/Truth;)Lcom/example/deposition/deposition/filter/Truth;"⟩ : MethodName)) (z := (⟨"com/example/deposition/deposition/filter/Truth", "or", "(Lcom/example/deposition/deposition/filter/Truth;)Lcom/example/deposition/deposition/filter/Truth;"⟩ : MethodName)) hown (mvT hZ (hw _ (List.mem_of_getElem? (i := 43) rfl))) (mvT hZ (hw _ (List.mem_of_getElem? (i := 44) rfl))) (notFace_of_selects (args := #[]) (mvT hZ (hw _ (List.mem_of_getElem? (i := 46) rfl)))) (mvT hZ (hw _ (List.mem_of_getElem? (i := 46) rfl))) (mvT hZ (hw _ (List.mem_of_getElem? (i := 45) rfl))) (by decide) (backOf (W := 0) (orB l Z a0 hw [] wF wT (0 : Int32) (2 : Int32) mr h0 n0 O0 G3 G4 G5 G6 MM (by decide)) hZ (hw _ (List.mem_of_getElem? (i := 47) rfl)) (hw _ (List.mem_of_getElem? (i := 2) rfl)) (by decide) (by decide)) q11a q11c (g := (mkF m 166 #[.val (.int pi), .val (.int q), .val (.int (0 : Int32)), .val (.int (1 : Int32)), .val (.ref wF), .val (.ref wT), .val (.int (1 : Int32)), .val (.int (1 : Int32)), .val (.int (1 : Int32)), .val (.int (1 : Int32)), .unset] [(.ref wT), (.ref wF)])) rfl (by rw [hml]; rfl) (Steps.refl _) (argsL := [(.ref wT)]) (rest := []) (lenOf pd_4 rfl) rfl (by show 2 * 0 + _ ≤ _; exact Nat.le_of_eq rfl) (hb hby at_166) (fun _ _ => ⟨rfl, kh10, (by decide : 0 + 0 ≤ _), (by decide : 0 + 0 ≤ _)⟩)
  dsimp only [Pt.U, Pt.locs, Pt.cells, Pt.slots] at X11 l11 y11 z11 st11 hQ11
  subst l11 y11 z11
  obtain ⟨rfl, Nq11, kh11⟩ := hQ11
  have N11 := Fr.app N10 Nq11
  obtain ⟨_, _, ⟨T12, L12, k12, n12⟩, -, X12, ⟨Lc12, hQ12, l12, y12, z12⟩, st12⟩ := Jvm.LawKit.callS X11 hx (y := (⟨"com/example/deposition/deposition/filter/Truth", "of", "(Z)Lcom/example/deposition/deposition/filter/Truth;"⟩ : MethodName)) hown (mvT hZ (hw _ (List.mem_of_getElem? (i := 0) rfl))) (mvT hZ (hw _ (List.mem_of_getElem? (i := 1) rfl))) (mvT hZ (hw _ (List.mem_of_getElem? (i := 2) rfl))) (mvT hZ (hw _ (List.mem_of_getElem? (i := 3) rfl))) (by decide) (backOf (W := 1) (ofT l Z a0 hw [] wT h0 n0 O0 G1) hZ (hw _ (List.mem_of_getElem? (i := 3) rfl)) (hw _ (List.mem_of_getElem? (i := 2) rfl)) (by decide) (by decide)) (g := (mkF m 182 #[.val (.int pi), .val (.int q), .val (.int (0 : Int32)), .val (.int (1 : Int32)), .val (.ref wF), .val (.ref wT), .val (.int (1 : Int32)), .val (.int (1 : Int32)), .val (.int (1 : Int32)), .val (.int (1 : Int32)), .unset] [(.int (1 : Int32)), (.ref wT)])) rfl (by rw [hml]; rfl) (argsL := [(.int (1 : Int32))]) (rest := [(.ref wT)]) (lenOf pd_2 rfl) rfl (by show 2 * 0 + _ ≤ _; exact Nat.le_of_eq rfl) (hb hby at_182) (fun _ _ => ⟨rfl, kh11, (by decide : 0 + 0 ≤ _), (by decide : 0 + 0 ≤ _)⟩)
  dsimp only [Pt.U, Pt.locs, Pt.cells, Pt.slots] at X12 l12 y12 z12 st12 hQ12
  subst l12 y12 z12
  obtain ⟨rfl, Nq12, kh12⟩ := hQ12
  have N12 := Fr.app N11 Nq12
  obtain ⟨fs, hr, hrun, hended, hW, hsame⟩ := X12.leave (v := some (.int (1 : Int32))) (fun h => by rw [Bd.returns] at h; cases h)
  refine ⟨_, _, pre0 _ ?_, hrun, hended, _, _, rfl, ?_, ⟨_, rfl⟩, hW, hsame.mono (by decide) (by decide)⟩
  · show Steps p.tables e below (s₁.setTop (mkF m 0 #[.val (.int pi), .val (.int q), .unset, .unset, .unset, .unset, .unset, .unset, .unset, .unset, .unset] [])) _
    refine XS.iloadN X0.here hx rfl (hb hby at_0) rfl ?_
    show Steps p.tables e below (s₁.setTop (mkF m 1 #[.val (.int pi), .val (.int q), .unset, .unset, .unset, .unset, .unset, .unset, .unset, .unset, .unset] [(.int pi)])) _
    refine XS.iconst X0.here hx rfl (hb hby at_1) ?_
    show Steps p.tables e below (s₁.setTop (mkF m 2 #[.val (.int pi), .val (.int q), .unset, .unset, .unset, .unset, .unset, .unset, .unset, .unset, .unset] [(.int (1 : Int32)), (.int pi)])) _
    refine XS.iand X0.here hx rfl (hb hby at_2) rfl ?_
    show Steps p.tables e below (s₁.setTop (mkF m 3 #[.val (.int pi), .val (.int q), .unset, .unset, .unset, .unset, .unset, .unset, .unset, .unset, .unset] [(.int (pi &&& (1 : Int32)))])) _
    refine XS.ifYes X0.here hx rfl (pc0 := 3) (pc' := 10) rfl (hb hby at_3) rfl ((if0 _ _).trans (teq (hc3 : (pi &&& (1 : Int32)) = (0 : Int32))).1) (by decide) (by decide) ?_
    show Steps p.tables e below (s₁.setTop (mkF m 10 #[.val (.int pi), .val (.int q), .unset, .unset, .unset, .unset, .unset, .unset, .unset, .unset, .unset] [])) _
    refine XS.iconst X0.here hx rfl (hb hby at_10) ?_
    show Steps p.tables e below (s₁.setTop (mkF m 11 #[.val (.int pi), .val (.int q), .unset, .unset, .unset, .unset, .unset, .unset, .unset, .unset, .unset] [(.int (0 : Int32))])) _
    refine XS.istoreN X0.here hx rfl (hb hby at_11) rfl (l' := #[.val (.int pi), .val (.int q), .val (.int (0 : Int32)), .unset, .unset, .unset, .unset, .unset, .unset, .unset, .unset]) rfl ?_
    show Steps p.tables e below (s₁.setTop (mkF m 12 #[.val (.int pi), .val (.int q), .val (.int (0 : Int32)), .unset, .unset, .unset, .unset, .unset, .unset, .unset, .unset] [])) _
    refine XS.iloadN X0.here hx rfl (hb hby at_12) rfl ?_
    show Steps p.tables e below (s₁.setTop (mkF m 13 #[.val (.int pi), .val (.int q), .val (.int (0 : Int32)), .unset, .unset, .unset, .unset, .unset, .unset, .unset, .unset] [(.int q)])) _
    refine XS.iconst X0.here hx rfl (hb hby at_13) ?_
    show Steps p.tables e below (s₁.setTop (mkF m 14 #[.val (.int pi), .val (.int q), .val (.int (0 : Int32)), .unset, .unset, .unset, .unset, .unset, .unset, .unset, .unset] [(.int (1 : Int32)), (.int q)])) _
    refine XS.iand X0.here hx rfl (hb hby at_14) rfl ?_
    show Steps p.tables e below (s₁.setTop (mkF m 15 #[.val (.int pi), .val (.int q), .val (.int (0 : Int32)), .unset, .unset, .unset, .unset, .unset, .unset, .unset, .unset] [(.int (q &&& (1 : Int32)))])) _
    refine XS.ifNo X0.here hx rfl (hb hby at_15) rfl ((if0 _ _).trans (feq (hc15 : ¬ ((q &&& (1 : Int32)) = (0 : Int32)))).1) ?_
    show Steps p.tables e below (s₁.setTop (mkF m 18 #[.val (.int pi), .val (.int q), .val (.int (0 : Int32)), .unset, .unset, .unset, .unset, .unset, .unset, .unset, .unset] [])) _
    refine XS.iconst X0.here hx rfl (hb hby at_18) ?_
    show Steps p.tables e below (s₁.setTop (mkF m 19 #[.val (.int pi), .val (.int q), .val (.int (0 : Int32)), .unset, .unset, .unset, .unset, .unset, .unset, .unset, .unset] [(.int (1 : Int32))])) _
    refine XS.goto X0.here hx rfl (pc0 := 19) (pc' := 23) rfl (hb hby at_19) (by decide) (by decide) ?_
    show Steps p.tables e below (s₁.setTop (mkF m 23 #[.val (.int pi), .val (.int q), .val (.int (0 : Int32)), .unset, .unset, .unset, .unset, .unset, .unset, .unset, .unset] [(.int (1 : Int32))])) _
    refine XS.istoreN X0.here hx rfl (hb hby at_23) rfl (l' := #[.val (.int pi), .val (.int q), .val (.int (0 : Int32)), .val (.int (1 : Int32)), .unset, .unset, .unset, .unset, .unset, .unset, .unset]) rfl ?_
    show Steps p.tables e below (s₁.setTop (mkF m 24 #[.val (.int pi), .val (.int q), .val (.int (0 : Int32)), .val (.int (1 : Int32)), .unset, .unset, .unset, .unset, .unset, .unset, .unset] [])) _
    refine XS.iloadN X0.here hx rfl (hb hby at_24) rfl ?_
    show Steps p.tables e below (s₁.setTop (mkF m 25 #[.val (.int pi), .val (.int q), .val (.int (0 : Int32)), .val (.int (1 : Int32)), .unset, .unset, .unset, .unset, .unset, .unset, .unset] [(.int (0 : Int32))])) _
    refine st1 _ ?_
    show Steps p.tables e below (T1.setTop (mkF m 28 #[.val (.int pi), .val (.int q), .val (.int (0 : Int32)), .val (.int (1 : Int32)), .unset, .unset, .unset, .unset, .unset, .unset, .unset] [(.ref wF)])) _
    refine XS.astore X1.here hx rfl (hb hby at_28) rfl rfl (l' := #[.val (.int pi), .val (.int q), .val (.int (0 : Int32)), .val (.int (1 : Int32)), .val (.ref wF), .unset, .unset, .unset, .unset, .unset, .unset]) rfl ?_
    show Steps p.tables e below (T1.setTop (mkF m 30 #[.val (.int pi), .val (.int q), .val (.int (0 : Int32)), .val (.int (1 : Int32)), .val (.ref wF), .unset, .unset, .unset, .unset, .unset, .unset] [])) _
    refine XS.iloadN X1.here hx rfl (hb hby at_30) rfl ?_
    show Steps p.tables e below (T1.setTop (mkF m 31 #[.val (.int pi), .val (.int q), .val (.int (0 : Int32)), .val (.int (1 : Int32)), .val (.ref wF), .unset, .unset, .unset, .unset, .unset, .unset] [(.int (1 : Int32))])) _
    refine st2 _ ?_
    show Steps p.tables e below (T2.setTop (mkF m 34 #[.val (.int pi), .val (.int q), .val (.int (0 : Int32)), .val (.int (1 : Int32)), .val (.ref wF), .unset, .unset, .unset, .unset, .unset, .unset] [(.ref wT)])) _
    refine XS.astore X2.here hx rfl (hb hby at_34) rfl rfl (l' := #[.val (.int pi), .val (.int q), .val (.int (0 : Int32)), .val (.int (1 : Int32)), .val (.ref wF), .val (.ref wT), .unset, .unset, .unset, .unset, .unset]) rfl ?_
    show Steps p.tables e below (T2.setTop (mkF m 36 #[.val (.int pi), .val (.int q), .val (.int (0 : Int32)), .val (.int (1 : Int32)), .val (.ref wF), .val (.ref wT), .unset, .unset, .unset, .unset, .unset] [])) _
    refine XS.aload X2.here hx rfl (hb hby at_36) rfl rfl ?_
    show Steps p.tables e below (T2.setTop (mkF m 38 #[.val (.int pi), .val (.int q), .val (.int (0 : Int32)), .val (.int (1 : Int32)), .val (.ref wF), .val (.ref wT), .unset, .unset, .unset, .unset, .unset] [(.ref wF)])) _
    refine XS.iloadN X2.here hx rfl (hb hby at_38) rfl ?_
    show Steps p.tables e below (T2.setTop (mkF m 39 #[.val (.int pi), .val (.int q), .val (.int (0 : Int32)), .val (.int (1 : Int32)), .val (.ref wF), .val (.ref wT), .unset, .unset, .unset, .unset, .unset] [(.int (0 : Int32)), (.ref wF)])) _
    refine XS.ifYes X2.here hx rfl (pc0 := 39) (pc' := 48) rfl (hb hby at_39) rfl ((if0 _ _).trans (teq (by decide : (0 : Int32) = (0 : Int32))).1) (by decide) (by decide) ?_
    show Steps p.tables e below (T2.setTop (mkF m 48 #[.val (.int pi), .val (.int q), .val (.int (0 : Int32)), .val (.int (1 : Int32)), .val (.ref wF), .val (.ref wT), .unset, .unset, .unset, .unset, .unset] [(.ref wF)])) _
    refine st3 _ ?_
    show Steps p.tables e below (T3.setTop (mkF m 51 #[.val (.int pi), .val (.int q), .val (.int (0 : Int32)), .val (.int (1 : Int32)), .val (.ref wF), .val (.ref wT), .unset, .unset, .unset, .unset, .unset] [(.ref wF), (.ref wF)])) _
    refine Jvm.RoadKit.acmp (g := (mkF m 51 #[.val (.int pi), .val (.int q), .val (.int (0 : Int32)), .val (.int (1 : Int32)), .val (.ref wF), .val (.ref wT), .unset, .unset, .unset, .unset, .unset] [(.ref wF), (.ref wF)])) X3 hx rfl rfl rfl (pc0 := 51) (pc' := 54) (same := true) rfl (hb hby at_51) rfl (decide_eq_true rfl) (by decide) (by decide) ?_
    show Steps p.tables e below (T3.setTop (mkF m 54 #[.val (.int pi), .val (.int q), .val (.int (0 : Int32)), .val (.int (1 : Int32)), .val (.ref wF), .val (.ref wT), .unset, .unset, .unset, .unset, .unset] [])) _
    refine XS.aload X3.here hx rfl (hb hby at_54) rfl rfl ?_
    show Steps p.tables e below (T3.setTop (mkF m 56 #[.val (.int pi), .val (.int q), .val (.int (0 : Int32)), .val (.int (1 : Int32)), .val (.ref wF), .val (.ref wT), .unset, .unset, .unset, .unset, .unset] [(.ref wT)])) _
    refine XS.iloadN X3.here hx rfl (hb hby at_56) rfl ?_
    show Steps p.tables e below (T3.setTop (mkF m 57 #[.val (.int pi), .val (.int q), .val (.int (0 : Int32)), .val (.int (1 : Int32)), .val (.ref wF), .val (.ref wT), .unset, .unset, .unset, .unset, .unset] [(.int (1 : Int32)), (.ref wT)])) _
    refine XS.ifNo X3.here hx rfl (hb hby at_57) rfl ((if0 _ _).trans (feq (by decide : ¬ ((1 : Int32) = (0 : Int32)))).1) ?_
    show Steps p.tables e below (T3.setTop (mkF m 60 #[.val (.int pi), .val (.int q), .val (.int (0 : Int32)), .val (.int (1 : Int32)), .val (.ref wF), .val (.ref wT), .unset, .unset, .unset, .unset, .unset] [(.ref wT)])) _
    refine st4 _ ?_
    show Steps p.tables e below (T4.setTop (mkF m 63 #[.val (.int pi), .val (.int q), .val (.int (0 : Int32)), .val (.int (1 : Int32)), .val (.ref wF), .val (.ref wT), .unset, .unset, .unset, .unset, .unset] [(.ref wT), (.ref wT)])) _
    refine XS.goto X4.here hx rfl (pc0 := 63) (pc' := 69) rfl (hb hby at_63) (by decide) (by decide) ?_
    show Steps p.tables e below (T4.setTop (mkF m 69 #[.val (.int pi), .val (.int q), .val (.int (0 : Int32)), .val (.int (1 : Int32)), .val (.ref wF), .val (.ref wT), .unset, .unset, .unset, .unset, .unset] [(.ref wT), (.ref wT)])) _
    refine Jvm.RoadKit.acmp (g := (mkF m 69 #[.val (.int pi), .val (.int q), .val (.int (0 : Int32)), .val (.int (1 : Int32)), .val (.ref wF), .val (.ref wT), .unset, .unset, .unset, .unset, .unset] [(.ref wT), (.ref wT)])) X4 hx rfl rfl rfl (pc0 := 69) (pc' := 72) (same := true) rfl (hb hby at_69) rfl (decide_eq_true rfl) (by decide) (by decide) ?_
    show Steps p.tables e below (T4.setTop (mkF m 72 #[.val (.int pi), .val (.int q), .val (.int (0 : Int32)), .val (.int (1 : Int32)), .val (.ref wF), .val (.ref wT), .unset, .unset, .unset, .unset, .unset] [])) _
    refine XS.iconst X4.here hx rfl (hb hby at_72) ?_
    show Steps p.tables e below (T4.setTop (mkF m 73 #[.val (.int pi), .val (.int q), .val (.int (0 : Int32)), .val (.int (1 : Int32)), .val (.ref wF), .val (.ref wT), .unset, .unset, .unset, .unset, .unset] [(.int (1 : Int32))])) _
    refine XS.goto X4.here hx rfl (pc0 := 73) (pc' := 77) rfl (hb hby at_73) (by decide) (by decide) ?_
    show Steps p.tables e below (T4.setTop (mkF m 77 #[.val (.int pi), .val (.int q), .val (.int (0 : Int32)), .val (.int (1 : Int32)), .val (.ref wF), .val (.ref wT), .unset, .unset, .unset, .unset, .unset] [(.int (1 : Int32))])) _
    refine XS.istore X4.here hx rfl (hb hby at_77) rfl (l' := #[.val (.int pi), .val (.int q), .val (.int (0 : Int32)), .val (.int (1 : Int32)), .val (.ref wF), .val (.ref wT), .val (.int (1 : Int32)), .unset, .unset, .unset, .unset]) rfl ?_
    show Steps p.tables e below (T4.setTop (mkF m 79 #[.val (.int pi), .val (.int q), .val (.int (0 : Int32)), .val (.int (1 : Int32)), .val (.ref wF), .val (.ref wT), .val (.int (1 : Int32)), .unset, .unset, .unset, .unset] [])) _
    refine XS.aload X4.here hx rfl (hb hby at_79) rfl rfl ?_
    show Steps p.tables e below (T4.setTop (mkF m 81 #[.val (.int pi), .val (.int q), .val (.int (0 : Int32)), .val (.int (1 : Int32)), .val (.ref wF), .val (.ref wT), .val (.int (1 : Int32)), .unset, .unset, .unset, .unset] [(.ref wF)])) _
    refine st5 _ ?_
    show Steps p.tables e below (T5.setTop (mkF m 84 #[.val (.int pi), .val (.int q), .val (.int (0 : Int32)), .val (.int (1 : Int32)), .val (.ref wF), .val (.ref wT), .val (.int (1 : Int32)), .unset, .unset, .unset, .unset] [(.ref wU), (.ref wF)])) _
    refine Jvm.RoadKit.acmp (g := (mkF m 84 #[.val (.int pi), .val (.int q), .val (.int (0 : Int32)), .val (.int (1 : Int32)), .val (.ref wF), .val (.ref wT), .val (.int (1 : Int32)), .unset, .unset, .unset, .unset] [(.ref wU), (.ref wF)])) X5 hx rfl rfl rfl (pc0 := 84) (pc' := 87) (same := false) rfl (hb hby at_84) rfl (decide_eq_false fun q => nF (Value.ref.inj q)) (by decide) (by decide) ?_
    show Steps p.tables e below (T5.setTop (mkF m 87 #[.val (.int pi), .val (.int q), .val (.int (0 : Int32)), .val (.int (1 : Int32)), .val (.ref wF), .val (.ref wT), .val (.int (1 : Int32)), .unset, .unset, .unset, .unset] [])) _
    refine XS.aload X5.here hx rfl (hb hby at_87) rfl rfl ?_
    show Steps p.tables e below (T5.setTop (mkF m 89 #[.val (.int pi), .val (.int q), .val (.int (0 : Int32)), .val (.int (1 : Int32)), .val (.ref wF), .val (.ref wT), .val (.int (1 : Int32)), .unset, .unset, .unset, .unset] [(.ref wT)])) _
    refine st6 _ ?_
    show Steps p.tables e below (T6.setTop (mkF m 92 #[.val (.int pi), .val (.int q), .val (.int (0 : Int32)), .val (.int (1 : Int32)), .val (.ref wF), .val (.ref wT), .val (.int (1 : Int32)), .unset, .unset, .unset, .unset] [(.ref wU), (.ref wT)])) _
    refine Jvm.RoadKit.acmp (g := (mkF m 92 #[.val (.int pi), .val (.int q), .val (.int (0 : Int32)), .val (.int (1 : Int32)), .val (.ref wF), .val (.ref wT), .val (.int (1 : Int32)), .unset, .unset, .unset, .unset] [(.ref wU), (.ref wT)])) X6 hx rfl rfl rfl (pc0 := 92) (pc' := 95) (same := false) rfl (hb hby at_92) rfl (decide_eq_false fun q => nT (Value.ref.inj q)) (by decide) (by decide) ?_
    show Steps p.tables e below (T6.setTop (mkF m 95 #[.val (.int pi), .val (.int q), .val (.int (0 : Int32)), .val (.int (1 : Int32)), .val (.ref wF), .val (.ref wT), .val (.int (1 : Int32)), .unset, .unset, .unset, .unset] [])) _
    refine XS.iconst X6.here hx rfl (hb hby at_95) ?_
    show Steps p.tables e below (T6.setTop (mkF m 96 #[.val (.int pi), .val (.int q), .val (.int (0 : Int32)), .val (.int (1 : Int32)), .val (.ref wF), .val (.ref wT), .val (.int (1 : Int32)), .unset, .unset, .unset, .unset] [(.int (1 : Int32))])) _
    refine XS.goto X6.here hx rfl (pc0 := 96) (pc' := 100) rfl (hb hby at_96) (by decide) (by decide) ?_
    show Steps p.tables e below (T6.setTop (mkF m 100 #[.val (.int pi), .val (.int q), .val (.int (0 : Int32)), .val (.int (1 : Int32)), .val (.ref wF), .val (.ref wT), .val (.int (1 : Int32)), .unset, .unset, .unset, .unset] [(.int (1 : Int32))])) _
    refine XS.istore X6.here hx rfl (hb hby at_100) rfl (l' := #[.val (.int pi), .val (.int q), .val (.int (0 : Int32)), .val (.int (1 : Int32)), .val (.ref wF), .val (.ref wT), .val (.int (1 : Int32)), .val (.int (1 : Int32)), .unset, .unset, .unset]) rfl ?_
    show Steps p.tables e below (T6.setTop (mkF m 102 #[.val (.int pi), .val (.int q), .val (.int (0 : Int32)), .val (.int (1 : Int32)), .val (.ref wF), .val (.ref wT), .val (.int (1 : Int32)), .val (.int (1 : Int32)), .unset, .unset, .unset] [])) _
    refine XS.aload X6.here hx rfl (hb hby at_102) rfl rfl ?_
    show Steps p.tables e below (T6.setTop (mkF m 104 #[.val (.int pi), .val (.int q), .val (.int (0 : Int32)), .val (.int (1 : Int32)), .val (.ref wF), .val (.ref wT), .val (.int (1 : Int32)), .val (.int (1 : Int32)), .unset, .unset, .unset] [(.ref wF)])) _
    refine st7.trans ?_
    show Steps p.tables e below (T7.setTop (mkF m 107 #[.val (.int pi), .val (.int q), .val (.int (0 : Int32)), .val (.int (1 : Int32)), .val (.ref wF), .val (.ref wT), .val (.int (1 : Int32)), .val (.int (1 : Int32)), .unset, .unset, .unset] [(.ref wT)])) _
    refine XS.iloadN X7.here hx rfl (hb hby at_107) rfl ?_
    show Steps p.tables e below (T7.setTop (mkF m 108 #[.val (.int pi), .val (.int q), .val (.int (0 : Int32)), .val (.int (1 : Int32)), .val (.ref wF), .val (.ref wT), .val (.int (1 : Int32)), .val (.int (1 : Int32)), .unset, .unset, .unset] [(.int (0 : Int32)), (.ref wT)])) _
    refine XS.ifNo X7.here hx rfl (hb hby at_108) rfl ((if0 _ _).trans (teq (by decide : (0 : Int32) = (0 : Int32))).2) ?_
    show Steps p.tables e below (T7.setTop (mkF m 111 #[.val (.int pi), .val (.int q), .val (.int (0 : Int32)), .val (.int (1 : Int32)), .val (.ref wF), .val (.ref wT), .val (.int (1 : Int32)), .val (.int (1 : Int32)), .unset, .unset, .unset] [(.ref wT)])) _
    refine XS.iconst X7.here hx rfl (hb hby at_111) ?_
    show Steps p.tables e below (T7.setTop (mkF m 112 #[.val (.int pi), .val (.int q), .val (.int (0 : Int32)), .val (.int (1 : Int32)), .val (.ref wF), .val (.ref wT), .val (.int (1 : Int32)), .val (.int (1 : Int32)), .unset, .unset, .unset] [(.int (1 : Int32)), (.ref wT)])) _
    refine XS.goto X7.here hx rfl (pc0 := 112) (pc' := 116) rfl (hb hby at_112) (by decide) (by decide) ?_
    show Steps p.tables e below (T7.setTop (mkF m 116 #[.val (.int pi), .val (.int q), .val (.int (0 : Int32)), .val (.int (1 : Int32)), .val (.ref wF), .val (.ref wT), .val (.int (1 : Int32)), .val (.int (1 : Int32)), .unset, .unset, .unset] [(.int (1 : Int32)), (.ref wT)])) _
    refine st8 _ ?_
    show Steps p.tables e below (T8.setTop (mkF m 119 #[.val (.int pi), .val (.int q), .val (.int (0 : Int32)), .val (.int (1 : Int32)), .val (.ref wF), .val (.ref wT), .val (.int (1 : Int32)), .val (.int (1 : Int32)), .unset, .unset, .unset] [(.ref wT), (.ref wT)])) _
    refine Jvm.RoadKit.acmp (g := (mkF m 119 #[.val (.int pi), .val (.int q), .val (.int (0 : Int32)), .val (.int (1 : Int32)), .val (.ref wF), .val (.ref wT), .val (.int (1 : Int32)), .val (.int (1 : Int32)), .unset, .unset, .unset] [(.ref wT), (.ref wT)])) X8 hx rfl rfl rfl (pc0 := 119) (pc' := 122) (same := true) rfl (hb hby at_119) rfl (decide_eq_true rfl) (by decide) (by decide) ?_
    show Steps p.tables e below (T8.setTop (mkF m 122 #[.val (.int pi), .val (.int q), .val (.int (0 : Int32)), .val (.int (1 : Int32)), .val (.ref wF), .val (.ref wT), .val (.int (1 : Int32)), .val (.int (1 : Int32)), .unset, .unset, .unset] [])) _
    refine XS.iconst X8.here hx rfl (hb hby at_122) ?_
    show Steps p.tables e below (T8.setTop (mkF m 123 #[.val (.int pi), .val (.int q), .val (.int (0 : Int32)), .val (.int (1 : Int32)), .val (.ref wF), .val (.ref wT), .val (.int (1 : Int32)), .val (.int (1 : Int32)), .unset, .unset, .unset] [(.int (1 : Int32))])) _
    refine XS.goto X8.here hx rfl (pc0 := 123) (pc' := 127) rfl (hb hby at_123) (by decide) (by decide) ?_
    show Steps p.tables e below (T8.setTop (mkF m 127 #[.val (.int pi), .val (.int q), .val (.int (0 : Int32)), .val (.int (1 : Int32)), .val (.ref wF), .val (.ref wT), .val (.int (1 : Int32)), .val (.int (1 : Int32)), .unset, .unset, .unset] [(.int (1 : Int32))])) _
    refine XS.istore X8.here hx rfl (hb hby at_127) rfl (l' := #[.val (.int pi), .val (.int q), .val (.int (0 : Int32)), .val (.int (1 : Int32)), .val (.ref wF), .val (.ref wT), .val (.int (1 : Int32)), .val (.int (1 : Int32)), .val (.int (1 : Int32)), .unset, .unset]) rfl ?_
    show Steps p.tables e below (T8.setTop (mkF m 129 #[.val (.int pi), .val (.int q), .val (.int (0 : Int32)), .val (.int (1 : Int32)), .val (.ref wF), .val (.ref wT), .val (.int (1 : Int32)), .val (.int (1 : Int32)), .val (.int (1 : Int32)), .unset, .unset] [])) _
    refine XS.aload X8.here hx rfl (hb hby at_129) rfl rfl ?_
    show Steps p.tables e below (T8.setTop (mkF m 131 #[.val (.int pi), .val (.int q), .val (.int (0 : Int32)), .val (.int (1 : Int32)), .val (.ref wF), .val (.ref wT), .val (.int (1 : Int32)), .val (.int (1 : Int32)), .val (.int (1 : Int32)), .unset, .unset] [(.ref wF)])) _
    refine XS.aload X8.here hx rfl (hb hby at_131) rfl rfl ?_
    show Steps p.tables e below (T8.setTop (mkF m 133 #[.val (.int pi), .val (.int q), .val (.int (0 : Int32)), .val (.int (1 : Int32)), .val (.ref wF), .val (.ref wT), .val (.int (1 : Int32)), .val (.int (1 : Int32)), .val (.int (1 : Int32)), .unset, .unset] [(.ref wT), (.ref wF)])) _
    refine st9.trans ?_
    show Steps p.tables e below (T9.setTop (mkF m 136 #[.val (.int pi), .val (.int q), .val (.int (0 : Int32)), .val (.int (1 : Int32)), .val (.ref wF), .val (.ref wT), .val (.int (1 : Int32)), .val (.int (1 : Int32)), .val (.int (1 : Int32)), .unset, .unset] [(.ref wF)])) _
    refine XS.iloadN X9.here hx rfl (hb hby at_136) rfl ?_
    show Steps p.tables e below (T9.setTop (mkF m 137 #[.val (.int pi), .val (.int q), .val (.int (0 : Int32)), .val (.int (1 : Int32)), .val (.ref wF), .val (.ref wT), .val (.int (1 : Int32)), .val (.int (1 : Int32)), .val (.int (1 : Int32)), .unset, .unset] [(.int (0 : Int32)), (.ref wF)])) _
    refine XS.ifYes X9.here hx rfl (pc0 := 137) (pc' := 148) rfl (hb hby at_137) rfl ((if0 _ _).trans (teq (by decide : (0 : Int32) = (0 : Int32))).1) (by decide) (by decide) ?_
    show Steps p.tables e below (T9.setTop (mkF m 148 #[.val (.int pi), .val (.int q), .val (.int (0 : Int32)), .val (.int (1 : Int32)), .val (.ref wF), .val (.ref wT), .val (.int (1 : Int32)), .val (.int (1 : Int32)), .val (.int (1 : Int32)), .unset, .unset] [(.ref wF)])) _
    refine XS.iconst X9.here hx rfl (hb hby at_148) ?_
    show Steps p.tables e below (T9.setTop (mkF m 149 #[.val (.int pi), .val (.int q), .val (.int (0 : Int32)), .val (.int (1 : Int32)), .val (.ref wF), .val (.ref wT), .val (.int (1 : Int32)), .val (.int (1 : Int32)), .val (.int (1 : Int32)), .unset, .unset] [(.int (0 : Int32)), (.ref wF)])) _
    refine st10 _ ?_
    show Steps p.tables e below (T10.setTop (mkF m 152 #[.val (.int pi), .val (.int q), .val (.int (0 : Int32)), .val (.int (1 : Int32)), .val (.ref wF), .val (.ref wT), .val (.int (1 : Int32)), .val (.int (1 : Int32)), .val (.int (1 : Int32)), .unset, .unset] [(.ref wF), (.ref wF)])) _
    refine Jvm.RoadKit.acmp (g := (mkF m 152 #[.val (.int pi), .val (.int q), .val (.int (0 : Int32)), .val (.int (1 : Int32)), .val (.ref wF), .val (.ref wT), .val (.int (1 : Int32)), .val (.int (1 : Int32)), .val (.int (1 : Int32)), .unset, .unset] [(.ref wF), (.ref wF)])) X10 hx rfl rfl rfl (pc0 := 152) (pc' := 155) (same := true) rfl (hb hby at_152) rfl (decide_eq_true rfl) (by decide) (by decide) ?_
    show Steps p.tables e below (T10.setTop (mkF m 155 #[.val (.int pi), .val (.int q), .val (.int (0 : Int32)), .val (.int (1 : Int32)), .val (.ref wF), .val (.ref wT), .val (.int (1 : Int32)), .val (.int (1 : Int32)), .val (.int (1 : Int32)), .unset, .unset] [])) _
    refine XS.iconst X10.here hx rfl (hb hby at_155) ?_
    show Steps p.tables e below (T10.setTop (mkF m 156 #[.val (.int pi), .val (.int q), .val (.int (0 : Int32)), .val (.int (1 : Int32)), .val (.ref wF), .val (.ref wT), .val (.int (1 : Int32)), .val (.int (1 : Int32)), .val (.int (1 : Int32)), .unset, .unset] [(.int (1 : Int32))])) _
    refine XS.goto X10.here hx rfl (pc0 := 156) (pc' := 160) rfl (hb hby at_156) (by decide) (by decide) ?_
    show Steps p.tables e below (T10.setTop (mkF m 160 #[.val (.int pi), .val (.int q), .val (.int (0 : Int32)), .val (.int (1 : Int32)), .val (.ref wF), .val (.ref wT), .val (.int (1 : Int32)), .val (.int (1 : Int32)), .val (.int (1 : Int32)), .unset, .unset] [(.int (1 : Int32))])) _
    refine XS.istore X10.here hx rfl (hb hby at_160) rfl (l' := #[.val (.int pi), .val (.int q), .val (.int (0 : Int32)), .val (.int (1 : Int32)), .val (.ref wF), .val (.ref wT), .val (.int (1 : Int32)), .val (.int (1 : Int32)), .val (.int (1 : Int32)), .val (.int (1 : Int32)), .unset]) rfl ?_
    show Steps p.tables e below (T10.setTop (mkF m 162 #[.val (.int pi), .val (.int q), .val (.int (0 : Int32)), .val (.int (1 : Int32)), .val (.ref wF), .val (.ref wT), .val (.int (1 : Int32)), .val (.int (1 : Int32)), .val (.int (1 : Int32)), .val (.int (1 : Int32)), .unset] [])) _
    refine XS.aload X10.here hx rfl (hb hby at_162) rfl rfl ?_
    show Steps p.tables e below (T10.setTop (mkF m 164 #[.val (.int pi), .val (.int q), .val (.int (0 : Int32)), .val (.int (1 : Int32)), .val (.ref wF), .val (.ref wT), .val (.int (1 : Int32)), .val (.int (1 : Int32)), .val (.int (1 : Int32)), .val (.int (1 : Int32)), .unset] [(.ref wF)])) _
    refine XS.aload X10.here hx rfl (hb hby at_164) rfl rfl ?_
    show Steps p.tables e below (T10.setTop (mkF m 166 #[.val (.int pi), .val (.int q), .val (.int (0 : Int32)), .val (.int (1 : Int32)), .val (.ref wF), .val (.ref wT), .val (.int (1 : Int32)), .val (.int (1 : Int32)), .val (.int (1 : Int32)), .val (.int (1 : Int32)), .unset] [(.ref wT), (.ref wF)])) _
    refine st11.trans ?_
    show Steps p.tables e below (T11.setTop (mkF m 169 #[.val (.int pi), .val (.int q), .val (.int (0 : Int32)), .val (.int (1 : Int32)), .val (.ref wF), .val (.ref wT), .val (.int (1 : Int32)), .val (.int (1 : Int32)), .val (.int (1 : Int32)), .val (.int (1 : Int32)), .unset] [(.ref wT)])) _
    refine XS.iloadN X11.here hx rfl (hb hby at_169) rfl ?_
    show Steps p.tables e below (T11.setTop (mkF m 170 #[.val (.int pi), .val (.int q), .val (.int (0 : Int32)), .val (.int (1 : Int32)), .val (.ref wF), .val (.ref wT), .val (.int (1 : Int32)), .val (.int (1 : Int32)), .val (.int (1 : Int32)), .val (.int (1 : Int32)), .unset] [(.int (0 : Int32)), (.ref wT)])) _
    refine XS.ifNo X11.here hx rfl (hb hby at_170) rfl ((if0 _ _).trans (teq (by decide : (0 : Int32) = (0 : Int32))).2) ?_
    show Steps p.tables e below (T11.setTop (mkF m 173 #[.val (.int pi), .val (.int q), .val (.int (0 : Int32)), .val (.int (1 : Int32)), .val (.ref wF), .val (.ref wT), .val (.int (1 : Int32)), .val (.int (1 : Int32)), .val (.int (1 : Int32)), .val (.int (1 : Int32)), .unset] [(.ref wT)])) _
    refine XS.iloadN X11.here hx rfl (hb hby at_173) rfl ?_
    show Steps p.tables e below (T11.setTop (mkF m 174 #[.val (.int pi), .val (.int q), .val (.int (0 : Int32)), .val (.int (1 : Int32)), .val (.ref wF), .val (.ref wT), .val (.int (1 : Int32)), .val (.int (1 : Int32)), .val (.int (1 : Int32)), .val (.int (1 : Int32)), .unset] [(.int (1 : Int32)), (.ref wT)])) _
    refine XS.ifNo X11.here hx rfl (hb hby at_174) rfl ((if0 _ _).trans (feq (by decide : ¬ ((1 : Int32) = (0 : Int32)))).1) ?_
    show Steps p.tables e below (T11.setTop (mkF m 177 #[.val (.int pi), .val (.int q), .val (.int (0 : Int32)), .val (.int (1 : Int32)), .val (.ref wF), .val (.ref wT), .val (.int (1 : Int32)), .val (.int (1 : Int32)), .val (.int (1 : Int32)), .val (.int (1 : Int32)), .unset] [(.ref wT)])) _
    refine XS.iconst X11.here hx rfl (hb hby at_177) ?_
    show Steps p.tables e below (T11.setTop (mkF m 178 #[.val (.int pi), .val (.int q), .val (.int (0 : Int32)), .val (.int (1 : Int32)), .val (.ref wF), .val (.ref wT), .val (.int (1 : Int32)), .val (.int (1 : Int32)), .val (.int (1 : Int32)), .val (.int (1 : Int32)), .unset] [(.int (1 : Int32)), (.ref wT)])) _
    refine XS.goto X11.here hx rfl (pc0 := 178) (pc' := 182) rfl (hb hby at_178) (by decide) (by decide) ?_
    show Steps p.tables e below (T11.setTop (mkF m 182 #[.val (.int pi), .val (.int q), .val (.int (0 : Int32)), .val (.int (1 : Int32)), .val (.ref wF), .val (.ref wT), .val (.int (1 : Int32)), .val (.int (1 : Int32)), .val (.int (1 : Int32)), .val (.int (1 : Int32)), .unset] [(.int (1 : Int32)), (.ref wT)])) _
    refine st12 _ ?_
    show Steps p.tables e below (T12.setTop (mkF m 185 #[.val (.int pi), .val (.int q), .val (.int (0 : Int32)), .val (.int (1 : Int32)), .val (.ref wF), .val (.ref wT), .val (.int (1 : Int32)), .val (.int (1 : Int32)), .val (.int (1 : Int32)), .val (.int (1 : Int32)), .unset] [(.ref wT), (.ref wT)])) _
    refine Jvm.RoadKit.acmp (g := (mkF m 185 #[.val (.int pi), .val (.int q), .val (.int (0 : Int32)), .val (.int (1 : Int32)), .val (.ref wF), .val (.ref wT), .val (.int (1 : Int32)), .val (.int (1 : Int32)), .val (.int (1 : Int32)), .val (.int (1 : Int32)), .unset] [(.ref wT), (.ref wT)])) X12 hx rfl rfl rfl (pc0 := 185) (pc' := 188) (same := true) rfl (hb hby at_185) rfl (decide_eq_true rfl) (by decide) (by decide) ?_
    show Steps p.tables e below (T12.setTop (mkF m 188 #[.val (.int pi), .val (.int q), .val (.int (0 : Int32)), .val (.int (1 : Int32)), .val (.ref wF), .val (.ref wT), .val (.int (1 : Int32)), .val (.int (1 : Int32)), .val (.int (1 : Int32)), .val (.int (1 : Int32)), .unset] [])) _
    refine XS.iconst X12.here hx rfl (hb hby at_188) ?_
    show Steps p.tables e below (T12.setTop (mkF m 189 #[.val (.int pi), .val (.int q), .val (.int (0 : Int32)), .val (.int (1 : Int32)), .val (.ref wF), .val (.ref wT), .val (.int (1 : Int32)), .val (.int (1 : Int32)), .val (.int (1 : Int32)), .val (.int (1 : Int32)), .unset] [(.int (1 : Int32))])) _
    refine XS.goto X12.here hx rfl (pc0 := 189) (pc' := 193) rfl (hb hby at_189) (by decide) (by decide) ?_
    show Steps p.tables e below (T12.setTop (mkF m 193 #[.val (.int pi), .val (.int q), .val (.int (0 : Int32)), .val (.int (1 : Int32)), .val (.ref wF), .val (.ref wT), .val (.int (1 : Int32)), .val (.int (1 : Int32)), .val (.int (1 : Int32)), .val (.int (1 : Int32)), .unset] [(.int (1 : Int32))])) _
    refine XS.istore X12.here hx rfl (hb hby at_193) rfl (l' := #[.val (.int pi), .val (.int q), .val (.int (0 : Int32)), .val (.int (1 : Int32)), .val (.ref wF), .val (.ref wT), .val (.int (1 : Int32)), .val (.int (1 : Int32)), .val (.int (1 : Int32)), .val (.int (1 : Int32)), .val (.int (1 : Int32))]) rfl ?_
    show Steps p.tables e below (T12.setTop (mkF m 195 #[.val (.int pi), .val (.int q), .val (.int (0 : Int32)), .val (.int (1 : Int32)), .val (.ref wF), .val (.ref wT), .val (.int (1 : Int32)), .val (.int (1 : Int32)), .val (.int (1 : Int32)), .val (.int (1 : Int32)), .val (.int (1 : Int32))] [])) _
    refine XS.iload X12.here hx rfl (hb hby at_195) rfl ?_
    show Steps p.tables e below (T12.setTop (mkF m 197 #[.val (.int pi), .val (.int q), .val (.int (0 : Int32)), .val (.int (1 : Int32)), .val (.ref wF), .val (.ref wT), .val (.int (1 : Int32)), .val (.int (1 : Int32)), .val (.int (1 : Int32)), .val (.int (1 : Int32)), .val (.int (1 : Int32))] [(.int (1 : Int32))])) _
    refine XS.ifNo X12.here hx rfl (hb hby at_197) rfl ((if0 _ _).trans (feq (by decide : ¬ ((1 : Int32) = (0 : Int32)))).1) ?_
    show Steps p.tables e below (T12.setTop (mkF m 200 #[.val (.int pi), .val (.int q), .val (.int (0 : Int32)), .val (.int (1 : Int32)), .val (.ref wF), .val (.ref wT), .val (.int (1 : Int32)), .val (.int (1 : Int32)), .val (.int (1 : Int32)), .val (.int (1 : Int32)), .val (.int (1 : Int32))] [])) _
    refine XS.iload X12.here hx rfl (hb hby at_200) rfl ?_
    show Steps p.tables e below (T12.setTop (mkF m 202 #[.val (.int pi), .val (.int q), .val (.int (0 : Int32)), .val (.int (1 : Int32)), .val (.ref wF), .val (.ref wT), .val (.int (1 : Int32)), .val (.int (1 : Int32)), .val (.int (1 : Int32)), .val (.int (1 : Int32)), .val (.int (1 : Int32))] [(.int (1 : Int32))])) _
    refine XS.ifNo X12.here hx rfl (hb hby at_202) rfl ((if0 _ _).trans (feq (by decide : ¬ ((1 : Int32) = (0 : Int32)))).1) ?_
    show Steps p.tables e below (T12.setTop (mkF m 205 #[.val (.int pi), .val (.int q), .val (.int (0 : Int32)), .val (.int (1 : Int32)), .val (.ref wF), .val (.ref wT), .val (.int (1 : Int32)), .val (.int (1 : Int32)), .val (.int (1 : Int32)), .val (.int (1 : Int32)), .val (.int (1 : Int32))] [])) _
    refine XS.iload X12.here hx rfl (hb hby at_205) rfl ?_
    show Steps p.tables e below (T12.setTop (mkF m 207 #[.val (.int pi), .val (.int q), .val (.int (0 : Int32)), .val (.int (1 : Int32)), .val (.ref wF), .val (.ref wT), .val (.int (1 : Int32)), .val (.int (1 : Int32)), .val (.int (1 : Int32)), .val (.int (1 : Int32)), .val (.int (1 : Int32))] [(.int (1 : Int32))])) _
    refine XS.ifNo X12.here hx rfl (hb hby at_207) rfl ((if0 _ _).trans (feq (by decide : ¬ ((1 : Int32) = (0 : Int32)))).1) ?_
    show Steps p.tables e below (T12.setTop (mkF m 210 #[.val (.int pi), .val (.int q), .val (.int (0 : Int32)), .val (.int (1 : Int32)), .val (.ref wF), .val (.ref wT), .val (.int (1 : Int32)), .val (.int (1 : Int32)), .val (.int (1 : Int32)), .val (.int (1 : Int32)), .val (.int (1 : Int32))] [])) _
    refine XS.iload X12.here hx rfl (hb hby at_210) rfl ?_
    show Steps p.tables e below (T12.setTop (mkF m 212 #[.val (.int pi), .val (.int q), .val (.int (0 : Int32)), .val (.int (1 : Int32)), .val (.ref wF), .val (.ref wT), .val (.int (1 : Int32)), .val (.int (1 : Int32)), .val (.int (1 : Int32)), .val (.int (1 : Int32)), .val (.int (1 : Int32))] [(.int (1 : Int32))])) _
    refine XS.ifNo X12.here hx rfl (hb hby at_212) rfl ((if0 _ _).trans (feq (by decide : ¬ ((1 : Int32) = (0 : Int32)))).1) ?_
    show Steps p.tables e below (T12.setTop (mkF m 215 #[.val (.int pi), .val (.int q), .val (.int (0 : Int32)), .val (.int (1 : Int32)), .val (.ref wF), .val (.ref wT), .val (.int (1 : Int32)), .val (.int (1 : Int32)), .val (.int (1 : Int32)), .val (.int (1 : Int32)), .val (.int (1 : Int32))] [])) _
    refine XS.iload X12.here hx rfl (hb hby at_215) rfl ?_
    show Steps p.tables e below (T12.setTop (mkF m 217 #[.val (.int pi), .val (.int q), .val (.int (0 : Int32)), .val (.int (1 : Int32)), .val (.ref wF), .val (.ref wT), .val (.int (1 : Int32)), .val (.int (1 : Int32)), .val (.int (1 : Int32)), .val (.int (1 : Int32)), .val (.int (1 : Int32))] [(.int (1 : Int32))])) _
    refine XS.ifNo X12.here hx rfl (hb hby at_217) rfl ((if0 _ _).trans (feq (by decide : ¬ ((1 : Int32) = (0 : Int32)))).1) ?_
    show Steps p.tables e below (T12.setTop (mkF m 220 #[.val (.int pi), .val (.int q), .val (.int (0 : Int32)), .val (.int (1 : Int32)), .val (.ref wF), .val (.ref wT), .val (.int (1 : Int32)), .val (.int (1 : Int32)), .val (.int (1 : Int32)), .val (.int (1 : Int32)), .val (.int (1 : Int32))] [])) _
    refine XS.iconst X12.here hx rfl (hb hby at_220) ?_
    show Steps p.tables e below (T12.setTop (mkF m 221 #[.val (.int pi), .val (.int q), .val (.int (0 : Int32)), .val (.int (1 : Int32)), .val (.ref wF), .val (.ref wT), .val (.int (1 : Int32)), .val (.int (1 : Int32)), .val (.int (1 : Int32)), .val (.int (1 : Int32)), .val (.int (1 : Int32))] [(.int (1 : Int32))])) _
    refine XS.goto X12.here hx rfl (pc0 := 221) (pc' := 225) rfl (hb hby at_221) (by decide) (by decide) ?_
    show Steps p.tables e below (T12.setTop (mkF m 225 #[.val (.int pi), .val (.int q), .val (.int (0 : Int32)), .val (.int (1 : Int32)), .val (.ref wF), .val (.ref wT), .val (.int (1 : Int32)), .val (.int (1 : Int32)), .val (.int (1 : Int32)), .val (.int (1 : Int32)), .val (.int (1 : Int32))] [(.int (1 : Int32))])) _
    exact retN X12 hx (t := .boolean) Bd.returns (by simp) (hb hby at_225) hr
  · show Q_law Z pi q wF wT wU mr h0 n0 _ T12.heap _
    rw [kh12]
    exact ⟨rfl, N12⟩
set_option maxRecDepth 65536 in
set_option maxHeartbeats 40000000 in
theorem law_3 (l : Launch) (Z : State) (a0 : Array Value) (hw : ∀ d ∈ tables_1, d.before a0 Z = true) (ws : List Jvm.Cond) (pi : Int32) (q : Int32) (wF : Addr) (wT : Addr) (wU : Addr) (mr : Addr) (h0 : Heap) (n0 : Nat) (O0 : Old Z n0 h0) (G0 : Sta Z Z.heap "com/example/deposition/deposition/filter/Truth" "FALSE" "Lcom/example/deposition/deposition/filter/Truth;" (.ref wF)) (G1 : Sta Z Z.heap "com/example/deposition/deposition/filter/Truth" "TRUE" "Lcom/example/deposition/deposition/filter/Truth;" (.ref wT)) (G2 : Sta Z Z.heap "com/example/deposition/deposition/filter/Truth" "UNKNOWN" "Lcom/example/deposition/deposition/filter/Truth;" (.ref wU)) (G3 : Exa Z Z.heap wF "com/example/deposition/deposition/filter/Truth") (G4 : Exa Z Z.heap wT "com/example/deposition/deposition/filter/Truth") (G5 : Fld Z Z.heap wF "java/lang/Enum" "ordinal" "I" (.int (0 : Int32))) (G6 : Fld Z Z.heap wT "java/lang/Enum" "ordinal" "I" (.int (2 : Int32))) (MM : MirO Z "com/example/deposition/deposition/filter/Truth" mr) (nF : wF ≠ wU) (nT : wT ≠ wU) (hc3 : (pi &&& (1 : Int32)) = (0 : Int32)) (hc15 : (q &&& (1 : Int32)) = (0 : Int32)) :
    MetFree l x (head1 (Jvm.Cond.code x code maxLocals ret :: ws) room_1) (fun zA zU => zA = #[(.int pi), (.int q)] ∧ Z.Warmed39 zU.vm ∧ zU.heap = h0) (fun _ _ _ _ _ => True) (fun _ zU zo zU' => ∃ zv zL, zo = .returned zv ∧ Q_law Z pi q wF wT wU mr h0 n0 zv zU'.heap zL ∧ FrameEnd zU zo zU' zL room_1.cells room_1.slots) := by
  refine MetFree.of_bodySF (plainFor_of_name pn_9) hisR ?_
  intro p e s m args below meth c s₁ Bd hml0 hP hK
  obtain ⟨rfl, hZ, hh⟩ := hP
  have hx := Bd.exec
  have hby := Bd.bytes
  have hml : c.maxLocals = 11 := hml0
  have hown : s.vm.findClass "com/example/deposition/deposition/filter/TruthOfPinLaw" = some m.cls := findClass_of_methodNamed Bd.named
  have hnm := (name_of_methodNamed Bd.named Bd.method).1
  have X0 : Stand p l e room_1 s m #[(.int pi), (.int q)] below meth c s₁ [] 0 0 := Stand.of_body Bd
  have e0 : s₁.heap = h0 := by rw [← hh, Bd.state]; rfl
  have N0 := Fr.nil n0
  have Z0 : n0 ≤ h0.size := O0.1 ▸ O0.2.1
  have pre0 : ∀ zt, Steps p.tables e below (s₁.setTop (mkF m 0 #[.val (.int pi), .val (.int q), .unset, .unset, .unset, .unset, .unset, .unset, .unset, .unset, .unset] [])) zt → Steps p.tables e below (s₁.setTop (entryFrame m #[(.int pi), (.int q)] maxLocals)) zt := fun zt zk => castTop (ef_0_II m pi q) zk
  obtain ⟨_, _, ⟨T1, L1, k1, n1⟩, -, X1, ⟨Lc1, hQ1, l1, y1, z1⟩, st1⟩ := Jvm.LawKit.callS X0 hx (y := (⟨"com/example/deposition/deposition/filter/Truth", "of", "(Z)Lcom/example/deposition/deposition/filter/Truth;"⟩ : MethodName)) hown (mvT hZ (hw _ (List.mem_of_getElem? (i := 0) rfl))) (mvT hZ (hw _ (List.mem_of_getElem? (i := 1) rfl))) (mvT hZ (hw _ (List.mem_of_getElem? (i := 2) rfl))) (mvT hZ (hw _ (List.mem_of_getElem? (i := 3) rfl))) (by decide) (backOf (W := 0) (ofF l Z a0 hw [] wF h0 n0 O0 G0) hZ (hw _ (List.mem_of_getElem? (i := 3) rfl)) (hw _ (List.mem_of_getElem? (i := 2) rfl)) (by decide) (by decide)) (g := (mkF m 25 #[.val (.int pi), .val (.int q), .val (.int (0 : Int32)), .val (.int (0 : Int32)), .unset, .unset, .unset, .unset, .unset, .unset, .unset] [(.int (0 : Int32))])) rfl (by rw [hml]; rfl) (argsL := [(.int (0 : Int32))]) (rest := []) (lenOf pd_2 rfl) rfl (by show 2 * 0 + _ ≤ _; exact Nat.le_of_eq rfl) (hb hby at_25) (fun _ _ => ⟨rfl, e0, (by decide : 0 + 0 ≤ _), (by decide : 0 + 0 ≤ _)⟩)
  dsimp only [Pt.U, Pt.locs, Pt.cells, Pt.slots] at X1 l1 y1 z1 st1 hQ1
  subst l1 y1 z1
  obtain ⟨rfl, Nq1, kh1⟩ := hQ1
  have N1 := Fr.app N0 Nq1
  obtain ⟨_, _, ⟨T2, L2, k2, n2⟩, -, X2, ⟨Lc2, hQ2, l2, y2, z2⟩, st2⟩ := Jvm.LawKit.callS X1 hx (y := (⟨"com/example/deposition/deposition/filter/Truth", "of", "(Z)Lcom/example/deposition/deposition/filter/Truth;"⟩ : MethodName)) hown (mvT hZ (hw _ (List.mem_of_getElem? (i := 0) rfl))) (mvT hZ (hw _ (List.mem_of_getElem? (i := 1) rfl))) (mvT hZ (hw _ (List.mem_of_getElem? (i := 2) rfl))) (mvT hZ (hw _ (List.mem_of_getElem? (i := 3) rfl))) (by decide) (backOf (W := 0) (ofF l Z a0 hw [] wF h0 n0 O0 G0) hZ (hw _ (List.mem_of_getElem? (i := 3) rfl)) (hw _ (List.mem_of_getElem? (i := 2) rfl)) (by decide) (by decide)) (g := (mkF m 31 #[.val (.int pi), .val (.int q), .val (.int (0 : Int32)), .val (.int (0 : Int32)), .val (.ref wF), .unset, .unset, .unset, .unset, .unset, .unset] [(.int (0 : Int32))])) rfl (by rw [hml]; rfl) (argsL := [(.int (0 : Int32))]) (rest := []) (lenOf pd_2 rfl) rfl (by show 2 * 0 + _ ≤ _; exact Nat.le_of_eq rfl) (hb hby at_31) (fun _ _ => ⟨rfl, kh1, (by decide : 0 + 0 ≤ _), (by decide : 0 + 0 ≤ _)⟩)
  dsimp only [Pt.U, Pt.locs, Pt.cells, Pt.slots] at X2 l2 y2 z2 st2 hQ2
  subst l2 y2 z2
  obtain ⟨rfl, Nq2, kh2⟩ := hQ2
  have N2 := Fr.app N1 Nq2
  obtain ⟨T3, X3, e3, st3⟩ := getS2 X2 hx hZ hown (host := "") (Or.inl (hw _ (List.mem_of_getElem? (i := 8) rfl))) Via.refl kh2 (G0.ext O0.2) (g := (mkF m 48 #[.val (.int pi), .val (.int q), .val (.int (0 : Int32)), .val (.int (0 : Int32)), .val (.ref wF), .val (.ref wF), .unset, .unset, .unset, .unset, .unset] [(.ref wF)])) rfl (hb hby at_48)
  obtain ⟨T4, X4, e4, st4⟩ := getS2 X3 hx hZ hown (host := "") (Or.inl (hw _ (List.mem_of_getElem? (i := 8) rfl))) Via.refl e3 (G0.ext O0.2) (g := (mkF m 66 #[.val (.int pi), .val (.int q), .val (.int (0 : Int32)), .val (.int (0 : Int32)), .val (.ref wF), .val (.ref wF), .unset, .unset, .unset, .unset, .unset] [(.ref wF)])) rfl (hb hby at_66)
  obtain ⟨T5, X5, e5, st5⟩ := getS2 X4 hx hZ hown (host := "") (Or.inl (hw _ (List.mem_of_getElem? (i := 10) rfl))) Via.refl e4 (G2.ext O0.2) (g := (mkF m 81 #[.val (.int pi), .val (.int q), .val (.int (0 : Int32)), .val (.int (0 : Int32)), .val (.ref wF), .val (.ref wF), .val (.int (1 : Int32)), .unset, .unset, .unset, .unset] [(.ref wF)])) rfl (hb hby at_81)
  obtain ⟨T6, X6, e6, st6⟩ := getS2 X5 hx hZ hown (host := "") (Or.inl (hw _ (List.mem_of_getElem? (i := 10) rfl))) Via.refl e5 (G2.ext O0.2) (g := (mkF m 89 #[.val (.int pi), .val (.int q), .val (.int (0 : Int32)), .val (.int (0 : Int32)), .val (.ref wF), .val (.ref wF), .val (.int (1 : Int32)), .unset, .unset, .unset, .unset] [(.ref wF)])) rfl (hb hby at_89)
  obtain ⟨cq7, kq7, q7a, q7b, q7c⟩ := isOf hZ e6 (G3.ext O0.2)
  obtain ⟨_, _, ⟨T7, L7, k7, n7⟩, -, X7, ⟨Lc7, hQ7, l7, y7, z7⟩, st7⟩ := X6.virtualBack hx (y := (⟨"com/example/deposition/deposition/filter/Truth", "not", "()Lcom/example/deposition/deposition/filter/Truth;"⟩ : MethodName)) (z := (⟨"com/example/deposition/deposition/filter/Truth", "not", "()Lcom/example/deposition/deposition/filter/Truth;"⟩ : MethodName)) hown (mvT hZ (hw _ (List.mem_of_getElem? (i := 12) rfl))) (mvT hZ (hw _ (List.mem_of_getElem? (i := 13) rfl))) (notFace_of_selects (args := #[]) (mvT hZ (hw _ (List.mem_of_getElem? (i := 15) rfl)))) (mvT hZ (hw _ (List.mem_of_getElem? (i := 15) rfl))) (mvT hZ (hw _ (List.mem_of_getElem? (i := 14) rfl))) (by decide) (backOf (W := 0) (not0 l Z a0 hw [] wF wT h0 n0 O0 G3 G5 G1) hZ (hw _ (List.mem_of_getElem? (i := 16) rfl)) (hw _ (List.mem_of_getElem? (i := 2) rfl)) (by decide) (by decide)) q7a q7c (g := (mkF m 104 #[.val (.int pi), .val (.int q), .val (.int (0 : Int32)), .val (.int (0 : Int32)), .val (.ref wF), .val (.ref wF), .val (.int (1 : Int32)), .val (.int (1 : Int32)), .unset, .unset, .unset] [(.ref wF)])) rfl (by rw [hml]; rfl) (Steps.refl _) (argsL := []) (rest := []) (lenOf pd_3 rfl) rfl (by show 2 * 0 + _ ≤ _; exact Nat.le_of_eq rfl) (hb hby at_104) (fun _ _ => ⟨rfl, e6, (by decide : 0 + 0 ≤ _), (by decide : 0 + 0 ≤ _)⟩)
  dsimp only [Pt.U, Pt.locs, Pt.cells, Pt.slots] at X7 l7 y7 z7 st7 hQ7
  subst l7 y7 z7
  obtain ⟨rfl, Nq7, kh7⟩ := hQ7
  have N7 := Fr.app N2 Nq7
  obtain ⟨_, _, ⟨T8, L8, k8, n8⟩, -, X8, ⟨Lc8, hQ8, l8, y8, z8⟩, st8⟩ := Jvm.LawKit.callS X7 hx (y := (⟨"com/example/deposition/deposition/filter/Truth", "of", "(Z)Lcom/example/deposition/deposition/filter/Truth;"⟩ : MethodName)) hown (mvT hZ (hw _ (List.mem_of_getElem? (i := 0) rfl))) (mvT hZ (hw _ (List.mem_of_getElem? (i := 1) rfl))) (mvT hZ (hw _ (List.mem_of_getElem? (i := 2) rfl))) (mvT hZ (hw _ (List.mem_of_getElem? (i := 3) rfl))) (by decide) (backOf (W := 1) (ofT l Z a0 hw [] wT h0 n0 O0 G1) hZ (hw _ (List.mem_of_getElem? (i := 3) rfl)) (hw _ (List.mem_of_getElem? (i := 2) rfl)) (by decide) (by decide)) (g := (mkF m 116 #[.val (.int pi), .val (.int q), .val (.int (0 : Int32)), .val (.int (0 : Int32)), .val (.ref wF), .val (.ref wF), .val (.int (1 : Int32)), .val (.int (1 : Int32)), .unset, .unset, .unset] [(.int (1 : Int32)), (.ref wT)])) rfl (by rw [hml]; rfl) (argsL := [(.int (1 : Int32))]) (rest := [(.ref wT)]) (lenOf pd_2 rfl) rfl (by show 2 * 0 + _ ≤ _; exact Nat.le_of_eq rfl) (hb hby at_116) (fun _ _ => ⟨rfl, kh7, (by decide : 0 + 0 ≤ _), (by decide : 0 + 0 ≤ _)⟩)
  dsimp only [Pt.U, Pt.locs, Pt.cells, Pt.slots] at X8 l8 y8 z8 st8 hQ8
  subst l8 y8 z8
  obtain ⟨rfl, Nq8, kh8⟩ := hQ8
  have N8 := Fr.app N7 Nq8
  obtain ⟨cq9, kq9, q9a, q9b, q9c⟩ := isOf hZ kh8 (G3.ext O0.2)
  obtain ⟨_, _, ⟨T9, L9, k9, n9⟩, -, X9, ⟨Lc9, hQ9, l9, y9, z9⟩, st9⟩ := X8.virtualBack hx (y := (⟨"com/example/deposition/deposition/filter/Truth", "and", "(Lcom/example/deposition/deposition/filter/Truth;)Lcom/example/deposition/deposition/filter/Truth;"⟩ : MethodName)) (z := (⟨"com/example/deposition/deposition/filter/Truth", "and", "(Lcom/example/deposition/deposition/filter/Truth;)Lcom/example/deposition/deposition/filter/Truth;"⟩ : MethodName)) hown (mvT hZ (hw _ (List.mem_of_getElem? (i := 26) rfl))) (mvT hZ (hw _ (List.mem_of_getElem? (i := 27) rfl))) (notFace_of_selects (args := #[]) (mvT hZ (hw _ (List.mem_of_getElem? (i := 29) rfl)))) (mvT hZ (hw _ (List.mem_of_getElem? (i := 29) rfl))) (mvT hZ (hw _ (List.mem_of_getElem? (i := 28) rfl))) (by decide) (backOf (W := 0) (andA l Z a0 hw [] wF wF (0 : Int32) (0 : Int32) mr h0 n0 O0 G3 G3 G5 G5 MM (by decide)) hZ (hw _ (List.mem_of_getElem? (i := 30) rfl)) (hw _ (List.mem_of_getElem? (i := 2) rfl)) (by decide) (by decide)) q9a q9c (g := (mkF m 133 #[.val (.int pi), .val (.int q), .val (.int (0 : Int32)), .val (.int (0 : Int32)), .val (.ref wF), .val (.ref wF), .val (.int (1 : Int32)), .val (.int (1 : Int32)), .val (.int (1 : Int32)), .unset, .unset] [(.ref wF), (.ref wF)])) rfl (by rw [hml]; rfl) (Steps.refl _) (argsL := [(.ref wF)]) (rest := []) (lenOf pd_4 rfl) rfl (by show 2 * 0 + _ ≤ _; exact Nat.le_of_eq rfl) (hb hby at_133) (fun _ _ => ⟨rfl, kh8, (by decide : 0 + 0 ≤ _), (by decide : 0 + 0 ≤ _)⟩)
  dsimp only [Pt.U, Pt.locs, Pt.cells, Pt.slots] at X9 l9 y9 z9 st9 hQ9
  subst l9 y9 z9
  obtain ⟨rfl, Nq9, kh9⟩ := hQ9
  have N9 := Fr.app N8 Nq9
  obtain ⟨_, _, ⟨T10, L10, k10, n10⟩, -, X10, ⟨Lc10, hQ10, l10, y10, z10⟩, st10⟩ := Jvm.LawKit.callS X9 hx (y := (⟨"com/example/deposition/deposition/filter/Truth", "of", "(Z)Lcom/example/deposition/deposition/filter/Truth;"⟩ : MethodName)) hown (mvT hZ (hw _ (List.mem_of_getElem? (i := 0) rfl))) (mvT hZ (hw _ (List.mem_of_getElem? (i := 1) rfl))) (mvT hZ (hw _ (List.mem_of_getElem? (i := 2) rfl))) (mvT hZ (hw _ (List.mem_of_getElem? (i := 3) rfl))) (by decide) (backOf (W := 1) (ofF l Z a0 hw [] wF h0 n0 O0 G0) hZ (hw _ (List.mem_of_getElem? (i := 3) rfl)) (hw _ (List.mem_of_getElem? (i := 2) rfl)) (by decide) (by decide)) (g := (mkF m 149 #[.val (.int pi), .val (.int q), .val (.int (0 : Int32)), .val (.int (0 : Int32)), .val (.ref wF), .val (.ref wF), .val (.int (1 : Int32)), .val (.int (1 : Int32)), .val (.int (1 : Int32)), .unset, .unset] [(.int (0 : Int32)), (.ref wF)])) rfl (by rw [hml]; rfl) (argsL := [(.int (0 : Int32))]) (rest := [(.ref wF)]) (lenOf pd_2 rfl) rfl (by show 2 * 0 + _ ≤ _; exact Nat.le_of_eq rfl) (hb hby at_149) (fun _ _ => ⟨rfl, kh9, (by decide : 0 + 0 ≤ _), (by decide : 0 + 0 ≤ _)⟩)
  dsimp only [Pt.U, Pt.locs, Pt.cells, Pt.slots] at X10 l10 y10 z10 st10 hQ10
  subst l10 y10 z10
  obtain ⟨rfl, Nq10, kh10⟩ := hQ10
  have N10 := Fr.app N9 Nq10
  obtain ⟨cq11, kq11, q11a, q11b, q11c⟩ := isOf hZ kh10 (G3.ext O0.2)
  obtain ⟨_, _, ⟨T11, L11, k11, n11⟩, -, X11, ⟨Lc11, hQ11, l11, y11, z11⟩, st11⟩ := X10.virtualBack hx (y := (⟨"com/example/deposition/deposition/filter/Truth", "or", "(Lcom/example/deposition/deposition/filter/Truth;)Lcom/example/deposition/deposition/filter/Truth;"⟩ : MethodName)) (z := (⟨"com/example/deposition/deposition/filter/Truth", "or", "(Lcom/example/deposition/deposition/filter/Truth;)Lcom/example/deposition/deposition/filter/Truth;"⟩ : MethodName)) hown (mvT hZ (hw _ (List.mem_of_getElem? (i := 43) rfl))) (mvT hZ (hw _ (List.mem_of_getElem? (i := 44) rfl))) (notFace_of_selects (args := #[]) (mvT hZ (hw _ (List.mem_of_getElem? (i := 46) rfl)))) (mvT hZ (hw _ (List.mem_of_getElem? (i := 46) rfl))) (mvT hZ (hw _ (List.mem_of_getElem? (i := 45) rfl))) (by decide) (backOf (W := 0) (orA l Z a0 hw [] wF wF (0 : Int32) (0 : Int32) mr h0 n0 O0 G3 G3 G5 G5 MM (by decide)) hZ (hw _ (List.mem_of_getElem? (i := 47) rfl)) (hw _ (List.mem_of_getElem? (i := 2) rfl)) (by decide) (by decide)) q11a q11c (g := (mkF m 166 #[.val (.int pi), .val (.int q), .val (.int (0 : Int32)), .val (.int (0 : Int32)), .val (.ref wF), .val (.ref wF), .val (.int (1 : Int32)), .val (.int (1 : Int32)), .val (.int (1 : Int32)), .val (.int (1 : Int32)), .unset] [(.ref wF), (.ref wF)])) rfl (by rw [hml]; rfl) (Steps.refl _) (argsL := [(.ref wF)]) (rest := []) (lenOf pd_4 rfl) rfl (by show 2 * 0 + _ ≤ _; exact Nat.le_of_eq rfl) (hb hby at_166) (fun _ _ => ⟨rfl, kh10, (by decide : 0 + 0 ≤ _), (by decide : 0 + 0 ≤ _)⟩)
  dsimp only [Pt.U, Pt.locs, Pt.cells, Pt.slots] at X11 l11 y11 z11 st11 hQ11
  subst l11 y11 z11
  obtain ⟨rfl, Nq11, kh11⟩ := hQ11
  have N11 := Fr.app N10 Nq11
  obtain ⟨_, _, ⟨T12, L12, k12, n12⟩, -, X12, ⟨Lc12, hQ12, l12, y12, z12⟩, st12⟩ := Jvm.LawKit.callS X11 hx (y := (⟨"com/example/deposition/deposition/filter/Truth", "of", "(Z)Lcom/example/deposition/deposition/filter/Truth;"⟩ : MethodName)) hown (mvT hZ (hw _ (List.mem_of_getElem? (i := 0) rfl))) (mvT hZ (hw _ (List.mem_of_getElem? (i := 1) rfl))) (mvT hZ (hw _ (List.mem_of_getElem? (i := 2) rfl))) (mvT hZ (hw _ (List.mem_of_getElem? (i := 3) rfl))) (by decide) (backOf (W := 1) (ofF l Z a0 hw [] wF h0 n0 O0 G0) hZ (hw _ (List.mem_of_getElem? (i := 3) rfl)) (hw _ (List.mem_of_getElem? (i := 2) rfl)) (by decide) (by decide)) (g := (mkF m 182 #[.val (.int pi), .val (.int q), .val (.int (0 : Int32)), .val (.int (0 : Int32)), .val (.ref wF), .val (.ref wF), .val (.int (1 : Int32)), .val (.int (1 : Int32)), .val (.int (1 : Int32)), .val (.int (1 : Int32)), .unset] [(.int (0 : Int32)), (.ref wF)])) rfl (by rw [hml]; rfl) (argsL := [(.int (0 : Int32))]) (rest := [(.ref wF)]) (lenOf pd_2 rfl) rfl (by show 2 * 0 + _ ≤ _; exact Nat.le_of_eq rfl) (hb hby at_182) (fun _ _ => ⟨rfl, kh11, (by decide : 0 + 0 ≤ _), (by decide : 0 + 0 ≤ _)⟩)
  dsimp only [Pt.U, Pt.locs, Pt.cells, Pt.slots] at X12 l12 y12 z12 st12 hQ12
  subst l12 y12 z12
  obtain ⟨rfl, Nq12, kh12⟩ := hQ12
  have N12 := Fr.app N11 Nq12
  obtain ⟨fs, hr, hrun, hended, hW, hsame⟩ := X12.leave (v := some (.int (1 : Int32))) (fun h => by rw [Bd.returns] at h; cases h)
  refine ⟨_, _, pre0 _ ?_, hrun, hended, _, _, rfl, ?_, ⟨_, rfl⟩, hW, hsame.mono (by decide) (by decide)⟩
  · show Steps p.tables e below (s₁.setTop (mkF m 0 #[.val (.int pi), .val (.int q), .unset, .unset, .unset, .unset, .unset, .unset, .unset, .unset, .unset] [])) _
    refine XS.iloadN X0.here hx rfl (hb hby at_0) rfl ?_
    show Steps p.tables e below (s₁.setTop (mkF m 1 #[.val (.int pi), .val (.int q), .unset, .unset, .unset, .unset, .unset, .unset, .unset, .unset, .unset] [(.int pi)])) _
    refine XS.iconst X0.here hx rfl (hb hby at_1) ?_
    show Steps p.tables e below (s₁.setTop (mkF m 2 #[.val (.int pi), .val (.int q), .unset, .unset, .unset, .unset, .unset, .unset, .unset, .unset, .unset] [(.int (1 : Int32)), (.int pi)])) _
    refine XS.iand X0.here hx rfl (hb hby at_2) rfl ?_
    show Steps p.tables e below (s₁.setTop (mkF m 3 #[.val (.int pi), .val (.int q), .unset, .unset, .unset, .unset, .unset, .unset, .unset, .unset, .unset] [(.int (pi &&& (1 : Int32)))])) _
    refine XS.ifYes X0.here hx rfl (pc0 := 3) (pc' := 10) rfl (hb hby at_3) rfl ((if0 _ _).trans (teq (hc3 : (pi &&& (1 : Int32)) = (0 : Int32))).1) (by decide) (by decide) ?_
    show Steps p.tables e below (s₁.setTop (mkF m 10 #[.val (.int pi), .val (.int q), .unset, .unset, .unset, .unset, .unset, .unset, .unset, .unset, .unset] [])) _
    refine XS.iconst X0.here hx rfl (hb hby at_10) ?_
    show Steps p.tables e below (s₁.setTop (mkF m 11 #[.val (.int pi), .val (.int q), .unset, .unset, .unset, .unset, .unset, .unset, .unset, .unset, .unset] [(.int (0 : Int32))])) _
    refine XS.istoreN X0.here hx rfl (hb hby at_11) rfl (l' := #[.val (.int pi), .val (.int q), .val (.int (0 : Int32)), .unset, .unset, .unset, .unset, .unset, .unset, .unset, .unset]) rfl ?_
    show Steps p.tables e below (s₁.setTop (mkF m 12 #[.val (.int pi), .val (.int q), .val (.int (0 : Int32)), .unset, .unset, .unset, .unset, .unset, .unset, .unset, .unset] [])) _
    refine XS.iloadN X0.here hx rfl (hb hby at_12) rfl ?_
    show Steps p.tables e below (s₁.setTop (mkF m 13 #[.val (.int pi), .val (.int q), .val (.int (0 : Int32)), .unset, .unset, .unset, .unset, .unset, .unset, .unset, .unset] [(.int q)])) _
    refine XS.iconst X0.here hx rfl (hb hby at_13) ?_
    show Steps p.tables e below (s₁.setTop (mkF m 14 #[.val (.int pi), .val (.int q), .val (.int (0 : Int32)), .unset, .unset, .unset, .unset, .unset, .unset, .unset, .unset] [(.int (1 : Int32)), (.int q)])) _
    refine XS.iand X0.here hx rfl (hb hby at_14) rfl ?_
    show Steps p.tables e below (s₁.setTop (mkF m 15 #[.val (.int pi), .val (.int q), .val (.int (0 : Int32)), .unset, .unset, .unset, .unset, .unset, .unset, .unset, .unset] [(.int (q &&& (1 : Int32)))])) _
    refine XS.ifYes X0.here hx rfl (pc0 := 15) (pc' := 22) rfl (hb hby at_15) rfl ((if0 _ _).trans (teq (hc15 : (q &&& (1 : Int32)) = (0 : Int32))).1) (by decide) (by decide) ?_
    show Steps p.tables e below (s₁.setTop (mkF m 22 #[.val (.int pi), .val (.int q), .val (.int (0 : Int32)), .unset, .unset, .unset, .unset, .unset, .unset, .unset, .unset] [])) _
    refine XS.iconst X0.here hx rfl (hb hby at_22) ?_
    show Steps p.tables e below (s₁.setTop (mkF m 23 #[.val (.int pi), .val (.int q), .val (.int (0 : Int32)), .unset, .unset, .unset, .unset, .unset, .unset, .unset, .unset] [(.int (0 : Int32))])) _
    refine XS.istoreN X0.here hx rfl (hb hby at_23) rfl (l' := #[.val (.int pi), .val (.int q), .val (.int (0 : Int32)), .val (.int (0 : Int32)), .unset, .unset, .unset, .unset, .unset, .unset, .unset]) rfl ?_
    show Steps p.tables e below (s₁.setTop (mkF m 24 #[.val (.int pi), .val (.int q), .val (.int (0 : Int32)), .val (.int (0 : Int32)), .unset, .unset, .unset, .unset, .unset, .unset, .unset] [])) _
    refine XS.iloadN X0.here hx rfl (hb hby at_24) rfl ?_
    show Steps p.tables e below (s₁.setTop (mkF m 25 #[.val (.int pi), .val (.int q), .val (.int (0 : Int32)), .val (.int (0 : Int32)), .unset, .unset, .unset, .unset, .unset, .unset, .unset] [(.int (0 : Int32))])) _
    refine st1 _ ?_
    show Steps p.tables e below (T1.setTop (mkF m 28 #[.val (.int pi), .val (.int q), .val (.int (0 : Int32)), .val (.int (0 : Int32)), .unset, .unset, .unset, .unset, .unset, .unset, .unset] [(.ref wF)])) _
    refine XS.astore X1.here hx rfl (hb hby at_28) rfl rfl (l' := #[.val (.int pi), .val (.int q), .val (.int (0 : Int32)), .val (.int (0 : Int32)), .val (.ref wF), .unset, .unset, .unset, .unset, .unset, .unset]) rfl ?_
    show Steps p.tables e below (T1.setTop (mkF m 30 #[.val (.int pi), .val (.int q), .val (.int (0 : Int32)), .val (.int (0 : Int32)), .val (.ref wF), .unset, .unset, .unset, .unset, .unset, .unset] [])) _
    refine XS.iloadN X1.here hx rfl (hb hby at_30) rfl ?_
    show Steps p.tables e below (T1.setTop (mkF m 31 #[.val (.int pi), .val (.int q), .val (.int (0 : Int32)), .val (.int (0 : Int32)), .val (.ref wF), .unset, .unset, .unset, .unset, .unset, .unset] [(.int (0 : Int32))])) _
    refine st2 _ ?_
    show Steps p.tables e below (T2.setTop (mkF m 34 #[.val (.int pi), .val (.int q), .val (.int (0 : Int32)), .val (.int (0 : Int32)), .val (.ref wF), .unset, .unset, .unset, .unset, .unset, .unset] [(.ref wF)])) _
    refine XS.astore X2.here hx rfl (hb hby at_34) rfl rfl (l' := #[.val (.int pi), .val (.int q), .val (.int (0 : Int32)), .val (.int (0 : Int32)), .val (.ref wF), .val (.ref wF), .unset, .unset, .unset, .unset, .unset]) rfl ?_
    show Steps p.tables e below (T2.setTop (mkF m 36 #[.val (.int pi), .val (.int q), .val (.int (0 : Int32)), .val (.int (0 : Int32)), .val (.ref wF), .val (.ref wF), .unset, .unset, .unset, .unset, .unset] [])) _
    refine XS.aload X2.here hx rfl (hb hby at_36) rfl rfl ?_
    show Steps p.tables e below (T2.setTop (mkF m 38 #[.val (.int pi), .val (.int q), .val (.int (0 : Int32)), .val (.int (0 : Int32)), .val (.ref wF), .val (.ref wF), .unset, .unset, .unset, .unset, .unset] [(.ref wF)])) _
    refine XS.iloadN X2.here hx rfl (hb hby at_38) rfl ?_
    show Steps p.tables e below (T2.setTop (mkF m 39 #[.val (.int pi), .val (.int q), .val (.int (0 : Int32)), .val (.int (0 : Int32)), .val (.ref wF), .val (.ref wF), .unset, .unset, .unset, .unset, .unset] [(.int (0 : Int32)), (.ref wF)])) _
    refine XS.ifYes X2.here hx rfl (pc0 := 39) (pc' := 48) rfl (hb hby at_39) rfl ((if0 _ _).trans (teq (by decide : (0 : Int32) = (0 : Int32))).1) (by decide) (by decide) ?_
    show Steps p.tables e below (T2.setTop (mkF m 48 #[.val (.int pi), .val (.int q), .val (.int (0 : Int32)), .val (.int (0 : Int32)), .val (.ref wF), .val (.ref wF), .unset, .unset, .unset, .unset, .unset] [(.ref wF)])) _
    refine st3 _ ?_
    show Steps p.tables e below (T3.setTop (mkF m 51 #[.val (.int pi), .val (.int q), .val (.int (0 : Int32)), .val (.int (0 : Int32)), .val (.ref wF), .val (.ref wF), .unset, .unset, .unset, .unset, .unset] [(.ref wF), (.ref wF)])) _
    refine Jvm.RoadKit.acmp (g := (mkF m 51 #[.val (.int pi), .val (.int q), .val (.int (0 : Int32)), .val (.int (0 : Int32)), .val (.ref wF), .val (.ref wF), .unset, .unset, .unset, .unset, .unset] [(.ref wF), (.ref wF)])) X3 hx rfl rfl rfl (pc0 := 51) (pc' := 54) (same := true) rfl (hb hby at_51) rfl (decide_eq_true rfl) (by decide) (by decide) ?_
    show Steps p.tables e below (T3.setTop (mkF m 54 #[.val (.int pi), .val (.int q), .val (.int (0 : Int32)), .val (.int (0 : Int32)), .val (.ref wF), .val (.ref wF), .unset, .unset, .unset, .unset, .unset] [])) _
    refine XS.aload X3.here hx rfl (hb hby at_54) rfl rfl ?_
    show Steps p.tables e below (T3.setTop (mkF m 56 #[.val (.int pi), .val (.int q), .val (.int (0 : Int32)), .val (.int (0 : Int32)), .val (.ref wF), .val (.ref wF), .unset, .unset, .unset, .unset, .unset] [(.ref wF)])) _
    refine XS.iloadN X3.here hx rfl (hb hby at_56) rfl ?_
    show Steps p.tables e below (T3.setTop (mkF m 57 #[.val (.int pi), .val (.int q), .val (.int (0 : Int32)), .val (.int (0 : Int32)), .val (.ref wF), .val (.ref wF), .unset, .unset, .unset, .unset, .unset] [(.int (0 : Int32)), (.ref wF)])) _
    refine XS.ifYes X3.here hx rfl (pc0 := 57) (pc' := 66) rfl (hb hby at_57) rfl ((if0 _ _).trans (teq (by decide : (0 : Int32) = (0 : Int32))).1) (by decide) (by decide) ?_
    show Steps p.tables e below (T3.setTop (mkF m 66 #[.val (.int pi), .val (.int q), .val (.int (0 : Int32)), .val (.int (0 : Int32)), .val (.ref wF), .val (.ref wF), .unset, .unset, .unset, .unset, .unset] [(.ref wF)])) _
    refine st4 _ ?_
    show Steps p.tables e below (T4.setTop (mkF m 69 #[.val (.int pi), .val (.int q), .val (.int (0 : Int32)), .val (.int (0 : Int32)), .val (.ref wF), .val (.ref wF), .unset, .unset, .unset, .unset, .unset] [(.ref wF), (.ref wF)])) _
    refine Jvm.RoadKit.acmp (g := (mkF m 69 #[.val (.int pi), .val (.int q), .val (.int (0 : Int32)), .val (.int (0 : Int32)), .val (.ref wF), .val (.ref wF), .unset, .unset, .unset, .unset, .unset] [(.ref wF), (.ref wF)])) X4 hx rfl rfl rfl (pc0 := 69) (pc' := 72) (same := true) rfl (hb hby at_69) rfl (decide_eq_true rfl) (by decide) (by decide) ?_
    show Steps p.tables e below (T4.setTop (mkF m 72 #[.val (.int pi), .val (.int q), .val (.int (0 : Int32)), .val (.int (0 : Int32)), .val (.ref wF), .val (.ref wF), .unset, .unset, .unset, .unset, .unset] [])) _
    refine XS.iconst X4.here hx rfl (hb hby at_72) ?_
    show Steps p.tables e below (T4.setTop (mkF m 73 #[.val (.int pi), .val (.int q), .val (.int (0 : Int32)), .val (.int (0 : Int32)), .val (.ref wF), .val (.ref wF), .unset, .unset, .unset, .unset, .unset] [(.int (1 : Int32))])) _
    refine XS.goto X4.here hx rfl (pc0 := 73) (pc' := 77) rfl (hb hby at_73) (by decide) (by decide) ?_
    show Steps p.tables e below (T4.setTop (mkF m 77 #[.val (.int pi), .val (.int q), .val (.int (0 : Int32)), .val (.int (0 : Int32)), .val (.ref wF), .val (.ref wF), .unset, .unset, .unset, .unset, .unset] [(.int (1 : Int32))])) _
    refine XS.istore X4.here hx rfl (hb hby at_77) rfl (l' := #[.val (.int pi), .val (.int q), .val (.int (0 : Int32)), .val (.int (0 : Int32)), .val (.ref wF), .val (.ref wF), .val (.int (1 : Int32)), .unset, .unset, .unset, .unset]) rfl ?_
    show Steps p.tables e below (T4.setTop (mkF m 79 #[.val (.int pi), .val (.int q), .val (.int (0 : Int32)), .val (.int (0 : Int32)), .val (.ref wF), .val (.ref wF), .val (.int (1 : Int32)), .unset, .unset, .unset, .unset] [])) _
    refine XS.aload X4.here hx rfl (hb hby at_79) rfl rfl ?_
    show Steps p.tables e below (T4.setTop (mkF m 81 #[.val (.int pi), .val (.int q), .val (.int (0 : Int32)), .val (.int (0 : Int32)), .val (.ref wF), .val (.ref wF), .val (.int (1 : Int32)), .unset, .unset, .unset, .unset] [(.ref wF)])) _
    refine st5 _ ?_
    show Steps p.tables e below (T5.setTop (mkF m 84 #[.val (.int pi), .val (.int q), .val (.int (0 : Int32)), .val (.int (0 : Int32)), .val (.ref wF), .val (.ref wF), .val (.int (1 : Int32)), .unset, .unset, .unset, .unset] [(.ref wU), (.ref wF)])) _
    refine Jvm.RoadKit.acmp (g := (mkF m 84 #[.val (.int pi), .val (.int q), .val (.int (0 : Int32)), .val (.int (0 : Int32)), .val (.ref wF), .val (.ref wF), .val (.int (1 : Int32)), .unset, .unset, .unset, .unset] [(.ref wU), (.ref wF)])) X5 hx rfl rfl rfl (pc0 := 84) (pc' := 87) (same := false) rfl (hb hby at_84) rfl (decide_eq_false fun q => nF (Value.ref.inj q)) (by decide) (by decide) ?_
    show Steps p.tables e below (T5.setTop (mkF m 87 #[.val (.int pi), .val (.int q), .val (.int (0 : Int32)), .val (.int (0 : Int32)), .val (.ref wF), .val (.ref wF), .val (.int (1 : Int32)), .unset, .unset, .unset, .unset] [])) _
    refine XS.aload X5.here hx rfl (hb hby at_87) rfl rfl ?_
    show Steps p.tables e below (T5.setTop (mkF m 89 #[.val (.int pi), .val (.int q), .val (.int (0 : Int32)), .val (.int (0 : Int32)), .val (.ref wF), .val (.ref wF), .val (.int (1 : Int32)), .unset, .unset, .unset, .unset] [(.ref wF)])) _
    refine st6 _ ?_
    show Steps p.tables e below (T6.setTop (mkF m 92 #[.val (.int pi), .val (.int q), .val (.int (0 : Int32)), .val (.int (0 : Int32)), .val (.ref wF), .val (.ref wF), .val (.int (1 : Int32)), .unset, .unset, .unset, .unset] [(.ref wU), (.ref wF)])) _
    refine Jvm.RoadKit.acmp (g := (mkF m 92 #[.val (.int pi), .val (.int q), .val (.int (0 : Int32)), .val (.int (0 : Int32)), .val (.ref wF), .val (.ref wF), .val (.int (1 : Int32)), .unset, .unset, .unset, .unset] [(.ref wU), (.ref wF)])) X6 hx rfl rfl rfl (pc0 := 92) (pc' := 95) (same := false) rfl (hb hby at_92) rfl (decide_eq_false fun q => nF (Value.ref.inj q)) (by decide) (by decide) ?_
    show Steps p.tables e below (T6.setTop (mkF m 95 #[.val (.int pi), .val (.int q), .val (.int (0 : Int32)), .val (.int (0 : Int32)), .val (.ref wF), .val (.ref wF), .val (.int (1 : Int32)), .unset, .unset, .unset, .unset] [])) _
    refine XS.iconst X6.here hx rfl (hb hby at_95) ?_
    show Steps p.tables e below (T6.setTop (mkF m 96 #[.val (.int pi), .val (.int q), .val (.int (0 : Int32)), .val (.int (0 : Int32)), .val (.ref wF), .val (.ref wF), .val (.int (1 : Int32)), .unset, .unset, .unset, .unset] [(.int (1 : Int32))])) _
    refine XS.goto X6.here hx rfl (pc0 := 96) (pc' := 100) rfl (hb hby at_96) (by decide) (by decide) ?_
    show Steps p.tables e below (T6.setTop (mkF m 100 #[.val (.int pi), .val (.int q), .val (.int (0 : Int32)), .val (.int (0 : Int32)), .val (.ref wF), .val (.ref wF), .val (.int (1 : Int32)), .unset, .unset, .unset, .unset] [(.int (1 : Int32))])) _
    refine XS.istore X6.here hx rfl (hb hby at_100) rfl (l' := #[.val (.int pi), .val (.int q), .val (.int (0 : Int32)), .val (.int (0 : Int32)), .val (.ref wF), .val (.ref wF), .val (.int (1 : Int32)), .val (.int (1 : Int32)), .unset, .unset, .unset]) rfl ?_
    show Steps p.tables e below (T6.setTop (mkF m 102 #[.val (.int pi), .val (.int q), .val (.int (0 : Int32)), .val (.int (0 : Int32)), .val (.ref wF), .val (.ref wF), .val (.int (1 : Int32)), .val (.int (1 : Int32)), .unset, .unset, .unset] [])) _
    refine XS.aload X6.here hx rfl (hb hby at_102) rfl rfl ?_
    show Steps p.tables e below (T6.setTop (mkF m 104 #[.val (.int pi), .val (.int q), .val (.int (0 : Int32)), .val (.int (0 : Int32)), .val (.ref wF), .val (.ref wF), .val (.int (1 : Int32)), .val (.int (1 : Int32)), .unset, .unset, .unset] [(.ref wF)])) _
    refine st7.trans ?_
    show Steps p.tables e below (T7.setTop (mkF m 107 #[.val (.int pi), .val (.int q), .val (.int (0 : Int32)), .val (.int (0 : Int32)), .val (.ref wF), .val (.ref wF), .val (.int (1 : Int32)), .val (.int (1 : Int32)), .unset, .unset, .unset] [(.ref wT)])) _
    refine XS.iloadN X7.here hx rfl (hb hby at_107) rfl ?_
    show Steps p.tables e below (T7.setTop (mkF m 108 #[.val (.int pi), .val (.int q), .val (.int (0 : Int32)), .val (.int (0 : Int32)), .val (.ref wF), .val (.ref wF), .val (.int (1 : Int32)), .val (.int (1 : Int32)), .unset, .unset, .unset] [(.int (0 : Int32)), (.ref wT)])) _
    refine XS.ifNo X7.here hx rfl (hb hby at_108) rfl ((if0 _ _).trans (teq (by decide : (0 : Int32) = (0 : Int32))).2) ?_
    show Steps p.tables e below (T7.setTop (mkF m 111 #[.val (.int pi), .val (.int q), .val (.int (0 : Int32)), .val (.int (0 : Int32)), .val (.ref wF), .val (.ref wF), .val (.int (1 : Int32)), .val (.int (1 : Int32)), .unset, .unset, .unset] [(.ref wT)])) _
    refine XS.iconst X7.here hx rfl (hb hby at_111) ?_
    show Steps p.tables e below (T7.setTop (mkF m 112 #[.val (.int pi), .val (.int q), .val (.int (0 : Int32)), .val (.int (0 : Int32)), .val (.ref wF), .val (.ref wF), .val (.int (1 : Int32)), .val (.int (1 : Int32)), .unset, .unset, .unset] [(.int (1 : Int32)), (.ref wT)])) _
    refine XS.goto X7.here hx rfl (pc0 := 112) (pc' := 116) rfl (hb hby at_112) (by decide) (by decide) ?_
    show Steps p.tables e below (T7.setTop (mkF m 116 #[.val (.int pi), .val (.int q), .val (.int (0 : Int32)), .val (.int (0 : Int32)), .val (.ref wF), .val (.ref wF), .val (.int (1 : Int32)), .val (.int (1 : Int32)), .unset, .unset, .unset] [(.int (1 : Int32)), (.ref wT)])) _
    refine st8 _ ?_
    show Steps p.tables e below (T8.setTop (mkF m 119 #[.val (.int pi), .val (.int q), .val (.int (0 : Int32)), .val (.int (0 : Int32)), .val (.ref wF), .val (.ref wF), .val (.int (1 : Int32)), .val (.int (1 : Int32)), .unset, .unset, .unset] [(.ref wT), (.ref wT)])) _
    refine Jvm.RoadKit.acmp (g := (mkF m 119 #[.val (.int pi), .val (.int q), .val (.int (0 : Int32)), .val (.int (0 : Int32)), .val (.ref wF), .val (.ref wF), .val (.int (1 : Int32)), .val (.int (1 : Int32)), .unset, .unset, .unset] [(.ref wT), (.ref wT)])) X8 hx rfl rfl rfl (pc0 := 119) (pc' := 122) (same := true) rfl (hb hby at_119) rfl (decide_eq_true rfl) (by decide) (by decide) ?_
    show Steps p.tables e below (T8.setTop (mkF m 122 #[.val (.int pi), .val (.int q), .val (.int (0 : Int32)), .val (.int (0 : Int32)), .val (.ref wF), .val (.ref wF), .val (.int (1 : Int32)), .val (.int (1 : Int32)), .unset, .unset, .unset] [])) _
    refine XS.iconst X8.here hx rfl (hb hby at_122) ?_
    show Steps p.tables e below (T8.setTop (mkF m 123 #[.val (.int pi), .val (.int q), .val (.int (0 : Int32)), .val (.int (0 : Int32)), .val (.ref wF), .val (.ref wF), .val (.int (1 : Int32)), .val (.int (1 : Int32)), .unset, .unset, .unset] [(.int (1 : Int32))])) _
    refine XS.goto X8.here hx rfl (pc0 := 123) (pc' := 127) rfl (hb hby at_123) (by decide) (by decide) ?_
    show Steps p.tables e below (T8.setTop (mkF m 127 #[.val (.int pi), .val (.int q), .val (.int (0 : Int32)), .val (.int (0 : Int32)), .val (.ref wF), .val (.ref wF), .val (.int (1 : Int32)), .val (.int (1 : Int32)), .unset, .unset, .unset] [(.int (1 : Int32))])) _
    refine XS.istore X8.here hx rfl (hb hby at_127) rfl (l' := #[.val (.int pi), .val (.int q), .val (.int (0 : Int32)), .val (.int (0 : Int32)), .val (.ref wF), .val (.ref wF), .val (.int (1 : Int32)), .val (.int (1 : Int32)), .val (.int (1 : Int32)), .unset, .unset]) rfl ?_
    show Steps p.tables e below (T8.setTop (mkF m 129 #[.val (.int pi), .val (.int q), .val (.int (0 : Int32)), .val (.int (0 : Int32)), .val (.ref wF), .val (.ref wF), .val (.int (1 : Int32)), .val (.int (1 : Int32)), .val (.int (1 : Int32)), .unset, .unset] [])) _
    refine XS.aload X8.here hx rfl (hb hby at_129) rfl rfl ?_
    show Steps p.tables e below (T8.setTop (mkF m 131 #[.val (.int pi), .val (.int q), .val (.int (0 : Int32)), .val (.int (0 : Int32)), .val (.ref wF), .val (.ref wF), .val (.int (1 : Int32)), .val (.int (1 : Int32)), .val (.int (1 : Int32)), .unset, .unset] [(.ref wF)])) _
    refine XS.aload X8.here hx rfl (hb hby at_131) rfl rfl ?_
    show Steps p.tables e below (T8.setTop (mkF m 133 #[.val (.int pi), .val (.int q), .val (.int (0 : Int32)), .val (.int (0 : Int32)), .val (.ref wF), .val (.ref wF), .val (.int (1 : Int32)), .val (.int (1 : Int32)), .val (.int (1 : Int32)), .unset, .unset] [(.ref wF), (.ref wF)])) _
    refine st9.trans ?_
    show Steps p.tables e below (T9.setTop (mkF m 136 #[.val (.int pi), .val (.int q), .val (.int (0 : Int32)), .val (.int (0 : Int32)), .val (.ref wF), .val (.ref wF), .val (.int (1 : Int32)), .val (.int (1 : Int32)), .val (.int (1 : Int32)), .unset, .unset] [(.ref wF)])) _
    refine XS.iloadN X9.here hx rfl (hb hby at_136) rfl ?_
    show Steps p.tables e below (T9.setTop (mkF m 137 #[.val (.int pi), .val (.int q), .val (.int (0 : Int32)), .val (.int (0 : Int32)), .val (.ref wF), .val (.ref wF), .val (.int (1 : Int32)), .val (.int (1 : Int32)), .val (.int (1 : Int32)), .unset, .unset] [(.int (0 : Int32)), (.ref wF)])) _
    refine XS.ifYes X9.here hx rfl (pc0 := 137) (pc' := 148) rfl (hb hby at_137) rfl ((if0 _ _).trans (teq (by decide : (0 : Int32) = (0 : Int32))).1) (by decide) (by decide) ?_
    show Steps p.tables e below (T9.setTop (mkF m 148 #[.val (.int pi), .val (.int q), .val (.int (0 : Int32)), .val (.int (0 : Int32)), .val (.ref wF), .val (.ref wF), .val (.int (1 : Int32)), .val (.int (1 : Int32)), .val (.int (1 : Int32)), .unset, .unset] [(.ref wF)])) _
    refine XS.iconst X9.here hx rfl (hb hby at_148) ?_
    show Steps p.tables e below (T9.setTop (mkF m 149 #[.val (.int pi), .val (.int q), .val (.int (0 : Int32)), .val (.int (0 : Int32)), .val (.ref wF), .val (.ref wF), .val (.int (1 : Int32)), .val (.int (1 : Int32)), .val (.int (1 : Int32)), .unset, .unset] [(.int (0 : Int32)), (.ref wF)])) _
    refine st10 _ ?_
    show Steps p.tables e below (T10.setTop (mkF m 152 #[.val (.int pi), .val (.int q), .val (.int (0 : Int32)), .val (.int (0 : Int32)), .val (.ref wF), .val (.ref wF), .val (.int (1 : Int32)), .val (.int (1 : Int32)), .val (.int (1 : Int32)), .unset, .unset] [(.ref wF), (.ref wF)])) _
    refine Jvm.RoadKit.acmp (g := (mkF m 152 #[.val (.int pi), .val (.int q), .val (.int (0 : Int32)), .val (.int (0 : Int32)), .val (.ref wF), .val (.ref wF), .val (.int (1 : Int32)), .val (.int (1 : Int32)), .val (.int (1 : Int32)), .unset, .unset] [(.ref wF), (.ref wF)])) X10 hx rfl rfl rfl (pc0 := 152) (pc' := 155) (same := true) rfl (hb hby at_152) rfl (decide_eq_true rfl) (by decide) (by decide) ?_
    show Steps p.tables e below (T10.setTop (mkF m 155 #[.val (.int pi), .val (.int q), .val (.int (0 : Int32)), .val (.int (0 : Int32)), .val (.ref wF), .val (.ref wF), .val (.int (1 : Int32)), .val (.int (1 : Int32)), .val (.int (1 : Int32)), .unset, .unset] [])) _
    refine XS.iconst X10.here hx rfl (hb hby at_155) ?_
    show Steps p.tables e below (T10.setTop (mkF m 156 #[.val (.int pi), .val (.int q), .val (.int (0 : Int32)), .val (.int (0 : Int32)), .val (.ref wF), .val (.ref wF), .val (.int (1 : Int32)), .val (.int (1 : Int32)), .val (.int (1 : Int32)), .unset, .unset] [(.int (1 : Int32))])) _
    refine XS.goto X10.here hx rfl (pc0 := 156) (pc' := 160) rfl (hb hby at_156) (by decide) (by decide) ?_
    show Steps p.tables e below (T10.setTop (mkF m 160 #[.val (.int pi), .val (.int q), .val (.int (0 : Int32)), .val (.int (0 : Int32)), .val (.ref wF), .val (.ref wF), .val (.int (1 : Int32)), .val (.int (1 : Int32)), .val (.int (1 : Int32)), .unset, .unset] [(.int (1 : Int32))])) _
    refine XS.istore X10.here hx rfl (hb hby at_160) rfl (l' := #[.val (.int pi), .val (.int q), .val (.int (0 : Int32)), .val (.int (0 : Int32)), .val (.ref wF), .val (.ref wF), .val (.int (1 : Int32)), .val (.int (1 : Int32)), .val (.int (1 : Int32)), .val (.int (1 : Int32)), .unset]) rfl ?_
    show Steps p.tables e below (T10.setTop (mkF m 162 #[.val (.int pi), .val (.int q), .val (.int (0 : Int32)), .val (.int (0 : Int32)), .val (.ref wF), .val (.ref wF), .val (.int (1 : Int32)), .val (.int (1 : Int32)), .val (.int (1 : Int32)), .val (.int (1 : Int32)), .unset] [])) _
    refine XS.aload X10.here hx rfl (hb hby at_162) rfl rfl ?_
    show Steps p.tables e below (T10.setTop (mkF m 164 #[.val (.int pi), .val (.int q), .val (.int (0 : Int32)), .val (.int (0 : Int32)), .val (.ref wF), .val (.ref wF), .val (.int (1 : Int32)), .val (.int (1 : Int32)), .val (.int (1 : Int32)), .val (.int (1 : Int32)), .unset] [(.ref wF)])) _
    refine XS.aload X10.here hx rfl (hb hby at_164) rfl rfl ?_
    show Steps p.tables e below (T10.setTop (mkF m 166 #[.val (.int pi), .val (.int q), .val (.int (0 : Int32)), .val (.int (0 : Int32)), .val (.ref wF), .val (.ref wF), .val (.int (1 : Int32)), .val (.int (1 : Int32)), .val (.int (1 : Int32)), .val (.int (1 : Int32)), .unset] [(.ref wF), (.ref wF)])) _
    refine st11.trans ?_
    show Steps p.tables e below (T11.setTop (mkF m 169 #[.val (.int pi), .val (.int q), .val (.int (0 : Int32)), .val (.int (0 : Int32)), .val (.ref wF), .val (.ref wF), .val (.int (1 : Int32)), .val (.int (1 : Int32)), .val (.int (1 : Int32)), .val (.int (1 : Int32)), .unset] [(.ref wF)])) _
    refine XS.iloadN X11.here hx rfl (hb hby at_169) rfl ?_
    show Steps p.tables e below (T11.setTop (mkF m 170 #[.val (.int pi), .val (.int q), .val (.int (0 : Int32)), .val (.int (0 : Int32)), .val (.ref wF), .val (.ref wF), .val (.int (1 : Int32)), .val (.int (1 : Int32)), .val (.int (1 : Int32)), .val (.int (1 : Int32)), .unset] [(.int (0 : Int32)), (.ref wF)])) _
    refine XS.ifNo X11.here hx rfl (hb hby at_170) rfl ((if0 _ _).trans (teq (by decide : (0 : Int32) = (0 : Int32))).2) ?_
    show Steps p.tables e below (T11.setTop (mkF m 173 #[.val (.int pi), .val (.int q), .val (.int (0 : Int32)), .val (.int (0 : Int32)), .val (.ref wF), .val (.ref wF), .val (.int (1 : Int32)), .val (.int (1 : Int32)), .val (.int (1 : Int32)), .val (.int (1 : Int32)), .unset] [(.ref wF)])) _
    refine XS.iloadN X11.here hx rfl (hb hby at_173) rfl ?_
    show Steps p.tables e below (T11.setTop (mkF m 174 #[.val (.int pi), .val (.int q), .val (.int (0 : Int32)), .val (.int (0 : Int32)), .val (.ref wF), .val (.ref wF), .val (.int (1 : Int32)), .val (.int (1 : Int32)), .val (.int (1 : Int32)), .val (.int (1 : Int32)), .unset] [(.int (0 : Int32)), (.ref wF)])) _
    refine XS.ifYes X11.here hx rfl (pc0 := 174) (pc' := 181) rfl (hb hby at_174) rfl ((if0 _ _).trans (teq (by decide : (0 : Int32) = (0 : Int32))).1) (by decide) (by decide) ?_
    show Steps p.tables e below (T11.setTop (mkF m 181 #[.val (.int pi), .val (.int q), .val (.int (0 : Int32)), .val (.int (0 : Int32)), .val (.ref wF), .val (.ref wF), .val (.int (1 : Int32)), .val (.int (1 : Int32)), .val (.int (1 : Int32)), .val (.int (1 : Int32)), .unset] [(.ref wF)])) _
    refine XS.iconst X11.here hx rfl (hb hby at_181) ?_
    show Steps p.tables e below (T11.setTop (mkF m 182 #[.val (.int pi), .val (.int q), .val (.int (0 : Int32)), .val (.int (0 : Int32)), .val (.ref wF), .val (.ref wF), .val (.int (1 : Int32)), .val (.int (1 : Int32)), .val (.int (1 : Int32)), .val (.int (1 : Int32)), .unset] [(.int (0 : Int32)), (.ref wF)])) _
    refine st12 _ ?_
    show Steps p.tables e below (T12.setTop (mkF m 185 #[.val (.int pi), .val (.int q), .val (.int (0 : Int32)), .val (.int (0 : Int32)), .val (.ref wF), .val (.ref wF), .val (.int (1 : Int32)), .val (.int (1 : Int32)), .val (.int (1 : Int32)), .val (.int (1 : Int32)), .unset] [(.ref wF), (.ref wF)])) _
    refine Jvm.RoadKit.acmp (g := (mkF m 185 #[.val (.int pi), .val (.int q), .val (.int (0 : Int32)), .val (.int (0 : Int32)), .val (.ref wF), .val (.ref wF), .val (.int (1 : Int32)), .val (.int (1 : Int32)), .val (.int (1 : Int32)), .val (.int (1 : Int32)), .unset] [(.ref wF), (.ref wF)])) X12 hx rfl rfl rfl (pc0 := 185) (pc' := 188) (same := true) rfl (hb hby at_185) rfl (decide_eq_true rfl) (by decide) (by decide) ?_
    show Steps p.tables e below (T12.setTop (mkF m 188 #[.val (.int pi), .val (.int q), .val (.int (0 : Int32)), .val (.int (0 : Int32)), .val (.ref wF), .val (.ref wF), .val (.int (1 : Int32)), .val (.int (1 : Int32)), .val (.int (1 : Int32)), .val (.int (1 : Int32)), .unset] [])) _
    refine XS.iconst X12.here hx rfl (hb hby at_188) ?_
    show Steps p.tables e below (T12.setTop (mkF m 189 #[.val (.int pi), .val (.int q), .val (.int (0 : Int32)), .val (.int (0 : Int32)), .val (.ref wF), .val (.ref wF), .val (.int (1 : Int32)), .val (.int (1 : Int32)), .val (.int (1 : Int32)), .val (.int (1 : Int32)), .unset] [(.int (1 : Int32))])) _
    refine XS.goto X12.here hx rfl (pc0 := 189) (pc' := 193) rfl (hb hby at_189) (by decide) (by decide) ?_
    show Steps p.tables e below (T12.setTop (mkF m 193 #[.val (.int pi), .val (.int q), .val (.int (0 : Int32)), .val (.int (0 : Int32)), .val (.ref wF), .val (.ref wF), .val (.int (1 : Int32)), .val (.int (1 : Int32)), .val (.int (1 : Int32)), .val (.int (1 : Int32)), .unset] [(.int (1 : Int32))])) _
    refine XS.istore X12.here hx rfl (hb hby at_193) rfl (l' := #[.val (.int pi), .val (.int q), .val (.int (0 : Int32)), .val (.int (0 : Int32)), .val (.ref wF), .val (.ref wF), .val (.int (1 : Int32)), .val (.int (1 : Int32)), .val (.int (1 : Int32)), .val (.int (1 : Int32)), .val (.int (1 : Int32))]) rfl ?_
    show Steps p.tables e below (T12.setTop (mkF m 195 #[.val (.int pi), .val (.int q), .val (.int (0 : Int32)), .val (.int (0 : Int32)), .val (.ref wF), .val (.ref wF), .val (.int (1 : Int32)), .val (.int (1 : Int32)), .val (.int (1 : Int32)), .val (.int (1 : Int32)), .val (.int (1 : Int32))] [])) _
    refine XS.iload X12.here hx rfl (hb hby at_195) rfl ?_
    show Steps p.tables e below (T12.setTop (mkF m 197 #[.val (.int pi), .val (.int q), .val (.int (0 : Int32)), .val (.int (0 : Int32)), .val (.ref wF), .val (.ref wF), .val (.int (1 : Int32)), .val (.int (1 : Int32)), .val (.int (1 : Int32)), .val (.int (1 : Int32)), .val (.int (1 : Int32))] [(.int (1 : Int32))])) _
    refine XS.ifNo X12.here hx rfl (hb hby at_197) rfl ((if0 _ _).trans (feq (by decide : ¬ ((1 : Int32) = (0 : Int32)))).1) ?_
    show Steps p.tables e below (T12.setTop (mkF m 200 #[.val (.int pi), .val (.int q), .val (.int (0 : Int32)), .val (.int (0 : Int32)), .val (.ref wF), .val (.ref wF), .val (.int (1 : Int32)), .val (.int (1 : Int32)), .val (.int (1 : Int32)), .val (.int (1 : Int32)), .val (.int (1 : Int32))] [])) _
    refine XS.iload X12.here hx rfl (hb hby at_200) rfl ?_
    show Steps p.tables e below (T12.setTop (mkF m 202 #[.val (.int pi), .val (.int q), .val (.int (0 : Int32)), .val (.int (0 : Int32)), .val (.ref wF), .val (.ref wF), .val (.int (1 : Int32)), .val (.int (1 : Int32)), .val (.int (1 : Int32)), .val (.int (1 : Int32)), .val (.int (1 : Int32))] [(.int (1 : Int32))])) _
    refine XS.ifNo X12.here hx rfl (hb hby at_202) rfl ((if0 _ _).trans (feq (by decide : ¬ ((1 : Int32) = (0 : Int32)))).1) ?_
    show Steps p.tables e below (T12.setTop (mkF m 205 #[.val (.int pi), .val (.int q), .val (.int (0 : Int32)), .val (.int (0 : Int32)), .val (.ref wF), .val (.ref wF), .val (.int (1 : Int32)), .val (.int (1 : Int32)), .val (.int (1 : Int32)), .val (.int (1 : Int32)), .val (.int (1 : Int32))] [])) _
    refine XS.iload X12.here hx rfl (hb hby at_205) rfl ?_
    show Steps p.tables e below (T12.setTop (mkF m 207 #[.val (.int pi), .val (.int q), .val (.int (0 : Int32)), .val (.int (0 : Int32)), .val (.ref wF), .val (.ref wF), .val (.int (1 : Int32)), .val (.int (1 : Int32)), .val (.int (1 : Int32)), .val (.int (1 : Int32)), .val (.int (1 : Int32))] [(.int (1 : Int32))])) _
    refine XS.ifNo X12.here hx rfl (hb hby at_207) rfl ((if0 _ _).trans (feq (by decide : ¬ ((1 : Int32) = (0 : Int32)))).1) ?_
    show Steps p.tables e below (T12.setTop (mkF m 210 #[.val (.int pi), .val (.int q), .val (.int (0 : Int32)), .val (.int (0 : Int32)), .val (.ref wF), .val (.ref wF), .val (.int (1 : Int32)), .val (.int (1 : Int32)), .val (.int (1 : Int32)), .val (.int (1 : Int32)), .val (.int (1 : Int32))] [])) _
    refine XS.iload X12.here hx rfl (hb hby at_210) rfl ?_
    show Steps p.tables e below (T12.setTop (mkF m 212 #[.val (.int pi), .val (.int q), .val (.int (0 : Int32)), .val (.int (0 : Int32)), .val (.ref wF), .val (.ref wF), .val (.int (1 : Int32)), .val (.int (1 : Int32)), .val (.int (1 : Int32)), .val (.int (1 : Int32)), .val (.int (1 : Int32))] [(.int (1 : Int32))])) _
    refine XS.ifNo X12.here hx rfl (hb hby at_212) rfl ((if0 _ _).trans (feq (by decide : ¬ ((1 : Int32) = (0 : Int32)))).1) ?_
    show Steps p.tables e below (T12.setTop (mkF m 215 #[.val (.int pi), .val (.int q), .val (.int (0 : Int32)), .val (.int (0 : Int32)), .val (.ref wF), .val (.ref wF), .val (.int (1 : Int32)), .val (.int (1 : Int32)), .val (.int (1 : Int32)), .val (.int (1 : Int32)), .val (.int (1 : Int32))] [])) _
    refine XS.iload X12.here hx rfl (hb hby at_215) rfl ?_
    show Steps p.tables e below (T12.setTop (mkF m 217 #[.val (.int pi), .val (.int q), .val (.int (0 : Int32)), .val (.int (0 : Int32)), .val (.ref wF), .val (.ref wF), .val (.int (1 : Int32)), .val (.int (1 : Int32)), .val (.int (1 : Int32)), .val (.int (1 : Int32)), .val (.int (1 : Int32))] [(.int (1 : Int32))])) _
    refine XS.ifNo X12.here hx rfl (hb hby at_217) rfl ((if0 _ _).trans (feq (by decide : ¬ ((1 : Int32) = (0 : Int32)))).1) ?_
    show Steps p.tables e below (T12.setTop (mkF m 220 #[.val (.int pi), .val (.int q), .val (.int (0 : Int32)), .val (.int (0 : Int32)), .val (.ref wF), .val (.ref wF), .val (.int (1 : Int32)), .val (.int (1 : Int32)), .val (.int (1 : Int32)), .val (.int (1 : Int32)), .val (.int (1 : Int32))] [])) _
    refine XS.iconst X12.here hx rfl (hb hby at_220) ?_
    show Steps p.tables e below (T12.setTop (mkF m 221 #[.val (.int pi), .val (.int q), .val (.int (0 : Int32)), .val (.int (0 : Int32)), .val (.ref wF), .val (.ref wF), .val (.int (1 : Int32)), .val (.int (1 : Int32)), .val (.int (1 : Int32)), .val (.int (1 : Int32)), .val (.int (1 : Int32))] [(.int (1 : Int32))])) _
    refine XS.goto X12.here hx rfl (pc0 := 221) (pc' := 225) rfl (hb hby at_221) (by decide) (by decide) ?_
    show Steps p.tables e below (T12.setTop (mkF m 225 #[.val (.int pi), .val (.int q), .val (.int (0 : Int32)), .val (.int (0 : Int32)), .val (.ref wF), .val (.ref wF), .val (.int (1 : Int32)), .val (.int (1 : Int32)), .val (.int (1 : Int32)), .val (.int (1 : Int32)), .val (.int (1 : Int32))] [(.int (1 : Int32))])) _
    exact retN X12 hx (t := .boolean) Bd.returns (by simp) (hb hby at_225) hr
  · show Q_law Z pi q wF wT wU mr h0 n0 _ T12.heap _
    rw [kh12]
    exact ⟨rfl, N12⟩
set_option maxRecDepth 65536 in
set_option maxHeartbeats 40000000 in
theorem law (l : Launch) (Z : State) (a0 : Array Value) (hw : ∀ d ∈ tables_1, d.before a0 Z = true) (ws : List Jvm.Cond) (pi : Int32) (q : Int32) (wF : Addr) (wT : Addr) (wU : Addr) (mr : Addr) (h0 : Heap) (n0 : Nat) (O0 : Old Z n0 h0) (G0 : Sta Z Z.heap "com/example/deposition/deposition/filter/Truth" "FALSE" "Lcom/example/deposition/deposition/filter/Truth;" (.ref wF)) (G1 : Sta Z Z.heap "com/example/deposition/deposition/filter/Truth" "TRUE" "Lcom/example/deposition/deposition/filter/Truth;" (.ref wT)) (G2 : Sta Z Z.heap "com/example/deposition/deposition/filter/Truth" "UNKNOWN" "Lcom/example/deposition/deposition/filter/Truth;" (.ref wU)) (G3 : Exa Z Z.heap wF "com/example/deposition/deposition/filter/Truth") (G4 : Exa Z Z.heap wT "com/example/deposition/deposition/filter/Truth") (G5 : Fld Z Z.heap wF "java/lang/Enum" "ordinal" "I" (.int (0 : Int32))) (G6 : Fld Z Z.heap wT "java/lang/Enum" "ordinal" "I" (.int (2 : Int32))) (MM : MirO Z "com/example/deposition/deposition/filter/Truth" mr) (nF : wF ≠ wU) (nT : wT ≠ wU) :
    MetFree l x (head1 (Jvm.Cond.code x code maxLocals ret :: ws) room_1) (fun zA zU => zA = #[(.int pi), (.int q)] ∧ Z.Warmed39 zU.vm ∧ zU.heap = h0) (fun _ _ _ _ _ => True) (fun _ zU zo zU' => ∃ zv zL, zo = .returned zv ∧ Q_law Z pi q wF wT wU mr h0 n0 zv zU'.heap zL ∧ FrameEnd zU zo zU' zL room_1.cells room_1.slots) := by
  by_cases h1 : (pi &&& (1 : Int32)) = (0 : Int32)
  · by_cases h2 : (q &&& (1 : Int32)) = (0 : Int32)
    · exact law_3 l Z a0 hw ws pi q wF wT wU mr h0 n0 O0 G0 G1 G2 G3 G4 G5 G6 MM nF nT h1 h2
    · exact law_2 l Z a0 hw ws pi q wF wT wU mr h0 n0 O0 G0 G1 G2 G3 G4 G5 G6 MM nF nT h1 h2
  · by_cases h2 : (q &&& (1 : Int32)) = (0 : Int32)
    · exact law_1 l Z a0 hw ws pi q wF wT wU mr h0 n0 O0 G0 G1 G2 G3 G4 G5 G6 MM nF nT h1 h2
    · exact law_0 l Z a0 hw ws pi q wF wT wU mr h0 n0 O0 G0 G1 G2 G3 G4 G5 G6 MM nF nT h1 h2
set_option maxRecDepth 65536 in
set_option maxHeartbeats 40000000 in
theorem comes_1 {Post : Tables → Env → Array Value → State → Outcome → State → Prop} (hpost : ∀ tb e args s v u, (limb_1_1.after args s (.returned v) u = true ∧ limb_1_2.after args s (.returned v) u = true ∧ True) → FrameEnd s (.returned v) u (Jvm.fieldLocs frame_1_writes args s ++ Jvm.arrayLocs frame_1_arrays args s ++ Jvm.staticLocs frame_1_statics s) 0 0 → Post tb e args s (.returned v) u) :
    ArmFor flags0 classFile x code maxLocals ret World_1 tables_1 room_1 Calls_1 rest_1 Pre_1 Post := by
  intro l hfl _ _ p e ha hc hk s m args below hf hA hF happ hP
  obtain ⟨hcalls, hrest, hpre⟩ := hP
  obtain ⟨-, -, -, hnamed, -, -, -, hat⟩ := (Spec.applies_iff hf).mp happ
  obtain ⟨hg, hn⟩ := and_e (Cond.before_iff.mp (show (Jvm.Cond.and given_1 narrow_1).before args s = true from hpre))
  obtain ⟨gA0, gB0⟩ := and_e hg
  obtain ⟨gA1, gB1⟩ := and_e gB0
  obtain ⟨w0, w1, rfl⟩ : ∃ w0 w1 : Value, args = #[w0, w1] := by
    have hs : args.size = 2 := by simpa [Cond.value, given_1] using gA0
    obtain ⟨L⟩ := args
    match L, hs with
    | [w0, w1], _ => exact ⟨w0, w1, rfl⟩
  have hw := fun d (hd : d ∈ tables_1) => atoms_spec (ws := Jvm.Cond.code x code maxLocals ret :: tables_1) hat d (List.mem_cons_of_mem _ hd)
  have hfit : Fit s := fun {y c} hc i hi => by
    obtain ⟨ha, rfl⟩ := Array.getElem?_eq_some_iff.mp hc
    have q := List.all_eq_true.mp ((Array.all_eq_true_iff_forall_mem.mp hF) _ (Array.getElem_mem ha)) i (List.mem_range.mpr hi)
    simpa [Array.getElem?_eq_getElem hi] using q
  obtain ⟨i0, ei0⟩ := is_v gA1
  obtain rfl : w0 = (.int i0) := Option.some.inj ei0
  obtain ⟨i1, ei1⟩ := is_v gB1
  obtain rfl : w1 = (.int i1) := Option.some.inj ei1
  obtain ⟨g1, hn⟩ := and_e hn
  obtain ⟨g2, hn⟩ := and_e hn
  obtain ⟨g3, hn⟩ := and_e hn
  obtain ⟨g4, hn⟩ := and_e hn
  obtain ⟨g5, g6⟩ := and_e hn
  obtain ⟨wF, vF, EF⟩ := own_exa g1
  obtain ⟨wT, vT, ET⟩ := own_exa g2
  obtain ⟨wU, vU, EU⟩ := own_exa g3
  have FF := own_fld vF (own_eqI g4)
  have FU := own_fld vU (own_eqI g5)
  have FT := own_fld vT (own_eqI g6)
  obtain ⟨mc, mk, mr, mm1, mm2, mm3, -⟩ := hcalls.1
  have MM : MirO s "com/example/deposition/deposition/filter/Truth" mr := ⟨mc, mk, mm1, mm2, mm3⟩
  have SF := Sta.start vF (Or.inr ⟨(hw _ (List.mem_of_getElem? (i := 2) rfl)), (hw _ (List.mem_of_getElem? (i := 5) rfl))⟩)
  have ST := Sta.start vT (Or.inr ⟨(hw _ (List.mem_of_getElem? (i := 2) rfl)), (hw _ (List.mem_of_getElem? (i := 7) rfl))⟩)
  have SU := Sta.start vU (Or.inr ⟨(hw _ (List.mem_of_getElem? (i := 2) rfl)), (hw _ (List.mem_of_getElem? (i := 11) rfl))⟩)
  obtain ⟨n, o, h1, h2, h3, _, L, rfl, ⟨rfl, N⟩, hq⟩ := law l s _ hw tables_1 i0 i1 wF wT wU mr s.heap s.heap.size (Old.start s) SF ST SU EF ET FF FT MM (Fld.ne FF FU (by decide)) (Fld.ne FT FU (by decide)) p e ha hc hk s m _ below hf ((Spec.applies_iff_loose hf).mp happ).1 ⟨rfl, State.Warmed39.refl s, rfl⟩ trivial
  refine ⟨n, _, h1, h2, h3, hpost _ _ _ _ _ _ ⟨Cond.after_iff.mpr rfl, Cond.after_iff.mpr (eq_i res_at (Term.int_eval (1)) rfl), trivial⟩ ⟨hq.1, hq.2.1, (hq.2.2.sift fun y hy => Or.inr (N y hy)).mono (by decide) (by decide)⟩⟩
theorem main_1_1 : Claimed_1_1 := comes_1 fun _ _ _ _ _ _ h hF => ⟨h.1, hF⟩
theorem main_1_2 : Claimed_1_2 := comes_1 fun _ _ _ _ _ _ h hF => ⟨h.2.1, hF⟩
end Jvm.Pilot.@@N@@
namespace Jvm.Pilot.@@N@@
open Jvm Jvm.ClassFile Sem Op Lib Jvm.Free Jvm.Stand Jvm.Pilot.@@N@@.Jvm.D
/-! MADE BY PROGRAM (witnessworld.py) out of the Statement's table words and the real class files: 13 classes; the members and pool entries that the words name. The judged class is class 1, her method 1. -/
namespace start1
open Jvm.ClassFile
def u (s : String) : CpInfo := .utf8 (stringToUtf16 s)
/-- a pool by its gaps: so many unusable entries, then the entry; so many at the end -/
def gap : Nat → List CpInfo → List CpInfo
  | 0, r => r
  | n + 1, r => .unusable :: gap n r
def poolList (es : List (Nat × CpInfo)) (last : Nat) : List CpInfo := es.foldr (fun e r => gap e.1 (e.2 :: r)) (gap last [])
def pool (es : List (Nat × CpInfo)) (last : Nat) : Array CpInfo := ⟨poolList es last⟩
def fileOf (pool : Array CpInfo) (this : Nat) (attrs : Array Attribute := #[]) (ms : Array MethodInfo := #[]) (fl : Nat := 33) (sup : Nat := 0) (ifs : Array Nat := #[]) (fds : Array FieldInfo := #[]) : ClassFile where
  minorVersion := 0
  majorVersion := 65
  constantPool := pool
  accessFlags := fl
  thisClass := this
  superClass := sup
  interfaces := ifs
  fields := fds
  methods := ms
  attributes := attrs
def plain (name : String) (sup : Option ClassId) : Class where
  name := name
  kind := .ordinary
  loader := none
  accessFlags := 33
  super := sup
  interfaces := #[]
  cf := none
  fields := #[]
  methods := #[]
  instanceTypes := #[]
  staticTypes := #[]
  resolved := #[]
  callSites := []
  init := .initialized
  statics := none
  mirror := none

def pool0 : Array CpInfo := pool [(5, u "<init>"), (0, u "()V"), (1, .class_ 10), (1, u "java/lang/Object"), (0, u "getClass"), (0, u "()Ljava/lang/Class;")] 111

def k0m0 : Method := { name := "<init>", desc := "()V", sig := { parameters := [], returnType := none }, accessFlags := 1, code := none }
def k0m1 : Method := { name := "getClass", desc := "()Ljava/lang/Class;", sig := { parameters := [], returnType := some (.object "java/lang/Class") }, accessFlags := 273, code := none }
/-- java/lang/Object -/
def k0 : Class := { plain "java/lang/Object" none with
  accessFlags := 33
  interfaces := #[]
  cf := some (fileOf pool0 8 #[] #[{ accessFlags := 1, nameIndex := 5, descriptorIndex := 6, attributes := #[] }, { accessFlags := 273, nameIndex := 11, descriptorIndex := 12, attributes := #[] }] 33 0 #[] #[])
  fields := #[]
  methods := #[k0m0, k0m1]
  instanceTypes := #[]
  staticTypes := #[]
  resolved := Array.replicate 124 none
  statics := none }

def pool1 : Array CpInfo := pool [(2, .class_ 4), (1, u "java/lang/Object"), (0, u "<init>"), (0, u "()V"), (0, .methodref 8 9), (0, .class_ 10), (0, .nameAndType 11 12), (0, u "com/example/deposition/deposition/filter/Truth"), (0, u "of"), (0, u "(Z)Lcom/example/deposition/deposition/filter/Truth;"), (0, .fieldref 8 14), (0, .nameAndType 15 16), (0, u "TRUE"), (0, u "Lcom/example/deposition/deposition/filter/Truth;"), (0, .fieldref 8 18), (0, .nameAndType 19 16), (0, u "FALSE"), (0, .fieldref 8 21), (0, .nameAndType 22 16), (0, u "UNKNOWN"), (0, .methodref 8 24), (0, .nameAndType 25 26), (0, u "not"), (0, u "()Lcom/example/deposition/deposition/filter/Truth;"), (0, .methodref 8 28), (0, .nameAndType 29 30), (0, u "and"), (0, u "(Lcom/example/deposition/deposition/filter/Truth;)Lcom/example/deposition/deposition/filter/Truth;"), (0, .methodref 8 32), (0, .nameAndType 33 30), (0, u "or"), (0, .class_ 35), (0, u "com/example/deposition/deposition/filter/TruthOfPinLaw"), (2, u "law"), (0, u "(II)Z")] 3

def k1m0 : Method := { name := "<init>", desc := "()V", sig := { parameters := [], returnType := none }, accessFlags := 1, code := none }
def k1c1 : Code := { maxStack := 2, maxLocals := 11, code := code, exceptionTable := #[], attributes := #[] }
def k1m1 : Method := { name := "law", desc := "(II)Z", sig := { parameters := [.int, .int], returnType := some .boolean }, accessFlags := 9, code := some k1c1 }
/-- com/example/deposition/deposition/filter/TruthOfPinLaw -/
def k1 : Class := { plain "com/example/deposition/deposition/filter/TruthOfPinLaw" (some 0) with
  accessFlags := 49
  interfaces := #[]
  cf := some (fileOf pool1 34 #[] #[{ accessFlags := 1, nameIndex := 5, descriptorIndex := 6, attributes := #[] }, { accessFlags := 9, nameIndex := 38, descriptorIndex := 39, attributes := #[] }] 49 2 #[] #[])
  fields := #[]
  methods := #[k1m0, k1m1]
  instanceTypes := #[]
  staticTypes := #[]
  resolved := Array.replicate 43 none
  statics := none }

def pool2 : Array CpInfo := pool [(1, .class_ 2), (0, u "java/lang/constant/Constable"), (0, .class_ 4), (0, u "java/lang/Object")] 6

/-- java/lang/constant/Constable -/
def k2 : Class := { plain "java/lang/constant/Constable" (some 0) with
  accessFlags := 1537
  interfaces := #[]
  cf := some (fileOf pool2 1 #[] #[] 1537 3 #[] #[])
  fields := #[]
  methods := #[]
  instanceTypes := #[]
  staticTypes := #[]
  resolved := Array.replicate 11 none
  statics := none }

def pool3 : Array CpInfo := pool [(1, .class_ 2), (0, u "java/lang/Comparable"), (0, .class_ 4), (0, u "java/lang/Object")] 7

/-- java/lang/Comparable -/
def k3 : Class := { plain "java/lang/Comparable" (some 0) with
  accessFlags := 1537
  interfaces := #[]
  cf := some (fileOf pool3 1 #[] #[] 1537 3 #[] #[])
  fields := #[]
  methods := #[]
  instanceTypes := #[]
  staticTypes := #[]
  resolved := Array.replicate 12 none
  statics := none }

def pool4 : Array CpInfo := pool [(1, .class_ 2), (0, u "java/io/Serializable"), (0, .class_ 4), (0, u "java/lang/Object")] 2

/-- java/io/Serializable -/
def k4 : Class := { plain "java/io/Serializable" (some 0) with
  accessFlags := 1537
  interfaces := #[]
  cf := some (fileOf pool4 1 #[] #[] 1537 3 #[] #[])
  fields := #[]
  methods := #[]
  instanceTypes := #[]
  staticTypes := #[]
  resolved := Array.replicate 7 none
  statics := none }

def pool5 : Array CpInfo := pool [(2, .class_ 4), (1, u "java/lang/Enum"), (0, u "name"), (0, u "Ljava/lang/String;"), (0, .fieldref 2 8), (0, .nameAndType 9 10), (0, u "ordinal"), (0, u "I"), (1, .class_ 14), (1, u "java/lang/Object"), (4, u "hash"), (9, .methodref 12 30), (0, .nameAndType 31 32), (0, u "getClass"), (0, u "()Ljava/lang/Class;"), (70, u "compareTo"), (0, u "(Ljava/lang/Enum;)I"), (1, .class_ 108), (1, u "java/lang/Enum$EnumDesc"), (2, .class_ 112), (0, u "java/lang/constant/Constable"), (0, .class_ 114), (0, u "java/lang/Comparable"), (0, .class_ 116), (0, u "java/io/Serializable"), (9, u "()I")] 77

def k5c0 : Code := { maxStack := 1, maxLocals := 1, code := jdk_37_method_2_code, exceptionTable := #[], attributes := #[] }
def k5m0 : Method := { name := "ordinal", desc := "()I", sig := { parameters := [], returnType := some .int }, accessFlags := 17, code := some k5c0 }
def k5c1 : Code := { maxStack := 2, maxLocals := 4, code := jdk_37_method_8_code, exceptionTable := #[], attributes := #[] }
def k5m1 : Method := { name := "compareTo", desc := "(Ljava/lang/Enum;)I", sig := { parameters := [(.object "java/lang/Enum")], returnType := some .int }, accessFlags := 17, code := some k5c1 }
/-- java/lang/Enum -/
def k5 : Class := { plain "java/lang/Enum" (some 0) with
  accessFlags := 1057
  interfaces := #[2, 3, 4]
  cf := some (fileOf pool5 2 #[.nestMembers #[106]] #[{ accessFlags := 17, nameIndex := 9, descriptorIndex := 126, attributes := #[] }, { accessFlags := 17, nameIndex := 103, descriptorIndex := 104, attributes := #[] }] 1057 12 #[111, 113, 115] #[{ accessFlags := 18, nameIndex := 5, descriptorIndex := 6, attributes := #[] }, { accessFlags := 18, nameIndex := 9, descriptorIndex := 10, attributes := #[] }, { accessFlags := 2, nameIndex := 19, descriptorIndex := 10, attributes := #[] }])
  fields := #[{ name := "name", type := (.object "java/lang/String"), accessFlags := 18, slot := 0, constantValue := 0 }, { name := "ordinal", type := .int, accessFlags := 18, slot := 1, constantValue := 0 }, { name := "hash", type := .int, accessFlags := 2, slot := 2, constantValue := 0 }]
  methods := #[k5m0, k5m1]
  instanceTypes := #[(.object "java/lang/String"), .int, .int]
  staticTypes := #[]
  resolved := Array.replicate 204 none
  statics := none }

def pool6 : Array CpInfo := pool [(1, .class_ 2), (0, u "com/example/deposition/deposition/filter/Truth"), (0, .fieldref 1 4), (0, .nameAndType 5 6), (0, u "FALSE"), (0, u "Lcom/example/deposition/deposition/filter/Truth;"), (2, u "UNKNOWN"), (0, .fieldref 1 11), (0, .nameAndType 12 6), (0, u "TRUE"), (2, u "$VALUES"), (0, u "[Lcom/example/deposition/deposition/filter/Truth;"), (6, .class_ 25), (1, u "java/lang/Enum"), (6, .methodref 1 33), (0, .nameAndType 34 35), (0, u "ordinal"), (0, u "()I"), (5, .methodref 1 42), (0, .nameAndType 43 44), (0, u "compareTo"), (0, u "(Ljava/lang/Enum;)I"), (15, u "of"), (0, u "(Z)Lcom/example/deposition/deposition/filter/Truth;"), (1, u "not"), (0, u "()Lcom/example/deposition/deposition/filter/Truth;"), (0, u "and"), (0, u "(Lcom/example/deposition/deposition/filter/Truth;)Lcom/example/deposition/deposition/filter/Truth;"), (0, u "or")] 4

def k6c0 : Code := { maxStack := 1, maxLocals := 1, code := prog_9_method_4_code, exceptionTable := #[], attributes := #[] }
def k6m0 : Method := { name := "of", desc := "(Z)Lcom/example/deposition/deposition/filter/Truth;", sig := { parameters := [.boolean], returnType := some (.object "com/example/deposition/deposition/filter/Truth") }, accessFlags := 8, code := some k6c0 }
def k6c1 : Code := { maxStack := 4, maxLocals := 1, code := prog_9_method_5_code, exceptionTable := #[], attributes := #[] }
def k6m1 : Method := { name := "not", desc := "()Lcom/example/deposition/deposition/filter/Truth;", sig := { parameters := [], returnType := some (.object "com/example/deposition/deposition/filter/Truth") }, accessFlags := 0, code := some k6c1 }
def k6c2 : Code := { maxStack := 2, maxLocals := 2, code := prog_9_method_6_code, exceptionTable := #[], attributes := #[] }
def k6m2 : Method := { name := "and", desc := "(Lcom/example/deposition/deposition/filter/Truth;)Lcom/example/deposition/deposition/filter/Truth;", sig := { parameters := [(.object "com/example/deposition/deposition/filter/Truth")], returnType := some (.object "com/example/deposition/deposition/filter/Truth") }, accessFlags := 0, code := some k6c2 }
def k6c3 : Code := { maxStack := 2, maxLocals := 2, code := prog_9_method_7_code, exceptionTable := #[], attributes := #[] }
def k6m3 : Method := { name := "or", desc := "(Lcom/example/deposition/deposition/filter/Truth;)Lcom/example/deposition/deposition/filter/Truth;", sig := { parameters := [(.object "com/example/deposition/deposition/filter/Truth")], returnType := some (.object "com/example/deposition/deposition/filter/Truth") }, accessFlags := 0, code := some k6c3 }
/-- com/example/deposition/deposition/filter/Truth -/
def k6 : Class := { plain "com/example/deposition/deposition/filter/Truth" (some 5) with
  accessFlags := 16432
  interfaces := #[]
  cf := some (fileOf pool6 1 #[] #[{ accessFlags := 8, nameIndex := 60, descriptorIndex := 61, attributes := #[] }, { accessFlags := 0, nameIndex := 63, descriptorIndex := 64, attributes := #[] }, { accessFlags := 0, nameIndex := 65, descriptorIndex := 66, attributes := #[] }, { accessFlags := 0, nameIndex := 67, descriptorIndex := 66, attributes := #[] }] 16432 23 #[] #[{ accessFlags := 16409, nameIndex := 5, descriptorIndex := 6, attributes := #[] }, { accessFlags := 16409, nameIndex := 9, descriptorIndex := 6, attributes := #[] }, { accessFlags := 16409, nameIndex := 12, descriptorIndex := 6, attributes := #[] }, { accessFlags := 4122, nameIndex := 15, descriptorIndex := 16, attributes := #[] }])
  fields := #[{ name := "FALSE", type := (.object "com/example/deposition/deposition/filter/Truth"), accessFlags := 16409, slot := 0, constantValue := 0 }, { name := "UNKNOWN", type := (.object "com/example/deposition/deposition/filter/Truth"), accessFlags := 16409, slot := 1, constantValue := 0 }, { name := "TRUE", type := (.object "com/example/deposition/deposition/filter/Truth"), accessFlags := 16409, slot := 2, constantValue := 0 }, { name := "$VALUES", type := (.array (.object "com/example/deposition/deposition/filter/Truth")), accessFlags := 4122, slot := 3, constantValue := 0 }]
  methods := #[k6m0, k6m1, k6m2, k6m3]
  instanceTypes := #[(.object "java/lang/String"), .int, .int]
  staticTypes := #[(.object "com/example/deposition/deposition/filter/Truth"), (.object "com/example/deposition/deposition/filter/Truth"), (.object "com/example/deposition/deposition/filter/Truth"), (.array (.object "com/example/deposition/deposition/filter/Truth"))]
  resolved := Array.replicate 72 none
  mirror := some 1
  statics := some 0 }

def pool7 : Array CpInfo := pool [(1, u "java/lang/Class"), (0, .class_ 1), (0, u "java/lang/Object"), (0, .class_ 3)] 0

/-- java/lang/Class -/
def k7 : Class := { plain "java/lang/Class" (some 0) with
  accessFlags := 49
  interfaces := #[]
  cf := some (fileOf pool7 2 #[] #[] 49 4 #[] #[])
  fields := #[]
  methods := #[]
  instanceTypes := #[]
  staticTypes := #[]
  resolved := Array.replicate 5 none
  statics := none }

def pool8 : Array CpInfo := pool [(1, u "java/lang/Cloneable"), (0, .class_ 1), (0, u "java/lang/Object"), (0, .class_ 3)] 3

/-- java/lang/Cloneable -/
def k8 : Class := { plain "java/lang/Cloneable" (some 0) with
  accessFlags := 1537
  interfaces := #[]
  cf := some (fileOf pool8 2 #[] #[] 1537 4 #[] #[])
  fields := #[]
  methods := #[]
  instanceTypes := #[]
  staticTypes := #[]
  resolved := Array.replicate 8 none
  statics := none }

/-- the primitive byte -/
def k9 : Class := { plain "byte" none with kind := .primitive 'B', accessFlags := 0x411 }
/-- [B -/
def k10 : Class := { plain "[B" (some 0) with kind := .array 9 .byte, interfaces := #[8, 4], accessFlags := 1041 }

/-- the primitive int -/
def k11 : Class := { plain "int" none with kind := .primitive 'I', accessFlags := 0x411 }
/-- [I -/
def k12 : Class := { plain "[I" (some 0) with kind := .array 11 .int, interfaces := #[8, 4], accessFlags := 1041 }

def heap : Heap := #[{ cls := 6, slots := #[.ref 2, .ref 3, .ref 4, .null], vm := .statics 6 },
  { cls := 7, slots := #[], vm := .mirror 6 },
  { cls := 6, slots := #[.null, .int 0, .int 0], vm := .none },
  { cls := 6, slots := #[.null, .int 1, .int 0], vm := .none },
  { cls := 6, slots := #[.null, .int 2, .int 0], vm := .none }]
def classes : Array Class := #[k0, k1, k2, k3, k4, k5, k6, k7, k8, k9, k10, k11, k12]
def interned : List (Array UInt16 × Addr) := []
def slotsUsed : Nat := 13
def theMethod : MethodId := ⟨1, 1⟩
def args0 : Array Value := #[.int 5, .int 6]
def aboutOver (below : List Frame) : State where
  vm := { classes := classes, interned := interned.toArray }
  heap := heap
  slotsUsed := slotsUsed
  threads := #[{ frames := .invoking theMethod args0 :: below }]
def below0 : List Frame := [.native { method := ⟨0, 0⟩, args := #[] }]
def about1 : State := aboutOver below0
def p0 : Program := .bare "" "" ""
def e0 : Env := launch0.env 0 0 0
theorem w_frames : about1.frames = Frame.invoking theMethod args0 :: below0 := rfl
set_option maxRecDepth 65536 in
theorem w_args : argsFit about1.vm theMethod args0 = true := by decide +kernel
set_option maxRecDepth 65536 in
theorem w_heap : heapFits about1 = true := by decide +kernel
set_option maxRecDepth 65536 in
theorem w_runnable : about1.curStatus? = some .runnable := by decide +kernel
set_option maxRecDepth 65536 in
theorem w_alone : about1.alone = true := by decide +kernel
set_option maxRecDepth 65536 in
theorem w_named : about1.methodNamed? x = some theMethod := by decide +kernel
set_option maxRecDepth 65536 in
theorem w_hears : about1.hears theMethod below0 = true := by decide +kernel
set_option maxRecDepth 65536 in
theorem w_ripe : about1.ripe theMethod args0 below0 = true := by decide +kernel
theorem w_running : about1.status = .running := rfl
set_option maxRecDepth 65536 in
theorem w_room : about1.hasRoom e0.platform room_1 = true :=
  launch0.hasRoom_least _ room_1 (by decide +kernel) (by decide +kernel) (by decide +kernel) (by decide +kernel) (by decide +kernel) (by decide +kernel)
theorem allAtoms_all (ts : List Jvm.Cond) (a : Array Jvm.Value) (st : Jvm.State) : (allAtoms ts).before a st = ts.all (fun c => c.before a st) := by
  induction ts with
  | nil => rfl
  | cons c t ih =>
    show (Jvm.Cond.and c (allAtoms t)).before a st = _
    rw [Jvm.Cond.before_and, ih, List.all_cons]
def words1 : List Jvm.Cond := Jvm.Cond.code x code maxLocals ret :: tables_1
/-- a 'code' word, met by the world's own term for the bytes: nothing is compared byte by byte -/
theorem code_word {y : MethodName} {bytes : ByteArray} {mx : Nat} {rt : Option FieldType} {a : Array Value} {s : State} {m : MethodId} {meth : Method} {c : Code} (h1 : s.methodNamed? y = some m) (h2 : s.vm.method? m = some meth) (h3 : meth.code = some c) (h4 : c.code = bytes)
    (h5 : (c.maxLocals == mx && c.exceptionTable.isEmpty && decide (c.maxStack ≤ mostOperands) && decide (meth.sig.returnType = rt) && !meth.locks && decide (parseMethodDescriptor y.desc = some meth.sig)) = true) : (Jvm.Cond.code y bytes mx rt).before a s = true := by
  simp only [Bool.and_eq_true, beq_iff_eq, Bool.not_eq_true', decide_eq_true_eq] at h5
  obtain ⟨⟨⟨⟨⟨g1, g2⟩, g3⟩, g4⟩, g5⟩, g6⟩ := h5
  simp [Cond.before, Cond.holds, Cond.value, h1, h2, h3, h4, g1, g2, g3, g4, g5, g6]
def isCode : Jvm.Cond → Bool
  | .code _ _ _ _ => true
  | _ => false
theorem all_split {L : List Jvm.Cond} {P : Jvm.Cond → Bool} (h1 : L.all (fun c => isCode c || P c) = true) (h2 : ∀ c ∈ L.filter isCode, P c = true) : L.all P = true := by
  refine List.all_eq_true.mpr fun c hc => ?_
  have h := List.all_eq_true.mp h1 c hc
  rcases Bool.eq_false_or_eq_true (isCode c) with hi | hi
  · exact h2 c (List.mem_filter.mpr ⟨hc, hi⟩)
  · simpa [hi] using h
set_option maxRecDepth 65536 in
theorem w_c0 : (Jvm.Cond.code x code maxLocals ret).before args0 about1 = true := code_word (m := ⟨1, 1⟩) (meth := k1m1) (c := k1c1) (by decide +kernel) rfl rfl rfl (by decide +kernel)
set_option maxRecDepth 65536 in
theorem w_c1 : (Jvm.Cond.code ({ cls := "com/example/deposition/deposition/filter/Truth", name := "of", desc := "(Z)Lcom/example/deposition/deposition/filter/Truth;" } : Jvm.MethodName) prog_9_method_4_code (1 : Nat) (Option.some (Jvm.ClassFile.FieldType.object "com/example/deposition/deposition/filter/Truth"))).before args0 about1 = true := code_word (m := ⟨6, 0⟩) (meth := k6m0) (c := k6c0) (by decide +kernel) rfl rfl rfl (by decide +kernel)
set_option maxRecDepth 65536 in
theorem w_c2 : (Jvm.Cond.code ({ cls := "com/example/deposition/deposition/filter/Truth", name := "not", desc := "()Lcom/example/deposition/deposition/filter/Truth;" } : Jvm.MethodName) prog_9_method_5_code (1 : Nat) (Option.some (Jvm.ClassFile.FieldType.object "com/example/deposition/deposition/filter/Truth"))).before args0 about1 = true := code_word (m := ⟨6, 1⟩) (meth := k6m1) (c := k6c1) (by decide +kernel) rfl rfl rfl (by decide +kernel)
set_option maxRecDepth 65536 in
theorem w_c3 : (Jvm.Cond.code ({ cls := "java/lang/Enum", name := "ordinal", desc := "()I" } : Jvm.MethodName) jdk_37_method_2_code (1 : Nat) (Option.some Jvm.ClassFile.FieldType.int)).before args0 about1 = true := code_word (m := ⟨5, 0⟩) (meth := k5m0) (c := k5c0) (by decide +kernel) rfl rfl rfl (by decide +kernel)
set_option maxRecDepth 65536 in
theorem w_c4 : (Jvm.Cond.code ({ cls := "com/example/deposition/deposition/filter/Truth", name := "and", desc := "(Lcom/example/deposition/deposition/filter/Truth;)Lcom/example/deposition/deposition/filter/Truth;" } : Jvm.MethodName) prog_9_method_6_code (2 : Nat) (Option.some (Jvm.ClassFile.FieldType.object "com/example/deposition/deposition/filter/Truth"))).before args0 about1 = true := code_word (m := ⟨6, 2⟩) (meth := k6m2) (c := k6c2) (by decide +kernel) rfl rfl rfl (by decide +kernel)
set_option maxRecDepth 65536 in
theorem w_c5 : (Jvm.Cond.code ({ cls := "java/lang/Enum", name := "compareTo", desc := "(Ljava/lang/Enum;)I" } : Jvm.MethodName) jdk_37_method_8_code (4 : Nat) (Option.some Jvm.ClassFile.FieldType.int)).before args0 about1 = true := code_word (m := ⟨5, 1⟩) (meth := k5m1) (c := k5c1) (by decide +kernel) rfl rfl rfl (by decide +kernel)
set_option maxRecDepth 65536 in
theorem w_c6 : (Jvm.Cond.code ({ cls := "com/example/deposition/deposition/filter/Truth", name := "or", desc := "(Lcom/example/deposition/deposition/filter/Truth;)Lcom/example/deposition/deposition/filter/Truth;" } : Jvm.MethodName) prog_9_method_7_code (2 : Nat) (Option.some (Jvm.ClassFile.FieldType.object "com/example/deposition/deposition/filter/Truth"))).before args0 about1 = true := code_word (m := ⟨6, 3⟩) (meth := k6m3) (c := k6c3) (by decide +kernel) rfl rfl rfl (by decide +kernel)
def codes1 : List Jvm.Cond := [Jvm.Cond.code x code maxLocals ret, Jvm.Cond.code ({ cls := "com/example/deposition/deposition/filter/Truth", name := "of", desc := "(Z)Lcom/example/deposition/deposition/filter/Truth;" } : Jvm.MethodName) prog_9_method_4_code (1 : Nat) (Option.some (Jvm.ClassFile.FieldType.object "com/example/deposition/deposition/filter/Truth")), Jvm.Cond.code ({ cls := "com/example/deposition/deposition/filter/Truth", name := "not", desc := "()Lcom/example/deposition/deposition/filter/Truth;" } : Jvm.MethodName) prog_9_method_5_code (1 : Nat) (Option.some (Jvm.ClassFile.FieldType.object "com/example/deposition/deposition/filter/Truth")), Jvm.Cond.code ({ cls := "java/lang/Enum", name := "ordinal", desc := "()I" } : Jvm.MethodName) jdk_37_method_2_code (1 : Nat) (Option.some Jvm.ClassFile.FieldType.int), Jvm.Cond.code ({ cls := "com/example/deposition/deposition/filter/Truth", name := "and", desc := "(Lcom/example/deposition/deposition/filter/Truth;)Lcom/example/deposition/deposition/filter/Truth;" } : Jvm.MethodName) prog_9_method_6_code (2 : Nat) (Option.some (Jvm.ClassFile.FieldType.object "com/example/deposition/deposition/filter/Truth")), Jvm.Cond.code ({ cls := "java/lang/Enum", name := "compareTo", desc := "(Ljava/lang/Enum;)I" } : Jvm.MethodName) jdk_37_method_8_code (4 : Nat) (Option.some Jvm.ClassFile.FieldType.int), Jvm.Cond.code ({ cls := "com/example/deposition/deposition/filter/Truth", name := "or", desc := "(Lcom/example/deposition/deposition/filter/Truth;)Lcom/example/deposition/deposition/filter/Truth;" } : Jvm.MethodName) prog_9_method_7_code (2 : Nat) (Option.some (Jvm.ClassFile.FieldType.object "com/example/deposition/deposition/filter/Truth"))]
set_option maxRecDepth 65536 in
theorem codes_eq : words1.filter isCode = codes1 := rfl
theorem w_codes : ∀ c ∈ words1.filter isCode, c.before args0 about1 = true := by
  rw [codes_eq]
  intro c hc
  simp only [codes1, List.mem_cons, List.not_mem_nil, or_false] at hc
  rcases hc with rfl | rfl | rfl | rfl | rfl | rfl | rfl
  · exact w_c0
  · exact w_c1
  · exact w_c2
  · exact w_c3
  · exact w_c4
  · exact w_c5
  · exact w_c6
set_option maxRecDepth 65536 in
theorem w_t1 : (words1.take 24).all (fun c => isCode c || c.before args0 about1) = true := by decide +kernel
set_option maxRecDepth 65536 in
theorem w_t2 : ((words1.drop 24).take 24).all (fun c => isCode c || c.before args0 about1) = true := by decide +kernel
set_option maxRecDepth 65536 in
theorem w_t3 : ((words1.drop 24).drop 24).all (fun c => isCode c || c.before args0 about1) = true := by decide +kernel
theorem w_tables : (allAtoms (Jvm.Cond.code x code maxLocals ret :: tables_1)).before args0 about1 = true := by
  rw [allAtoms_all]
  show words1.all (fun c => c.before args0 about1) = true
  refine all_split ?_ w_codes
  rw [← List.take_append_drop 24 words1, List.all_append, w_t1, ← List.take_append_drop 24 (words1.drop 24), List.all_append, w_t2, w_t3]
  rfl
set_option maxRecDepth 65536 in
theorem w_case : (Jvm.Cond.and given_1 narrow_1).before args0 about1 = true := by decide +kernel
theorem w_applies : (headSpec (Jvm.Cond.code x code maxLocals ret :: tables_1) room_1).applies x e0.platform about1 = true :=
  (Spec.applies_iff w_frames).mpr ⟨w_running, w_runnable, w_alone, w_named, w_hears, w_ripe, w_room, w_tables⟩
theorem atStart : AtStart classFile x code maxLocals ret World_1 tables_1 room_1 Calls_1 rest_1 Pre_1 launch0 p0 e0 about1 theMethod args0 below0 :=
  ⟨lists_1, trivial, launch0.admits_env _ _ _, launch0.least_env, fairChoices_fair.cas, fairChoices_fair.clock, w_frames, w_args, w_heap, w_applies, ⟨⟨6, k6, 1, by decide +kernel, rfl, rfl, _, rfl, rfl⟩, trivial⟩, trivial, w_case⟩
end start1
theorem witness_1 : WitnessClaimed_1 := ⟨start1.p0, start1.e0, start1.about1, start1.theMethod, start1.args0, start1.below0, start1.atStart⟩
end Jvm.Pilot.@@N@@
