import JvmDerived
import JvmDerived.Pilot.@@N@@Statement
import JvmDerived.Pilot.@@N@@Code
set_option linter.unusedVariables false
set_option linter.unusedSimpArgs false
namespace Jvm.RoadKit
open Sem ClassFile Op Lib Jvm.Stand Jvm.Free Jvm.LawKit
section New
variable {p : Program} {l : Launch} {e : Env} {R : Room} {s : State} {m : MethodId} {args : Array Value} {below : List Frame} {meth : Method} {c : Code} {T : State} {locs : List Loc} {cells slots : Nat}
theorem retI (X : Stand p l e R s m args below meth c T locs cells slots) (hx : p.tables.exec = Jvm.exec) {pc : Nat} {Ls : Array Slot} {z : Int32} {rest : List Value} (hret : meth.sig.returnType = some .int) (hd : decode c.code pc = .ok (.ireturn, 1)) {fs : List Frame}
    (hl : ∀ (f : JFrame) (acts : List Action), f.method = m → f.locked = none → f.entered = [] → (doReturn e (T.setTop f) acts (some (.int z))).1 = T.setFrames fs) : Steps p.tables e below (T.setTop (mkF m pc Ls (.int z :: rest))) (T.setFrames fs) := by
  have hm' : T.vm.method? m = some meth := X.method'
  have hn : narrow .int (.int z) = .int z := rfl
  show Steps p.tables e below (T.setTop { method := m, pc := pc, locals := Ls, stack := _ :: rest, locked := none }) _
  jvm_step X.here [X.here.top, hx, hd, hm', hret, hn]
  first | (intro acts; rw [hl _ acts rfl rfl rfl]) | rw [hl _ _ rfl rfl rfl]
  exact Steps.refl _
theorem Arr.at_ {Z : State} {h : Heap} {a : Addr} {cl : Cell} {ty : FieldType} (A : Arr Z h a cl ty) {U : State} (q : U.heap = h) : U.heap[a]? = some cl := by rw [q]; exact A.1
end New
end Jvm.RoadKit
namespace Jvm.Pilot.@@N@@
open Jvm Jvm.ClassFile Sem Op Lib Jvm.Free Jvm.Stand Jvm.LawKit Jvm.RoadKit Bundle Jvm.Pilot.@@N@@.Jvm.D
theorem own_eqI {args : Array Value} {first s : State} {o : Option Outcome} {idx : List Nat} {t : Term} {n : Int32} (h : (Jvm.Cond.eq t (.int n)).value args first o s idx = some true) : t.eval args first o idx s = some (.int n) := by
  cases ht : t.eval args first o idx s with
  | none => simp [Jvm.Cond.value, Term.eval, ht] at h
  | some x => cases x <;> simp [Jvm.Cond.value, Term.eval, ht] at h ⊢; exact h
theorem own_eqL {args : Array Value} {first s : State} {o : Option Outcome} {idx : List Nat} {t : Term} {n : Int64} (h : (Jvm.Cond.eq t (.long n)).value args first o s idx = some true) : t.eval args first o idx s = some (.long n) := by
  cases ht : t.eval args first o idx s with
  | none => simp [Jvm.Cond.value, Term.eval, ht] at h
  | some x => cases x <;> simp [Jvm.Cond.value, Term.eval, ht] at h ⊢; exact h
theorem own_fld {args : Array Value} {Z : State} {t : Term} {a : Addr} {C n d : String} {v : Value} (ht : t.eval args Z none [] Z = some (.ref a)) (h : (Term.field t C n d).eval args Z none [] Z = some v) : Fld Z Z.heap a C n d v := Fld.start ((fld_at ht).symm.trans h)
theorem own_exa {args : Array Value} {Z : State} {t : Term} {C : String} (h : (Jvm.Cond.exactly t C).value args Z none Z [] = some true) : ∃ a, t.eval args Z none [] Z = some (.ref a) ∧ Exa Z Z.heap a C := by
  obtain ⟨a, e⟩ := exa_v h
  exact ⟨a, e, Exa.start e h⟩
def minJ (x y : Int64) : Int64 := if (0 : Int32) < lcmpW x y then y else x
def maxJ (x y : Int64) : Int64 := if lcmpW x y < (0 : Int32) then y else x
def maxI (x y : Int32) : Int32 := if x < y then y else x
def mostV (q : Int64) : Int32 := (maxJ ((8 : Int32).toInt64) (minJ (65536 : Int64) ((q / (4 : Int64)) / (65536 : Int64)))).toInt32
def expV1 (q : Int64) : Int64 := if lcmpW q (262144 : Int64) < (0 : Int32) then (0 : Int64) else (q / (262144 : Int64))
def expV2 (t : Int64) : Int64 := if (0 : Int32) < lcmpW t (65536 : Int64) then (65536 : Int64) else t
def expV3 (t : Int64) (f : Int32) : Int64 := if lcmpW t f.toInt64 < (0 : Int32) then f.toInt64 else t
def expV (q : Int64) (f : Int32) : Int32 := (expV3 (expV2 (expV1 q)) f).toInt32
def Q_minR (Z : State) (x : Int64) (y : Int64) (h0 : Heap) (n0 : Nat) (v : Option Value) (h : Heap) (L : List Loc) : Prop := v = some (.long (minJ x y)) ∧ Fr n0 L ∧ h = h0
theorem d1_0 : decode jdk_29_method_70_code 0 = .ok (.lload_n 0, 1) := by decide +kernel
theorem d1_1 : decode jdk_29_method_70_code 1 = .ok (.lload_n 2, 1) := by decide +kernel
theorem d1_2 : decode jdk_29_method_70_code 2 = .ok (.lcmp, 1) := by decide +kernel
theorem d1_3 : decode jdk_29_method_70_code 3 = .ok (.ifCond .gt 7, 3) := by decide +kernel
theorem d1_10 : decode jdk_29_method_70_code 10 = .ok (.lload_n 2, 1) := by decide +kernel
theorem d1_11 : decode jdk_29_method_70_code 11 = .ok (.lreturn, 1) := by decide +kernel
theorem ef_1_JJ (m : MethodId) (x0 : Int64) (x1 : Int64) : entryFrame m #[(.long x0), (.long x1)] 4 = mkF m 0 #[.val (.long x0), .second, .val (.long x1), .second] [] := by first | (simp [entryFrame, mkF, argsToLocals, Value.category]; done) | rfl
set_option maxRecDepth 65536 in
set_option maxHeartbeats 40000000 in
theorem minR_1 (l : Launch) (Z : State) (a0 : Array Value) (hw : ∀ d ∈ tables_1, d.before a0 Z = true) (ws : List Jvm.Cond) (x : Int64) (y : Int64) (h0 : Heap) (n0 : Nat) (O0 : Old Z n0 h0) (hc3 : (0 : Int32) < (lcmpW x y)) :
    MetFree l (⟨"java/lang/Math", "min", "(JJ)J"⟩ : MethodName) (head1 (Jvm.Cond.code (⟨"java/lang/Math", "min", "(JJ)J"⟩ : MethodName) jdk_29_method_70_code 4 (some .long) :: ws) ({ frames := 0, cells := 0, slots := 0, locals := 0 } : Room)) (fun zA zU => zA = #[(.long x), (.long y)] ∧ Z.Warmed39 zU.vm ∧ zU.heap = h0) (fun _ _ _ _ _ => True) (fun _ zU zo zU' => ∃ zv zL, zo = .returned zv ∧ Q_minR Z x y h0 n0 zv zU'.heap zL ∧ FrameEnd zU zo zU' zL ({ frames := 0, cells := 0, slots := 0, locals := 0 } : Room).cells ({ frames := 0, cells := 0, slots := 0, locals := 0 } : Room).slots) := by
  refine MetFree.of_bodySF (Jvm.Free.JP.mathPlain rfl (by decide +kernel)) hisR ?_
  intro p e s m args below meth c s₁ Bd hml0 hP hK
  obtain ⟨rfl, hZ, hh⟩ := hP
  have hx := Bd.exec
  have hby := Bd.bytes
  have hml : c.maxLocals = 4 := hml0
  have hown : s.vm.findClass "java/lang/Math" = some m.cls := findClass_of_methodNamed Bd.named
  have hnm := (name_of_methodNamed Bd.named Bd.method).1
  have X0 : Stand p l e ({ frames := 0, cells := 0, slots := 0, locals := 0 } : Room) s m #[(.long x), (.long y)] below meth c s₁ [] 0 0 := Stand.of_body Bd
  have e0 : s₁.heap = h0 := by rw [← hh, Bd.state]; rfl
  have N0 := Fr.nil n0
  have Z0 : n0 ≤ h0.size := O0.1 ▸ O0.2.1
  have pre0 : ∀ zt, Steps p.tables e below (s₁.setTop (mkF m 0 #[.val (.long x), .second, .val (.long y), .second] [])) zt → Steps p.tables e below (s₁.setTop (entryFrame m #[(.long x), (.long y)] 4)) zt := fun zt zk => castTop (ef_1_JJ m x y) zk
  obtain ⟨fs, hr, hrun, hended, hW, hsame⟩ := X0.leave (v := some (.long y)) (fun h => by rw [Bd.returns] at h; cases h)
  refine ⟨_, _, pre0 _ ?_, hrun, hended, _, _, rfl, ?_, ⟨_, rfl⟩, hW, hsame.mono (by decide) (by decide)⟩
  · show Steps p.tables e below (s₁.setTop (mkF m 0 #[.val (.long x), .second, .val (.long y), .second] [])) _
    refine XS.lloadN X0.here hx rfl (hb hby d1_0) rfl ?_
    show Steps p.tables e below (s₁.setTop (mkF m 1 #[.val (.long x), .second, .val (.long y), .second] [(.long x)])) _
    refine XS.lloadN X0.here hx rfl (hb hby d1_1) rfl ?_
    show Steps p.tables e below (s₁.setTop (mkF m 2 #[.val (.long x), .second, .val (.long y), .second] [(.long y), (.long x)])) _
    refine XS.lcmp X0.here hx rfl (hb hby d1_2) rfl ?_
    show Steps p.tables e below (s₁.setTop (mkF m 3 #[.val (.long x), .second, .val (.long y), .second] [(.int (lcmpW x y))])) _
    refine XS.ifYes X0.here hx rfl (pc0 := 3) (pc' := 10) rfl (hb hby d1_3) rfl ((if0 _ _).trans (tlt (hc3 : (0 : Int32) < (lcmpW x y))).2.2.1) (by decide) (by decide) ?_
    show Steps p.tables e below (s₁.setTop (mkF m 10 #[.val (.long x), .second, .val (.long y), .second] [])) _
    refine XS.lloadN X0.here hx rfl (hb hby d1_10) rfl ?_
    show Steps p.tables e below (s₁.setTop (mkF m 11 #[.val (.long x), .second, .val (.long y), .second] [(.long y)])) _
    jvm_step X0.here [X0.here.top, hx, (hb hby d1_11), X0.method', Bd.returns, narrow]
    first | (intro acts; rw [hr _ acts rfl rfl rfl]) | rw [hr _ _ rfl rfl rfl]
    exact Steps.refl _
  · show Q_minR Z x y h0 n0 _ s₁.heap _
    rw [e0]
    exact ⟨by rw [minJ, if_pos hc3], N0, rfl⟩
theorem d1_6 : decode jdk_29_method_70_code 6 = .ok (.lload_n 0, 1) := by decide +kernel
theorem d1_7 : decode jdk_29_method_70_code 7 = .ok (.goto 4, 3) := by decide +kernel
set_option maxRecDepth 65536 in
set_option maxHeartbeats 40000000 in
theorem minR_2 (l : Launch) (Z : State) (a0 : Array Value) (hw : ∀ d ∈ tables_1, d.before a0 Z = true) (ws : List Jvm.Cond) (x : Int64) (y : Int64) (h0 : Heap) (n0 : Nat) (O0 : Old Z n0 h0) (hc3 : ¬ ((0 : Int32) < (lcmpW x y))) :
    MetFree l (⟨"java/lang/Math", "min", "(JJ)J"⟩ : MethodName) (head1 (Jvm.Cond.code (⟨"java/lang/Math", "min", "(JJ)J"⟩ : MethodName) jdk_29_method_70_code 4 (some .long) :: ws) ({ frames := 0, cells := 0, slots := 0, locals := 0 } : Room)) (fun zA zU => zA = #[(.long x), (.long y)] ∧ Z.Warmed39 zU.vm ∧ zU.heap = h0) (fun _ _ _ _ _ => True) (fun _ zU zo zU' => ∃ zv zL, zo = .returned zv ∧ Q_minR Z x y h0 n0 zv zU'.heap zL ∧ FrameEnd zU zo zU' zL ({ frames := 0, cells := 0, slots := 0, locals := 0 } : Room).cells ({ frames := 0, cells := 0, slots := 0, locals := 0 } : Room).slots) := by
  refine MetFree.of_bodySF (Jvm.Free.JP.mathPlain rfl (by decide +kernel)) hisR ?_
  intro p e s m args below meth c s₁ Bd hml0 hP hK
  obtain ⟨rfl, hZ, hh⟩ := hP
  have hx := Bd.exec
  have hby := Bd.bytes
  have hml : c.maxLocals = 4 := hml0
  have hown : s.vm.findClass "java/lang/Math" = some m.cls := findClass_of_methodNamed Bd.named
  have hnm := (name_of_methodNamed Bd.named Bd.method).1
  have X0 : Stand p l e ({ frames := 0, cells := 0, slots := 0, locals := 0 } : Room) s m #[(.long x), (.long y)] below meth c s₁ [] 0 0 := Stand.of_body Bd
  have e0 : s₁.heap = h0 := by rw [← hh, Bd.state]; rfl
  have N0 := Fr.nil n0
  have Z0 : n0 ≤ h0.size := O0.1 ▸ O0.2.1
  have pre0 : ∀ zt, Steps p.tables e below (s₁.setTop (mkF m 0 #[.val (.long x), .second, .val (.long y), .second] [])) zt → Steps p.tables e below (s₁.setTop (entryFrame m #[(.long x), (.long y)] 4)) zt := fun zt zk => castTop (ef_1_JJ m x y) zk
  obtain ⟨fs, hr, hrun, hended, hW, hsame⟩ := X0.leave (v := some (.long x)) (fun h => by rw [Bd.returns] at h; cases h)
  refine ⟨_, _, pre0 _ ?_, hrun, hended, _, _, rfl, ?_, ⟨_, rfl⟩, hW, hsame.mono (by decide) (by decide)⟩
  · show Steps p.tables e below (s₁.setTop (mkF m 0 #[.val (.long x), .second, .val (.long y), .second] [])) _
    refine XS.lloadN X0.here hx rfl (hb hby d1_0) rfl ?_
    show Steps p.tables e below (s₁.setTop (mkF m 1 #[.val (.long x), .second, .val (.long y), .second] [(.long x)])) _
    refine XS.lloadN X0.here hx rfl (hb hby d1_1) rfl ?_
    show Steps p.tables e below (s₁.setTop (mkF m 2 #[.val (.long x), .second, .val (.long y), .second] [(.long y), (.long x)])) _
    refine XS.lcmp X0.here hx rfl (hb hby d1_2) rfl ?_
    show Steps p.tables e below (s₁.setTop (mkF m 3 #[.val (.long x), .second, .val (.long y), .second] [(.int (lcmpW x y))])) _
    refine XS.ifNo X0.here hx rfl (hb hby d1_3) rfl ((if0 _ _).trans (flt (hc3 : ¬ ((0 : Int32) < (lcmpW x y)))).2.2.1) ?_
    show Steps p.tables e below (s₁.setTop (mkF m 6 #[.val (.long x), .second, .val (.long y), .second] [])) _
    refine XS.lloadN X0.here hx rfl (hb hby d1_6) rfl ?_
    show Steps p.tables e below (s₁.setTop (mkF m 7 #[.val (.long x), .second, .val (.long y), .second] [(.long x)])) _
    refine XS.goto X0.here hx rfl (pc0 := 7) (pc' := 11) rfl (hb hby d1_7) (by decide) (by decide) ?_
    show Steps p.tables e below (s₁.setTop (mkF m 11 #[.val (.long x), .second, .val (.long y), .second] [(.long x)])) _
    jvm_step X0.here [X0.here.top, hx, (hb hby d1_11), X0.method', Bd.returns, narrow]
    first | (intro acts; rw [hr _ acts rfl rfl rfl]) | rw [hr _ _ rfl rfl rfl]
    exact Steps.refl _
  · show Q_minR Z x y h0 n0 _ s₁.heap _
    rw [e0]
    exact ⟨by rw [minJ, if_neg hc3], N0, rfl⟩
set_option maxRecDepth 65536 in
set_option maxHeartbeats 40000000 in
theorem minR (l : Launch) (Z : State) (a0 : Array Value) (hw : ∀ d ∈ tables_1, d.before a0 Z = true) (ws : List Jvm.Cond) (x : Int64) (y : Int64) (h0 : Heap) (n0 : Nat) (O0 : Old Z n0 h0) :
    MetFree l (⟨"java/lang/Math", "min", "(JJ)J"⟩ : MethodName) (head1 (Jvm.Cond.code (⟨"java/lang/Math", "min", "(JJ)J"⟩ : MethodName) jdk_29_method_70_code 4 (some .long) :: ws) ({ frames := 0, cells := 0, slots := 0, locals := 0 } : Room)) (fun zA zU => zA = #[(.long x), (.long y)] ∧ Z.Warmed39 zU.vm ∧ zU.heap = h0) (fun _ _ _ _ _ => True) (fun _ zU zo zU' => ∃ zv zL, zo = .returned zv ∧ Q_minR Z x y h0 n0 zv zU'.heap zL ∧ FrameEnd zU zo zU' zL ({ frames := 0, cells := 0, slots := 0, locals := 0 } : Room).cells ({ frames := 0, cells := 0, slots := 0, locals := 0 } : Room).slots) := by
  by_cases h1 : (0 : Int32) < (lcmpW x y)
  · exact minR_1 l Z a0 hw ws x y h0 n0 O0  h1
  · exact minR_2 l Z a0 hw ws x y h0 n0 O0  h1
def Q_maxR (Z : State) (x : Int64) (y : Int64) (h0 : Heap) (n0 : Nat) (v : Option Value) (h : Heap) (L : List Loc) : Prop := v = some (.long (maxJ x y)) ∧ Fr n0 L ∧ h = h0
theorem d2_0 : decode jdk_29_method_66_code 0 = .ok (.lload_n 0, 1) := by decide +kernel
theorem d2_1 : decode jdk_29_method_66_code 1 = .ok (.lload_n 2, 1) := by decide +kernel
theorem d2_2 : decode jdk_29_method_66_code 2 = .ok (.lcmp, 1) := by decide +kernel
theorem d2_3 : decode jdk_29_method_66_code 3 = .ok (.ifCond .lt 7, 3) := by decide +kernel
theorem d2_10 : decode jdk_29_method_66_code 10 = .ok (.lload_n 2, 1) := by decide +kernel
theorem d2_11 : decode jdk_29_method_66_code 11 = .ok (.lreturn, 1) := by decide +kernel
theorem ef_2_JJ (m : MethodId) (x0 : Int64) (x1 : Int64) : entryFrame m #[(.long x0), (.long x1)] 4 = mkF m 0 #[.val (.long x0), .second, .val (.long x1), .second] [] := by first | (simp [entryFrame, mkF, argsToLocals, Value.category]; done) | rfl
set_option maxRecDepth 65536 in
set_option maxHeartbeats 40000000 in
theorem maxR_1 (l : Launch) (Z : State) (a0 : Array Value) (hw : ∀ d ∈ tables_1, d.before a0 Z = true) (ws : List Jvm.Cond) (x : Int64) (y : Int64) (h0 : Heap) (n0 : Nat) (O0 : Old Z n0 h0) (hc3 : (lcmpW x y) < (0 : Int32)) :
    MetFree l (⟨"java/lang/Math", "max", "(JJ)J"⟩ : MethodName) (head1 (Jvm.Cond.code (⟨"java/lang/Math", "max", "(JJ)J"⟩ : MethodName) jdk_29_method_66_code 4 (some .long) :: ws) ({ frames := 0, cells := 0, slots := 0, locals := 0 } : Room)) (fun zA zU => zA = #[(.long x), (.long y)] ∧ Z.Warmed39 zU.vm ∧ zU.heap = h0) (fun _ _ _ _ _ => True) (fun _ zU zo zU' => ∃ zv zL, zo = .returned zv ∧ Q_maxR Z x y h0 n0 zv zU'.heap zL ∧ FrameEnd zU zo zU' zL ({ frames := 0, cells := 0, slots := 0, locals := 0 } : Room).cells ({ frames := 0, cells := 0, slots := 0, locals := 0 } : Room).slots) := by
  refine MetFree.of_bodySF (Jvm.Free.JP.mathPlain rfl (by decide +kernel)) hisR ?_
  intro p e s m args below meth c s₁ Bd hml0 hP hK
  obtain ⟨rfl, hZ, hh⟩ := hP
  have hx := Bd.exec
  have hby := Bd.bytes
  have hml : c.maxLocals = 4 := hml0
  have hown : s.vm.findClass "java/lang/Math" = some m.cls := findClass_of_methodNamed Bd.named
  have hnm := (name_of_methodNamed Bd.named Bd.method).1
  have X0 : Stand p l e ({ frames := 0, cells := 0, slots := 0, locals := 0 } : Room) s m #[(.long x), (.long y)] below meth c s₁ [] 0 0 := Stand.of_body Bd
  have e0 : s₁.heap = h0 := by rw [← hh, Bd.state]; rfl
  have N0 := Fr.nil n0
  have Z0 : n0 ≤ h0.size := O0.1 ▸ O0.2.1
  have pre0 : ∀ zt, Steps p.tables e below (s₁.setTop (mkF m 0 #[.val (.long x), .second, .val (.long y), .second] [])) zt → Steps p.tables e below (s₁.setTop (entryFrame m #[(.long x), (.long y)] 4)) zt := fun zt zk => castTop (ef_2_JJ m x y) zk
  obtain ⟨fs, hr, hrun, hended, hW, hsame⟩ := X0.leave (v := some (.long y)) (fun h => by rw [Bd.returns] at h; cases h)
  refine ⟨_, _, pre0 _ ?_, hrun, hended, _, _, rfl, ?_, ⟨_, rfl⟩, hW, hsame.mono (by decide) (by decide)⟩
  · show Steps p.tables e below (s₁.setTop (mkF m 0 #[.val (.long x), .second, .val (.long y), .second] [])) _
    refine XS.lloadN X0.here hx rfl (hb hby d2_0) rfl ?_
    show Steps p.tables e below (s₁.setTop (mkF m 1 #[.val (.long x), .second, .val (.long y), .second] [(.long x)])) _
    refine XS.lloadN X0.here hx rfl (hb hby d2_1) rfl ?_
    show Steps p.tables e below (s₁.setTop (mkF m 2 #[.val (.long x), .second, .val (.long y), .second] [(.long y), (.long x)])) _
    refine XS.lcmp X0.here hx rfl (hb hby d2_2) rfl ?_
    show Steps p.tables e below (s₁.setTop (mkF m 3 #[.val (.long x), .second, .val (.long y), .second] [(.int (lcmpW x y))])) _
    refine XS.ifYes X0.here hx rfl (pc0 := 3) (pc' := 10) rfl (hb hby d2_3) rfl ((if0 _ _).trans (tlt (hc3 : (lcmpW x y) < (0 : Int32))).1) (by decide) (by decide) ?_
    show Steps p.tables e below (s₁.setTop (mkF m 10 #[.val (.long x), .second, .val (.long y), .second] [])) _
    refine XS.lloadN X0.here hx rfl (hb hby d2_10) rfl ?_
    show Steps p.tables e below (s₁.setTop (mkF m 11 #[.val (.long x), .second, .val (.long y), .second] [(.long y)])) _
    jvm_step X0.here [X0.here.top, hx, (hb hby d2_11), X0.method', Bd.returns, narrow]
    first | (intro acts; rw [hr _ acts rfl rfl rfl]) | rw [hr _ _ rfl rfl rfl]
    exact Steps.refl _
  · show Q_maxR Z x y h0 n0 _ s₁.heap _
    rw [e0]
    exact ⟨by rw [maxJ, if_pos hc3], N0, rfl⟩
theorem d2_6 : decode jdk_29_method_66_code 6 = .ok (.lload_n 0, 1) := by decide +kernel
theorem d2_7 : decode jdk_29_method_66_code 7 = .ok (.goto 4, 3) := by decide +kernel
set_option maxRecDepth 65536 in
set_option maxHeartbeats 40000000 in
theorem maxR_2 (l : Launch) (Z : State) (a0 : Array Value) (hw : ∀ d ∈ tables_1, d.before a0 Z = true) (ws : List Jvm.Cond) (x : Int64) (y : Int64) (h0 : Heap) (n0 : Nat) (O0 : Old Z n0 h0) (hc3 : ¬ ((lcmpW x y) < (0 : Int32))) :
    MetFree l (⟨"java/lang/Math", "max", "(JJ)J"⟩ : MethodName) (head1 (Jvm.Cond.code (⟨"java/lang/Math", "max", "(JJ)J"⟩ : MethodName) jdk_29_method_66_code 4 (some .long) :: ws) ({ frames := 0, cells := 0, slots := 0, locals := 0 } : Room)) (fun zA zU => zA = #[(.long x), (.long y)] ∧ Z.Warmed39 zU.vm ∧ zU.heap = h0) (fun _ _ _ _ _ => True) (fun _ zU zo zU' => ∃ zv zL, zo = .returned zv ∧ Q_maxR Z x y h0 n0 zv zU'.heap zL ∧ FrameEnd zU zo zU' zL ({ frames := 0, cells := 0, slots := 0, locals := 0 } : Room).cells ({ frames := 0, cells := 0, slots := 0, locals := 0 } : Room).slots) := by
  refine MetFree.of_bodySF (Jvm.Free.JP.mathPlain rfl (by decide +kernel)) hisR ?_
  intro p e s m args below meth c s₁ Bd hml0 hP hK
  obtain ⟨rfl, hZ, hh⟩ := hP
  have hx := Bd.exec
  have hby := Bd.bytes
  have hml : c.maxLocals = 4 := hml0
  have hown : s.vm.findClass "java/lang/Math" = some m.cls := findClass_of_methodNamed Bd.named
  have hnm := (name_of_methodNamed Bd.named Bd.method).1
  have X0 : Stand p l e ({ frames := 0, cells := 0, slots := 0, locals := 0 } : Room) s m #[(.long x), (.long y)] below meth c s₁ [] 0 0 := Stand.of_body Bd
  have e0 : s₁.heap = h0 := by rw [← hh, Bd.state]; rfl
  have N0 := Fr.nil n0
  have Z0 : n0 ≤ h0.size := O0.1 ▸ O0.2.1
  have pre0 : ∀ zt, Steps p.tables e below (s₁.setTop (mkF m 0 #[.val (.long x), .second, .val (.long y), .second] [])) zt → Steps p.tables e below (s₁.setTop (entryFrame m #[(.long x), (.long y)] 4)) zt := fun zt zk => castTop (ef_2_JJ m x y) zk
  obtain ⟨fs, hr, hrun, hended, hW, hsame⟩ := X0.leave (v := some (.long x)) (fun h => by rw [Bd.returns] at h; cases h)
  refine ⟨_, _, pre0 _ ?_, hrun, hended, _, _, rfl, ?_, ⟨_, rfl⟩, hW, hsame.mono (by decide) (by decide)⟩
  · show Steps p.tables e below (s₁.setTop (mkF m 0 #[.val (.long x), .second, .val (.long y), .second] [])) _
    refine XS.lloadN X0.here hx rfl (hb hby d2_0) rfl ?_
    show Steps p.tables e below (s₁.setTop (mkF m 1 #[.val (.long x), .second, .val (.long y), .second] [(.long x)])) _
    refine XS.lloadN X0.here hx rfl (hb hby d2_1) rfl ?_
    show Steps p.tables e below (s₁.setTop (mkF m 2 #[.val (.long x), .second, .val (.long y), .second] [(.long y), (.long x)])) _
    refine XS.lcmp X0.here hx rfl (hb hby d2_2) rfl ?_
    show Steps p.tables e below (s₁.setTop (mkF m 3 #[.val (.long x), .second, .val (.long y), .second] [(.int (lcmpW x y))])) _
    refine XS.ifNo X0.here hx rfl (hb hby d2_3) rfl ((if0 _ _).trans (flt (hc3 : ¬ ((lcmpW x y) < (0 : Int32)))).1) ?_
    show Steps p.tables e below (s₁.setTop (mkF m 6 #[.val (.long x), .second, .val (.long y), .second] [])) _
    refine XS.lloadN X0.here hx rfl (hb hby d2_6) rfl ?_
    show Steps p.tables e below (s₁.setTop (mkF m 7 #[.val (.long x), .second, .val (.long y), .second] [(.long x)])) _
    refine XS.goto X0.here hx rfl (pc0 := 7) (pc' := 11) rfl (hb hby d2_7) (by decide) (by decide) ?_
    show Steps p.tables e below (s₁.setTop (mkF m 11 #[.val (.long x), .second, .val (.long y), .second] [(.long x)])) _
    jvm_step X0.here [X0.here.top, hx, (hb hby d2_11), X0.method', Bd.returns, narrow]
    first | (intro acts; rw [hr _ acts rfl rfl rfl]) | rw [hr _ _ rfl rfl rfl]
    exact Steps.refl _
  · show Q_maxR Z x y h0 n0 _ s₁.heap _
    rw [e0]
    exact ⟨by rw [maxJ, if_neg hc3], N0, rfl⟩
set_option maxRecDepth 65536 in
set_option maxHeartbeats 40000000 in
theorem maxR (l : Launch) (Z : State) (a0 : Array Value) (hw : ∀ d ∈ tables_1, d.before a0 Z = true) (ws : List Jvm.Cond) (x : Int64) (y : Int64) (h0 : Heap) (n0 : Nat) (O0 : Old Z n0 h0) :
    MetFree l (⟨"java/lang/Math", "max", "(JJ)J"⟩ : MethodName) (head1 (Jvm.Cond.code (⟨"java/lang/Math", "max", "(JJ)J"⟩ : MethodName) jdk_29_method_66_code 4 (some .long) :: ws) ({ frames := 0, cells := 0, slots := 0, locals := 0 } : Room)) (fun zA zU => zA = #[(.long x), (.long y)] ∧ Z.Warmed39 zU.vm ∧ zU.heap = h0) (fun _ _ _ _ _ => True) (fun _ zU zo zU' => ∃ zv zL, zo = .returned zv ∧ Q_maxR Z x y h0 n0 zv zU'.heap zL ∧ FrameEnd zU zo zU' zL ({ frames := 0, cells := 0, slots := 0, locals := 0 } : Room).cells ({ frames := 0, cells := 0, slots := 0, locals := 0 } : Room).slots) := by
  by_cases h1 : (lcmpW x y) < (0 : Int32)
  · exact maxR_1 l Z a0 hw ws x y h0 n0 O0  h1
  · exact maxR_2 l Z a0 hw ws x y h0 n0 O0  h1
def Q_maxIR (Z : State) (x : Int32) (y : Int32) (h0 : Heap) (n0 : Nat) (v : Option Value) (h : Heap) (L : List Loc) : Prop := v = some (.int (maxI x y)) ∧ Fr n0 L ∧ h = h0
theorem d3_0 : decode jdk_29_method_65_code 0 = .ok (.iload_n 0, 1) := by decide +kernel
theorem d3_1 : decode jdk_29_method_65_code 1 = .ok (.iload_n 1, 1) := by decide +kernel
theorem d3_2 : decode jdk_29_method_65_code 2 = .ok (.if_icmp .lt 7, 3) := by decide +kernel
theorem d3_9 : decode jdk_29_method_65_code 9 = .ok (.iload_n 1, 1) := by decide +kernel
theorem d3_10 : decode jdk_29_method_65_code 10 = .ok (.ireturn, 1) := by decide +kernel
theorem ef_3_II (m : MethodId) (x0 : Int32) (x1 : Int32) : entryFrame m #[(.int x0), (.int x1)] 2 = mkF m 0 #[.val (.int x0), .val (.int x1)] [] := by first | (simp [entryFrame, mkF, argsToLocals, Value.category]; done) | rfl
set_option maxRecDepth 65536 in
set_option maxHeartbeats 40000000 in
theorem maxIR_1 (l : Launch) (Z : State) (a0 : Array Value) (hw : ∀ d ∈ tables_1, d.before a0 Z = true) (ws : List Jvm.Cond) (x : Int32) (y : Int32) (h0 : Heap) (n0 : Nat) (O0 : Old Z n0 h0) (hc2 : x < y) :
    MetFree l (⟨"java/lang/Math", "max", "(II)I"⟩ : MethodName) (head1 (Jvm.Cond.code (⟨"java/lang/Math", "max", "(II)I"⟩ : MethodName) jdk_29_method_65_code 2 (some .int) :: ws) ({ frames := 0, cells := 0, slots := 0, locals := 0 } : Room)) (fun zA zU => zA = #[(.int x), (.int y)] ∧ Z.Warmed39 zU.vm ∧ zU.heap = h0) (fun _ _ _ _ _ => True) (fun _ zU zo zU' => ∃ zv zL, zo = .returned zv ∧ Q_maxIR Z x y h0 n0 zv zU'.heap zL ∧ FrameEnd zU zo zU' zL ({ frames := 0, cells := 0, slots := 0, locals := 0 } : Room).cells ({ frames := 0, cells := 0, slots := 0, locals := 0 } : Room).slots) := by
  refine MetFree.of_bodySF (Jvm.Free.JP.mathPlain rfl (by decide +kernel)) hisR ?_
  intro p e s m args below meth c s₁ Bd hml0 hP hK
  obtain ⟨rfl, hZ, hh⟩ := hP
  have hx := Bd.exec
  have hby := Bd.bytes
  have hml : c.maxLocals = 2 := hml0
  have hown : s.vm.findClass "java/lang/Math" = some m.cls := findClass_of_methodNamed Bd.named
  have hnm := (name_of_methodNamed Bd.named Bd.method).1
  have X0 : Stand p l e ({ frames := 0, cells := 0, slots := 0, locals := 0 } : Room) s m #[(.int x), (.int y)] below meth c s₁ [] 0 0 := Stand.of_body Bd
  have e0 : s₁.heap = h0 := by rw [← hh, Bd.state]; rfl
  have N0 := Fr.nil n0
  have Z0 : n0 ≤ h0.size := O0.1 ▸ O0.2.1
  have pre0 : ∀ zt, Steps p.tables e below (s₁.setTop (mkF m 0 #[.val (.int x), .val (.int y)] [])) zt → Steps p.tables e below (s₁.setTop (entryFrame m #[(.int x), (.int y)] 2)) zt := fun zt zk => castTop (ef_3_II m x y) zk
  obtain ⟨fs, hr, hrun, hended, hW, hsame⟩ := X0.leave (v := some (.int y)) (fun h => by rw [Bd.returns] at h; cases h)
  refine ⟨_, _, pre0 _ ?_, hrun, hended, _, _, rfl, ?_, ⟨_, rfl⟩, hW, hsame.mono (by decide) (by decide)⟩
  · show Steps p.tables e below (s₁.setTop (mkF m 0 #[.val (.int x), .val (.int y)] [])) _
    refine XS.iloadN X0.here hx rfl (hb hby d3_0) rfl ?_
    show Steps p.tables e below (s₁.setTop (mkF m 1 #[.val (.int x), .val (.int y)] [(.int x)])) _
    refine XS.iloadN X0.here hx rfl (hb hby d3_1) rfl ?_
    show Steps p.tables e below (s₁.setTop (mkF m 2 #[.val (.int x), .val (.int y)] [(.int y), (.int x)])) _
    refine XS.icmpYes X0.here hx rfl (pc0 := 2) (pc' := 9) rfl (hb hby d3_2) rfl (tlt (hc2 : x < y)).1 (by decide) (by decide) ?_
    show Steps p.tables e below (s₁.setTop (mkF m 9 #[.val (.int x), .val (.int y)] [])) _
    refine XS.iloadN X0.here hx rfl (hb hby d3_9) rfl ?_
    show Steps p.tables e below (s₁.setTop (mkF m 10 #[.val (.int x), .val (.int y)] [(.int y)])) _
    exact retI X0 hx Bd.returns (hb hby d3_10) hr
  · show Q_maxIR Z x y h0 n0 _ s₁.heap _
    rw [e0]
    exact ⟨by rw [maxI, if_pos hc2], N0, rfl⟩
theorem d3_5 : decode jdk_29_method_65_code 5 = .ok (.iload_n 0, 1) := by decide +kernel
theorem d3_6 : decode jdk_29_method_65_code 6 = .ok (.goto 4, 3) := by decide +kernel
set_option maxRecDepth 65536 in
set_option maxHeartbeats 40000000 in
theorem maxIR_2 (l : Launch) (Z : State) (a0 : Array Value) (hw : ∀ d ∈ tables_1, d.before a0 Z = true) (ws : List Jvm.Cond) (x : Int32) (y : Int32) (h0 : Heap) (n0 : Nat) (O0 : Old Z n0 h0) (hc2 : ¬ (x < y)) :
    MetFree l (⟨"java/lang/Math", "max", "(II)I"⟩ : MethodName) (head1 (Jvm.Cond.code (⟨"java/lang/Math", "max", "(II)I"⟩ : MethodName) jdk_29_method_65_code 2 (some .int) :: ws) ({ frames := 0, cells := 0, slots := 0, locals := 0 } : Room)) (fun zA zU => zA = #[(.int x), (.int y)] ∧ Z.Warmed39 zU.vm ∧ zU.heap = h0) (fun _ _ _ _ _ => True) (fun _ zU zo zU' => ∃ zv zL, zo = .returned zv ∧ Q_maxIR Z x y h0 n0 zv zU'.heap zL ∧ FrameEnd zU zo zU' zL ({ frames := 0, cells := 0, slots := 0, locals := 0 } : Room).cells ({ frames := 0, cells := 0, slots := 0, locals := 0 } : Room).slots) := by
  refine MetFree.of_bodySF (Jvm.Free.JP.mathPlain rfl (by decide +kernel)) hisR ?_
  intro p e s m args below meth c s₁ Bd hml0 hP hK
  obtain ⟨rfl, hZ, hh⟩ := hP
  have hx := Bd.exec
  have hby := Bd.bytes
  have hml : c.maxLocals = 2 := hml0
  have hown : s.vm.findClass "java/lang/Math" = some m.cls := findClass_of_methodNamed Bd.named
  have hnm := (name_of_methodNamed Bd.named Bd.method).1
  have X0 : Stand p l e ({ frames := 0, cells := 0, slots := 0, locals := 0 } : Room) s m #[(.int x), (.int y)] below meth c s₁ [] 0 0 := Stand.of_body Bd
  have e0 : s₁.heap = h0 := by rw [← hh, Bd.state]; rfl
  have N0 := Fr.nil n0
  have Z0 : n0 ≤ h0.size := O0.1 ▸ O0.2.1
  have pre0 : ∀ zt, Steps p.tables e below (s₁.setTop (mkF m 0 #[.val (.int x), .val (.int y)] [])) zt → Steps p.tables e below (s₁.setTop (entryFrame m #[(.int x), (.int y)] 2)) zt := fun zt zk => castTop (ef_3_II m x y) zk
  obtain ⟨fs, hr, hrun, hended, hW, hsame⟩ := X0.leave (v := some (.int x)) (fun h => by rw [Bd.returns] at h; cases h)
  refine ⟨_, _, pre0 _ ?_, hrun, hended, _, _, rfl, ?_, ⟨_, rfl⟩, hW, hsame.mono (by decide) (by decide)⟩
  · show Steps p.tables e below (s₁.setTop (mkF m 0 #[.val (.int x), .val (.int y)] [])) _
    refine XS.iloadN X0.here hx rfl (hb hby d3_0) rfl ?_
    show Steps p.tables e below (s₁.setTop (mkF m 1 #[.val (.int x), .val (.int y)] [(.int x)])) _
    refine XS.iloadN X0.here hx rfl (hb hby d3_1) rfl ?_
    show Steps p.tables e below (s₁.setTop (mkF m 2 #[.val (.int x), .val (.int y)] [(.int y), (.int x)])) _
    refine XS.icmpNo X0.here hx rfl (hb hby d3_2) rfl (flt (hc2 : ¬ (x < y))).1 ?_
    show Steps p.tables e below (s₁.setTop (mkF m 5 #[.val (.int x), .val (.int y)] [])) _
    refine XS.iloadN X0.here hx rfl (hb hby d3_5) rfl ?_
    show Steps p.tables e below (s₁.setTop (mkF m 6 #[.val (.int x), .val (.int y)] [(.int x)])) _
    refine XS.goto X0.here hx rfl (pc0 := 6) (pc' := 10) rfl (hb hby d3_6) (by decide) (by decide) ?_
    show Steps p.tables e below (s₁.setTop (mkF m 10 #[.val (.int x), .val (.int y)] [(.int x)])) _
    exact retI X0 hx Bd.returns (hb hby d3_10) hr
  · show Q_maxIR Z x y h0 n0 _ s₁.heap _
    rw [e0]
    exact ⟨by rw [maxI, if_neg hc2], N0, rfl⟩
set_option maxRecDepth 65536 in
set_option maxHeartbeats 40000000 in
theorem maxIR (l : Launch) (Z : State) (a0 : Array Value) (hw : ∀ d ∈ tables_1, d.before a0 Z = true) (ws : List Jvm.Cond) (x : Int32) (y : Int32) (h0 : Heap) (n0 : Nat) (O0 : Old Z n0 h0) :
    MetFree l (⟨"java/lang/Math", "max", "(II)I"⟩ : MethodName) (head1 (Jvm.Cond.code (⟨"java/lang/Math", "max", "(II)I"⟩ : MethodName) jdk_29_method_65_code 2 (some .int) :: ws) ({ frames := 0, cells := 0, slots := 0, locals := 0 } : Room)) (fun zA zU => zA = #[(.int x), (.int y)] ∧ Z.Warmed39 zU.vm ∧ zU.heap = h0) (fun _ _ _ _ _ => True) (fun _ zU zo zU' => ∃ zv zL, zo = .returned zv ∧ Q_maxIR Z x y h0 n0 zv zU'.heap zL ∧ FrameEnd zU zo zU' zL ({ frames := 0, cells := 0, slots := 0, locals := 0 } : Room).cells ({ frames := 0, cells := 0, slots := 0, locals := 0 } : Room).slots) := by
  by_cases h1 : x < y
  · exact maxIR_1 l Z a0 hw ws x y h0 n0 O0  h1
  · exact maxIR_2 l Z a0 hw ws x y h0 n0 O0  h1
def Q_most (Z : State) (q : Int64) (h0 : Heap) (n0 : Nat) (v : Option Value) (h : Heap) (L : List Loc) : Prop := v = some (.int (mostV q)) ∧ Fr n0 L ∧ h = h0
theorem d4_0 : decode prog_59_method_3_code 0 = .ok (.lload_n 0, 1) := by decide +kernel
theorem d4_1 : decode prog_59_method_3_code 1 = .ok (.ldc2_w 156, 3) := by decide +kernel
theorem d4_4 : decode prog_59_method_3_code 4 = .ok (.ldiv, 1) := by decide +kernel
theorem d4_5 : decode prog_59_method_3_code 5 = .ok (.ldc2_w 177, 3) := by decide +kernel
theorem d4_8 : decode prog_59_method_3_code 8 = .ok (.ldiv, 1) := by decide +kernel
theorem d4_9 : decode prog_59_method_3_code 9 = .ok (.lstore_n 2, 1) := by decide +kernel
theorem d4_10 : decode prog_59_method_3_code 10 = .ok (.getstatic 111, 3) := by decide +kernel
theorem d4_13 : decode prog_59_method_3_code 13 = .ok (.i2l, 1) := by decide +kernel
theorem d4_14 : decode prog_59_method_3_code 14 = .ok (.ldc2_w 177, 3) := by decide +kernel
theorem d4_17 : decode prog_59_method_3_code 17 = .ok (.lload_n 2, 1) := by decide +kernel
theorem d4_18 : decode prog_59_method_3_code 18 = .ok (.invokestatic 158, 3) := by decide +kernel
theorem pd_0 : parseMethodDescriptor "(JJ)J" = some ⟨[.long, .long], some .long⟩ := by decide +kernel
theorem d4_21 : decode prog_59_method_3_code 21 = .ok (.invokestatic 161, 3) := by decide +kernel
theorem d4_24 : decode prog_59_method_3_code 24 = .ok (.l2i, 1) := by decide +kernel
theorem d4_25 : decode prog_59_method_3_code 25 = .ok (.ireturn, 1) := by decide +kernel
theorem pn_5 : plainName "com/example/tsutsumi/tsutsumi/io/ServingThreads" = true := by first | (simp [plainName, overriddenIn]; done) | decide +kernel
theorem ef_4_J (m : MethodId) (x0 : Int64) : entryFrame m #[(.long x0)] 4 = mkF m 0 #[.val (.long x0), .second, .unset, .unset] [] := by first | (simp [entryFrame, mkF, argsToLocals, Value.category]; done) | rfl
set_option maxRecDepth 65536 in
set_option maxHeartbeats 40000000 in
theorem most (l : Launch) (Z : State) (a0 : Array Value) (hw : ∀ d ∈ tables_1, d.before a0 Z = true) (ws : List Jvm.Cond) (q : Int64) (h0 : Heap) (n0 : Nat) (O0 : Old Z n0 h0) (G0 : Sta Z Z.heap "com/example/tsutsumi/tsutsumi/io/ServingThreads" "CORE_THREADS" "I" (.int (8 : Int32))) :
    MetFree l (⟨"com/example/tsutsumi/tsutsumi/io/ServingThreads", "mostThreads", "(J)I"⟩ : MethodName) (head1 (Jvm.Cond.code (⟨"com/example/tsutsumi/tsutsumi/io/ServingThreads", "mostThreads", "(J)I"⟩ : MethodName) prog_59_method_3_code 4 (some .int) :: ws) ({ frames := 1, cells := 0, slots := 0, locals := 17 } : Room)) (fun zA zU => zA = #[(.long q)] ∧ Z.Warmed39 zU.vm ∧ zU.heap = h0) (fun _ _ _ _ _ => True) (fun _ zU zo zU' => ∃ zv zL, zo = .returned zv ∧ Q_most Z q h0 n0 zv zU'.heap zL ∧ FrameEnd zU zo zU' zL ({ frames := 1, cells := 0, slots := 0, locals := 17 } : Room).cells ({ frames := 1, cells := 0, slots := 0, locals := 17 } : Room).slots) := by
  refine MetFree.of_bodySF (plainFor_of_name pn_5) hisR ?_
  intro p e s m args below meth c s₁ Bd hml0 hP hK
  obtain ⟨rfl, hZ, hh⟩ := hP
  have hx := Bd.exec
  have hby := Bd.bytes
  have hml : c.maxLocals = 4 := hml0
  have hown : s.vm.findClass "com/example/tsutsumi/tsutsumi/io/ServingThreads" = some m.cls := findClass_of_methodNamed Bd.named
  have hnm := (name_of_methodNamed Bd.named Bd.method).1
  have X0 : Stand p l e ({ frames := 1, cells := 0, slots := 0, locals := 17 } : Room) s m #[(.long q)] below meth c s₁ [] 0 0 := Stand.of_body Bd
  have e0 : s₁.heap = h0 := by rw [← hh, Bd.state]; rfl
  have N0 := Fr.nil n0
  have Z0 : n0 ≤ h0.size := O0.1 ▸ O0.2.1
  have pre0 : ∀ zt, Steps p.tables e below (s₁.setTop (mkF m 0 #[.val (.long q), .second, .unset, .unset] [])) zt → Steps p.tables e below (s₁.setTop (entryFrame m #[(.long q)] 4)) zt := fun zt zk => castTop (ef_4_J m q) zk
  obtain ⟨T1, X1, e1, st1⟩ := getS2 X0 hx hZ hown (host := "") (Or.inl (hw _ (List.mem_of_getElem? (i := 6) rfl))) Via.refl e0 (G0.ext O0.2) (g := (mkF m 10 #[.val (.long q), .second, .val (.long ((q / (4 : Int64)) / (65536 : Int64))), .second] [])) rfl (hb hby d4_10)
  obtain ⟨_, _, ⟨T2, L2, k2, n2⟩, -, X2, ⟨Lc2, hQ2, l2, y2, z2⟩, st2⟩ := Jvm.LawKit.callS X1 hx (y := (⟨"java/lang/Math", "min", "(JJ)J"⟩ : MethodName)) hown (mvT hZ (hw _ (List.mem_of_getElem? (i := 8) rfl))) (mvT hZ (hw _ (List.mem_of_getElem? (i := 9) rfl))) (mvT hZ (hw _ (List.mem_of_getElem? (i := 10) rfl))) (mvT hZ (hw _ (List.mem_of_getElem? (i := 11) rfl))) (by decide) (backOf (W := 2) (minR l Z a0 hw [] (65536 : Int64) ((q / (4 : Int64)) / (65536 : Int64)) h0 n0 O0 ) hZ (hw _ (List.mem_of_getElem? (i := 11) rfl)) (hw _ (List.mem_of_getElem? (i := 10) rfl)) (by decide) (by decide)) (g := (mkF m 18 #[.val (.long q), .second, .val (.long ((q / (4 : Int64)) / (65536 : Int64))), .second] [(.long ((q / (4 : Int64)) / (65536 : Int64))), (.long (65536 : Int64)), (.long ((8 : Int32).toInt64))])) rfl (by rw [hml]; rfl) (argsL := [(.long (65536 : Int64)), (.long ((q / (4 : Int64)) / (65536 : Int64)))]) (rest := [(.long ((8 : Int32).toInt64))]) (lenOf pd_0 rfl) rfl (by show 2 * 0 + _ ≤ _; exact Nat.le_of_eq rfl) (hb hby d4_18) (fun _ _ => ⟨rfl, e1, (by decide : 0 + 0 ≤ _), (by decide : 0 + 0 ≤ _)⟩)
  dsimp only [Pt.U, Pt.locs, Pt.cells, Pt.slots] at X2 l2 y2 z2 st2 hQ2
  subst l2 y2 z2
  obtain ⟨rfl, Nq2, kh2⟩ := hQ2
  have N2 := Fr.app N0 Nq2
  obtain ⟨_, _, ⟨T3, L3, k3, n3⟩, -, X3, ⟨Lc3, hQ3, l3, y3, z3⟩, st3⟩ := Jvm.LawKit.callS X2 hx (y := (⟨"java/lang/Math", "max", "(JJ)J"⟩ : MethodName)) hown (mvT hZ (hw _ (List.mem_of_getElem? (i := 12) rfl))) (mvT hZ (hw _ (List.mem_of_getElem? (i := 13) rfl))) (mvT hZ (hw _ (List.mem_of_getElem? (i := 10) rfl))) (mvT hZ (hw _ (List.mem_of_getElem? (i := 14) rfl))) (by decide) (backOf (W := 0) (maxR l Z a0 hw [] ((8 : Int32).toInt64) (minJ (65536 : Int64) ((q / (4 : Int64)) / (65536 : Int64))) h0 n0 O0 ) hZ (hw _ (List.mem_of_getElem? (i := 14) rfl)) (hw _ (List.mem_of_getElem? (i := 10) rfl)) (by decide) (by decide)) (g := (mkF m 21 #[.val (.long q), .second, .val (.long ((q / (4 : Int64)) / (65536 : Int64))), .second] [(.long (minJ (65536 : Int64) ((q / (4 : Int64)) / (65536 : Int64)))), (.long ((8 : Int32).toInt64))])) rfl (by rw [hml]; rfl) (argsL := [(.long ((8 : Int32).toInt64)), (.long (minJ (65536 : Int64) ((q / (4 : Int64)) / (65536 : Int64))))]) (rest := []) (lenOf pd_0 rfl) rfl (by show 2 * 0 + _ ≤ _; exact Nat.le_of_eq rfl) (hb hby d4_21) (fun _ _ => ⟨rfl, kh2, (by decide : 0 + 0 ≤ _), (by decide : 0 + 0 ≤ _)⟩)
  dsimp only [Pt.U, Pt.locs, Pt.cells, Pt.slots] at X3 l3 y3 z3 st3 hQ3
  subst l3 y3 z3
  obtain ⟨rfl, Nq3, kh3⟩ := hQ3
  have N3 := Fr.app N2 Nq3
  obtain ⟨fs, hr, hrun, hended, hW, hsame⟩ := X3.leave (v := some (.int ((maxJ ((8 : Int32).toInt64) (minJ (65536 : Int64) ((q / (4 : Int64)) / (65536 : Int64)))).toInt32))) (fun h => by rw [Bd.returns] at h; cases h)
  refine ⟨_, _, pre0 _ ?_, hrun, hended, _, _, rfl, ?_, ⟨_, rfl⟩, hW, hsame.mono (by decide) (by decide)⟩
  · show Steps p.tables e below (s₁.setTop (mkF m 0 #[.val (.long q), .second, .unset, .unset] [])) _
    refine XS.lloadN X0.here hx rfl (hb hby d4_0) rfl ?_
    show Steps p.tables e below (s₁.setTop (mkF m 1 #[.val (.long q), .second, .unset, .unset] [(.long q)])) _
    refine X0.ldc2Long hx hown (mvT hZ (hw _ (List.mem_of_getElem? (i := 4) rfl))) (g := (mkF m 1 #[.val (.long q), .second, .unset, .unset] [(.long q)])) rfl (hb hby d4_1) _ ?_
    show Steps p.tables e below (s₁.setTop (mkF m 4 #[.val (.long q), .second, .unset, .unset] [(.long (4 : Int64)), (.long q)])) _
    refine XS.ldiv X0.here hx rfl (hb hby d4_4) rfl (by decide) ?_
    show Steps p.tables e below (s₁.setTop (mkF m 5 #[.val (.long q), .second, .unset, .unset] [(.long (q / (4 : Int64)))])) _
    refine X0.ldc2Long hx hown (mvT hZ (hw _ (List.mem_of_getElem? (i := 5) rfl))) (g := (mkF m 5 #[.val (.long q), .second, .unset, .unset] [(.long (q / (4 : Int64)))])) rfl (hb hby d4_5) _ ?_
    show Steps p.tables e below (s₁.setTop (mkF m 8 #[.val (.long q), .second, .unset, .unset] [(.long (65536 : Int64)), (.long (q / (4 : Int64)))])) _
    refine XS.ldiv X0.here hx rfl (hb hby d4_8) rfl (by decide) ?_
    show Steps p.tables e below (s₁.setTop (mkF m 9 #[.val (.long q), .second, .unset, .unset] [(.long ((q / (4 : Int64)) / (65536 : Int64)))])) _
    refine XS.lstoreN X0.here hx rfl (hb hby d4_9) rfl (l' := #[.val (.long q), .second, .val (.long ((q / (4 : Int64)) / (65536 : Int64))), .second]) rfl ?_
    show Steps p.tables e below (s₁.setTop (mkF m 10 #[.val (.long q), .second, .val (.long ((q / (4 : Int64)) / (65536 : Int64))), .second] [])) _
    refine st1 _ ?_
    show Steps p.tables e below (T1.setTop (mkF m 13 #[.val (.long q), .second, .val (.long ((q / (4 : Int64)) / (65536 : Int64))), .second] [(.int (8 : Int32))])) _
    refine XS.i2l X1.here hx rfl (hb hby d4_13) rfl ?_
    show Steps p.tables e below (T1.setTop (mkF m 14 #[.val (.long q), .second, .val (.long ((q / (4 : Int64)) / (65536 : Int64))), .second] [(.long ((8 : Int32).toInt64))])) _
    refine X1.ldc2Long hx hown (mvT hZ (hw _ (List.mem_of_getElem? (i := 5) rfl))) (g := (mkF m 14 #[.val (.long q), .second, .val (.long ((q / (4 : Int64)) / (65536 : Int64))), .second] [(.long ((8 : Int32).toInt64))])) rfl (hb hby d4_14) _ ?_
    show Steps p.tables e below (T1.setTop (mkF m 17 #[.val (.long q), .second, .val (.long ((q / (4 : Int64)) / (65536 : Int64))), .second] [(.long (65536 : Int64)), (.long ((8 : Int32).toInt64))])) _
    refine XS.lloadN X1.here hx rfl (hb hby d4_17) rfl ?_
    show Steps p.tables e below (T1.setTop (mkF m 18 #[.val (.long q), .second, .val (.long ((q / (4 : Int64)) / (65536 : Int64))), .second] [(.long ((q / (4 : Int64)) / (65536 : Int64))), (.long (65536 : Int64)), (.long ((8 : Int32).toInt64))])) _
    refine st2 _ ?_
    show Steps p.tables e below (T2.setTop (mkF m 21 #[.val (.long q), .second, .val (.long ((q / (4 : Int64)) / (65536 : Int64))), .second] [(.long (minJ (65536 : Int64) ((q / (4 : Int64)) / (65536 : Int64)))), (.long ((8 : Int32).toInt64))])) _
    refine st3 _ ?_
    show Steps p.tables e below (T3.setTop (mkF m 24 #[.val (.long q), .second, .val (.long ((q / (4 : Int64)) / (65536 : Int64))), .second] [(.long (maxJ ((8 : Int32).toInt64) (minJ (65536 : Int64) ((q / (4 : Int64)) / (65536 : Int64)))))])) _
    refine XS.l2i X3.here hx rfl (hb hby d4_24) rfl ?_
    show Steps p.tables e below (T3.setTop (mkF m 25 #[.val (.long q), .second, .val (.long ((q / (4 : Int64)) / (65536 : Int64))), .second] [(.int ((maxJ ((8 : Int32).toInt64) (minJ (65536 : Int64) ((q / (4 : Int64)) / (65536 : Int64)))).toInt32))])) _
    exact retI X3 hx Bd.returns (hb hby d4_25) hr
  · show Q_most Z q h0 n0 _ T3.heap _
    rw [kh3]
    exact ⟨rfl, N3, rfl⟩
def Q_expd (Z : State) (q : Int64) (f : Int32) (h0 : Heap) (n0 : Nat) (v : Option Value) (h : Heap) (L : List Loc) : Prop := v = some (.int (expV q f)) ∧ Fr n0 L ∧ h = h0
theorem d6_0 : decode method_3_code 0 = .ok (.lload_n 0, 1) := by decide +kernel
theorem d6_1 : decode method_3_code 1 = .ok (.ldc2_w 29, 3) := by decide +kernel
theorem d6_4 : decode method_3_code 4 = .ok (.lcmp, 1) := by decide +kernel
theorem d6_5 : decode method_3_code 5 = .ok (.ifCond .ge 8, 3) := by decide +kernel
theorem d6_13 : decode method_3_code 13 = .ok (.lload_n 0, 1) := by decide +kernel
theorem d6_14 : decode method_3_code 14 = .ok (.ldc2_w 29, 3) := by decide +kernel
theorem d6_17 : decode method_3_code 17 = .ok (.ldiv, 1) := by decide +kernel
theorem d6_18 : decode method_3_code 18 = .ok (.lstore_n 3, 1) := by decide +kernel
theorem d6_19 : decode method_3_code 19 = .ok (.lload_n 3, 1) := by decide +kernel
theorem d6_20 : decode method_3_code 20 = .ok (.ldc2_w 31, 3) := by decide +kernel
theorem d6_23 : decode method_3_code 23 = .ok (.lcmp, 1) := by decide +kernel
theorem d6_24 : decode method_3_code 24 = .ok (.ifCond .le 7, 3) := by decide +kernel
theorem d6_31 : decode method_3_code 31 = .ok (.lload_n 3, 1) := by decide +kernel
theorem d6_32 : decode method_3_code 32 = .ok (.iload_n 2, 1) := by decide +kernel
theorem d6_33 : decode method_3_code 33 = .ok (.i2l, 1) := by decide +kernel
theorem d6_34 : decode method_3_code 34 = .ok (.lcmp, 1) := by decide +kernel
theorem d6_35 : decode method_3_code 35 = .ok (.ifCond .ge 6, 3) := by decide +kernel
theorem d6_41 : decode method_3_code 41 = .ok (.lload_n 3, 1) := by decide +kernel
theorem d6_42 : decode method_3_code 42 = .ok (.l2i, 1) := by decide +kernel
theorem d6_43 : decode method_3_code 43 = .ok (.ireturn, 1) := by decide +kernel
theorem pn_7 : plainName "com/example/tsutsumi/tsutsumi/io/ServingThreadsMostThreadsPinLaw" = true := by first | (simp [plainName, overriddenIn]; done) | decide +kernel
theorem ef_6_JI (m : MethodId) (x0 : Int64) (x1 : Int32) : entryFrame m #[(.long x0), (.int x1)] 5 = mkF m 0 #[.val (.long x0), .second, .val (.int x1), .unset, .unset] [] := by first | (simp [entryFrame, mkF, argsToLocals, Value.category]; done) | rfl
set_option maxRecDepth 65536 in
set_option maxHeartbeats 40000000 in
theorem expd_1 (l : Launch) (Z : State) (a0 : Array Value) (hw : ∀ d ∈ tables_1, d.before a0 Z = true) (ws : List Jvm.Cond) (q : Int64) (f : Int32) (h0 : Heap) (n0 : Nat) (O0 : Old Z n0 h0) (hc5 : ¬ ((lcmpW q (262144 : Int64)) < (0 : Int32))) (hc24 : ¬ ((0 : Int32) < (lcmpW (q / (262144 : Int64)) (65536 : Int64)))) (hc35 : ¬ ((lcmpW (q / (262144 : Int64)) (f.toInt64)) < (0 : Int32))) :
    MetFree l (⟨"com/example/tsutsumi/tsutsumi/io/ServingThreadsMostThreadsPinLaw", "expected", "(JI)I"⟩ : MethodName) (head1 (Jvm.Cond.code (⟨"com/example/tsutsumi/tsutsumi/io/ServingThreadsMostThreadsPinLaw", "expected", "(JI)I"⟩ : MethodName) method_3_code 5 (some .int) :: ws) ({ frames := 0, cells := 0, slots := 0, locals := 0 } : Room)) (fun zA zU => zA = #[(.long q), (.int f)] ∧ Z.Warmed39 zU.vm ∧ zU.heap = h0) (fun _ _ _ _ _ => True) (fun _ zU zo zU' => ∃ zv zL, zo = .returned zv ∧ Q_expd Z q f h0 n0 zv zU'.heap zL ∧ FrameEnd zU zo zU' zL ({ frames := 0, cells := 0, slots := 0, locals := 0 } : Room).cells ({ frames := 0, cells := 0, slots := 0, locals := 0 } : Room).slots) := by
  refine MetFree.of_bodySF (plainFor_of_name pn_7) hisR ?_
  intro p e s m args below meth c s₁ Bd hml0 hP hK
  obtain ⟨rfl, hZ, hh⟩ := hP
  have hx := Bd.exec
  have hby := Bd.bytes
  have hml : c.maxLocals = 5 := hml0
  have hown : s.vm.findClass "com/example/tsutsumi/tsutsumi/io/ServingThreadsMostThreadsPinLaw" = some m.cls := findClass_of_methodNamed Bd.named
  have hnm := (name_of_methodNamed Bd.named Bd.method).1
  have X0 : Stand p l e ({ frames := 0, cells := 0, slots := 0, locals := 0 } : Room) s m #[(.long q), (.int f)] below meth c s₁ [] 0 0 := Stand.of_body Bd
  have e0 : s₁.heap = h0 := by rw [← hh, Bd.state]; rfl
  have N0 := Fr.nil n0
  have Z0 : n0 ≤ h0.size := O0.1 ▸ O0.2.1
  have pre0 : ∀ zt, Steps p.tables e below (s₁.setTop (mkF m 0 #[.val (.long q), .second, .val (.int f), .unset, .unset] [])) zt → Steps p.tables e below (s₁.setTop (entryFrame m #[(.long q), (.int f)] 5)) zt := fun zt zk => castTop (ef_6_JI m q f) zk
  obtain ⟨fs, hr, hrun, hended, hW, hsame⟩ := X0.leave (v := some (.int ((q / (262144 : Int64)).toInt32))) (fun h => by rw [Bd.returns] at h; cases h)
  refine ⟨_, _, pre0 _ ?_, hrun, hended, _, _, rfl, ?_, ⟨_, rfl⟩, hW, hsame.mono (by decide) (by decide)⟩
  · show Steps p.tables e below (s₁.setTop (mkF m 0 #[.val (.long q), .second, .val (.int f), .unset, .unset] [])) _
    refine XS.lloadN X0.here hx rfl (hb hby d6_0) rfl ?_
    show Steps p.tables e below (s₁.setTop (mkF m 1 #[.val (.long q), .second, .val (.int f), .unset, .unset] [(.long q)])) _
    refine X0.ldc2Long hx hown (mvT hZ (hw _ (List.mem_of_getElem? (i := 24) rfl))) (g := (mkF m 1 #[.val (.long q), .second, .val (.int f), .unset, .unset] [(.long q)])) rfl (hb hby d6_1) _ ?_
    show Steps p.tables e below (s₁.setTop (mkF m 4 #[.val (.long q), .second, .val (.int f), .unset, .unset] [(.long (262144 : Int64)), (.long q)])) _
    refine XS.lcmp X0.here hx rfl (hb hby d6_4) rfl ?_
    show Steps p.tables e below (s₁.setTop (mkF m 5 #[.val (.long q), .second, .val (.int f), .unset, .unset] [(.int (lcmpW q (262144 : Int64)))])) _
    refine XS.ifYes X0.here hx rfl (pc0 := 5) (pc' := 13) rfl (hb hby d6_5) rfl ((if0 _ _).trans (flt (hc5 : ¬ ((lcmpW q (262144 : Int64)) < (0 : Int32)))).2.1) (by decide) (by decide) ?_
    show Steps p.tables e below (s₁.setTop (mkF m 13 #[.val (.long q), .second, .val (.int f), .unset, .unset] [])) _
    refine XS.lloadN X0.here hx rfl (hb hby d6_13) rfl ?_
    show Steps p.tables e below (s₁.setTop (mkF m 14 #[.val (.long q), .second, .val (.int f), .unset, .unset] [(.long q)])) _
    refine X0.ldc2Long hx hown (mvT hZ (hw _ (List.mem_of_getElem? (i := 24) rfl))) (g := (mkF m 14 #[.val (.long q), .second, .val (.int f), .unset, .unset] [(.long q)])) rfl (hb hby d6_14) _ ?_
    show Steps p.tables e below (s₁.setTop (mkF m 17 #[.val (.long q), .second, .val (.int f), .unset, .unset] [(.long (262144 : Int64)), (.long q)])) _
    refine XS.ldiv X0.here hx rfl (hb hby d6_17) rfl (by decide) ?_
    show Steps p.tables e below (s₁.setTop (mkF m 18 #[.val (.long q), .second, .val (.int f), .unset, .unset] [(.long (q / (262144 : Int64)))])) _
    refine XS.lstoreN X0.here hx rfl (hb hby d6_18) rfl (l' := #[.val (.long q), .second, .val (.int f), .val (.long (q / (262144 : Int64))), .second]) rfl ?_
    show Steps p.tables e below (s₁.setTop (mkF m 19 #[.val (.long q), .second, .val (.int f), .val (.long (q / (262144 : Int64))), .second] [])) _
    refine XS.lloadN X0.here hx rfl (hb hby d6_19) rfl ?_
    show Steps p.tables e below (s₁.setTop (mkF m 20 #[.val (.long q), .second, .val (.int f), .val (.long (q / (262144 : Int64))), .second] [(.long (q / (262144 : Int64)))])) _
    refine X0.ldc2Long hx hown (mvT hZ (hw _ (List.mem_of_getElem? (i := 25) rfl))) (g := (mkF m 20 #[.val (.long q), .second, .val (.int f), .val (.long (q / (262144 : Int64))), .second] [(.long (q / (262144 : Int64)))])) rfl (hb hby d6_20) _ ?_
    show Steps p.tables e below (s₁.setTop (mkF m 23 #[.val (.long q), .second, .val (.int f), .val (.long (q / (262144 : Int64))), .second] [(.long (65536 : Int64)), (.long (q / (262144 : Int64)))])) _
    refine XS.lcmp X0.here hx rfl (hb hby d6_23) rfl ?_
    show Steps p.tables e below (s₁.setTop (mkF m 24 #[.val (.long q), .second, .val (.int f), .val (.long (q / (262144 : Int64))), .second] [(.int (lcmpW (q / (262144 : Int64)) (65536 : Int64)))])) _
    refine XS.ifYes X0.here hx rfl (pc0 := 24) (pc' := 31) rfl (hb hby d6_24) rfl ((if0 _ _).trans (flt (hc24 : ¬ ((0 : Int32) < (lcmpW (q / (262144 : Int64)) (65536 : Int64))))).2.2.2) (by decide) (by decide) ?_
    show Steps p.tables e below (s₁.setTop (mkF m 31 #[.val (.long q), .second, .val (.int f), .val (.long (q / (262144 : Int64))), .second] [])) _
    refine XS.lloadN X0.here hx rfl (hb hby d6_31) rfl ?_
    show Steps p.tables e below (s₁.setTop (mkF m 32 #[.val (.long q), .second, .val (.int f), .val (.long (q / (262144 : Int64))), .second] [(.long (q / (262144 : Int64)))])) _
    refine XS.iloadN X0.here hx rfl (hb hby d6_32) rfl ?_
    show Steps p.tables e below (s₁.setTop (mkF m 33 #[.val (.long q), .second, .val (.int f), .val (.long (q / (262144 : Int64))), .second] [(.int f), (.long (q / (262144 : Int64)))])) _
    refine XS.i2l X0.here hx rfl (hb hby d6_33) rfl ?_
    show Steps p.tables e below (s₁.setTop (mkF m 34 #[.val (.long q), .second, .val (.int f), .val (.long (q / (262144 : Int64))), .second] [(.long (f.toInt64)), (.long (q / (262144 : Int64)))])) _
    refine XS.lcmp X0.here hx rfl (hb hby d6_34) rfl ?_
    show Steps p.tables e below (s₁.setTop (mkF m 35 #[.val (.long q), .second, .val (.int f), .val (.long (q / (262144 : Int64))), .second] [(.int (lcmpW (q / (262144 : Int64)) (f.toInt64)))])) _
    refine XS.ifYes X0.here hx rfl (pc0 := 35) (pc' := 41) rfl (hb hby d6_35) rfl ((if0 _ _).trans (flt (hc35 : ¬ ((lcmpW (q / (262144 : Int64)) (f.toInt64)) < (0 : Int32)))).2.1) (by decide) (by decide) ?_
    show Steps p.tables e below (s₁.setTop (mkF m 41 #[.val (.long q), .second, .val (.int f), .val (.long (q / (262144 : Int64))), .second] [])) _
    refine XS.lloadN X0.here hx rfl (hb hby d6_41) rfl ?_
    show Steps p.tables e below (s₁.setTop (mkF m 42 #[.val (.long q), .second, .val (.int f), .val (.long (q / (262144 : Int64))), .second] [(.long (q / (262144 : Int64)))])) _
    refine XS.l2i X0.here hx rfl (hb hby d6_42) rfl ?_
    show Steps p.tables e below (s₁.setTop (mkF m 43 #[.val (.long q), .second, .val (.int f), .val (.long (q / (262144 : Int64))), .second] [(.int ((q / (262144 : Int64)).toInt32))])) _
    exact retI X0 hx Bd.returns (hb hby d6_43) hr
  · show Q_expd Z q f h0 n0 _ s₁.heap _
    rw [e0]
    exact ⟨by rw [expV, expV3, expV2, expV1, if_neg hc5, if_neg hc24, if_neg hc35], N0, rfl⟩
theorem d6_38 : decode method_3_code 38 = .ok (.iload_n 2, 1) := by decide +kernel
theorem d6_39 : decode method_3_code 39 = .ok (.i2l, 1) := by decide +kernel
theorem d6_40 : decode method_3_code 40 = .ok (.lstore_n 3, 1) := by decide +kernel
set_option maxRecDepth 65536 in
set_option maxHeartbeats 40000000 in
theorem expd_2 (l : Launch) (Z : State) (a0 : Array Value) (hw : ∀ d ∈ tables_1, d.before a0 Z = true) (ws : List Jvm.Cond) (q : Int64) (f : Int32) (h0 : Heap) (n0 : Nat) (O0 : Old Z n0 h0) (hc5 : ¬ ((lcmpW q (262144 : Int64)) < (0 : Int32))) (hc24 : ¬ ((0 : Int32) < (lcmpW (q / (262144 : Int64)) (65536 : Int64)))) (hc35 : (lcmpW (q / (262144 : Int64)) (f.toInt64)) < (0 : Int32)) :
    MetFree l (⟨"com/example/tsutsumi/tsutsumi/io/ServingThreadsMostThreadsPinLaw", "expected", "(JI)I"⟩ : MethodName) (head1 (Jvm.Cond.code (⟨"com/example/tsutsumi/tsutsumi/io/ServingThreadsMostThreadsPinLaw", "expected", "(JI)I"⟩ : MethodName) method_3_code 5 (some .int) :: ws) ({ frames := 0, cells := 0, slots := 0, locals := 0 } : Room)) (fun zA zU => zA = #[(.long q), (.int f)] ∧ Z.Warmed39 zU.vm ∧ zU.heap = h0) (fun _ _ _ _ _ => True) (fun _ zU zo zU' => ∃ zv zL, zo = .returned zv ∧ Q_expd Z q f h0 n0 zv zU'.heap zL ∧ FrameEnd zU zo zU' zL ({ frames := 0, cells := 0, slots := 0, locals := 0 } : Room).cells ({ frames := 0, cells := 0, slots := 0, locals := 0 } : Room).slots) := by
  refine MetFree.of_bodySF (plainFor_of_name pn_7) hisR ?_
  intro p e s m args below meth c s₁ Bd hml0 hP hK
  obtain ⟨rfl, hZ, hh⟩ := hP
  have hx := Bd.exec
  have hby := Bd.bytes
  have hml : c.maxLocals = 5 := hml0
  have hown : s.vm.findClass "com/example/tsutsumi/tsutsumi/io/ServingThreadsMostThreadsPinLaw" = some m.cls := findClass_of_methodNamed Bd.named
  have hnm := (name_of_methodNamed Bd.named Bd.method).1
  have X0 : Stand p l e ({ frames := 0, cells := 0, slots := 0, locals := 0 } : Room) s m #[(.long q), (.int f)] below meth c s₁ [] 0 0 := Stand.of_body Bd
  have e0 : s₁.heap = h0 := by rw [← hh, Bd.state]; rfl
  have N0 := Fr.nil n0
  have Z0 : n0 ≤ h0.size := O0.1 ▸ O0.2.1
  have pre0 : ∀ zt, Steps p.tables e below (s₁.setTop (mkF m 0 #[.val (.long q), .second, .val (.int f), .unset, .unset] [])) zt → Steps p.tables e below (s₁.setTop (entryFrame m #[(.long q), (.int f)] 5)) zt := fun zt zk => castTop (ef_6_JI m q f) zk
  obtain ⟨fs, hr, hrun, hended, hW, hsame⟩ := X0.leave (v := some (.int ((f.toInt64).toInt32))) (fun h => by rw [Bd.returns] at h; cases h)
  refine ⟨_, _, pre0 _ ?_, hrun, hended, _, _, rfl, ?_, ⟨_, rfl⟩, hW, hsame.mono (by decide) (by decide)⟩
  · show Steps p.tables e below (s₁.setTop (mkF m 0 #[.val (.long q), .second, .val (.int f), .unset, .unset] [])) _
    refine XS.lloadN X0.here hx rfl (hb hby d6_0) rfl ?_
    show Steps p.tables e below (s₁.setTop (mkF m 1 #[.val (.long q), .second, .val (.int f), .unset, .unset] [(.long q)])) _
    refine X0.ldc2Long hx hown (mvT hZ (hw _ (List.mem_of_getElem? (i := 24) rfl))) (g := (mkF m 1 #[.val (.long q), .second, .val (.int f), .unset, .unset] [(.long q)])) rfl (hb hby d6_1) _ ?_
    show Steps p.tables e below (s₁.setTop (mkF m 4 #[.val (.long q), .second, .val (.int f), .unset, .unset] [(.long (262144 : Int64)), (.long q)])) _
    refine XS.lcmp X0.here hx rfl (hb hby d6_4) rfl ?_
    show Steps p.tables e below (s₁.setTop (mkF m 5 #[.val (.long q), .second, .val (.int f), .unset, .unset] [(.int (lcmpW q (262144 : Int64)))])) _
    refine XS.ifYes X0.here hx rfl (pc0 := 5) (pc' := 13) rfl (hb hby d6_5) rfl ((if0 _ _).trans (flt (hc5 : ¬ ((lcmpW q (262144 : Int64)) < (0 : Int32)))).2.1) (by decide) (by decide) ?_
    show Steps p.tables e below (s₁.setTop (mkF m 13 #[.val (.long q), .second, .val (.int f), .unset, .unset] [])) _
    refine XS.lloadN X0.here hx rfl (hb hby d6_13) rfl ?_
    show Steps p.tables e below (s₁.setTop (mkF m 14 #[.val (.long q), .second, .val (.int f), .unset, .unset] [(.long q)])) _
    refine X0.ldc2Long hx hown (mvT hZ (hw _ (List.mem_of_getElem? (i := 24) rfl))) (g := (mkF m 14 #[.val (.long q), .second, .val (.int f), .unset, .unset] [(.long q)])) rfl (hb hby d6_14) _ ?_
    show Steps p.tables e below (s₁.setTop (mkF m 17 #[.val (.long q), .second, .val (.int f), .unset, .unset] [(.long (262144 : Int64)), (.long q)])) _
    refine XS.ldiv X0.here hx rfl (hb hby d6_17) rfl (by decide) ?_
    show Steps p.tables e below (s₁.setTop (mkF m 18 #[.val (.long q), .second, .val (.int f), .unset, .unset] [(.long (q / (262144 : Int64)))])) _
    refine XS.lstoreN X0.here hx rfl (hb hby d6_18) rfl (l' := #[.val (.long q), .second, .val (.int f), .val (.long (q / (262144 : Int64))), .second]) rfl ?_
    show Steps p.tables e below (s₁.setTop (mkF m 19 #[.val (.long q), .second, .val (.int f), .val (.long (q / (262144 : Int64))), .second] [])) _
    refine XS.lloadN X0.here hx rfl (hb hby d6_19) rfl ?_
    show Steps p.tables e below (s₁.setTop (mkF m 20 #[.val (.long q), .second, .val (.int f), .val (.long (q / (262144 : Int64))), .second] [(.long (q / (262144 : Int64)))])) _
    refine X0.ldc2Long hx hown (mvT hZ (hw _ (List.mem_of_getElem? (i := 25) rfl))) (g := (mkF m 20 #[.val (.long q), .second, .val (.int f), .val (.long (q / (262144 : Int64))), .second] [(.long (q / (262144 : Int64)))])) rfl (hb hby d6_20) _ ?_
    show Steps p.tables e below (s₁.setTop (mkF m 23 #[.val (.long q), .second, .val (.int f), .val (.long (q / (262144 : Int64))), .second] [(.long (65536 : Int64)), (.long (q / (262144 : Int64)))])) _
    refine XS.lcmp X0.here hx rfl (hb hby d6_23) rfl ?_
    show Steps p.tables e below (s₁.setTop (mkF m 24 #[.val (.long q), .second, .val (.int f), .val (.long (q / (262144 : Int64))), .second] [(.int (lcmpW (q / (262144 : Int64)) (65536 : Int64)))])) _
    refine XS.ifYes X0.here hx rfl (pc0 := 24) (pc' := 31) rfl (hb hby d6_24) rfl ((if0 _ _).trans (flt (hc24 : ¬ ((0 : Int32) < (lcmpW (q / (262144 : Int64)) (65536 : Int64))))).2.2.2) (by decide) (by decide) ?_
    show Steps p.tables e below (s₁.setTop (mkF m 31 #[.val (.long q), .second, .val (.int f), .val (.long (q / (262144 : Int64))), .second] [])) _
    refine XS.lloadN X0.here hx rfl (hb hby d6_31) rfl ?_
    show Steps p.tables e below (s₁.setTop (mkF m 32 #[.val (.long q), .second, .val (.int f), .val (.long (q / (262144 : Int64))), .second] [(.long (q / (262144 : Int64)))])) _
    refine XS.iloadN X0.here hx rfl (hb hby d6_32) rfl ?_
    show Steps p.tables e below (s₁.setTop (mkF m 33 #[.val (.long q), .second, .val (.int f), .val (.long (q / (262144 : Int64))), .second] [(.int f), (.long (q / (262144 : Int64)))])) _
    refine XS.i2l X0.here hx rfl (hb hby d6_33) rfl ?_
    show Steps p.tables e below (s₁.setTop (mkF m 34 #[.val (.long q), .second, .val (.int f), .val (.long (q / (262144 : Int64))), .second] [(.long (f.toInt64)), (.long (q / (262144 : Int64)))])) _
    refine XS.lcmp X0.here hx rfl (hb hby d6_34) rfl ?_
    show Steps p.tables e below (s₁.setTop (mkF m 35 #[.val (.long q), .second, .val (.int f), .val (.long (q / (262144 : Int64))), .second] [(.int (lcmpW (q / (262144 : Int64)) (f.toInt64)))])) _
    refine XS.ifNo X0.here hx rfl (hb hby d6_35) rfl ((if0 _ _).trans (tlt (hc35 : (lcmpW (q / (262144 : Int64)) (f.toInt64)) < (0 : Int32))).2.1) ?_
    show Steps p.tables e below (s₁.setTop (mkF m 38 #[.val (.long q), .second, .val (.int f), .val (.long (q / (262144 : Int64))), .second] [])) _
    refine XS.iloadN X0.here hx rfl (hb hby d6_38) rfl ?_
    show Steps p.tables e below (s₁.setTop (mkF m 39 #[.val (.long q), .second, .val (.int f), .val (.long (q / (262144 : Int64))), .second] [(.int f)])) _
    refine XS.i2l X0.here hx rfl (hb hby d6_39) rfl ?_
    show Steps p.tables e below (s₁.setTop (mkF m 40 #[.val (.long q), .second, .val (.int f), .val (.long (q / (262144 : Int64))), .second] [(.long (f.toInt64))])) _
    refine XS.lstoreN X0.here hx rfl (hb hby d6_40) rfl (l' := #[.val (.long q), .second, .val (.int f), .val (.long (f.toInt64)), .second]) rfl ?_
    show Steps p.tables e below (s₁.setTop (mkF m 41 #[.val (.long q), .second, .val (.int f), .val (.long (f.toInt64)), .second] [])) _
    refine XS.lloadN X0.here hx rfl (hb hby d6_41) rfl ?_
    show Steps p.tables e below (s₁.setTop (mkF m 42 #[.val (.long q), .second, .val (.int f), .val (.long (f.toInt64)), .second] [(.long (f.toInt64))])) _
    refine XS.l2i X0.here hx rfl (hb hby d6_42) rfl ?_
    show Steps p.tables e below (s₁.setTop (mkF m 43 #[.val (.long q), .second, .val (.int f), .val (.long (f.toInt64)), .second] [(.int ((f.toInt64).toInt32))])) _
    exact retI X0 hx Bd.returns (hb hby d6_43) hr
  · show Q_expd Z q f h0 n0 _ s₁.heap _
    rw [e0]
    exact ⟨by rw [expV, expV3, expV2, expV1, if_neg hc5, if_neg hc24, if_pos hc35], N0, rfl⟩
theorem d6_27 : decode method_3_code 27 = .ok (.ldc2_w 31, 3) := by decide +kernel
theorem d6_30 : decode method_3_code 30 = .ok (.lstore_n 3, 1) := by decide +kernel
set_option maxRecDepth 65536 in
set_option maxHeartbeats 40000000 in
theorem expd_3 (l : Launch) (Z : State) (a0 : Array Value) (hw : ∀ d ∈ tables_1, d.before a0 Z = true) (ws : List Jvm.Cond) (q : Int64) (f : Int32) (h0 : Heap) (n0 : Nat) (O0 : Old Z n0 h0) (hc5 : ¬ ((lcmpW q (262144 : Int64)) < (0 : Int32))) (hc24 : (0 : Int32) < (lcmpW (q / (262144 : Int64)) (65536 : Int64))) (hc35 : ¬ ((lcmpW (65536 : Int64) (f.toInt64)) < (0 : Int32))) :
    MetFree l (⟨"com/example/tsutsumi/tsutsumi/io/ServingThreadsMostThreadsPinLaw", "expected", "(JI)I"⟩ : MethodName) (head1 (Jvm.Cond.code (⟨"com/example/tsutsumi/tsutsumi/io/ServingThreadsMostThreadsPinLaw", "expected", "(JI)I"⟩ : MethodName) method_3_code 5 (some .int) :: ws) ({ frames := 0, cells := 0, slots := 0, locals := 0 } : Room)) (fun zA zU => zA = #[(.long q), (.int f)] ∧ Z.Warmed39 zU.vm ∧ zU.heap = h0) (fun _ _ _ _ _ => True) (fun _ zU zo zU' => ∃ zv zL, zo = .returned zv ∧ Q_expd Z q f h0 n0 zv zU'.heap zL ∧ FrameEnd zU zo zU' zL ({ frames := 0, cells := 0, slots := 0, locals := 0 } : Room).cells ({ frames := 0, cells := 0, slots := 0, locals := 0 } : Room).slots) := by
  refine MetFree.of_bodySF (plainFor_of_name pn_7) hisR ?_
  intro p e s m args below meth c s₁ Bd hml0 hP hK
  obtain ⟨rfl, hZ, hh⟩ := hP
  have hx := Bd.exec
  have hby := Bd.bytes
  have hml : c.maxLocals = 5 := hml0
  have hown : s.vm.findClass "com/example/tsutsumi/tsutsumi/io/ServingThreadsMostThreadsPinLaw" = some m.cls := findClass_of_methodNamed Bd.named
  have hnm := (name_of_methodNamed Bd.named Bd.method).1
  have X0 : Stand p l e ({ frames := 0, cells := 0, slots := 0, locals := 0 } : Room) s m #[(.long q), (.int f)] below meth c s₁ [] 0 0 := Stand.of_body Bd
  have e0 : s₁.heap = h0 := by rw [← hh, Bd.state]; rfl
  have N0 := Fr.nil n0
  have Z0 : n0 ≤ h0.size := O0.1 ▸ O0.2.1
  have pre0 : ∀ zt, Steps p.tables e below (s₁.setTop (mkF m 0 #[.val (.long q), .second, .val (.int f), .unset, .unset] [])) zt → Steps p.tables e below (s₁.setTop (entryFrame m #[(.long q), (.int f)] 5)) zt := fun zt zk => castTop (ef_6_JI m q f) zk
  obtain ⟨fs, hr, hrun, hended, hW, hsame⟩ := X0.leave (v := some (.int ((65536 : Int64).toInt32))) (fun h => by rw [Bd.returns] at h; cases h)
  refine ⟨_, _, pre0 _ ?_, hrun, hended, _, _, rfl, ?_, ⟨_, rfl⟩, hW, hsame.mono (by decide) (by decide)⟩
  · show Steps p.tables e below (s₁.setTop (mkF m 0 #[.val (.long q), .second, .val (.int f), .unset, .unset] [])) _
    refine XS.lloadN X0.here hx rfl (hb hby d6_0) rfl ?_
    show Steps p.tables e below (s₁.setTop (mkF m 1 #[.val (.long q), .second, .val (.int f), .unset, .unset] [(.long q)])) _
    refine X0.ldc2Long hx hown (mvT hZ (hw _ (List.mem_of_getElem? (i := 24) rfl))) (g := (mkF m 1 #[.val (.long q), .second, .val (.int f), .unset, .unset] [(.long q)])) rfl (hb hby d6_1) _ ?_
    show Steps p.tables e below (s₁.setTop (mkF m 4 #[.val (.long q), .second, .val (.int f), .unset, .unset] [(.long (262144 : Int64)), (.long q)])) _
    refine XS.lcmp X0.here hx rfl (hb hby d6_4) rfl ?_
    show Steps p.tables e below (s₁.setTop (mkF m 5 #[.val (.long q), .second, .val (.int f), .unset, .unset] [(.int (lcmpW q (262144 : Int64)))])) _
    refine XS.ifYes X0.here hx rfl (pc0 := 5) (pc' := 13) rfl (hb hby d6_5) rfl ((if0 _ _).trans (flt (hc5 : ¬ ((lcmpW q (262144 : Int64)) < (0 : Int32)))).2.1) (by decide) (by decide) ?_
    show Steps p.tables e below (s₁.setTop (mkF m 13 #[.val (.long q), .second, .val (.int f), .unset, .unset] [])) _
    refine XS.lloadN X0.here hx rfl (hb hby d6_13) rfl ?_
    show Steps p.tables e below (s₁.setTop (mkF m 14 #[.val (.long q), .second, .val (.int f), .unset, .unset] [(.long q)])) _
    refine X0.ldc2Long hx hown (mvT hZ (hw _ (List.mem_of_getElem? (i := 24) rfl))) (g := (mkF m 14 #[.val (.long q), .second, .val (.int f), .unset, .unset] [(.long q)])) rfl (hb hby d6_14) _ ?_
    show Steps p.tables e below (s₁.setTop (mkF m 17 #[.val (.long q), .second, .val (.int f), .unset, .unset] [(.long (262144 : Int64)), (.long q)])) _
    refine XS.ldiv X0.here hx rfl (hb hby d6_17) rfl (by decide) ?_
    show Steps p.tables e below (s₁.setTop (mkF m 18 #[.val (.long q), .second, .val (.int f), .unset, .unset] [(.long (q / (262144 : Int64)))])) _
    refine XS.lstoreN X0.here hx rfl (hb hby d6_18) rfl (l' := #[.val (.long q), .second, .val (.int f), .val (.long (q / (262144 : Int64))), .second]) rfl ?_
    show Steps p.tables e below (s₁.setTop (mkF m 19 #[.val (.long q), .second, .val (.int f), .val (.long (q / (262144 : Int64))), .second] [])) _
    refine XS.lloadN X0.here hx rfl (hb hby d6_19) rfl ?_
    show Steps p.tables e below (s₁.setTop (mkF m 20 #[.val (.long q), .second, .val (.int f), .val (.long (q / (262144 : Int64))), .second] [(.long (q / (262144 : Int64)))])) _
    refine X0.ldc2Long hx hown (mvT hZ (hw _ (List.mem_of_getElem? (i := 25) rfl))) (g := (mkF m 20 #[.val (.long q), .second, .val (.int f), .val (.long (q / (262144 : Int64))), .second] [(.long (q / (262144 : Int64)))])) rfl (hb hby d6_20) _ ?_
    show Steps p.tables e below (s₁.setTop (mkF m 23 #[.val (.long q), .second, .val (.int f), .val (.long (q / (262144 : Int64))), .second] [(.long (65536 : Int64)), (.long (q / (262144 : Int64)))])) _
    refine XS.lcmp X0.here hx rfl (hb hby d6_23) rfl ?_
    show Steps p.tables e below (s₁.setTop (mkF m 24 #[.val (.long q), .second, .val (.int f), .val (.long (q / (262144 : Int64))), .second] [(.int (lcmpW (q / (262144 : Int64)) (65536 : Int64)))])) _
    refine XS.ifNo X0.here hx rfl (hb hby d6_24) rfl ((if0 _ _).trans (tlt (hc24 : (0 : Int32) < (lcmpW (q / (262144 : Int64)) (65536 : Int64)))).2.2.2) ?_
    show Steps p.tables e below (s₁.setTop (mkF m 27 #[.val (.long q), .second, .val (.int f), .val (.long (q / (262144 : Int64))), .second] [])) _
    refine X0.ldc2Long hx hown (mvT hZ (hw _ (List.mem_of_getElem? (i := 25) rfl))) (g := (mkF m 27 #[.val (.long q), .second, .val (.int f), .val (.long (q / (262144 : Int64))), .second] [])) rfl (hb hby d6_27) _ ?_
    show Steps p.tables e below (s₁.setTop (mkF m 30 #[.val (.long q), .second, .val (.int f), .val (.long (q / (262144 : Int64))), .second] [(.long (65536 : Int64))])) _
    refine XS.lstoreN X0.here hx rfl (hb hby d6_30) rfl (l' := #[.val (.long q), .second, .val (.int f), .val (.long (65536 : Int64)), .second]) rfl ?_
    show Steps p.tables e below (s₁.setTop (mkF m 31 #[.val (.long q), .second, .val (.int f), .val (.long (65536 : Int64)), .second] [])) _
    refine XS.lloadN X0.here hx rfl (hb hby d6_31) rfl ?_
    show Steps p.tables e below (s₁.setTop (mkF m 32 #[.val (.long q), .second, .val (.int f), .val (.long (65536 : Int64)), .second] [(.long (65536 : Int64))])) _
    refine XS.iloadN X0.here hx rfl (hb hby d6_32) rfl ?_
    show Steps p.tables e below (s₁.setTop (mkF m 33 #[.val (.long q), .second, .val (.int f), .val (.long (65536 : Int64)), .second] [(.int f), (.long (65536 : Int64))])) _
    refine XS.i2l X0.here hx rfl (hb hby d6_33) rfl ?_
    show Steps p.tables e below (s₁.setTop (mkF m 34 #[.val (.long q), .second, .val (.int f), .val (.long (65536 : Int64)), .second] [(.long (f.toInt64)), (.long (65536 : Int64))])) _
    refine XS.lcmp X0.here hx rfl (hb hby d6_34) rfl ?_
    show Steps p.tables e below (s₁.setTop (mkF m 35 #[.val (.long q), .second, .val (.int f), .val (.long (65536 : Int64)), .second] [(.int (lcmpW (65536 : Int64) (f.toInt64)))])) _
    refine XS.ifYes X0.here hx rfl (pc0 := 35) (pc' := 41) rfl (hb hby d6_35) rfl ((if0 _ _).trans (flt (hc35 : ¬ ((lcmpW (65536 : Int64) (f.toInt64)) < (0 : Int32)))).2.1) (by decide) (by decide) ?_
    show Steps p.tables e below (s₁.setTop (mkF m 41 #[.val (.long q), .second, .val (.int f), .val (.long (65536 : Int64)), .second] [])) _
    refine XS.lloadN X0.here hx rfl (hb hby d6_41) rfl ?_
    show Steps p.tables e below (s₁.setTop (mkF m 42 #[.val (.long q), .second, .val (.int f), .val (.long (65536 : Int64)), .second] [(.long (65536 : Int64))])) _
    refine XS.l2i X0.here hx rfl (hb hby d6_42) rfl ?_
    show Steps p.tables e below (s₁.setTop (mkF m 43 #[.val (.long q), .second, .val (.int f), .val (.long (65536 : Int64)), .second] [(.int ((65536 : Int64).toInt32))])) _
    exact retI X0 hx Bd.returns (hb hby d6_43) hr
  · show Q_expd Z q f h0 n0 _ s₁.heap _
    rw [e0]
    exact ⟨by rw [expV, expV3, expV2, expV1, if_neg hc5, if_pos hc24, if_neg hc35], N0, rfl⟩
set_option maxRecDepth 65536 in
set_option maxHeartbeats 40000000 in
theorem expd_4 (l : Launch) (Z : State) (a0 : Array Value) (hw : ∀ d ∈ tables_1, d.before a0 Z = true) (ws : List Jvm.Cond) (q : Int64) (f : Int32) (h0 : Heap) (n0 : Nat) (O0 : Old Z n0 h0) (hc5 : ¬ ((lcmpW q (262144 : Int64)) < (0 : Int32))) (hc24 : (0 : Int32) < (lcmpW (q / (262144 : Int64)) (65536 : Int64))) (hc35 : (lcmpW (65536 : Int64) (f.toInt64)) < (0 : Int32)) :
    MetFree l (⟨"com/example/tsutsumi/tsutsumi/io/ServingThreadsMostThreadsPinLaw", "expected", "(JI)I"⟩ : MethodName) (head1 (Jvm.Cond.code (⟨"com/example/tsutsumi/tsutsumi/io/ServingThreadsMostThreadsPinLaw", "expected", "(JI)I"⟩ : MethodName) method_3_code 5 (some .int) :: ws) ({ frames := 0, cells := 0, slots := 0, locals := 0 } : Room)) (fun zA zU => zA = #[(.long q), (.int f)] ∧ Z.Warmed39 zU.vm ∧ zU.heap = h0) (fun _ _ _ _ _ => True) (fun _ zU zo zU' => ∃ zv zL, zo = .returned zv ∧ Q_expd Z q f h0 n0 zv zU'.heap zL ∧ FrameEnd zU zo zU' zL ({ frames := 0, cells := 0, slots := 0, locals := 0 } : Room).cells ({ frames := 0, cells := 0, slots := 0, locals := 0 } : Room).slots) := by
  refine MetFree.of_bodySF (plainFor_of_name pn_7) hisR ?_
  intro p e s m args below meth c s₁ Bd hml0 hP hK
  obtain ⟨rfl, hZ, hh⟩ := hP
  have hx := Bd.exec
  have hby := Bd.bytes
  have hml : c.maxLocals = 5 := hml0
  have hown : s.vm.findClass "com/example/tsutsumi/tsutsumi/io/ServingThreadsMostThreadsPinLaw" = some m.cls := findClass_of_methodNamed Bd.named
  have hnm := (name_of_methodNamed Bd.named Bd.method).1
  have X0 : Stand p l e ({ frames := 0, cells := 0, slots := 0, locals := 0 } : Room) s m #[(.long q), (.int f)] below meth c s₁ [] 0 0 := Stand.of_body Bd
  have e0 : s₁.heap = h0 := by rw [← hh, Bd.state]; rfl
  have N0 := Fr.nil n0
  have Z0 : n0 ≤ h0.size := O0.1 ▸ O0.2.1
  have pre0 : ∀ zt, Steps p.tables e below (s₁.setTop (mkF m 0 #[.val (.long q), .second, .val (.int f), .unset, .unset] [])) zt → Steps p.tables e below (s₁.setTop (entryFrame m #[(.long q), (.int f)] 5)) zt := fun zt zk => castTop (ef_6_JI m q f) zk
  obtain ⟨fs, hr, hrun, hended, hW, hsame⟩ := X0.leave (v := some (.int ((f.toInt64).toInt32))) (fun h => by rw [Bd.returns] at h; cases h)
  refine ⟨_, _, pre0 _ ?_, hrun, hended, _, _, rfl, ?_, ⟨_, rfl⟩, hW, hsame.mono (by decide) (by decide)⟩
  · show Steps p.tables e below (s₁.setTop (mkF m 0 #[.val (.long q), .second, .val (.int f), .unset, .unset] [])) _
    refine XS.lloadN X0.here hx rfl (hb hby d6_0) rfl ?_
    show Steps p.tables e below (s₁.setTop (mkF m 1 #[.val (.long q), .second, .val (.int f), .unset, .unset] [(.long q)])) _
    refine X0.ldc2Long hx hown (mvT hZ (hw _ (List.mem_of_getElem? (i := 24) rfl))) (g := (mkF m 1 #[.val (.long q), .second, .val (.int f), .unset, .unset] [(.long q)])) rfl (hb hby d6_1) _ ?_
    show Steps p.tables e below (s₁.setTop (mkF m 4 #[.val (.long q), .second, .val (.int f), .unset, .unset] [(.long (262144 : Int64)), (.long q)])) _
    refine XS.lcmp X0.here hx rfl (hb hby d6_4) rfl ?_
    show Steps p.tables e below (s₁.setTop (mkF m 5 #[.val (.long q), .second, .val (.int f), .unset, .unset] [(.int (lcmpW q (262144 : Int64)))])) _
    refine XS.ifYes X0.here hx rfl (pc0 := 5) (pc' := 13) rfl (hb hby d6_5) rfl ((if0 _ _).trans (flt (hc5 : ¬ ((lcmpW q (262144 : Int64)) < (0 : Int32)))).2.1) (by decide) (by decide) ?_
    show Steps p.tables e below (s₁.setTop (mkF m 13 #[.val (.long q), .second, .val (.int f), .unset, .unset] [])) _
    refine XS.lloadN X0.here hx rfl (hb hby d6_13) rfl ?_
    show Steps p.tables e below (s₁.setTop (mkF m 14 #[.val (.long q), .second, .val (.int f), .unset, .unset] [(.long q)])) _
    refine X0.ldc2Long hx hown (mvT hZ (hw _ (List.mem_of_getElem? (i := 24) rfl))) (g := (mkF m 14 #[.val (.long q), .second, .val (.int f), .unset, .unset] [(.long q)])) rfl (hb hby d6_14) _ ?_
    show Steps p.tables e below (s₁.setTop (mkF m 17 #[.val (.long q), .second, .val (.int f), .unset, .unset] [(.long (262144 : Int64)), (.long q)])) _
    refine XS.ldiv X0.here hx rfl (hb hby d6_17) rfl (by decide) ?_
    show Steps p.tables e below (s₁.setTop (mkF m 18 #[.val (.long q), .second, .val (.int f), .unset, .unset] [(.long (q / (262144 : Int64)))])) _
    refine XS.lstoreN X0.here hx rfl (hb hby d6_18) rfl (l' := #[.val (.long q), .second, .val (.int f), .val (.long (q / (262144 : Int64))), .second]) rfl ?_
    show Steps p.tables e below (s₁.setTop (mkF m 19 #[.val (.long q), .second, .val (.int f), .val (.long (q / (262144 : Int64))), .second] [])) _
    refine XS.lloadN X0.here hx rfl (hb hby d6_19) rfl ?_
    show Steps p.tables e below (s₁.setTop (mkF m 20 #[.val (.long q), .second, .val (.int f), .val (.long (q / (262144 : Int64))), .second] [(.long (q / (262144 : Int64)))])) _
    refine X0.ldc2Long hx hown (mvT hZ (hw _ (List.mem_of_getElem? (i := 25) rfl))) (g := (mkF m 20 #[.val (.long q), .second, .val (.int f), .val (.long (q / (262144 : Int64))), .second] [(.long (q / (262144 : Int64)))])) rfl (hb hby d6_20) _ ?_
    show Steps p.tables e below (s₁.setTop (mkF m 23 #[.val (.long q), .second, .val (.int f), .val (.long (q / (262144 : Int64))), .second] [(.long (65536 : Int64)), (.long (q / (262144 : Int64)))])) _
    refine XS.lcmp X0.here hx rfl (hb hby d6_23) rfl ?_
    show Steps p.tables e below (s₁.setTop (mkF m 24 #[.val (.long q), .second, .val (.int f), .val (.long (q / (262144 : Int64))), .second] [(.int (lcmpW (q / (262144 : Int64)) (65536 : Int64)))])) _
    refine XS.ifNo X0.here hx rfl (hb hby d6_24) rfl ((if0 _ _).trans (tlt (hc24 : (0 : Int32) < (lcmpW (q / (262144 : Int64)) (65536 : Int64)))).2.2.2) ?_
    show Steps p.tables e below (s₁.setTop (mkF m 27 #[.val (.long q), .second, .val (.int f), .val (.long (q / (262144 : Int64))), .second] [])) _
    refine X0.ldc2Long hx hown (mvT hZ (hw _ (List.mem_of_getElem? (i := 25) rfl))) (g := (mkF m 27 #[.val (.long q), .second, .val (.int f), .val (.long (q / (262144 : Int64))), .second] [])) rfl (hb hby d6_27) _ ?_
    show Steps p.tables e below (s₁.setTop (mkF m 30 #[.val (.long q), .second, .val (.int f), .val (.long (q / (262144 : Int64))), .second] [(.long (65536 : Int64))])) _
    refine XS.lstoreN X0.here hx rfl (hb hby d6_30) rfl (l' := #[.val (.long q), .second, .val (.int f), .val (.long (65536 : Int64)), .second]) rfl ?_
    show Steps p.tables e below (s₁.setTop (mkF m 31 #[.val (.long q), .second, .val (.int f), .val (.long (65536 : Int64)), .second] [])) _
    refine XS.lloadN X0.here hx rfl (hb hby d6_31) rfl ?_
    show Steps p.tables e below (s₁.setTop (mkF m 32 #[.val (.long q), .second, .val (.int f), .val (.long (65536 : Int64)), .second] [(.long (65536 : Int64))])) _
    refine XS.iloadN X0.here hx rfl (hb hby d6_32) rfl ?_
    show Steps p.tables e below (s₁.setTop (mkF m 33 #[.val (.long q), .second, .val (.int f), .val (.long (65536 : Int64)), .second] [(.int f), (.long (65536 : Int64))])) _
    refine XS.i2l X0.here hx rfl (hb hby d6_33) rfl ?_
    show Steps p.tables e below (s₁.setTop (mkF m 34 #[.val (.long q), .second, .val (.int f), .val (.long (65536 : Int64)), .second] [(.long (f.toInt64)), (.long (65536 : Int64))])) _
    refine XS.lcmp X0.here hx rfl (hb hby d6_34) rfl ?_
    show Steps p.tables e below (s₁.setTop (mkF m 35 #[.val (.long q), .second, .val (.int f), .val (.long (65536 : Int64)), .second] [(.int (lcmpW (65536 : Int64) (f.toInt64)))])) _
    refine XS.ifNo X0.here hx rfl (hb hby d6_35) rfl ((if0 _ _).trans (tlt (hc35 : (lcmpW (65536 : Int64) (f.toInt64)) < (0 : Int32))).2.1) ?_
    show Steps p.tables e below (s₁.setTop (mkF m 38 #[.val (.long q), .second, .val (.int f), .val (.long (65536 : Int64)), .second] [])) _
    refine XS.iloadN X0.here hx rfl (hb hby d6_38) rfl ?_
    show Steps p.tables e below (s₁.setTop (mkF m 39 #[.val (.long q), .second, .val (.int f), .val (.long (65536 : Int64)), .second] [(.int f)])) _
    refine XS.i2l X0.here hx rfl (hb hby d6_39) rfl ?_
    show Steps p.tables e below (s₁.setTop (mkF m 40 #[.val (.long q), .second, .val (.int f), .val (.long (65536 : Int64)), .second] [(.long (f.toInt64))])) _
    refine XS.lstoreN X0.here hx rfl (hb hby d6_40) rfl (l' := #[.val (.long q), .second, .val (.int f), .val (.long (f.toInt64)), .second]) rfl ?_
    show Steps p.tables e below (s₁.setTop (mkF m 41 #[.val (.long q), .second, .val (.int f), .val (.long (f.toInt64)), .second] [])) _
    refine XS.lloadN X0.here hx rfl (hb hby d6_41) rfl ?_
    show Steps p.tables e below (s₁.setTop (mkF m 42 #[.val (.long q), .second, .val (.int f), .val (.long (f.toInt64)), .second] [(.long (f.toInt64))])) _
    refine XS.l2i X0.here hx rfl (hb hby d6_42) rfl ?_
    show Steps p.tables e below (s₁.setTop (mkF m 43 #[.val (.long q), .second, .val (.int f), .val (.long (f.toInt64)), .second] [(.int ((f.toInt64).toInt32))])) _
    exact retI X0 hx Bd.returns (hb hby d6_43) hr
  · show Q_expd Z q f h0 n0 _ s₁.heap _
    rw [e0]
    exact ⟨by rw [expV, expV3, expV2, expV1, if_neg hc5, if_pos hc24, if_pos hc35], N0, rfl⟩
theorem d6_8 : decode method_3_code 8 = .ok (.lconst 0, 1) := by decide +kernel
theorem d6_9 : decode method_3_code 9 = .ok (.lstore_n 3, 1) := by decide +kernel
theorem d6_10 : decode method_3_code 10 = .ok (.goto 9, 3) := by decide +kernel
set_option maxRecDepth 65536 in
set_option maxHeartbeats 40000000 in
theorem expd_5 (l : Launch) (Z : State) (a0 : Array Value) (hw : ∀ d ∈ tables_1, d.before a0 Z = true) (ws : List Jvm.Cond) (q : Int64) (f : Int32) (h0 : Heap) (n0 : Nat) (O0 : Old Z n0 h0) (hc5 : (lcmpW q (262144 : Int64)) < (0 : Int32)) (hc24 : ¬ ((0 : Int32) < (lcmpW (0 : Int64) (65536 : Int64)))) (hc35 : ¬ ((lcmpW (0 : Int64) (f.toInt64)) < (0 : Int32))) :
    MetFree l (⟨"com/example/tsutsumi/tsutsumi/io/ServingThreadsMostThreadsPinLaw", "expected", "(JI)I"⟩ : MethodName) (head1 (Jvm.Cond.code (⟨"com/example/tsutsumi/tsutsumi/io/ServingThreadsMostThreadsPinLaw", "expected", "(JI)I"⟩ : MethodName) method_3_code 5 (some .int) :: ws) ({ frames := 0, cells := 0, slots := 0, locals := 0 } : Room)) (fun zA zU => zA = #[(.long q), (.int f)] ∧ Z.Warmed39 zU.vm ∧ zU.heap = h0) (fun _ _ _ _ _ => True) (fun _ zU zo zU' => ∃ zv zL, zo = .returned zv ∧ Q_expd Z q f h0 n0 zv zU'.heap zL ∧ FrameEnd zU zo zU' zL ({ frames := 0, cells := 0, slots := 0, locals := 0 } : Room).cells ({ frames := 0, cells := 0, slots := 0, locals := 0 } : Room).slots) := by
  refine MetFree.of_bodySF (plainFor_of_name pn_7) hisR ?_
  intro p e s m args below meth c s₁ Bd hml0 hP hK
  obtain ⟨rfl, hZ, hh⟩ := hP
  have hx := Bd.exec
  have hby := Bd.bytes
  have hml : c.maxLocals = 5 := hml0
  have hown : s.vm.findClass "com/example/tsutsumi/tsutsumi/io/ServingThreadsMostThreadsPinLaw" = some m.cls := findClass_of_methodNamed Bd.named
  have hnm := (name_of_methodNamed Bd.named Bd.method).1
  have X0 : Stand p l e ({ frames := 0, cells := 0, slots := 0, locals := 0 } : Room) s m #[(.long q), (.int f)] below meth c s₁ [] 0 0 := Stand.of_body Bd
  have e0 : s₁.heap = h0 := by rw [← hh, Bd.state]; rfl
  have N0 := Fr.nil n0
  have Z0 : n0 ≤ h0.size := O0.1 ▸ O0.2.1
  have pre0 : ∀ zt, Steps p.tables e below (s₁.setTop (mkF m 0 #[.val (.long q), .second, .val (.int f), .unset, .unset] [])) zt → Steps p.tables e below (s₁.setTop (entryFrame m #[(.long q), (.int f)] 5)) zt := fun zt zk => castTop (ef_6_JI m q f) zk
  obtain ⟨fs, hr, hrun, hended, hW, hsame⟩ := X0.leave (v := some (.int ((0 : Int64).toInt32))) (fun h => by rw [Bd.returns] at h; cases h)
  refine ⟨_, _, pre0 _ ?_, hrun, hended, _, _, rfl, ?_, ⟨_, rfl⟩, hW, hsame.mono (by decide) (by decide)⟩
  · show Steps p.tables e below (s₁.setTop (mkF m 0 #[.val (.long q), .second, .val (.int f), .unset, .unset] [])) _
    refine XS.lloadN X0.here hx rfl (hb hby d6_0) rfl ?_
    show Steps p.tables e below (s₁.setTop (mkF m 1 #[.val (.long q), .second, .val (.int f), .unset, .unset] [(.long q)])) _
    refine X0.ldc2Long hx hown (mvT hZ (hw _ (List.mem_of_getElem? (i := 24) rfl))) (g := (mkF m 1 #[.val (.long q), .second, .val (.int f), .unset, .unset] [(.long q)])) rfl (hb hby d6_1) _ ?_
    show Steps p.tables e below (s₁.setTop (mkF m 4 #[.val (.long q), .second, .val (.int f), .unset, .unset] [(.long (262144 : Int64)), (.long q)])) _
    refine XS.lcmp X0.here hx rfl (hb hby d6_4) rfl ?_
    show Steps p.tables e below (s₁.setTop (mkF m 5 #[.val (.long q), .second, .val (.int f), .unset, .unset] [(.int (lcmpW q (262144 : Int64)))])) _
    refine XS.ifNo X0.here hx rfl (hb hby d6_5) rfl ((if0 _ _).trans (tlt (hc5 : (lcmpW q (262144 : Int64)) < (0 : Int32))).2.1) ?_
    show Steps p.tables e below (s₁.setTop (mkF m 8 #[.val (.long q), .second, .val (.int f), .unset, .unset] [])) _
    refine XS.lconst X0.here hx rfl (hb hby d6_8) ?_
    show Steps p.tables e below (s₁.setTop (mkF m 9 #[.val (.long q), .second, .val (.int f), .unset, .unset] [(.long (0 : Int64))])) _
    refine XS.lstoreN X0.here hx rfl (hb hby d6_9) rfl (l' := #[.val (.long q), .second, .val (.int f), .val (.long (0 : Int64)), .second]) rfl ?_
    show Steps p.tables e below (s₁.setTop (mkF m 10 #[.val (.long q), .second, .val (.int f), .val (.long (0 : Int64)), .second] [])) _
    refine XS.goto X0.here hx rfl (pc0 := 10) (pc' := 19) rfl (hb hby d6_10) (by decide) (by decide) ?_
    show Steps p.tables e below (s₁.setTop (mkF m 19 #[.val (.long q), .second, .val (.int f), .val (.long (0 : Int64)), .second] [])) _
    refine XS.lloadN X0.here hx rfl (hb hby d6_19) rfl ?_
    show Steps p.tables e below (s₁.setTop (mkF m 20 #[.val (.long q), .second, .val (.int f), .val (.long (0 : Int64)), .second] [(.long (0 : Int64))])) _
    refine X0.ldc2Long hx hown (mvT hZ (hw _ (List.mem_of_getElem? (i := 25) rfl))) (g := (mkF m 20 #[.val (.long q), .second, .val (.int f), .val (.long (0 : Int64)), .second] [(.long (0 : Int64))])) rfl (hb hby d6_20) _ ?_
    show Steps p.tables e below (s₁.setTop (mkF m 23 #[.val (.long q), .second, .val (.int f), .val (.long (0 : Int64)), .second] [(.long (65536 : Int64)), (.long (0 : Int64))])) _
    refine XS.lcmp X0.here hx rfl (hb hby d6_23) rfl ?_
    show Steps p.tables e below (s₁.setTop (mkF m 24 #[.val (.long q), .second, .val (.int f), .val (.long (0 : Int64)), .second] [(.int (lcmpW (0 : Int64) (65536 : Int64)))])) _
    refine XS.ifYes X0.here hx rfl (pc0 := 24) (pc' := 31) rfl (hb hby d6_24) rfl ((if0 _ _).trans (flt (hc24 : ¬ ((0 : Int32) < (lcmpW (0 : Int64) (65536 : Int64))))).2.2.2) (by decide) (by decide) ?_
    show Steps p.tables e below (s₁.setTop (mkF m 31 #[.val (.long q), .second, .val (.int f), .val (.long (0 : Int64)), .second] [])) _
    refine XS.lloadN X0.here hx rfl (hb hby d6_31) rfl ?_
    show Steps p.tables e below (s₁.setTop (mkF m 32 #[.val (.long q), .second, .val (.int f), .val (.long (0 : Int64)), .second] [(.long (0 : Int64))])) _
    refine XS.iloadN X0.here hx rfl (hb hby d6_32) rfl ?_
    show Steps p.tables e below (s₁.setTop (mkF m 33 #[.val (.long q), .second, .val (.int f), .val (.long (0 : Int64)), .second] [(.int f), (.long (0 : Int64))])) _
    refine XS.i2l X0.here hx rfl (hb hby d6_33) rfl ?_
    show Steps p.tables e below (s₁.setTop (mkF m 34 #[.val (.long q), .second, .val (.int f), .val (.long (0 : Int64)), .second] [(.long (f.toInt64)), (.long (0 : Int64))])) _
    refine XS.lcmp X0.here hx rfl (hb hby d6_34) rfl ?_
    show Steps p.tables e below (s₁.setTop (mkF m 35 #[.val (.long q), .second, .val (.int f), .val (.long (0 : Int64)), .second] [(.int (lcmpW (0 : Int64) (f.toInt64)))])) _
    refine XS.ifYes X0.here hx rfl (pc0 := 35) (pc' := 41) rfl (hb hby d6_35) rfl ((if0 _ _).trans (flt (hc35 : ¬ ((lcmpW (0 : Int64) (f.toInt64)) < (0 : Int32)))).2.1) (by decide) (by decide) ?_
    show Steps p.tables e below (s₁.setTop (mkF m 41 #[.val (.long q), .second, .val (.int f), .val (.long (0 : Int64)), .second] [])) _
    refine XS.lloadN X0.here hx rfl (hb hby d6_41) rfl ?_
    show Steps p.tables e below (s₁.setTop (mkF m 42 #[.val (.long q), .second, .val (.int f), .val (.long (0 : Int64)), .second] [(.long (0 : Int64))])) _
    refine XS.l2i X0.here hx rfl (hb hby d6_42) rfl ?_
    show Steps p.tables e below (s₁.setTop (mkF m 43 #[.val (.long q), .second, .val (.int f), .val (.long (0 : Int64)), .second] [(.int ((0 : Int64).toInt32))])) _
    exact retI X0 hx Bd.returns (hb hby d6_43) hr
  · show Q_expd Z q f h0 n0 _ s₁.heap _
    rw [e0]
    exact ⟨by rw [expV, expV3, expV2, expV1, if_pos hc5, if_neg hc24, if_neg hc35], N0, rfl⟩
set_option maxRecDepth 65536 in
set_option maxHeartbeats 40000000 in
theorem expd_6 (l : Launch) (Z : State) (a0 : Array Value) (hw : ∀ d ∈ tables_1, d.before a0 Z = true) (ws : List Jvm.Cond) (q : Int64) (f : Int32) (h0 : Heap) (n0 : Nat) (O0 : Old Z n0 h0) (hc5 : (lcmpW q (262144 : Int64)) < (0 : Int32)) (hc24 : ¬ ((0 : Int32) < (lcmpW (0 : Int64) (65536 : Int64)))) (hc35 : (lcmpW (0 : Int64) (f.toInt64)) < (0 : Int32)) :
    MetFree l (⟨"com/example/tsutsumi/tsutsumi/io/ServingThreadsMostThreadsPinLaw", "expected", "(JI)I"⟩ : MethodName) (head1 (Jvm.Cond.code (⟨"com/example/tsutsumi/tsutsumi/io/ServingThreadsMostThreadsPinLaw", "expected", "(JI)I"⟩ : MethodName) method_3_code 5 (some .int) :: ws) ({ frames := 0, cells := 0, slots := 0, locals := 0 } : Room)) (fun zA zU => zA = #[(.long q), (.int f)] ∧ Z.Warmed39 zU.vm ∧ zU.heap = h0) (fun _ _ _ _ _ => True) (fun _ zU zo zU' => ∃ zv zL, zo = .returned zv ∧ Q_expd Z q f h0 n0 zv zU'.heap zL ∧ FrameEnd zU zo zU' zL ({ frames := 0, cells := 0, slots := 0, locals := 0 } : Room).cells ({ frames := 0, cells := 0, slots := 0, locals := 0 } : Room).slots) := by
  refine MetFree.of_bodySF (plainFor_of_name pn_7) hisR ?_
  intro p e s m args below meth c s₁ Bd hml0 hP hK
  obtain ⟨rfl, hZ, hh⟩ := hP
  have hx := Bd.exec
  have hby := Bd.bytes
  have hml : c.maxLocals = 5 := hml0
  have hown : s.vm.findClass "com/example/tsutsumi/tsutsumi/io/ServingThreadsMostThreadsPinLaw" = some m.cls := findClass_of_methodNamed Bd.named
  have hnm := (name_of_methodNamed Bd.named Bd.method).1
  have X0 : Stand p l e ({ frames := 0, cells := 0, slots := 0, locals := 0 } : Room) s m #[(.long q), (.int f)] below meth c s₁ [] 0 0 := Stand.of_body Bd
  have e0 : s₁.heap = h0 := by rw [← hh, Bd.state]; rfl
  have N0 := Fr.nil n0
  have Z0 : n0 ≤ h0.size := O0.1 ▸ O0.2.1
  have pre0 : ∀ zt, Steps p.tables e below (s₁.setTop (mkF m 0 #[.val (.long q), .second, .val (.int f), .unset, .unset] [])) zt → Steps p.tables e below (s₁.setTop (entryFrame m #[(.long q), (.int f)] 5)) zt := fun zt zk => castTop (ef_6_JI m q f) zk
  obtain ⟨fs, hr, hrun, hended, hW, hsame⟩ := X0.leave (v := some (.int ((f.toInt64).toInt32))) (fun h => by rw [Bd.returns] at h; cases h)
  refine ⟨_, _, pre0 _ ?_, hrun, hended, _, _, rfl, ?_, ⟨_, rfl⟩, hW, hsame.mono (by decide) (by decide)⟩
  · show Steps p.tables e below (s₁.setTop (mkF m 0 #[.val (.long q), .second, .val (.int f), .unset, .unset] [])) _
    refine XS.lloadN X0.here hx rfl (hb hby d6_0) rfl ?_
    show Steps p.tables e below (s₁.setTop (mkF m 1 #[.val (.long q), .second, .val (.int f), .unset, .unset] [(.long q)])) _
    refine X0.ldc2Long hx hown (mvT hZ (hw _ (List.mem_of_getElem? (i := 24) rfl))) (g := (mkF m 1 #[.val (.long q), .second, .val (.int f), .unset, .unset] [(.long q)])) rfl (hb hby d6_1) _ ?_
    show Steps p.tables e below (s₁.setTop (mkF m 4 #[.val (.long q), .second, .val (.int f), .unset, .unset] [(.long (262144 : Int64)), (.long q)])) _
    refine XS.lcmp X0.here hx rfl (hb hby d6_4) rfl ?_
    show Steps p.tables e below (s₁.setTop (mkF m 5 #[.val (.long q), .second, .val (.int f), .unset, .unset] [(.int (lcmpW q (262144 : Int64)))])) _
    refine XS.ifNo X0.here hx rfl (hb hby d6_5) rfl ((if0 _ _).trans (tlt (hc5 : (lcmpW q (262144 : Int64)) < (0 : Int32))).2.1) ?_
    show Steps p.tables e below (s₁.setTop (mkF m 8 #[.val (.long q), .second, .val (.int f), .unset, .unset] [])) _
    refine XS.lconst X0.here hx rfl (hb hby d6_8) ?_
    show Steps p.tables e below (s₁.setTop (mkF m 9 #[.val (.long q), .second, .val (.int f), .unset, .unset] [(.long (0 : Int64))])) _
    refine XS.lstoreN X0.here hx rfl (hb hby d6_9) rfl (l' := #[.val (.long q), .second, .val (.int f), .val (.long (0 : Int64)), .second]) rfl ?_
    show Steps p.tables e below (s₁.setTop (mkF m 10 #[.val (.long q), .second, .val (.int f), .val (.long (0 : Int64)), .second] [])) _
    refine XS.goto X0.here hx rfl (pc0 := 10) (pc' := 19) rfl (hb hby d6_10) (by decide) (by decide) ?_
    show Steps p.tables e below (s₁.setTop (mkF m 19 #[.val (.long q), .second, .val (.int f), .val (.long (0 : Int64)), .second] [])) _
    refine XS.lloadN X0.here hx rfl (hb hby d6_19) rfl ?_
    show Steps p.tables e below (s₁.setTop (mkF m 20 #[.val (.long q), .second, .val (.int f), .val (.long (0 : Int64)), .second] [(.long (0 : Int64))])) _
    refine X0.ldc2Long hx hown (mvT hZ (hw _ (List.mem_of_getElem? (i := 25) rfl))) (g := (mkF m 20 #[.val (.long q), .second, .val (.int f), .val (.long (0 : Int64)), .second] [(.long (0 : Int64))])) rfl (hb hby d6_20) _ ?_
    show Steps p.tables e below (s₁.setTop (mkF m 23 #[.val (.long q), .second, .val (.int f), .val (.long (0 : Int64)), .second] [(.long (65536 : Int64)), (.long (0 : Int64))])) _
    refine XS.lcmp X0.here hx rfl (hb hby d6_23) rfl ?_
    show Steps p.tables e below (s₁.setTop (mkF m 24 #[.val (.long q), .second, .val (.int f), .val (.long (0 : Int64)), .second] [(.int (lcmpW (0 : Int64) (65536 : Int64)))])) _
    refine XS.ifYes X0.here hx rfl (pc0 := 24) (pc' := 31) rfl (hb hby d6_24) rfl ((if0 _ _).trans (flt (hc24 : ¬ ((0 : Int32) < (lcmpW (0 : Int64) (65536 : Int64))))).2.2.2) (by decide) (by decide) ?_
    show Steps p.tables e below (s₁.setTop (mkF m 31 #[.val (.long q), .second, .val (.int f), .val (.long (0 : Int64)), .second] [])) _
    refine XS.lloadN X0.here hx rfl (hb hby d6_31) rfl ?_
    show Steps p.tables e below (s₁.setTop (mkF m 32 #[.val (.long q), .second, .val (.int f), .val (.long (0 : Int64)), .second] [(.long (0 : Int64))])) _
    refine XS.iloadN X0.here hx rfl (hb hby d6_32) rfl ?_
    show Steps p.tables e below (s₁.setTop (mkF m 33 #[.val (.long q), .second, .val (.int f), .val (.long (0 : Int64)), .second] [(.int f), (.long (0 : Int64))])) _
    refine XS.i2l X0.here hx rfl (hb hby d6_33) rfl ?_
    show Steps p.tables e below (s₁.setTop (mkF m 34 #[.val (.long q), .second, .val (.int f), .val (.long (0 : Int64)), .second] [(.long (f.toInt64)), (.long (0 : Int64))])) _
    refine XS.lcmp X0.here hx rfl (hb hby d6_34) rfl ?_
    show Steps p.tables e below (s₁.setTop (mkF m 35 #[.val (.long q), .second, .val (.int f), .val (.long (0 : Int64)), .second] [(.int (lcmpW (0 : Int64) (f.toInt64)))])) _
    refine XS.ifNo X0.here hx rfl (hb hby d6_35) rfl ((if0 _ _).trans (tlt (hc35 : (lcmpW (0 : Int64) (f.toInt64)) < (0 : Int32))).2.1) ?_
    show Steps p.tables e below (s₁.setTop (mkF m 38 #[.val (.long q), .second, .val (.int f), .val (.long (0 : Int64)), .second] [])) _
    refine XS.iloadN X0.here hx rfl (hb hby d6_38) rfl ?_
    show Steps p.tables e below (s₁.setTop (mkF m 39 #[.val (.long q), .second, .val (.int f), .val (.long (0 : Int64)), .second] [(.int f)])) _
    refine XS.i2l X0.here hx rfl (hb hby d6_39) rfl ?_
    show Steps p.tables e below (s₁.setTop (mkF m 40 #[.val (.long q), .second, .val (.int f), .val (.long (0 : Int64)), .second] [(.long (f.toInt64))])) _
    refine XS.lstoreN X0.here hx rfl (hb hby d6_40) rfl (l' := #[.val (.long q), .second, .val (.int f), .val (.long (f.toInt64)), .second]) rfl ?_
    show Steps p.tables e below (s₁.setTop (mkF m 41 #[.val (.long q), .second, .val (.int f), .val (.long (f.toInt64)), .second] [])) _
    refine XS.lloadN X0.here hx rfl (hb hby d6_41) rfl ?_
    show Steps p.tables e below (s₁.setTop (mkF m 42 #[.val (.long q), .second, .val (.int f), .val (.long (f.toInt64)), .second] [(.long (f.toInt64))])) _
    refine XS.l2i X0.here hx rfl (hb hby d6_42) rfl ?_
    show Steps p.tables e below (s₁.setTop (mkF m 43 #[.val (.long q), .second, .val (.int f), .val (.long (f.toInt64)), .second] [(.int ((f.toInt64).toInt32))])) _
    exact retI X0 hx Bd.returns (hb hby d6_43) hr
  · show Q_expd Z q f h0 n0 _ s₁.heap _
    rw [e0]
    exact ⟨by rw [expV, expV3, expV2, expV1, if_pos hc5, if_neg hc24, if_pos hc35], N0, rfl⟩
set_option maxRecDepth 65536 in
set_option maxHeartbeats 40000000 in
theorem expd_7 (l : Launch) (Z : State) (a0 : Array Value) (hw : ∀ d ∈ tables_1, d.before a0 Z = true) (ws : List Jvm.Cond) (q : Int64) (f : Int32) (h0 : Heap) (n0 : Nat) (O0 : Old Z n0 h0) (hc5 : (lcmpW q (262144 : Int64)) < (0 : Int32)) (hc24 : (0 : Int32) < (lcmpW (0 : Int64) (65536 : Int64))) (hc35 : ¬ ((lcmpW (65536 : Int64) (f.toInt64)) < (0 : Int32))) :
    MetFree l (⟨"com/example/tsutsumi/tsutsumi/io/ServingThreadsMostThreadsPinLaw", "expected", "(JI)I"⟩ : MethodName) (head1 (Jvm.Cond.code (⟨"com/example/tsutsumi/tsutsumi/io/ServingThreadsMostThreadsPinLaw", "expected", "(JI)I"⟩ : MethodName) method_3_code 5 (some .int) :: ws) ({ frames := 0, cells := 0, slots := 0, locals := 0 } : Room)) (fun zA zU => zA = #[(.long q), (.int f)] ∧ Z.Warmed39 zU.vm ∧ zU.heap = h0) (fun _ _ _ _ _ => True) (fun _ zU zo zU' => ∃ zv zL, zo = .returned zv ∧ Q_expd Z q f h0 n0 zv zU'.heap zL ∧ FrameEnd zU zo zU' zL ({ frames := 0, cells := 0, slots := 0, locals := 0 } : Room).cells ({ frames := 0, cells := 0, slots := 0, locals := 0 } : Room).slots) := by
  refine MetFree.of_bodySF (plainFor_of_name pn_7) hisR ?_
  intro p e s m args below meth c s₁ Bd hml0 hP hK
  obtain ⟨rfl, hZ, hh⟩ := hP
  have hx := Bd.exec
  have hby := Bd.bytes
  have hml : c.maxLocals = 5 := hml0
  have hown : s.vm.findClass "com/example/tsutsumi/tsutsumi/io/ServingThreadsMostThreadsPinLaw" = some m.cls := findClass_of_methodNamed Bd.named
  have hnm := (name_of_methodNamed Bd.named Bd.method).1
  have X0 : Stand p l e ({ frames := 0, cells := 0, slots := 0, locals := 0 } : Room) s m #[(.long q), (.int f)] below meth c s₁ [] 0 0 := Stand.of_body Bd
  have e0 : s₁.heap = h0 := by rw [← hh, Bd.state]; rfl
  have N0 := Fr.nil n0
  have Z0 : n0 ≤ h0.size := O0.1 ▸ O0.2.1
  have pre0 : ∀ zt, Steps p.tables e below (s₁.setTop (mkF m 0 #[.val (.long q), .second, .val (.int f), .unset, .unset] [])) zt → Steps p.tables e below (s₁.setTop (entryFrame m #[(.long q), (.int f)] 5)) zt := fun zt zk => castTop (ef_6_JI m q f) zk
  obtain ⟨fs, hr, hrun, hended, hW, hsame⟩ := X0.leave (v := some (.int ((65536 : Int64).toInt32))) (fun h => by rw [Bd.returns] at h; cases h)
  refine ⟨_, _, pre0 _ ?_, hrun, hended, _, _, rfl, ?_, ⟨_, rfl⟩, hW, hsame.mono (by decide) (by decide)⟩
  · show Steps p.tables e below (s₁.setTop (mkF m 0 #[.val (.long q), .second, .val (.int f), .unset, .unset] [])) _
    refine XS.lloadN X0.here hx rfl (hb hby d6_0) rfl ?_
    show Steps p.tables e below (s₁.setTop (mkF m 1 #[.val (.long q), .second, .val (.int f), .unset, .unset] [(.long q)])) _
    refine X0.ldc2Long hx hown (mvT hZ (hw _ (List.mem_of_getElem? (i := 24) rfl))) (g := (mkF m 1 #[.val (.long q), .second, .val (.int f), .unset, .unset] [(.long q)])) rfl (hb hby d6_1) _ ?_
    show Steps p.tables e below (s₁.setTop (mkF m 4 #[.val (.long q), .second, .val (.int f), .unset, .unset] [(.long (262144 : Int64)), (.long q)])) _
    refine XS.lcmp X0.here hx rfl (hb hby d6_4) rfl ?_
    show Steps p.tables e below (s₁.setTop (mkF m 5 #[.val (.long q), .second, .val (.int f), .unset, .unset] [(.int (lcmpW q (262144 : Int64)))])) _
    refine XS.ifNo X0.here hx rfl (hb hby d6_5) rfl ((if0 _ _).trans (tlt (hc5 : (lcmpW q (262144 : Int64)) < (0 : Int32))).2.1) ?_
    show Steps p.tables e below (s₁.setTop (mkF m 8 #[.val (.long q), .second, .val (.int f), .unset, .unset] [])) _
    refine XS.lconst X0.here hx rfl (hb hby d6_8) ?_
    show Steps p.tables e below (s₁.setTop (mkF m 9 #[.val (.long q), .second, .val (.int f), .unset, .unset] [(.long (0 : Int64))])) _
    refine XS.lstoreN X0.here hx rfl (hb hby d6_9) rfl (l' := #[.val (.long q), .second, .val (.int f), .val (.long (0 : Int64)), .second]) rfl ?_
    show Steps p.tables e below (s₁.setTop (mkF m 10 #[.val (.long q), .second, .val (.int f), .val (.long (0 : Int64)), .second] [])) _
    refine XS.goto X0.here hx rfl (pc0 := 10) (pc' := 19) rfl (hb hby d6_10) (by decide) (by decide) ?_
    show Steps p.tables e below (s₁.setTop (mkF m 19 #[.val (.long q), .second, .val (.int f), .val (.long (0 : Int64)), .second] [])) _
    refine XS.lloadN X0.here hx rfl (hb hby d6_19) rfl ?_
    show Steps p.tables e below (s₁.setTop (mkF m 20 #[.val (.long q), .second, .val (.int f), .val (.long (0 : Int64)), .second] [(.long (0 : Int64))])) _
    refine X0.ldc2Long hx hown (mvT hZ (hw _ (List.mem_of_getElem? (i := 25) rfl))) (g := (mkF m 20 #[.val (.long q), .second, .val (.int f), .val (.long (0 : Int64)), .second] [(.long (0 : Int64))])) rfl (hb hby d6_20) _ ?_
    show Steps p.tables e below (s₁.setTop (mkF m 23 #[.val (.long q), .second, .val (.int f), .val (.long (0 : Int64)), .second] [(.long (65536 : Int64)), (.long (0 : Int64))])) _
    refine XS.lcmp X0.here hx rfl (hb hby d6_23) rfl ?_
    show Steps p.tables e below (s₁.setTop (mkF m 24 #[.val (.long q), .second, .val (.int f), .val (.long (0 : Int64)), .second] [(.int (lcmpW (0 : Int64) (65536 : Int64)))])) _
    refine XS.ifNo X0.here hx rfl (hb hby d6_24) rfl ((if0 _ _).trans (tlt (hc24 : (0 : Int32) < (lcmpW (0 : Int64) (65536 : Int64)))).2.2.2) ?_
    show Steps p.tables e below (s₁.setTop (mkF m 27 #[.val (.long q), .second, .val (.int f), .val (.long (0 : Int64)), .second] [])) _
    refine X0.ldc2Long hx hown (mvT hZ (hw _ (List.mem_of_getElem? (i := 25) rfl))) (g := (mkF m 27 #[.val (.long q), .second, .val (.int f), .val (.long (0 : Int64)), .second] [])) rfl (hb hby d6_27) _ ?_
    show Steps p.tables e below (s₁.setTop (mkF m 30 #[.val (.long q), .second, .val (.int f), .val (.long (0 : Int64)), .second] [(.long (65536 : Int64))])) _
    refine XS.lstoreN X0.here hx rfl (hb hby d6_30) rfl (l' := #[.val (.long q), .second, .val (.int f), .val (.long (65536 : Int64)), .second]) rfl ?_
    show Steps p.tables e below (s₁.setTop (mkF m 31 #[.val (.long q), .second, .val (.int f), .val (.long (65536 : Int64)), .second] [])) _
    refine XS.lloadN X0.here hx rfl (hb hby d6_31) rfl ?_
    show Steps p.tables e below (s₁.setTop (mkF m 32 #[.val (.long q), .second, .val (.int f), .val (.long (65536 : Int64)), .second] [(.long (65536 : Int64))])) _
    refine XS.iloadN X0.here hx rfl (hb hby d6_32) rfl ?_
    show Steps p.tables e below (s₁.setTop (mkF m 33 #[.val (.long q), .second, .val (.int f), .val (.long (65536 : Int64)), .second] [(.int f), (.long (65536 : Int64))])) _
    refine XS.i2l X0.here hx rfl (hb hby d6_33) rfl ?_
    show Steps p.tables e below (s₁.setTop (mkF m 34 #[.val (.long q), .second, .val (.int f), .val (.long (65536 : Int64)), .second] [(.long (f.toInt64)), (.long (65536 : Int64))])) _
    refine XS.lcmp X0.here hx rfl (hb hby d6_34) rfl ?_
    show Steps p.tables e below (s₁.setTop (mkF m 35 #[.val (.long q), .second, .val (.int f), .val (.long (65536 : Int64)), .second] [(.int (lcmpW (65536 : Int64) (f.toInt64)))])) _
    refine XS.ifYes X0.here hx rfl (pc0 := 35) (pc' := 41) rfl (hb hby d6_35) rfl ((if0 _ _).trans (flt (hc35 : ¬ ((lcmpW (65536 : Int64) (f.toInt64)) < (0 : Int32)))).2.1) (by decide) (by decide) ?_
    show Steps p.tables e below (s₁.setTop (mkF m 41 #[.val (.long q), .second, .val (.int f), .val (.long (65536 : Int64)), .second] [])) _
    refine XS.lloadN X0.here hx rfl (hb hby d6_41) rfl ?_
    show Steps p.tables e below (s₁.setTop (mkF m 42 #[.val (.long q), .second, .val (.int f), .val (.long (65536 : Int64)), .second] [(.long (65536 : Int64))])) _
    refine XS.l2i X0.here hx rfl (hb hby d6_42) rfl ?_
    show Steps p.tables e below (s₁.setTop (mkF m 43 #[.val (.long q), .second, .val (.int f), .val (.long (65536 : Int64)), .second] [(.int ((65536 : Int64).toInt32))])) _
    exact retI X0 hx Bd.returns (hb hby d6_43) hr
  · show Q_expd Z q f h0 n0 _ s₁.heap _
    rw [e0]
    exact ⟨by rw [expV, expV3, expV2, expV1, if_pos hc5, if_pos hc24, if_neg hc35], N0, rfl⟩
set_option maxRecDepth 65536 in
set_option maxHeartbeats 40000000 in
theorem expd_8 (l : Launch) (Z : State) (a0 : Array Value) (hw : ∀ d ∈ tables_1, d.before a0 Z = true) (ws : List Jvm.Cond) (q : Int64) (f : Int32) (h0 : Heap) (n0 : Nat) (O0 : Old Z n0 h0) (hc5 : (lcmpW q (262144 : Int64)) < (0 : Int32)) (hc24 : (0 : Int32) < (lcmpW (0 : Int64) (65536 : Int64))) (hc35 : (lcmpW (65536 : Int64) (f.toInt64)) < (0 : Int32)) :
    MetFree l (⟨"com/example/tsutsumi/tsutsumi/io/ServingThreadsMostThreadsPinLaw", "expected", "(JI)I"⟩ : MethodName) (head1 (Jvm.Cond.code (⟨"com/example/tsutsumi/tsutsumi/io/ServingThreadsMostThreadsPinLaw", "expected", "(JI)I"⟩ : MethodName) method_3_code 5 (some .int) :: ws) ({ frames := 0, cells := 0, slots := 0, locals := 0 } : Room)) (fun zA zU => zA = #[(.long q), (.int f)] ∧ Z.Warmed39 zU.vm ∧ zU.heap = h0) (fun _ _ _ _ _ => True) (fun _ zU zo zU' => ∃ zv zL, zo = .returned zv ∧ Q_expd Z q f h0 n0 zv zU'.heap zL ∧ FrameEnd zU zo zU' zL ({ frames := 0, cells := 0, slots := 0, locals := 0 } : Room).cells ({ frames := 0, cells := 0, slots := 0, locals := 0 } : Room).slots) := by
  refine MetFree.of_bodySF (plainFor_of_name pn_7) hisR ?_
  intro p e s m args below meth c s₁ Bd hml0 hP hK
  obtain ⟨rfl, hZ, hh⟩ := hP
  have hx := Bd.exec
  have hby := Bd.bytes
  have hml : c.maxLocals = 5 := hml0
  have hown : s.vm.findClass "com/example/tsutsumi/tsutsumi/io/ServingThreadsMostThreadsPinLaw" = some m.cls := findClass_of_methodNamed Bd.named
  have hnm := (name_of_methodNamed Bd.named Bd.method).1
  have X0 : Stand p l e ({ frames := 0, cells := 0, slots := 0, locals := 0 } : Room) s m #[(.long q), (.int f)] below meth c s₁ [] 0 0 := Stand.of_body Bd
  have e0 : s₁.heap = h0 := by rw [← hh, Bd.state]; rfl
  have N0 := Fr.nil n0
  have Z0 : n0 ≤ h0.size := O0.1 ▸ O0.2.1
  have pre0 : ∀ zt, Steps p.tables e below (s₁.setTop (mkF m 0 #[.val (.long q), .second, .val (.int f), .unset, .unset] [])) zt → Steps p.tables e below (s₁.setTop (entryFrame m #[(.long q), (.int f)] 5)) zt := fun zt zk => castTop (ef_6_JI m q f) zk
  obtain ⟨fs, hr, hrun, hended, hW, hsame⟩ := X0.leave (v := some (.int ((f.toInt64).toInt32))) (fun h => by rw [Bd.returns] at h; cases h)
  refine ⟨_, _, pre0 _ ?_, hrun, hended, _, _, rfl, ?_, ⟨_, rfl⟩, hW, hsame.mono (by decide) (by decide)⟩
  · show Steps p.tables e below (s₁.setTop (mkF m 0 #[.val (.long q), .second, .val (.int f), .unset, .unset] [])) _
    refine XS.lloadN X0.here hx rfl (hb hby d6_0) rfl ?_
    show Steps p.tables e below (s₁.setTop (mkF m 1 #[.val (.long q), .second, .val (.int f), .unset, .unset] [(.long q)])) _
    refine X0.ldc2Long hx hown (mvT hZ (hw _ (List.mem_of_getElem? (i := 24) rfl))) (g := (mkF m 1 #[.val (.long q), .second, .val (.int f), .unset, .unset] [(.long q)])) rfl (hb hby d6_1) _ ?_
    show Steps p.tables e below (s₁.setTop (mkF m 4 #[.val (.long q), .second, .val (.int f), .unset, .unset] [(.long (262144 : Int64)), (.long q)])) _
    refine XS.lcmp X0.here hx rfl (hb hby d6_4) rfl ?_
    show Steps p.tables e below (s₁.setTop (mkF m 5 #[.val (.long q), .second, .val (.int f), .unset, .unset] [(.int (lcmpW q (262144 : Int64)))])) _
    refine XS.ifNo X0.here hx rfl (hb hby d6_5) rfl ((if0 _ _).trans (tlt (hc5 : (lcmpW q (262144 : Int64)) < (0 : Int32))).2.1) ?_
    show Steps p.tables e below (s₁.setTop (mkF m 8 #[.val (.long q), .second, .val (.int f), .unset, .unset] [])) _
    refine XS.lconst X0.here hx rfl (hb hby d6_8) ?_
    show Steps p.tables e below (s₁.setTop (mkF m 9 #[.val (.long q), .second, .val (.int f), .unset, .unset] [(.long (0 : Int64))])) _
    refine XS.lstoreN X0.here hx rfl (hb hby d6_9) rfl (l' := #[.val (.long q), .second, .val (.int f), .val (.long (0 : Int64)), .second]) rfl ?_
    show Steps p.tables e below (s₁.setTop (mkF m 10 #[.val (.long q), .second, .val (.int f), .val (.long (0 : Int64)), .second] [])) _
    refine XS.goto X0.here hx rfl (pc0 := 10) (pc' := 19) rfl (hb hby d6_10) (by decide) (by decide) ?_
    show Steps p.tables e below (s₁.setTop (mkF m 19 #[.val (.long q), .second, .val (.int f), .val (.long (0 : Int64)), .second] [])) _
    refine XS.lloadN X0.here hx rfl (hb hby d6_19) rfl ?_
    show Steps p.tables e below (s₁.setTop (mkF m 20 #[.val (.long q), .second, .val (.int f), .val (.long (0 : Int64)), .second] [(.long (0 : Int64))])) _
    refine X0.ldc2Long hx hown (mvT hZ (hw _ (List.mem_of_getElem? (i := 25) rfl))) (g := (mkF m 20 #[.val (.long q), .second, .val (.int f), .val (.long (0 : Int64)), .second] [(.long (0 : Int64))])) rfl (hb hby d6_20) _ ?_
    show Steps p.tables e below (s₁.setTop (mkF m 23 #[.val (.long q), .second, .val (.int f), .val (.long (0 : Int64)), .second] [(.long (65536 : Int64)), (.long (0 : Int64))])) _
    refine XS.lcmp X0.here hx rfl (hb hby d6_23) rfl ?_
    show Steps p.tables e below (s₁.setTop (mkF m 24 #[.val (.long q), .second, .val (.int f), .val (.long (0 : Int64)), .second] [(.int (lcmpW (0 : Int64) (65536 : Int64)))])) _
    refine XS.ifNo X0.here hx rfl (hb hby d6_24) rfl ((if0 _ _).trans (tlt (hc24 : (0 : Int32) < (lcmpW (0 : Int64) (65536 : Int64)))).2.2.2) ?_
    show Steps p.tables e below (s₁.setTop (mkF m 27 #[.val (.long q), .second, .val (.int f), .val (.long (0 : Int64)), .second] [])) _
    refine X0.ldc2Long hx hown (mvT hZ (hw _ (List.mem_of_getElem? (i := 25) rfl))) (g := (mkF m 27 #[.val (.long q), .second, .val (.int f), .val (.long (0 : Int64)), .second] [])) rfl (hb hby d6_27) _ ?_
    show Steps p.tables e below (s₁.setTop (mkF m 30 #[.val (.long q), .second, .val (.int f), .val (.long (0 : Int64)), .second] [(.long (65536 : Int64))])) _
    refine XS.lstoreN X0.here hx rfl (hb hby d6_30) rfl (l' := #[.val (.long q), .second, .val (.int f), .val (.long (65536 : Int64)), .second]) rfl ?_
    show Steps p.tables e below (s₁.setTop (mkF m 31 #[.val (.long q), .second, .val (.int f), .val (.long (65536 : Int64)), .second] [])) _
    refine XS.lloadN X0.here hx rfl (hb hby d6_31) rfl ?_
    show Steps p.tables e below (s₁.setTop (mkF m 32 #[.val (.long q), .second, .val (.int f), .val (.long (65536 : Int64)), .second] [(.long (65536 : Int64))])) _
    refine XS.iloadN X0.here hx rfl (hb hby d6_32) rfl ?_
    show Steps p.tables e below (s₁.setTop (mkF m 33 #[.val (.long q), .second, .val (.int f), .val (.long (65536 : Int64)), .second] [(.int f), (.long (65536 : Int64))])) _
    refine XS.i2l X0.here hx rfl (hb hby d6_33) rfl ?_
    show Steps p.tables e below (s₁.setTop (mkF m 34 #[.val (.long q), .second, .val (.int f), .val (.long (65536 : Int64)), .second] [(.long (f.toInt64)), (.long (65536 : Int64))])) _
    refine XS.lcmp X0.here hx rfl (hb hby d6_34) rfl ?_
    show Steps p.tables e below (s₁.setTop (mkF m 35 #[.val (.long q), .second, .val (.int f), .val (.long (65536 : Int64)), .second] [(.int (lcmpW (65536 : Int64) (f.toInt64)))])) _
    refine XS.ifNo X0.here hx rfl (hb hby d6_35) rfl ((if0 _ _).trans (tlt (hc35 : (lcmpW (65536 : Int64) (f.toInt64)) < (0 : Int32))).2.1) ?_
    show Steps p.tables e below (s₁.setTop (mkF m 38 #[.val (.long q), .second, .val (.int f), .val (.long (65536 : Int64)), .second] [])) _
    refine XS.iloadN X0.here hx rfl (hb hby d6_38) rfl ?_
    show Steps p.tables e below (s₁.setTop (mkF m 39 #[.val (.long q), .second, .val (.int f), .val (.long (65536 : Int64)), .second] [(.int f)])) _
    refine XS.i2l X0.here hx rfl (hb hby d6_39) rfl ?_
    show Steps p.tables e below (s₁.setTop (mkF m 40 #[.val (.long q), .second, .val (.int f), .val (.long (65536 : Int64)), .second] [(.long (f.toInt64))])) _
    refine XS.lstoreN X0.here hx rfl (hb hby d6_40) rfl (l' := #[.val (.long q), .second, .val (.int f), .val (.long (f.toInt64)), .second]) rfl ?_
    show Steps p.tables e below (s₁.setTop (mkF m 41 #[.val (.long q), .second, .val (.int f), .val (.long (f.toInt64)), .second] [])) _
    refine XS.lloadN X0.here hx rfl (hb hby d6_41) rfl ?_
    show Steps p.tables e below (s₁.setTop (mkF m 42 #[.val (.long q), .second, .val (.int f), .val (.long (f.toInt64)), .second] [(.long (f.toInt64))])) _
    refine XS.l2i X0.here hx rfl (hb hby d6_42) rfl ?_
    show Steps p.tables e below (s₁.setTop (mkF m 43 #[.val (.long q), .second, .val (.int f), .val (.long (f.toInt64)), .second] [(.int ((f.toInt64).toInt32))])) _
    exact retI X0 hx Bd.returns (hb hby d6_43) hr
  · show Q_expd Z q f h0 n0 _ s₁.heap _
    rw [e0]
    exact ⟨by rw [expV, expV3, expV2, expV1, if_pos hc5, if_pos hc24, if_pos hc35], N0, rfl⟩
set_option maxRecDepth 65536 in
set_option maxHeartbeats 40000000 in
theorem expd (l : Launch) (Z : State) (a0 : Array Value) (hw : ∀ d ∈ tables_1, d.before a0 Z = true) (ws : List Jvm.Cond) (q : Int64) (f : Int32) (h0 : Heap) (n0 : Nat) (O0 : Old Z n0 h0) :
    MetFree l (⟨"com/example/tsutsumi/tsutsumi/io/ServingThreadsMostThreadsPinLaw", "expected", "(JI)I"⟩ : MethodName) (head1 (Jvm.Cond.code (⟨"com/example/tsutsumi/tsutsumi/io/ServingThreadsMostThreadsPinLaw", "expected", "(JI)I"⟩ : MethodName) method_3_code 5 (some .int) :: ws) ({ frames := 0, cells := 0, slots := 0, locals := 0 } : Room)) (fun zA zU => zA = #[(.long q), (.int f)] ∧ Z.Warmed39 zU.vm ∧ zU.heap = h0) (fun _ _ _ _ _ => True) (fun _ zU zo zU' => ∃ zv zL, zo = .returned zv ∧ Q_expd Z q f h0 n0 zv zU'.heap zL ∧ FrameEnd zU zo zU' zL ({ frames := 0, cells := 0, slots := 0, locals := 0 } : Room).cells ({ frames := 0, cells := 0, slots := 0, locals := 0 } : Room).slots) := by
  by_cases h1 : (lcmpW q (262144 : Int64)) < (0 : Int32)
  · by_cases h2 : (0 : Int32) < (lcmpW (0 : Int64) (65536 : Int64))
    · by_cases h3 : (lcmpW (65536 : Int64) (f.toInt64)) < (0 : Int32)
      · exact expd_8 l Z a0 hw ws q f h0 n0 O0  h1 h2 h3
      · exact expd_7 l Z a0 hw ws q f h0 n0 O0  h1 h2 h3
    · by_cases h3 : (lcmpW (0 : Int64) (f.toInt64)) < (0 : Int32)
      · exact expd_6 l Z a0 hw ws q f h0 n0 O0  h1 h2 h3
      · exact expd_5 l Z a0 hw ws q f h0 n0 O0  h1 h2 h3
  · by_cases h2 : (0 : Int32) < (lcmpW (q / (262144 : Int64)) (65536 : Int64))
    · by_cases h3 : (lcmpW (65536 : Int64) (f.toInt64)) < (0 : Int32)
      · exact expd_4 l Z a0 hw ws q f h0 n0 O0  h1 h2 h3
      · exact expd_3 l Z a0 hw ws q f h0 n0 O0  h1 h2 h3
    · by_cases h3 : (lcmpW (q / (262144 : Int64)) (f.toInt64)) < (0 : Int32)
      · exact expd_2 l Z a0 hw ws q f h0 n0 O0  h1 h2 h3
      · exact expd_1 l Z a0 hw ws q f h0 n0 O0  h1 h2 h3
theorem own_div {q d : Int64} (h : 0 < d.toInt) : (q / d).toInt = q.toInt.tdiv d.toInt := by
  rw [Int64.toInt_div]
  have h1 := rng64 q
  have h2 : (q.toInt.tdiv d.toInt).natAbs ≤ q.toInt.natAbs := by rw [Int.natAbs_tdiv]; exact Nat.div_le_self _ _
  by_cases h3 : q.toInt.tdiv d.toInt = 9223372036854775808
  · have h4 : q.toInt.natAbs = 9223372036854775808 := by omega
    have h5 : q.toInt = -9223372036854775808 := by omega
    rw [h5] at h3
    have : (-9223372036854775808 : Int).tdiv d.toInt ≤ 0 := by rw [Int.neg_tdiv]; have := Int.tdiv_nonneg (a := 9223372036854775808) (b := d.toInt) (by omega) (by omega); omega
    omega
  · rw [Int.bmod_eq_of_le] <;> omega
theorem own_t32 {x : Int64} (h1 : -2147483648 ≤ x.toInt) (h2 : x.toInt < 2147483648) : x.toInt32.toInt = x.toInt := by
  rw [Int64.toInt_toInt32, Int.bmod_eq_of_le] <;> omega
theorem own_tt (a : Int) : (a.tdiv 4).tdiv 65536 = a.tdiv 262144 := by
  rcases Int.le_total 0 a with h | h
  · rw [Int.tdiv_eq_ediv_of_nonneg h, Int.tdiv_eq_ediv_of_nonneg (by omega), Int.tdiv_eq_ediv_of_nonneg h]; omega
  · obtain ⟨b, rfl⟩ : ∃ b, a = -b := ⟨-a, by omega⟩
    have hb : 0 ≤ b := by omega
    have e : b.tdiv 4 = b / 4 := Int.tdiv_eq_ediv_of_nonneg hb
    rw [Int.neg_tdiv, Int.neg_tdiv, Int.neg_tdiv, e, Int.tdiv_eq_ediv_of_nonneg (by omega), Int.tdiv_eq_ediv_of_nonneg hb]; omega
theorem own_td (a : Int) (h : a < 262144) : a.tdiv 262144 ≤ 0 := by
  rcases Int.le_total 0 a with q | q
  · rw [Int.tdiv_eq_ediv_of_nonneg q]; omega
  · obtain ⟨b, rfl⟩ : ∃ b, a = -b := ⟨-a, by omega⟩
    rw [Int.neg_tdiv, Int.tdiv_eq_ediv_of_nonneg (by omega)]; omega
theorem own_minJ (x y : Int64) : (minJ x y).toInt = min x.toInt y.toInt := by
  unfold minJ; split <;> rename_i h <;> rw [lw_gt, Int64.lt_iff_toInt_lt] at h <;> omega
theorem own_maxJ (x y : Int64) : (maxJ x y).toInt = max x.toInt y.toInt := by
  unfold maxJ; split <;> rename_i h <;> rw [lw_lt, Int64.lt_iff_toInt_lt] at h <;> omega
theorem most_val (q : Int64) : (mostV q).toInt = max 8 (min 65536 (q.toInt.tdiv 262144)) := by
  have e : ((q / (4 : Int64)) / (65536 : Int64)).toInt = q.toInt.tdiv 262144 := by
    rw [own_div (by decide), own_div (by decide)]; exact own_tt _
  have m2 : (maxJ ((8 : Int32).toInt64) (minJ (65536 : Int64) ((q / (4 : Int64)) / (65536 : Int64)))).toInt = max 8 (min 65536 (q.toInt.tdiv 262144)) := by
    rw [own_maxJ, own_minJ, e]; rfl
  unfold mostV
  rw [own_t32 (by omega) (by omega), m2]
theorem most_mono (q r : Int64) (h : ¬ ((0 : Int32) < (lcmpW q r))) : ¬ (mostV r < mostV q) := by
  rw [lw_gt] at h
  simp only [Int32.lt_iff_toInt_lt, Int64.lt_iff_toInt_lt, most_val] at h ⊢
  have : q.toInt.tdiv 262144 ≤ r.toInt.tdiv 262144 := Int.tdiv_le_tdiv (by omega) (by omega)
  omega
theorem most_exp (q : Int64) : mostV q = expV q (8 : Int32) := by
  apply Int32.toInt_inj.mp
  rw [most_val]
  have e1 : (expV1 q).toInt = if q.toInt < 262144 then 0 else q.toInt.tdiv 262144 := by
    unfold expV1; split <;> rename_i h <;> rw [lw_lt, Int64.lt_iff_toInt_lt] at h
    · have h' : q.toInt < 262144 := h
      rw [if_pos h']; rfl
    · have h' : ¬ q.toInt < 262144 := h
      rw [if_neg h']; exact own_div (by decide)
  have e2 : (expV2 (expV1 q)).toInt = min 65536 (expV1 q).toInt := by
    have z : (65536 : Int64).toInt = 65536 := rfl
    unfold expV2; split <;> rename_i h <;> rw [lw_gt, Int64.lt_iff_toInt_lt] at h <;> omega
  have e3 : (expV3 (expV2 (expV1 q)) 8).toInt = max 8 (expV2 (expV1 q)).toInt := by
    have z : ((8 : Int32).toInt64).toInt = 8 := rfl
    unfold expV3; split <;> rename_i h <;> rw [lw_lt, Int64.lt_iff_toInt_lt] at h <;> omega
  have e4 := own_td q.toInt
  unfold expV
  have := rng64 q
  rw [own_t32 (by rw [e3]; omega) (by rw [e3, e2]; omega), e3, e2, e1]
  split <;> omega
def Q_law (Z : State) (q : Int64) (r : Int64) (h0 : Heap) (n0 : Nat) (v : Option Value) (h : Heap) (L : List Loc) : Prop := v = some (.int (1 : Int32)) ∧ Fr n0 L
theorem pd_1 : parseMethodDescriptor "(J)I" = some ⟨[.long], some .int⟩ := by decide +kernel
theorem pd_2 : parseMethodDescriptor "(II)I" = some ⟨[.int, .int], some .int⟩ := by decide +kernel
theorem pd_3 : parseMethodDescriptor "(JI)I" = some ⟨[.long, .int], some .int⟩ := by decide +kernel
theorem ef_0_JJ (m : MethodId) (x0 : Int64) (x1 : Int64) : entryFrame m #[(.long x0), (.long x1)] maxLocals = mkF m 0 #[.val (.long x0), .second, .val (.long x1), .second, .unset, .unset, .unset] [] := by first | (simp [entryFrame, mkF, argsToLocals, Value.category, maxLocals]; done) | rfl
set_option maxRecDepth 65536 in
set_option maxHeartbeats 40000000 in
theorem law_1 (l : Launch) (Z : State) (a0 : Array Value) (hw : ∀ d ∈ tables_1, d.before a0 Z = true) (ws : List Jvm.Cond) (q : Int64) (r : Int64) (h0 : Heap) (n0 : Nat) (O0 : Old Z n0 h0) (G0 : Sta Z Z.heap "com/example/tsutsumi/tsutsumi/io/ServingThreads" "CORE_THREADS" "I" (.int (8 : Int32))) (G1 : Sta Z Z.heap "com/example/tsutsumi/tsutsumi/io/ServingThreads" "MOST_AT_WORK" "I" (.int (256 : Int32))) (hc65 : (0 : Int32) < (lcmpW q r)) (hc80 : ¬ ((0 : Int32) < (lcmpW r q))) :
    MetFree l x (head1 (Jvm.Cond.code x code maxLocals ret :: ws) room_1) (fun zA zU => zA = #[(.long q), (.long r)] ∧ Z.Warmed39 zU.vm ∧ zU.heap = h0) (fun _ _ _ _ _ => True) (fun _ zU zo zU' => ∃ zv zL, zo = .returned zv ∧ Q_law Z q r h0 n0 zv zU'.heap zL ∧ FrameEnd zU zo zU' zL room_1.cells room_1.slots) := by
  refine MetFree.of_bodySF (plainFor_of_name pn_7) hisR ?_
  intro p e s m args below meth c s₁ Bd hml0 hP hK
  obtain ⟨rfl, hZ, hh⟩ := hP
  have hx := Bd.exec
  have hby := Bd.bytes
  have hml : c.maxLocals = 7 := hml0
  have hown : s.vm.findClass "com/example/tsutsumi/tsutsumi/io/ServingThreadsMostThreadsPinLaw" = some m.cls := findClass_of_methodNamed Bd.named
  have hnm := (name_of_methodNamed Bd.named Bd.method).1
  have X0 : Stand p l e room_1 s m #[(.long q), (.long r)] below meth c s₁ [] 0 0 := Stand.of_body Bd
  have e0 : s₁.heap = h0 := by rw [← hh, Bd.state]; rfl
  have N0 := Fr.nil n0
  have Z0 : n0 ≤ h0.size := O0.1 ▸ O0.2.1
  have pre0 : ∀ zt, Steps p.tables e below (s₁.setTop (mkF m 0 #[.val (.long q), .second, .val (.long r), .second, .unset, .unset, .unset] [])) zt → Steps p.tables e below (s₁.setTop (entryFrame m #[(.long q), (.long r)] maxLocals)) zt := fun zt zk => castTop (ef_0_JJ m q r) zk
  obtain ⟨_, _, ⟨T1, L1, k1, n1⟩, -, X1, ⟨Lc1, hQ1, l1, y1, z1⟩, st1⟩ := Jvm.LawKit.callS X0 hx (y := (⟨"com/example/tsutsumi/tsutsumi/io/ServingThreads", "mostThreads", "(J)I"⟩ : MethodName)) hown (mvT hZ (hw _ (List.mem_of_getElem? (i := 0) rfl))) (mvT hZ (hw _ (List.mem_of_getElem? (i := 1) rfl))) (mvT hZ (hw _ (List.mem_of_getElem? (i := 2) rfl))) (mvT hZ (hw _ (List.mem_of_getElem? (i := 3) rfl))) (by decide) (backOf (W := 0) (most l Z a0 hw [] (0 : Int64) h0 n0 O0 G0) hZ (hw _ (List.mem_of_getElem? (i := 3) rfl)) (hw _ (List.mem_of_getElem? (i := 2) rfl)) (by decide) (by decide)) (g := (mkF m 1 #[.val (.long q), .second, .val (.long r), .second, .unset, .unset, .unset] [(.long (0 : Int64))])) rfl (by rw [hml]; rfl) (argsL := [(.long (0 : Int64))]) (rest := []) (lenOf pd_1 rfl) rfl (by show 2 * 0 + _ ≤ _; exact Nat.le_of_eq rfl) (hb hby at_1) (fun _ _ => ⟨rfl, e0, (by decide : 0 + 0 ≤ _), (by decide : 0 + 0 ≤ _)⟩)
  dsimp only [Pt.U, Pt.locs, Pt.cells, Pt.slots] at X1 l1 y1 z1 st1 hQ1
  subst l1 y1 z1
  obtain ⟨rfl, Nq1, kh1⟩ := hQ1
  have N1 := Fr.app N0 Nq1
  obtain ⟨_, _, ⟨T2, L2, k2, n2⟩, -, X2, ⟨Lc2, hQ2, l2, y2, z2⟩, st2⟩ := Jvm.LawKit.callS X1 hx (y := (⟨"com/example/tsutsumi/tsutsumi/io/ServingThreads", "mostThreads", "(J)I"⟩ : MethodName)) hown (mvT hZ (hw _ (List.mem_of_getElem? (i := 0) rfl))) (mvT hZ (hw _ (List.mem_of_getElem? (i := 1) rfl))) (mvT hZ (hw _ (List.mem_of_getElem? (i := 2) rfl))) (mvT hZ (hw _ (List.mem_of_getElem? (i := 3) rfl))) (by decide) (backOf (W := 0) (most l Z a0 hw [] q h0 n0 O0 G0) hZ (hw _ (List.mem_of_getElem? (i := 3) rfl)) (hw _ (List.mem_of_getElem? (i := 2) rfl)) (by decide) (by decide)) (g := (mkF m 7 #[.val (.long q), .second, .val (.long r), .second, .val (.int (8 : Int32)), .unset, .unset] [(.long q)])) rfl (by rw [hml]; rfl) (argsL := [(.long q)]) (rest := []) (lenOf pd_1 rfl) rfl (by show 2 * 0 + _ ≤ _; exact Nat.le_of_eq rfl) (hb hby at_7) (fun _ _ => ⟨rfl, kh1, (by decide : 0 + 0 ≤ _), (by decide : 0 + 0 ≤ _)⟩)
  dsimp only [Pt.U, Pt.locs, Pt.cells, Pt.slots] at X2 l2 y2 z2 st2 hQ2
  subst l2 y2 z2
  obtain ⟨rfl, Nq2, kh2⟩ := hQ2
  have N2 := Fr.app N1 Nq2
  obtain ⟨_, _, ⟨T3, L3, k3, n3⟩, -, X3, ⟨Lc3, hQ3, l3, y3, z3⟩, st3⟩ := Jvm.LawKit.callS X2 hx (y := (⟨"com/example/tsutsumi/tsutsumi/io/ServingThreads", "mostThreads", "(J)I"⟩ : MethodName)) hown (mvT hZ (hw _ (List.mem_of_getElem? (i := 0) rfl))) (mvT hZ (hw _ (List.mem_of_getElem? (i := 1) rfl))) (mvT hZ (hw _ (List.mem_of_getElem? (i := 2) rfl))) (mvT hZ (hw _ (List.mem_of_getElem? (i := 3) rfl))) (by decide) (backOf (W := 0) (most l Z a0 hw [] r h0 n0 O0 G0) hZ (hw _ (List.mem_of_getElem? (i := 3) rfl)) (hw _ (List.mem_of_getElem? (i := 2) rfl)) (by decide) (by decide)) (g := (mkF m 13 #[.val (.long q), .second, .val (.long r), .second, .val (.int (8 : Int32)), .val (.int (mostV q)), .unset] [(.long r)])) rfl (by rw [hml]; rfl) (argsL := [(.long r)]) (rest := []) (lenOf pd_1 rfl) rfl (by show 2 * 0 + _ ≤ _; exact Nat.le_of_eq rfl) (hb hby at_13) (fun _ _ => ⟨rfl, kh2, (by decide : 0 + 0 ≤ _), (by decide : 0 + 0 ≤ _)⟩)
  dsimp only [Pt.U, Pt.locs, Pt.cells, Pt.slots] at X3 l3 y3 z3 st3 hQ3
  subst l3 y3 z3
  obtain ⟨rfl, Nq3, kh3⟩ := hQ3
  have N3 := Fr.app N2 Nq3
  obtain ⟨T4, X4, e4, st4⟩ := getS2 X3 hx hZ hown (host := "") (Or.inl (hw _ (List.mem_of_getElem? (i := 15) rfl))) Via.refl kh3 (G1.ext O0.2) (g := (mkF m 33 #[.val (.long q), .second, .val (.long r), .second, .val (.int (8 : Int32)), .val (.int (mostV q)), .val (.int (mostV r))] [])) rfl (hb hby at_33)
  obtain ⟨_, _, ⟨T5, L5, k5, n5⟩, -, X5, ⟨Lc5, hQ5, l5, y5, z5⟩, st5⟩ := Jvm.LawKit.callS X4 hx (y := (⟨"java/lang/Math", "max", "(II)I"⟩ : MethodName)) hown (mvT hZ (hw _ (List.mem_of_getElem? (i := 17) rfl))) (mvT hZ (hw _ (List.mem_of_getElem? (i := 18) rfl))) (mvT hZ (hw _ (List.mem_of_getElem? (i := 10) rfl))) (mvT hZ (hw _ (List.mem_of_getElem? (i := 19) rfl))) (by decide) (backOf (W := 1) (maxIR l Z a0 hw [] (256 : Int32) (8 : Int32) h0 n0 O0 ) hZ (hw _ (List.mem_of_getElem? (i := 19) rfl)) (hw _ (List.mem_of_getElem? (i := 10) rfl)) (by decide) (by decide)) (g := (mkF m 41 #[.val (.long q), .second, .val (.long r), .second, .val (.int (8 : Int32)), .val (.int (mostV q)), .val (.int (mostV r))] [(.int (8 : Int32)), (.int (256 : Int32)), (.int (256 : Int32))])) rfl (by rw [hml]; rfl) (argsL := [(.int (256 : Int32)), (.int (8 : Int32))]) (rest := [(.int (256 : Int32))]) (lenOf pd_2 rfl) rfl (by show 2 * 0 + _ ≤ _; exact Nat.le_of_eq rfl) (hb hby at_41) (fun _ _ => ⟨rfl, e4, (by decide : 0 + 0 ≤ _), (by decide : 0 + 0 ≤ _)⟩)
  dsimp only [Pt.U, Pt.locs, Pt.cells, Pt.slots] at X5 l5 y5 z5 st5 hQ5
  subst l5 y5 z5
  obtain ⟨rfl, Nq5, kh5⟩ := hQ5
  have N5 := Fr.app N3 Nq5
  obtain ⟨_, _, ⟨T6, L6, k6, n6⟩, -, X6, ⟨Lc6, hQ6, l6, y6, z6⟩, st6⟩ := Jvm.LawKit.callS X5 hx (y := (⟨"com/example/tsutsumi/tsutsumi/io/ServingThreadsMostThreadsPinLaw", "expected", "(JI)I"⟩ : MethodName)) hown (mvT hZ (hw _ (List.mem_of_getElem? (i := 20) rfl))) (mvT hZ (hw _ (List.mem_of_getElem? (i := 21) rfl))) (mvT hZ (hw _ (List.mem_of_getElem? (i := 22) rfl))) (mvT hZ (hw _ (List.mem_of_getElem? (i := 23) rfl))) (by decide) (backOf (W := 1) (expd l Z a0 hw [] q (8 : Int32) h0 n0 O0 ) hZ (hw _ (List.mem_of_getElem? (i := 23) rfl)) (hw _ (List.mem_of_getElem? (i := 22) rfl)) (by decide) (by decide)) (g := (mkF m 54 #[.val (.long q), .second, .val (.long r), .second, .val (.int (8 : Int32)), .val (.int (mostV q)), .val (.int (mostV r))] [(.int (8 : Int32)), (.long q), (.int (mostV q))])) rfl (by rw [hml]; rfl) (argsL := [(.long q), (.int (8 : Int32))]) (rest := [(.int (mostV q))]) (lenOf pd_3 rfl) rfl (by show 2 * 0 + _ ≤ _; exact Nat.le_of_eq rfl) (hb hby at_54) (fun _ _ => ⟨rfl, kh5, (by decide : 0 + 0 ≤ _), (by decide : 0 + 0 ≤ _)⟩)
  dsimp only [Pt.U, Pt.locs, Pt.cells, Pt.slots] at X6 l6 y6 z6 st6 hQ6
  subst l6 y6 z6
  obtain ⟨rfl, Nq6, kh6⟩ := hQ6
  have N6 := Fr.app N5 Nq6
  obtain ⟨fs, hr, hrun, hended, hW, hsame⟩ := X6.leave (v := some (.int (1 : Int32))) (fun h => by rw [Bd.returns] at h; cases h)
  refine ⟨_, _, pre0 _ ?_, hrun, hended, _, _, rfl, ?_, ⟨_, rfl⟩, hW, hsame.mono (by decide) (by decide)⟩
  · show Steps p.tables e below (s₁.setTop (mkF m 0 #[.val (.long q), .second, .val (.long r), .second, .unset, .unset, .unset] [])) _
    refine XS.lconst X0.here hx rfl (hb hby at_0) ?_
    show Steps p.tables e below (s₁.setTop (mkF m 1 #[.val (.long q), .second, .val (.long r), .second, .unset, .unset, .unset] [(.long (0 : Int64))])) _
    refine st1 _ ?_
    show Steps p.tables e below (T1.setTop (mkF m 4 #[.val (.long q), .second, .val (.long r), .second, .unset, .unset, .unset] [(.int (mostV (0 : Int64)))])) _
    refine castTop (congrArg (fun z_ => (mkF m 4 #[.val (.long q), .second, .val (.long r), .second, .unset, .unset, .unset] [(.int z_)])) (by decide +kernel : (mostV (0 : Int64)) = (8 : Int32))) ?_
    show Steps p.tables e below (T1.setTop (mkF m 4 #[.val (.long q), .second, .val (.long r), .second, .unset, .unset, .unset] [(.int (8 : Int32))])) _
    refine XS.istore X1.here hx rfl (hb hby at_4) rfl (l' := #[.val (.long q), .second, .val (.long r), .second, .val (.int (8 : Int32)), .unset, .unset]) rfl ?_
    show Steps p.tables e below (T1.setTop (mkF m 6 #[.val (.long q), .second, .val (.long r), .second, .val (.int (8 : Int32)), .unset, .unset] [])) _
    refine XS.lloadN X1.here hx rfl (hb hby at_6) rfl ?_
    show Steps p.tables e below (T1.setTop (mkF m 7 #[.val (.long q), .second, .val (.long r), .second, .val (.int (8 : Int32)), .unset, .unset] [(.long q)])) _
    refine st2 _ ?_
    show Steps p.tables e below (T2.setTop (mkF m 10 #[.val (.long q), .second, .val (.long r), .second, .val (.int (8 : Int32)), .unset, .unset] [(.int (mostV q))])) _
    refine XS.istore X2.here hx rfl (hb hby at_10) rfl (l' := #[.val (.long q), .second, .val (.long r), .second, .val (.int (8 : Int32)), .val (.int (mostV q)), .unset]) rfl ?_
    show Steps p.tables e below (T2.setTop (mkF m 12 #[.val (.long q), .second, .val (.long r), .second, .val (.int (8 : Int32)), .val (.int (mostV q)), .unset] [])) _
    refine XS.lloadN X2.here hx rfl (hb hby at_12) rfl ?_
    show Steps p.tables e below (T2.setTop (mkF m 13 #[.val (.long q), .second, .val (.long r), .second, .val (.int (8 : Int32)), .val (.int (mostV q)), .unset] [(.long r)])) _
    refine st3 _ ?_
    show Steps p.tables e below (T3.setTop (mkF m 16 #[.val (.long q), .second, .val (.long r), .second, .val (.int (8 : Int32)), .val (.int (mostV q)), .unset] [(.int (mostV r))])) _
    refine XS.istore X3.here hx rfl (hb hby at_16) rfl (l' := #[.val (.long q), .second, .val (.long r), .second, .val (.int (8 : Int32)), .val (.int (mostV q)), .val (.int (mostV r))]) rfl ?_
    show Steps p.tables e below (T3.setTop (mkF m 18 #[.val (.long q), .second, .val (.long r), .second, .val (.int (8 : Int32)), .val (.int (mostV q)), .val (.int (mostV r))] [])) _
    refine XS.iload X3.here hx rfl (hb hby at_18) rfl ?_
    show Steps p.tables e below (T3.setTop (mkF m 20 #[.val (.long q), .second, .val (.long r), .second, .val (.int (8 : Int32)), .val (.int (mostV q)), .val (.int (mostV r))] [(.int (8 : Int32))])) _
    refine XS.iconst X3.here hx rfl (hb hby at_20) ?_
    show Steps p.tables e below (T3.setTop (mkF m 21 #[.val (.long q), .second, .val (.long r), .second, .val (.int (8 : Int32)), .val (.int (mostV q)), .val (.int (mostV r))] [(.int (4 : Int32)), (.int (8 : Int32))])) _
    refine XS.icmpNo X3.here hx rfl (hb hby at_21) rfl (flt (by decide : ¬ ((8 : Int32) < (4 : Int32)))).1 ?_
    show Steps p.tables e below (T3.setTop (mkF m 24 #[.val (.long q), .second, .val (.long r), .second, .val (.int (8 : Int32)), .val (.int (mostV q)), .val (.int (mostV r))] [])) _
    refine XS.iload X3.here hx rfl (hb hby at_24) rfl ?_
    show Steps p.tables e below (T3.setTop (mkF m 26 #[.val (.long q), .second, .val (.long r), .second, .val (.int (8 : Int32)), .val (.int (mostV q)), .val (.int (mostV r))] [(.int (8 : Int32))])) _
    refine XS.iconst X3.here hx rfl (hb hby at_26) ?_
    show Steps p.tables e below (T3.setTop (mkF m 27 #[.val (.long q), .second, .val (.long r), .second, .val (.int (8 : Int32)), .val (.int (mostV q)), .val (.int (mostV r))] [(.int (1 : Int32)), (.int (8 : Int32))])) _
    refine XS.iand X3.here hx rfl (hb hby at_27) rfl ?_
    show Steps p.tables e below (T3.setTop (mkF m 28 #[.val (.long q), .second, .val (.long r), .second, .val (.int (8 : Int32)), .val (.int (mostV q)), .val (.int (mostV r))] [(.int ((8 : Int32) &&& (1 : Int32)))])) _
    refine XS.ifYes X3.here hx rfl (pc0 := 28) (pc' := 33) rfl (hb hby at_28) rfl ((if0 _ _).trans (teq ((by decide) : ((8 : Int32) &&& (1 : Int32)) = (0 : Int32))).1) (by decide) (by decide) ?_
    show Steps p.tables e below (T3.setTop (mkF m 33 #[.val (.long q), .second, .val (.long r), .second, .val (.int (8 : Int32)), .val (.int (mostV q)), .val (.int (mostV r))] [])) _
    refine st4 _ ?_
    show Steps p.tables e below (T4.setTop (mkF m 36 #[.val (.long q), .second, .val (.long r), .second, .val (.int (8 : Int32)), .val (.int (mostV q)), .val (.int (mostV r))] [(.int (256 : Int32))])) _
    refine XS.sipush X4.here hx rfl (hb hby at_36) ?_
    show Steps p.tables e below (T4.setTop (mkF m 39 #[.val (.long q), .second, .val (.long r), .second, .val (.int (8 : Int32)), .val (.int (mostV q)), .val (.int (mostV r))] [(.int (256 : Int32)), (.int (256 : Int32))])) _
    refine XS.iload X4.here hx rfl (hb hby at_39) rfl ?_
    show Steps p.tables e below (T4.setTop (mkF m 41 #[.val (.long q), .second, .val (.long r), .second, .val (.int (8 : Int32)), .val (.int (mostV q)), .val (.int (mostV r))] [(.int (8 : Int32)), (.int (256 : Int32)), (.int (256 : Int32))])) _
    refine st5 _ ?_
    show Steps p.tables e below (T5.setTop (mkF m 44 #[.val (.long q), .second, .val (.long r), .second, .val (.int (8 : Int32)), .val (.int (mostV q)), .val (.int (mostV r))] [(.int (maxI (256 : Int32) (8 : Int32))), (.int (256 : Int32))])) _
    refine castTop (congrArg (fun z_ => (mkF m 44 #[.val (.long q), .second, .val (.long r), .second, .val (.int (8 : Int32)), .val (.int (mostV q)), .val (.int (mostV r))] [(.int z_), (.int (256 : Int32))])) (by decide +kernel : (maxI (256 : Int32) (8 : Int32)) = (256 : Int32))) ?_
    show Steps p.tables e below (T5.setTop (mkF m 44 #[.val (.long q), .second, .val (.long r), .second, .val (.int (8 : Int32)), .val (.int (mostV q)), .val (.int (mostV r))] [(.int (256 : Int32)), (.int (256 : Int32))])) _
    refine XS.icmpYes X5.here hx rfl (pc0 := 44) (pc' := 49) rfl (hb hby at_44) rfl (teq (by decide : (256 : Int32) = (256 : Int32))).1 (by decide) (by decide) ?_
    show Steps p.tables e below (T5.setTop (mkF m 49 #[.val (.long q), .second, .val (.long r), .second, .val (.int (8 : Int32)), .val (.int (mostV q)), .val (.int (mostV r))] [])) _
    refine XS.iload X5.here hx rfl (hb hby at_49) rfl ?_
    show Steps p.tables e below (T5.setTop (mkF m 51 #[.val (.long q), .second, .val (.long r), .second, .val (.int (8 : Int32)), .val (.int (mostV q)), .val (.int (mostV r))] [(.int (mostV q))])) _
    refine XS.lloadN X5.here hx rfl (hb hby at_51) rfl ?_
    show Steps p.tables e below (T5.setTop (mkF m 52 #[.val (.long q), .second, .val (.long r), .second, .val (.int (8 : Int32)), .val (.int (mostV q)), .val (.int (mostV r))] [(.long q), (.int (mostV q))])) _
    refine XS.iload X5.here hx rfl (hb hby at_52) rfl ?_
    show Steps p.tables e below (T5.setTop (mkF m 54 #[.val (.long q), .second, .val (.long r), .second, .val (.int (8 : Int32)), .val (.int (mostV q)), .val (.int (mostV r))] [(.int (8 : Int32)), (.long q), (.int (mostV q))])) _
    refine st6 _ ?_
    show Steps p.tables e below (T6.setTop (mkF m 57 #[.val (.long q), .second, .val (.long r), .second, .val (.int (8 : Int32)), .val (.int (mostV q)), .val (.int (mostV r))] [(.int (expV q (8 : Int32))), (.int (mostV q))])) _
    refine XS.icmpYes X6.here hx rfl (pc0 := 57) (pc' := 62) rfl (hb hby at_57) rfl (teq ((most_exp q) : (mostV q) = (expV q (8 : Int32)))).1 (by decide) (by decide) ?_
    show Steps p.tables e below (T6.setTop (mkF m 62 #[.val (.long q), .second, .val (.long r), .second, .val (.int (8 : Int32)), .val (.int (mostV q)), .val (.int (mostV r))] [])) _
    refine XS.lloadN X6.here hx rfl (hb hby at_62) rfl ?_
    show Steps p.tables e below (T6.setTop (mkF m 63 #[.val (.long q), .second, .val (.long r), .second, .val (.int (8 : Int32)), .val (.int (mostV q)), .val (.int (mostV r))] [(.long q)])) _
    refine XS.lloadN X6.here hx rfl (hb hby at_63) rfl ?_
    show Steps p.tables e below (T6.setTop (mkF m 64 #[.val (.long q), .second, .val (.long r), .second, .val (.int (8 : Int32)), .val (.int (mostV q)), .val (.int (mostV r))] [(.long r), (.long q)])) _
    refine XS.lcmp X6.here hx rfl (hb hby at_64) rfl ?_
    show Steps p.tables e below (T6.setTop (mkF m 65 #[.val (.long q), .second, .val (.long r), .second, .val (.int (8 : Int32)), .val (.int (mostV q)), .val (.int (mostV r))] [(.int (lcmpW q r))])) _
    refine XS.ifYes X6.here hx rfl (pc0 := 65) (pc' := 77) rfl (hb hby at_65) rfl ((if0 _ _).trans (tlt (hc65 : (0 : Int32) < (lcmpW q r))).2.2.1) (by decide) (by decide) ?_
    show Steps p.tables e below (T6.setTop (mkF m 77 #[.val (.long q), .second, .val (.long r), .second, .val (.int (8 : Int32)), .val (.int (mostV q)), .val (.int (mostV r))] [])) _
    refine XS.lloadN X6.here hx rfl (hb hby at_77) rfl ?_
    show Steps p.tables e below (T6.setTop (mkF m 78 #[.val (.long q), .second, .val (.long r), .second, .val (.int (8 : Int32)), .val (.int (mostV q)), .val (.int (mostV r))] [(.long r)])) _
    refine XS.lloadN X6.here hx rfl (hb hby at_78) rfl ?_
    show Steps p.tables e below (T6.setTop (mkF m 79 #[.val (.long q), .second, .val (.long r), .second, .val (.int (8 : Int32)), .val (.int (mostV q)), .val (.int (mostV r))] [(.long q), (.long r)])) _
    refine XS.lcmp X6.here hx rfl (hb hby at_79) rfl ?_
    show Steps p.tables e below (T6.setTop (mkF m 80 #[.val (.long q), .second, .val (.long r), .second, .val (.int (8 : Int32)), .val (.int (mostV q)), .val (.int (mostV r))] [(.int (lcmpW r q))])) _
    refine XS.ifNo X6.here hx rfl (hb hby at_80) rfl ((if0 _ _).trans (flt (hc80 : ¬ ((0 : Int32) < (lcmpW r q)))).2.2.1) ?_
    show Steps p.tables e below (T6.setTop (mkF m 83 #[.val (.long q), .second, .val (.long r), .second, .val (.int (8 : Int32)), .val (.int (mostV q)), .val (.int (mostV r))] [])) _
    refine XS.iload X6.here hx rfl (hb hby at_83) rfl ?_
    show Steps p.tables e below (T6.setTop (mkF m 85 #[.val (.long q), .second, .val (.long r), .second, .val (.int (8 : Int32)), .val (.int (mostV q)), .val (.int (mostV r))] [(.int (mostV r))])) _
    refine XS.iload X6.here hx rfl (hb hby at_85) rfl ?_
    show Steps p.tables e below (T6.setTop (mkF m 87 #[.val (.long q), .second, .val (.long r), .second, .val (.int (8 : Int32)), .val (.int (mostV q)), .val (.int (mostV r))] [(.int (mostV q)), (.int (mostV r))])) _
    refine XS.icmpYes X6.here hx rfl (pc0 := 87) (pc' := 92) rfl (hb hby at_87) rfl (flt ((most_mono r q hc80) : ¬ ((mostV q) < (mostV r)))).2.2.2 (by decide) (by decide) ?_
    show Steps p.tables e below (T6.setTop (mkF m 92 #[.val (.long q), .second, .val (.long r), .second, .val (.int (8 : Int32)), .val (.int (mostV q)), .val (.int (mostV r))] [])) _
    refine XS.iconst X6.here hx rfl (hb hby at_92) ?_
    show Steps p.tables e below (T6.setTop (mkF m 93 #[.val (.long q), .second, .val (.long r), .second, .val (.int (8 : Int32)), .val (.int (mostV q)), .val (.int (mostV r))] [(.int (1 : Int32))])) _
    exact retN X6 hx (t := .boolean) Bd.returns (by simp) (hb hby at_93) hr
  · show Q_law Z q r h0 n0 _ T6.heap _
    rw [kh6]
    exact ⟨rfl, N6⟩
set_option maxRecDepth 65536 in
set_option maxHeartbeats 40000000 in
theorem law_2 (l : Launch) (Z : State) (a0 : Array Value) (hw : ∀ d ∈ tables_1, d.before a0 Z = true) (ws : List Jvm.Cond) (q : Int64) (r : Int64) (h0 : Heap) (n0 : Nat) (O0 : Old Z n0 h0) (G0 : Sta Z Z.heap "com/example/tsutsumi/tsutsumi/io/ServingThreads" "CORE_THREADS" "I" (.int (8 : Int32))) (G1 : Sta Z Z.heap "com/example/tsutsumi/tsutsumi/io/ServingThreads" "MOST_AT_WORK" "I" (.int (256 : Int32))) (hc65 : ¬ ((0 : Int32) < (lcmpW q r))) (hc80 : (0 : Int32) < (lcmpW r q)) :
    MetFree l x (head1 (Jvm.Cond.code x code maxLocals ret :: ws) room_1) (fun zA zU => zA = #[(.long q), (.long r)] ∧ Z.Warmed39 zU.vm ∧ zU.heap = h0) (fun _ _ _ _ _ => True) (fun _ zU zo zU' => ∃ zv zL, zo = .returned zv ∧ Q_law Z q r h0 n0 zv zU'.heap zL ∧ FrameEnd zU zo zU' zL room_1.cells room_1.slots) := by
  refine MetFree.of_bodySF (plainFor_of_name pn_7) hisR ?_
  intro p e s m args below meth c s₁ Bd hml0 hP hK
  obtain ⟨rfl, hZ, hh⟩ := hP
  have hx := Bd.exec
  have hby := Bd.bytes
  have hml : c.maxLocals = 7 := hml0
  have hown : s.vm.findClass "com/example/tsutsumi/tsutsumi/io/ServingThreadsMostThreadsPinLaw" = some m.cls := findClass_of_methodNamed Bd.named
  have hnm := (name_of_methodNamed Bd.named Bd.method).1
  have X0 : Stand p l e room_1 s m #[(.long q), (.long r)] below meth c s₁ [] 0 0 := Stand.of_body Bd
  have e0 : s₁.heap = h0 := by rw [← hh, Bd.state]; rfl
  have N0 := Fr.nil n0
  have Z0 : n0 ≤ h0.size := O0.1 ▸ O0.2.1
  have pre0 : ∀ zt, Steps p.tables e below (s₁.setTop (mkF m 0 #[.val (.long q), .second, .val (.long r), .second, .unset, .unset, .unset] [])) zt → Steps p.tables e below (s₁.setTop (entryFrame m #[(.long q), (.long r)] maxLocals)) zt := fun zt zk => castTop (ef_0_JJ m q r) zk
  obtain ⟨_, _, ⟨T1, L1, k1, n1⟩, -, X1, ⟨Lc1, hQ1, l1, y1, z1⟩, st1⟩ := Jvm.LawKit.callS X0 hx (y := (⟨"com/example/tsutsumi/tsutsumi/io/ServingThreads", "mostThreads", "(J)I"⟩ : MethodName)) hown (mvT hZ (hw _ (List.mem_of_getElem? (i := 0) rfl))) (mvT hZ (hw _ (List.mem_of_getElem? (i := 1) rfl))) (mvT hZ (hw _ (List.mem_of_getElem? (i := 2) rfl))) (mvT hZ (hw _ (List.mem_of_getElem? (i := 3) rfl))) (by decide) (backOf (W := 0) (most l Z a0 hw [] (0 : Int64) h0 n0 O0 G0) hZ (hw _ (List.mem_of_getElem? (i := 3) rfl)) (hw _ (List.mem_of_getElem? (i := 2) rfl)) (by decide) (by decide)) (g := (mkF m 1 #[.val (.long q), .second, .val (.long r), .second, .unset, .unset, .unset] [(.long (0 : Int64))])) rfl (by rw [hml]; rfl) (argsL := [(.long (0 : Int64))]) (rest := []) (lenOf pd_1 rfl) rfl (by show 2 * 0 + _ ≤ _; exact Nat.le_of_eq rfl) (hb hby at_1) (fun _ _ => ⟨rfl, e0, (by decide : 0 + 0 ≤ _), (by decide : 0 + 0 ≤ _)⟩)
  dsimp only [Pt.U, Pt.locs, Pt.cells, Pt.slots] at X1 l1 y1 z1 st1 hQ1
  subst l1 y1 z1
  obtain ⟨rfl, Nq1, kh1⟩ := hQ1
  have N1 := Fr.app N0 Nq1
  obtain ⟨_, _, ⟨T2, L2, k2, n2⟩, -, X2, ⟨Lc2, hQ2, l2, y2, z2⟩, st2⟩ := Jvm.LawKit.callS X1 hx (y := (⟨"com/example/tsutsumi/tsutsumi/io/ServingThreads", "mostThreads", "(J)I"⟩ : MethodName)) hown (mvT hZ (hw _ (List.mem_of_getElem? (i := 0) rfl))) (mvT hZ (hw _ (List.mem_of_getElem? (i := 1) rfl))) (mvT hZ (hw _ (List.mem_of_getElem? (i := 2) rfl))) (mvT hZ (hw _ (List.mem_of_getElem? (i := 3) rfl))) (by decide) (backOf (W := 0) (most l Z a0 hw [] q h0 n0 O0 G0) hZ (hw _ (List.mem_of_getElem? (i := 3) rfl)) (hw _ (List.mem_of_getElem? (i := 2) rfl)) (by decide) (by decide)) (g := (mkF m 7 #[.val (.long q), .second, .val (.long r), .second, .val (.int (8 : Int32)), .unset, .unset] [(.long q)])) rfl (by rw [hml]; rfl) (argsL := [(.long q)]) (rest := []) (lenOf pd_1 rfl) rfl (by show 2 * 0 + _ ≤ _; exact Nat.le_of_eq rfl) (hb hby at_7) (fun _ _ => ⟨rfl, kh1, (by decide : 0 + 0 ≤ _), (by decide : 0 + 0 ≤ _)⟩)
  dsimp only [Pt.U, Pt.locs, Pt.cells, Pt.slots] at X2 l2 y2 z2 st2 hQ2
  subst l2 y2 z2
  obtain ⟨rfl, Nq2, kh2⟩ := hQ2
  have N2 := Fr.app N1 Nq2
  obtain ⟨_, _, ⟨T3, L3, k3, n3⟩, -, X3, ⟨Lc3, hQ3, l3, y3, z3⟩, st3⟩ := Jvm.LawKit.callS X2 hx (y := (⟨"com/example/tsutsumi/tsutsumi/io/ServingThreads", "mostThreads", "(J)I"⟩ : MethodName)) hown (mvT hZ (hw _ (List.mem_of_getElem? (i := 0) rfl))) (mvT hZ (hw _ (List.mem_of_getElem? (i := 1) rfl))) (mvT hZ (hw _ (List.mem_of_getElem? (i := 2) rfl))) (mvT hZ (hw _ (List.mem_of_getElem? (i := 3) rfl))) (by decide) (backOf (W := 0) (most l Z a0 hw [] r h0 n0 O0 G0) hZ (hw _ (List.mem_of_getElem? (i := 3) rfl)) (hw _ (List.mem_of_getElem? (i := 2) rfl)) (by decide) (by decide)) (g := (mkF m 13 #[.val (.long q), .second, .val (.long r), .second, .val (.int (8 : Int32)), .val (.int (mostV q)), .unset] [(.long r)])) rfl (by rw [hml]; rfl) (argsL := [(.long r)]) (rest := []) (lenOf pd_1 rfl) rfl (by show 2 * 0 + _ ≤ _; exact Nat.le_of_eq rfl) (hb hby at_13) (fun _ _ => ⟨rfl, kh2, (by decide : 0 + 0 ≤ _), (by decide : 0 + 0 ≤ _)⟩)
  dsimp only [Pt.U, Pt.locs, Pt.cells, Pt.slots] at X3 l3 y3 z3 st3 hQ3
  subst l3 y3 z3
  obtain ⟨rfl, Nq3, kh3⟩ := hQ3
  have N3 := Fr.app N2 Nq3
  obtain ⟨T4, X4, e4, st4⟩ := getS2 X3 hx hZ hown (host := "") (Or.inl (hw _ (List.mem_of_getElem? (i := 15) rfl))) Via.refl kh3 (G1.ext O0.2) (g := (mkF m 33 #[.val (.long q), .second, .val (.long r), .second, .val (.int (8 : Int32)), .val (.int (mostV q)), .val (.int (mostV r))] [])) rfl (hb hby at_33)
  obtain ⟨_, _, ⟨T5, L5, k5, n5⟩, -, X5, ⟨Lc5, hQ5, l5, y5, z5⟩, st5⟩ := Jvm.LawKit.callS X4 hx (y := (⟨"java/lang/Math", "max", "(II)I"⟩ : MethodName)) hown (mvT hZ (hw _ (List.mem_of_getElem? (i := 17) rfl))) (mvT hZ (hw _ (List.mem_of_getElem? (i := 18) rfl))) (mvT hZ (hw _ (List.mem_of_getElem? (i := 10) rfl))) (mvT hZ (hw _ (List.mem_of_getElem? (i := 19) rfl))) (by decide) (backOf (W := 1) (maxIR l Z a0 hw [] (256 : Int32) (8 : Int32) h0 n0 O0 ) hZ (hw _ (List.mem_of_getElem? (i := 19) rfl)) (hw _ (List.mem_of_getElem? (i := 10) rfl)) (by decide) (by decide)) (g := (mkF m 41 #[.val (.long q), .second, .val (.long r), .second, .val (.int (8 : Int32)), .val (.int (mostV q)), .val (.int (mostV r))] [(.int (8 : Int32)), (.int (256 : Int32)), (.int (256 : Int32))])) rfl (by rw [hml]; rfl) (argsL := [(.int (256 : Int32)), (.int (8 : Int32))]) (rest := [(.int (256 : Int32))]) (lenOf pd_2 rfl) rfl (by show 2 * 0 + _ ≤ _; exact Nat.le_of_eq rfl) (hb hby at_41) (fun _ _ => ⟨rfl, e4, (by decide : 0 + 0 ≤ _), (by decide : 0 + 0 ≤ _)⟩)
  dsimp only [Pt.U, Pt.locs, Pt.cells, Pt.slots] at X5 l5 y5 z5 st5 hQ5
  subst l5 y5 z5
  obtain ⟨rfl, Nq5, kh5⟩ := hQ5
  have N5 := Fr.app N3 Nq5
  obtain ⟨_, _, ⟨T6, L6, k6, n6⟩, -, X6, ⟨Lc6, hQ6, l6, y6, z6⟩, st6⟩ := Jvm.LawKit.callS X5 hx (y := (⟨"com/example/tsutsumi/tsutsumi/io/ServingThreadsMostThreadsPinLaw", "expected", "(JI)I"⟩ : MethodName)) hown (mvT hZ (hw _ (List.mem_of_getElem? (i := 20) rfl))) (mvT hZ (hw _ (List.mem_of_getElem? (i := 21) rfl))) (mvT hZ (hw _ (List.mem_of_getElem? (i := 22) rfl))) (mvT hZ (hw _ (List.mem_of_getElem? (i := 23) rfl))) (by decide) (backOf (W := 1) (expd l Z a0 hw [] q (8 : Int32) h0 n0 O0 ) hZ (hw _ (List.mem_of_getElem? (i := 23) rfl)) (hw _ (List.mem_of_getElem? (i := 22) rfl)) (by decide) (by decide)) (g := (mkF m 54 #[.val (.long q), .second, .val (.long r), .second, .val (.int (8 : Int32)), .val (.int (mostV q)), .val (.int (mostV r))] [(.int (8 : Int32)), (.long q), (.int (mostV q))])) rfl (by rw [hml]; rfl) (argsL := [(.long q), (.int (8 : Int32))]) (rest := [(.int (mostV q))]) (lenOf pd_3 rfl) rfl (by show 2 * 0 + _ ≤ _; exact Nat.le_of_eq rfl) (hb hby at_54) (fun _ _ => ⟨rfl, kh5, (by decide : 0 + 0 ≤ _), (by decide : 0 + 0 ≤ _)⟩)
  dsimp only [Pt.U, Pt.locs, Pt.cells, Pt.slots] at X6 l6 y6 z6 st6 hQ6
  subst l6 y6 z6
  obtain ⟨rfl, Nq6, kh6⟩ := hQ6
  have N6 := Fr.app N5 Nq6
  obtain ⟨fs, hr, hrun, hended, hW, hsame⟩ := X6.leave (v := some (.int (1 : Int32))) (fun h => by rw [Bd.returns] at h; cases h)
  refine ⟨_, _, pre0 _ ?_, hrun, hended, _, _, rfl, ?_, ⟨_, rfl⟩, hW, hsame.mono (by decide) (by decide)⟩
  · show Steps p.tables e below (s₁.setTop (mkF m 0 #[.val (.long q), .second, .val (.long r), .second, .unset, .unset, .unset] [])) _
    refine XS.lconst X0.here hx rfl (hb hby at_0) ?_
    show Steps p.tables e below (s₁.setTop (mkF m 1 #[.val (.long q), .second, .val (.long r), .second, .unset, .unset, .unset] [(.long (0 : Int64))])) _
    refine st1 _ ?_
    show Steps p.tables e below (T1.setTop (mkF m 4 #[.val (.long q), .second, .val (.long r), .second, .unset, .unset, .unset] [(.int (mostV (0 : Int64)))])) _
    refine castTop (congrArg (fun z_ => (mkF m 4 #[.val (.long q), .second, .val (.long r), .second, .unset, .unset, .unset] [(.int z_)])) (by decide +kernel : (mostV (0 : Int64)) = (8 : Int32))) ?_
    show Steps p.tables e below (T1.setTop (mkF m 4 #[.val (.long q), .second, .val (.long r), .second, .unset, .unset, .unset] [(.int (8 : Int32))])) _
    refine XS.istore X1.here hx rfl (hb hby at_4) rfl (l' := #[.val (.long q), .second, .val (.long r), .second, .val (.int (8 : Int32)), .unset, .unset]) rfl ?_
    show Steps p.tables e below (T1.setTop (mkF m 6 #[.val (.long q), .second, .val (.long r), .second, .val (.int (8 : Int32)), .unset, .unset] [])) _
    refine XS.lloadN X1.here hx rfl (hb hby at_6) rfl ?_
    show Steps p.tables e below (T1.setTop (mkF m 7 #[.val (.long q), .second, .val (.long r), .second, .val (.int (8 : Int32)), .unset, .unset] [(.long q)])) _
    refine st2 _ ?_
    show Steps p.tables e below (T2.setTop (mkF m 10 #[.val (.long q), .second, .val (.long r), .second, .val (.int (8 : Int32)), .unset, .unset] [(.int (mostV q))])) _
    refine XS.istore X2.here hx rfl (hb hby at_10) rfl (l' := #[.val (.long q), .second, .val (.long r), .second, .val (.int (8 : Int32)), .val (.int (mostV q)), .unset]) rfl ?_
    show Steps p.tables e below (T2.setTop (mkF m 12 #[.val (.long q), .second, .val (.long r), .second, .val (.int (8 : Int32)), .val (.int (mostV q)), .unset] [])) _
    refine XS.lloadN X2.here hx rfl (hb hby at_12) rfl ?_
    show Steps p.tables e below (T2.setTop (mkF m 13 #[.val (.long q), .second, .val (.long r), .second, .val (.int (8 : Int32)), .val (.int (mostV q)), .unset] [(.long r)])) _
    refine st3 _ ?_
    show Steps p.tables e below (T3.setTop (mkF m 16 #[.val (.long q), .second, .val (.long r), .second, .val (.int (8 : Int32)), .val (.int (mostV q)), .unset] [(.int (mostV r))])) _
    refine XS.istore X3.here hx rfl (hb hby at_16) rfl (l' := #[.val (.long q), .second, .val (.long r), .second, .val (.int (8 : Int32)), .val (.int (mostV q)), .val (.int (mostV r))]) rfl ?_
    show Steps p.tables e below (T3.setTop (mkF m 18 #[.val (.long q), .second, .val (.long r), .second, .val (.int (8 : Int32)), .val (.int (mostV q)), .val (.int (mostV r))] [])) _
    refine XS.iload X3.here hx rfl (hb hby at_18) rfl ?_
    show Steps p.tables e below (T3.setTop (mkF m 20 #[.val (.long q), .second, .val (.long r), .second, .val (.int (8 : Int32)), .val (.int (mostV q)), .val (.int (mostV r))] [(.int (8 : Int32))])) _
    refine XS.iconst X3.here hx rfl (hb hby at_20) ?_
    show Steps p.tables e below (T3.setTop (mkF m 21 #[.val (.long q), .second, .val (.long r), .second, .val (.int (8 : Int32)), .val (.int (mostV q)), .val (.int (mostV r))] [(.int (4 : Int32)), (.int (8 : Int32))])) _
    refine XS.icmpNo X3.here hx rfl (hb hby at_21) rfl (flt (by decide : ¬ ((8 : Int32) < (4 : Int32)))).1 ?_
    show Steps p.tables e below (T3.setTop (mkF m 24 #[.val (.long q), .second, .val (.long r), .second, .val (.int (8 : Int32)), .val (.int (mostV q)), .val (.int (mostV r))] [])) _
    refine XS.iload X3.here hx rfl (hb hby at_24) rfl ?_
    show Steps p.tables e below (T3.setTop (mkF m 26 #[.val (.long q), .second, .val (.long r), .second, .val (.int (8 : Int32)), .val (.int (mostV q)), .val (.int (mostV r))] [(.int (8 : Int32))])) _
    refine XS.iconst X3.here hx rfl (hb hby at_26) ?_
    show Steps p.tables e below (T3.setTop (mkF m 27 #[.val (.long q), .second, .val (.long r), .second, .val (.int (8 : Int32)), .val (.int (mostV q)), .val (.int (mostV r))] [(.int (1 : Int32)), (.int (8 : Int32))])) _
    refine XS.iand X3.here hx rfl (hb hby at_27) rfl ?_
    show Steps p.tables e below (T3.setTop (mkF m 28 #[.val (.long q), .second, .val (.long r), .second, .val (.int (8 : Int32)), .val (.int (mostV q)), .val (.int (mostV r))] [(.int ((8 : Int32) &&& (1 : Int32)))])) _
    refine XS.ifYes X3.here hx rfl (pc0 := 28) (pc' := 33) rfl (hb hby at_28) rfl ((if0 _ _).trans (teq ((by decide) : ((8 : Int32) &&& (1 : Int32)) = (0 : Int32))).1) (by decide) (by decide) ?_
    show Steps p.tables e below (T3.setTop (mkF m 33 #[.val (.long q), .second, .val (.long r), .second, .val (.int (8 : Int32)), .val (.int (mostV q)), .val (.int (mostV r))] [])) _
    refine st4 _ ?_
    show Steps p.tables e below (T4.setTop (mkF m 36 #[.val (.long q), .second, .val (.long r), .second, .val (.int (8 : Int32)), .val (.int (mostV q)), .val (.int (mostV r))] [(.int (256 : Int32))])) _
    refine XS.sipush X4.here hx rfl (hb hby at_36) ?_
    show Steps p.tables e below (T4.setTop (mkF m 39 #[.val (.long q), .second, .val (.long r), .second, .val (.int (8 : Int32)), .val (.int (mostV q)), .val (.int (mostV r))] [(.int (256 : Int32)), (.int (256 : Int32))])) _
    refine XS.iload X4.here hx rfl (hb hby at_39) rfl ?_
    show Steps p.tables e below (T4.setTop (mkF m 41 #[.val (.long q), .second, .val (.long r), .second, .val (.int (8 : Int32)), .val (.int (mostV q)), .val (.int (mostV r))] [(.int (8 : Int32)), (.int (256 : Int32)), (.int (256 : Int32))])) _
    refine st5 _ ?_
    show Steps p.tables e below (T5.setTop (mkF m 44 #[.val (.long q), .second, .val (.long r), .second, .val (.int (8 : Int32)), .val (.int (mostV q)), .val (.int (mostV r))] [(.int (maxI (256 : Int32) (8 : Int32))), (.int (256 : Int32))])) _
    refine castTop (congrArg (fun z_ => (mkF m 44 #[.val (.long q), .second, .val (.long r), .second, .val (.int (8 : Int32)), .val (.int (mostV q)), .val (.int (mostV r))] [(.int z_), (.int (256 : Int32))])) (by decide +kernel : (maxI (256 : Int32) (8 : Int32)) = (256 : Int32))) ?_
    show Steps p.tables e below (T5.setTop (mkF m 44 #[.val (.long q), .second, .val (.long r), .second, .val (.int (8 : Int32)), .val (.int (mostV q)), .val (.int (mostV r))] [(.int (256 : Int32)), (.int (256 : Int32))])) _
    refine XS.icmpYes X5.here hx rfl (pc0 := 44) (pc' := 49) rfl (hb hby at_44) rfl (teq (by decide : (256 : Int32) = (256 : Int32))).1 (by decide) (by decide) ?_
    show Steps p.tables e below (T5.setTop (mkF m 49 #[.val (.long q), .second, .val (.long r), .second, .val (.int (8 : Int32)), .val (.int (mostV q)), .val (.int (mostV r))] [])) _
    refine XS.iload X5.here hx rfl (hb hby at_49) rfl ?_
    show Steps p.tables e below (T5.setTop (mkF m 51 #[.val (.long q), .second, .val (.long r), .second, .val (.int (8 : Int32)), .val (.int (mostV q)), .val (.int (mostV r))] [(.int (mostV q))])) _
    refine XS.lloadN X5.here hx rfl (hb hby at_51) rfl ?_
    show Steps p.tables e below (T5.setTop (mkF m 52 #[.val (.long q), .second, .val (.long r), .second, .val (.int (8 : Int32)), .val (.int (mostV q)), .val (.int (mostV r))] [(.long q), (.int (mostV q))])) _
    refine XS.iload X5.here hx rfl (hb hby at_52) rfl ?_
    show Steps p.tables e below (T5.setTop (mkF m 54 #[.val (.long q), .second, .val (.long r), .second, .val (.int (8 : Int32)), .val (.int (mostV q)), .val (.int (mostV r))] [(.int (8 : Int32)), (.long q), (.int (mostV q))])) _
    refine st6 _ ?_
    show Steps p.tables e below (T6.setTop (mkF m 57 #[.val (.long q), .second, .val (.long r), .second, .val (.int (8 : Int32)), .val (.int (mostV q)), .val (.int (mostV r))] [(.int (expV q (8 : Int32))), (.int (mostV q))])) _
    refine XS.icmpYes X6.here hx rfl (pc0 := 57) (pc' := 62) rfl (hb hby at_57) rfl (teq ((most_exp q) : (mostV q) = (expV q (8 : Int32)))).1 (by decide) (by decide) ?_
    show Steps p.tables e below (T6.setTop (mkF m 62 #[.val (.long q), .second, .val (.long r), .second, .val (.int (8 : Int32)), .val (.int (mostV q)), .val (.int (mostV r))] [])) _
    refine XS.lloadN X6.here hx rfl (hb hby at_62) rfl ?_
    show Steps p.tables e below (T6.setTop (mkF m 63 #[.val (.long q), .second, .val (.long r), .second, .val (.int (8 : Int32)), .val (.int (mostV q)), .val (.int (mostV r))] [(.long q)])) _
    refine XS.lloadN X6.here hx rfl (hb hby at_63) rfl ?_
    show Steps p.tables e below (T6.setTop (mkF m 64 #[.val (.long q), .second, .val (.long r), .second, .val (.int (8 : Int32)), .val (.int (mostV q)), .val (.int (mostV r))] [(.long r), (.long q)])) _
    refine XS.lcmp X6.here hx rfl (hb hby at_64) rfl ?_
    show Steps p.tables e below (T6.setTop (mkF m 65 #[.val (.long q), .second, .val (.long r), .second, .val (.int (8 : Int32)), .val (.int (mostV q)), .val (.int (mostV r))] [(.int (lcmpW q r))])) _
    refine XS.ifNo X6.here hx rfl (hb hby at_65) rfl ((if0 _ _).trans (flt (hc65 : ¬ ((0 : Int32) < (lcmpW q r)))).2.2.1) ?_
    show Steps p.tables e below (T6.setTop (mkF m 68 #[.val (.long q), .second, .val (.long r), .second, .val (.int (8 : Int32)), .val (.int (mostV q)), .val (.int (mostV r))] [])) _
    refine XS.iload X6.here hx rfl (hb hby at_68) rfl ?_
    show Steps p.tables e below (T6.setTop (mkF m 70 #[.val (.long q), .second, .val (.long r), .second, .val (.int (8 : Int32)), .val (.int (mostV q)), .val (.int (mostV r))] [(.int (mostV q))])) _
    refine XS.iload X6.here hx rfl (hb hby at_70) rfl ?_
    show Steps p.tables e below (T6.setTop (mkF m 72 #[.val (.long q), .second, .val (.long r), .second, .val (.int (8 : Int32)), .val (.int (mostV q)), .val (.int (mostV r))] [(.int (mostV r)), (.int (mostV q))])) _
    refine XS.icmpYes X6.here hx rfl (pc0 := 72) (pc' := 77) rfl (hb hby at_72) rfl (flt ((most_mono q r hc65) : ¬ ((mostV r) < (mostV q)))).2.2.2 (by decide) (by decide) ?_
    show Steps p.tables e below (T6.setTop (mkF m 77 #[.val (.long q), .second, .val (.long r), .second, .val (.int (8 : Int32)), .val (.int (mostV q)), .val (.int (mostV r))] [])) _
    refine XS.lloadN X6.here hx rfl (hb hby at_77) rfl ?_
    show Steps p.tables e below (T6.setTop (mkF m 78 #[.val (.long q), .second, .val (.long r), .second, .val (.int (8 : Int32)), .val (.int (mostV q)), .val (.int (mostV r))] [(.long r)])) _
    refine XS.lloadN X6.here hx rfl (hb hby at_78) rfl ?_
    show Steps p.tables e below (T6.setTop (mkF m 79 #[.val (.long q), .second, .val (.long r), .second, .val (.int (8 : Int32)), .val (.int (mostV q)), .val (.int (mostV r))] [(.long q), (.long r)])) _
    refine XS.lcmp X6.here hx rfl (hb hby at_79) rfl ?_
    show Steps p.tables e below (T6.setTop (mkF m 80 #[.val (.long q), .second, .val (.long r), .second, .val (.int (8 : Int32)), .val (.int (mostV q)), .val (.int (mostV r))] [(.int (lcmpW r q))])) _
    refine XS.ifYes X6.here hx rfl (pc0 := 80) (pc' := 92) rfl (hb hby at_80) rfl ((if0 _ _).trans (tlt (hc80 : (0 : Int32) < (lcmpW r q))).2.2.1) (by decide) (by decide) ?_
    show Steps p.tables e below (T6.setTop (mkF m 92 #[.val (.long q), .second, .val (.long r), .second, .val (.int (8 : Int32)), .val (.int (mostV q)), .val (.int (mostV r))] [])) _
    refine XS.iconst X6.here hx rfl (hb hby at_92) ?_
    show Steps p.tables e below (T6.setTop (mkF m 93 #[.val (.long q), .second, .val (.long r), .second, .val (.int (8 : Int32)), .val (.int (mostV q)), .val (.int (mostV r))] [(.int (1 : Int32))])) _
    exact retN X6 hx (t := .boolean) Bd.returns (by simp) (hb hby at_93) hr
  · show Q_law Z q r h0 n0 _ T6.heap _
    rw [kh6]
    exact ⟨rfl, N6⟩
set_option maxRecDepth 65536 in
set_option maxHeartbeats 40000000 in
theorem law_3 (l : Launch) (Z : State) (a0 : Array Value) (hw : ∀ d ∈ tables_1, d.before a0 Z = true) (ws : List Jvm.Cond) (q : Int64) (r : Int64) (h0 : Heap) (n0 : Nat) (O0 : Old Z n0 h0) (G0 : Sta Z Z.heap "com/example/tsutsumi/tsutsumi/io/ServingThreads" "CORE_THREADS" "I" (.int (8 : Int32))) (G1 : Sta Z Z.heap "com/example/tsutsumi/tsutsumi/io/ServingThreads" "MOST_AT_WORK" "I" (.int (256 : Int32))) (hc65 : ¬ ((0 : Int32) < (lcmpW q r))) (hc80 : ¬ ((0 : Int32) < (lcmpW r q))) :
    MetFree l x (head1 (Jvm.Cond.code x code maxLocals ret :: ws) room_1) (fun zA zU => zA = #[(.long q), (.long r)] ∧ Z.Warmed39 zU.vm ∧ zU.heap = h0) (fun _ _ _ _ _ => True) (fun _ zU zo zU' => ∃ zv zL, zo = .returned zv ∧ Q_law Z q r h0 n0 zv zU'.heap zL ∧ FrameEnd zU zo zU' zL room_1.cells room_1.slots) := by
  refine MetFree.of_bodySF (plainFor_of_name pn_7) hisR ?_
  intro p e s m args below meth c s₁ Bd hml0 hP hK
  obtain ⟨rfl, hZ, hh⟩ := hP
  have hx := Bd.exec
  have hby := Bd.bytes
  have hml : c.maxLocals = 7 := hml0
  have hown : s.vm.findClass "com/example/tsutsumi/tsutsumi/io/ServingThreadsMostThreadsPinLaw" = some m.cls := findClass_of_methodNamed Bd.named
  have hnm := (name_of_methodNamed Bd.named Bd.method).1
  have X0 : Stand p l e room_1 s m #[(.long q), (.long r)] below meth c s₁ [] 0 0 := Stand.of_body Bd
  have e0 : s₁.heap = h0 := by rw [← hh, Bd.state]; rfl
  have N0 := Fr.nil n0
  have Z0 : n0 ≤ h0.size := O0.1 ▸ O0.2.1
  have pre0 : ∀ zt, Steps p.tables e below (s₁.setTop (mkF m 0 #[.val (.long q), .second, .val (.long r), .second, .unset, .unset, .unset] [])) zt → Steps p.tables e below (s₁.setTop (entryFrame m #[(.long q), (.long r)] maxLocals)) zt := fun zt zk => castTop (ef_0_JJ m q r) zk
  obtain ⟨_, _, ⟨T1, L1, k1, n1⟩, -, X1, ⟨Lc1, hQ1, l1, y1, z1⟩, st1⟩ := Jvm.LawKit.callS X0 hx (y := (⟨"com/example/tsutsumi/tsutsumi/io/ServingThreads", "mostThreads", "(J)I"⟩ : MethodName)) hown (mvT hZ (hw _ (List.mem_of_getElem? (i := 0) rfl))) (mvT hZ (hw _ (List.mem_of_getElem? (i := 1) rfl))) (mvT hZ (hw _ (List.mem_of_getElem? (i := 2) rfl))) (mvT hZ (hw _ (List.mem_of_getElem? (i := 3) rfl))) (by decide) (backOf (W := 0) (most l Z a0 hw [] (0 : Int64) h0 n0 O0 G0) hZ (hw _ (List.mem_of_getElem? (i := 3) rfl)) (hw _ (List.mem_of_getElem? (i := 2) rfl)) (by decide) (by decide)) (g := (mkF m 1 #[.val (.long q), .second, .val (.long r), .second, .unset, .unset, .unset] [(.long (0 : Int64))])) rfl (by rw [hml]; rfl) (argsL := [(.long (0 : Int64))]) (rest := []) (lenOf pd_1 rfl) rfl (by show 2 * 0 + _ ≤ _; exact Nat.le_of_eq rfl) (hb hby at_1) (fun _ _ => ⟨rfl, e0, (by decide : 0 + 0 ≤ _), (by decide : 0 + 0 ≤ _)⟩)
  dsimp only [Pt.U, Pt.locs, Pt.cells, Pt.slots] at X1 l1 y1 z1 st1 hQ1
  subst l1 y1 z1
  obtain ⟨rfl, Nq1, kh1⟩ := hQ1
  have N1 := Fr.app N0 Nq1
  obtain ⟨_, _, ⟨T2, L2, k2, n2⟩, -, X2, ⟨Lc2, hQ2, l2, y2, z2⟩, st2⟩ := Jvm.LawKit.callS X1 hx (y := (⟨"com/example/tsutsumi/tsutsumi/io/ServingThreads", "mostThreads", "(J)I"⟩ : MethodName)) hown (mvT hZ (hw _ (List.mem_of_getElem? (i := 0) rfl))) (mvT hZ (hw _ (List.mem_of_getElem? (i := 1) rfl))) (mvT hZ (hw _ (List.mem_of_getElem? (i := 2) rfl))) (mvT hZ (hw _ (List.mem_of_getElem? (i := 3) rfl))) (by decide) (backOf (W := 0) (most l Z a0 hw [] q h0 n0 O0 G0) hZ (hw _ (List.mem_of_getElem? (i := 3) rfl)) (hw _ (List.mem_of_getElem? (i := 2) rfl)) (by decide) (by decide)) (g := (mkF m 7 #[.val (.long q), .second, .val (.long r), .second, .val (.int (8 : Int32)), .unset, .unset] [(.long q)])) rfl (by rw [hml]; rfl) (argsL := [(.long q)]) (rest := []) (lenOf pd_1 rfl) rfl (by show 2 * 0 + _ ≤ _; exact Nat.le_of_eq rfl) (hb hby at_7) (fun _ _ => ⟨rfl, kh1, (by decide : 0 + 0 ≤ _), (by decide : 0 + 0 ≤ _)⟩)
  dsimp only [Pt.U, Pt.locs, Pt.cells, Pt.slots] at X2 l2 y2 z2 st2 hQ2
  subst l2 y2 z2
  obtain ⟨rfl, Nq2, kh2⟩ := hQ2
  have N2 := Fr.app N1 Nq2
  obtain ⟨_, _, ⟨T3, L3, k3, n3⟩, -, X3, ⟨Lc3, hQ3, l3, y3, z3⟩, st3⟩ := Jvm.LawKit.callS X2 hx (y := (⟨"com/example/tsutsumi/tsutsumi/io/ServingThreads", "mostThreads", "(J)I"⟩ : MethodName)) hown (mvT hZ (hw _ (List.mem_of_getElem? (i := 0) rfl))) (mvT hZ (hw _ (List.mem_of_getElem? (i := 1) rfl))) (mvT hZ (hw _ (List.mem_of_getElem? (i := 2) rfl))) (mvT hZ (hw _ (List.mem_of_getElem? (i := 3) rfl))) (by decide) (backOf (W := 0) (most l Z a0 hw [] r h0 n0 O0 G0) hZ (hw _ (List.mem_of_getElem? (i := 3) rfl)) (hw _ (List.mem_of_getElem? (i := 2) rfl)) (by decide) (by decide)) (g := (mkF m 13 #[.val (.long q), .second, .val (.long r), .second, .val (.int (8 : Int32)), .val (.int (mostV q)), .unset] [(.long r)])) rfl (by rw [hml]; rfl) (argsL := [(.long r)]) (rest := []) (lenOf pd_1 rfl) rfl (by show 2 * 0 + _ ≤ _; exact Nat.le_of_eq rfl) (hb hby at_13) (fun _ _ => ⟨rfl, kh2, (by decide : 0 + 0 ≤ _), (by decide : 0 + 0 ≤ _)⟩)
  dsimp only [Pt.U, Pt.locs, Pt.cells, Pt.slots] at X3 l3 y3 z3 st3 hQ3
  subst l3 y3 z3
  obtain ⟨rfl, Nq3, kh3⟩ := hQ3
  have N3 := Fr.app N2 Nq3
  obtain ⟨T4, X4, e4, st4⟩ := getS2 X3 hx hZ hown (host := "") (Or.inl (hw _ (List.mem_of_getElem? (i := 15) rfl))) Via.refl kh3 (G1.ext O0.2) (g := (mkF m 33 #[.val (.long q), .second, .val (.long r), .second, .val (.int (8 : Int32)), .val (.int (mostV q)), .val (.int (mostV r))] [])) rfl (hb hby at_33)
  obtain ⟨_, _, ⟨T5, L5, k5, n5⟩, -, X5, ⟨Lc5, hQ5, l5, y5, z5⟩, st5⟩ := Jvm.LawKit.callS X4 hx (y := (⟨"java/lang/Math", "max", "(II)I"⟩ : MethodName)) hown (mvT hZ (hw _ (List.mem_of_getElem? (i := 17) rfl))) (mvT hZ (hw _ (List.mem_of_getElem? (i := 18) rfl))) (mvT hZ (hw _ (List.mem_of_getElem? (i := 10) rfl))) (mvT hZ (hw _ (List.mem_of_getElem? (i := 19) rfl))) (by decide) (backOf (W := 1) (maxIR l Z a0 hw [] (256 : Int32) (8 : Int32) h0 n0 O0 ) hZ (hw _ (List.mem_of_getElem? (i := 19) rfl)) (hw _ (List.mem_of_getElem? (i := 10) rfl)) (by decide) (by decide)) (g := (mkF m 41 #[.val (.long q), .second, .val (.long r), .second, .val (.int (8 : Int32)), .val (.int (mostV q)), .val (.int (mostV r))] [(.int (8 : Int32)), (.int (256 : Int32)), (.int (256 : Int32))])) rfl (by rw [hml]; rfl) (argsL := [(.int (256 : Int32)), (.int (8 : Int32))]) (rest := [(.int (256 : Int32))]) (lenOf pd_2 rfl) rfl (by show 2 * 0 + _ ≤ _; exact Nat.le_of_eq rfl) (hb hby at_41) (fun _ _ => ⟨rfl, e4, (by decide : 0 + 0 ≤ _), (by decide : 0 + 0 ≤ _)⟩)
  dsimp only [Pt.U, Pt.locs, Pt.cells, Pt.slots] at X5 l5 y5 z5 st5 hQ5
  subst l5 y5 z5
  obtain ⟨rfl, Nq5, kh5⟩ := hQ5
  have N5 := Fr.app N3 Nq5
  obtain ⟨_, _, ⟨T6, L6, k6, n6⟩, -, X6, ⟨Lc6, hQ6, l6, y6, z6⟩, st6⟩ := Jvm.LawKit.callS X5 hx (y := (⟨"com/example/tsutsumi/tsutsumi/io/ServingThreadsMostThreadsPinLaw", "expected", "(JI)I"⟩ : MethodName)) hown (mvT hZ (hw _ (List.mem_of_getElem? (i := 20) rfl))) (mvT hZ (hw _ (List.mem_of_getElem? (i := 21) rfl))) (mvT hZ (hw _ (List.mem_of_getElem? (i := 22) rfl))) (mvT hZ (hw _ (List.mem_of_getElem? (i := 23) rfl))) (by decide) (backOf (W := 1) (expd l Z a0 hw [] q (8 : Int32) h0 n0 O0 ) hZ (hw _ (List.mem_of_getElem? (i := 23) rfl)) (hw _ (List.mem_of_getElem? (i := 22) rfl)) (by decide) (by decide)) (g := (mkF m 54 #[.val (.long q), .second, .val (.long r), .second, .val (.int (8 : Int32)), .val (.int (mostV q)), .val (.int (mostV r))] [(.int (8 : Int32)), (.long q), (.int (mostV q))])) rfl (by rw [hml]; rfl) (argsL := [(.long q), (.int (8 : Int32))]) (rest := [(.int (mostV q))]) (lenOf pd_3 rfl) rfl (by show 2 * 0 + _ ≤ _; exact Nat.le_of_eq rfl) (hb hby at_54) (fun _ _ => ⟨rfl, kh5, (by decide : 0 + 0 ≤ _), (by decide : 0 + 0 ≤ _)⟩)
  dsimp only [Pt.U, Pt.locs, Pt.cells, Pt.slots] at X6 l6 y6 z6 st6 hQ6
  subst l6 y6 z6
  obtain ⟨rfl, Nq6, kh6⟩ := hQ6
  have N6 := Fr.app N5 Nq6
  obtain ⟨fs, hr, hrun, hended, hW, hsame⟩ := X6.leave (v := some (.int (1 : Int32))) (fun h => by rw [Bd.returns] at h; cases h)
  refine ⟨_, _, pre0 _ ?_, hrun, hended, _, _, rfl, ?_, ⟨_, rfl⟩, hW, hsame.mono (by decide) (by decide)⟩
  · show Steps p.tables e below (s₁.setTop (mkF m 0 #[.val (.long q), .second, .val (.long r), .second, .unset, .unset, .unset] [])) _
    refine XS.lconst X0.here hx rfl (hb hby at_0) ?_
    show Steps p.tables e below (s₁.setTop (mkF m 1 #[.val (.long q), .second, .val (.long r), .second, .unset, .unset, .unset] [(.long (0 : Int64))])) _
    refine st1 _ ?_
    show Steps p.tables e below (T1.setTop (mkF m 4 #[.val (.long q), .second, .val (.long r), .second, .unset, .unset, .unset] [(.int (mostV (0 : Int64)))])) _
    refine castTop (congrArg (fun z_ => (mkF m 4 #[.val (.long q), .second, .val (.long r), .second, .unset, .unset, .unset] [(.int z_)])) (by decide +kernel : (mostV (0 : Int64)) = (8 : Int32))) ?_
    show Steps p.tables e below (T1.setTop (mkF m 4 #[.val (.long q), .second, .val (.long r), .second, .unset, .unset, .unset] [(.int (8 : Int32))])) _
    refine XS.istore X1.here hx rfl (hb hby at_4) rfl (l' := #[.val (.long q), .second, .val (.long r), .second, .val (.int (8 : Int32)), .unset, .unset]) rfl ?_
    show Steps p.tables e below (T1.setTop (mkF m 6 #[.val (.long q), .second, .val (.long r), .second, .val (.int (8 : Int32)), .unset, .unset] [])) _
    refine XS.lloadN X1.here hx rfl (hb hby at_6) rfl ?_
    show Steps p.tables e below (T1.setTop (mkF m 7 #[.val (.long q), .second, .val (.long r), .second, .val (.int (8 : Int32)), .unset, .unset] [(.long q)])) _
    refine st2 _ ?_
    show Steps p.tables e below (T2.setTop (mkF m 10 #[.val (.long q), .second, .val (.long r), .second, .val (.int (8 : Int32)), .unset, .unset] [(.int (mostV q))])) _
    refine XS.istore X2.here hx rfl (hb hby at_10) rfl (l' := #[.val (.long q), .second, .val (.long r), .second, .val (.int (8 : Int32)), .val (.int (mostV q)), .unset]) rfl ?_
    show Steps p.tables e below (T2.setTop (mkF m 12 #[.val (.long q), .second, .val (.long r), .second, .val (.int (8 : Int32)), .val (.int (mostV q)), .unset] [])) _
    refine XS.lloadN X2.here hx rfl (hb hby at_12) rfl ?_
    show Steps p.tables e below (T2.setTop (mkF m 13 #[.val (.long q), .second, .val (.long r), .second, .val (.int (8 : Int32)), .val (.int (mostV q)), .unset] [(.long r)])) _
    refine st3 _ ?_
    show Steps p.tables e below (T3.setTop (mkF m 16 #[.val (.long q), .second, .val (.long r), .second, .val (.int (8 : Int32)), .val (.int (mostV q)), .unset] [(.int (mostV r))])) _
    refine XS.istore X3.here hx rfl (hb hby at_16) rfl (l' := #[.val (.long q), .second, .val (.long r), .second, .val (.int (8 : Int32)), .val (.int (mostV q)), .val (.int (mostV r))]) rfl ?_
    show Steps p.tables e below (T3.setTop (mkF m 18 #[.val (.long q), .second, .val (.long r), .second, .val (.int (8 : Int32)), .val (.int (mostV q)), .val (.int (mostV r))] [])) _
    refine XS.iload X3.here hx rfl (hb hby at_18) rfl ?_
    show Steps p.tables e below (T3.setTop (mkF m 20 #[.val (.long q), .second, .val (.long r), .second, .val (.int (8 : Int32)), .val (.int (mostV q)), .val (.int (mostV r))] [(.int (8 : Int32))])) _
    refine XS.iconst X3.here hx rfl (hb hby at_20) ?_
    show Steps p.tables e below (T3.setTop (mkF m 21 #[.val (.long q), .second, .val (.long r), .second, .val (.int (8 : Int32)), .val (.int (mostV q)), .val (.int (mostV r))] [(.int (4 : Int32)), (.int (8 : Int32))])) _
    refine XS.icmpNo X3.here hx rfl (hb hby at_21) rfl (flt (by decide : ¬ ((8 : Int32) < (4 : Int32)))).1 ?_
    show Steps p.tables e below (T3.setTop (mkF m 24 #[.val (.long q), .second, .val (.long r), .second, .val (.int (8 : Int32)), .val (.int (mostV q)), .val (.int (mostV r))] [])) _
    refine XS.iload X3.here hx rfl (hb hby at_24) rfl ?_
    show Steps p.tables e below (T3.setTop (mkF m 26 #[.val (.long q), .second, .val (.long r), .second, .val (.int (8 : Int32)), .val (.int (mostV q)), .val (.int (mostV r))] [(.int (8 : Int32))])) _
    refine XS.iconst X3.here hx rfl (hb hby at_26) ?_
    show Steps p.tables e below (T3.setTop (mkF m 27 #[.val (.long q), .second, .val (.long r), .second, .val (.int (8 : Int32)), .val (.int (mostV q)), .val (.int (mostV r))] [(.int (1 : Int32)), (.int (8 : Int32))])) _
    refine XS.iand X3.here hx rfl (hb hby at_27) rfl ?_
    show Steps p.tables e below (T3.setTop (mkF m 28 #[.val (.long q), .second, .val (.long r), .second, .val (.int (8 : Int32)), .val (.int (mostV q)), .val (.int (mostV r))] [(.int ((8 : Int32) &&& (1 : Int32)))])) _
    refine XS.ifYes X3.here hx rfl (pc0 := 28) (pc' := 33) rfl (hb hby at_28) rfl ((if0 _ _).trans (teq ((by decide) : ((8 : Int32) &&& (1 : Int32)) = (0 : Int32))).1) (by decide) (by decide) ?_
    show Steps p.tables e below (T3.setTop (mkF m 33 #[.val (.long q), .second, .val (.long r), .second, .val (.int (8 : Int32)), .val (.int (mostV q)), .val (.int (mostV r))] [])) _
    refine st4 _ ?_
    show Steps p.tables e below (T4.setTop (mkF m 36 #[.val (.long q), .second, .val (.long r), .second, .val (.int (8 : Int32)), .val (.int (mostV q)), .val (.int (mostV r))] [(.int (256 : Int32))])) _
    refine XS.sipush X4.here hx rfl (hb hby at_36) ?_
    show Steps p.tables e below (T4.setTop (mkF m 39 #[.val (.long q), .second, .val (.long r), .second, .val (.int (8 : Int32)), .val (.int (mostV q)), .val (.int (mostV r))] [(.int (256 : Int32)), (.int (256 : Int32))])) _
    refine XS.iload X4.here hx rfl (hb hby at_39) rfl ?_
    show Steps p.tables e below (T4.setTop (mkF m 41 #[.val (.long q), .second, .val (.long r), .second, .val (.int (8 : Int32)), .val (.int (mostV q)), .val (.int (mostV r))] [(.int (8 : Int32)), (.int (256 : Int32)), (.int (256 : Int32))])) _
    refine st5 _ ?_
    show Steps p.tables e below (T5.setTop (mkF m 44 #[.val (.long q), .second, .val (.long r), .second, .val (.int (8 : Int32)), .val (.int (mostV q)), .val (.int (mostV r))] [(.int (maxI (256 : Int32) (8 : Int32))), (.int (256 : Int32))])) _
    refine castTop (congrArg (fun z_ => (mkF m 44 #[.val (.long q), .second, .val (.long r), .second, .val (.int (8 : Int32)), .val (.int (mostV q)), .val (.int (mostV r))] [(.int z_), (.int (256 : Int32))])) (by decide +kernel : (maxI (256 : Int32) (8 : Int32)) = (256 : Int32))) ?_
    show Steps p.tables e below (T5.setTop (mkF m 44 #[.val (.long q), .second, .val (.long r), .second, .val (.int (8 : Int32)), .val (.int (mostV q)), .val (.int (mostV r))] [(.int (256 : Int32)), (.int (256 : Int32))])) _
    refine XS.icmpYes X5.here hx rfl (pc0 := 44) (pc' := 49) rfl (hb hby at_44) rfl (teq (by decide : (256 : Int32) = (256 : Int32))).1 (by decide) (by decide) ?_
    show Steps p.tables e below (T5.setTop (mkF m 49 #[.val (.long q), .second, .val (.long r), .second, .val (.int (8 : Int32)), .val (.int (mostV q)), .val (.int (mostV r))] [])) _
    refine XS.iload X5.here hx rfl (hb hby at_49) rfl ?_
    show Steps p.tables e below (T5.setTop (mkF m 51 #[.val (.long q), .second, .val (.long r), .second, .val (.int (8 : Int32)), .val (.int (mostV q)), .val (.int (mostV r))] [(.int (mostV q))])) _
    refine XS.lloadN X5.here hx rfl (hb hby at_51) rfl ?_
    show Steps p.tables e below (T5.setTop (mkF m 52 #[.val (.long q), .second, .val (.long r), .second, .val (.int (8 : Int32)), .val (.int (mostV q)), .val (.int (mostV r))] [(.long q), (.int (mostV q))])) _
    refine XS.iload X5.here hx rfl (hb hby at_52) rfl ?_
    show Steps p.tables e below (T5.setTop (mkF m 54 #[.val (.long q), .second, .val (.long r), .second, .val (.int (8 : Int32)), .val (.int (mostV q)), .val (.int (mostV r))] [(.int (8 : Int32)), (.long q), (.int (mostV q))])) _
    refine st6 _ ?_
    show Steps p.tables e below (T6.setTop (mkF m 57 #[.val (.long q), .second, .val (.long r), .second, .val (.int (8 : Int32)), .val (.int (mostV q)), .val (.int (mostV r))] [(.int (expV q (8 : Int32))), (.int (mostV q))])) _
    refine XS.icmpYes X6.here hx rfl (pc0 := 57) (pc' := 62) rfl (hb hby at_57) rfl (teq ((most_exp q) : (mostV q) = (expV q (8 : Int32)))).1 (by decide) (by decide) ?_
    show Steps p.tables e below (T6.setTop (mkF m 62 #[.val (.long q), .second, .val (.long r), .second, .val (.int (8 : Int32)), .val (.int (mostV q)), .val (.int (mostV r))] [])) _
    refine XS.lloadN X6.here hx rfl (hb hby at_62) rfl ?_
    show Steps p.tables e below (T6.setTop (mkF m 63 #[.val (.long q), .second, .val (.long r), .second, .val (.int (8 : Int32)), .val (.int (mostV q)), .val (.int (mostV r))] [(.long q)])) _
    refine XS.lloadN X6.here hx rfl (hb hby at_63) rfl ?_
    show Steps p.tables e below (T6.setTop (mkF m 64 #[.val (.long q), .second, .val (.long r), .second, .val (.int (8 : Int32)), .val (.int (mostV q)), .val (.int (mostV r))] [(.long r), (.long q)])) _
    refine XS.lcmp X6.here hx rfl (hb hby at_64) rfl ?_
    show Steps p.tables e below (T6.setTop (mkF m 65 #[.val (.long q), .second, .val (.long r), .second, .val (.int (8 : Int32)), .val (.int (mostV q)), .val (.int (mostV r))] [(.int (lcmpW q r))])) _
    refine XS.ifNo X6.here hx rfl (hb hby at_65) rfl ((if0 _ _).trans (flt (hc65 : ¬ ((0 : Int32) < (lcmpW q r)))).2.2.1) ?_
    show Steps p.tables e below (T6.setTop (mkF m 68 #[.val (.long q), .second, .val (.long r), .second, .val (.int (8 : Int32)), .val (.int (mostV q)), .val (.int (mostV r))] [])) _
    refine XS.iload X6.here hx rfl (hb hby at_68) rfl ?_
    show Steps p.tables e below (T6.setTop (mkF m 70 #[.val (.long q), .second, .val (.long r), .second, .val (.int (8 : Int32)), .val (.int (mostV q)), .val (.int (mostV r))] [(.int (mostV q))])) _
    refine XS.iload X6.here hx rfl (hb hby at_70) rfl ?_
    show Steps p.tables e below (T6.setTop (mkF m 72 #[.val (.long q), .second, .val (.long r), .second, .val (.int (8 : Int32)), .val (.int (mostV q)), .val (.int (mostV r))] [(.int (mostV r)), (.int (mostV q))])) _
    refine XS.icmpYes X6.here hx rfl (pc0 := 72) (pc' := 77) rfl (hb hby at_72) rfl (flt ((most_mono q r hc65) : ¬ ((mostV r) < (mostV q)))).2.2.2 (by decide) (by decide) ?_
    show Steps p.tables e below (T6.setTop (mkF m 77 #[.val (.long q), .second, .val (.long r), .second, .val (.int (8 : Int32)), .val (.int (mostV q)), .val (.int (mostV r))] [])) _
    refine XS.lloadN X6.here hx rfl (hb hby at_77) rfl ?_
    show Steps p.tables e below (T6.setTop (mkF m 78 #[.val (.long q), .second, .val (.long r), .second, .val (.int (8 : Int32)), .val (.int (mostV q)), .val (.int (mostV r))] [(.long r)])) _
    refine XS.lloadN X6.here hx rfl (hb hby at_78) rfl ?_
    show Steps p.tables e below (T6.setTop (mkF m 79 #[.val (.long q), .second, .val (.long r), .second, .val (.int (8 : Int32)), .val (.int (mostV q)), .val (.int (mostV r))] [(.long q), (.long r)])) _
    refine XS.lcmp X6.here hx rfl (hb hby at_79) rfl ?_
    show Steps p.tables e below (T6.setTop (mkF m 80 #[.val (.long q), .second, .val (.long r), .second, .val (.int (8 : Int32)), .val (.int (mostV q)), .val (.int (mostV r))] [(.int (lcmpW r q))])) _
    refine XS.ifNo X6.here hx rfl (hb hby at_80) rfl ((if0 _ _).trans (flt (hc80 : ¬ ((0 : Int32) < (lcmpW r q)))).2.2.1) ?_
    show Steps p.tables e below (T6.setTop (mkF m 83 #[.val (.long q), .second, .val (.long r), .second, .val (.int (8 : Int32)), .val (.int (mostV q)), .val (.int (mostV r))] [])) _
    refine XS.iload X6.here hx rfl (hb hby at_83) rfl ?_
    show Steps p.tables e below (T6.setTop (mkF m 85 #[.val (.long q), .second, .val (.long r), .second, .val (.int (8 : Int32)), .val (.int (mostV q)), .val (.int (mostV r))] [(.int (mostV r))])) _
    refine XS.iload X6.here hx rfl (hb hby at_85) rfl ?_
    show Steps p.tables e below (T6.setTop (mkF m 87 #[.val (.long q), .second, .val (.long r), .second, .val (.int (8 : Int32)), .val (.int (mostV q)), .val (.int (mostV r))] [(.int (mostV q)), (.int (mostV r))])) _
    refine XS.icmpYes X6.here hx rfl (pc0 := 87) (pc' := 92) rfl (hb hby at_87) rfl (flt ((most_mono r q hc80) : ¬ ((mostV q) < (mostV r)))).2.2.2 (by decide) (by decide) ?_
    show Steps p.tables e below (T6.setTop (mkF m 92 #[.val (.long q), .second, .val (.long r), .second, .val (.int (8 : Int32)), .val (.int (mostV q)), .val (.int (mostV r))] [])) _
    refine XS.iconst X6.here hx rfl (hb hby at_92) ?_
    show Steps p.tables e below (T6.setTop (mkF m 93 #[.val (.long q), .second, .val (.long r), .second, .val (.int (8 : Int32)), .val (.int (mostV q)), .val (.int (mostV r))] [(.int (1 : Int32))])) _
    exact retN X6 hx (t := .boolean) Bd.returns (by simp) (hb hby at_93) hr
  · show Q_law Z q r h0 n0 _ T6.heap _
    rw [kh6]
    exact ⟨rfl, N6⟩
set_option maxRecDepth 65536 in
set_option maxHeartbeats 40000000 in
theorem law (l : Launch) (Z : State) (a0 : Array Value) (hw : ∀ d ∈ tables_1, d.before a0 Z = true) (ws : List Jvm.Cond) (q : Int64) (r : Int64) (h0 : Heap) (n0 : Nat) (O0 : Old Z n0 h0) (G0 : Sta Z Z.heap "com/example/tsutsumi/tsutsumi/io/ServingThreads" "CORE_THREADS" "I" (.int (8 : Int32))) (G1 : Sta Z Z.heap "com/example/tsutsumi/tsutsumi/io/ServingThreads" "MOST_AT_WORK" "I" (.int (256 : Int32))) :
    MetFree l x (head1 (Jvm.Cond.code x code maxLocals ret :: ws) room_1) (fun zA zU => zA = #[(.long q), (.long r)] ∧ Z.Warmed39 zU.vm ∧ zU.heap = h0) (fun _ _ _ _ _ => True) (fun _ zU zo zU' => ∃ zv zL, zo = .returned zv ∧ Q_law Z q r h0 n0 zv zU'.heap zL ∧ FrameEnd zU zo zU' zL room_1.cells room_1.slots) := by
  by_cases h1 : (0 : Int32) < (lcmpW q r)
  · have h2 : ¬ ((0 : Int32) < (lcmpW r q)) := fun h => absurd ((lw_gt _ _).mp h) (by have := (lw_gt _ _).mp h1; simp only [Int64.lt_iff_toInt_lt] at *; omega)
    exact law_1 l Z a0 hw ws q r h0 n0 O0 G0 G1 h1 h2
  · by_cases h2 : (0 : Int32) < (lcmpW r q)
    · exact law_2 l Z a0 hw ws q r h0 n0 O0 G0 G1 h1 h2
    · exact law_3 l Z a0 hw ws q r h0 n0 O0 G0 G1 h1 h2
set_option maxRecDepth 65536 in
set_option maxHeartbeats 40000000 in
theorem comes_1 {Post : Tables → Env → Array Value → State → Outcome → State → Prop} (hpost : ∀ tb e args s v u, (limb_1_1.after args s (.returned v) u = true ∧ limb_1_2.after args s (.returned v) u = true ∧ True) → FrameEnd s (.returned v) u (Jvm.fieldLocs frame_1_writes args s ++ Jvm.arrayLocs frame_1_arrays args s ++ Jvm.staticLocs frame_1_statics s) 0 0 → Post tb e args s (.returned v) u) :
    ArmFor flags0 classFile x code maxLocals ret World_1 tables_1 room_1 Calls_1 rest_1 Pre_1 Post := by
  intro l hfl _ _ p e ha hc hk s m args below hf hA hF happ hP
  obtain ⟨hcalls, hrest, hpre⟩ := hP
  obtain ⟨-, -, -, hnamed, -, -, -, hat⟩ := (Spec.applies_iff hf).mp happ
  obtain ⟨hg, hn⟩ := and_e (Cond.before_iff.mp (show (Jvm.Cond.and given_1 narrow_1).before args s = true from hpre))
  obtain ⟨gA0, gB0⟩ := and_e hg
  obtain ⟨gA1, gB1⟩ := and_e gB0
  obtain ⟨w0, w1, rfl⟩ : ∃ w0 w1 : Value, args = #[w0, w1] := by
    have hs : args.size = 2 := by simpa [Cond.value, given_1] using gA0
    obtain ⟨L⟩ := args
    match L, hs with
    | [w0, w1], _ => exact ⟨w0, w1, rfl⟩
  have hw := fun d (hd : d ∈ tables_1) => atoms_spec (ws := Jvm.Cond.code x code maxLocals ret :: tables_1) hat d (List.mem_cons_of_mem _ hd)
  have hfit : Fit s := fun {y c} hc i hi => by
    obtain ⟨ha, rfl⟩ := Array.getElem?_eq_some_iff.mp hc
    have q := List.all_eq_true.mp ((Array.all_eq_true_iff_forall_mem.mp hF) _ (Array.getElem_mem ha)) i (List.mem_range.mpr hi)
    simpa [Array.getElem?_eq_getElem hi] using q
  obtain ⟨i0, ei0⟩ := isL_v gA1
  obtain rfl : w0 = (.long i0) := Option.some.inj ei0
  obtain ⟨i1, ei1⟩ := isL_v gB1
  obtain rfl : w1 = (.long i1) := Option.some.inj ei1
  obtain ⟨g1, g2⟩ := and_e hn
  have S1 := Sta.start (own_eqI g1) (Or.inr ⟨(hw _ (List.mem_of_getElem? (i := 2) rfl)), (hw _ (List.mem_of_getElem? (i := 7) rfl))⟩)
  have S2 := Sta.start (own_eqI g2) (Or.inr ⟨(hw _ (List.mem_of_getElem? (i := 2) rfl)), (hw _ (List.mem_of_getElem? (i := 16) rfl))⟩)
  obtain ⟨n, o, h1, h2, h3, _, L, rfl, ⟨rfl, N⟩, hq⟩ := law l s _ hw tables_1 i0 i1 s.heap s.heap.size (Old.start s) S1 S2 p e ha hc hk s m _ below hf ((Spec.applies_iff_loose hf).mp happ).1 ⟨rfl, State.Warmed39.refl s, rfl⟩ trivial
  refine ⟨n, _, h1, h2, h3, hpost _ _ _ _ _ _ ⟨Cond.after_iff.mpr rfl, Cond.after_iff.mpr (eq_i res_at (Term.int_eval (1)) rfl), trivial⟩ ⟨hq.1, hq.2.1, (hq.2.2.sift fun y hy => Or.inr (N y hy)).mono (by decide) (by decide)⟩⟩
theorem main_1_1 : Claimed_1_1 := comes_1 fun _ _ _ _ _ _ h hF => ⟨h.1, hF⟩
theorem main_1_2 : Claimed_1_2 := comes_1 fun _ _ _ _ _ _ h hF => ⟨h.2.1, hF⟩
end Jvm.Pilot.@@N@@
namespace Jvm.Pilot.@@N@@
open Jvm Jvm.ClassFile Sem Op Lib Jvm.Free Jvm.Stand Jvm.Pilot.@@N@@.Jvm.D
/-! MADE BY PROGRAM (witnessworld.py) out of the Statement's table words and the real class files: 12 classes; the members and pool entries that the words name. The judged class is class 1, her method 1. -/
namespace start1
open Jvm.ClassFile
def u (s : String) : CpInfo := .utf8 (stringToUtf16 s)
/-- a pool by its gaps: so many unusable entries, then the entry; so many at the end -/
def gap : Nat → List CpInfo → List CpInfo
  | 0, r => r
  | n + 1, r => .unusable :: gap n r
def poolList (es : List (Nat × CpInfo)) (last : Nat) : List CpInfo := es.foldr (fun e r => gap e.1 (e.2 :: r)) (gap last [])
def pool (es : List (Nat × CpInfo)) (last : Nat) : Array CpInfo := ⟨poolList es last⟩
def fileOf (pool : Array CpInfo) (this : Nat) (attrs : Array Attribute := #[]) (ms : Array MethodInfo := #[]) (fl : Nat := 33) (sup : Nat := 0) (ifs : Array Nat := #[]) (fds : Array FieldInfo := #[]) : ClassFile where
  minorVersion := 0
  majorVersion := 65
  constantPool := pool
  accessFlags := fl
  thisClass := this
  superClass := sup
  interfaces := ifs
  fields := fds
  methods := ms
  attributes := attrs
def plain (name : String) (sup : Option ClassId) : Class where
  name := name
  kind := .ordinary
  loader := none
  accessFlags := 33
  super := sup
  interfaces := #[]
  cf := none
  fields := #[]
  methods := #[]
  instanceTypes := #[]
  staticTypes := #[]
  resolved := #[]
  callSites := []
  init := .initialized
  statics := none
  mirror := none

def pool0 : Array CpInfo := pool [(5, u "<init>"), (0, u "()V"), (1, .class_ 10), (1, u "java/lang/Object")] 113

def k0m0 : Method := { name := "<init>", desc := "()V", sig := { parameters := [], returnType := none }, accessFlags := 1, code := none }
/-- java/lang/Object -/
def k0 : Class := { plain "java/lang/Object" none with
  accessFlags := 33
  interfaces := #[]
  cf := some (fileOf pool0 8 #[] #[{ accessFlags := 1, nameIndex := 5, descriptorIndex := 6, attributes := #[] }] 33 0 #[] #[])
  fields := #[]
  methods := #[k0m0]
  instanceTypes := #[]
  staticTypes := #[]
  resolved := Array.replicate 124 none
  statics := none }

def pool1 : Array CpInfo := pool [(2, .class_ 4), (1, u "java/lang/Object"), (0, u "<init>"), (0, u "()V"), (0, .methodref 8 9), (0, .class_ 10), (0, .nameAndType 11 12), (0, u "com/example/tsutsumi/tsutsumi/io/ServingThreads"), (0, u "mostThreads"), (0, u "(J)I"), (0, .fieldref 8 14), (0, .nameAndType 15 16), (0, u "MOST_AT_WORK"), (0, u "I"), (0, .methodref 18 19), (0, .class_ 20), (0, .nameAndType 21 22), (0, u "java/lang/Math"), (0, u "max"), (0, u "(II)I"), (0, .methodref 24 25), (0, .class_ 26), (0, .nameAndType 27 28), (0, u "com/example/tsutsumi/tsutsumi/io/ServingThreadsMostThreadsPinLaw"), (0, u "expected"), (0, u "(JI)I"), (0, .long 262144), (1, .long 65536), (3, u "law"), (0, u "(JJ)Z")] 3

def k1m0 : Method := { name := "<init>", desc := "()V", sig := { parameters := [], returnType := none }, accessFlags := 1, code := none }
def k1c1 : Code := { maxStack := 4, maxLocals := 7, code := code, exceptionTable := #[], attributes := #[] }
def k1m1 : Method := { name := "law", desc := "(JJ)Z", sig := { parameters := [.long, .long], returnType := some .boolean }, accessFlags := 9, code := some k1c1 }
def k1c2 : Code := { maxStack := 4, maxLocals := 5, code := method_3_code, exceptionTable := #[], attributes := #[] }
def k1m2 : Method := { name := "expected", desc := "(JI)I", sig := { parameters := [.long, .int], returnType := some .int }, accessFlags := 10, code := some k1c2 }
/-- com/example/tsutsumi/tsutsumi/io/ServingThreadsMostThreadsPinLaw -/
def k1 : Class := { plain "com/example/tsutsumi/tsutsumi/io/ServingThreadsMostThreadsPinLaw" (some 0) with
  accessFlags := 49
  interfaces := #[]
  cf := some (fileOf pool1 24 #[] #[{ accessFlags := 1, nameIndex := 5, descriptorIndex := 6, attributes := #[] }, { accessFlags := 9, nameIndex := 35, descriptorIndex := 36, attributes := #[] }, { accessFlags := 10, nameIndex := 27, descriptorIndex := 28, attributes := #[] }] 49 2 #[] #[])
  fields := #[]
  methods := #[k1m0, k1m1, k1m2]
  instanceTypes := #[]
  staticTypes := #[]
  resolved := Array.replicate 40 none
  statics := none }

def pool2 : Array CpInfo := pool [(1, .class_ 2), (0, u "java/util/concurrent/Executor"), (0, .class_ 4), (0, u "java/lang/Object")] 4

/-- java/util/concurrent/Executor -/
def k2 : Class := { plain "java/util/concurrent/Executor" (some 0) with
  accessFlags := 1537
  interfaces := #[]
  cf := some (fileOf pool2 1 #[] #[] 1537 3 #[] #[])
  fields := #[]
  methods := #[]
  instanceTypes := #[]
  staticTypes := #[]
  resolved := Array.replicate 9 none
  statics := none }

def pool3 : Array CpInfo := pool [(1, .class_ 2), (0, u "java/lang/AutoCloseable"), (0, .class_ 4), (0, u "java/lang/Object")] 7

/-- java/lang/AutoCloseable -/
def k3 : Class := { plain "java/lang/AutoCloseable" (some 0) with
  accessFlags := 1537
  interfaces := #[]
  cf := some (fileOf pool3 1 #[] #[] 1537 3 #[] #[])
  fields := #[]
  methods := #[]
  instanceTypes := #[]
  staticTypes := #[]
  resolved := Array.replicate 12 none
  statics := none }

def pool4 : Array CpInfo := pool [(8, .class_ 10), (1, u "com/example/tsutsumi/tsutsumi/io/ServingThreads"), (3, .class_ 16), (1, u "java/lang/Object"), (6, u "pending"), (0, u "Ljava/util/concurrent/atomic/AtomicInteger;"), (0, .class_ 26), (0, u "com/example/tsutsumi/tsutsumi/io/ServingThreads$Backlog"), (5, u "backlog"), (0, u "Lcom/example/tsutsumi/tsutsumi/io/ServingThreads$Backlog;"), (4, u "MOST_AT_WORK"), (0, u "I"), (5, u "turns"), (0, u "Ljava/util/concurrent/Semaphore;"), (8, u "watches"), (0, u "Ljava/util/Set;"), (5, u "current"), (0, u "Ljava/lang/ThreadLocal;"), (4, u "maxStall"), (19, u "J"), (2, u "minBytesPerSecond"), (4, u "maxNodes"), (10, u "heap"), (0, u "Lcom/example/tsutsumi/tsutsumi/io/HeapBudget;"), (2, .fieldref 8 112), (0, .nameAndType 113 39), (0, u "CORE_THREADS"), (1, .class_ 117), (1, u "java/lang/Math"), (0, u "min"), (18, u "pool"), (0, u "Ljava/util/concurrent/ThreadPoolExecutor;"), (9, u "watchdog"), (0, u "Ljava/util/concurrent/ScheduledExecutorService;"), (2, u "SHORTEST_TICK"), (2, u "LONGEST_TICK"), (0, .long 4), (1, .methodref 115 159), (0, .nameAndType 118 160), (0, u "(JJ)J"), (0, .methodref 115 162), (0, .nameAndType 163 160), (0, u "max"), (13, .long 65536), (40, .class_ 219), (0, u "com/example/tsutsumi/tsutsumi/io/ServingThreads$Watch"), (105, u "NANOS_PER_SECOND"), (0, .class_ 327), (0, u "java/util/concurrent/Executor"), (0, .class_ 329), (0, u "java/lang/AutoCloseable"), (0, u "WAITING_BYTES"), (1, u "MOST_THREADS"), (1, u "HEAP_PER_BYTE"), (0, u "HEAP_PER_NODE"), (0, u "SMALLEST_NODE"), (0, u "IDLE_SECONDS"), (0, u "LONGEST_STALL"), (0, u "NOT_WAITING"), (2, u "STALLED"), (11, u "mostThreads"), (0, u "(J)I"), (17, .class_ 374), (0, u "com/example/tsutsumi/tsutsumi/io/ServingThreads$Watch$2"), (0, .class_ 376), (0, u "com/example/tsutsumi/tsutsumi/io/ServingThreads$Watch$1"), (0, .class_ 378), (0, u "com/example/tsutsumi/tsutsumi/io/ServingThreads$StallAnswer"), (0, .class_ 380), (0, u "com/example/tsutsumi/tsutsumi/io/ServingThreads$Transfer"), (0, .class_ 382), (0, u "com/example/tsutsumi/tsutsumi/io/ServingThreads$Call")] 40

def k4c0 : Code := { maxStack := 6, maxLocals := 4, code := prog_59_method_3_code, exceptionTable := #[], attributes := #[] }
def k4m0 : Method := { name := "mostThreads", desc := "(J)I", sig := { parameters := [.long], returnType := some .int }, accessFlags := 8, code := some k4c0 }
/-- com/example/tsutsumi/tsutsumi/io/ServingThreads -/
def k4 : Class := { plain "com/example/tsutsumi/tsutsumi/io/ServingThreads" (some 0) with
  accessFlags := 48
  interfaces := #[2, 3]
  cf := some (fileOf pool4 8 #[.nestMembers #[218, 373, 375, 25, 377, 379, 381]] #[{ accessFlags := 8, nameIndex := 354, descriptorIndex := 355, attributes := #[] }] 48 14 #[326, 328] #[{ accessFlags := 26, nameIndex := 113, descriptorIndex := 39, attributes := #[] }, { accessFlags := 24, nameIndex := 38, descriptorIndex := 39, attributes := #[] }, { accessFlags := 26, nameIndex := 330, descriptorIndex := 88, attributes := #[] }, { accessFlags := 24, nameIndex := 332, descriptorIndex := 39, attributes := #[] }, { accessFlags := 26, nameIndex := 334, descriptorIndex := 88, attributes := #[] }, { accessFlags := 26, nameIndex := 335, descriptorIndex := 88, attributes := #[] }, { accessFlags := 26, nameIndex := 336, descriptorIndex := 88, attributes := #[] }, { accessFlags := 26, nameIndex := 337, descriptorIndex := 88, attributes := #[] }, { accessFlags := 26, nameIndex := 152, descriptorIndex := 88, attributes := #[] }, { accessFlags := 26, nameIndex := 155, descriptorIndex := 88, attributes := #[] }, { accessFlags := 26, nameIndex := 325, descriptorIndex := 88, attributes := #[] }, { accessFlags := 26, nameIndex := 338, descriptorIndex := 88, attributes := #[] }, { accessFlags := 26, nameIndex := 339, descriptorIndex := 88, attributes := #[] }, { accessFlags := 26, nameIndex := 342, descriptorIndex := 88, attributes := #[] }, { accessFlags := 18, nameIndex := 68, descriptorIndex := 88, attributes := #[] }, { accessFlags := 18, nameIndex := 91, descriptorIndex := 88, attributes := #[] }, { accessFlags := 18, nameIndex := 96, descriptorIndex := 39, attributes := #[] }, { accessFlags := 18, nameIndex := 107, descriptorIndex := 108, attributes := #[] }, { accessFlags := 18, nameIndex := 23, descriptorIndex := 24, attributes := #[] }, { accessFlags := 18, nameIndex := 32, descriptorIndex := 33, attributes := #[] }, { accessFlags := 18, nameIndex := 137, descriptorIndex := 138, attributes := #[] }, { accessFlags := 18, nameIndex := 45, descriptorIndex := 46, attributes := #[] }, { accessFlags := 18, nameIndex := 148, descriptorIndex := 149, attributes := #[] }, { accessFlags := 18, nameIndex := 55, descriptorIndex := 56, attributes := #[] }, { accessFlags := 18, nameIndex := 62, descriptorIndex := 63, attributes := #[] }])
  fields := #[{ name := "CORE_THREADS", type := .int, accessFlags := 26, slot := 0, constantValue := 0 }, { name := "MOST_AT_WORK", type := .int, accessFlags := 24, slot := 1, constantValue := 0 }, { name := "WAITING_BYTES", type := .long, accessFlags := 26, slot := 2, constantValue := 0 }, { name := "MOST_THREADS", type := .int, accessFlags := 24, slot := 3, constantValue := 0 }, { name := "HEAP_PER_BYTE", type := .long, accessFlags := 26, slot := 4, constantValue := 0 }, { name := "HEAP_PER_NODE", type := .long, accessFlags := 26, slot := 5, constantValue := 0 }, { name := "SMALLEST_NODE", type := .long, accessFlags := 26, slot := 6, constantValue := 0 }, { name := "IDLE_SECONDS", type := .long, accessFlags := 26, slot := 7, constantValue := 0 }, { name := "SHORTEST_TICK", type := .long, accessFlags := 26, slot := 8, constantValue := 0 }, { name := "LONGEST_TICK", type := .long, accessFlags := 26, slot := 9, constantValue := 0 }, { name := "NANOS_PER_SECOND", type := .long, accessFlags := 26, slot := 10, constantValue := 0 }, { name := "LONGEST_STALL", type := .long, accessFlags := 26, slot := 11, constantValue := 0 }, { name := "NOT_WAITING", type := .long, accessFlags := 26, slot := 12, constantValue := 0 }, { name := "STALLED", type := .long, accessFlags := 26, slot := 13, constantValue := 0 }, { name := "maxStall", type := .long, accessFlags := 18, slot := 0, constantValue := 0 }, { name := "minBytesPerSecond", type := .long, accessFlags := 18, slot := 1, constantValue := 0 }, { name := "maxNodes", type := .int, accessFlags := 18, slot := 2, constantValue := 0 }, { name := "heap", type := (.object "com/example/tsutsumi/tsutsumi/io/HeapBudget"), accessFlags := 18, slot := 3, constantValue := 0 }, { name := "pending", type := (.object "java/util/concurrent/atomic/AtomicInteger"), accessFlags := 18, slot := 4, constantValue := 0 }, { name := "backlog", type := (.object "com/example/tsutsumi/tsutsumi/io/ServingThreads$Backlog"), accessFlags := 18, slot := 5, constantValue := 0 }, { name := "pool", type := (.object "java/util/concurrent/ThreadPoolExecutor"), accessFlags := 18, slot := 6, constantValue := 0 }, { name := "turns", type := (.object "java/util/concurrent/Semaphore"), accessFlags := 18, slot := 7, constantValue := 0 }, { name := "watchdog", type := (.object "java/util/concurrent/ScheduledExecutorService"), accessFlags := 18, slot := 8, constantValue := 0 }, { name := "watches", type := (.object "java/util/Set"), accessFlags := 18, slot := 9, constantValue := 0 }, { name := "current", type := (.object "java/lang/ThreadLocal"), accessFlags := 18, slot := 10, constantValue := 0 }]
  methods := #[k4m0]
  instanceTypes := #[.long, .long, .int, (.object "com/example/tsutsumi/tsutsumi/io/HeapBudget"), (.object "java/util/concurrent/atomic/AtomicInteger"), (.object "com/example/tsutsumi/tsutsumi/io/ServingThreads$Backlog"), (.object "java/util/concurrent/ThreadPoolExecutor"), (.object "java/util/concurrent/Semaphore"), (.object "java/util/concurrent/ScheduledExecutorService"), (.object "java/util/Set"), (.object "java/lang/ThreadLocal")]
  staticTypes := #[.int, .int, .long, .int, .long, .long, .long, .long, .long, .long, .long, .long, .long, .long]
  resolved := Array.replicate 423 none
  statics := some 0 }

def pool5 : Array CpInfo := pool [(1, .class_ 2), (0, u "java/lang/Math"), (1, .class_ 6), (1, u "java/lang/Object"), (0, u "<init>"), (0, u "()V"), (89, .class_ 100), (1, u "java/lang/Math$RandomNumberGeneratorHolder"), (20, u "(JJ)J"), (50, u "negativeZeroFloatBits"), (0, u "J"), (2, u "negativeZeroDoubleBits"), (21, u "max"), (2, u "min"), (43, u "$assertionsDisabled"), (0, u "Z"), (88, u "(II)I"), (2, u "twoToTheDoubleScaleDown"), (0, u "D"), (4, u "twoToTheDoubleScaleUp"), (9, u "E"), (3, u "PI"), (2, u "TAU"), (2, u "DEGREES_TO_RADIANS"), (0, u "RADIANS_TO_DEGREES")] 94

def k5m0 : Method := { name := "<init>", desc := "()V", sig := { parameters := [], returnType := none }, accessFlags := 2, code := none }
def k5c1 : Code := { maxStack := 2, maxLocals := 2, code := jdk_29_method_65_code, exceptionTable := #[], attributes := #[] }
def k5m1 : Method := { name := "max", desc := "(II)I", sig := { parameters := [.int, .int], returnType := some .int }, accessFlags := 9, code := some k5c1 }
def k5c2 : Code := { maxStack := 4, maxLocals := 4, code := jdk_29_method_66_code, exceptionTable := #[], attributes := #[] }
def k5m2 : Method := { name := "max", desc := "(JJ)J", sig := { parameters := [.long, .long], returnType := some .long }, accessFlags := 9, code := some k5c2 }
def k5c3 : Code := { maxStack := 4, maxLocals := 4, code := jdk_29_method_70_code, exceptionTable := #[], attributes := #[] }
def k5m3 : Method := { name := "min", desc := "(JJ)J", sig := { parameters := [.long, .long], returnType := some .long }, accessFlags := 9, code := some k5c3 }
/-- java/lang/Math -/
def k5 : Class := { plain "java/lang/Math" (some 0) with
  accessFlags := 49
  interfaces := #[]
  cf := some (fileOf pool5 1 #[.nestMembers #[98]] #[{ accessFlags := 2, nameIndex := 7, descriptorIndex := 8, attributes := #[] }, { accessFlags := 9, nameIndex := 198, descriptorIndex := 335, attributes := #[] }, { accessFlags := 9, nameIndex := 198, descriptorIndex := 121, attributes := #[] }, { accessFlags := 9, nameIndex := 201, descriptorIndex := 121, attributes := #[] }] 49 4 #[] #[{ accessFlags := 25, nameIndex := 354, descriptorIndex := 339, attributes := #[] }, { accessFlags := 25, nameIndex := 358, descriptorIndex := 339, attributes := #[] }, { accessFlags := 25, nameIndex := 361, descriptorIndex := 339, attributes := #[] }, { accessFlags := 26, nameIndex := 364, descriptorIndex := 339, attributes := #[] }, { accessFlags := 26, nameIndex := 365, descriptorIndex := 339, attributes := #[] }, { accessFlags := 26, nameIndex := 172, descriptorIndex := 173, attributes := #[] }, { accessFlags := 26, nameIndex := 176, descriptorIndex := 173, attributes := #[] }, { accessFlags := 8, nameIndex := 344, descriptorIndex := 339, attributes := #[] }, { accessFlags := 8, nameIndex := 338, descriptorIndex := 339, attributes := #[] }, { accessFlags := 4120, nameIndex := 245, descriptorIndex := 246, attributes := #[] }])
  fields := #[{ name := "E", type := .double, accessFlags := 25, slot := 0, constantValue := 0 }, { name := "PI", type := .double, accessFlags := 25, slot := 1, constantValue := 0 }, { name := "TAU", type := .double, accessFlags := 25, slot := 2, constantValue := 0 }, { name := "DEGREES_TO_RADIANS", type := .double, accessFlags := 26, slot := 3, constantValue := 0 }, { name := "RADIANS_TO_DEGREES", type := .double, accessFlags := 26, slot := 4, constantValue := 0 }, { name := "negativeZeroFloatBits", type := .long, accessFlags := 26, slot := 5, constantValue := 0 }, { name := "negativeZeroDoubleBits", type := .long, accessFlags := 26, slot := 6, constantValue := 0 }, { name := "twoToTheDoubleScaleUp", type := .double, accessFlags := 8, slot := 7, constantValue := 0 }, { name := "twoToTheDoubleScaleDown", type := .double, accessFlags := 8, slot := 8, constantValue := 0 }, { name := "$assertionsDisabled", type := .boolean, accessFlags := 4120, slot := 9, constantValue := 0 }]
  methods := #[k5m0, k5m1, k5m2, k5m3]
  instanceTypes := #[]
  staticTypes := #[.double, .double, .double, .double, .double, .long, .long, .double, .double, .boolean]
  resolved := Array.replicate 460 none
  statics := none }

def pool6 : Array CpInfo := pool [(1, u "java/lang/Cloneable"), (0, .class_ 1), (0, u "java/lang/Object"), (0, .class_ 3)] 3

/-- java/lang/Cloneable -/
def k6 : Class := { plain "java/lang/Cloneable" (some 0) with
  accessFlags := 1537
  interfaces := #[]
  cf := some (fileOf pool6 2 #[] #[] 1537 4 #[] #[])
  fields := #[]
  methods := #[]
  instanceTypes := #[]
  staticTypes := #[]
  resolved := Array.replicate 8 none
  statics := none }

def pool7 : Array CpInfo := pool [(1, u "java/io/Serializable"), (0, .class_ 1), (0, u "java/lang/Object"), (0, .class_ 3)] 3

/-- java/io/Serializable -/
def k7 : Class := { plain "java/io/Serializable" (some 0) with
  accessFlags := 1537
  interfaces := #[]
  cf := some (fileOf pool7 2 #[] #[] 1537 4 #[] #[])
  fields := #[]
  methods := #[]
  instanceTypes := #[]
  staticTypes := #[]
  resolved := Array.replicate 8 none
  statics := none }

/-- the primitive byte -/
def k8 : Class := { plain "byte" none with kind := .primitive 'B', accessFlags := 0x411 }
/-- [B -/
def k9 : Class := { plain "[B" (some 0) with kind := .array 8 .byte, interfaces := #[6, 7], accessFlags := 1041 }

/-- the primitive int -/
def k10 : Class := { plain "int" none with kind := .primitive 'I', accessFlags := 0x411 }
/-- [I -/
def k11 : Class := { plain "[I" (some 0) with kind := .array 10 .int, interfaces := #[6, 7], accessFlags := 1041 }

def heap : Heap := #[{ cls := 4, slots := #[.int 8, .int 256, .long 0, .int 0, .long 0, .long 0, .long 0, .long 0, .long 0, .long 0, .long 0, .long 0, .long 0, .long 0], vm := .statics 4 }]
def classes : Array Class := #[k0, k1, k2, k3, k4, k5, k6, k7, k8, k9, k10, k11]
def interned : List (Array UInt16 × Addr) := []
def slotsUsed : Nat := 14
def theMethod : MethodId := ⟨1, 1⟩
def args0 : Array Value := #[.long 5, .long 7]
def aboutOver (below : List Frame) : State where
  vm := { classes := classes, interned := interned.toArray }
  heap := heap
  slotsUsed := slotsUsed
  threads := #[{ frames := .invoking theMethod args0 :: below }]
def below0 : List Frame := [.native { method := ⟨0, 0⟩, args := #[] }]
def about1 : State := aboutOver below0
def p0 : Program := .bare "" "" ""
def e0 : Env := launch0.env 0 0 0
theorem w_frames : about1.frames = Frame.invoking theMethod args0 :: below0 := rfl
set_option maxRecDepth 65536 in
theorem w_args : argsFit about1.vm theMethod args0 = true := by decide +kernel
set_option maxRecDepth 65536 in
theorem w_heap : heapFits about1 = true := by decide +kernel
set_option maxRecDepth 65536 in
theorem w_runnable : about1.curStatus? = some .runnable := by decide +kernel
set_option maxRecDepth 65536 in
theorem w_alone : about1.alone = true := by decide +kernel
set_option maxRecDepth 65536 in
theorem w_named : about1.methodNamed? x = some theMethod := by decide +kernel
set_option maxRecDepth 65536 in
theorem w_hears : about1.hears theMethod below0 = true := by decide +kernel
set_option maxRecDepth 65536 in
theorem w_ripe : about1.ripe theMethod args0 below0 = true := by decide +kernel
theorem w_running : about1.status = .running := rfl
set_option maxRecDepth 65536 in
theorem w_room : about1.hasRoom e0.platform room_1 = true :=
  launch0.hasRoom_least _ room_1 (by decide +kernel) (by decide +kernel) (by decide +kernel) (by decide +kernel) (by decide +kernel) (by decide +kernel)
theorem allAtoms_all (ts : List Jvm.Cond) (a : Array Jvm.Value) (st : Jvm.State) : (allAtoms ts).before a st = ts.all (fun c => c.before a st) := by
  induction ts with
  | nil => rfl
  | cons c t ih =>
    show (Jvm.Cond.and c (allAtoms t)).before a st = _
    rw [Jvm.Cond.before_and, ih, List.all_cons]
def words1 : List Jvm.Cond := Jvm.Cond.code x code maxLocals ret :: tables_1
/-- a 'code' word, met by the world's own term for the bytes: nothing is compared byte by byte -/
theorem code_word {y : MethodName} {bytes : ByteArray} {mx : Nat} {rt : Option FieldType} {a : Array Value} {s : State} {m : MethodId} {meth : Method} {c : Code} (h1 : s.methodNamed? y = some m) (h2 : s.vm.method? m = some meth) (h3 : meth.code = some c) (h4 : c.code = bytes)
    (h5 : (c.maxLocals == mx && c.exceptionTable.isEmpty && decide (c.maxStack ≤ mostOperands) && decide (meth.sig.returnType = rt) && !meth.locks && decide (parseMethodDescriptor y.desc = some meth.sig)) = true) : (Jvm.Cond.code y bytes mx rt).before a s = true := by
  simp only [Bool.and_eq_true, beq_iff_eq, Bool.not_eq_true', decide_eq_true_eq] at h5
  obtain ⟨⟨⟨⟨⟨g1, g2⟩, g3⟩, g4⟩, g5⟩, g6⟩ := h5
  simp [Cond.before, Cond.holds, Cond.value, h1, h2, h3, h4, g1, g2, g3, g4, g5, g6]
def isCode : Jvm.Cond → Bool
  | .code _ _ _ _ => true
  | _ => false
theorem all_split {L : List Jvm.Cond} {P : Jvm.Cond → Bool} (h1 : L.all (fun c => isCode c || P c) = true) (h2 : ∀ c ∈ L.filter isCode, P c = true) : L.all P = true := by
  refine List.all_eq_true.mpr fun c hc => ?_
  have h := List.all_eq_true.mp h1 c hc
  rcases Bool.eq_false_or_eq_true (isCode c) with hi | hi
  · exact h2 c (List.mem_filter.mpr ⟨hc, hi⟩)
  · simpa [hi] using h
set_option maxRecDepth 65536 in
theorem w_c0 : (Jvm.Cond.code x code maxLocals ret).before args0 about1 = true := code_word (m := ⟨1, 1⟩) (meth := k1m1) (c := k1c1) (by decide +kernel) rfl rfl rfl (by decide +kernel)
set_option maxRecDepth 65536 in
theorem w_c1 : (Jvm.Cond.code ({ cls := "com/example/tsutsumi/tsutsumi/io/ServingThreads", name := "mostThreads", desc := "(J)I" } : Jvm.MethodName) prog_59_method_3_code (4 : Nat) (Option.some Jvm.ClassFile.FieldType.int)).before args0 about1 = true := code_word (m := ⟨4, 0⟩) (meth := k4m0) (c := k4c0) (by decide +kernel) rfl rfl rfl (by decide +kernel)
set_option maxRecDepth 65536 in
theorem w_c2 : (Jvm.Cond.code ({ cls := "java/lang/Math", name := "min", desc := "(JJ)J" } : Jvm.MethodName) jdk_29_method_70_code (4 : Nat) (Option.some Jvm.ClassFile.FieldType.long)).before args0 about1 = true := code_word (m := ⟨5, 3⟩) (meth := k5m3) (c := k5c3) (by decide +kernel) rfl rfl rfl (by decide +kernel)
set_option maxRecDepth 65536 in
theorem w_c3 : (Jvm.Cond.code ({ cls := "java/lang/Math", name := "max", desc := "(JJ)J" } : Jvm.MethodName) jdk_29_method_66_code (4 : Nat) (Option.some Jvm.ClassFile.FieldType.long)).before args0 about1 = true := code_word (m := ⟨5, 2⟩) (meth := k5m2) (c := k5c2) (by decide +kernel) rfl rfl rfl (by decide +kernel)
set_option maxRecDepth 65536 in
theorem w_c4 : (Jvm.Cond.code ({ cls := "java/lang/Math", name := "max", desc := "(II)I" } : Jvm.MethodName) jdk_29_method_65_code (2 : Nat) (Option.some Jvm.ClassFile.FieldType.int)).before args0 about1 = true := code_word (m := ⟨5, 1⟩) (meth := k5m1) (c := k5c1) (by decide +kernel) rfl rfl rfl (by decide +kernel)
set_option maxRecDepth 65536 in
theorem w_c5 : (Jvm.Cond.code ({ cls := "com/example/tsutsumi/tsutsumi/io/ServingThreadsMostThreadsPinLaw", name := "expected", desc := "(JI)I" } : Jvm.MethodName) method_3_code (5 : Nat) (Option.some Jvm.ClassFile.FieldType.int)).before args0 about1 = true := code_word (m := ⟨1, 2⟩) (meth := k1m2) (c := k1c2) (by decide +kernel) rfl rfl rfl (by decide +kernel)
def codes1 : List Jvm.Cond := [Jvm.Cond.code x code maxLocals ret, Jvm.Cond.code ({ cls := "com/example/tsutsumi/tsutsumi/io/ServingThreads", name := "mostThreads", desc := "(J)I" } : Jvm.MethodName) prog_59_method_3_code (4 : Nat) (Option.some Jvm.ClassFile.FieldType.int), Jvm.Cond.code ({ cls := "java/lang/Math", name := "min", desc := "(JJ)J" } : Jvm.MethodName) jdk_29_method_70_code (4 : Nat) (Option.some Jvm.ClassFile.FieldType.long), Jvm.Cond.code ({ cls := "java/lang/Math", name := "max", desc := "(JJ)J" } : Jvm.MethodName) jdk_29_method_66_code (4 : Nat) (Option.some Jvm.ClassFile.FieldType.long), Jvm.Cond.code ({ cls := "java/lang/Math", name := "max", desc := "(II)I" } : Jvm.MethodName) jdk_29_method_65_code (2 : Nat) (Option.some Jvm.ClassFile.FieldType.int), Jvm.Cond.code ({ cls := "com/example/tsutsumi/tsutsumi/io/ServingThreadsMostThreadsPinLaw", name := "expected", desc := "(JI)I" } : Jvm.MethodName) method_3_code (5 : Nat) (Option.some Jvm.ClassFile.FieldType.int)]
set_option maxRecDepth 65536 in
theorem codes_eq : words1.filter isCode = codes1 := rfl
theorem w_codes : ∀ c ∈ words1.filter isCode, c.before args0 about1 = true := by
  rw [codes_eq]
  intro c hc
  simp only [codes1, List.mem_cons, List.not_mem_nil, or_false] at hc
  rcases hc with rfl | rfl | rfl | rfl | rfl | rfl
  · exact w_c0
  · exact w_c1
  · exact w_c2
  · exact w_c3
  · exact w_c4
  · exact w_c5
set_option maxRecDepth 65536 in
theorem w_t1 : (words1.take 24).all (fun c => isCode c || c.before args0 about1) = true := by decide +kernel
set_option maxRecDepth 65536 in
theorem w_t2 : (words1.drop 24).all (fun c => isCode c || c.before args0 about1) = true := by decide +kernel
theorem w_tables : (allAtoms (Jvm.Cond.code x code maxLocals ret :: tables_1)).before args0 about1 = true := by
  rw [allAtoms_all]
  show words1.all (fun c => c.before args0 about1) = true
  refine all_split ?_ w_codes
  rw [← List.take_append_drop 24 words1, List.all_append, w_t1, w_t2]
  rfl
set_option maxRecDepth 65536 in
theorem w_case : (Jvm.Cond.and given_1 narrow_1).before args0 about1 = true := by decide +kernel
theorem w_applies : (headSpec (Jvm.Cond.code x code maxLocals ret :: tables_1) room_1).applies x e0.platform about1 = true :=
  (Spec.applies_iff w_frames).mpr ⟨w_running, w_runnable, w_alone, w_named, w_hears, w_ripe, w_room, w_tables⟩
theorem atStart : AtStart classFile x code maxLocals ret World_1 tables_1 room_1 Calls_1 rest_1 Pre_1 launch0 p0 e0 about1 theMethod args0 below0 :=
  ⟨lists_1, trivial, launch0.admits_env _ _ _, launch0.least_env, fairChoices_fair.cas, fairChoices_fair.clock, w_frames, w_args, w_heap, w_applies, trivial, trivial, w_case⟩
end start1
theorem witness_1 : WitnessClaimed_1 := ⟨start1.p0, start1.e0, start1.about1, start1.theMethod, start1.args0, start1.below0, start1.atStart⟩
end Jvm.Pilot.@@N@@
